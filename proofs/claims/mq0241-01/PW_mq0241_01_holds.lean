import PyProof.Rows.All
import Wide.All
import OpenK.AllK
import Wide.FinOn
import Flt.RightMore
import PySem.Challenge.RW_mq0241_01
set_option Elab.async false
local macro_rules | `(tactic| walk_at $s:str) => `(tactic| (first | k_extra $s | fail))
local macro_rules | `(tactic| k_all) => `(tactic| (first | k_extra "k_all" | fail))
section
open PySem PySem.W PyProof.Rows
namespace Mine
/-- the text without its plain constants: what the walk knows of the module -/
noncomputable def hd.view_39 : Program := PySem.W.view Challenge.rw_mq0241_01.row.prog [1, 2, 3, 4, 5, 6, 7, 8, 9, 10, 12, 15, 16, 17, 18, 19, 20]
/-- the left part of a head, from the plain opening on -/
theorem left_boot {p q : Program} {loose : List Str} {Xt : Shared → Bool} {α : Type} {Yf : Shared → α} {Ya : World → α} {N : Nat} {g0 : Bool} (e : opening p = plainProg p.main.scope.names) (hN : Nat.ble 600 N = true) (f : ∀ s, fenceModules? p s = some s)
    (h : ∀ w : World, (fun os => (topFrom treeTable p w N ⟨boot_heap w.params, Array.mk [], boot_drawn, boot_toks, os⟩).map (fun s => (openSeen q loose (importedModules p.main.body) Xt g0 s, Yf s))) = fun _ => some (openGood q loose, Ya w)) :
    LeftO p q loose Xt Yf Ya N g0 := fun w => by
  obtain ⟨⟨h0, gs, d, k, os⟩, e1, e2⟩ := Option.map_eq_some_iff.mp (boot_open e hN f w)
  obtain ⟨rfl, rfl, rfl, rfl⟩ : h0 = boot_heap w.params ∧ gs = Array.mk [] ∧ d = boot_drawn ∧ k = boot_toks := by simpa using e2
  unfold openEnds
  rw [e1]
  exact congrFun (h w) os
local macro_rules | `(tactic| o_head $H) => do
  let hw := Lean.mkIdent `hw
  let hc := Lean.mkIdent `hc
  `(tactic| (refine holds_open (q := hd.view_39) (loose := [Str.ofString "ONE_THIRD", Str.ofString "ONE_SIXTH", Str.ofString "TWO_THIRD", Str.ofString "_initial_missing", Str.ofString "reduce"]) (Xt := fun s => xlAt hd.view_39 [(Str.ofString "ONE_THIRD", WData.float 4599676419421066581), (Str.ofString "ONE_SIXTH", WData.float 4595172819793696085), (Str.ofString "TWO_THIRD", WData.float 4604180019048437077)] s && recOk (RowW.records Challenge.rw_mq0241_01.row.toRowW) s) (XP := XL hd.view_39 [(Str.ofString "ONE_THIRD", WData.float 4599676419421066581), (Str.ofString "ONE_SIXTH", WData.float 4595172819793696085), (Str.ofString "TWO_THIRD", WData.float 4604180019048437077)]) (Yf := Hook.obs $H) (Ya := Hook.val $H) (YP := Hook.says $H) (N := 1258) (left_boot (by kernel_rfl) (by decide) (fun _ => by kernel_rfl) (fun _ => by kernel_rfl)) (Hook.of $H) (Hook.keeps $H) (fun s e => xl_of s (Bool.and_eq_true_iff.mp e).1) XL.keeps (by rfl) (by rfl) (by rfl) (fun s e => recFacts_of (Bool.and_eq_true_iff.mp e).2) (by rfl) (by assumption) (by decide +kernel) ⟨rfl, rfl, rfl, rfl, rfl, by decide +kernel⟩ ?$hw ?$hc))
set_option maxRecDepth 100000 in
set_option maxHeartbeats 8000000 in
open_top hd for PySem.Challenge.rw_mq0241_01
end Mine
end
section
open PySem PySem.W PyProof.Rows PySem.Flt
set_option maxRecDepth 100000
namespace Mine
def ltF (x y : UInt64) : Bool := Float64.cmp x y == some .lt
def max3F (a b c : UInt64) : UInt64 := if ltF a b then (if ltF b c then c else b) else (if ltF a c then c else a)
def min3F (a b c : UInt64) : UInt64 := if ltF b a then (if ltF c b then c else b) else (if ltF c a then c else a)
def mod1 (x : UInt64) : UInt64 := (Float64.divmod x 4607182418800017408).snd
def eqF (x y : UInt64) : Bool := Float64.cmp x y == some .eq
def leF (x y : UInt64) : Bool := Float64.cmp x y == some .lt || Float64.cmp x y == some .eq
def hueF (M d r g b : UInt64) : UInt64 :=
  mod1 (Float64.div (if eqF r M = true then Float64.sub (Float64.div (Float64.sub M b) d) (Float64.div (Float64.sub M g) d)
    else if eqF g M = true then Float64.sub (Float64.add 4611686018427387904 (Float64.div (Float64.sub M r) d)) (Float64.div (Float64.sub M b) d)
    else Float64.sub (Float64.add 4616189618054758400 (Float64.div (Float64.sub M g) d)) (Float64.div (Float64.sub M r) d)) 4618441417868443648)
def rngF (r g b : UInt64) : UInt64 := Float64.sub (max3F r g b) (min3F r g b)
def sumF (r g b : UInt64) : UInt64 := Float64.add (max3F r g b) (min3F r g b)
def litF (r g b : UInt64) : UInt64 := Float64.div (sumF r g b) 4611686018427387904
def defF (r g b : UInt64) : UInt64 := Float64.sub (Float64.sub 4611686018427387904 (max3F r g b)) (min3F r g b)
/-- rgb_to_hsv -/
def hsvF (r g b : UInt64) : UInt64 × UInt64 × UInt64 :=
  if eqF (min3F r g b) (max3F r g b) = true then (0, 0, max3F r g b)
  else (hueF (max3F r g b) (rngF r g b) r g b, Float64.div (rngF r g b) (max3F r g b), max3F r g b)
def hsvOk (r g b : UInt64) : Prop := eqF (min3F r g b) (max3F r g b) = false → Float64.isZero (max3F r g b) = false ∧ Float64.isZero (rngF r g b) = false
/-- rgb_to_hls -/
def hlsF (r g b : UInt64) : UInt64 × UInt64 × UInt64 :=
  if eqF (min3F r g b) (max3F r g b) = true then (0, litF r g b, 0)
  else (hueF (max3F r g b) (rngF r g b) r g b, litF r g b, if leF (litF r g b) 4602678819172646912 = true then Float64.div (rngF r g b) (sumF r g b) else Float64.div (rngF r g b) (defF r g b))
def hlsOk (r g b : UInt64) : Prop := eqF (min3F r g b) (max3F r g b) = false → Float64.isZero (rngF r g b) = false ∧ (leF (litF r g b) 4602678819172646912 = true → Float64.isZero (sumF r g b) = false) ∧ (leF (litF r g b) 4602678819172646912 = false → Float64.isZero (defF r g b) = false)
/-- hsv_to_rgb -/
def sexF (h : UInt64) : Int := toInt Float64.truncOf (Float64.mul h 4618441417868443648)
def fraF (h : UInt64) : UInt64 := Float64.sub (Float64.mul h 4618441417868443648) (Float64.ofInt (sexF h))
def pF (s v : UInt64) : UInt64 := Float64.mul v (Float64.sub 4607182418800017408 s)
def qF (h s v : UInt64) : UInt64 := Float64.mul v (Float64.sub 4607182418800017408 (Float64.mul s (fraF h)))
def tF (h s v : UInt64) : UInt64 := Float64.mul v (Float64.sub 4607182418800017408 (Float64.mul s (Float64.sub 4607182418800017408 (fraF h))))
def rgbOfHsv (h s v : UInt64) : UInt64 × UInt64 × UInt64 :=
  if eqF s 0 = true then (v, v, v)
  else if (sexF h).fmod 6 = 0 then (v, tF h s v, pF s v)
  else if (sexF h).fmod 6 = 1 then (qF h s v, v, pF s v)
  else if (sexF h).fmod 6 = 2 then (pF s v, v, tF h s v)
  else if (sexF h).fmod 6 = 3 then (pF s v, qF h s v, v)
  else if (sexF h).fmod 6 = 4 then (tF h s v, pF s v, v)
  else (v, pF s v, qF h s v)
def rgbOfHsvOk (h s : UInt64) : Prop := eqF s 0 = false → Float64.isFinite (Float64.mul h 4618441417868443648) = true ∧ (sexF h).natAbs < 2 ^ 1024 - 2 ^ 970
/-- _v -/
def vF (m1 m2 hue : UInt64) : UInt64 :=
  if ltF (mod1 hue) 4595172819793696085 = true then Float64.add m1 (Float64.mul (Float64.mul (Float64.sub m2 m1) (mod1 hue)) 4618441417868443648)
  else if ltF (mod1 hue) 4602678819172646912 = true then m2
  else if ltF (mod1 hue) 4604180019048437077 = true then Float64.add m1 (Float64.mul (Float64.mul (Float64.sub m2 m1) (Float64.sub 4604180019048437077 (mod1 hue))) 4618441417868443648)
  else m1
/-- hls_to_rgb -/
def m2F (l s : UInt64) : UInt64 := if leF l 4602678819172646912 = true then Float64.mul l (Float64.add 4607182418800017408 s) else Float64.sub (Float64.add l s) (Float64.mul l s)
def m1F (l s : UInt64) : UInt64 := Float64.sub (Float64.mul 4611686018427387904 l) (m2F l s)
def rgbOfHls (h l s : UInt64) : UInt64 × UInt64 × UInt64 :=
  if eqF s 0 = true then (l, l, l)
  else (vF (m1F l s) (m2F l s) (Float64.add h 4599676419421066581), vF (m1F l s) (m2F l s) h, vF (m1F l s) (m2F l s) (Float64.sub h 4599676419421066581))
/-- rgb_to_yiq -/
def lumF (r g b : UInt64) : UInt64 := Float64.add (Float64.add (Float64.mul 4599075939470750515 r) (Float64.mul 4603489467105573601 g)) (Float64.mul 4592590756007337001 b)
def yiqF (r g b : UInt64) : UInt64 × UInt64 × UInt64 :=
  (lumF r g b, Float64.sub (Float64.mul 4604840546993784750 (Float64.sub r (lumF r g b))) (Float64.mul 4598535507515466056 (Float64.sub b (lumF r g b))),
    Float64.add (Float64.mul 4602318531202457272 (Float64.sub r (lumF r g b))) (Float64.mul 4601057523306793533 (Float64.sub b (lumF r g b))))
/-- yiq_to_rgb -/
def pick (c : Bool) (v a : UInt64) : UInt64 := if c = true then v else a
def clip0 (x : UInt64) : UInt64 := pick (Float64.cmp x 0 == some .lt) 0 x
def clip1 (x : UInt64) : UInt64 := pick (Float64.cmp x 4607182418800017408 == some .gt) 4607182418800017408 x
def rgbOfYiq (y i q : UInt64) : UInt64 × UInt64 × UInt64 :=
  (clip1 (clip0 (Float64.add (Float64.add y (Float64.mul 4606703976345377586 i)) (Float64.mul 4603791717925830846 q))),
   clip1 (clip0 (Float64.sub (Float64.sub y (Float64.mul 4598621754083818298 i)) (Float64.mul 4603901015759978483 q))),
   clip1 (clip0 (Float64.add (Float64.sub y (Float64.mul 4607671262177584182 i)) (Float64.mul 4610375502138591871 q))))
/-- _law_moved -/
def kdiv (k n : Int) : UInt64 := Float64.ofFrac (decide (k < 0) != decide (n < 0)) k.natAbs n.natAbs
def movedF (kind k : Int) (r g b : UInt64) : UInt64 × UInt64 × UInt64 :=
  if kind = 0 then rgbOfHsv (Float64.add (hsvF r g b).1 (kdiv k 6)) (hsvF r g b).2.1 (hsvF r g b).2.2
  else if kind = 1 then rgbOfHls (Float64.sub (hlsF r g b).1 (kdiv k 6)) (hlsF r g b).2.1 (hlsF r g b).2.2
  else if kind = 2 then rgbOfHsv (hsvF r g b).1 (Float64.div (hsvF r g b).2.1 (Float64.ofInt 2)) (hsvF r g b).2.2
  else if kind = 3 then rgbOfHsv (hsvF r g b).1 (hsvF r g b).2.1 (Float64.div (hsvF r g b).2.2 (Float64.ofInt 2))
  else if kind = 4 then rgbOfHls (hlsF r g b).1 (Float64.sub (Float64.ofInt 1) (hlsF r g b).2.1) (hlsF r g b).2.2
  else if kind = 5 then rgbOfHls (hlsF r g b).1 (hlsF r g b).2.1 (Float64.div (hlsF r g b).2.2 (Float64.ofInt 2))
  else if kind = 6 then rgbOfYiq (Float64.add (yiqF r g b).1 (kdiv k 8)) (yiqF r g b).2.1 (yiqF r g b).2.2
  else rgbOfYiq (Float64.sub (yiqF r g b).1 (kdiv k 8)) (yiqF r g b).2.1 (yiqF r g b).2.2
/-- _law_due -/
def max3I (a b c : Int) : Int := if b > a then (if c > b then c else b) else (if c > a then c else a)
def min3I (a b c : Int) : Int := if b < a then (if c < b then c else b) else (if c < a then c else a)
def rotI (S : Int) : Nat → Int × Int × Int → Int × Int × Int
  | 0, p => p
  | n + 1, p => (S - (rotI S n p).2.1, S - (rotI S n p).2.2, S - (rotI S n p).1)
def cutHi (p y : Int) : Int := if y < p then y else p
def cutLo (y : Int) : Int := if y > 0 then y else 0
def dueI (kind k P x1 x2 x3 : Int) : Int × Int × Int × Int :=
  if kind < 2 then (4 * P, rotI (max3I (4 * x1) (4 * x2) (4 * x3) + min3I (4 * x1) (4 * x2) (4 * x3)) (if kind = 0 then k else 6 - k).toNat (4 * x1, 4 * x2, 4 * x3))
  else if kind = 2 then (4 * P, (max3I (4 * x1) (4 * x2) (4 * x3) + 4 * x1).fdiv 2, (max3I (4 * x1) (4 * x2) (4 * x3) + 4 * x2).fdiv 2, (max3I (4 * x1) (4 * x2) (4 * x3) + 4 * x3).fdiv 2)
  else if kind = 3 then (4 * P, (4 * x1).fdiv 2, (4 * x2).fdiv 2, (4 * x3).fdiv 2)
  else if kind = 4 then (4 * P, 4 * P - max3I (4 * x1) (4 * x2) (4 * x3) - min3I (4 * x1) (4 * x2) (4 * x3) + 4 * x1, 4 * P - max3I (4 * x1) (4 * x2) (4 * x3) - min3I (4 * x1) (4 * x2) (4 * x3) + 4 * x2, 4 * P - max3I (4 * x1) (4 * x2) (4 * x3) - min3I (4 * x1) (4 * x2) (4 * x3) + 4 * x3)
  else if kind = 5 then (4 * P, (max3I (4 * x1) (4 * x2) (4 * x3) + min3I (4 * x1) (4 * x2) (4 * x3) + 2 * (4 * x1)).fdiv 4, (max3I (4 * x1) (4 * x2) (4 * x3) + min3I (4 * x1) (4 * x2) (4 * x3) + 2 * (4 * x2)).fdiv 4, (max3I (4 * x1) (4 * x2) (4 * x3) + min3I (4 * x1) (4 * x2) (4 * x3) + 2 * (4 * x3)).fdiv 4)
  else if kind = 6 then (4 * P, cutHi (4 * P) (4 * x1 + (k * (4 * P)).fdiv 8), cutHi (4 * P) (4 * x2 + (k * (4 * P)).fdiv 8), cutHi (4 * P) (4 * x3 + (k * (4 * P)).fdiv 8))
  else (4 * P, cutLo (4 * x1 - (k * (4 * P)).fdiv 8), cutLo (4 * x2 - (k * (4 * P)).fdiv 8), cutLo (4 * x3 - (k * (4 * P)).fdiv 8))
structure MovedOk (k : Int) (r g b : UInt64) : Prop where
  hsv : hsvOk r g b
  hls : hlsOk r g b
  turn : rgbOfHsvOk (Float64.add (hsvF r g b).1 (kdiv k 6)) (hsvF r g b).2.1
  pale : rgbOfHsvOk (hsvF r g b).1 (Float64.div (hsvF r g b).2.1 (Float64.ofInt 2))
  dark : rgbOfHsvOk (hsvF r g b).1 (hsvF r g b).2.1
end Mine
end
section
open PySem PySem.W PyProof.Rows PySem.Flt
set_option maxRecDepth 100000
namespace Mine
noncomputable abbrev PR : Program := Challenge.rw_mq0241_01.row.prog
noncomputable abbrev LS0 : List Str := looseW hd.view_39 [Str.ofString "ONE_THIRD", Str.ofString "ONE_SIXTH", Str.ofString "TWO_THIRD", Str.ofString "_initial_missing", Str.ofString "reduce"]
noncomputable abbrev LS : List Str := LS0 ++ List.map (fun x => x.name) (recsOf hd.view_39) ++ List.map (fun x => x.fst) (litsOf hd.view_39) ++ List.map (fun x => x.name) (clssOf hd.view_39 LS0)

section
variable {prog : Program} {w : World} {A : Around} {E : Value → Shared → Prop} {s : Shared} {Q : Value → Shared → Prop} {h₀ : Heap} {L : Addr} {m : Str → Option Value} {news : List (Addr × Obj)}
def max3V (a b c : Value) : Value := if ltV a b then (if ltV b c then c else b) else (if ltV a c then c else a)
def min3V (a b c : Value) : Value := if ltV b a then (if ltV c b then c else b) else (if ltV c a then c else a)
theorem max_three_num {a b c : Value} (hh : A.handled = none) (ha : NumV a) (hb : NumV b) (hc : NumV c)
    (h : ∀ h' tk, (∀ d o, s.heap.get? d = some o → h'.get? d = some o) → Q (max3V a b c) { s with heap := h', toks := tk }) :
    wpAny (model prog w) A (call (.builtin "max") [a, b, c]) Q E s := by
  have hT : (s.heap.push { cls := .type "tuple", data := .seq #[a, b, c] }).IsTuple s.heap.objs.size #[a, b, c] := ⟨_, Heap.get?_push_size _ rfl, rfl, 0, rfl⟩
  refine call_max_three (wpAny_pyIter_tuple hT ?_)
  have hsz : (s.heap.push { cls := .type "tuple", data := .seq #[a, b, c] }).objs.size = s.heap.objs.size + 1 := Heap.size_push ..
  refine ⟨_, [_, s.heap.objs.size], [_], _, _, _, _, rfl, Walks.tuple (A := A.in1) hh _ s.heap.objs.size (by rw [hsz]; exact Nat.ne_of_lt (Nat.lt_succ_self _)) #[a, b, c],
    ⟨⟨_, Heap.get?_push_size _ rfl, rfl, rfl⟩, hT.push _⟩, fun d hd => ?_, by simp, cmpOf_gt #[a, b, c] (by simp [ha, hb, hc]), fun v h' tk hP hk => ?_⟩
  · show d < ((s.heap.push _).push _).objs.size
    rw [Heap.size_push, hsz]
    rcases List.mem_cons.mp hd with rfl | hd
    · rw [hsz]; exact Nat.lt_succ_self _
    · rcases List.mem_cons.mp hd with rfl | hd
      · exact Nat.lt_succ_of_lt (Nat.lt_succ_self _)
      · cases hd
  · have hold : ∀ d o, s.heap.get? d = some o → h'.get? d = some o := fun d o e => by
      refine hk d o (fun hm => ?_) (Heap.get?_push_of_some _ (Heap.get?_push_of_some _ e))
      rcases List.mem_cons.mp hm with e1 | hm
      · have := Heap.lt_size e; rw [e1, hsz] at this; exact Nat.lt_irrefl _ (Nat.lt_of_succ_lt this)
      · cases hm
    have := h h' tk hold
    have hv : v = max3V a b c := by
      unfold max3V
      cases h1 : ltV a b <;> cases h2 : ltV b c <;> cases h3 : ltV a c <;> simp [argBest, h1, h2, h3] at hP <;> simp [hP]
    rw [hv]; exact this
theorem min_three_num {a b c : Value} (hh : A.handled = none) (ha : NumV a) (hb : NumV b) (hc : NumV c)
    (h : ∀ h' tk, (∀ d o, s.heap.get? d = some o → h'.get? d = some o) → Q (min3V a b c) { s with heap := h', toks := tk }) :
    wpAny (model prog w) A (call (.builtin "min") [a, b, c]) Q E s := by
  have hT : (s.heap.push { cls := .type "tuple", data := .seq #[a, b, c] }).IsTuple s.heap.objs.size #[a, b, c] := ⟨_, Heap.get?_push_size _ rfl, rfl, 0, rfl⟩
  refine call_min_three (wpAny_pyIter_tuple hT ?_)
  have hsz : (s.heap.push { cls := .type "tuple", data := .seq #[a, b, c] }).objs.size = s.heap.objs.size + 1 := Heap.size_push ..
  refine ⟨_, [_, s.heap.objs.size], [_], _, _, _, _, rfl, Walks.tuple (A := A.in1) hh _ s.heap.objs.size (by rw [hsz]; exact Nat.ne_of_lt (Nat.lt_succ_self _)) #[a, b, c],
    ⟨⟨_, Heap.get?_push_size _ rfl, rfl, rfl⟩, hT.push _⟩, fun d hd => ?_, by simp, cmpOf_lt #[a, b, c] (by simp [ha, hb, hc]), fun v h' tk hP hk => ?_⟩
  · show d < ((s.heap.push _).push _).objs.size
    rw [Heap.size_push, hsz]
    rcases List.mem_cons.mp hd with rfl | hd
    · rw [hsz]; exact Nat.lt_succ_self _
    · rcases List.mem_cons.mp hd with rfl | hd
      · exact Nat.lt_succ_of_lt (Nat.lt_succ_self _)
      · cases hd
  · have hold : ∀ d o, s.heap.get? d = some o → h'.get? d = some o := fun d o e => by
      refine hk d o (fun hm => ?_) (Heap.get?_push_of_some _ (Heap.get?_push_of_some _ e))
      rcases List.mem_cons.mp hm with e1 | hm
      · have := Heap.lt_size e; rw [e1, hsz] at this; exact Nat.lt_irrefl _ (Nat.lt_of_succ_lt this)
      · cases hm
    have := h h' tk hold
    have hv : v = min3V a b c := by
      unfold min3V
      cases h1 : ltV b a <;> cases h2 : ltV c b <;> cases h3 : ltV c a <;> simp [argBest, h1, h2, h3] at hP <;> simp [hP]
    rw [hv]; exact this




theorem ltV_ff (x y : UInt64) (t u : Tok) : ltV (.float x t) (.float y u) = ltF x y := rfl
theorem max_three_ff {x y z : UInt64} {t u v : Tok} (hh : A.handled = none) (F : Fr h₀ L s.heap m) (N : News h₀ L s.heap news)
    (h : ∀ h' tk k, Fr h₀ L h' m → News h₀ L h' news → Q (.float (max3F x y z) k) { s with heap := h', toks := tk }) :
    wpAny (model prog w) A (call (.builtin "max") [.float x t, .float y u, .float z v]) Q E s :=
  max_three_num hh (.float x t) (.float y u) (.float z v) fun h' tk kp => by
    have h2 := fun k => h h' tk k (F.grownK kp) (N.grown kp)
    have e : ∃ k, max3V (.float x t) (.float y u) (.float z v) = .float (max3F x y z) k := by
      unfold max3V max3F
      simp only [ltV_ff]
      by_cases c1 : ltF x y = true <;> by_cases c2 : ltF y z = true <;> by_cases c3 : ltF x z = true <;> simp only [c1, c2, c3, if_true, if_false, Bool.false_eq_true] <;> exact ⟨_, rfl⟩
    obtain ⟨k, e⟩ := e
    rw [e]
    exact h2 k
theorem min_three_ff {x y z : UInt64} {t u v : Tok} (hh : A.handled = none) (F : Fr h₀ L s.heap m) (N : News h₀ L s.heap news)
    (h : ∀ h' tk k, Fr h₀ L h' m → News h₀ L h' news → Q (.float (min3F x y z) k) { s with heap := h', toks := tk }) :
    wpAny (model prog w) A (call (.builtin "min") [.float x t, .float y u, .float z v]) Q E s :=
  min_three_num hh (.float x t) (.float y u) (.float z v) fun h' tk kp => by
    have h2 := fun k => h h' tk k (F.grownK kp) (N.grown kp)
    have e : ∃ k, min3V (.float x t) (.float y u) (.float z v) = .float (min3F x y z) k := by
      unfold min3V min3F
      simp only [ltV_ff]
      by_cases c1 : ltF y x = true <;> by_cases c2 : ltF z y = true <;> by_cases c3 : ltF z x = true <;> simp only [c1, c2, c3, if_true, if_false, Bool.false_eq_true] <;> exact ⟨_, rfl⟩
    obtain ⟨k, e⟩ := e
    rw [e]
    exact h2 k
theorem max_three_ii {x y z : Int} {t u v : Tok} (hh : A.handled = none) (F : Fr h₀ L s.heap m) (N : News h₀ L s.heap news)
    (h : ∀ h' tk k, Fr h₀ L h' m → News h₀ L h' news → Q (.int (max3I x y z) k) { s with heap := h', toks := tk }) :
    wpAny (model prog w) A (call (.builtin "max") [.int x t, .int y u, .int z v]) Q E s :=
  max_three_ints hh fun h' tk kp => by
    have h2 := fun k => h h' tk k (F.grownK kp) (N.grown kp)
    unfold max3I at h2
    by_cases c1 : y > x <;> by_cases c2 : z > y <;> by_cases c3 : z > x <;> simp only [c1, c2, c3, if_true, if_false] at h2 ⊢ <;> exact h2 _
theorem min_three_ii {x y z : Int} {t u v : Tok} (hh : A.handled = none) (F : Fr h₀ L s.heap m) (N : News h₀ L s.heap news)
    (h : ∀ h' tk k, Fr h₀ L h' m → News h₀ L h' news → Q (.int (min3I x y z) k) { s with heap := h', toks := tk }) :
    wpAny (model prog w) A (call (.builtin "min") [.int x t, .int y u, .int z v]) Q E s :=
  min_three_ints hh fun h' tk kp => by
    have h2 := fun k => h h' tk k (F.grownK kp) (N.grown kp)
    unfold min3I at h2
    by_cases c1 : y < x <;> by_cases c2 : z < y <;> by_cases c3 : z < x <;> simp only [c1, c2, c3, if_true, if_false] at h2 ⊢ <;> exact h2 _
end
/-- a contract's end without its equation: what a caller goes on with is said once -/
theorem ret3 {P : Addr → UInt64 → UInt64 → UInt64 → Tok → Tok → Tok → Heap → Nat → Prop} {t : UInt64 × UInt64 × UInt64} (h : ∀ (D : Addr) (k1 k2 k3 : Tok) (h' : Heap) (tk' : Nat), P D t.1 t.2.1 t.2.2 k1 k2 k3 h' tk') :
    ∀ (D : Addr) (x y z : UInt64) (k1 k2 k3 : Tok) (h' : Heap) (tk' : Nat), (x, y, z) = t → P D x y z k1 k2 k3 h' tk' := by
  intro D x y z k1 k2 k3 h' tk' e
  subst e
  exact h D k1 k2 k3 h' tk'
theorem ret1 {P : UInt64 → Tok → Heap → Nat → Prop} {t : UInt64} (h : ∀ (k1 : Tok) (h' : Heap) (tk' : Nat), P t k1 h' tk') : ∀ (x : UInt64) (k1 : Tok) (h' : Heap) (tk' : Nat), x = t → P x k1 h' tk' := by
  intro x k1 h' tk' e
  subst e
  exact h k1 h' tk'
end Mine
end
section
open PySem PySem.W PyProof.Rows PySem.Flt
set_option maxRecDepth 100000
namespace Mine
/-- the parts of a def -/
def fnDef : Stmt → Arguments × List Stmt × Scope
  | .FunctionDef _ a b _ _ _ sc _ _ _ => (a, b, sc)
  | _ => default
noncomputable def doneD : Arguments × List Stmt × Scope := fnDef ((fnDef (PR.main.body.getD 17 default)).2.1.getD 0 default)
noncomputable def doneA : Arguments := doneD.1
noncomputable def doneB : List Stmt := doneD.2.1
noncomputable def doneS : Scope := doneD.2.2
def doneN : Str := Str.ofString "_law_done"
def doneQ : Str := Str.ofString "_law_deed.<locals>._law_done"
noncomputable abbrev doneObj (a1 a2 : Addr) (doc pm : Value) (c' : Addr) (ctv : Value) : Obj := fnMade doneN doneQ doneA doneB doneS [(Str.ofString "kind", a1), (Str.ofString "k", a2)] doc pm c' ctv
theorem news_front {h₀ h : Heap} {L a : Addr} {o : Obj} {news : List (Addr × Obj)} (N : News h₀ L h news) (hm : (a, o) ∈ news) : News h₀ L h ((a, o) :: news) := by
  intro p hp
  rcases List.mem_cons.mp hp with e | hp
  · rw [e]; exact N _ hm
  · exact N p hp
theorem ne_all {D c : Nat} {l : List (Addr × Obj)} (h : AllLt D l) (hd : D ≤ c) : ∀ p ∈ l, p.1 ≠ c := by
  induction l with
  | nil => exact fun _ h => nomatch h
  | cons q r ih => exact List.forall_mem_cons.mpr ⟨Nat.ne_of_lt (Nat.lt_of_lt_of_le h.1 hd), ih h.2⟩
end Mine
end
section
open PySem PySem.W PyProof.Rows PySem.Flt PySem.Calls PySem.Spec
set_option maxRecDepth 100000
namespace Mine
section
variable {M : Model} {A : Around} {E : Value → Shared → Prop} {s : Shared}
theorem newEnv_cc {scope : Scope} {globals : Addr} {cl : List (Str × Addr)} {x : Str} {v : Value} {qual : Str} {func : Option Addr} {code : Value} {builtins : Addr} {Q : Env → Shared → Prop}
    (hk : scope.kind = .function) (hx : scope.names.lookup x = some .local)
    (hQ : ∀ h', h'.Ns s.heap.objs.size (fun y => if y = x then some v else none) → (∀ b o, b ≠ s.heap.objs.size → (pushCells (s.heap.push { cls := .type "frame", data := .dict #[] }) scope.names).get? b = some o → h'.get? b = some o) →
      Q (newEnv scope s.heap.objs.size globals (cellsFrom (s.heap.objs.size + 1) scope.names cl) qual func code none builtins) { s with heap := h', toks := s.toks + 1 }) :
    wpAny M A (newFunctionEnv scope globals cl [(x, v)] qual func code none builtins) Q E s := by
  simp only [newFunctionEnv, Option.isSome_none, Bool.false_eq_true, if_false]
  refine wpAny_bind (wpAny_alloc ?_)
  refine wpAny_bind (wpAny_layCells _ (fun name kind cells => by cases hkc : kind == NameKind.cell <;> simp [hkc]) _ _ _ _ ?_)
  rw [show ({ s with heap := s.heap.push { cls := .type "frame", data := .dict #[] } } : Shared).heap.objs.size = s.heap.objs.size + 1 from Heap.size_push ..]
  refine wpAny_bind ?_
  rw [List.forIn_cons]
  refine wpAny_bind (wpAny_bind (wpAny_storeName_local (env := newEnv scope s.heap.objs.size globals (cellsFrom (s.heap.objs.size + 1) scope.names cl) qual func code none builtins) (m := fun _ => none) hx
    ((Heap.Ns.new s.heap (.type "frame")).keeps (pushCells_keeps _ _)) (fun h' hn hs => wpAny_pure ?_) (by show (scope.kind == .class || (scope.kind == .module && _)) = false; rw [hk]; rfl)))
  refine ?_
  simp only [List.forIn_nil]
  refine wpAny_pure (wpAny_pure (hQ h' hn (fun b o hb e => (hs.2 b hb).trans e)))
end
section
variable {prog : Program} {w : World} {A₀ A : Around} {s : Shared} {base h₀ : Heap} {outer : List Env} {L : Addr} {m : Str → Option Value} {env : Env} {news : List (Addr × Obj)}
  {R : Result → Shared → Prop} {name qual : Str} {params : Arguments} {body : List Stmt} {scope : Scope} {cl : List (Str × Addr)} {dV kV doc pm cdv ct : Value} {an : Option Addr} {fo : Obj} {f : Addr} {args : Args} {x px : Str} {v : Value}
abbrev cell0 : Obj := { cls := .type "cell", data := .cell none }
/-- a def that closes over names and has one cell of its own -/
theorem callX_cc (B : Below A₀ base outer h₀) (F : Fr h₀ L s.heap m) (N : News h₀ L s.heap news) (hlim : h₀.NoLimit) (hA : A.frames = some (env :: outer)) (hf : env.frame = some L) (hke : env.scope.kind = .function)
    (ho : s.heap.get? f = some fo) (hd : fo.data = .func (fnX name qual params body scope cl dV kV doc pm an cdv ct)) (hcd : s.heap.CodeRec cdv qual) (hroom : A.depth < recursionLimit)
    (hbind : BindsTo s (fnX name qual params body scope cl dV kV doc pm an cdv ct) args [(x, v)]) (hx : scope.names.lookup x = some .local)
    (hone : ∀ h : Heap, pushCells h scope.names = h.push cell0) (hcf : ∀ n, cellsFrom n scope.names cl = (px, n) :: cl)
    (h : ∀ g L' h₁, Fr h₀ L g m → Fr g L' h₁ (fun y => if y = x then some v else none) → News g L' h₁ ((L' + 1, cell0) :: news) → Below A base (env :: outer) g → h₀.StaysIn g → (∀ p ∈ news, p.1 < L') →
      wpAny (model prog w) (A.deeper (envX qual scope L' f cdv ((px, L' + 1) :: cl))) (execs body (envX qual scope L' f cdv ((px, L' + 1) :: cl)))
        (fun fl s' => LeaveK h₀ L m g R (match fl with | .ret v => v | _ => .none) s')
        (fun e s' => wpAny (model prog w) (A.deeper (envX qual scope L' f cdv ((px, L' + 1) :: cl))) (leaving (envX qual scope L' f cdv ((px, L' + 1) :: cl)) e) (fun _ s'' => R (.error e) s'') (fun e' s'' => R (.error e') s'') s')
        { s with heap := h₁, toks := s.toks + 1 })
    (hco : scope.isCoroutine = false) (hgen : scope.isGenerator = false) (hk : scope.kind = .function) : codeAny (model prog w) A (.call (.ref f) args) R s := by
  obtain ⟨FG, BG, st, lv⟩ := groundX (R := R) B F N hA hf hke
  refine codeAny_call_function hroom ho hd hco hgen rfl hcd (hbind _ _ _ _ ?_)
  refine newEnv_cc hk hx fun h₁ hns hkp => ?_
  rw [hone] at hkp
  have hsz : (s.heap.push { cls := .type "frame", data := .dict #[] }).objs.size = s.heap.objs.size + 1 := Heap.size_push ..
  have hk₁ : ∀ b o, s.heap.get? b = some o → h₁.get? b = some o := fun b o e =>
    hkp b o (Nat.ne_of_lt (Heap.lt_size e)) (Heap.get?_push_of_some _ (Heap.get?_push_of_some _ e))
  have hcell : h₁.get? (s.heap.objs.size + 1) = some cell0 := hkp _ _ (Nat.ne_of_gt (Nat.lt_succ_self _)) (by
    have := Heap.get?_push_size (s.heap.push { cls := .type "frame", data := .dict #[] }) (o := cell0) rfl
    rwa [hsz] at this)
  refine ⟨(hlim.keeps F.keep).keeps hk₁, codeAny_func ?_⟩
  have hh := h _ s.heap.objs.size h₁ FG ⟨hns, fun b o e => hk₁ b o (of_hideAll _ e), Nat.le_of_eq (hideAll_size _ _)⟩ (fun p hp => ?_) BG st (fun p hp => Heap.lt_size (N p hp).1)
  · rw [hcf]
    exact wpAny_mono hh (fun fl s' hl => lv _ _ hl) fun _ _ y => y
  · rcases List.mem_cons.mp hp with e | hp
    · rw [e]
      refine ⟨hcell, Nat.ne_of_gt (Nat.lt_succ_self _), ?_⟩
      cases q : (hideAll s.heap (news.map (·.1))).get? (s.heap.objs.size + 1) with
      | none => rfl
      | some o => exact absurd (Heap.lt_size (of_hideAll _ q)) (Nat.not_lt.mpr (Nat.le_succ _))
    · exact ⟨hk₁ _ _ (N p hp).1, Nat.ne_of_lt (Heap.lt_size (N p hp).1), hideAll_none _ (List.mem_map_of_mem hp)⟩
end
end Mine
end
section
open PySem PySem.W PyProof.Rows PySem.Flt PySem.Calls PySem.Spec
set_option maxRecDepth 100000
namespace Mine
/-- a turn of a comprehension that leaves one new object at the ledger's head -/
theorem comp_more {h₀ : Heap} {L I C D l : Addr} {m : Str → Option Value} {s₁ : Shared} {oI oC oD o : Obj} {S : List (Addr × Obj) → Prop} {rest : Value → List (Addr × Obj) → Prop} {y : Value} {h' : Heap} {tk : Nat} {news : List (Addr × Obj)}
    (F : Fr h₀ L h' m) (N : News h₀ L h' ((l, o) :: (I, oI) :: (C, oC) :: (D, oD) :: news)) (lt : ∀ p ∈ (I, oI) :: (C, oC) :: (D, oD) :: news, p.1 < l) (off : LCg.Off3 I C D news)
    (hS : S ((l, o) :: news)) (r : rest y ((l, o) :: news)) : LCg.CompEnd h₀ L m s₁ I oI C oC D oD S rest y { s₁ with heap := h', toks := tk } := by
  refine LCg.CompEnd.intro F N ((l, o) :: news) ?_ ?_ hS r
  · intro p hp
    rcases List.mem_cons.mp hp with e | hp
    · rw [e]; exact .tail _ (.head _)
    · rcases List.mem_cons.mp hp with e | hp
      · rw [e]; exact .tail _ (.tail _ (.head _))
      · rcases List.mem_cons.mp hp with e | hp
        · rw [e]; exact .tail _ (.tail _ (.tail _ (.head _)))
        · rcases List.mem_cons.mp hp with e | hp
          · rw [e]; exact .head _
          · exact .tail _ (.tail _ (.tail _ (.tail _ hp)))
  · exact ⟨⟨Nat.ne_of_gt (lt (I, oI) (.head _)), Nat.ne_of_gt (lt (C, oC) (.tail _ (.head _))), Nat.ne_of_gt (lt (D, oD) (.tail _ (.tail _ (.head _))))⟩, off⟩
end Mine
end
section
open PySem PySem.W PyProof.Rows PySem.Flt PySem.Calls PySem.Spec PyProof.Rows.LCg
set_option maxRecDepth 100000
namespace Mine
/-- a comprehension over a tuple of the ledger -/
def TupSrc (prog : Program) (w : World) (A : Around) (h₀ : Heap) (L : Addr) (m : Str → Option Value) (env : Env) (elt : Expr) (x : Str) (scope : Scope) (cl : List (Str × Addr)) (Fin : Shared → List Value → List (Addr × Obj) → Prop) (xv : Value) (s₁ : Shared) : Prop :=
  ∃ ax its n news, xv = .ref ax ∧ A.handled = none ∧ Fr h₀ L s₁.heap m ∧ News h₀ L s₁.heap news ∧ (ax, ({ cls := .type "tuple", data := .seq its n } : Obj)) ∈ news ∧ its.size ≤ sizeLine ∧
    ∀ g, CompRest prog w A h₀ L m env elt x scope cl { s₁ with heap := g } (fun nw => (ax, ({ cls := .type "tuple", data := .seq its n } : Obj)) ∈ nw) (fun i v => its[i]? = some v) (Fin { s₁ with heap := g }) its.size 0 [] news
section
variable {prog : Program} {w : World} {A : Around} {E : Value → Shared → Prop} {s : Shared} {h₀ : Heap} {L : Addr} {m : Str → Option Value} {env : Env}
theorem ListComp_T {elt iter : Expr} {x : Str} {px : Pos} {scope : Scope} {cl : List (Str × Addr)} {pos : Pos} {Q : Value → Shared → Prop} (_F₀ : Fr h₀ L s.heap m)
    (hclos : closureFor scope env = pure cl) (hcell : ∀ y ∈ scope.names, y.2 ≠ .cell) (hkind : scope.kind = .function)
    (hnames : ∀ y ∈ scope.names, y.2 = .local → scope.names.lookup y.1 = some .local) (hx : scope.names.lookup x = some .local)
    (h : wpAny (model prog w) A (eval iter env) (TupSrc prog w A h₀ L m env elt x scope cl (fun s₂ => FinE h₀ L m s₂ Q)) E s)
    (hs : ∀ x, foldedSetIterable iter env x = pure x := by intro _; rfl) :
    wpAny (model prog w) A (eval (.ListComp elt [⟨.Name x px, iter, [], 0⟩] scope pos) env) Q E s := by
  rw [eval_ListComp]
  refine wpAny_comprehension_free (use := none) rfl hs hclos hkind hnames (wpAny_mono h (fun xv s₁ h₁ => ?_) fun _ _ e => e)
  obtain ⟨ax, its, n, news, rfl, hh, F, N, hm, hsz, R⟩ := h₁
  have hax := N _ hm
  have hl : s₁.heap.IsTuple ax its := ⟨_, hax.1, rfl, n, rfl⟩
  have hlt : ax < s₁.heap.objs.size := Heap.lt_size hax.1
  refine wpAny_pyIter_tuple hl ?_
  have up : ∀ b o, s₁.heap.get? b = some o → (s₁.heap.push { cls := .type "tuple_iterator", data := .fields #[.ref ax, .int 0 0] }).get? b = some o := fun b o e => Heap.get?_push_of_some _ e
  refine block_U (Walks.tuple hh s₁.heap.objs.size ax (Nat.ne_of_lt hlt) its) hsz (fun i h st => let ⟨o, e, _⟩ := st.1; ⟨o, e⟩) (fun i h h' o nw st e e' _ N' hS => ?_) hcell hkind hx ⟨⟨_, Heap.get?_push_size _ rfl, rfl, rfl⟩, hl.push _⟩ (fun b hb => ?_)
    (F.keeps up) (N.grown up) (Nat.ne_of_lt F.ns.lt) (next_is_new F) (fun p hp => Nat.ne_of_lt (Heap.lt_size (N p hp).1)) hm (R _) ?_
  · refine ⟨?_, ⟨_, (N' _ hS).1, rfl, n, rfl⟩⟩
    obtain ⟨o', q, r⟩ := st.1
    rw [e] at q
    cases q
    exact ⟨o, e', r⟩
  · show b < (s₁.heap.push _).objs.size
    rw [Heap.size_push]
    rcases List.mem_cons.mp hb with rfl | hb
    · exact Nat.lt_succ_self _
    · rw [List.mem_singleton.mp hb]; exact Nat.lt_succ_of_lt hlt
  · intro D C h tk m' ys news' F' N' o1 hn hC₀ hD₀ hCL hDL hCD offC fin
    refine ⟨m', hn, fun h'' hs'' => fin D h'' tk (F'.change hs'' hCL hC₀) (fun p hp => ?_) o1⟩
    refine ⟨hs''.extBut _ _ ?_ (N' p hp).1, (N' p hp).2⟩
    rcases List.mem_cons.mp hp with rfl | hp
    · exact Ne.symm hCD
    · exact offC p hp
theorem tupSrc {elt : Expr} {x : Str} {scope : Scope} {cl : List (Str × Addr)} {Fin : Shared → List Value → List (Addr × Obj) → Prop} {ax : Addr} {its : Array Value} {n : Nat} {news : List (Addr × Obj)} {s₁ : Shared}
    (hh : A.handled = none) (F : Fr h₀ L s₁.heap m) (N : News h₀ L s₁.heap news) (hm : (ax, ({ cls := .type "tuple", data := .seq its n } : Obj)) ∈ news) (hsz : its.size ≤ sizeLine)
    (h : ∀ g, CompRest prog w A h₀ L m env elt x scope cl { s₁ with heap := g } (fun nw => (ax, ({ cls := .type "tuple", data := .seq its n } : Obj)) ∈ nw) (fun i v => its[i]? = some v) (Fin { s₁ with heap := g }) its.size 0 [] news) :
    TupSrc prog w A h₀ L m env elt x scope cl Fin (.ref ax) s₁ := ⟨ax, its, n, news, rfl, hh, F, N, hm, hsz, h⟩
end
end Mine
end
section
open PySem PySem.W PyProof.Rows PySem.Flt
set_option maxRecDepth 100000
namespace Mine
theorem rows2 : True := by
  w_top off
  k_with_none
  trivial
theorem rows1 : True := by
  k_with "call builtin:max" => (((with_reducible show wpAny _ _ (call _ [Value.float _ _, Value.float _ _, Value.float _ _]) _ _ _); (rename News _ _ _ _ => Nq1); (rename Fr _ _ _ _ => Fq1); refine max_three_ff rfl Fq1 Nq1 ?_; clear Nq1; intro _ _ _ _ _))
  k_with "call builtin:min" => (((with_reducible show wpAny _ _ (call _ [Value.float _ _, Value.float _ _, Value.float _ _]) _ _ _); (rename News _ _ _ _ => Nq1); (rename Fr _ _ _ _ => Fq1); refine min_three_ff rfl Fq1 Nq1 ?_; clear Nq1; intro _ _ _ _ _))
  trivial
theorem over_no {i : Int} {b : Nat} (h : i.natAbs < b) (h2 : b ≤ i.natAbs) : False := absurd h (Nat.not_lt.mpr h2)
theorem sex_all {i : Int} (h0 : i.fmod 6 ≠ 0) (h1 : i.fmod 6 ≠ 1) (h2 : i.fmod 6 ≠ 2) (h3 : i.fmod 6 ≠ 3) (h4 : i.fmod 6 ≠ 4) (h5 : i.fmod 6 ≠ 5) : False := by
  have e : i.fmod 6 = i % 6 := Int.fmod_eq_emod_of_nonneg i (by decide)
  omega
set_option maxHeartbeats 8000000 in
theorem c_hsv {w : World} {r : UInt64} {tr : Tok} {g : UInt64} {tg : Tok} {b : UInt64} {tb : Tok} {mean : ExcName → Option Value} {mg mb : Str → Option Value} {dp un : Nat} {gd : Option (List Code)} {cn : Str} {cs : Scope} {a : Addr} {ccd : Value} {cl : List (Str × Addr)} {outer : List Env} {A₀ : Around} {base h₀ : Heap} {L : Addr} {m : Str → Option Value} {news : List (Addr × Obj)} {s : Shared} {Q E : Value → Shared → Prop}
    (B : Below A₀ base outer h₀) (F : Fr h₀ L s.heap m) (X : (hd.heap_39 w.params).In h₀) (N : News h₀ L s.heap news) (T : Top topProg LS mean mg mb h₀) (hk : cs.kind = .function) (hdp : dp + 2 < recursionLimit) (_hu : un + 16 < cLine)
    (ok : hsvOk r g b)
    (hret : ∀ (D : Addr) (x y z : UInt64) (k1 k2 k3 : Tok) (h' : Heap) (tk' : Nat), (x, y, z) = hsvF r g b → Fr h₀ L h' m → News h₀ L h' ((D, { cls := Value.type "tuple", data := Data.seq #[Value.float x k1, Value.float y k2, Value.float z k3] }) :: news) → (∀ p ∈ news, p.1 < D) → Q (.ref D) { s with heap := h', toks := tk' }) :
    wpAny (model PR w) (ktrTop dp un gd cn cs L a ccd cl outer) (call (.ref 56) [.float r tr, .float g tg, .float b tb]) Q E s := by
  have hfill : Challenge.rw_mq0241_01 = Challenge.rw_mq0241_01 ∧ Mine.hd.heap_39 = Mine.hd.heap_39 := by (k_fill; exact ⟨rfl, rfl⟩)
  clear hfill
  refine wpAny_call ?_
  k_dflt ktr_enter
  k_steps
  all_goals first
    | (refine hret _ _ _ _ _ _ _ _ _ ?_ (by k_asm) (by k_asm) (by assumption); (unfold hsvF hueF rngF eqF mod1; (first | rw [if_pos (show ((Float64.cmp (min3F r g b) (max3F r g b) == some Ordering.eq)) = true by assumption)] | rw [if_neg (show ¬ (((Float64.cmp (min3F r g b) (max3F r g b) == some Ordering.eq)) = true) by rw [show ((Float64.cmp (min3F r g b) (max3F r g b) == some Ordering.eq)) = false by assumption]; exact Bool.false_ne_true)] | skip); (first | rw [if_pos (show ((Float64.cmp r (max3F r g b) == some Ordering.eq)) = true by assumption)] | rw [if_neg (show ¬ (((Float64.cmp r (max3F r g b) == some Ordering.eq)) = true) by rw [show ((Float64.cmp r (max3F r g b) == some Ordering.eq)) = false by assumption]; exact Bool.false_ne_true)] | skip); (first | rw [if_pos (show ((Float64.cmp g (max3F r g b) == some Ordering.eq)) = true by assumption)] | rw [if_neg (show ¬ (((Float64.cmp g (max3F r g b) == some Ordering.eq)) = true) by rw [show ((Float64.cmp g (max3F r g b) == some Ordering.eq)) = false by assumption]; exact Bool.false_ne_true)] | skip); first | rfl | done))
    | (exfalso; (have h0 := ok (by assumption); unfold rngF at h0; first | (have h1 := h0.1; rw [show Float64.isZero (max3F r g b) = true by assumption] at h1; cases h1) | (have h1 := h0.2; rw [show Float64.isZero (Float64.sub (max3F r g b) (min3F r g b)) = true by assumption] at h1; cases h1)))

set_option maxHeartbeats 8000000 in
theorem c_hsvrgb {w : World} {h : UInt64} {th : Tok} {sa : UInt64} {tsa : Tok} {v : UInt64} {tv : Tok} {mean : ExcName → Option Value} {mg mb : Str → Option Value} {dp un : Nat} {gd : Option (List Code)} {cn : Str} {cs : Scope} {a : Addr} {ccd : Value} {cl : List (Str × Addr)} {outer : List Env} {A₀ : Around} {base h₀ : Heap} {L : Addr} {m : Str → Option Value} {news : List (Addr × Obj)} {s : Shared} {Q E : Value → Shared → Prop}
    (B : Below A₀ base outer h₀) (F : Fr h₀ L s.heap m) (X : (hd.heap_39 w.params).In h₀) (N : News h₀ L s.heap news) (T : Top topProg LS mean mg mb h₀) (hk : cs.kind = .function) (hdp : dp + 2 < recursionLimit) (_hu : un + 16 < cLine)
    (ok : rgbOfHsvOk h sa)
    (hret : ∀ (D : Addr) (x y z : UInt64) (k1 k2 k3 : Tok) (h' : Heap) (tk' : Nat), (x, y, z) = rgbOfHsv h sa v → Fr h₀ L h' m → News h₀ L h' ((D, { cls := Value.type "tuple", data := Data.seq #[Value.float x k1, Value.float y k2, Value.float z k3] }) :: news) → (∀ p ∈ news, p.1 < D) → Q (.ref D) { s with heap := h', toks := tk' }) :
    wpAny (model PR w) (ktrTop dp un gd cn cs L a ccd cl outer) (call (.ref 63) [.float h th, .float sa tsa, .float v tv]) Q E s := by
  have hfill : Challenge.rw_mq0241_01 = Challenge.rw_mq0241_01 ∧ Mine.hd.heap_39 = Mine.hd.heap_39 := by (k_fill; exact ⟨rfl, rfl⟩)
  clear hfill
  refine wpAny_call ?_
  k_dflt ktr_enter
  k_steps
  all_goals first
    | (refine hret _ _ _ _ _ _ _ _ _ ?_ (by k_asm) (by k_asm) (by assumption); (unfold rgbOfHsv tF pF qF fraF sexF eqF; (first | rw [if_pos (show ((Float64.cmp sa 0 == some Ordering.eq)) = true by assumption)] | rw [if_neg (show ¬ (((Float64.cmp sa 0 == some Ordering.eq)) = true) by rw [show ((Float64.cmp sa 0 == some Ordering.eq)) = false by assumption]; exact Bool.false_ne_true)] | skip); (first | rw [if_pos (show (toInt Float64.truncOf (Float64.mul h 4618441417868443648)).fmod 6 = 0 by assumption)] | rw [if_neg (show ¬ ((toInt Float64.truncOf (Float64.mul h 4618441417868443648)).fmod 6 = 0) by assumption)] | skip); (first | rw [if_pos (show (toInt Float64.truncOf (Float64.mul h 4618441417868443648)).fmod 6 = 1 by assumption)] | rw [if_neg (show ¬ ((toInt Float64.truncOf (Float64.mul h 4618441417868443648)).fmod 6 = 1) by assumption)] | skip); (first | rw [if_pos (show (toInt Float64.truncOf (Float64.mul h 4618441417868443648)).fmod 6 = 2 by assumption)] | rw [if_neg (show ¬ ((toInt Float64.truncOf (Float64.mul h 4618441417868443648)).fmod 6 = 2) by assumption)] | skip); (first | rw [if_pos (show (toInt Float64.truncOf (Float64.mul h 4618441417868443648)).fmod 6 = 3 by assumption)] | rw [if_neg (show ¬ ((toInt Float64.truncOf (Float64.mul h 4618441417868443648)).fmod 6 = 3) by assumption)] | skip); (first | rw [if_pos (show (toInt Float64.truncOf (Float64.mul h 4618441417868443648)).fmod 6 = 4 by assumption)] | rw [if_neg (show ¬ ((toInt Float64.truncOf (Float64.mul h 4618441417868443648)).fmod 6 = 4) by assumption)] | skip); first | rfl | done))
    | (exfalso; (have h0 := ok (by assumption); unfold sexF at h0; first | (have h1 := not_nan_of_finite h0.1; rw [show Float64.isNaN (Float64.mul h 4618441417868443648) = true by assumption] at h1; cases h1) | (have h1 := not_inf_of_finite h0.1; rw [show Float64.isInf (Float64.mul h 4618441417868443648) = true by assumption] at h1; cases h1) | exact over_no h0.2 (by assumption) | exact sex_all (by assumption) (by assumption) (by assumption) (by assumption) (by assumption) (by assumption)))

end Mine
end
section
open PySem PySem.W PyProof.Rows PySem.Flt
set_option maxRecDepth 100000
namespace Mine
theorem rows5 : True := by
  w_top off
  k_with_none
  trivial
theorem rows3 : True := by
  k_with "call builtin:max" => (((with_reducible show wpAny _ _ (call _ [Value.float _ _, Value.float _ _, Value.float _ _]) _ _ _); (rename News _ _ _ _ => Nq1); (rename Fr _ _ _ _ => Fq1); refine max_three_ff rfl Fq1 Nq1 ?_; clear Nq1; intro _ _ _ _ _))
  k_with "call builtin:min" => (((with_reducible show wpAny _ _ (call _ [Value.float _ _, Value.float _ _, Value.float _ _]) _ _ _); (rename News _ _ _ _ => Nq1); (rename Fr _ _ _ _ => Fq1); refine min_three_ff rfl Fq1 Nq1 ?_; clear Nq1; intro _ _ _ _ _))
  trivial
set_option maxHeartbeats 8000000 in
theorem c_v {w : World} {m1 : UInt64} {tm1 : Tok} {m2 : UInt64} {tm2 : Tok} {hue : UInt64} {thue : Tok} {mean : ExcName → Option Value} {mg mb : Str → Option Value} {dp un : Nat} {gd : Option (List Code)} {cn : Str} {cs : Scope} {a : Addr} {ccd : Value} {cl : List (Str × Addr)} {outer : List Env} {A₀ : Around} {base h₀ : Heap} {L : Addr} {m : Str → Option Value} {news : List (Addr × Obj)} {s : Shared} {Q E : Value → Shared → Prop}
    (B : Below A₀ base outer h₀) (F : Fr h₀ L s.heap m) (X : (hd.heap_39 w.params).In h₀) (N : News h₀ L s.heap news) (T : Top topProg LS mean mg mb h₀) (hk : cs.kind = .function) (hdp : dp + 2 < recursionLimit) (_hu : un + 16 < cLine)
    
    (hret : ∀ (x : UInt64) (k1 : Tok) (h' : Heap) (tk' : Nat), x = vF m1 m2 hue → Fr h₀ L h' m → News h₀ L h' news → Q (.float x k1) { s with heap := h', toks := tk' }) :
    wpAny (model PR w) (ktrTop dp un gd cn cs L a ccd cl outer) (call (.ref 49) [.float m1 tm1, .float m2 tm2, .float hue thue]) Q E s := by
  have hfill : Challenge.rw_mq0241_01 = Challenge.rw_mq0241_01 ∧ Mine.hd.heap_39 = Mine.hd.heap_39 := by (k_fill; exact ⟨rfl, rfl⟩)
  clear hfill
  refine wpAny_call ?_
  k_dflt ktr_enter
  k_steps
  all_goals first
    | (refine hret _ _ _ _ ?_ (by k_asm) (by k_asm); (unfold vF ltF mod1; (first | rw [if_pos (show ((Float64.cmp (Float64.divmod hue 4607182418800017408).snd 4595172819793696085 == some Ordering.lt)) = true by assumption)] | rw [if_neg (show ¬ (((Float64.cmp (Float64.divmod hue 4607182418800017408).snd 4595172819793696085 == some Ordering.lt)) = true) by rw [show ((Float64.cmp (Float64.divmod hue 4607182418800017408).snd 4595172819793696085 == some Ordering.lt)) = false by assumption]; exact Bool.false_ne_true)] | skip); (first | rw [if_pos (show ((Float64.cmp (Float64.divmod hue 4607182418800017408).snd 4602678819172646912 == some Ordering.lt)) = true by assumption)] | rw [if_neg (show ¬ (((Float64.cmp (Float64.divmod hue 4607182418800017408).snd 4602678819172646912 == some Ordering.lt)) = true) by rw [show ((Float64.cmp (Float64.divmod hue 4607182418800017408).snd 4602678819172646912 == some Ordering.lt)) = false by assumption]; exact Bool.false_ne_true)] | skip); (first | rw [if_pos (show ((Float64.cmp (Float64.divmod hue 4607182418800017408).snd 4604180019048437077 == some Ordering.lt)) = true by assumption)] | rw [if_neg (show ¬ (((Float64.cmp (Float64.divmod hue 4607182418800017408).snd 4604180019048437077 == some Ordering.lt)) = true) by rw [show ((Float64.cmp (Float64.divmod hue 4607182418800017408).snd 4604180019048437077 == some Ordering.lt)) = false by assumption]; exact Bool.false_ne_true)] | skip); first | rfl | done))
    | (exfalso; (fail "err"))

set_option maxHeartbeats 8000000 in
theorem c_hls {w : World} {r : UInt64} {tr : Tok} {g : UInt64} {tg : Tok} {b : UInt64} {tb : Tok} {mean : ExcName → Option Value} {mg mb : Str → Option Value} {dp un : Nat} {gd : Option (List Code)} {cn : Str} {cs : Scope} {a : Addr} {ccd : Value} {cl : List (Str × Addr)} {outer : List Env} {A₀ : Around} {base h₀ : Heap} {L : Addr} {m : Str → Option Value} {news : List (Addr × Obj)} {s : Shared} {Q E : Value → Shared → Prop}
    (B : Below A₀ base outer h₀) (F : Fr h₀ L s.heap m) (X : (hd.heap_39 w.params).In h₀) (N : News h₀ L s.heap news) (T : Top topProg LS mean mg mb h₀) (hk : cs.kind = .function) (hdp : dp + 2 < recursionLimit) (_hu : un + 16 < cLine)
    (ok : hlsOk r g b)
    (hret : ∀ (D : Addr) (x y z : UInt64) (k1 k2 k3 : Tok) (h' : Heap) (tk' : Nat), (x, y, z) = hlsF r g b → Fr h₀ L h' m → News h₀ L h' ((D, { cls := Value.type "tuple", data := Data.seq #[Value.float x k1, Value.float y k2, Value.float z k3] }) :: news) → (∀ p ∈ news, p.1 < D) → Q (.ref D) { s with heap := h', toks := tk' }) :
    wpAny (model PR w) (ktrTop dp un gd cn cs L a ccd cl outer) (call (.ref 35) [.float r tr, .float g tg, .float b tb]) Q E s := by
  have hfill : Challenge.rw_mq0241_01 = Challenge.rw_mq0241_01 ∧ Mine.hd.heap_39 = Mine.hd.heap_39 := by (k_fill; exact ⟨rfl, rfl⟩)
  clear hfill
  refine wpAny_call ?_
  k_dflt ktr_enter
  k_steps
  all_goals first
    | (refine hret _ _ _ _ _ _ _ _ _ ?_ (by k_asm) (by k_asm) (by assumption); (unfold hlsF hueF litF defF sumF rngF eqF leF mod1; (first | rw [if_pos (show ((Float64.cmp (min3F r g b) (max3F r g b) == some Ordering.eq)) = true by assumption)] | rw [if_neg (show ¬ (((Float64.cmp (min3F r g b) (max3F r g b) == some Ordering.eq)) = true) by rw [show ((Float64.cmp (min3F r g b) (max3F r g b) == some Ordering.eq)) = false by assumption]; exact Bool.false_ne_true)] | skip); (first | rw [if_pos (show ((Float64.cmp (Float64.div (Float64.add (max3F r g b) (min3F r g b)) 4611686018427387904) 4602678819172646912 == some Ordering.lt || Float64.cmp (Float64.div (Float64.add (max3F r g b) (min3F r g b)) 4611686018427387904) 4602678819172646912 == some Ordering.eq)) = true by assumption)] | rw [if_neg (show ¬ (((Float64.cmp (Float64.div (Float64.add (max3F r g b) (min3F r g b)) 4611686018427387904) 4602678819172646912 == some Ordering.lt || Float64.cmp (Float64.div (Float64.add (max3F r g b) (min3F r g b)) 4611686018427387904) 4602678819172646912 == some Ordering.eq)) = true) by rw [show ((Float64.cmp (Float64.div (Float64.add (max3F r g b) (min3F r g b)) 4611686018427387904) 4602678819172646912 == some Ordering.lt || Float64.cmp (Float64.div (Float64.add (max3F r g b) (min3F r g b)) 4611686018427387904) 4602678819172646912 == some Ordering.eq)) = false by assumption]; exact Bool.false_ne_true)] | skip); (first | rw [if_pos (show ((Float64.cmp r (max3F r g b) == some Ordering.eq)) = true by assumption)] | rw [if_neg (show ¬ (((Float64.cmp r (max3F r g b) == some Ordering.eq)) = true) by rw [show ((Float64.cmp r (max3F r g b) == some Ordering.eq)) = false by assumption]; exact Bool.false_ne_true)] | skip); (first | rw [if_pos (show ((Float64.cmp g (max3F r g b) == some Ordering.eq)) = true by assumption)] | rw [if_neg (show ¬ (((Float64.cmp g (max3F r g b) == some Ordering.eq)) = true) by rw [show ((Float64.cmp g (max3F r g b) == some Ordering.eq)) = false by assumption]; exact Bool.false_ne_true)] | skip); first | rfl | done))
    | (exfalso; (have h0 := ok (by assumption); unfold litF defF sumF rngF leF at h0; first | (have h1 := h0.1; rw [show Float64.isZero (Float64.sub (max3F r g b) (min3F r g b)) = true by assumption] at h1; cases h1) | (have h1 := h0.2.1 (by assumption); rw [show Float64.isZero (Float64.add (max3F r g b) (min3F r g b)) = true by assumption] at h1; cases h1) | (have h1 := h0.2.2 (by assumption); rw [show Float64.isZero (Float64.sub (Float64.sub 4611686018427387904 (max3F r g b)) (min3F r g b)) = true by assumption] at h1; cases h1)))

theorem rows4 : True := by
  k_with "call ref" => ((k_here; (with_reducible show wpAny _ _ (call (Value.ref 49) [Value.float _ _, Value.float _ _, Value.float _ _]) _ _ _); k_dflt (refine' c_v (by k_asm) (by k_asm) (by k_asm) (by k_asm) (by k_asm) (by first | exact rfl | assumption) (by ktr_room) (by ktr_units)  (ret1 ?_)); intro _ _ _ _ _; (try dsimp only)))
  trivial
set_option maxHeartbeats 8000000 in
theorem c_hlsrgb {w : World} {h : UInt64} {th : Tok} {l : UInt64} {tl : Tok} {sa : UInt64} {tsa : Tok} {mean : ExcName → Option Value} {mg mb : Str → Option Value} {dp un : Nat} {gd : Option (List Code)} {cn : Str} {cs : Scope} {a : Addr} {ccd : Value} {cl : List (Str × Addr)} {outer : List Env} {A₀ : Around} {base h₀ : Heap} {L : Addr} {m : Str → Option Value} {news : List (Addr × Obj)} {s : Shared} {Q E : Value → Shared → Prop}
    (B : Below A₀ base outer h₀) (F : Fr h₀ L s.heap m) (X : (hd.heap_39 w.params).In h₀) (N : News h₀ L s.heap news) (T : Top topProg LS mean mg mb h₀) (hk : cs.kind = .function) (hdp : dp + 3 < recursionLimit) (_hu : un + 24 < cLine)
    
    (hret : ∀ (D : Addr) (x y z : UInt64) (k1 k2 k3 : Tok) (h' : Heap) (tk' : Nat), (x, y, z) = rgbOfHls h l sa → Fr h₀ L h' m → News h₀ L h' ((D, { cls := Value.type "tuple", data := Data.seq #[Value.float x k1, Value.float y k2, Value.float z k3] }) :: news) → (∀ p ∈ news, p.1 < D) → Q (.ref D) { s with heap := h', toks := tk' }) :
    wpAny (model PR w) (ktrTop dp un gd cn cs L a ccd cl outer) (call (.ref 42) [.float h th, .float l tl, .float sa tsa]) Q E s := by
  have hfill : Challenge.rw_mq0241_01 = Challenge.rw_mq0241_01 ∧ Mine.hd.heap_39 = Mine.hd.heap_39 := by (k_fill; exact ⟨rfl, rfl⟩)
  clear hfill
  refine wpAny_call ?_
  k_dflt ktr_enter
  k_steps
  all_goals first
    | (refine hret _ _ _ _ _ _ _ _ _ ?_ (by k_asm) (by k_asm) (by assumption); (unfold rgbOfHls m1F m2F eqF leF; (first | rw [if_pos (show ((Float64.cmp sa 0 == some Ordering.eq)) = true by assumption)] | rw [if_neg (show ¬ (((Float64.cmp sa 0 == some Ordering.eq)) = true) by rw [show ((Float64.cmp sa 0 == some Ordering.eq)) = false by assumption]; exact Bool.false_ne_true)] | skip); (first | rw [if_pos (show ((Float64.cmp l 4602678819172646912 == some Ordering.lt || Float64.cmp l 4602678819172646912 == some Ordering.eq)) = true by assumption)] | rw [if_neg (show ¬ (((Float64.cmp l 4602678819172646912 == some Ordering.lt || Float64.cmp l 4602678819172646912 == some Ordering.eq)) = true) by rw [show ((Float64.cmp l 4602678819172646912 == some Ordering.lt || Float64.cmp l 4602678819172646912 == some Ordering.eq)) = false by assumption]; exact Bool.false_ne_true)] | skip); first | rfl | done))
    | (exfalso; (fail "err"))

end Mine
end
section
open PySem PySem.W PyProof.Rows PySem.Flt
set_option maxRecDepth 100000
namespace Mine
theorem rows7 : True := by
  w_top off
  k_with_none
  trivial
structure KJV (x : Str) (v : UInt64) (h₀ : Heap) (L : Addr) (m : Str → Option Value) (news : List (Addr × Obj)) (s : Shared) (f : Flow) (s' : Shared) : Prop where
  next : f = .next
  here : ∃ t : Tok, KJoinAt h₀ L (fun y => if y = x then some (.float v t) else m y) news s s'
def KJB1 (P : Prop) : Prop := P
def KJB2 (P : Prop) : Prop := P
theorem kjf {M : Model} {A : Around} {E : Value → Shared → Prop} {s : Shared} {env : Env} {h₀ : Heap} {L : Addr} {m : Str → Option Value} {news : List (Addr × Obj)} {test : Expr} {x : Str} {p q pos : Pos} {e : Expr} {c : Bool} {a v : UInt64} {t₀ : Tok} {Q : Flow → Shared → Prop}
    (_F : Fr h₀ L s.heap m) (_N : News h₀ L s.heap news)
    (hold : m x = some (.float a t₀))
    (hc : wpAny M A (isTrue test env (eval test env)) (fun k s₂ => KJoinC c h₀ L m news s k s₂) E s)
    (hv : KJB1 (c = true → ∀ (h' : Heap) (tk' : Nat), Fr h₀ L h' m → News h₀ L h' news → wpAny M A (exec (.Assign [.Name x p] e q) env) (fun f s₃ => KJV x v h₀ L m news s f s₃) E { s with heap := h', toks := tk' }))
    (hk : KJB2 (∀ (t : Tok) (h' : Heap) (tk' : Nat), Fr h₀ L h' (fun y => if y = x then some (.float (pick c v a) t) else m y) → News h₀ L h' news → Q .next { s with heap := h', toks := tk' })) :
    wpAny M A (exec (.If test [.Assign [.Name x p] e q] [] pos) env) Q E s := by
  refine wpAny_If (wpAny_mono hc (fun k s₂ hkc => ?_) fun _ _ h => h)
  obtain ⟨hkc, hat⟩ := hkc
  subst hkc
  obtain ⟨h1, tk1, e1, F1, N1⟩ := KJoinAt.at_ hat
  subst e1
  cases k with
  | true =>
    show wpAny M A (execs [_] env) Q E _
    refine wpAny_execs_cons (wpAny_mono (hv rfl h1 tk1 F1 N1) (fun f s₃ hf => ?_) fun _ _ h => h)
    obtain ⟨hf, t, ht⟩ := hf
    subst hf
    obtain ⟨h2, tk2, e2, F2, N2⟩ := KJoinAt.at_ ht
    subst e2
    exact wpAny_execs_nil (hk t h2 tk2 F2 N2)
  | false =>
    show wpAny M A (execs [] env) Q E _
    refine wpAny_execs_nil (hk t₀ h1 tk1 ?_ N1)
    have e : (fun y => if y = x then some (Value.float (pick false v a) t₀) else m y) = m := by
      funext y
      by_cases hy : y = x
      · rw [if_pos hy, hy, hold]; rfl
      · rw [if_neg hy]
    rw [e]
    exact F1
theorem rows6 : True := by
  k_with "exec If" => ((k_here; (rename Fr _ _ _ _ => Fq1); (rename News _ _ _ _ => Nq1); (apply kjf Fq1 Nq1; (case hold => with_unfolding_all rfl))))
  k_with "KJV" => (exact ⟨rfl, _, ⟨⟨_, _, rfl, by assumption, by assumption⟩⟩⟩)
  k_with "KJB1" => (((show _ → ∀ _ _, _ → _ → _); intro _ _ _ _ _))
  k_with "KJB2" => (((show ∀ _ _ _, _ → _ → _); intro _ _ _ _ _))
  trivial
set_option maxHeartbeats 8000000 in
theorem c_yiq {w : World} {r : UInt64} {tr : Tok} {g : UInt64} {tg : Tok} {b : UInt64} {tb : Tok} {mean : ExcName → Option Value} {mg mb : Str → Option Value} {dp un : Nat} {gd : Option (List Code)} {cn : Str} {cs : Scope} {a : Addr} {ccd : Value} {cl : List (Str × Addr)} {outer : List Env} {A₀ : Around} {base h₀ : Heap} {L : Addr} {m : Str → Option Value} {news : List (Addr × Obj)} {s : Shared} {Q E : Value → Shared → Prop}
    (B : Below A₀ base outer h₀) (F : Fr h₀ L s.heap m) (X : (hd.heap_39 w.params).In h₀) (N : News h₀ L s.heap news) (T : Top topProg LS mean mg mb h₀) (hk : cs.kind = .function) (hdp : dp + 2 < recursionLimit) (_hu : un + 16 < cLine)
    
    (hret : ∀ (D : Addr) (x y z : UInt64) (k1 k2 k3 : Tok) (h' : Heap) (tk' : Nat), (x, y, z) = yiqF r g b → Fr h₀ L h' m → News h₀ L h' ((D, { cls := Value.type "tuple", data := Data.seq #[Value.float x k1, Value.float y k2, Value.float z k3] }) :: news) → (∀ p ∈ news, p.1 < D) → Q (.ref D) { s with heap := h', toks := tk' }) :
    wpAny (model PR w) (ktrTop dp un gd cn cs L a ccd cl outer) (call (.ref 21) [.float r tr, .float g tg, .float b tb]) Q E s := by
  have hfill : Challenge.rw_mq0241_01 = Challenge.rw_mq0241_01 ∧ Mine.hd.heap_39 = Mine.hd.heap_39 := by (k_fill; exact ⟨rfl, rfl⟩)
  clear hfill
  refine wpAny_call ?_
  k_dflt ktr_enter
  k_steps
  all_goals first
    | (refine hret _ _ _ _ _ _ _ _ _ ?_ (by k_asm) (by k_asm) (by assumption); (unfold yiqF lumF; first | rfl | done))
    | (exfalso; (fail "err"))

set_option maxHeartbeats 8000000 in
theorem c_yiqrgb {w : World} {lu : UInt64} {tlu : Tok} {ci : UInt64} {tci : Tok} {cq : UInt64} {tcq : Tok} {mean : ExcName → Option Value} {mg mb : Str → Option Value} {dp un : Nat} {gd : Option (List Code)} {cn : Str} {cs : Scope} {a : Addr} {ccd : Value} {cl : List (Str × Addr)} {outer : List Env} {A₀ : Around} {base h₀ : Heap} {L : Addr} {m : Str → Option Value} {news : List (Addr × Obj)} {s : Shared} {Q E : Value → Shared → Prop}
    (B : Below A₀ base outer h₀) (F : Fr h₀ L s.heap m) (X : (hd.heap_39 w.params).In h₀) (N : News h₀ L s.heap news) (T : Top topProg LS mean mg mb h₀) (hk : cs.kind = .function) (hdp : dp + 2 < recursionLimit) (_hu : un + 16 < cLine)
    
    (hret : ∀ (D : Addr) (x y z : UInt64) (k1 k2 k3 : Tok) (h' : Heap) (tk' : Nat), (x, y, z) = rgbOfYiq lu ci cq → Fr h₀ L h' m → News h₀ L h' ((D, { cls := Value.type "tuple", data := Data.seq #[Value.float x k1, Value.float y k2, Value.float z k3] }) :: news) → (∀ p ∈ news, p.1 < D) → Q (.ref D) { s with heap := h', toks := tk' }) :
    wpAny (model PR w) (ktrTop dp un gd cn cs L a ccd cl outer) (call (.ref 28) [.float lu tlu, .float ci tci, .float cq tcq]) Q E s := by
  have hfill : Challenge.rw_mq0241_01 = Challenge.rw_mq0241_01 ∧ Mine.hd.heap_39 = Mine.hd.heap_39 := by (k_fill; exact ⟨rfl, rfl⟩)
  clear hfill
  refine wpAny_call ?_
  k_dflt ktr_enter
  k_steps
  all_goals first
    | (refine hret _ _ _ _ _ _ _ _ _ ?_ (by k_asm) (by k_asm) (by assumption); (unfold rgbOfYiq clip1 clip0; first | rfl | done))
    | (exfalso; (fail "err"))

end Mine
end
section
open PySem PySem.W PyProof.Rows PySem.Flt
set_option maxRecDepth 100000
namespace Mine
theorem rows9 : True := by
  w_top off
  k_with_none
  trivial
theorem rows8 : True := by
  k_with "call ref" => ((k_here; (with_reducible show wpAny _ _ (call (Value.ref 56) [Value.float _ _, Value.float _ _, Value.float _ _]) _ _ _); k_dflt (refine' c_hsv (by k_asm) (by k_asm) (by k_asm) (by k_asm) (by k_asm) (by first | exact rfl | assumption) (by ktr_room) (by ktr_units) (by with_reducible assumption) (ret3 ?_)); intro _ _ _ _ _ _ _ _ _; (try dsimp only)))
  k_with "call ref" => ((k_here; (with_reducible show wpAny _ _ (call (Value.ref 63) [Value.float _ _, Value.float _ _, Value.float _ _]) _ _ _); k_dflt (refine' c_hsvrgb (by k_asm) (by k_asm) (by k_asm) (by k_asm) (by k_asm) (by first | exact rfl | assumption) (by ktr_room) (by ktr_units) (by with_reducible assumption) (ret3 ?_)); intro _ _ _ _ _ _ _ _ _; (try dsimp only)))
  k_with "call ref" => ((k_here; (with_reducible show wpAny _ _ (call (Value.ref 35) [Value.float _ _, Value.float _ _, Value.float _ _]) _ _ _); k_dflt (refine' c_hls (by k_asm) (by k_asm) (by k_asm) (by k_asm) (by k_asm) (by first | exact rfl | assumption) (by ktr_room) (by ktr_units) (by with_reducible assumption) (ret3 ?_)); intro _ _ _ _ _ _ _ _ _; (try dsimp only)))
  k_with "call ref" => ((k_here; (with_reducible show wpAny _ _ (call (Value.ref 42) [Value.float _ _, Value.float _ _, Value.float _ _]) _ _ _); k_dflt (refine' c_hlsrgb (by k_asm) (by k_asm) (by k_asm) (by k_asm) (by k_asm) (by first | exact rfl | assumption) (by ktr_room) (by ktr_units)  (ret3 ?_)); intro _ _ _ _ _ _ _ _ _; (try dsimp only)))
  k_with "call ref" => ((k_here; (with_reducible show wpAny _ _ (call (Value.ref 21) [Value.float _ _, Value.float _ _, Value.float _ _]) _ _ _); k_dflt (refine' c_yiq (by k_asm) (by k_asm) (by k_asm) (by k_asm) (by k_asm) (by first | exact rfl | assumption) (by ktr_room) (by ktr_units)  (ret3 ?_)); intro _ _ _ _ _ _ _ _ _; (try dsimp only)))
  k_with "call ref" => ((k_here; (with_reducible show wpAny _ _ (call (Value.ref 28) [Value.float _ _, Value.float _ _, Value.float _ _]) _ _ _); k_dflt (refine' c_yiqrgb (by k_asm) (by k_asm) (by k_asm) (by k_asm) (by k_asm) (by first | exact rfl | assumption) (by ktr_room) (by ktr_units)  (ret3 ?_)); intro _ _ _ _ _ _ _ _ _; (try dsimp only)))
  trivial
set_option maxHeartbeats 8000000 in
theorem c_moved {w : World} {kind k : Int} {tk1 tk2 : Tok} {r : UInt64} {tr : Tok} {g : UInt64} {tg : Tok} {b : UInt64} {tb : Tok} {mean : ExcName → Option Value} {mg mb : Str → Option Value} {dp un : Nat} {gd : Option (List Code)} {cn : Str} {cs : Scope} {a : Addr} {ccd : Value} {cl : List (Str × Addr)} {outer : List Env} {A₀ : Around} {base h₀ : Heap} {L : Addr} {m : Str → Option Value} {news : List (Addr × Obj)} {s : Shared} {Q E : Value → Shared → Prop}
    (B : Below A₀ base outer h₀) (F : Fr h₀ L s.heap m) (X : (hd.heap_39 w.params).In h₀) (N : News h₀ L s.heap news) (T : Top topProg LS mean mg mb h₀) (hk : cs.kind = .function) (hdp : dp + 5 < recursionLimit) (_hu : un + 40 < cLine)
    (hk0 : 0 ≤ kind) (hk8 : kind < 8) (hk1 : 1 ≤ k) (hk5 : k ≤ 5) (ok : MovedOk k r g b)
    (hret : ∀ (D : Addr) (x y z : UInt64) (k1 k2 k3 : Tok) (h' : Heap) (tk' : Nat), (x, y, z) = movedF kind k r g b → Fr h₀ L h' m → News h₀ L h' ((D, { cls := Value.type "tuple", data := Data.seq #[Value.float x k1, Value.float y k2, Value.float z k3] }) :: news) → (∀ p ∈ news, p.1 < D) → Q (.ref D) { s with heap := h', toks := tk' }) :
    wpAny (model PR w) (ktrTop dp un gd cn cs L a ccd cl outer) (call (.ref 86) [.int kind tk1, .int k tk2, .float r tr, .float g tg, .float b tb]) Q E s := by
  have hfill : Challenge.rw_mq0241_01 = Challenge.rw_mq0241_01 ∧ Mine.hd.heap_39 = Mine.hd.heap_39 := by (k_fill; exact ⟨rfl, rfl⟩)
  clear hfill
  have ok1 := ok.hsv
  have ok2 := ok.hls
  have ok3 := ok.turn
  have ok4 := ok.pale
  have ok5 := ok.dark
  unfold kdiv at ok3
  refine wpAny_call ?_
  k_dflt ktr_enter
  k_steps
  all_goals (
    (rename News h₀ L _ _ => nq)
    (rename ∀ p ∈ (_ :: _), Prod.fst p < _ => lq)
    refine hret _ _ _ _ _ _ _ _ _ ?_ (by k_asm) (cb_drop nq (List.forall_mem_cons.mpr ⟨List.Mem.head _, fun p hp => List.Mem.tail _ (List.Mem.tail _ hp)⟩)) (fun p hp => lq p (List.Mem.tail _ hp))
    (unfold movedF kdiv; (repeat' split) <;> first | (exfalso; omega) | with_reducible rfl))

end Mine
end
section
open PySem PySem.W PyProof.Rows PySem.Flt
set_option maxRecDepth 100000
namespace Mine
theorem rows11 : True := by
  w_top off
  k_with_none
  trivial
theorem ints_cons {vs : List Value} {ds : List Int} {n : Nat} (h : IntsAre vs ds) (hl : ds.length = n + 1) : ∃ (d : Int) (t : Tok) (vs' : List Value) (ds' : List Int), vs = .int d t :: vs' ∧ IntsAre vs' ds' ∧ ds'.length = n := by
  cases h with
  | nil => simp at hl
  | cons d t h => exact ⟨d, t, _, _, rfl, h, by simpa using hl⟩
theorem ints_nil {vs : List Value} {ds : List Int} (h : IntsAre vs ds) (hl : ds.length = 0) : vs = [] := by
  cases h with
  | nil => rfl
  | cons d t h => simp at hl
theorem eleven {vs : List Value} {ds : List Int} (h : IntsAre vs ds) (hl : ds.length = 11) : ∃ (d0 d1 d2 d3 d4 d5 d6 d7 d8 d9 d10 : Int) (t0 t1 t2 t3 t4 t5 t6 t7 t8 t9 t10 : Tok), vs = [Value.int d0 t0, Value.int d1 t1, Value.int d2 t2, Value.int d3 t3, Value.int d4 t4, Value.int d5 t5, Value.int d6 t6, Value.int d7 t7, Value.int d8 t8, Value.int d9 t9, Value.int d10 t10] := by
  obtain ⟨d0, t0, vs0, ds0, e0, h0, hl0⟩ := ints_cons h hl
  obtain ⟨d1, t1, vs1, ds1, e1, h1, hl1⟩ := ints_cons h0 hl0
  obtain ⟨d2, t2, vs2, ds2, e2, h2, hl2⟩ := ints_cons h1 hl1
  obtain ⟨d3, t3, vs3, ds3, e3, h3, hl3⟩ := ints_cons h2 hl2
  obtain ⟨d4, t4, vs4, ds4, e4, h4, hl4⟩ := ints_cons h3 hl3
  obtain ⟨d5, t5, vs5, ds5, e5, h5, hl5⟩ := ints_cons h4 hl4
  obtain ⟨d6, t6, vs6, ds6, e6, h6, hl6⟩ := ints_cons h5 hl5
  obtain ⟨d7, t7, vs7, ds7, e7, h7, hl7⟩ := ints_cons h6 hl6
  obtain ⟨d8, t8, vs8, ds8, e8, h8, hl8⟩ := ints_cons h7 hl7
  obtain ⟨d9, t9, vs9, ds9, e9, h9, hl9⟩ := ints_cons h8 hl8
  obtain ⟨d10, t10, vs10, ds10, e10, h10, hl10⟩ := ints_cons h9 hl9
  have e11 := ints_nil h10 hl10
  subst e11
  subst e10
  subst e9
  subst e8
  subst e7
  subst e6
  subst e5
  subst e4
  subst e3
  subst e2
  subst e1
  subst e0
  exact ⟨_, _, _, _, _, _, _, _, _, _, _, _, _, _, _, _, _, _, _, _, _, _, rfl⟩
theorem rows10 : True := by
  k_with "InvEndN" => ((k_dflt kst_close))
  trivial
set_option maxHeartbeats 8000000 in
theorem c_draws {w : World} {sc : Addr} {vs : List Value} {ns : List Int} {mean : ExcName → Option Value} {mg mb : Str → Option Value} {dp un : Nat} {gd : Option (List Code)} {cn : Str} {cs : Scope} {a : Addr} {ccd : Value} {cl : List (Str × Addr)} {outer : List Env} {A₀ : Around} {base h₀ : Heap} {L : Addr} {m : Str → Option Value} {news : List (Addr × Obj)} {s : Shared} {Q E : Value → Shared → Prop}
    (B : Below A₀ base outer h₀) (F : Fr h₀ L s.heap m) (X : (hd.heap_39 w.params).In h₀) (N : News h₀ L s.heap news) (T : Top topProg LS mean mg mb h₀) (hk : cs.kind = .function) (hdp : dp + 3 < recursionLimit) (_hu : un + 40 < cLine)
    (hl : h₀.IsList sc vs.toArray) (hi : IntsAre vs ns) (hlay : (PyData.list (List.map PyData.int ns)).layable0 = true) (hcond : ¬ (63 : Int) < (ns.length : Int))
    (hret : ∀ (D : Addr) (n : Nat) (d0 d1 d2 d3 d4 d5 d6 d7 d8 d9 d10 : Int) (t0 t1 t2 t3 t4 t5 t6 t7 t8 t9 t10 : Tok) (h' : Heap) (tk' : Nat), Fr h₀ L h' m → News h₀ L h' ((D, W.listOf #[Value.int d0 t0, Value.int d1 t1, Value.int d2 t2, Value.int d3 t3, Value.int d4 t4, Value.int d5 t5, Value.int d6 t6, Value.int d7 t7, Value.int d8 t8, Value.int d9 t9, Value.int d10 t10] n) :: news) → (∀ p ∈ news, p.1 < D) → Q (.ref D) { s with heap := h', toks := tk' }) :
    wpAny (model PR w) (ktrTop dp un gd cn cs L a ccd cl outer) (call (.ref 79) [.ref sc]) Q E s := by
  k_with "pyIter ref" => k_state (fun pre draws => draws.length = 11) "draws"
  have hfill : Challenge.rw_mq0241_01 = Challenge.rw_mq0241_01 ∧ Mine.hd.heap_39 = Mine.hd.heap_39 := by (k_fill; exact ⟨rfl, rfl⟩)
  clear hfill
  refine wpAny_call ?_
  k_dflt ktr_enter
  (rename Fr h₀ L _ _ => FGx)
  have hl2 := Fr.lst FGx hl
  k_steps
  all_goals (
    obtain ⟨d0, d1, d2, d3, d4, d5, d6, d7, d8, d9, d10, t0, t1, t2, t3, t4, t5, t6, t7, t8, t9, t10, ev⟩ := eleven kFacts kInv
    (rename News h₀ L _ _ => nq)
    rw [ev] at nq
    exact hret _ _ _ _ _ _ _ _ _ _ _ _ _ _ _ _ _ _ _ _ _ _ _ _ _ _ (by k_asm) nq (by assumption))

end Mine
end
section
open PySem PySem.W PyProof.Rows PySem.Flt
set_option maxRecDepth 100000
namespace Mine
theorem rows14 : True := by
  w_top off
  k_with_none
  trivial
theorem rows12 : True := by
  k_with "k_all" => ((first | (refine ne_all (by assumption) ?_; (try dsimp only); omega) | (refine ne_all (And.right (by assumption)) ?_; (try dsimp only); omega)))
  k_with "eval ListComp" => ((k_here; k_dflt (refine LCg.ListComp_U (F₀ := by k_asm) (by with_unfolding_all rfl) (by decide) (by rfl) (by decide) (by rfl) ?_)))
  k_with "CompSrc" => ((k_here; k_dflt (refine LCg.CompSrc.ledger (by rfl) (by k_asm) (by k_asm) (by k_mem) (by first | size_fits | exact Nat.le_of_ble_eq_true rfl) ?_; intro _; lcg_lit)))
  k_with "CompRest" => (((with_unfolding_all first | (refine LCg.CompRest.succ ?_; intro _ _ _ _ _ _ _ _ _ _ hvq1 _ _ _ _ _ _; (first | lcg_open hvq1 | (obtain ⟨_, hv9q1⟩ := hvq1; subst hv9q1))) | refine LCg.CompRest.zero ?_); (try dsimp only)))
  k_with "CompEnd" => ((refine LCg.CompEnd.intro (by assumption) (by assumption) _ (fun _ h => h) (by assumption) (by first | lcg_src | assumption) ?_))
  k_with "call builtin:max" => (((with_reducible show wpAny _ _ (call _ [Value.int _ _, Value.int _ _, Value.int _ _]) _ _ _); (rename News _ _ _ _ => Nq1); (rename Fr _ _ _ _ => Fq1); refine max_three_ii rfl Fq1 Nq1 ?_; clear Nq1; intro _ _ _ _ _))
  k_with "call builtin:min" => (((with_reducible show wpAny _ _ (call _ [Value.int _ _, Value.int _ _, Value.int _ _]) _ _ _); (rename News _ _ _ _ => Nq1); (rename Fr _ _ _ _ => Fq1); refine min_three_ii rfl Fq1 Nq1 ?_; clear Nq1; intro _ _ _ _ _))
  trivial
theorem unr_end {h₀ : Heap} {L I : Addr} {it : Obj} {rest : (Str → Option Value) → List (Addr × Obj) → Prop} {s₁ : Shared} {h' : Heap} {tk : Nat} {m' : Str → Option Value} {q : Addr × Obj} {news' : List (Addr × Obj)} (F : Fr h₀ L h' m') (N : News h₀ L h' (q :: (I, it) :: news'))
    (off : ∀ p ∈ news', p.1 ≠ I) (r : rest m' news') : UnrEnd h₀ L s₁ I it rest { s₁ with heap := h', toks := tk } := UnrEnd.intro F N news' (fun _ hp => List.Mem.tail _ hp) off r
theorem rows13 : True := by
  k_with "UnrEnd" => ((k_dflt (refine' unr_end (by assumption) (by assumption) (by k_all) ?_)))
  k_with "InvEndN" => ((k_dflt kst_close))
  k_with "exec Assign cons ListComp" => (((with_reducible show wpAny _ _ (exec (Stmt.Assign [Expr.Tuple _ _ _] _ _) _) _ _ _); k_dflt (first | refine Assign_Tuple_swapped ?_ | refine Assign_Tuple ?_)))
  trivial
open PyProof.Rows.LCg PySem.Calls PySem.Spec in
/-- a comprehension over three ints whose element is an int, its heap's part as before: one turn stands for the three -/
theorem comp3 {prog : Program} {w : World} {A : Around} {h₀ : Heap} {L : Addr} {m : Str → Option Value} {env : Env} {elt : PySem.Expr} {x : Str} {scope : Scope} {cl : List (Str × Addr)} {s : Shared} {S : List (Addr × Obj) → Prop} {Fin : List Value → List (Addr × Obj) → Prop} {x1 x2 x3 : Int} {u1 u2 u3 : Tok} {nw : List (Addr × Obj)} (f : Int → Int)
    (turn : ∀ (a : Int) (u : Tok) (ys : List Value) I oI C oC D m₂ h tk (E' : Value → Shared → Prop), NsObj oC m₂ → m₂ x = some (.int a u) → Fr h₀ L h m → News h₀ L h ((I, oI) :: (C, oC) :: (D, lst ys) :: nw) → Off3 I C D nw → ((@Ne Nat I C) ∧ (@Ne Nat I D) ∧ (@Ne Nat C D)) →
      wpAny (model prog w) A (eval elt (compEnvC scope cl C env)) (CompEnd h₀ L m { s with heap := h, toks := tk } I oI C oC D (lst ys) S (fun y nw' => nw' = nw ∧ ∃ t : Tok, y = .int (f a) t)) E' { s with heap := h, toks := tk })
    (fin : ∀ t1 t2 t3 : Tok, Fin [.int (f x1) t1, .int (f x2) t2, .int (f x3) t3] nw) :
    CompRest prog w A h₀ L m env elt x scope cl s S (fun i v => (#[Value.int x1 u1, Value.int x2 u2, Value.int x3 u3] : Array Value)[i]? = some v) Fin 3 0 [] nw := by
  refine CompRest.succ fun v I oI C oC D m₂ h tk E' hP hC hx F N off ne => ?_
  cases Option.some.inj hP
  refine wpAny_mono (turn x1 u1 _ I oI C oC D m₂ h tk E' hC hx F N off ne) ?_ fun _ _ h => h
  rintro y1 s1 ⟨h1, tk1, n1, e1, F1, N1, off1, hS1, q1, t1, r1⟩
  subst r1
  rw [q1] at N1 off1 hS1
  refine ⟨h1, tk1, _, e1, F1, N1, off1, hS1, ?_⟩
  refine CompRest.succ fun v I oI C oC D m₂ h tk E' hP hC hx F N off ne => ?_
  cases Option.some.inj hP
  refine wpAny_mono (turn x2 u2 _ I oI C oC D m₂ h tk E' hC hx F N off ne) ?_ fun _ _ h => h
  rintro y2 s2 ⟨h2, tk2, n2, e2, F2, N2, off2, hS2, q2, t2, r2⟩
  subst r2
  rw [q2] at N2 off2 hS2
  refine ⟨h2, tk2, _, e2, F2, N2, off2, hS2, ?_⟩
  refine CompRest.succ fun v I oI C oC D m₂ h tk E' hP hC hx F N off ne => ?_
  cases Option.some.inj hP
  refine wpAny_mono (turn x3 u3 _ I oI C oC D m₂ h tk E' hC hx F N off ne) ?_ fun _ _ h => h
  rintro y3 s3 ⟨h3, tk3, n3, e3, F3, N3, off3, hS3, q3, t3, r3⟩
  subst r3
  rw [q3] at N3 off3 hS3
  refine ⟨h3, tk3, _, e3, F3, N3, off3, hS3, ?_⟩
  exact CompRest.zero (fin t1 t2 t3)
theorem rot_start {S : Int} {p : Int × Int × Int} : p = rotI S ([] : List Int).length p := rfl
theorem rot_step {S r g b k : Int} {pre : List Int} {p : Int × Int × Int} (h : (r, g, b) = rotI S pre.length p) : (S - g, S - b, S - r) = rotI S (pre ++ [k]).length p := by
  rw [List.length_append, List.length_singleton, rotI, ← h]
theorem due_rot0 {k P x1 x2 x3 r g b : Int} (h : (r, g, b) = rotI (max3I (4 * x1) (4 * x2) (4 * x3) + min3I (4 * x1) (4 * x2) (4 * x3)) (rangeKs 0 (k - 0).toNat).length (4 * x1, 4 * x2, 4 * x3)) : (4 * P, r, g, b) = dueI 0 k P x1 x2 x3 := by
  rw [rangeKs_length, Int.sub_zero] at h
  unfold dueI
  rw [if_pos (by decide), if_pos rfl, ← h]
theorem due_rot1 {k P x1 x2 x3 r g b : Int} (h : (r, g, b) = rotI (max3I (4 * x1) (4 * x2) (4 * x3) + min3I (4 * x1) (4 * x2) (4 * x3)) (rangeKs 0 (6 - k - 0).toNat).length (4 * x1, 4 * x2, 4 * x3)) : (4 * P, r, g, b) = dueI 1 k P x1 x2 x3 := by
  rw [rangeKs_length, Int.sub_zero] at h
  unfold dueI
  rw [if_pos (by decide), if_neg (by decide), ← h]
set_option maxHeartbeats 8000000 in
theorem c_due0 {w : World} {tk1 tk2 : Tok} {st : Addr} {P x1 x2 x3 : Int} {tp u1 u2 u3 : Tok} {n : Nat} {k : Int} {mean : ExcName → Option Value} {mg mb : Str → Option Value} {dp un : Nat} {gd : Option (List Code)} {cn : Str} {cs : Scope} {a : Addr} {ccd : Value} {cl : List (Str × Addr)} {outer : List Env} {A₀ : Around} {base h₀ : Heap} {L : Addr} {m : Str → Option Value} {news : List (Addr × Obj)} {s : Shared} {Q E : Value → Shared → Prop}
    (B : Below A₀ base outer h₀) (F : Fr h₀ L s.heap m) (X : (hd.heap_39 w.params).In h₀) (N : News h₀ L s.heap news) (T : Top topProg LS mean mg mb h₀) (hk : cs.kind = .function) (hdp : dp + 3 < recursionLimit) (_hu : un + 40 < cLine)
    (hk1 : 1 ≤ k) (hk5 : k ≤ 5) (hst : (st, W.listOf #[.int P tp, .int x1 u1, .int x2 u2, .int x3 u3] n) ∈ news)
    (hret : ∀ (D : Addr) (p r g b : Int) (t0 t1 t2 t3 : Tok) (nn : Nat) (h' : Heap) (tk' : Nat), (p, r, g, b) = dueI 0 k P x1 x2 x3 → Fr h₀ L h' m → News h₀ L h' ((D, W.listOf #[Value.int p t0, Value.int r t1, Value.int g t2, Value.int b t3] nn) :: news) → AllLt D news → Q (.ref D) { s with heap := h', toks := tk' }) :
    wpAny (model PR w) (ktrTop dp un gd cn cs L a ccd cl outer) (call (.ref 98) [.int 0 tk1, .int k tk2, .ref st]) Q E s := by
  k_with "CompRest" => (first | ((with_reducible show LCg.CompRest _ _ _ _ _ _ _ (.BinOp (.Constant (.int 4) _ _) .Mult (.Name _ _) _) _ _ _ _ _ _ _ _ _ _ _); (with_unfolding_all refine comp3 (fun z => 4 * z) (fun _ _ _ _ _ _ _ _ _ _ _ _ _ _ _ _ _ => ?_) (fun _ _ _ => ?_)); (all_goals (try dsimp only))) | ((with_reducible show LCg.CompRest _ _ _ _ _ _ _ (.BinOp (.BinOp (.Name _ _) .Add (.Name _ _) _) .FloorDiv (.Constant (.int 2) _ _) _) _ _ _ _ _ _ _ _ _ _ _); (with_unfolding_all refine comp3 (fun z => (max3I (4 * x1) (4 * x2) (4 * x3) + z).fdiv 2) (fun _ _ _ _ _ _ _ _ _ _ _ _ _ _ _ _ _ => ?_) (fun _ _ _ => ?_)); (all_goals (try dsimp only))) | ((with_reducible show LCg.CompRest _ _ _ _ _ _ _ (.BinOp (.Name _ _) .FloorDiv (.Constant (.int 2) _ _) _) _ _ _ _ _ _ _ _ _ _ _); (with_unfolding_all refine comp3 (fun z => z.fdiv 2) (fun _ _ _ _ _ _ _ _ _ _ _ _ _ _ _ _ _ => ?_) (fun _ _ _ => ?_)); (all_goals (try dsimp only))) | ((with_reducible show LCg.CompRest _ _ _ _ _ _ _ (.BinOp (.BinOp (.BinOp (.Name _ _) .Sub (.Name _ _) _) .Sub (.Name _ _) _) .Add (.Name _ _) _) _ _ _ _ _ _ _ _ _ _ _); (with_unfolding_all refine comp3 (fun z => 4 * P - max3I (4 * x1) (4 * x2) (4 * x3) - min3I (4 * x1) (4 * x2) (4 * x3) + z) (fun _ _ _ _ _ _ _ _ _ _ _ _ _ _ _ _ _ => ?_) (fun _ _ _ => ?_)); (all_goals (try dsimp only))) | ((with_reducible show LCg.CompRest _ _ _ _ _ _ _ (.BinOp (.BinOp (.BinOp (.Name _ _) .Add (.Name _ _) _) .Add (.BinOp (.Constant (.int 2) _ _) .Mult (.Name _ _) _) _) .FloorDiv (.Constant (.int 4) _ _) _) _ _ _ _ _ _ _ _ _ _ _); (with_unfolding_all refine comp3 (fun z => (max3I (4 * x1) (4 * x2) (4 * x3) + min3I (4 * x1) (4 * x2) (4 * x3) + 2 * z).fdiv 4) (fun _ _ _ _ _ _ _ _ _ _ _ _ _ _ _ _ _ => ?_) (fun _ _ _ => ?_)); (all_goals (try dsimp only))) | ((with_reducible show LCg.CompRest _ _ _ _ _ _ _ (.Call (.Name _ _) [.Name _ _, .BinOp _ .Add _ _] _ _) _ _ _ _ _ _ _ _ _ _ _); (with_unfolding_all refine comp3 (fun z => cutHi (4 * P) (z + (k * (4 * P)).fdiv 8)) (fun _ _ _ _ _ _ _ _ _ _ _ _ _ _ _ _ _ => ?_) (fun _ _ _ => ?_)); (all_goals (try dsimp only))) | ((with_reducible show LCg.CompRest _ _ _ _ _ _ _ (.Call (.Name _ _) [.Constant (.int 0) _ _, .BinOp _ .Sub _ _] _ _) _ _ _ _ _ _ _ _ _ _ _); (with_unfolding_all refine comp3 (fun z => cutLo (z - (k * (4 * P)).fdiv 8)) (fun _ _ _ _ _ _ _ _ _ _ _ _ _ _ _ _ _ => ?_) (fun _ _ _ => ?_)); (all_goals (try dsimp only))))
  k_with "CompEnd" => (refine LCg.CompEnd.intro (by assumption) (by assumption) _ (fun _ h => h) (by assumption) (by first | lcg_src | assumption) ⟨rfl, _, rfl⟩)
  k_with "pyIter ref" => k_state (fun pre r g b => (r, g, b) = rotI (max3I (4 * x1) (4 * x2) (4 * x3) + min3I (4 * x1) (4 * x2) (4 * x3)) pre.length (4 * x1, 4 * x2, 4 * x3)) "r" "g" "b"
  k_with "state" => first | with_reducible exact rot_start | with_reducible exact rot_step (by with_reducible assumption)
  have hfill : Challenge.rw_mq0241_01 = Challenge.rw_mq0241_01 ∧ Mine.hd.heap_39 = Mine.hd.heap_39 := by (k_fill; exact ⟨rfl, rfl⟩)
  clear hfill
  replace N := news_front N hst
  refine wpAny_call ?_
  k_dflt (refine' code_defC ?k1 ?k2 ?k3 ?k4 ?k5 ?kA ?kF ?kK ?k6 ?k7 ?k8 ?k9 ?kB ?kD ?_ ?c2 ?c3 ?c4; (case kA => exact rfl); (case kF => exact rfl); (case kK => assumption); (case k1 => k_asm); (case k2 => k_asm); (case k3 => k_asm); (case k4 => k_asm); (case k5 => k_asm); (case k6 => k_is); (case k7 => k_is); (case k8 => ktr_room); (case k9 => exact BindsTo.of_eq rfl); (case kB => exact rfl); (case kD => decide +kernel); (case c2 => exact rfl); (case c3 => exact rfl); (case c4 => exact rfl); k_whole)
  intro gg LL hh tkk cells FG FF NN YY BB XX TT l1
  (try k_lt l1)
  (try obtain ⟨l1, l1b⟩ := l1)
  k_cells YY
  (try simp only [List.cons_append, List.nil_append] at NN)
  (try dsimp only)
  (try k_fold)
  k_steps
  all_goals (
    (rename News h₀ L _ _ => nq)
    (rename (_ < _) ∧ _ => lq)
    (repeat (replace lq := And.right lq))
    refine hret _ _ _ _ _ _ _ _ _ _ _ _ ?_ (by k_asm) (cb_drop nq (List.forall_mem_cons.mpr ⟨List.Mem.head _, by intro p hp; repeat (first | exact hp | refine List.Mem.tail _ ?_)⟩)) lq
    exact due_rot0 (by assumption))

set_option maxHeartbeats 8000000 in
theorem c_due1 {w : World} {tk1 tk2 : Tok} {st : Addr} {P x1 x2 x3 : Int} {tp u1 u2 u3 : Tok} {n : Nat} {k : Int} {mean : ExcName → Option Value} {mg mb : Str → Option Value} {dp un : Nat} {gd : Option (List Code)} {cn : Str} {cs : Scope} {a : Addr} {ccd : Value} {cl : List (Str × Addr)} {outer : List Env} {A₀ : Around} {base h₀ : Heap} {L : Addr} {m : Str → Option Value} {news : List (Addr × Obj)} {s : Shared} {Q E : Value → Shared → Prop}
    (B : Below A₀ base outer h₀) (F : Fr h₀ L s.heap m) (X : (hd.heap_39 w.params).In h₀) (N : News h₀ L s.heap news) (T : Top topProg LS mean mg mb h₀) (hk : cs.kind = .function) (hdp : dp + 3 < recursionLimit) (_hu : un + 40 < cLine)
    (hk1 : 1 ≤ k) (hk5 : k ≤ 5) (hst : (st, W.listOf #[.int P tp, .int x1 u1, .int x2 u2, .int x3 u3] n) ∈ news)
    (hret : ∀ (D : Addr) (p r g b : Int) (t0 t1 t2 t3 : Tok) (nn : Nat) (h' : Heap) (tk' : Nat), (p, r, g, b) = dueI 1 k P x1 x2 x3 → Fr h₀ L h' m → News h₀ L h' ((D, W.listOf #[Value.int p t0, Value.int r t1, Value.int g t2, Value.int b t3] nn) :: news) → AllLt D news → Q (.ref D) { s with heap := h', toks := tk' }) :
    wpAny (model PR w) (ktrTop dp un gd cn cs L a ccd cl outer) (call (.ref 98) [.int 1 tk1, .int k tk2, .ref st]) Q E s := by
  k_with "CompRest" => (first | ((with_reducible show LCg.CompRest _ _ _ _ _ _ _ (.BinOp (.Constant (.int 4) _ _) .Mult (.Name _ _) _) _ _ _ _ _ _ _ _ _ _ _); (with_unfolding_all refine comp3 (fun z => 4 * z) (fun _ _ _ _ _ _ _ _ _ _ _ _ _ _ _ _ _ => ?_) (fun _ _ _ => ?_)); (all_goals (try dsimp only))) | ((with_reducible show LCg.CompRest _ _ _ _ _ _ _ (.BinOp (.BinOp (.Name _ _) .Add (.Name _ _) _) .FloorDiv (.Constant (.int 2) _ _) _) _ _ _ _ _ _ _ _ _ _ _); (with_unfolding_all refine comp3 (fun z => (max3I (4 * x1) (4 * x2) (4 * x3) + z).fdiv 2) (fun _ _ _ _ _ _ _ _ _ _ _ _ _ _ _ _ _ => ?_) (fun _ _ _ => ?_)); (all_goals (try dsimp only))) | ((with_reducible show LCg.CompRest _ _ _ _ _ _ _ (.BinOp (.Name _ _) .FloorDiv (.Constant (.int 2) _ _) _) _ _ _ _ _ _ _ _ _ _ _); (with_unfolding_all refine comp3 (fun z => z.fdiv 2) (fun _ _ _ _ _ _ _ _ _ _ _ _ _ _ _ _ _ => ?_) (fun _ _ _ => ?_)); (all_goals (try dsimp only))) | ((with_reducible show LCg.CompRest _ _ _ _ _ _ _ (.BinOp (.BinOp (.BinOp (.Name _ _) .Sub (.Name _ _) _) .Sub (.Name _ _) _) .Add (.Name _ _) _) _ _ _ _ _ _ _ _ _ _ _); (with_unfolding_all refine comp3 (fun z => 4 * P - max3I (4 * x1) (4 * x2) (4 * x3) - min3I (4 * x1) (4 * x2) (4 * x3) + z) (fun _ _ _ _ _ _ _ _ _ _ _ _ _ _ _ _ _ => ?_) (fun _ _ _ => ?_)); (all_goals (try dsimp only))) | ((with_reducible show LCg.CompRest _ _ _ _ _ _ _ (.BinOp (.BinOp (.BinOp (.Name _ _) .Add (.Name _ _) _) .Add (.BinOp (.Constant (.int 2) _ _) .Mult (.Name _ _) _) _) .FloorDiv (.Constant (.int 4) _ _) _) _ _ _ _ _ _ _ _ _ _ _); (with_unfolding_all refine comp3 (fun z => (max3I (4 * x1) (4 * x2) (4 * x3) + min3I (4 * x1) (4 * x2) (4 * x3) + 2 * z).fdiv 4) (fun _ _ _ _ _ _ _ _ _ _ _ _ _ _ _ _ _ => ?_) (fun _ _ _ => ?_)); (all_goals (try dsimp only))) | ((with_reducible show LCg.CompRest _ _ _ _ _ _ _ (.Call (.Name _ _) [.Name _ _, .BinOp _ .Add _ _] _ _) _ _ _ _ _ _ _ _ _ _ _); (with_unfolding_all refine comp3 (fun z => cutHi (4 * P) (z + (k * (4 * P)).fdiv 8)) (fun _ _ _ _ _ _ _ _ _ _ _ _ _ _ _ _ _ => ?_) (fun _ _ _ => ?_)); (all_goals (try dsimp only))) | ((with_reducible show LCg.CompRest _ _ _ _ _ _ _ (.Call (.Name _ _) [.Constant (.int 0) _ _, .BinOp _ .Sub _ _] _ _) _ _ _ _ _ _ _ _ _ _ _); (with_unfolding_all refine comp3 (fun z => cutLo (z - (k * (4 * P)).fdiv 8)) (fun _ _ _ _ _ _ _ _ _ _ _ _ _ _ _ _ _ => ?_) (fun _ _ _ => ?_)); (all_goals (try dsimp only))))
  k_with "CompEnd" => (refine LCg.CompEnd.intro (by assumption) (by assumption) _ (fun _ h => h) (by assumption) (by first | lcg_src | assumption) ⟨rfl, _, rfl⟩)
  k_with "pyIter ref" => k_state (fun pre r g b => (r, g, b) = rotI (max3I (4 * x1) (4 * x2) (4 * x3) + min3I (4 * x1) (4 * x2) (4 * x3)) pre.length (4 * x1, 4 * x2, 4 * x3)) "r" "g" "b"
  k_with "state" => first | with_reducible exact rot_start | with_reducible exact rot_step (by with_reducible assumption)
  have hfill : Challenge.rw_mq0241_01 = Challenge.rw_mq0241_01 ∧ Mine.hd.heap_39 = Mine.hd.heap_39 := by (k_fill; exact ⟨rfl, rfl⟩)
  clear hfill
  replace N := news_front N hst
  refine wpAny_call ?_
  k_dflt (refine' code_defC ?k1 ?k2 ?k3 ?k4 ?k5 ?kA ?kF ?kK ?k6 ?k7 ?k8 ?k9 ?kB ?kD ?_ ?c2 ?c3 ?c4; (case kA => exact rfl); (case kF => exact rfl); (case kK => assumption); (case k1 => k_asm); (case k2 => k_asm); (case k3 => k_asm); (case k4 => k_asm); (case k5 => k_asm); (case k6 => k_is); (case k7 => k_is); (case k8 => ktr_room); (case k9 => exact BindsTo.of_eq rfl); (case kB => exact rfl); (case kD => decide +kernel); (case c2 => exact rfl); (case c3 => exact rfl); (case c4 => exact rfl); k_whole)
  intro gg LL hh tkk cells FG FF NN YY BB XX TT l1
  (try k_lt l1)
  (try obtain ⟨l1, l1b⟩ := l1)
  k_cells YY
  (try simp only [List.cons_append, List.nil_append] at NN)
  (try dsimp only)
  (try k_fold)
  k_steps
  all_goals (
    (rename News h₀ L _ _ => nq)
    (rename (_ < _) ∧ _ => lq)
    (repeat (replace lq := And.right lq))
    refine hret _ _ _ _ _ _ _ _ _ _ _ _ ?_ (by k_asm) (cb_drop nq (List.forall_mem_cons.mpr ⟨List.Mem.head _, by intro p hp; repeat (first | exact hp | refine List.Mem.tail _ ?_)⟩)) lq
    exact due_rot1 (by assumption))

set_option maxHeartbeats 8000000 in
theorem c_due27 {w : World} {kind : Int} {tk1 tk2 : Tok} {st : Addr} {P x1 x2 x3 : Int} {tp u1 u2 u3 : Tok} {n : Nat} {k : Int} {mean : ExcName → Option Value} {mg mb : Str → Option Value} {dp un : Nat} {gd : Option (List Code)} {cn : Str} {cs : Scope} {a : Addr} {ccd : Value} {cl : List (Str × Addr)} {outer : List Env} {A₀ : Around} {base h₀ : Heap} {L : Addr} {m : Str → Option Value} {news : List (Addr × Obj)} {s : Shared} {Q E : Value → Shared → Prop}
    (B : Below A₀ base outer h₀) (F : Fr h₀ L s.heap m) (X : (hd.heap_39 w.params).In h₀) (N : News h₀ L s.heap news) (T : Top topProg LS mean mg mb h₀) (hk : cs.kind = .function) (hdp : dp + 3 < recursionLimit) (_hu : un + 40 < cLine)
    (hk1 : 1 ≤ k) (hk5 : k ≤ 5) (hk0 : 2 ≤ kind) (hk8 : kind < 8) (hst : (st, W.listOf #[.int P tp, .int x1 u1, .int x2 u2, .int x3 u3] n) ∈ news)
    (hret : ∀ (D : Addr) (p r g b : Int) (t0 t1 t2 t3 : Tok) (nn : Nat) (h' : Heap) (tk' : Nat), (p, r, g, b) = dueI kind k P x1 x2 x3 → Fr h₀ L h' m → News h₀ L h' ((D, W.listOf #[Value.int p t0, Value.int r t1, Value.int g t2, Value.int b t3] nn) :: news) → AllLt D news → Q (.ref D) { s with heap := h', toks := tk' }) :
    wpAny (model PR w) (ktrTop dp un gd cn cs L a ccd cl outer) (call (.ref 98) [.int kind tk1, .int k tk2, .ref st]) Q E s := by
  k_with "CompRest" => (first | ((with_reducible show LCg.CompRest _ _ _ _ _ _ _ (.BinOp (.Constant (.int 4) _ _) .Mult (.Name _ _) _) _ _ _ _ _ _ _ _ _ _ _); (with_unfolding_all refine comp3 (fun z => 4 * z) (fun _ _ _ _ _ _ _ _ _ _ _ _ _ _ _ _ _ => ?_) (fun _ _ _ => ?_)); (all_goals (try dsimp only))) | ((with_reducible show LCg.CompRest _ _ _ _ _ _ _ (.BinOp (.BinOp (.Name _ _) .Add (.Name _ _) _) .FloorDiv (.Constant (.int 2) _ _) _) _ _ _ _ _ _ _ _ _ _ _); (with_unfolding_all refine comp3 (fun z => (max3I (4 * x1) (4 * x2) (4 * x3) + z).fdiv 2) (fun _ _ _ _ _ _ _ _ _ _ _ _ _ _ _ _ _ => ?_) (fun _ _ _ => ?_)); (all_goals (try dsimp only))) | ((with_reducible show LCg.CompRest _ _ _ _ _ _ _ (.BinOp (.Name _ _) .FloorDiv (.Constant (.int 2) _ _) _) _ _ _ _ _ _ _ _ _ _ _); (with_unfolding_all refine comp3 (fun z => z.fdiv 2) (fun _ _ _ _ _ _ _ _ _ _ _ _ _ _ _ _ _ => ?_) (fun _ _ _ => ?_)); (all_goals (try dsimp only))) | ((with_reducible show LCg.CompRest _ _ _ _ _ _ _ (.BinOp (.BinOp (.BinOp (.Name _ _) .Sub (.Name _ _) _) .Sub (.Name _ _) _) .Add (.Name _ _) _) _ _ _ _ _ _ _ _ _ _ _); (with_unfolding_all refine comp3 (fun z => 4 * P - max3I (4 * x1) (4 * x2) (4 * x3) - min3I (4 * x1) (4 * x2) (4 * x3) + z) (fun _ _ _ _ _ _ _ _ _ _ _ _ _ _ _ _ _ => ?_) (fun _ _ _ => ?_)); (all_goals (try dsimp only))) | ((with_reducible show LCg.CompRest _ _ _ _ _ _ _ (.BinOp (.BinOp (.BinOp (.Name _ _) .Add (.Name _ _) _) .Add (.BinOp (.Constant (.int 2) _ _) .Mult (.Name _ _) _) _) .FloorDiv (.Constant (.int 4) _ _) _) _ _ _ _ _ _ _ _ _ _ _); (with_unfolding_all refine comp3 (fun z => (max3I (4 * x1) (4 * x2) (4 * x3) + min3I (4 * x1) (4 * x2) (4 * x3) + 2 * z).fdiv 4) (fun _ _ _ _ _ _ _ _ _ _ _ _ _ _ _ _ _ => ?_) (fun _ _ _ => ?_)); (all_goals (try dsimp only))) | ((with_reducible show LCg.CompRest _ _ _ _ _ _ _ (.Call (.Name _ _) [.Name _ _, .BinOp _ .Add _ _] _ _) _ _ _ _ _ _ _ _ _ _ _); (with_unfolding_all refine comp3 (fun z => cutHi (4 * P) (z + (k * (4 * P)).fdiv 8)) (fun _ _ _ _ _ _ _ _ _ _ _ _ _ _ _ _ _ => ?_) (fun _ _ _ => ?_)); (all_goals (try dsimp only))) | ((with_reducible show LCg.CompRest _ _ _ _ _ _ _ (.Call (.Name _ _) [.Constant (.int 0) _ _, .BinOp _ .Sub _ _] _ _) _ _ _ _ _ _ _ _ _ _ _); (with_unfolding_all refine comp3 (fun z => cutLo (z - (k * (4 * P)).fdiv 8)) (fun _ _ _ _ _ _ _ _ _ _ _ _ _ _ _ _ _ => ?_) (fun _ _ _ => ?_)); (all_goals (try dsimp only))))
  k_with "CompEnd" => (refine LCg.CompEnd.intro (by assumption) (by assumption) _ (fun _ h => h) (by assumption) (by first | lcg_src | assumption) ⟨rfl, _, rfl⟩)
  have hfill : Challenge.rw_mq0241_01 = Challenge.rw_mq0241_01 ∧ Mine.hd.heap_39 = Mine.hd.heap_39 := by (k_fill; exact ⟨rfl, rfl⟩)
  clear hfill
  replace N := news_front N hst
  refine wpAny_call ?_
  k_dflt (refine' code_defC ?k1 ?k2 ?k3 ?k4 ?k5 ?kA ?kF ?kK ?k6 ?k7 ?k8 ?k9 ?kB ?kD ?_ ?c2 ?c3 ?c4; (case kA => exact rfl); (case kF => exact rfl); (case kK => assumption); (case k1 => k_asm); (case k2 => k_asm); (case k3 => k_asm); (case k4 => k_asm); (case k5 => k_asm); (case k6 => k_is); (case k7 => k_is); (case k8 => ktr_room); (case k9 => exact BindsTo.of_eq rfl); (case kB => exact rfl); (case kD => decide +kernel); (case c2 => exact rfl); (case c3 => exact rfl); (case c4 => exact rfl); k_whole)
  intro gg LL hh tkk cells FG FF NN YY BB XX TT l1
  (try k_lt l1)
  (try obtain ⟨l1, l1b⟩ := l1)
  k_cells YY
  (try simp only [List.cons_append, List.nil_append] at NN)
  (try dsimp only)
  (try k_fold)
  k_steps
  all_goals (
    (rename News h₀ L _ _ => nq)
    (rename (_ < _) ∧ _ => lq)
    (repeat (replace lq := And.right lq))
    refine hret _ _ _ _ _ _ _ _ _ _ _ _ ?_ (by k_asm) (cb_drop nq (List.forall_mem_cons.mpr ⟨List.Mem.head _, by intro p hp; repeat (first | exact hp | refine List.Mem.tail _ ?_)⟩)) lq
    first | (rw [show kind = 2 by assumption]; exact rfl) | (rw [show kind = 3 by assumption]; exact rfl) | (rw [show kind = 4 by assumption]; exact rfl) | (rw [show kind = 5 by assumption]; exact rfl) | (rw [show kind = 6 by assumption]; exact rfl) | (unfold dueI; rw [if_neg (Int.not_lt.mpr hk0), if_neg (show kind ≠ 2 by assumption), if_neg (show kind ≠ 3 by assumption), if_neg (show kind ≠ 4 by assumption), if_neg (show kind ≠ 5 by assumption), if_neg (show kind ≠ 6 by assumption)]; exact rfl))

theorem c_due {w : World} {tk1 tk2 : Tok} {kind k : Int} {st : Addr} {P x1 x2 x3 : Int} {tp u1 u2 u3 : Tok} {n : Nat} {mean : ExcName → Option Value} {mg mb : Str → Option Value} {dp un : Nat} {gd : Option (List Code)} {cn : Str} {cs : Scope} {a : Addr} {ccd : Value} {cl : List (Str × Addr)} {outer : List Env} {A₀ : Around} {base h₀ : Heap} {L : Addr} {m : Str → Option Value} {news : List (Addr × Obj)} {s : Shared} {Q E : Value → Shared → Prop}
    (B : Below A₀ base outer h₀) (F : Fr h₀ L s.heap m) (X : (hd.heap_39 w.params).In h₀) (N : News h₀ L s.heap news) (T : Top topProg LS mean mg mb h₀) (hk : cs.kind = .function) (hdp : dp + 3 < recursionLimit) (_hu : un + 40 < cLine)
    (hk1 : 1 ≤ k) (hk5 : k ≤ 5) (hk0 : 0 ≤ kind) (hk8 : kind < 8) (hst : (st, W.listOf #[.int P tp, .int x1 u1, .int x2 u2, .int x3 u3] n) ∈ news)
    (hret : ∀ (D : Addr) (p r g b : Int) (t0 t1 t2 t3 : Tok) (nn : Nat) (h' : Heap) (tk' : Nat), (p, r, g, b) = dueI kind k P x1 x2 x3 → Fr h₀ L h' m → News h₀ L h' ((D, W.listOf #[Value.int p t0, Value.int r t1, Value.int g t2, Value.int b t3] nn) :: news) → AllLt D news → Q (.ref D) { s with heap := h', toks := tk' }) :
    wpAny (model PR w) (ktrTop dp un gd cn cs L a ccd cl outer) (call (.ref 98) [.int kind tk1, .int k tk2, .ref st]) Q E s := by
  by_cases h0 : kind = 0
  · subst h0; exact c_due0 B F X N T hk hdp _hu hk1 hk5 hst hret
  · by_cases h1 : kind = 1
    · subst h1; exact c_due1 B F X N T hk hdp _hu hk1 hk5 hst hret
    · exact c_due27 B F X N T hk hdp _hu hk1 hk5 (by omega) hk8 hst hret
end Mine
end
section
open PySem PySem.W PyProof.Rows PySem.Flt PySem.Calls PySem.Spec
set_option maxRecDepth 100000
namespace Mine
def LIt (o : Obj) (ax : Addr) (i : Nat) : Prop := o.cls = .type "list_iterator" ∧ o.data = .fields #[.ref ax, .int i 0]
/-- between two turns of a for over a list's iterator -/
structure At (h₀ : Heap) (L I ax : Addr) (lo : Obj) (Inv : Nat → (Str → Option Value) → List (Addr × Obj) → Prop) (s : Shared) (i : Nat) (s' : Shared) : Prop where
  out : ∃ h' tk m' news oI, s' = { s with heap := h', toks := tk } ∧ Fr h₀ L h' m' ∧ News h₀ L h' ((I, oI) :: news) ∧ LIt oI ax i ∧ (∀ p ∈ news, p.1 ≠ I) ∧ (ax, lo) ∈ news ∧ Inv i m' news
theorem news_tail {h₀ h : Heap} {L : Addr} {q : Addr × Obj} {news : List (Addr × Obj)} (N : News h₀ L h (q :: news)) : News h₀ L h news := fun p hp => N p (.tail _ hp)
theorem news_set {h₀ h h' : Heap} {L I : Addr} {oI oI' : Obj} {news : List (Addr × Obj)} (N : News h₀ L h ((I, oI) :: news)) (off : ∀ p ∈ news, p.1 ≠ I) (hs : Heap.SameBut I h h') (ho : h'.get? I = some oI') : News h₀ L h' ((I, oI') :: news) :=
  News.setIn (own := []) (rest := news) N (fun _ h => nomatch h) off hs ho
section
variable {prog : Program} {w : World} {A : Around} {s : Shared} {env : Env} {h₀ : Heap} {L I ax : Addr} {lo : Obj} {items : Array Value} {nn : Nat} {x : Str} {px : Pos} {body : List Stmt} {R : Result → Shared → Prop}
theorem loopL (hh : A.handled = none) (hL : env.locals = L) (hx : env.kindOf x = some .local) (hk : env.scope.kind = .function) (hlo : lo = W.listOf items nn)
    (Inv : Nat → (Str → Option Value) → List (Addr × Obj) → Prop)
    (turn : ∀ i v h' tk m' news oI, items[i]? = some v → Fr h₀ L h' (fun y => if y = x then some v else m' y) → News h₀ L h' ((I, oI) :: news) → LIt oI ax (i + 1) → (∀ p ∈ news, p.1 ≠ I) → (ax, lo) ∈ news → Inv i m' news →
      wpAny (model prog w) A (execs body env) (fun f s₃ => match f with
        | .next | .cont => At h₀ L I ax lo Inv s (i + 1) s₃
        | .brk => R (.ok .next) s₃
        | .ret v => R (.ok (.ret v)) s₃) (notedBy (model prog w) A env fun e s' => R (.error e) s') { s with heap := h', toks := tk })
    (fin : ∀ h' tk m' news, Fr h₀ L h' m' → News h₀ L h' news → (ax, lo) ∈ news → Inv items.size m' news → R (.ok .next) { s with heap := h', toks := tk })
    {i₀ : Nat} {s' : Shared} (hi₀ : i₀ ≤ items.size) (h : At h₀ L I ax lo Inv s i₀ s') : codeAny (model prog w) A (.forLoop (.Name x px) (.ref I) body [] env) R s' := by
  subst hlo
  refine codeAny_forLoop (fun k s' => ∃ i, i ≤ items.size ∧ k = items.size - i ∧ At h₀ L I ax (W.listOf items nn) Inv s i s') ?_ (items.size - i₀) ⟨i₀, hi₀, rfl, h⟩
  rintro k s₁ ⟨i, hi, hki, ⟨h', tk, m', news, oI, rfl, F, N, hIt, off, hax, hInv⟩⟩
  have hI := N (I, oI) (.head _)
  have hA := (news_tail N) _ hax
  have hit : ({ s with heap := h', toks := tk } : Shared).heap.IsListIter I ax i := ⟨oI, hI.1, hIt.1, hIt.2⟩
  have hli : ({ s with heap := h', toks := tk } : Shared).heap.IsList ax items := ⟨_, hA.1, rfl, nn, rfl⟩
  rcases Nat.lt_or_ge i items.size with hlt | hge
  · refine wpAny_pyNext_list_item hit hli (x := items[i]) (by simp [hlt]) fun h₂ hit₂ hs₂ => ?_
    obtain ⟨oI', ho', hc', hd'⟩ := hit₂
    have F₂ : Fr h₀ L h₂ m' := F.change hs₂ hI.2.1 hI.2.2
    have N₂ := news_set N off hs₂ ho'
    refine wpAny_assign_Name (wpAny_storeName_local hx (by rw [hL]; exact F₂.ns) (fun h₃ hn hs₃ => ?_) (by rw [hk]; rfl))
    rw [hL] at hn hs₃
    refine wpAny_mono (turn i items[i] h₃ (tk + 1) m' news oI' (by simp [hlt]) (F₂.set hn hs₃) (N₂.set hs₃) ⟨hc', hd'⟩ off hax hInv) (fun f s₃ hf => ?_) fun _ _ e => e
    cases f with
    | next => exact ⟨items.size - (i + 1), by omega, i + 1, hlt, rfl, hf⟩
    | cont => exact ⟨items.size - (i + 1), by omega, i + 1, hlt, rfl, hf⟩
    | brk => exact hf
    | ret v => exact hf
  · have hie : i = items.size := Nat.le_antisymm hi hge
    subst hie
    refine wpAny_pyNext_list_end hh hit hli (by simp) fun h₂ he => ?_
    refine wpAny_execs_nil (fin h₂ tk m' news ?_ (fun p hp => ⟨he p.1 p.2 (off p hp) (N p (.tail _ hp)).1, (N p (.tail _ hp)).2⟩) hax hInv)
    obtain ⟨oL, a1, a2, hoL, a3⟩ := F.ns
    refine ⟨⟨oL, a1, a2, he L oL (fun e => hI.2.1 e.symm) hoL, a3⟩, fun b o e => he b o (fun q => ?_) (F.keep b o e), F.above⟩
    rw [q, hI.2.2] at e; cases e
theorem loopT (hh : A.handled = none) {target : Expr} (ht : ∀ v, letOwnedTupleGo target (.ref I) v = pure ()) (hlo : lo = W.listOf items nn)
    (Inv : Nat → (Str → Option Value) → List (Addr × Obj) → Prop)
    (turn : ∀ i v h' tk m' news oI, items[i]? = some v → Fr h₀ L h' m' → News h₀ L h' ((I, oI) :: news) → LIt oI ax (i + 1) → (∀ p ∈ news, p.1 ≠ I) → (ax, lo) ∈ news → Inv i m' news →
      wpAny (model prog w) A (assign target env v) (fun _ s₂ => wpAny (model prog w) A (execs body env) (fun f s₃ => match f with
        | .next | .cont => At h₀ L I ax lo Inv s (i + 1) s₃
        | .brk => R (.ok .next) s₃
        | .ret v => R (.ok (.ret v)) s₃) (notedBy (model prog w) A env fun e s' => R (.error e) s') s₂) (notedBy (model prog w) A env fun e s' => R (.error e) s') { s with heap := h', toks := tk })
    (fin : ∀ h' tk m' news, Fr h₀ L h' m' → News h₀ L h' news → (ax, lo) ∈ news → Inv items.size m' news → R (.ok .next) { s with heap := h', toks := tk })
    {i₀ : Nat} {s' : Shared} (hi₀ : i₀ ≤ items.size) (h : At h₀ L I ax lo Inv s i₀ s') : codeAny (model prog w) A (.forLoop target (.ref I) body [] env) R s' := by
  subst hlo
  refine codeAny_forLoop (fun k s' => ∃ i, i ≤ items.size ∧ k = items.size - i ∧ At h₀ L I ax (W.listOf items nn) Inv s i s') ?_ (items.size - i₀) ⟨i₀, hi₀, rfl, h⟩ ht
  rintro k s₁ ⟨i, hi, hki, ⟨h', tk, m', news, oI, rfl, F, N, hIt, off, hax, hInv⟩⟩
  have hI := N (I, oI) (.head _)
  have hA := (news_tail N) _ hax
  have hit : ({ s with heap := h', toks := tk } : Shared).heap.IsListIter I ax i := ⟨oI, hI.1, hIt.1, hIt.2⟩
  have hli : ({ s with heap := h', toks := tk } : Shared).heap.IsList ax items := ⟨_, hA.1, rfl, nn, rfl⟩
  rcases Nat.lt_or_ge i items.size with hlt | hge
  · refine wpAny_pyNext_list_item hit hli (x := items[i]) (by simp [hlt]) fun h₂ hit₂ hs₂ => ?_
    obtain ⟨oI', ho', hc', hd'⟩ := hit₂
    have F₂ : Fr h₀ L h₂ m' := F.change hs₂ hI.2.1 hI.2.2
    have N₂ := news_set N off hs₂ ho'
    refine wpAny_mono (turn i items[i] h₂ tk m' news oI' (by simp [hlt]) F₂ N₂ ⟨hc', hd'⟩ off hax hInv) (fun _ s₂ h₂' => wpAny_mono h₂' (fun f s₃ hf => ?_) fun _ _ e => e) fun _ _ e => e
    cases f with
    | next => exact ⟨items.size - (i + 1), by omega, i + 1, hlt, rfl, hf⟩
    | cont => exact ⟨items.size - (i + 1), by omega, i + 1, hlt, rfl, hf⟩
    | brk => exact hf
    | ret v => exact hf
  · have hie : i = items.size := Nat.le_antisymm hi hge
    subst hie
    refine wpAny_pyNext_list_end hh hit hli (by simp) fun h₂ he => ?_
    refine wpAny_execs_nil (fin h₂ tk m' news ?_ (fun p hp => ⟨he p.1 p.2 (off p hp) (N p (.tail _ hp)).1, (N p (.tail _ hp)).2⟩) hax hInv)
    obtain ⟨oL, a1, a2, hoL, a3⟩ := F.ns
    refine ⟨⟨oL, a1, a2, he L oL (fun e => hI.2.1 e.symm) hoL, a3⟩, fun b o e => he b o (fun q => ?_) (F.keep b o e), F.above⟩
    rw [q, hI.2.2] at e; cases e
end
end Mine
end
section
open PySem PySem.W PyProof.Rows PySem.Flt PySem.Calls PySem.Spec
set_option maxRecDepth 100000
namespace Mine
section
variable {prog : Program} {w : World} {A : Around} {E : Value → Shared → Prop} {s : Shared} {h₀ : Heap} {L I ax : Addr} {m : Str → Option Value} {news : List (Addr × Obj)} {items : Array Value} {nn : Nat} {oI : Obj} {i : Nat} {v : Value}
theorem iter_list {Q : Value → Shared → Prop} (F : Fr h₀ L s.heap m) (N : News h₀ L s.heap news) (hp : (ax, W.listOf items nn) ∈ news)
    (h : ∀ (I : Addr) h' oI, Fr h₀ L h' m → News h₀ L h' ((I, oI) :: news) → (∀ p ∈ news, p.1 < I) → LIt oI ax 0 → Q (.ref I) { s with heap := h' }) :
    wpAny (model prog w) A (call (.builtin "iter") [.ref ax]) Q E s := by
  refine call_function_entry (by decide +kernel) (by decide +kernel) kdk_entry_iter (kdk_args_iter _) ?_
  unfold Builtin.«iter»
  refine wpAny_bind (m := someArgs "iter" 1 2 _) (wpAny_of_eq (a := [Value.ref ax]) (by first | rfl | kernel_rfl!) ?_)
  show wpAny _ _ (pyIter (.ref ax) >>= _) _ _ _
  have hA := N _ hp
  refine wpAny_bind (wpAny_pyIter_list (items := items) ⟨_, hA.1, rfl, nn, rfl⟩ ?_)
  exact wpAny_pure ⟨_, rfl, h _ _ _ (F.push _) (News.push F N _ rfl) (fun q hq => Heap.lt_size (N q hq).1) ⟨rfl, rfl⟩⟩
theorem special_list {Q : Option Value → Shared → Prop} {it l : Addr} {x : Value} (hit : s.heap.IsListIter it l i) (hl : s.heap.IsList l items) (hx : items[i]? = some x)
    (hQ : ∀ h', h'.IsListIter it l (i + 1) → Heap.SameBut it s.heap h' → Q (some x) { s with heap := h' }) :
    wpAny (model prog w) A (callSpecial? (.ref it) (Str.ofString "__next__")) Q E s := by
  obtain ⟨o, ho, hc, hd⟩ := id hit
  obtain ⟨ol, hol, _, nl, hdl⟩ := hl
  refine wpAny_callSpecial?_slot (name := Str.ofString "__next__") hit.typeIs slot_listiter_next
    (wpAny_call_entry slot_listiter_next hit.typeIs entry_listiter_next ?_ (args_listiter_next _))
  show wpAny _ _ (field (.ref it) 0 >>= _) _ _ s
  refine wpAny_bind (wpAny_field ho hd (x := .ref l) rfl ?_)
  show wpAny _ _ (if (Value.ref l == Value.none) = true then _ else _) _ _ s
  rw [if_neg (show ¬ ((Value.ref l == Value.none) = true) from Bool.false_ne_true)]
  show wpAny _ _ (field (.ref it) 1 >>= _) _ _ s
  refine wpAny_bind (wpAny_field ho hd (x := .int i 0) rfl ?_)
  show wpAny _ _ (seqItems? (.ref l) >>= _) _ _ s
  refine wpAny_bind (wpAny_seqItems hol hdl ?_)
  simp only [Int.toNat_natCast, hx]
  refine wpAny_bind (wpAny_setField ho hd (by simp) (wpAny_pure ⟨x, rfl, hQ _ ?_ (Heap.SameBut.update ..)⟩))
  exact ⟨_, Heap.get?_update_self _ ho (Obj.isFreed_of_fields (Obj.data_mapFields hd _)), (Obj.cls_mapFields ..).trans hc, by
    rw [Obj.data_mapFields hd]; simp [rawInt]⟩
theorem next_list {Q : Value → Shared → Prop} (F : Fr h₀ L s.heap m) (N : News h₀ L s.heap ((I, oI) :: news)) (off : ∀ p ∈ news, p.1 ≠ I) (hi : LIt oI ax i) (hp : (ax, W.listOf items nn) ∈ news) (hx : items[i]? = some v)
    (h : ∀ h' o', Fr h₀ L h' m → News h₀ L h' ((I, o') :: news) → LIt o' ax (i + 1) → Q v { s with heap := h' }) :
    wpAny (model prog w) A (call (.builtin "next") [.ref I]) Q E s := by
  have hI := N (I, oI) (.head _)
  have hA := N _ (.tail _ hp)
  have hit : s.heap.IsListIter I ax i := ⟨oI, hI.1, hi.1, hi.2⟩
  refine call_function_entry (by decide +kernel) (by decide +kernel) kdk_entry_next (kdk_args_next _) ?_
  unfold Builtin.«next»
  refine wpAny_bind (m := someArgs "next" 1 2 _) (wpAny_of_eq (a := [Value.ref I]) (by first | rfl | kernel_rfl!) ?_)
  dsimp only
  refine wpAny_bind (wpAny_specialOf (name := Str.ofString "__next__") hit.typeIs slot_listiter_next.lookup ?_)
  refine wpAny_ite_split (fun hab => absurd hab (by decide)) (fun _ => ?_)
  refine wpAny_bind (special_list hit (items := items) ⟨_, hA.1, rfl, nn, rfl⟩ hx fun h' hit' hs => ?_)
  obtain ⟨o', ho', hc', hd'⟩ := hit'
  exact wpAny_pure ⟨_, rfl, h h' o' (F.change hs hI.2.1 hI.2.2) (news_set N off hs ho') ⟨hc', hd'⟩⟩
end
end Mine
end
section
open PySem PySem.W PyProof.Rows PySem.Flt PySem.Calls PySem.Spec
set_option maxRecDepth 100000
namespace Mine
section
variable {prog : Program} {w : World} {A : Around} {s : Shared} {env : Env} {h₀ : Heap} {L I ax : Addr} {lo : Obj} {items : Array Value} {nn : Nat} {x x₂ : Str} {px px₂ tp : Pos} {tg : Nat} {body : List Stmt} {R : Result → Shared → Prop}
/-- a for over a list of pairs (lists of two), by an invariant -/
theorem loopP (hh : A.handled = none) (hL : env.locals = L) (hx : env.kindOf x = some .local) (hx₂ : env.kindOf x₂ = some .local) (hk : env.scope.kind = .function) (hlo : lo = W.listOf items nn)
    (Inv : Nat → (Str → Option Value) → List (Addr × Obj) → Prop)
    (turn : ∀ i v m' news, items[i]? = some v → (ax, lo) ∈ news → Inv i m' news → ∃ (t : Addr) (v₁ v₂ : Value) (nt : Nat), v = .ref t ∧ (t, W.listOf #[v₁, v₂] nt) ∈ news ∧
      ∀ h' tk oI, Fr h₀ L h' (fun y => if y = x₂ then some v₂ else if y = x then some v₁ else m' y) → News h₀ L h' ((I, oI) :: news) → LIt oI ax (i + 1) → (∀ p ∈ news, p.1 ≠ I) →
      wpAny (model prog w) A (execs body env) (fun f s₃ => match f with
        | .next | .cont => At h₀ L I ax lo Inv s (i + 1) s₃
        | .brk => R (.ok .next) s₃
        | .ret v => R (.ok (.ret v)) s₃) (notedBy (model prog w) A env fun e s' => R (.error e) s') { s with heap := h', toks := tk })
    (fin : ∀ h' tk m' news, Fr h₀ L h' m' → News h₀ L h' news → (ax, lo) ∈ news → Inv items.size m' news → R (.ok .next) { s with heap := h', toks := tk })
    {i₀ : Nat} {s' : Shared} (hi₀ : i₀ ≤ items.size) (h : At h₀ L I ax lo Inv s i₀ s') : codeAny (model prog w) A (.forLoop (.Tuple [.Name x px, .Name x₂ px₂] tg tp) (.ref I) body [] env) R s' := by
  subst hlo
  refine codeAny_forLoop_any (fun k s' => ∃ i, i ≤ items.size ∧ k = items.size - i ∧ At h₀ L I ax (W.listOf items nn) Inv s i s') ?_ (items.size - i₀) ⟨i₀, hi₀, rfl, h⟩
  rintro k s₁ ⟨i, hi, hki, ⟨h', tk, m', news, oI, rfl, F, N, hIt, off, hax, hInv⟩⟩
  have hI := N (I, oI) (.head _)
  have hA := (news_tail N) _ hax
  have hit : ({ s with heap := h', toks := tk } : Shared).heap.IsListIter I ax i := ⟨oI, hI.1, hIt.1, hIt.2⟩
  have hli : ({ s with heap := h', toks := tk } : Shared).heap.IsList ax items := ⟨_, hA.1, rfl, nn, rfl⟩
  rcases Nat.lt_or_ge i items.size with hlt | hge
  · obtain ⟨t, v₁, v₂, nt, ev, ht, bd⟩ := turn i items[i] m' news (by simp [hlt]) hax hInv
    refine wpAny_pyNext_list_item hit hli (x := items[i]) (by simp [hlt]) fun h₂ hit₂ hs₂ => ?_
    obtain ⟨oI', ho', hc', hd'⟩ := id hit₂
    have F₂ : Fr h₀ L h₂ m' := F.change hs₂ hI.2.1 hI.2.2
    have N₂ := news_set N off hs₂ ho'
    rw [ev]
    dsimp only
    refine wpAny_letOwnedTupleGo_listiter (s := { s with heap := h₂, toks := tk }) hit₂ ?_
    refine kun_list F₂ N₂ ⟨_, (N₂ _ (.tail _ ht)).1, rfl, nt, rfl⟩ hh rfl rfl fun h₃ F₃ N₃ => ?_
    refine assignInOrder_cons (wpAny_assign_Name (wpAny_storeName_local hx (by rw [hL]; exact F₃.ns) (fun h₄ hn₄ hs₄ => ?_) (by rw [hk]; rfl)))
    refine assignInOrder_cons (wpAny_assign_Name (wpAny_storeName_local hx₂ hn₄ (fun h₅ hn₅ hs₅ => ?_) (by rw [hk]; rfl)))
    refine assignInOrder_nil ?_
    rw [hL] at hn₄ hs₄ hn₅ hs₅
    refine wpAny_mono (bd h₅ _ oI' ((F₃.set hn₄ hs₄).set hn₅ hs₅) ((N₃.set hs₄).set hs₅) ⟨hc', hd'⟩ off) (fun f s₃ hf => ?_) fun _ _ e => e
    cases f with
    | next => exact ⟨items.size - (i + 1), by omega, i + 1, hlt, rfl, hf⟩
    | cont => exact ⟨items.size - (i + 1), by omega, i + 1, hlt, rfl, hf⟩
    | brk => exact hf
    | ret v => exact hf
  · have hie : i = items.size := Nat.le_antisymm hi hge
    subst hie
    refine wpAny_pyNext_list_end hh hit hli (by simp) fun h₂ he => ?_
    refine wpAny_execs_nil (fin h₂ tk m' news ?_ (fun p hp => ⟨he p.1 p.2 (off p hp) (N p (.tail _ hp)).1, (N p (.tail _ hp)).2⟩) hax hInv)
    obtain ⟨oL, a1, a2, hoL, a3⟩ := F.ns
    refine ⟨⟨oL, a1, a2, he L oL (fun e => hI.2.1 e.symm) hoL, a3⟩, fun b o e => he b o (fun q => ?_) (F.keep b o e), F.above⟩
    rw [q, hI.2.2] at e; cases e
end
end Mine
end
section
open PySem PySem.W PyProof.Rows PySem.Flt PySem.Calls PySem.Spec PyProof.Rows.LCg
set_option maxRecDepth 100000
namespace Mine
/-- between two turns of a comprehension that fills the list D while it draws from the iterator I -/
structure CAt (h₀ : Heap) (L : Addr) (m : Str → Option Value) (I ax C D : Addr) (lo : Obj) (Inv : Nat → List Value → List (Addr × Obj) → Prop) (s : Shared) (i : Nat) (s' : Shared) : Prop where
  out : ∃ h tk oI oC m₂ ys nw, s' = { s with heap := h, toks := tk } ∧ Fr h₀ L h m ∧ News h₀ L h ((I, oI) :: (C, oC) :: (D, lst ys) :: nw) ∧ LIt oI ax i ∧ NsObj oC m₂ ∧ Off3 I C D nw ∧ ys.length = i ∧ (ax, lo) ∈ nw ∧ Inv i ys nw
section
variable {prog : Program} {w : World} {A : Around} {E : Value → Shared → Prop} {s : Shared} {h₀ : Heap} {L I C D ax : Addr} {m : Str → Option Value} {env : Env} {lo : Obj} {its : Array Value} {nn : Nat} {elt : PySem.Expr} {x x₂ : Str} {scope : Scope} {cl : List (Str × Addr)}
  {Inv : Nat → List Value → List (Addr × Obj) → Prop}
/-- what a turn does with the two names bound -/
def CTurn (prog : Program) (w : World) (A : Around) (h₀ : Heap) (L : Addr) (m : Str → Option Value) (env : Env) (elt : PySem.Expr) (x x₂ : Str) (scope : Scope) (cl : List (Str × Addr)) (its : Array Value) (ax : Addr) (lo : Obj) (Inv : Nat → List Value → List (Addr × Obj) → Prop) (s : Shared) : Prop :=
  ∀ i v ys nw, its[i]? = some v → Inv i ys nw → ∃ (t : Addr) (v₁ v₂ : Value) (nt : Nat), v = .ref t ∧ (t, W.listOf #[v₁, v₂] nt) ∈ nw ∧
    ∀ I oI C oC D m₂ h tk (E' : Value → Shared → Prop), NsObj oC m₂ → m₂ x = some v₁ → m₂ x₂ = some v₂ → Fr h₀ L h m → News h₀ L h ((I, oI) :: (C, oC) :: (D, lst ys) :: nw) → Off3 I C D nw → ((@Ne Nat I C) ∧ (@Ne Nat I D) ∧ (@Ne Nat C D)) → (ax, lo) ∈ nw →
      wpAny (model prog w) A (eval elt (compEnvC scope cl C env)) (CompEnd h₀ L m { s with heap := h, toks := tk } I oI C oC D (lst ys) (fun nw' => (ax, lo) ∈ nw') (fun y nw' => Inv (i + 1) (ys ++ [y]) nw')) E' { s with heap := h, toks := tk }
theorem compLoop_pairs {R : Result → Shared → Prop} {iter : PySem.Expr} {px px₂ tp pos : Pos} {tk : Nat} (hh : A.handled = none) (hlo : lo = W.listOf its nn) (hsz : its.size ≤ sizeLine) (hkind : scope.kind = .function)
    (hx : scope.names.lookup x = some .local) (hx₂ : scope.names.lookup x₂ = some .local) (hxx : x ≠ x₂) (hIC : (@Ne Nat I C) ∧ (@Ne Nat I D) ∧ (@Ne Nat C D))
    (turn : CTurn prog w A h₀ L m env elt x x₂ scope cl its ax lo Inv s)
    (fin : ∀ h tk oC m₂ ys nw, Fr h₀ L h m → News h₀ L h ((C, oC) :: (D, lst ys) :: nw) → NsObj oC m₂ → Off3 I C D nw → Inv its.size ys nw → R (.ok .next) { s with heap := h, toks := tk })
    {s' : Shared} (h : CAt h₀ L m I ax C D lo Inv s 0 s') : codeAny (model prog w) A (.compLoop (.ListComp elt [⟨.Tuple [.Name x px, .Name x₂ px₂] tk tp, iter, [], 0⟩] scope pos) 0 (.ref I) (.ref D) (compEnvC scope cl C env)) R s' := by
  subst hlo
  refine LCp.codeAny_compLoop_pair (fun k s' => ∃ i, i ≤ its.size ∧ k = its.size - i ∧ CAt h₀ L m I ax C D (W.listOf its nn) Inv s i s') ?_ its.size ⟨0, Nat.zero_le _, rfl, h⟩
  rintro k s₁ ⟨i, hi, rfl, ⟨h, tk, oI, oC, m₂, ys, nw, rfl, F, N, hIt, hoC, off, hyl, hax, hInv⟩⟩
  have nI := N (I, oI) (.head _)
  have nA := N _ (.tail _ (.tail _ (.tail _ hax)))
  have hit : ({ s with heap := h, toks := tk } : Shared).heap.IsListIter I ax i := ⟨oI, nI.1, hIt.1, hIt.2⟩
  have hli : ({ s with heap := h, toks := tk } : Shared).heap.IsList ax its := ⟨_, nA.1, rfl, nn, rfl⟩
  have offm := off.mem
  have offI : ∀ p ∈ (C, oC) :: (D, lst ys) :: nw, p.1 ≠ I := by
    intro p hp
    rcases List.mem_cons.mp hp with rfl | hp
    · exact Ne.symm hIC.1
    rcases List.mem_cons.mp hp with rfl | hp
    · exact Ne.symm hIC.2.1
    · exact (offm p hp).1
  rcases Nat.lt_or_ge i its.size with hlt | hge
  · obtain ⟨t, v₁, v₂, nt, ev, ht, body⟩ := turn i its[i] ys nw (by simp [hlt]) hInv
    refine wpAny_pyNext_list_item hit hli (x := its[i]) (by simp [hlt]) fun h₂ hit₂ hs₂ => ?_
    obtain ⟨oI', ho', hc', hd'⟩ := id hit₂
    have F₂ : Fr h₀ L h₂ m := F.change hs₂ nI.2.1 nI.2.2
    have N₂ := news_set N offI hs₂ ho'
    rw [ev]
    dsimp only
    refine wpAny_letOwnedTupleGo_listiter (s := { s with heap := h₂, toks := tk }) hit₂ ?_
    refine kun_list F₂ N₂ ⟨_, (N₂ _ (.tail _ (.tail _ (.tail _ ht)))).1, rfl, nt, rfl⟩ hh rfl rfl fun h₃ F₃ N₃ => ?_
    have nC := N₃ (C, oC) (.tail _ (.head _))
    refine assignInOrder_cons (wpAny_assign_Name (wpAny_storeName_local (lookup_relabel_local hx) (hoC.ns nC.1) (fun h₄ hn₄ hs₄ => ?_) (by simp [compEnvC, relabel, hkind])))
    refine assignInOrder_cons (wpAny_assign_Name (wpAny_storeName_local (lookup_relabel_local hx₂) hn₄ (fun h₅ hn₅ hs₅ => ?_) (by simp [compEnvC, relabel, hkind])))
    refine assignInOrder_nil ?_
    obtain ⟨oC', heC, hoC'⟩ := ns_obj hn₅
    have F₅ : Fr h₀ L h₅ m := (F₃.change hs₄ nC.2.1 nC.2.2).change hs₅ nC.2.1 nC.2.2
    have N₅ : News h₀ L h₅ ((I, oI') :: (C, oC') :: (D, lst ys) :: nw) := by
      intro p hp
      have up : ∀ q ∈ (I, oI') :: (D, lst ys) :: nw, q.1 ≠ C → h₅.get? q.1 = some q.2 ∧ q.1 ≠ L ∧ h₀.get? q.1 = none := fun q hq hne => by
        have z := N₃ q (by
          rcases List.mem_cons.mp hq with rfl | hq
          · exact .head _
          · exact .tail _ (.tail _ hq))
        exact ⟨hs₅.extBut _ _ hne (hs₄.extBut _ _ hne z.1), z.2⟩
      rcases List.mem_cons.mp hp with rfl | hp
      · exact up _ (.head _) hIC.1
      rcases List.mem_cons.mp hp with rfl | hp
      · exact ⟨heC, nC.2⟩
      rcases List.mem_cons.mp hp with rfl | hp
      · exact up _ (.tail _ (.head _)) (Ne.symm hIC.2.2)
      · exact up _ (.tail _ (.tail _ hp)) (offm p hp).2.1
    refine wpAny_mono (body I oI' C oC' D _ h₅ _ _ hoC' (by simp [hxx]) (by simp) F₅ N₅ off hIC hax) (fun y s₄ h₄ => ?_) fun _ _ e => e
    obtain ⟨h₆, tk₆, nw₆, rfl, F₆, N₆, off₆, hax₆, hInv₆⟩ := h₄
    have nD := N₆ (D, lst ys) (.tail _ (.tail _ (.head _)))
    refine append_at (hsz := by show ys.toArray.size ≤ sizeLine; rw [List.size_toArray, hyl]; exact Nat.le_trans hi hsz) nD.1 fun h₇ hs₇ hD₇ => ?_
    refine ⟨its.size - (i + 1), by omega, i + 1, hlt, rfl, ⟨h₇, _, oI', oC', _, ys ++ [y], nw₆, rfl, F₆.change hs₇ nD.2.1 nD.2.2, ?_, ⟨hc', hd'⟩, hoC', off₆, by rw [List.length_append, List.length_singleton, hyl], hax₆, hInv₆⟩⟩
    have off6 := off₆.mem
    intro p hp
    have up : ∀ q ∈ (I, oI') :: (C, oC') :: nw₆, q.1 ≠ D → h₇.get? q.1 = some q.2 ∧ q.1 ≠ L ∧ h₀.get? q.1 = none := fun q hq hne => by
      have z := N₆ q (by
        rcases List.mem_cons.mp hq with rfl | hq
        · exact .head _
        rcases List.mem_cons.mp hq with rfl | hq
        · exact .tail _ (.head _)
        · exact .tail _ (.tail _ (.tail _ hq)))
      exact ⟨hs₇.extBut _ _ hne z.1, z.2⟩
    rcases List.mem_cons.mp hp with rfl | hp
    · exact up _ (.head _) hIC.2.1
    rcases List.mem_cons.mp hp with rfl | hp
    · exact up _ (.tail _ (.head _)) hIC.2.2
    rcases List.mem_cons.mp hp with rfl | hp
    · exact ⟨hD₇.trans (congrArg some (lst_snoc ys y)), nD.2⟩
    · exact up _ (.tail _ (.tail _ hp)) (off6 p hp).2.2
  · have hie : i = its.size := Nat.le_antisymm hi hge
    subst hie
    refine wpAny_pyNext_list_end hh hit hli (by simp) fun h₂ he => ?_
    refine fin h₂ tk oC m₂ ys nw ?_ (fun p hp => ⟨he p.1 p.2 (offI p hp) (N p (.tail _ hp)).1, (N p (.tail _ hp)).2⟩) hoC off hInv
    obtain ⟨oL, a1, a2, hoL, a3⟩ := F.ns
    refine ⟨⟨oL, a1, a2, he L oL (fun e => nI.2.1 e.symm) hoL, a3⟩, fun b o e => he b o (fun q => ?_) (F.keep b o e), F.above⟩
    rw [q, nI.2.2] at e; cases e
theorem Assign_pairs {iter : PySem.Expr} {px px₂ tp py pos spos : Pos} {tk : Nat} {y : Str} {news : List (Addr × Obj)} {Q : Flow → Shared → Prop} (hL : env.locals = L) (F : Fr h₀ L s.heap m) (N : News h₀ L s.heap news) (hm : (ax, W.listOf its nn) ∈ news) (hh : A.handled = none) (hsz : its.size ≤ sizeLine)
    (hsw : swapsWith (.ListComp elt [⟨.Tuple [.Name x px, .Name x₂ px₂] tk tp, iter, [], 0⟩] scope pos) (some (.Name y py)) spos.line env = pure true)
    (hclos : closureFor scope env = pure cl) (hcell : ∀ z ∈ scope.names, z.2 ≠ .cell) (hkind : scope.kind = .function)
    (hnames : ∀ z ∈ scope.names, z.2 = .local → scope.names.lookup z.1 = some .local) (hx : scope.names.lookup x = some .local) (hx₂ : scope.names.lookup x₂ = some .local) (hxx : x ≠ x₂)
    (hy : env.kindOf y = some .local) (hp : (env.scope.kind == .class || (env.scope.kind == .module && env.locals != env.globals)) = false)
    (hi : ∀ Q' : Value → Shared → Prop, Q' (.ref ax) s → wpAny (model prog w) A (eval iter env) Q' E s)
    (hs : ∀ x, foldedSetIterable iter env x = pure x)
    (turn : CTurn prog w A h₀ L m env elt x x₂ scope cl its ax (W.listOf its nn) Inv s) (h0 : Inv 0 [] news)
    (fin : ∀ D h tk ys nw, Inv its.size ys nw → Fr h₀ L h (fun z => if z = y then some (.ref D) else m z) → News h₀ L h ((D, lst ys) :: nw) → Off1 D nw → Q .next { s with heap := h, toks := tk }) :
    wpAny (model prog w) A (exec (.Assign [.Name y py] (.ListComp elt [⟨.Tuple [.Name x px, .Name x₂ px₂] tk tp, iter, [], 0⟩] scope pos) spos) env) Q E s := by
  subst hL
  rw [exec_Assign_Name_used _ _ _ _ hsw]
  refine wpAny_bind (wpAny_standAt (wpAny_bind ?_))
  show wpAny _ A (do let _ ← comprehension (.ListComp elt [⟨.Tuple [.Name x px, .Name x₂ px₂] tk tp, iter, [], 0⟩] scope pos) scope env _ (newList []) false (eval iter env) (some (assign (.Name y py) env))) _ _ s
  refine wpAny_bind (wpAny_mono (wpAny_comprehension_free (use := some (assign (.Name y py) env)) (Q := fun _ s' => Q .next s') rfl hs hclos hkind hnames (hi _ ?_)) (fun _ s' hq => wpAny_pure (wpAny_pure hq)) fun _ _ e => e)
  have hl : s.heap.IsList ax its := ⟨_, (N _ hm).1, rfl, nn, rfl⟩
  have hlt' : ∀ p ∈ news, p.1 < s.heap.objs.size := fun p hp => Heap.lt_size (N p hp).1
  have lL : env.locals < s.heap.objs.size := F.ns.lt
  have none₀ : ∀ b, s.heap.objs.size ≤ b → h₀.get? b = none := fun b hb => Heap.get?_none_of_le (Nat.le_trans F.above (Nat.le_trans (Nat.le_of_lt lL) hb))
  refine wpAny_pyIter_list hl ?_
  refine wpAny_newObj_type (wpAny_newFunctionEnv hcell (by intro z hz; simp at hz) (fun h₁ hns₁ hsb₁ => ?_) hkind)
  dsimp only at hns₁ hsb₁ ⊢
  have e1 : (s.heap.push { cls := .type "list_iterator", data := .fields #[.ref ax, .int 0 0] }).objs.size = s.heap.objs.size + 1 := Heap.size_push ..
  have gI1 : (s.heap.push { cls := .type "list_iterator", data := .fields #[.ref ax, .int 0 0] }).get? s.heap.objs.size = some { cls := .type "list_iterator", data := .fields #[.ref ax, .int 0 0] } := Heap.get?_push_size _ rfl
  have up1 : ∀ b o, s.heap.get? b = some o → (s.heap.push { cls := .type "list_iterator", data := .fields #[.ref ax, .int 0 0] }).get? b = some o := fun b o e => Heap.get?_push_of_some _ e
  generalize s.heap.push { cls := .type "list_iterator", data := .fields #[.ref ax, .int 0 0] } = H1 at *
  have e2 : (H1.push { cls := .type "list", dict := none, data := .seq ([] : List Value).toArray }).objs.size = s.heap.objs.size + 1 + 1 := by rw [Heap.size_push, e1]
  have gD2 : (H1.push { cls := .type "list", dict := none, data := .seq ([] : List Value).toArray }).get? H1.objs.size = some (lst []) := Heap.get?_push_size _ rfl
  have up2 : ∀ b o, H1.get? b = some o → (H1.push { cls := .type "list", dict := none, data := .seq ([] : List Value).toArray }).get? b = some o := fun b o e => Heap.get?_push_of_some _ e
  generalize H1.push { cls := .type "list", dict := none, data := .seq ([] : List Value).toArray } = H2 at *
  have up3 : ∀ b o, H2.get? b = some o → h₁.get? b = some o := fun b o e => hsb₁.extBut b o (Nat.ne_of_lt (Heap.lt_size e)) (Heap.get?_push_of_some _ e)
  rw [e2] at hns₁ ⊢
  rw [e1] at gD2 ⊢
  generalize s.heap.objs.size = I at *
  have old : ∀ b o, s.heap.get? b = some o → h₁.get? b = some o := fun b o e => up3 _ _ (up2 _ _ (up1 _ _ e))
  have gI := up3 _ _ (up2 _ _ gI1)
  have gD := up3 _ _ gD2
  obtain ⟨oC, gC, hoC⟩ := ns_obj hns₁
  have l1 : I < I + 1 := Nat.lt_succ_self _
  have l2 : I + 1 < I + 1 + 1 := Nat.lt_succ_self _
  have l3 := Nat.lt_trans l1 l2
  have hIC : (@Ne Nat I (I + 1 + 1)) ∧ (@Ne Nat I (I + 1)) ∧ (@Ne Nat (I + 1 + 1) (I + 1)) := ⟨Nat.ne_of_lt l3, Nat.ne_of_lt l1, Nat.ne_of_gt l2⟩
  have lt : ∀ p ∈ news, p.1 < I := fun p hp => hlt' p hp
  have off : Off3 I (I + 1 + 1) (I + 1) news := Off3.of fun p hp => ⟨Nat.ne_of_lt (lt p hp), Nat.ne_of_lt (Nat.lt_trans (lt p hp) l3), Nat.ne_of_lt (Nat.lt_trans (lt p hp) l1)⟩
  have F₁ : Fr h₀ env.locals h₁ m := F.keeps old
  have N₁ : News h₀ env.locals h₁ ((I, ({ cls := .type "list_iterator", data := .fields #[.ref ax, .int 0 0] } : Obj)) :: (I + 1 + 1, oC) :: (I + 1, lst []) :: news) := by
    intro p hp
    rcases List.mem_cons.mp hp with rfl | hp
    · exact ⟨gI, Nat.ne_of_gt lL, none₀ _ (Nat.le_refl _)⟩
    rcases List.mem_cons.mp hp with rfl | hp
    · exact ⟨gC, Nat.ne_of_gt (Nat.lt_trans lL l3), none₀ _ (Nat.le_of_lt l3)⟩
    rcases List.mem_cons.mp hp with rfl | hp
    · exact ⟨gD, Nat.ne_of_gt (Nat.lt_trans lL l1), none₀ _ (Nat.le_of_lt l1)⟩
    · exact ⟨old _ _ (N p hp).1, (N p hp).2⟩
  have loop := compLoop_pairs (prog := prog) (w := w) (R := compPost (model prog w) A E (some (assign (.Name y py) env)) (fun _ s' => Q .next s') (.ref (I + 1)) (I + 1 + 1)) (iter := iter) (px := px) (px₂ := px₂) (tp := tp) (pos := pos) (tk := tk) hh rfl hsz hkind hx hx₂ hxx hIC turn ?_
    (s' := { s with heap := h₁, toks := s.toks + ([] : List (Str × Value)).length }) ⟨h₁, _, _, oC, _, [], news, rfl, F₁, N₁, ⟨rfl, rfl⟩, hoC, off, rfl, hm, h0⟩
  · exact codeAny_compStart_list loop (wpAny_pyIter_listiter ⟨_, gI, rfl, rfl⟩ loop)
  · intro h tk' oC' m₂ ys nw F' N' hoC' off' hInv
    have nC := N' (I + 1 + 1, oC') (.head _)
    show wpAny _ A (assign (.Name y py) env (.ref (I + 1))) _ _ _
    refine wpAny_assign_Name (wpAny_storeName_local hy F'.ns (fun h₂ hn₂ hs₂ => ?_) hp)
    have hL₀ : h₀.get? env.locals = none := Heap.get?_none_of_le F'.above
    have F₂ : Fr h₀ env.locals h₂ (fun z => if z = y then some (.ref (I + 1)) else m z) := ⟨hn₂, fun b o e => hs₂.extBut b o (fun q => by rw [q, hL₀] at e; cases e) (F'.keep b o e), F'.above⟩
    have offm := off'.mem
    refine ⟨m₂, (hoC'.ns nC.1).sameBut hs₂ nC.2.1, fun h'' hs'' => fin (I + 1) h'' _ ys nw hInv (F₂.change hs'' nC.2.1 nC.2.2) (fun p hp => ?_) off'.one⟩
    have z : h₂.get? p.1 = some p.2 := hs₂.extBut _ _ (N' p (.tail _ hp)).2.1 (N' p (.tail _ hp)).1
    refine ⟨hs''.extBut _ _ ?_ z, (N' p (.tail _ hp)).2⟩
    rcases List.mem_cons.mp hp with rfl | hp
    · exact Ne.symm hIC.2.2
    · exact (offm p hp).2.1
end
end Mine
end
section
open PySem PySem.W PyProof.Rows PySem.Flt PySem.Calls PySem.Spec
set_option maxRecDepth 100000
namespace Mine
abbrev Led := List (Addr × Obj)
/-- what a call of fn with the state so far and the next item does -/
def StepOk (w : World) (base : Heap) (mean : ExcName → Option Value) (mg mb : Str → Option Value) (d u : Nat) (fn : Addr) (items : Array Value) (J : Nat → Value → Led → Led → Prop) : Prop :=
  ∀ (dp un : Nat) (gd : Option (List Code)) (cn : Str) (cs : Scope) (a : Addr) (ccd : Value) (cl : List (Str × Addr)) (outer : List Env) (A₀ : Around) (h₀ : Heap) (L : Addr) (m : Str → Option Value) (s : Shared) (Q E : Value → Shared → Prop) (i : Nat) (v x : Value) (mu all rest : Led),
    Below A₀ base outer h₀ → Fr h₀ L s.heap m → (hd.heap_39 w.params).In h₀ → News h₀ L s.heap (mu ++ all) → Top topProg LS mean mg mb h₀ → cs.kind = .function → dp + d < recursionLimit → un + u < cLine →
    (∀ p ∈ rest, p ∈ all) → (∀ p ∈ all, ∀ q ∈ mu, p.1 ≠ q.1) → items[i]? = some x → J i v mu rest →
    (∀ (r : Value) (mu' new : Led) (h' : Heap) (tk' : Nat), J (i + 1) r mu' (new ++ rest) → mu'.map (·.1) = mu.map (·.1) → Fr h₀ L h' m → News h₀ L h' (mu' ++ (new ++ all)) → (∀ p ∈ new, ∀ q ∈ mu ++ all, q.1 < p.1) → Q r { s with heap := h', toks := tk' }) →
    wpAny (model PR w) (ktrTop dp un gd cn cs L a ccd cl outer) (call (.ref fn) [v, x]) Q E s
theorem mem_same {mu mu' : Led} (h : mu'.map (·.1) = mu.map (·.1)) {q : Addr × Obj} (hq : q ∈ mu') : ∃ r ∈ mu, r.1 = q.1 := by
  have : q.1 ∈ mu'.map (·.1) := List.mem_map_of_mem hq
  rw [h] at this
  obtain ⟨r, hr, e⟩ := List.mem_map.mp this
  exact ⟨r, hr, e⟩
/-- the loop's invariant in reduce -/
structure RInv (fn S : Addr) (fo lo : Obj) (J : Nat → Value → Led → Led → Prop) (mu all rest : Led) (i : Nat) (m' : Str → Option Value) (nw : Led) (v : Value) (mu' new : Led) : Prop where
  hv : m' (Str.ofString "value") = some v
  hf : m' (Str.ofString "function") = some (.ref fn)
  J : J i v mu' (new ++ rest)
  same : mu'.map (·.1) = mu.map (·.1)
  nw : nw = (fn, fo) :: (S, lo) :: (mu' ++ (new ++ all))
  fresh : ∀ p ∈ new, ∀ q ∈ mu ++ all, q.1 < p.1
section
variable {fn S I : Addr} {fo lo oI : Obj} {J : Nat → Value → Led → Led → Prop} {mu all rest mu' new mu'' new' nw : Led} {i : Nat} {m' : Str → Option Value} {v : Value} {h₀ h : Heap} {L : Addr}
theorem RInv.news (R : RInv fn S fo lo J mu all rest i m' nw v mu' new) (N : News h₀ L h ((I, oI) :: nw)) : News h₀ L h (mu' ++ ((I, oI) :: (new ++ all))) := by
  intro p hp
  refine N p ?_
  rw [R.nw]
  rcases List.mem_append.mp hp with hp | hp
  · exact .tail _ (.tail _ (.tail _ (List.mem_append_left _ hp)))
  · rcases List.mem_cons.mp hp with rfl | hp
    · exact .head _
    · exact .tail _ (.tail _ (.tail _ (List.mem_append_right _ hp)))
theorem RInv.fnMem (_R : RInv fn S fo lo J mu all rest i m' nw v mu' new) (_N : News h₀ L h (mu' ++ ((I, oI) :: (new ++ all)))) (hF : (fn, fo) ∈ all) : (fn, fo) ∈ mu' ++ ((I, oI) :: (new ++ all)) := List.mem_append_right _ (.tail _ (List.mem_append_right _ hF))
theorem RInv.last (R : RInv fn S fo lo J mu all rest i m' nw v mu' new) (N : News h₀ L h nw) : News h₀ L h (mu' ++ (new ++ all)) := by
  rw [R.nw] at N
  exact fun p hp => N p (.tail _ (.tail _ hp))
theorem StepOk.use {w : World} {base : Heap} {mean : ExcName → Option Value} {mg mb : Str → Option Value} {d u : Nat} {items : Array Value} {dp un : Nat} {gd : Option (List Code)} {cn : Str} {cs : Scope} {a : Addr} {ccd : Value} {cl : List (Str × Addr)} {outer : List Env} {A₀ : Around} {m : Str → Option Value} {s : Shared} {Q E : Value → Shared → Prop} {x : Value}
    (H : StepOk w base mean mg mb d u fn items J) (B : Below A₀ base outer h₀) (F : Fr h₀ L s.heap m) (X : (hd.heap_39 w.params).In h₀) (T : Top topProg LS mean mg mb h₀) (hk : cs.kind = .function) (hdp : dp + d < recursionLimit) (hu : un + u < cLine)
    (N : News h₀ L s.heap (mu ++ all)) (hs : ∀ p ∈ rest, p ∈ all) (ho : ∀ p ∈ all, ∀ q ∈ mu, p.1 ≠ q.1) (hx : items[i]? = some x) (hJ : J i v mu rest)
    (h : ∀ (r : Value) (mu' new : Led) (h' : Heap) (tk' : Nat), J (i + 1) r mu' (new ++ rest) → mu'.map (·.1) = mu.map (·.1) → Fr h₀ L h' m → News h₀ L h' (mu' ++ (new ++ all)) → (∀ p ∈ new, ∀ q ∈ mu ++ all, q.1 < p.1) → Q r { s with heap := h', toks := tk' }) :
    wpAny (model PR w) (ktrTop dp un gd cn cs L a ccd cl outer) (call (.ref fn) [v, x]) Q E s := H _ _ _ _ _ _ _ _ _ _ _ _ _ _ _ _ _ _ _ _ _ _ B F X N T hk hdp hu hs ho hx hJ h
theorem RInv.sub (_R : RInv fn S fo lo J mu all rest i m' nw v mu' new) (_N : News h₀ L h ((I, oI) :: nw)) (hsub : ∀ p ∈ rest, p ∈ all) : ∀ p ∈ new ++ rest, p ∈ (I, oI) :: (new ++ all) := by
  intro p hp
  rcases List.mem_append.mp hp with hp | hp
  · exact .tail _ (List.mem_append_left _ hp)
  · exact .tail _ (List.mem_append_right _ (hsub p hp))
theorem RInv.off (R : RInv fn S fo lo J mu all rest i m' nw v mu' new) (hoff : ∀ p ∈ all, ∀ q ∈ mu, p.1 ≠ q.1) (off : ∀ p ∈ nw, p.1 ≠ I) : ∀ p ∈ (I, oI) :: (new ++ all), ∀ q ∈ mu', p.1 ≠ q.1 := by
  intro p hp q hq
  obtain ⟨r, hr, e⟩ := mem_same R.same hq
  rcases List.mem_cons.mp hp with rfl | hp
  · have := off q (by rw [R.nw]; exact .tail _ (.tail _ (List.mem_append_left _ hq)))
    exact fun e2 => this e2.symm
  · rcases List.mem_append.mp hp with hp | hp
    · rw [← e]; exact Nat.ne_of_gt (R.fresh p hp r (List.mem_append_left _ hr))
    · rw [← e]; exact hoff p hp r hr
theorem RInv.next {m'' : Str → Option Value} {v' : Value} (R : RInv fn S fo lo J mu all rest i m' nw v mu' new) (h1 : J (i + 1) v' mu'' (new' ++ (new ++ rest))) (h2 : mu''.map (·.1) = mu'.map (·.1)) (h3 : ∀ p ∈ new', ∀ q ∈ mu' ++ ((I, oI) :: (new ++ all)), q.1 < p.1)
    (hv : m'' (Str.ofString "value") = some v') (hf : m'' (Str.ofString "function") = some (.ref fn)) :
    RInv fn S fo lo J mu all rest (i + 1) m'' ((fn, fo) :: (S, lo) :: (mu'' ++ ((new' ++ new) ++ all))) v' mu'' (new' ++ new) where
  hv := hv
  hf := hf
  J := by rw [List.append_assoc]; exact h1
  same := h2.trans R.same
  nw := rfl
  fresh := by
    intro p hp q hq
    rcases List.mem_append.mp hp with hp | hp
    · rcases List.mem_append.mp hq with hq | hq
      · have hm : q.1 ∈ mu.map (·.1) := List.mem_map_of_mem hq
        rw [← R.same] at hm
        obtain ⟨r, hr, e⟩ := List.mem_map.mp hm
        rw [← e]; exact h3 p hp r (List.mem_append_left _ hr)
      · exact h3 p hp q (List.mem_append_right _ (.tail _ (List.mem_append_right _ hq)))
    · exact R.fresh p hp q hq
theorem RInv.newsNext (_R : RInv fn S fo lo J mu all rest i m' nw v mu' new) (hS : (S, lo) ∈ all) (hF : (fn, fo) ∈ all) (N : News h₀ L h (mu'' ++ (new' ++ ((I, oI) :: (new ++ all))))) : News h₀ L h ((I, oI) :: (fn, fo) :: (S, lo) :: (mu'' ++ ((new' ++ new) ++ all))) := by
  intro p hp
  refine N p ?_
  rcases List.mem_cons.mp hp with rfl | hp
  · exact List.mem_append_right _ (List.mem_append_right _ (.head _))
  rcases List.mem_cons.mp hp with rfl | hp
  · exact List.mem_append_right _ (List.mem_append_right _ (.tail _ (List.mem_append_right _ hF)))
  rcases List.mem_cons.mp hp with rfl | hp
  · exact List.mem_append_right _ (List.mem_append_right _ (.tail _ (List.mem_append_right _ hS)))
  rcases List.mem_append.mp hp with hp | hp
  · exact List.mem_append_left _ hp
  rcases List.mem_append.mp hp with hp | hp
  · rcases List.mem_append.mp hp with hp | hp
    · exact List.mem_append_right _ (List.mem_append_left _ hp)
    · exact List.mem_append_right _ (List.mem_append_right _ (.tail _ (List.mem_append_left _ hp)))
  · exact List.mem_append_right _ (List.mem_append_right _ (.tail _ (List.mem_append_right _ hp)))
theorem RInv.offNext (R : RInv fn S fo lo J mu all rest i m' nw v mu' new) (off : ∀ p ∈ nw, p.1 ≠ I) (h2 : mu''.map (·.1) = mu'.map (·.1)) (h3 : ∀ p ∈ new', ∀ q ∈ mu' ++ ((I, oI) :: (new ++ all)), q.1 < p.1) :
    ∀ p ∈ (fn, fo) :: (S, lo) :: (mu'' ++ ((new' ++ new) ++ all)), p.1 ≠ I := by
  rw [R.nw] at off
  intro p hp
  rcases List.mem_cons.mp hp with rfl | hp
  · exact off _ (.head _)
  rcases List.mem_cons.mp hp with rfl | hp
  · exact off _ (.tail _ (.head _))
  rcases List.mem_append.mp hp with hp | hp
  · obtain ⟨r, hr, e⟩ := mem_same h2 hp
    rw [← e]; exact off r (.tail _ (.tail _ (List.mem_append_left _ hr)))
  rcases List.mem_append.mp hp with hp | hp
  · rcases List.mem_append.mp hp with hp | hp
    · exact Nat.ne_of_gt (h3 p hp (I, oI) (List.mem_append_right _ (.head _)))
    · exact off _ (.tail _ (.tail _ (List.mem_append_right _ (List.mem_append_left _ hp))))
  · exact off _ (.tail _ (.tail _ (List.mem_append_right _ (List.mem_append_right _ hp))))
end
section
variable {M : Model} {A : Around} {E : Value → Shared → Prop} {s : Shared} {h₀ : Heap} {L : Addr} {m : Str → Option Value}
theorem name_fr {env : Env} {x : Str} {pos : Pos} {v : Value} {Q : Value → Shared → Prop} (F : Fr h₀ L s.heap m) (hv : m x = some v) (h : Q v s) (hL : env.locals = L := by rfl) (hk : env.scope.kind = .function := by rfl) (hl : env.kindOf x = some .local := by rfl) (hd : (x == ("__debug__" : Str)) = false := by decide) :
    wpAny M A (eval (.Name x pos) env) Q E s := wpAny_Name (wpAny_loadName_local hk hl (by rw [hL]; exact F.ns) hv h) hd
theorem set_ne {m : Str → Option Value} {x z : Str} {u v : Value} (hne : x ≠ z) (h : m x = some v) : (fun y => if y = z then some u else m y) x = some v := by
  show (if x = z then some u else m x) = some v
  rw [if_neg hne]; exact h
theorem set_eq {m : Str → Option Value} {x : Str} {u : Value} : (fun y => if y = x then some u else m y) x = some u := if_pos rfl
theorem news_drop3 {h : Heap} {a b c e : Addr × Obj} {r : Led} (N : News h₀ L h (a :: b :: c :: e :: r)) : News h₀ L h (a :: b :: c :: r) := by
  intro p hp
  rcases List.mem_cons.mp hp with e | hp
  · exact N p (e ▸ .head _)
  rcases List.mem_cons.mp hp with e | hp
  · exact N p (e ▸ .tail _ (.head _))
  rcases List.mem_cons.mp hp with e | hp
  · exact N p (e ▸ .tail _ (.tail _ (.head _)))
  · exact N p (.tail _ (.tail _ (.tail _ (.tail _ hp))))
theorem lt_drop2 {I : Nat} {b c e : Addr × Obj} {r : Led} (l : ∀ p ∈ b :: c :: e :: r, p.1 < I) : ∀ p ∈ b :: c :: r, p.1 < I := by
  intro p hp
  rcases List.mem_cons.mp hp with e | hp
  · exact l p (e ▸ .head _)
  rcases List.mem_cons.mp hp with e | hp
  · exact l p (e ▸ .tail _ (.head _))
  · exact l p (.tail _ (.tail _ (.tail _ hp)))
theorem off_of_lt {l : List (Addr × Obj)} {I : Nat} (h : ∀ p ∈ l, p.1 < I) : ∀ p ∈ l, p.1 ≠ I := fun p hp => Nat.ne_of_lt (h p hp)
theorem iter_it {prog : Program} {w : World} {I ax : Addr} {news : List (Addr × Obj)} {oI : Obj} {i : Nat} {Q : Value → Shared → Prop} (N : News h₀ L s.heap ((I, oI) :: news)) (hi : LIt oI ax i) (h : Q (.ref I) s) : wpAny (model prog w) A (pyIter (.ref I)) Q E s :=
  wpAny_pyIter_listiter ⟨oI, (N _ (.head _)).1, hi.1, hi.2⟩ h
end
end Mine
end
section
open PySem PySem.W PyProof.Rows PySem.Flt
set_option maxRecDepth 100000
namespace Mine
theorem rows16 : True := by
  w_top off
  k_with_none
  trivial
/-- what the ledger holds of a function that _law_deed has made -/
structure DeedAt (news : Led) (f : Addr) (kind k : Int) (a1 a2 : Addr) (doc pm : Value) (c2 : Addr) (ctv : Value) (oc o1 o2 : Obj) (vs : Array Value) (tq tk1 tk2 : Tok) : Prop where
  hf : (f, doneObj a1 a2 doc pm c2 ctv) ∈ news
  hc : (c2, oc) ∈ news
  hcd : oc.data = .fields vs
  hcv : vs[1]? = some (.str doneQ tq)
  h1 : (a1, o1) ∈ news
  h2 : (a2, o2) ∈ news
  hd1 : o1.data = .cell (some (.int kind tk1))
  hd2 : o2.data = .cell (some (.int k tk2))
def Deed (news : Led) (f : Addr) (kind k : Int) : Prop := ∃ a1 a2 doc pm c2 ctv oc o1 o2 vs tq tk1 tk2, DeedAt news f kind k a1 a2 doc pm c2 ctv oc o1 o2 vs tq tk1 tk2
theorem Deed.mono {news news' : Led} {f : Addr} {kind k : Int} (h : Deed news f kind k) (hs : ∀ p ∈ news, p ∈ news') : Deed news' f kind k :=
  let ⟨a1, a2, doc, pm, c2, ctv, oc, o1, o2, vs, tq, tk1, tk2, D⟩ := h
  ⟨a1, a2, doc, pm, c2, ctv, oc, o1, o2, vs, tq, tk1, tk2, hs _ D.hf, hs _ D.hc, D.hcd, D.hcv, hs _ D.h1, hs _ D.h2, D.hd1, D.hd2⟩
/-- _law_deed's table of code -/
def Tab88 (ps : Array Value) (rest : Led) : Prop := ps = #[] ∨ ∃ c2 oc vs tq, ps = #[rawInt 149, rawInt 4, .ref c2] ∧ (c2, oc) ∈ rest ∧ oc.data = .fields vs ∧ vs[1]? = some (.str doneQ tq)
theorem doneObj_eq {a1 a2 c2 : Addr} {doc pm ctv : Value} {nm q : Str} {A : Arguments} {B : List Stmt} {S : Scope} (e1 : nm = doneN) (e2 : q = doneQ) (e3 : A = doneA) (e4 : B = doneB) (e5 : S = doneS) :
    fnMade nm q A B S [(Str.ofString "kind", a1), (Str.ofString "k", a2)] doc pm c2 ctv = doneObj a1 a2 doc pm c2 ctv := by subst e1 e2 e3 e4 e5; rfl
section
variable {h₀ h : Heap} {L LL f c2 : Addr} {nm q : Str} {A : Arguments} {B : List Stmt} {S : Scope} {doc pm ctv : Value} {oc o1 o2 : Obj} {rest : Led} {vs : Array Value} {tq tk1 tk2 : Tok} {kind k : Int} {G : Prop} {v1 v2 : Option Value} {q2 : Str} {rst : Led}
theorem allLt_mem {D : Nat} {l : Led} (h : AllLt D l) : ∀ p ∈ l, p.1 < D := by
  induction l with
  | nil => exact fun _ h => nomatch h
  | cons q r ih => exact List.forall_mem_cons.mpr ⟨h.1, ih h.2⟩
theorem deed_end0 (nq : News h₀ L h ((f, fnMade nm q A B S [(Str.ofString "kind", LL + 1), (Str.ofString "k", LL + 1 + 1)] doc pm c2 ctv) :: (c2, oc) :: (LL + 1 + 1, o2) :: (LL + 1, o1) :: (88, tabObj #[rawInt 149, rawInt 4, .ref c2]) :: rest))
    (d1 : oc.data = .fields vs) (d2 : vs[1]? = some (.str q2 tq)) (c1 : o1.data = .cell v1) (cc2 : o2.data = .cell v2) (l0 : 88 < LL) (l1 : AllLt LL rest) (l2 : LL + 1 + 1 < c2) (l3 : c2 < f)
    (e1 : nm = doneN) (e2 : q = doneQ) (e2' : q2 = doneQ) (e3 : A = doneA) (e4 : B = doneB) (e5 : S = doneS) (e6 : v1 = some (.int kind tk1)) (e7 : v2 = some (.int k tk2))
    (hG : ∀ (ps' : Array Value) (new : Led), Tab88 ps' (new ++ rst) → Deed (new ++ rst) f kind k → News h₀ L h ((88, tabObj ps') :: (new ++ rest)) → (∀ p ∈ new, ∀ q ∈ (88, tabObj #[]) :: rest, q.1 < p.1) → G) : G := by
  subst e1 e2 e2' e3 e4 e5 e6 e7
  refine hG #[rawInt 149, rawInt 4, .ref c2] [(f, doneObj (LL + 1) (LL + 1 + 1) doc pm c2 ctv), (c2, oc), (LL + 1 + 1, o2), (LL + 1, o1)] (.inr ⟨c2, oc, vs, tq, rfl, .tail _ (.head _), d1, d2⟩)
    ⟨LL + 1, LL + 1 + 1, doc, pm, c2, ctv, oc, o1, o2, vs, tq, tk1, tk2, .head _, .tail _ (.head _), d1, d2, .tail _ (.tail _ (.tail _ (.head _))), .tail _ (.tail _ (.head _)), c1, cc2⟩ ?_ ?_
  · intro p hp
    rcases List.mem_cons.mp hp with rfl | hp
    · exact nq _ (.tail _ (.tail _ (.tail _ (.tail _ (.head _)))))
    rcases List.mem_cons.mp hp with rfl | hp
    · exact nq _ (.head _)
    rcases List.mem_cons.mp hp with rfl | hp
    · exact nq _ (.tail _ (.head _))
    rcases List.mem_cons.mp hp with rfl | hp
    · exact nq _ (.tail _ (.tail _ (.head _)))
    rcases List.mem_cons.mp hp with rfl | hp
    · exact nq _ (.tail _ (.tail _ (.tail _ (.head _))))
    · exact nq _ (.tail _ (.tail _ (.tail _ (.tail _ (.tail _ hp)))))
  · have hq : ∀ q ∈ (88, tabObj #[]) :: rest, q.1 < LL := List.forall_mem_cons.mpr ⟨l0, allLt_mem l1⟩
    intro p hp q hr
    have hq := hq q hr
    simp only [List.mem_cons, List.not_mem_nil, or_false] at hp
    have b1 : LL < LL + 1 := Nat.lt_succ_self _
    have b2 : LL < LL + 1 + 1 := Nat.lt_trans b1 (Nat.lt_succ_self _)
    have b3 : LL < c2 := Nat.lt_trans b2 l2
    have b4 : LL < f := Nat.lt_trans b3 l3
    rcases hp with rfl | rfl | rfl | rfl
    · exact Nat.lt_trans hq b4
    · exact Nat.lt_trans hq b3
    · exact Nat.lt_trans hq b2
    · exact Nat.lt_trans hq b1
theorem deed_end1 (nq : News h₀ L h ((f, fnMade nm q A B S [(Str.ofString "kind", LL + 1), (Str.ofString "k", LL + 1 + 1)] doc pm c2 ctv) :: (LL + 1 + 1, o2) :: (LL + 1, o1) :: (88, tabObj #[rawInt 149, rawInt 4, .ref c2]) :: rest))
    (hc : (c2, oc) ∈ rst) (d1 : oc.data = .fields vs) (d2 : vs[1]? = some (.str doneQ tq)) (c1 : o1.data = .cell v1) (cc2 : o2.data = .cell v2) (l0 : 88 < LL) (l1 : AllLt LL rest) (l2 : LL + 1 + 1 < f)
    (e1 : nm = doneN) (e2 : q = doneQ) (e3 : A = doneA) (e4 : B = doneB) (e5 : S = doneS) (e6 : v1 = some (.int kind tk1)) (e7 : v2 = some (.int k tk2))
    (hG : ∀ (ps' : Array Value) (new : Led), Tab88 ps' (new ++ rst) → Deed (new ++ rst) f kind k → News h₀ L h ((88, tabObj ps') :: (new ++ rest)) → (∀ p ∈ new, ∀ q ∈ (88, tabObj #[rawInt 149, rawInt 4, .ref c2]) :: rest, q.1 < p.1) → G) : G := by
  subst e1 e2 e3 e4 e5 e6 e7
  refine hG #[rawInt 149, rawInt 4, .ref c2] [(f, doneObj (LL + 1) (LL + 1 + 1) doc pm c2 ctv), (LL + 1 + 1, o2), (LL + 1, o1)] (.inr ⟨c2, oc, vs, tq, rfl, .tail _ (.tail _ (.tail _ hc)), d1, d2⟩)
    ⟨LL + 1, LL + 1 + 1, doc, pm, c2, ctv, oc, o1, o2, vs, tq, tk1, tk2, .head _, .tail _ (.tail _ (.tail _ hc)), d1, d2, .tail _ (.tail _ (.head _)), .tail _ (.head _), c1, cc2⟩ ?_ ?_
  · intro p hp
    rcases List.mem_cons.mp hp with rfl | hp
    · exact nq _ (.tail _ (.tail _ (.tail _ (.head _))))
    rcases List.mem_cons.mp hp with rfl | hp
    · exact nq _ (.head _)
    rcases List.mem_cons.mp hp with rfl | hp
    · exact nq _ (.tail _ (.head _))
    rcases List.mem_cons.mp hp with rfl | hp
    · exact nq _ (.tail _ (.tail _ (.head _)))
    · exact nq _ (.tail _ (.tail _ (.tail _ (.tail _ hp))))
  · have hq : ∀ q ∈ (88, tabObj #[rawInt 149, rawInt 4, .ref c2]) :: rest, q.1 < LL := List.forall_mem_cons.mpr ⟨l0, allLt_mem l1⟩
    intro p hp q hr
    have hq := hq q hr
    simp only [List.mem_cons, List.not_mem_nil, or_false] at hp
    have b1 : LL < LL + 1 := Nat.lt_succ_self _
    have b2 : LL < LL + 1 + 1 := Nat.lt_trans b1 (Nat.lt_succ_self _)
    have b3 : LL < f := Nat.lt_trans b2 l2
    rcases hp with rfl | rfl | rfl
    · exact Nat.lt_trans hq b3
    · exact Nat.lt_trans hq b2
    · exact Nat.lt_trans hq b1
end
theorem rows15 : True := by
  k_with "k_all" => ((with_reducible assumption))
  trivial
set_option maxHeartbeats 8000000 in
theorem c_deed0 {w : World} {kind k : Int} {tk1 tk2 : Tok} {rst : Led} {mean : ExcName → Option Value} {mg mb : Str → Option Value} {dp un : Nat} {gd : Option (List Code)} {cn : Str} {cs : Scope} {a : Addr} {ccd : Value} {cl : List (Str × Addr)} {outer : List Env} {A₀ : Around} {base h₀ : Heap} {L : Addr} {m : Str → Option Value} {rest : Led} {s : Shared} {Q E : Value → Shared → Prop}
    (B : Below A₀ base outer h₀) (F : Fr h₀ L s.heap m) (X : (hd.heap_39 w.params).In h₀) (N : News h₀ L s.heap ((88, tabObj #[]) :: rest)) (T : Top topProg LS mean mg mb h₀) (hk : cs.kind = .function) (hdp : dp + 3 < recursionLimit) (_hu : un + 40 < cLine)
    (cH : CodeHd base 92 88) (hoff : ∀ p ∈ rest, p.1 ≠ 88)
    (hret : ∀ (f : Addr) (ps' : Array Value) (new : Led) (h' : Heap) (tk' : Nat), Tab88 ps' (new ++ rst) → Deed (new ++ rst) f kind k → Fr h₀ L h' m → News h₀ L h' ((88, tabObj ps') :: (new ++ rest)) → (∀ p ∈ new, ∀ q ∈ (88, tabObj #[]) :: rest, q.1 < p.1) → Q (.ref f) { s with heap := h', toks := tk' }) :
    wpAny (model PR w) (ktrTop dp un gd cn cs L a ccd cl outer) (call (.ref 93) [.int kind tk1, .int k tk2]) Q E s := by
  have hfill : Challenge.rw_mq0241_01 = Challenge.rw_mq0241_01 ∧ Mine.hd.heap_39 = Mine.hd.heap_39 := by (k_fill; exact ⟨rfl, rfl⟩)
  clear hfill
  refine wpAny_call ?_
  k_dflt (refine' code_defC ?k1 ?k2 ?k3 ?k4 ?k5 ?kA ?kF ?kK ?k6 ?k7 ?k8 ?k9 ?kB ?kD ?_ ?c2 ?c3 ?c4; (case kA => exact rfl); (case kF => exact rfl); (case kK => assumption); (case k1 => k_asm); (case k2 => k_asm); (case k3 => k_asm); (case k4 => k_asm); (case k5 => k_asm); (case k6 => k_is); (case k7 => k_is); (case k8 => ktr_room); (case k9 => exact BindsTo.of_eq rfl); (case kB => exact rfl); (case kD => decide +kernel); (case c2 => exact rfl); (case c3 => exact rfl); (case c4 => exact rfl); k_whole)
  intro gg LL hh tkk cells FG FF NN YY BB XX TT l1
  (try k_lt l1)
  (try obtain ⟨l1, l1b⟩ := l1)
  k_cells YY
  (try simp only [List.cons_append, List.nil_append] at NN)
  (try dsimp only)
  (try k_fold)
  k_steps
  all_goals (
    (rename News h₀ L _ _ => nq)
    (rename (_ = Data.fields _) => dq1)
    (rename (_[1]? = some _) => dq2)
    (rename (_ = Data.cell (bindC _ _ _ (Str.ofString "kind"))) => ck1)
    (rename (_ = Data.cell (bindC _ _ _ (Str.ofString "k"))) => ck2)
    (rename (_ < _) ∧ _ => lq)
    (rename (_ < _) => lf)
    exact deed_end0 nq dq1 dq2 ck1 ck2 l1 l1b lq.1 lf rfl (by with_unfolding_all rfl) (by with_unfolding_all rfl) rfl rfl rfl rfl rfl (fun ps' new t1 t2 t3 t4 => hret _ _ _ _ _ t1 t2 (by k_asm) t3 t4))

set_option maxHeartbeats 8000000 in
theorem c_deed1 {w : World} {kind k : Int} {tk1 tk2 tq : Tok} {c2 : Addr} {oc : Obj} {vs : Array Value} {rst : Led} {mean : ExcName → Option Value} {mg mb : Str → Option Value} {dp un : Nat} {gd : Option (List Code)} {cn : Str} {cs : Scope} {a : Addr} {ccd : Value} {cl : List (Str × Addr)} {outer : List Env} {A₀ : Around} {base h₀ : Heap} {L : Addr} {m : Str → Option Value} {rest : Led} {s : Shared} {Q E : Value → Shared → Prop}
    (B : Below A₀ base outer h₀) (F : Fr h₀ L s.heap m) (X : (hd.heap_39 w.params).In h₀) (N : News h₀ L s.heap ((88, tabObj #[rawInt 149, rawInt 4, .ref c2]) :: rest)) (T : Top topProg LS mean mg mb h₀) (hk : cs.kind = .function) (hdp : dp + 3 < recursionLimit) (_hu : un + 40 < cLine)
    (cH : CodeHd base 92 88) (hoff : ∀ p ∈ rest, p.1 ≠ 88) (hc : (c2, oc) ∈ rst) (hcd : oc.data = .fields vs) (hcv : vs[1]? = some (.str doneQ tq))
    (hret : ∀ (f : Addr) (ps' : Array Value) (new : Led) (h' : Heap) (tk' : Nat), Tab88 ps' (new ++ rst) → Deed (new ++ rst) f kind k → Fr h₀ L h' m → News h₀ L h' ((88, tabObj ps') :: (new ++ rest)) → (∀ p ∈ new, ∀ q ∈ (88, tabObj #[rawInt 149, rawInt 4, .ref c2]) :: rest, q.1 < p.1) → Q (.ref f) { s with heap := h', toks := tk' }) :
    wpAny (model PR w) (ktrTop dp un gd cn cs L a ccd cl outer) (call (.ref 93) [.int kind tk1, .int k tk2]) Q E s := by
  have hfill : Challenge.rw_mq0241_01 = Challenge.rw_mq0241_01 ∧ Mine.hd.heap_39 = Mine.hd.heap_39 := by (k_fill; exact ⟨rfl, rfl⟩)
  clear hfill
  refine wpAny_call ?_
  k_dflt (refine' code_defC ?k1 ?k2 ?k3 ?k4 ?k5 ?kA ?kF ?kK ?k6 ?k7 ?k8 ?k9 ?kB ?kD ?_ ?c2 ?c3 ?c4; (case kA => exact rfl); (case kF => exact rfl); (case kK => assumption); (case k1 => k_asm); (case k2 => k_asm); (case k3 => k_asm); (case k4 => k_asm); (case k5 => k_asm); (case k6 => k_is); (case k7 => k_is); (case k8 => ktr_room); (case k9 => exact BindsTo.of_eq rfl); (case kB => exact rfl); (case kD => decide +kernel); (case c2 => exact rfl); (case c3 => exact rfl); (case c4 => exact rfl); k_whole)
  intro gg LL hh tkk cells FG FF NN YY BB XX TT l1
  (try k_lt l1)
  (try obtain ⟨l1, l1b⟩ := l1)
  k_cells YY
  (try simp only [List.cons_append, List.nil_append] at NN)
  (try dsimp only)
  (try k_fold)
  k_steps
  all_goals (
    (rename News h₀ L _ _ => nq)
    (rename (_ = Data.cell (bindC _ _ _ (Str.ofString "kind"))) => ck1)
    (rename (_ = Data.cell (bindC _ _ _ (Str.ofString "k"))) => ck2)
    (rename (_ < _) ∧ _ => lq)
    exact deed_end1 nq hc hcd hcv ck1 ck2 l1 l1b lq.1 rfl (by with_unfolding_all rfl) rfl rfl rfl rfl rfl (fun ps' new t1 t2 t3 t4 => hret _ _ _ _ _ t1 t2 (by k_asm) t3 t4))

theorem c_deed {w : World} {kind k : Int} {tk1 tk2 : Tok} {rst : Led} {ps : Array Value} {mean : ExcName → Option Value} {mg mb : Str → Option Value} {dp un : Nat} {gd : Option (List Code)} {cn : Str} {cs : Scope} {a : Addr} {ccd : Value} {cl : List (Str × Addr)} {outer : List Env} {A₀ : Around} {base h₀ : Heap} {L : Addr} {m : Str → Option Value} {rest : Led} {s : Shared} {Q E : Value → Shared → Prop}
    (B : Below A₀ base outer h₀) (F : Fr h₀ L s.heap m) (X : (hd.heap_39 w.params).In h₀) (N : News h₀ L s.heap ((88, tabObj ps) :: rest)) (T : Top topProg LS mean mg mb h₀) (hk : cs.kind = .function) (hdp : dp + 3 < recursionLimit) (_hu : un + 40 < cLine)
    (cH : CodeHd base 92 88) (hoff : ∀ p ∈ rest, p.1 ≠ 88) (ht : Tab88 ps rst)
    (hret : ∀ (f : Addr) (ps' : Array Value) (new : Led) (h' : Heap) (tk' : Nat), Tab88 ps' (new ++ rst) → Deed (new ++ rst) f kind k → Fr h₀ L h' m → News h₀ L h' ((88, tabObj ps') :: (new ++ rest)) → (∀ p ∈ new, ∀ q ∈ (88, tabObj ps) :: rest, q.1 < p.1) → Q (.ref f) { s with heap := h', toks := tk' }) :
    wpAny (model PR w) (ktrTop dp un gd cn cs L a ccd cl outer) (call (.ref 93) [.int kind tk1, .int k tk2]) Q E s := by
  rcases ht with rfl | ⟨c2, oc, vs, tq, rfl, hc, hcd, hcv⟩
  · exact c_deed0 B F X N T hk hdp _hu cH hoff hret
  · exact c_deed1 B F X N T hk hdp _hu cH hoff hc hcd hcv hret
end Mine
end
section
open PySem PySem.W PyProof.Rows PySem.Flt PySem.Calls PySem.Spec
set_option maxRecDepth 100000
namespace Mine
/-- a code object c of that qualified name whose table lies at P -/
def CodeOb (oc : Obj) (c P : Addr) (qual : Str) : Prop :=
  ∃ vs file tf flags tg inF text tt t, oc.cls = .type "code" ∧ oc.data = .fields vs ∧ vs[1]? = some (.str qual t) ∧ vs[11]? = some (.ref P) ∧ vs.getD 11 .none = .ref P ∧ vs.getD 18 .none = .str file tf ∧
    vs.getD 7 .none = .int flags tg ∧ vs.getD 9 .none = .bool inF ∧ vs.getD 10 .none = .int text tt ∧ c ≠ P
theorem CodeOb.hd {h : Heap} {oc : Obj} {c P : Addr} {q : Str} (x : CodeOb oc c P q) (e : h.get? c = some oc) : CodeHd h c P :=
  let ⟨vs, file, tf, flags, tg, inF, text, tt, _, a, b, _, d, f, g, i, j, k, l⟩ := x
  ⟨oc, vs, file, tf, flags, tg, inF, text, tt, e, a, b, d, f, g, i, j, k, l⟩
theorem CodeOb.rec {h : Heap} {oc : Obj} {c P : Addr} {q : Str} (x : CodeOb oc c P q) (e : h.get? c = some oc) : h.CodeRec (.ref c) q :=
  let ⟨vs, _, _, _, _, _, _, _, t, _, b, d, _⟩ := x
  ⟨c, oc, vs, t, rfl, e, b, d⟩
theorem codeOb_of {h : Heap} {c P : Addr} {q : Str} (hc : h.IsCode c P #[]) (ht : h.TableAt c P #[]) (hr : h.CodeRec (.ref c) q) : ∃ oc, h.get? c = some oc ∧ CodeOb oc c P q := by
  obtain ⟨⟨o, vs, e1, e2, e3, e4⟩, _⟩ := ht
  obtain ⟨o', vs', file, tf, flags, tg, inF, text, tt, op, f1, f2, f3, f4, f5, f6, f7, _, _, _, f11⟩ := hc
  rw [e1] at f1; cases f1
  rw [e3] at f2; cases f2
  obtain ⟨c₂, o₂, vs₂, t, r1, r2, r3, r4⟩ := hr
  cases r1
  rw [e1] at r2; cases r2
  rw [e3] at r3; cases r3
  exact ⟨o, e1, vs, file, tf, flags, tg, inF, text, tt, t, e2, e3, r4, e4, f3, f4, f5, f6, f7, f11⟩
section
variable {M : Model} {A : Around} {E : Value → Shared → Prop} {s : Shared} {name qual : Str} {params : Arguments} {body : Expr} {scope : Scope} {env : Env} {c P : Addr} {ps : Array Value} {pos : Pos} {firstLine : Nat} {mg : Str → Option Value}
  {clos : List (Str × Addr)} {Q : Value → Shared → Prop}
theorem lam_tail (hcl : closureFor scope env = pure clos) (hge0 : env.globals = mainGlobals) (hg : s.heap.Ns mainGlobals mg) (hcode : env.code = .ref c) (C : CodeHd s.heap c P) (hP : s.heap.get? P = some (tabObj ps)) (ht : TriplesOk ps.toList)
    (hnf : codeAmong pos ps.toList = none) (hgP : mainGlobals ≠ P) (hb : s.heap.BuiltinsAt mg P)
    (h : ∀ c' P' oc ctv h' tk, Heap.ExtBut P s.heap h' → s.heap.objs.size ≤ c' → c' < h'.objs.size → s.heap.objs.size ≤ P' → h'.get? c' = some oc → CodeOb oc c' P' qual → h'.get? P' = some (tabObj #[]) → h'.get? P = some (tabObj (ps ++ #[rawInt pos.line, rawInt pos.col, .ref c'])) →
      Q (.ref h'.objs.size) { s with heap := h'.push (kla_obj name qual params body scope clos ((mg "__name__").getD .none) c' ctv), toks := tk }) :
    wpAny M A (makeTail name qual params (.expr body) scope env .none .none none pos firstLine) Q E s := by
  obtain ⟨bm, ob, hbm, hne0, _, hneP, hbo, hcls, hdict, hdata⟩ := hb
  unfold makeTail
  rw [hcl, hge0]
  refine wpAny_bind (wpAny_pure ?_)
  cases clos with
  | nil =>
    simp only [List.isEmpty_nil, if_true]
    refine wpAny_bind (wpAny_pure ?_)
    refine wpAny_bind (wpAny_functionCodeX hcode (C.code hP ht) (C.tab hP) hnf fun c' h' tk hx hge hlt _ hrec htb hnew => ?_)
    obtain ⟨P', hP', i1, i2⟩ := hnew
    obtain ⟨oc, ho, hob⟩ := codeOb_of i1 i2 hrec
    have hg' := hg.extBut hx hgP
    refine wpAny_bind (wpAny_builtinsFor hg' hbm hne0 (hx _ _ hneP hbo) hcls hdict hdata ?_)
    refine wpAny_bind (wpAny_nsGet hg' ?_)
    exact wpAny_bind (wpAny_pure (wpAny_newObj_type (h c' P' oc .none h' tk hx hge hlt hP' ho hob i2.2 htb.2) (by size_fits)))
  | cons q r =>
    simp only [List.isEmpty_cons, Bool.false_eq_true, if_false]
    refine wpAny_bind (wpAny_newTextTuple ?_)
    refine wpAny_bind (wpAny_functionCodeX hcode ((C.keeps fun b o e => Heap.get?_push_of_some _ e).code (Heap.get?_push_of_some _ hP) ht) ((C.keeps fun b o e => Heap.get?_push_of_some _ e).tab (Heap.get?_push_of_some _ hP)) hnf fun c' h' tk hx hge hlt _ hrec htb hnew => ?_)
    obtain ⟨P', hP', i1, i2⟩ := hnew
    obtain ⟨oc, ho, hob⟩ := codeOb_of i1 i2 hrec
    have hg' := (hg.push _).extBut hx hgP
    have hx' : Heap.ExtBut P s.heap h' := fun b o hb' e => hx b o hb' (Heap.get?_push_of_some _ e)
    have hge' : s.heap.objs.size ≤ c' := Nat.le_trans (by rw [Heap.size_push]; lia) hge
    have hP'' : s.heap.objs.size ≤ P' := Nat.le_trans (by rw [Heap.size_push]; lia) hP'
    refine wpAny_bind (wpAny_builtinsFor hg' hbm hne0 (hx' _ _ hneP hbo) hcls hdict hdata ?_)
    refine wpAny_bind (wpAny_nsGet hg' ?_)
    exact wpAny_bind (wpAny_pure (wpAny_newObj_type (h c' P' oc _ h' tk hx' hge' hlt hP'' ho hob i2.2 htb.2) (by size_fits)))
end
section
variable {M : Model} {A : Around} {E : Value → Shared → Prop} {s : Shared} {h₀ : Heap} {L a c P : Addr} {m mg mb : Str → Option Value} {cn : Str} {cs : Scope} {ccd : Value} {cl : List (Str × Addr)} {news : List (Addr × Obj)} {g : Obj → List (Addr × Obj)}
  {p : Program} {loose : List Str} {mean : ExcName → Option Value} {name qual : Str} {params : Arguments} {body : Expr} {scope : Scope} {ps : Array Value} {pos : Pos} {firstLine : Nat} {clos : List (Str × Addr)}
theorem lam_new {Q : Value → Shared → Prop} (F : Fr h₀ L s.heap m) (N : News h₀ L s.heap news) (T : Top p loose mean mg mb h₀) (C : CodeHd s.heap c P) (hcd : ccd = .ref c) (U : UpdF P (tabObj ps) news g) (ht : TriplesOk ps.toList) (hnf : codeAmong pos ps.toList = none)
    (hcl : closureFor scope (envX cn cs L a ccd cl) = pure clos)
    (h : ∀ f c' P' oc ctv h' tk, Fr h₀ L h' m →
      News h₀ L h' ((f, kla_obj name qual params body scope clos ((mg "__name__").getD .none) c' ctv) :: (c', oc) :: (P', tabObj #[]) :: g (tabObj (ps ++ #[rawInt pos.line, rawInt pos.col, .ref c']))) →
      CodeOb oc c' P' qual → (∀ q ∈ news, q.1 < c') → (∀ q ∈ news, q.1 < P') → c' < f → P' < f → c' ≠ P' → Q (.ref f) { s with heap := h', toks := tk }) :
    wpAny M A (makeFunction name qual params (.expr body) scope (envX cn cs L a ccd cl) [] [] [] pos firstLine) Q E s := by
  obtain ⟨own, rest, rfl, hgr, h1, h2⟩ := U.split
  have hm := N (P, tabObj ps) (List.mem_append_right _ (.head _))
  have hgs := T.g.keeps F.keep
  obtain ⟨bm, ob, b1, b2, b3, b4, b5, b6⟩ := T.bmain
  have hgP : mainGlobals ≠ P := fun q => by
    obtain ⟨o, es, ep, e, hd, _⟩ := hgs
    rw [q, hm.1] at e; cases e; cases hd
  have hbP : bm ≠ P := fun q => by
    have e := F.keep _ _ b3
    rw [q, hm.1] at e; cases e; cases b4
  have hbG : bm ≠ mainGlobals := fun q => by
    obtain ⟨o, es, ep, e, hd, _⟩ := T.g
    rw [q, e] at b3; cases b3; rw [hd] at b6; cases b6
  rw [makeFunction_eq]
  simp only [List.zip_nil_right, List.filterMap_nil, List.isEmpty_nil, if_true, pure_bind]
  refine lam_tail (mg := mg) hcl rfl hgs hcd C hm.1 ht hnf hgP ⟨bm, ob, b1, b2, hbG, hbP, F.keep _ _ b3, b4, b5, b6⟩ fun c' P' oc ctv h' tk hx hge hlt hP' hoc hob htP htb => ?_
  have hLs : L < s.heap.objs.size := F.ns.lt
  have hLc : L < c' := Nat.lt_of_lt_of_le hLs hge
  have hLP : L < P' := Nat.lt_of_lt_of_le hLs hP'
  have hPlt : P' < h'.objs.size := Heap.lt_size htP
  have old : ∀ b o, h₀.get? b = some o → h'.get? b = some o := fun b o e => hx b o (fun q => by rw [q, hm.2.2] at e; cases e) (F.keep b o e)
  have fresh : ∀ b, L < b → h₀.get? b = none := fun b hb => Heap.get?_none_of_le (Nat.le_trans F.above (Nat.le_of_lt hb))
  have hne : c' ≠ P' := let ⟨_, _, _, _, _, _, _, _, _, _, _, _, _, _, _, _, _, _, l⟩ := hob; l
  refine h h'.objs.size c' P' oc ctv _ tk ⟨(F.ns.extBut hx hm.2.1.symm).push _, fun b o e => Heap.get?_push_of_some _ (old b o e), F.above⟩ (fun q hq => ?_) hob
    (fun q hq => Nat.lt_of_lt_of_le (Heap.lt_size (N q hq).1) hge) (fun q hq => Nat.lt_of_lt_of_le (Heap.lt_size (N q hq).1) hP') hlt hPlt hne
  rcases List.mem_cons.mp hq with rfl | hq
  · exact ⟨Heap.get?_push_size _ rfl, Nat.ne_of_gt (Nat.lt_trans hLc hlt), fresh _ (Nat.lt_trans hLc hlt)⟩
  · rcases List.mem_cons.mp hq with rfl | hq
    · exact ⟨Heap.get?_push_of_some _ hoc, Nat.ne_of_gt hLc, fresh _ hLc⟩
    · rcases List.mem_cons.mp hq with rfl | hq
      · exact ⟨Heap.get?_push_of_some _ htP, Nat.ne_of_gt hLP, fresh _ hLP⟩
      · rw [hgr] at hq
        rcases List.mem_append.mp hq with hq | hq
        · have n := N q (List.mem_append_left _ hq)
          exact ⟨Heap.get?_push_of_some _ (hx _ _ (h1 q hq) n.1), n.2⟩
        · rcases List.mem_cons.mp hq with rfl | hq
          · exact ⟨Heap.get?_push_of_some _ htb, hm.2⟩
          · have n := N q (List.mem_append_right _ (.tail _ hq))
            exact ⟨Heap.get?_push_of_some _ (hx _ _ (h2 q hq) n.1), n.2⟩
theorem lam_hit {Q : Value → Shared → Prop} {c' : Addr} (F : Fr h₀ L s.heap m) (N : News h₀ L s.heap news) (T : Top p loose mean mg mb h₀) (C : CodeHd s.heap c P) (hcd : ccd = .ref c) (hmem : (P, tabObj ps) ∈ news) (ht : TriplesOk ps.toList) (hf : codeAmong pos ps.toList = some (.ref c'))
    (hcl : closureFor scope (envX cn cs L a ccd cl) = pure clos)
    (h : ∀ f ctv h' tk, Fr h₀ L h' m → News h₀ L h' ((f, kla_obj name qual params body scope clos ((mg "__name__").getD .none) c' ctv) :: news) → (∀ q ∈ news, q.1 < f) → Q (.ref f) { s with heap := h', toks := tk }) :
    wpAny M A (makeFunction name qual params (.expr body) scope (envX cn cs L a ccd cl) [] [] [] pos firstLine) Q E s := by
  have hm := N (P, tabObj ps) hmem
  have hgs := T.g.keeps F.keep
  obtain ⟨bm, ob, b1, b2, b3, b4, b5, b6⟩ := T.bmain
  have hbP : bm ≠ P := fun q => by
    have e := F.keep _ _ b3
    rw [q, hm.1] at e; cases e; cases b4
  have hbG : bm ≠ mainGlobals := fun q => by
    obtain ⟨o, es, ep, e, hd, _⟩ := T.g
    rw [q, e] at b3; cases b3; rw [hd] at b6; cases b6
  refine kla_makeFunctionHit (mg := mg) hcl rfl hgs hcd C hm.1 ht hf ⟨bm, ob, b1, b2, hbG, hbP, F.keep _ _ b3, b4, b5, b6⟩ fun ctv h' tk hk hsz => ?_
  have hLs : L < h'.objs.size := Nat.lt_of_lt_of_le F.ns.lt hsz
  have fresh : ∀ b, L < b → h₀.get? b = none := fun b hb => Heap.get?_none_of_le (Nat.le_trans F.above (Nat.le_of_lt hb))
  refine h h'.objs.size ctv _ tk ⟨(F.ns.keeps hk).push _, fun b o e => Heap.get?_push_of_some _ (hk b o (F.keep b o e)), F.above⟩ (fun q hq => ?_) (fun q hq => Nat.lt_of_lt_of_le (Heap.lt_size (N q hq).1) hsz)
  rcases List.mem_cons.mp hq with rfl | hq
  · exact ⟨Heap.get?_push_size _ rfl, Nat.ne_of_gt hLs, fresh _ hLs⟩
  · exact ⟨Heap.get?_push_of_some _ (hk _ _ (N q hq).1), (N q hq).2⟩
end
end Mine
end
section
open PySem PySem.W PyProof.Rows PySem.Flt PySem.Calls PySem.Spec
set_option maxRecDepth 100000
namespace Mine
section
variable {prog : Program} {w : World} {A₀ A : Around} {s : Shared} {base h₀ : Heap} {outer : List Env} {L : Addr} {m : Str → Option Value} {env : Env} {news : List (Addr × Obj)}
  {R : Result → Shared → Prop} {name qual : Str} {params : Arguments} {body : Expr} {scope : Scope} {pm ct : Value} {cdv : Value} {fo : Obj} {f : Addr} {args : Args} {binds : List (Str × Value)}
/-- a lambda whose own names are cells -/
theorem callE_cells (B : Below A₀ base outer h₀) (F : Fr h₀ L s.heap m) (N : News h₀ L s.heap news) (hlim : h₀.NoLimit) (hA : A.frames = some (env :: outer)) (hf : env.frame = some L) (hke : env.scope.kind = .function)
    (ho : s.heap.get? f = some fo) (hd : fo.data = .func (kla_fn name qual params body scope [] pm cdv ct)) (hcd : s.heap.CodeRec cdv qual) (hroom : A.depth < recursionLimit)
    (hbind : bindArgs (kla_fn name qual params body scope [] pm cdv ct) args = pure binds)
    (hkind : ∀ n, ∀ x ∈ binds, scope.names.lookup x.1 = some .local ∨ (scope.names.lookup x.1 = some .cell ∧ ((cellsFrom n scope.names []).lookup x.1).isSome = true))
    (hnd : ((cellsFrom 0 scope.names []).map (·.1)).Nodup)
    (h : ∀ g L' h₁ tk cells, Fr h₀ L g m → Fr g L' h₁ (bindL (envOfC qual scope L' f cdv).kindOf binds fun _ => none) → News g L' h₁ (cells ++ news) →
      CellsAre (bindC (envOfC qual scope L' f cdv).kindOf binds fun _ => none) (cellsFrom (L' + 1) scope.names []) cells → Below A base (env :: outer) g → h₀.StaysIn g → (∀ p ∈ news, p.1 < L') →
      wpAny (model prog w) (A.deeper (envOfC qual scope L' f cdv)) (eval body (envOfC qual scope L' f cdv))
        (fun v s' => LeaveK h₀ L m g R v s')
        (fun e s' => wpAny (model prog w) (A.deeper (envOfC qual scope L' f cdv)) (leaving (envOfC qual scope L' f cdv) e) (fun _ s'' => R (.error e) s'') (fun e' s'' => R (.error e') s'') s')
        { s with heap := h₁, toks := tk })
    (hco : scope.isCoroutine = false) (hgen : scope.isGenerator = false) (hk : scope.kind = .function) : codeAny (model prog w) A (.call (.ref f) args) R s := by
  obtain ⟨FG, BG, st, lv⟩ := groundX (R := R) B F N hA hf hke
  refine kla_callFunE hroom ho hd hco hgen rfl hcd ?_
  rw [hbind]
  refine wpAny_pure (wpAny_newFunctionEnv_cells hk (hkind _) fun env' he s' x => ?_)
  subst he
  refine ⟨(hlim.keeps F.keep).keeps x.toInCall.keep, kla_codeExpr ?_⟩
  obtain ⟨h₁, tk, rfl, _⟩ := x.done
  have hk₁ := x.toInCall.keep
  obtain ⟨cells, NC, Y⟩ := Cl.news (h₀ := s.heap) (Nat.le_refl _) fun n c hm => ⟨x.cell n c (lookup_of_mem_nodup (cellsFrom_names scope.names 0 (s.heap.objs.size + 1) [] [] rfl ▸ hnd) hm), x.above n c hm⟩
  refine wpAny_mono (h _ s.heap.objs.size h₁ tk cells FG ⟨x.toInCall.ns, fun b o e => hk₁ b o (of_hideAll _ e), Nat.le_of_eq (hideAll_size _ _)⟩ (fun p hp => ?_) Y BG st (fun p hp => Heap.lt_size (N p hp).1)) (fun fl s' hl => lv _ _ hl) fun _ _ y => y
  rcases List.mem_append.mp hp with hp | hp
  · refine ⟨(NC p hp).1, (NC p hp).2.1, ?_⟩
    cases q : (hideAll s.heap (news.map (·.1))).get? p.1 with
    | none => rfl
    | some o => have := of_hideAll _ q; rw [(NC p hp).2.2] at this; cases this
  · exact ⟨hk₁ _ _ (N p hp).1, Nat.ne_of_lt (Heap.lt_size (N p hp).1), hideAll_none _ (List.mem_map_of_mem hp)⟩
end
end Mine
end
section
open PySem PySem.W PyProof.Rows PySem.Flt
set_option maxRecDepth 100000
namespace Mine
theorem rows19 : True := by
  w_top off
  k_with_none
  trivial
/-- a part read back -/
def rndI (P : Int) (x : UInt64) : Int := toInt Float64.truncOf (Float64.add (Float64.mul x (Float64.ofInt (4 * P))) 4602678819172646912)
theorem rows17 : True := by
  k_with "k_all" => ((first | (refine ne_all (by assumption) ?_; (try dsimp only); omega) | (refine ne_all (And.right (by assumption)) ?_; (try dsimp only); omega)))
  k_with "eval ListComp" => ((k_here; k_dflt (refine LCg.ListComp_U (F₀ := by k_asm) (by with_unfolding_all rfl) (by decide) (by rfl) (by decide) (by rfl) ?_)))
  k_with "CompSrc" => ((k_here; k_dflt (refine LCg.CompSrc.ledger (by rfl) (by k_asm) (by k_asm) (by k_mem) (by first | size_fits | exact Nat.le_of_ble_eq_true rfl) ?_; intro _; lcg_lit)))
  k_with "CompRest" => ((with_unfolding_all first
  | (refine LCg.CompRest.succ ?_; intro _ _ _ _ _ _ _ _ _ _ hvq1 _ _ _ _ _ _; (first | lcg_open hvq1 | (obtain ⟨_, hv9q1⟩ := hvq1; subst hv9q1)))
  | refine LCg.CompRest.zero ?_))
  k_with "CompEnd" => ((refine LCg.CompEnd.intro (by assumption) (by assumption) _ (fun _ h => h) (by assumption) (by first | lcg_src | assumption) ?_))
  trivial
section
variable {prog : Program} {w : World} {A : Around} {E : Value → Shared → Prop} {s : Shared} {Q : Value → Shared → Prop}
theorem div_k {a b : Int} {t u : Tok} (hA : A.handled = none) (ha : -1073741824 ≤ a ∧ a ≤ 1073741824) (hb : b ≠ 0) (h : Q (.float (kdiv a b) s.toks) { s with toks := s.toks + 1 }) : wpAny (model prog w) A (binaryOp .Div (.int a t) (.int b u)) Q E s :=
  div_ii_fits hA (Nat.lt_of_lt_of_le (show a.natAbs < 2 ^ 31 by lia) (Nat.pow_le_pow_right (by decide) (by decide))) (fun h0 => absurd h0 hb) fun _ _ => h
theorem mul_k {x : UInt64} {n : Int} {t u : Tok} (ha : -1073741824 ≤ n ∧ n ≤ 1073741824) (h : Q (.float (Float64.mul x (Float64.ofInt n)) s.toks) { s with toks := s.toks + 1 }) : wpAny (model prog w) A (binaryOp .Mult (.float x t) (.int n u)) Q E s :=
  mul_fi_fits (Nat.lt_of_lt_of_le (show n.natAbs < 2 ^ 31 by lia) (Nat.pow_le_pow_right (by decide) (by decide))) h
theorem int_k {x : UInt64} {t : Tok} (hA : A.handled = none) (hf : Float64.isFinite x = true) (h : Q (.int (toInt Float64.truncOf x) s.toks) { s with toks := s.toks + 1 }) : wpAny (model prog w) A (call (.type "int") [.float x t]) Q E s :=
  call_int_float3 hA (fun h0 => absurd h0 (by rw [not_nan_of_finite hf]; exact Bool.false_ne_true)) (fun h0 => absurd h0 (by rw [not_inf_of_finite hf]; exact Bool.false_ne_true)) fun _ => h
end
theorem rows18 : True := by
  k_with "binaryOp Div int int" => ((refine div_k rfl ?_ ?_ ?_; lia; lia))
  k_with "binaryOp Mult float int" => ((refine mul_k ?_ ?_; lia))
  k_with "call type:int" => ((refine int_k rfl (by with_reducible assumption) ?_))
  k_with "subscriptTail Name Constant ref int" => ((k_here; (with_reducible show wpAny _ _ (subscriptTail _ _ (Value.ref _) (Value.int _ _)) _ _ _); (with_unfolding_all refine' item_litK (by is_list) (by decide) (by decide) (by rfl) ?_ (by with_unfolding_all rfl); k_whole)))
  k_with "eval ListComp" => ((k_here; (with_reducible show wpAny _ _ (eval (Expr.ListComp _ [Comprehension.mk _ (Expr.Call _ _ _ _) _ _] _ _) _) _ _ _); k_dflt (refine ListComp_T (by k_asm) (by with_unfolding_all rfl) (by decide) (by rfl) (by decide) (by rfl) ?_)))
  k_with "TupSrc" => ((k_here; k_dflt (refine tupSrc (by rfl) (by k_asm) (by k_asm) (by k_mem) (by first | size_fits | exact Nat.le_of_ble_eq_true rfl) ?_; intro _; lcg_lit)))
  k_with "CompEnd" => ((refine LCg.CompEnd.intro (by assumption) (by assumption) _ (fun _ h => h) (by assumption) (by first | lcg_src | assumption | k_mem) ?_))
  k_with "call ref" => ((k_here; (with_reducible show wpAny _ _ (call (Value.ref 86) [Value.int _ _, Value.int _ _, Value.float _ _, Value.float _ _, Value.float _ _]) _ _ _); k_dflt (refine' c_moved (by k_asm) (by k_asm) (by k_asm) (by k_asm) (by k_asm) (by first | exact rfl | assumption) (by ktr_room) (by ktr_units) (by with_reducible assumption) (by with_reducible assumption) (by with_reducible assumption) (by with_reducible assumption) (by with_reducible assumption) (ret3 ?_)); intro _ _ _ _ _ _ _ _ _; (try dsimp only)))
  trivial
set_option maxHeartbeats 8000000 in
theorem c_done {w : World} {kind k : Int} {tk1 tk2 : Tok} {f c2 a1 a2 st : Addr} {oc o1 o2 : Obj} {vs : Array Value} {tq : Tok} {doc pm ctv : Value} {P x1 x2 x3 : Int} {tp u1 u2 u3 : Tok} {n : Nat} {mean : ExcName → Option Value} {mg mb : Str → Option Value} {dp un : Nat} {gd : Option (List Code)} {cn : Str} {cs : Scope} {a : Addr} {ccd : Value} {cl : List (Str × Addr)} {outer : List Env} {A₀ : Around} {base h₀ : Heap} {L : Addr} {m : Str → Option Value} {news : List (Addr × Obj)} {s : Shared} {Q E : Value → Shared → Prop}
    (B : Below A₀ base outer h₀) (F : Fr h₀ L s.heap m) (X : (hd.heap_39 w.params).In h₀) (N : News h₀ L s.heap news) (T : Top topProg LS mean mg mb h₀) (hk : cs.kind = .function) (hdp : dp + 8 < recursionLimit) (_hu : un + 80 < cLine)
    (cH : CodeHd base 92 88) (hf : (f, doneObj a1 a2 doc pm c2 ctv) ∈ news) (hc : (c2, oc) ∈ news) (hcd : oc.data = .fields vs) (hcv : vs[1]? = some (.str doneQ tq))
    (h1 : (a1, o1) ∈ news) (h2 : (a2, o2) ∈ news) (hd1 : o1.data = .cell (some (.int kind tk1))) (hd2 : o2.data = .cell (some (.int k tk2)))
    (hst : (st, W.listOf #[.int P tp, .int x1 u1, .int x2 u2, .int x3 u3] n) ∈ news)
    (hk0 : 0 ≤ kind) (hk8 : kind < 8) (hk1 : 1 ≤ k) (hk5 : k ≤ 5) (hP : 0 < P) (hPs : P ≤ 1048576) (hx1 : 0 ≤ x1 ∧ x1 ≤ P) (hx2 : 0 ≤ x2 ∧ x2 ≤ P) (hx3 : 0 ≤ x3 ∧ x3 ≤ P) (ok : MovedOk k (kdiv (4 * x1) (4 * P)) (kdiv (4 * x2) (4 * P)) (kdiv (4 * x3) (4 * P)))
    (fin1 : Float64.isFinite (Float64.add (Float64.mul (movedF kind k (kdiv (4 * x1) (4 * P)) (kdiv (4 * x2) (4 * P)) (kdiv (4 * x3) (4 * P))).fst (Float64.ofInt (4 * P))) 4602678819172646912) = true) (fin2 : Float64.isFinite (Float64.add (Float64.mul (movedF kind k (kdiv (4 * x1) (4 * P)) (kdiv (4 * x2) (4 * P)) (kdiv (4 * x3) (4 * P))).snd.fst (Float64.ofInt (4 * P))) 4602678819172646912) = true) (fin3 : Float64.isFinite (Float64.add (Float64.mul (movedF kind k (kdiv (4 * x1) (4 * P)) (kdiv (4 * x2) (4 * P)) (kdiv (4 * x3) (4 * P))).snd.snd (Float64.ofInt (4 * P))) 4602678819172646912) = true)
    (hret : ∀ (D : Addr) (t0 t1 t2 t3 : Tok) (nn : Nat) (h' : Heap) (tk' : Nat), Fr h₀ L h' m → News h₀ L h' ((D, W.listOf #[Value.int (4 * P) t0, Value.int (rndI P (movedF kind k (kdiv (4 * x1) (4 * P)) (kdiv (4 * x2) (4 * P)) (kdiv (4 * x3) (4 * P))).1) t1, Value.int (rndI P (movedF kind k (kdiv (4 * x1) (4 * P)) (kdiv (4 * x2) (4 * P)) (kdiv (4 * x3) (4 * P))).2.1) t2, Value.int (rndI P (movedF kind k (kdiv (4 * x1) (4 * P)) (kdiv (4 * x2) (4 * P)) (kdiv (4 * x3) (4 * P))).2.2) t3] nn) :: news) → AllLt D news → Q (.ref D) { s with heap := h', toks := tk' }) :
    wpAny (model PR w) (ktrTop dp un gd cn cs L a ccd cl outer) (call (.ref f) [.ref st]) Q E s := by
  have hfill : Challenge.rw_mq0241_01 = Challenge.rw_mq0241_01 ∧ Mine.hd.heap_39 = Mine.hd.heap_39 := by (k_fill; exact ⟨rfl, rfl⟩)
  clear hfill
  replace N := news_front (news_front (news_front N h1) (.tail _ h2)) (.tail _ (.tail _ hst))
  replace hf := List.Mem.tail (st, W.listOf #[.int P tp, .int x1 u1, .int x2 u2, .int x3 u3] n) (List.Mem.tail (a2, o2) (List.Mem.tail (a1, o1) hf))
  replace hc := List.Mem.tail (st, W.listOf #[.int P tp, .int x1 u1, .int x2 u2, .int x3 u3] n) (List.Mem.tail (a2, o2) (List.Mem.tail (a1, o1) hc))
  unfold rndI at hret
  refine wpAny_call ?_
  refine callX_cc (px := Str.ofString "parts") B F N T.nolimit rfl rfl hk (N _ hf).1 rfl (codeRec_news N hc hcd hcv) (by ktr_room) (BindsTo.of_eq rfl) rfl (fun _ => rfl) (fun _ => rfl) ?_ rfl rfl rfl
  intro gg LL hh FG FF NN BB st0 l1
  have XX := X.keeps st0
  have TT := T.keeps st0
  (try k_lt l1)
  (try obtain ⟨l1, l1b⟩ := l1)
  (have hc0 : cell0.data = Data.cell none := rfl)
  generalize cell0 = oc0 at NN hc0
  (repeat (conv in doneB => whnf))
  (repeat (conv in doneS => whnf))
  (try dsimp only)
  (try k_fold)
  k_steps
  all_goals (
    (rename News h₀ L _ _ => nq)
    (rename (_ < _) ∧ _ => lq)
    (repeat (replace lq := And.right lq))
    exact hret _ _ _ _ _ _ _ _ (by k_asm) (cb_drop nq (List.forall_mem_cons.mpr ⟨List.Mem.head _, by intro p hp; repeat (first | exact hp | refine List.Mem.tail _ ?_)⟩)) lq)

end Mine
end
section
open PySem PySem.W PyProof.Rows PySem.Flt PySem.Calls PySem.Spec
set_option maxRecDepth 100000
namespace Mine
abbrev S4 := Int × Int × Int × Int
def IsSt (o : Obj) (q : S4) : Prop := ∃ (t0 t1 t2 t3 : Tok) (n : Nat), o = W.listOf #[.int q.1 t0, .int q.2.1 t1, .int q.2.2.1 t2, .int q.2.2.2 t3] n
def dueS (kind k : Int) (q : S4) : S4 := dueI kind k q.1 q.2.1 q.2.2.1 q.2.2.2
def Valid (j : Nat) (q : S4) : Prop := q.1 = 16 * 4 ^ j ∧ (0 ≤ q.2.1 ∧ q.2.1 ≤ q.1) ∧ (0 ≤ q.2.2.1 ∧ q.2.2.1 ≤ q.1) ∧ (0 ≤ q.2.2.2 ∧ q.2.2.2 ≤ q.1)
def mvS (kind k : Int) (q : S4) : UInt64 × UInt64 × UInt64 := movedF kind k (kdiv (4 * q.2.1) (4 * q.1)) (kdiv (4 * q.2.2.1) (4 * q.1)) (kdiv (4 * q.2.2.2) (4 * q.1))
def rndOk (P : Int) (x : UInt64) : Prop := Float64.isFinite (Float64.add (Float64.mul x (Float64.ofInt (4 * P))) 4602678819172646912) = true
/-- the plain law: what a deed reckons by floats is what is due -/
def Plain : Prop := ∀ (kind k : Int) (j : Nat) (q : S4), 0 ≤ kind → kind < 8 → 1 ≤ k → k ≤ 5 → j ≤ 7 → Valid j q →
  MovedOk k (kdiv (4 * q.2.1) (4 * q.1)) (kdiv (4 * q.2.2.1) (4 * q.1)) (kdiv (4 * q.2.2.2) (4 * q.1)) ∧
  (rndOk q.1 (mvS kind k q).1 ∧ rndOk q.1 (mvS kind k q).2.1 ∧ rndOk q.1 (mvS kind k q).2.2) ∧
  dueS kind k q = (4 * q.1, rndI q.1 (mvS kind k q).1, rndI q.1 (mvS kind k q).2.1, rndI q.1 (mvS kind k q).2.2)
def Fn (rest : Led) (f : Addr) : Prop := ∃ (oc : Value) (od : Option Addr) (fd : FuncData) (sl : Array (Option Value)), (f, (⟨oc, od, .func fd, sl⟩ : Obj)) ∈ rest
/-- calling f on a state gives the state φ makes of it -/
def Does (w : World) (base : Heap) (mean : ExcName → Option Value) (mg mb : Str → Option Value) (d u : Nat) (rest : Led) (f : Addr) (V : S4 → Prop) (φ : S4 → S4) : Prop :=
  ∀ (dp un : Nat) (gd : Option (List Code)) (cn : Str) (cs : Scope) (a : Addr) (ccd : Value) (cl : List (Str × Addr)) (outer : List Env) (A₀ : Around) (h₀ : Heap) (L : Addr) (m : Str → Option Value) (s : Shared) (Q E : Value → Shared → Prop) (all : Led) (st : Addr) (o : Obj) (q : S4),
    Below A₀ base outer h₀ → Fr h₀ L s.heap m → (hd.heap_39 w.params).In h₀ → News h₀ L s.heap all → Top topProg LS mean mg mb h₀ → cs.kind = .function → dp + d < recursionLimit → un + u < cLine →
    (∀ p ∈ rest, p ∈ all) → (st, o) ∈ all → IsSt o q → V q →
    (∀ (D : Addr) (o' : Obj) (h' : Heap) (tk' : Nat), IsSt o' (φ q) → Fr h₀ L h' m → News h₀ L h' ((D, o') :: all) → AllLt D all → Q (.ref D) { s with heap := h', toks := tk' }) →
    wpAny (model PR w) (ktrTop dp un gd cn cs L a ccd cl outer) (call (.ref f) [.ref st]) Q E s
section
variable {w : World} {base : Heap} {mean : ExcName → Option Value} {mg mb : Str → Option Value} {d u : Nat} {rest rest' all : Led} {f st : Addr} {V : S4 → Prop} {φ : S4 → S4}
theorem Does.mono (H : Does w base mean mg mb d u rest f V φ) (hs : ∀ p ∈ rest, p ∈ rest') : Does w base mean mg mb d u rest' f V φ :=
  fun dp un gd cn cs a ccd cl outer A₀ h₀ L m s Q E all st o q B F X N T hk hdp hu hsub => H dp un gd cn cs a ccd cl outer A₀ h₀ L m s Q E all st o q B F X N T hk hdp hu (fun p hp => hsub p (hs p hp))
theorem Does.more {d' u' : Nat} (H : Does w base mean mg mb d u rest f V φ) (hd : d ≤ d') (hu : u ≤ u') : Does w base mean mg mb d' u' rest f V φ :=
  fun dp un gd cn cs a ccd cl outer A₀ h₀ L m s Q E all st o q B F X N T hk hdp hu' => H dp un gd cn cs a ccd cl outer A₀ h₀ L m s Q E all st o q B F X N T hk (Nat.lt_of_le_of_lt (Nat.add_le_add_left hd _) hdp) (Nat.lt_of_le_of_lt (Nat.add_le_add_left hu _) hu')
theorem Fn.mono (H : Fn rest f) (hs : ∀ p ∈ rest, p ∈ rest') : Fn rest' f := let ⟨oc, od, fd, sl, h⟩ := H; ⟨oc, od, fd, sl, hs _ h⟩
theorem Does.use {dp un : Nat} {gd : Option (List Code)} {cn : Str} {cs : Scope} {a : Addr} {ccd : Value} {cl : List (Str × Addr)} {outer : List Env} {A₀ : Around} {h₀ : Heap} {L : Addr} {m : Str → Option Value} {s : Shared} {Q E : Value → Shared → Prop} {o : Obj} {q : S4}
    (H : Does w base mean mg mb d u rest f V φ) (B : Below A₀ base outer h₀) (F : Fr h₀ L s.heap m) (X : (hd.heap_39 w.params).In h₀) (T : Top topProg LS mean mg mb h₀) (hk : cs.kind = .function) (hdp : dp + d < recursionLimit) (hu : un + u < cLine)
    (N : News h₀ L s.heap all) (hs : ∀ p ∈ rest, p ∈ all) (hst : (st, o) ∈ all) (ho : IsSt o q) (hV : V q)
    (h : ∀ (D : Addr) (o' : Obj) (h' : Heap) (tk' : Nat), IsSt o' (φ q) → Fr h₀ L h' m → News h₀ L h' ((D, o') :: all) → AllLt D all → Q (.ref D) { s with heap := h', toks := tk' }) :
    wpAny (model PR w) (ktrTop dp un gd cn cs L a ccd cl outer) (call (.ref f) [.ref st]) Q E s := H _ _ _ _ _ _ _ _ _ _ _ _ _ _ _ _ _ _ _ _ B F X N T hk hdp hu hs hst ho hV h
theorem pow_small {j : Nat} (hj : j ≤ 7) : (0 : Int) < 16 * 4 ^ j ∧ (16 : Int) * 4 ^ j ≤ 1048576 := by
  have h : (4 : Nat) ^ j ≤ 4 ^ 7 := Nat.pow_le_pow_right (by decide) hj
  have h0 : 0 < (4 : Nat) ^ j := Nat.pow_pos (by decide)
  have e : ((4 ^ j : Nat) : Int) = (4 : Int) ^ j := by push_cast; rfl
  rw [← e]
  constructor <;> lia
theorem does_deed (pl : Plain) (cH : CodeHd base 92 88) {kind k : Int} (D : Deed rest f kind k) (h0 : 0 ≤ kind) (h8 : kind < 8) (h1 : 1 ≤ k) (h5 : k ≤ 5) {j : Nat} (hj : j ≤ 7) : Does w base mean mg mb 8 80 rest f (Valid j) (dueS kind k) := by
  intro dp un gd cn cs a ccd cl outer A₀ h₀ L m s Q E all st o q B F X N T hk hdp hu hs hst ho hV hret
  obtain ⟨a1, a2, doc, pm, c2, ctv, oc, o1, o2, vs, tq, tk1, tk2, D⟩ := D
  obtain ⟨t0, t1, t2, t3, n, rfl⟩ := ho
  obtain ⟨p1, ⟨f1, f2, f3⟩, p3⟩ := pl kind k j q h0 h8 h1 h5 hj hV
  obtain ⟨e, v1, v2, v3⟩ := hV
  have hP := pow_small hj
  rw [← e] at hP
  refine c_done B F X N T hk hdp hu cH (hs _ D.hf) (hs _ D.hc) D.hcd D.hcv (hs _ D.h1) (hs _ D.h2) D.hd1 D.hd2 hst h0 h8 h1 h5 hP.1 hP.2 v1 v2 v3 p1 f1 f2 f3 ?_
  intro D' t0' t1' t2' t3' nn h' tk' F' N' l'
  refine hret D' _ h' tk' ⟨t0', t1', t2', t3', nn, ?_⟩ F' N' l'
  rw [p3]
  rfl
end
end Mine
end
section
open PySem PySem.W PyProof.Rows PySem.Flt
set_option maxRecDepth 100000
namespace Mine
def lamOf : PySem.Expr → Arguments × PySem.Expr × Scope
  | .Lambda a b s _ => (a, b, s)
  | _ => default
def callArg : Stmt → PySem.Expr
  | .Assign _ (.Call _ (a :: _) _ _) _ => a
  | _ => default
def forBody : Stmt → List Stmt
  | .For _ _ b _ _ => b
  | _ => default
noncomputable def agreesB : List Stmt := (fnDef (PR.main.body.getD 19 default)).2.1
noncomputable def joinL : Arguments × PySem.Expr × Scope := lamOf (callArg (agreesB.getD 1 default))
noncomputable def joinA : Arguments := joinL.1
noncomputable def joinB : PySem.Expr := joinL.2.1
noncomputable def joinS : Scope := joinL.2.2
noncomputable def compL : Arguments × PySem.Expr × Scope := lamOf joinB
noncomputable def compA : Arguments := compL.1
noncomputable def compB : PySem.Expr := compL.2.1
noncomputable def compS : Scope := compL.2.2
noncomputable def rowL : Arguments × PySem.Expr × Scope := lamOf (callArg ((forBody (agreesB.getD 2 default)).getD 0 default))
noncomputable def rowA : Arguments := rowL.1
noncomputable def rowB : PySem.Expr := rowL.2.1
noncomputable def rowS : Scope := rowL.2.2
def lamN : Str := Str.ofString "<lambda>"
def joinQ : Str := Str.ofString "_law_agrees.<locals>.<lambda>"
def compQ : Str := Str.ofString "_law_agrees.<locals>.<lambda>.<locals>.<lambda>"
noncomputable abbrev joinObj (pm : Value) (c : Addr) (ctv : Value) : Obj := kla_obj lamN joinQ joinA joinB joinS [] pm c ctv
noncomputable abbrev rowObj (pm : Value) (c : Addr) (ctv : Value) : Obj := kla_obj lamN joinQ rowA rowB rowS [] pm c ctv
noncomputable abbrev compObj (b1 b2 : Addr) (pm : Value) (c : Addr) (ctv : Value) : Obj := kla_obj lamN compQ compA compB compS [(Str.ofString "then", b2), (Str.ofString "first", b1)] pm c ctv
end Mine
end
section
open PySem PySem.W PyProof.Rows PySem.Flt
set_option maxRecDepth 100000
namespace Mine
theorem rows21 : True := by
  w_top off
  k_with_none
  trivial
theorem rows20 : True := by
  k_with "k_all" => ((first | (refine ne_all (by assumption) ?_; (try dsimp only); omega) | (refine ne_all (And.right (by assumption)) ?_; (try dsimp only); omega)))
  trivial
set_option maxHeartbeats 2000000 in
theorem c_comp {w : World} {d u : Nat} {rest : Led} {f f1 f2 c2 b1 b2 st : Addr} {o oc o1 o2 : Obj} {vs : Array Value} {tq : Tok} {pm ctv : Value} {V1 V2 : S4 → Prop} {φ1 φ2 : S4 → S4} {q : S4} {mean : ExcName → Option Value} {mg mb : Str → Option Value} {dp un : Nat} {gd : Option (List Code)} {cn : Str} {cs : Scope} {a : Addr} {ccd : Value} {cl : List (Str × Addr)} {outer : List Env} {A₀ : Around} {base h₀ : Heap} {L : Addr} {m : Str → Option Value} {news : List (Addr × Obj)} {s : Shared} {Q E : Value → Shared → Prop}
    (B : Below A₀ base outer h₀) (F : Fr h₀ L s.heap m) (X : (hd.heap_39 w.params).In h₀) (N : News h₀ L s.heap news) (T : Top topProg LS mean mg mb h₀) (hk : cs.kind = .function) (hdp : dp + (d + 1) < recursionLimit) (_hu : un + (u + 40) < cLine)
    (cH : CodeHd base 92 88) (hf : (f, compObj b1 b2 pm c2 ctv) ∈ news) (hc : (c2, oc) ∈ news) (hcd : oc.data = .fields vs) (hcv : vs[1]? = some (.str compQ tq))
    (h1 : (b1, o1) ∈ news) (h2 : (b2, o2) ∈ news) (hd1 : o1.data = .cell (some (.ref f1))) (hd2 : o2.data = .cell (some (.ref f2)))
    (D1 : Does w base mean mg mb d u rest f1 V1 φ1) (D2 : Does w base mean mg mb d u rest f2 V2 φ2) (G1 : Fn rest f1) (G2 : Fn rest f2) (hsub : ∀ p ∈ rest, p ∈ news)
    (hst : (st, o) ∈ news) (ho : IsSt o q) (hV1 : V1 q) (hV2 : V2 (φ1 q))
    (hret : ∀ (D : Addr) (o' : Obj) (h' : Heap) (tk' : Nat), IsSt o' (φ2 (φ1 q)) → Fr h₀ L h' m → News h₀ L h' ((D, o') :: news) → AllLt D news → Q (.ref D) { s with heap := h', toks := tk' }) :
    wpAny (model PR w) (ktrTop dp un gd cn cs L a ccd cl outer) (call (.ref f) [.ref st]) Q E s := by
  have hfill : Challenge.rw_mq0241_01 = Challenge.rw_mq0241_01 ∧ Mine.hd.heap_39 = Mine.hd.heap_39 := by (k_fill; exact ⟨rfl, rfl⟩)
  clear hfill
  obtain ⟨oc1, od1, fd1, sl1, g1⟩ := G1
  obtain ⟨oc2, od2, fd2, sl2, g2⟩ := G2
  replace N := news_front (news_front (news_front (news_front (news_front N h1) (.tail _ h2)) (.tail _ (.tail _ hst))) (.tail _ (.tail _ (.tail _ (hsub _ g1))))) (.tail _ (.tail _ (.tail _ (.tail _ (hsub _ g2)))))
  have hf' := List.Mem.tail (f2, (⟨oc2, od2, .func fd2, sl2⟩ : Obj)) (List.Mem.tail (f1, (⟨oc1, od1, .func fd1, sl1⟩ : Obj)) (List.Mem.tail (st, o) (List.Mem.tail (b2, o2) (List.Mem.tail (b1, o1) hf))))
  have hc' := List.Mem.tail (f2, (⟨oc2, od2, .func fd2, sl2⟩ : Obj)) (List.Mem.tail (f1, (⟨oc1, od1, .func fd1, sl1⟩ : Obj)) (List.Mem.tail (st, o) (List.Mem.tail (b2, o2) (List.Mem.tail (b1, o1) hc))))
  refine wpAny_call ?_
  refine kla_code B F X N T rfl rfl hk hf' (codeRec_news N hc' hcd hcv) (by ktr_room) (by with_unfolding_all rfl) (locs (by with_unfolding_all rfl)) ?_ (by with_unfolding_all rfl) (by with_unfolding_all rfl) (by with_unfolding_all rfl) (by with_unfolding_all decide)
  intro gg LL hh FG FF NN BB XX TT
  (repeat (conv in compB => whnf))
  (repeat (conv in compS => whnf))
  (try dsimp only)
  (try k_fold)
  k_steps
  (rename News gg LL _ _ => N1)
  k_dflt (refine' Does.use D1 BB ?F XX TT ?hk ?hdp ?hu N1 ?hs ?m ho hV1 ?_; (case F => k_asm); (case hk => exact rfl); (case hdp => ktr_room); (case hu => ktr_units); (case hs => exact fun p hp => .tail _ (.tail _ (.tail _ (.tail _ (.tail _ (hsub p hp)))))); (case m => exact .tail _ (.tail _ (.head _))))
  intro D' o' h' tk' ho' F2 N2 l2
  clear N1
  k_steps
  (rename News gg LL _ _ => N3)
  k_dflt (refine' Does.use D2 BB ?F XX TT ?hk ?hdp ?hu N3 ?hs ?m ho' hV2 ?_; (case hs => exact fun p hp => .tail _ (.tail _ (.tail _ (.tail _ (.tail _ (.tail _ (hsub p hp)))))));  (case F => k_asm); (case hk => exact rfl); (case hdp => ktr_room); (case hu => ktr_units); (case m => exact .head _))
  intro D2' o2' h2' tk2' ho2' F4 N4 l4
  clear N3
  k_steps
  (rename News h₀ L _ _ => N5)
  exact hret _ _ _ _ ho2' (by k_asm) (cb_drop N5 (List.forall_mem_cons.mpr ⟨List.Mem.head _, fun p hp => .tail _ (.tail _ (.tail _ (.tail _ (.tail _ (.tail _ (.tail _ hp))))))⟩)) l4.2.2.2.2.2.2

end Mine
end
section
open PySem PySem.W PyProof.Rows PySem.Flt
set_option maxRecDepth 100000
namespace Mine
theorem rows23 : True := by
  w_top off
  k_with_none
  trivial
theorem rows22 : True := by
  k_with "k_all" => ((first | (refine ne_all (by assumption) ?_; (try dsimp only); omega) | (refine ne_all (And.right (by assumption)) ?_; (try dsimp only); omega)))
  k_with "callWith ref" => ((k_here; k_dflt (refine' callWith_F (by exact FnAt.of (by k_asm) (by assumption)) ?_; k_whole)))
  k_with "FnAt" => ((k_dflt (exact FnAt.of (by k_asm) (by assumption))))
  k_with "eval Name" => ((k_here; k_dflt (refine name_fr (by with_reducible assumption) (by with_reducible assumption) ?_)))
  k_with "call builtin:iter" => ((k_here; k_dflt (refine' iter_list (by k_asm) (by k_asm) (by k_mem) ?_); intro _ _ _ _ _ _ _))
  k_with "call builtin:next" => ((k_here; k_dflt (refine' next_list (by k_asm) (by k_asm) (by exact off_of_lt (by assumption)) (by assumption) (by k_mem) (by assumption) ?_); intro _ _ _ _ _))
  k_with "exec For Name Name cons nil" => ((refine wpAny_For ?_))
  k_with "pyIter ref" => ((refine iter_it (by assumption) (by assumption) ?_))
  trivial
set_option maxHeartbeats 1000000 in
theorem c_red0 {w : World} {d u : Nat} {fn S : Addr} {n : Nat} {items : Array Value} {fd : FuncData} {oc : Value} {od : Option Addr} {sl : Array (Option Value)} {mu all rest : Led} {v0 : Value} {mean : ExcName → Option Value} {mg mb : Str → Option Value} {dp un : Nat} {gd : Option (List Code)} {cn : Str} {cs : Scope} {a : Addr} {ccd : Value} {cl : List (Str × Addr)} {outer : List Env} {A₀ : Around} {base h₀ : Heap} {L : Addr} {m : Str → Option Value}  {s : Shared} {Q E : Value → Shared → Prop}
    (B : Below A₀ base outer h₀) (F : Fr h₀ L s.heap m) (X : (hd.heap_39 w.params).In h₀) (N : News h₀ L s.heap (mu ++ all)) (T : Top topProg LS mean mg mb h₀) (hk : cs.kind = .function) (hdp : dp + (d + 1) < recursionLimit) (_hu : un + (u + 40) < cLine)
    (cH : CodeHd base 92 88) (J : Nat → Value → Led → Led → Prop) (hst : (S, W.listOf items n) ∈ all) (hfn : (fn, (⟨oc, od, .func fd, sl⟩ : Obj)) ∈ all) (hsub : ∀ p ∈ rest, p ∈ all) (hoff : ∀ p ∈ all, ∀ q ∈ mu, p.1 ≠ q.1) (stp : StepOk w base mean mg mb d u fn items J) (h0 : items[0]? = some v0) (hJ : J 1 v0 mu rest)
    (hret : ∀ (r : Value) (mu' new : Led) (h' : Heap) (tk' : Nat), J items.size r mu' (new ++ rest) → mu'.map (·.1) = mu.map (·.1) → Fr h₀ L h' m → News h₀ L h' (mu' ++ (new ++ all)) → (∀ p ∈ new, ∀ q ∈ mu ++ all, q.1 < p.1) → Q r { s with heap := h', toks := tk' }) :
    wpAny (model PR w) (ktrTop dp un gd cn cs L a ccd cl outer) (call (.ref 72) [.ref fn, .ref S]) Q E s := by
  have hfill : Challenge.rw_mq0241_01 = Challenge.rw_mq0241_01 ∧ Mine.hd.heap_39 = Mine.hd.heap_39 := by (k_fill; exact ⟨rfl, rfl⟩)
  clear hfill
  replace N := news_front (news_front N (List.mem_append_right _ hst)) (.tail _ (List.mem_append_right _ hfn))
  refine wpAny_call ?_
  k_dflt (refine' code_def ?k1 ?k2 ?k3 ?k4 ?k5 ?kA ?kF ?kK ?k6 ?k7 ?k8 ?k9 ?kB ?_ ?c2 ?c3 ?c4 ?c5; (case kA => exact rfl); (case kF => exact rfl); (case kK => assumption); (case k1 => k_asm); (case k2 => k_asm); (case k3 => k_asm); (case k4 => k_asm); (case k5 => k_asm); (case k6 => k_is); (case k7 => k_is); (case k8 => ktr_room); (case k9 => exact binds_K (by k_in) rfl (by k_is) rfl rfl rfl); (case c5 => decide); (case kB => exact locs rfl); (case c2 => exact rfl); (case c3 => exact rfl); (case c4 => exact rfl); k_whole; intro g' L' h' FG' F' N' B' X' T'; (try dsimp only); (try k_fold))
  k_steps
  all_goals (
    (rename LIt _ _ _ => hIt)
    (rename News g' L' _ _ => Nx)
    (rename Fr g' L' _ _ => Fx)
    (rename ∀ p ∈ (_ :: _), Prod.fst p < _ => lx)
    refine loopL (h₀ := g') (L := L') (ax := S) (items := items) (nn := n) (s := s) rfl rfl rfl rfl rfl (fun i m' nw => ∃ v mu' new, RInv fn S ⟨oc, od, .func fd, sl⟩ (W.listOf items n) J mu all rest i m' nw v mu' new) ?_ ?_ (i₀ := 1) ?_ ⟨_, _, _, _, _, rfl, Fx, Nx, hIt, off_of_lt lx, .tail _ (.head _), _, mu, [], ⟨by rfl, by rfl, hJ, rfl, rfl, fun _ h => nomatch h⟩⟩
    · intro i x h' tk m' nw oI hx F1 N1 hIt1 off1 hS1 hInv1
      obtain ⟨v, mu', new, R⟩ := hInv1
      have N2 := R.news N1
      have hs2 := R.sub N1 hsub
      have ho2 := R.off (oI := oI) hoff off1
      clear Fx Nx hIt lx
      have hfn1 := R.fnMem N2 hfn
      have e1 := set_ne (u := x) (z := Str.ofString "element") (show Str.ofString "function" ≠ Str.ofString "element" by decide) R.hf
      have e2 := set_ne (u := x) (z := Str.ofString "element") (show Str.ofString "value" ≠ Str.ofString "element" by decide) R.hv
      have e3 := set_eq (m := m') (x := Str.ofString "element") (u := x)
      k_steps
      k_dflt (refine' StepOk.use stp B' ?F X' T' ?hk ?hdp ?hu N2 hs2 ho2 hx R.J ?_; (case F => k_asm); (case hk => exact rfl); (case hdp => ktr_room); (case hu => ktr_units))
      intro r mu'' new' h'' tk'' j1 j2 F3 N3 j3
      have N4 := R.newsNext hst hfn N3
      clear N2 N1 N3
      k_steps
      (rename News g' L' _ _ => N9)
      (rename Fr g' L' _ _ => F9)
      exact ⟨⟨_, _, _, _, _, rfl, F9, N9, hIt1, R.offNext off1 j2 j3, .tail _ (.head _), _, _, _, R.next j1 j2 j3 (if_pos rfl) (set_ne (by decide) e1)⟩⟩
    · intro h' tk m' nw F1 N1 hS1 hInv1
      obtain ⟨v, mu', new, R⟩ := hInv1
      have e4 := R.hv
      show wpAny _ _ (execs _ _) _ _ _
      k_steps
      (rename News h₀ L _ _ => kN9)
      exact hret _ _ _ _ _ R.J R.same (by k_asm) (R.last kN9) R.fresh
    · exact Nat.succ_le_of_lt (Array.getElem?_eq_some_iff.mp h0).1)

set_option maxHeartbeats 1000000 in
theorem c_red1 {w : World} {d u : Nat} {fn S : Addr} {n : Nat} {items : Array Value} {fd : FuncData} {oc : Value} {od : Option Addr} {sl : Array (Option Value)} {mu all rest : Led} {v0 : Addr} {vits : Array Value} {vn : Nat} {mean : ExcName → Option Value} {mg mb : Str → Option Value} {dp un : Nat} {gd : Option (List Code)} {cn : Str} {cs : Scope} {a : Addr} {ccd : Value} {cl : List (Str × Addr)} {outer : List Env} {A₀ : Around} {base h₀ : Heap} {L : Addr} {m : Str → Option Value}  {s : Shared} {Q E : Value → Shared → Prop}
    (B : Below A₀ base outer h₀) (F : Fr h₀ L s.heap m) (X : (hd.heap_39 w.params).In h₀) (N : News h₀ L s.heap (mu ++ all)) (T : Top topProg LS mean mg mb h₀) (hk : cs.kind = .function) (hdp : dp + (d + 1) < recursionLimit) (_hu : un + (u + 40) < cLine)
    (cH : CodeHd base 92 88) (J : Nat → Value → Led → Led → Prop) (hst : (S, W.listOf items n) ∈ all) (hfn : (fn, (⟨oc, od, .func fd, sl⟩ : Obj)) ∈ all) (hsub : ∀ p ∈ rest, p ∈ all) (hoff : ∀ p ∈ all, ∀ q ∈ mu, p.1 ≠ q.1) (stp : StepOk w base mean mg mb d u fn items J) (h0 : (v0, W.listOf vits vn) ∈ all) (hJ : J 0 (.ref v0) mu rest)
    (hret : ∀ (r : Value) (mu' new : Led) (h' : Heap) (tk' : Nat), J items.size r mu' (new ++ rest) → mu'.map (·.1) = mu.map (·.1) → Fr h₀ L h' m → News h₀ L h' (mu' ++ (new ++ all)) → (∀ p ∈ new, ∀ q ∈ mu ++ all, q.1 < p.1) → Q r { s with heap := h', toks := tk' }) :
    wpAny (model PR w) (ktrTop dp un gd cn cs L a ccd cl outer) (call (.ref 72) [.ref fn, .ref S, .ref v0]) Q E s := by
  have hfill : Challenge.rw_mq0241_01 = Challenge.rw_mq0241_01 ∧ Mine.hd.heap_39 = Mine.hd.heap_39 := by (k_fill; exact ⟨rfl, rfl⟩)
  clear hfill
  replace N := news_front (news_front (news_front N (List.mem_append_right _ h0)) (.tail _ (List.mem_append_right _ hst))) (.tail _ (.tail _ (List.mem_append_right _ hfn)))
  refine wpAny_call ?_
  k_dflt (refine' code_def ?k1 ?k2 ?k3 ?k4 ?k5 ?kA ?kF ?kK ?k6 ?k7 ?k8 ?k9 ?kB ?_ ?c2 ?c3 ?c4 ?c5; (case kA => exact rfl); (case kF => exact rfl); (case kK => assumption); (case k1 => k_asm); (case k2 => k_asm); (case k3 => k_asm); (case k4 => k_asm); (case k5 => k_asm); (case k6 => k_is); (case k7 => k_is); (case k8 => ktr_room); (case k9 => first | exact BindsTo.of_eq rfl | exact binds_K (by k_in) rfl (by k_is) rfl rfl rfl); (case c5 => decide); (case kB => exact locs rfl); (case c2 => exact rfl); (case c3 => exact rfl); (case c4 => exact rfl); k_whole; intro g' L' h' FG' F' N' B' X' T'; (try dsimp only); (try k_fold))
  k_steps
  all_goals (
    (rename LIt _ _ _ => hIt)
    (rename News g' L' _ _ => Nx)
    (rename Fr g' L' _ _ => Fx)
    (rename ∀ p ∈ (_ :: _), Prod.fst p < _ => lx)
    replace Nx := news_drop3 Nx
    replace lx := lt_drop2 lx
    refine loopL (h₀ := g') (L := L') (ax := S) (items := items) (nn := n) (s := s) rfl rfl rfl rfl rfl (fun i m' nw => ∃ v mu' new, RInv fn S ⟨oc, od, .func fd, sl⟩ (W.listOf items n) J mu all rest i m' nw v mu' new) ?_ ?_ (i₀ := 0) ?_ ⟨_, _, _, _, _, rfl, Fx, Nx, hIt, off_of_lt lx, .tail _ (.head _), _, mu, [], ⟨by rfl, by rfl, hJ, rfl, rfl, fun _ h => nomatch h⟩⟩
    · intro i x h' tk m' nw oI hx F1 N1 hIt1 off1 hS1 hInv1
      obtain ⟨v, mu', new, R⟩ := hInv1
      have N2 := R.news N1
      have hs2 := R.sub N1 hsub
      have ho2 := R.off (oI := oI) hoff off1
      clear Fx Nx hIt lx
      have hfn1 := R.fnMem N2 hfn
      have e1 := set_ne (u := x) (z := Str.ofString "element") (show Str.ofString "function" ≠ Str.ofString "element" by decide) R.hf
      have e2 := set_ne (u := x) (z := Str.ofString "element") (show Str.ofString "value" ≠ Str.ofString "element" by decide) R.hv
      have e3 := set_eq (m := m') (x := Str.ofString "element") (u := x)
      k_steps
      k_dflt (refine' StepOk.use stp B' ?F X' T' ?hk ?hdp ?hu N2 hs2 ho2 hx R.J ?_; (case F => k_asm); (case hk => exact rfl); (case hdp => ktr_room); (case hu => ktr_units))
      intro r mu'' new' h'' tk'' j1 j2 F3 N3 j3
      have N4 := R.newsNext hst hfn N3
      clear N2 N1 N3
      k_steps
      (rename News g' L' _ _ => N9)
      (rename Fr g' L' _ _ => F9)
      exact ⟨⟨_, _, _, _, _, rfl, F9, N9, hIt1, R.offNext off1 j2 j3, .tail _ (.head _), _, _, _, R.next j1 j2 j3 (if_pos rfl) (set_ne (by decide) e1)⟩⟩
    · intro h' tk m' nw F1 N1 hS1 hInv1
      obtain ⟨v, mu', new, R⟩ := hInv1
      have e4 := R.hv
      show wpAny _ _ (execs _ _) _ _ _
      k_steps
      (rename News h₀ L _ _ => kN9)
      exact hret _ _ _ _ _ R.J R.same (by k_asm) (R.last kN9) R.fresh
    · exact Nat.zero_le _)

end Mine
end
section
open PySem PySem.W PyProof.Rows PySem.Flt
set_option maxRecDepth 100000
namespace Mine
theorem rows25 : True := by
  w_top off
  k_with_none
  trivial
/-- what the ledger holds of a function that the joining lambda has made -/
structure CompAt (news : Led) (f f1 f2 : Addr) (b1 b2 : Addr) (pm : Value) (c2 : Addr) (ctv : Value) (oc o1 o2 : Obj) (vs : Array Value) (tq : Tok) : Prop where
  hf : (f, compObj b1 b2 pm c2 ctv) ∈ news
  hc : (c2, oc) ∈ news
  hcd : oc.data = .fields vs
  hcv : vs[1]? = some (.str compQ tq)
  h1 : (b1, o1) ∈ news
  h2 : (b2, o2) ∈ news
  hd1 : o1.data = .cell (some (.ref f1))
  hd2 : o2.data = .cell (some (.ref f2))
def Cmp (news : Led) (f f1 f2 : Addr) : Prop := ∃ b1 b2 pm c2 ctv oc o1 o2 vs tq, CompAt news f f1 f2 b1 b2 pm c2 ctv oc o1 o2 vs tq
def TabJ (ps : Array Value) (rest : Led) : Prop := ps = #[] ∨ ∃ c2 oc vs tq, ps = #[rawInt 176, rawInt 40, .ref c2] ∧ (c2, oc) ∈ rest ∧ oc.data = .fields vs ∧ vs[1]? = some (.str compQ tq)
section
variable {h₀ h : Heap} {L LL f f1 f2 P P3 c2 : Addr} {nm q : Str} {A : Arguments} {B : PySem.Expr} {S : Scope} {pm ctv : Value} {oc o1 o2 : Obj} {rest : Led} {vs : Array Value} {tq : Tok} {G : Prop} {v1 v2 : Option Value} {op : Obj} {rst : Led}
theorem join_end0 (nq : News h₀ L h ((f, kla_obj nm q A B S [(Str.ofString "then", LL + 1 + 1), (Str.ofString "first", LL + 1)] pm c2 ctv) :: (c2, oc) :: (P3, op) :: (LL + 1 + 1, o2) :: (LL + 1, o1) :: (P, tabObj #[rawInt 176, rawInt 40, .ref c2]) :: rest))
    (hO : CodeOb oc c2 P3 q) (c1 : o1.data = .cell v1) (cc2 : o2.data = .cell v2) (l0 : P < LL) (l1 : AllLt LL rest) (l2 : LL + 1 + 1 < c2) (l3 : c2 < f)
    (e1 : nm = lamN) (e2 : q = compQ) (e3 : A = compA) (e4 : B = compB) (e5 : S = compS) (e6 : v1 = some (.ref f1)) (e7 : v2 = some (.ref f2))
    (hG : ∀ (ps' : Array Value) (new : Led), TabJ ps' (new ++ rst) → Cmp (new ++ rst) f f1 f2 → News h₀ L h ((P, tabObj ps') :: (new ++ rest)) → (∀ p ∈ new, ∀ q ∈ (P, tabObj #[]) :: rest, q.1 < p.1) → G) : G := by
  subst e1 e2 e3 e4 e5 e6 e7
  obtain ⟨vs, _, _, _, _, _, _, _, tq, _, d1, d2, _⟩ := hO
  refine hG #[rawInt 176, rawInt 40, .ref c2] [(f, compObj (LL + 1) (LL + 1 + 1) pm c2 ctv), (c2, oc), (LL + 1 + 1, o2), (LL + 1, o1)] (.inr ⟨c2, oc, vs, tq, rfl, .tail _ (.head _), d1, d2⟩)
    ⟨LL + 1, LL + 1 + 1, pm, c2, ctv, oc, o1, o2, vs, tq, .head _, .tail _ (.head _), d1, d2, .tail _ (.tail _ (.tail _ (.head _))), .tail _ (.tail _ (.head _)), c1, cc2⟩ ?_ ?_
  · intro p hp
    rcases List.mem_cons.mp hp with rfl | hp
    · exact nq _ (.tail _ (.tail _ (.tail _ (.tail _ (.tail _ (.head _))))))
    rcases List.mem_cons.mp hp with rfl | hp
    · exact nq _ (.head _)
    rcases List.mem_cons.mp hp with rfl | hp
    · exact nq _ (.tail _ (.head _))
    rcases List.mem_cons.mp hp with rfl | hp
    · exact nq _ (.tail _ (.tail _ (.tail _ (.head _))))
    rcases List.mem_cons.mp hp with rfl | hp
    · exact nq _ (.tail _ (.tail _ (.tail _ (.tail _ (.head _)))))
    · exact nq _ (.tail _ (.tail _ (.tail _ (.tail _ (.tail _ (.tail _ hp))))))
  · have hq : ∀ q ∈ (P, tabObj #[]) :: rest, q.1 < LL := List.forall_mem_cons.mpr ⟨l0, allLt_mem l1⟩
    intro p hp q hr
    have hq := hq q hr
    simp only [List.mem_cons, List.not_mem_nil, or_false] at hp
    have b1 : LL < LL + 1 := Nat.lt_succ_self _
    have b2 : LL < LL + 1 + 1 := Nat.lt_trans b1 (Nat.lt_succ_self _)
    have b3 : LL < c2 := Nat.lt_trans b2 l2
    have b4 : LL < f := Nat.lt_trans b3 l3
    rcases hp with rfl | rfl | rfl | rfl
    · exact Nat.lt_trans hq b4
    · exact Nat.lt_trans hq b3
    · exact Nat.lt_trans hq b2
    · exact Nat.lt_trans hq b1
theorem join_end1 (nq : News h₀ L h ((f, kla_obj nm q A B S [(Str.ofString "then", LL + 1 + 1), (Str.ofString "first", LL + 1)] pm c2 ctv) :: (LL + 1 + 1, o2) :: (LL + 1, o1) :: (P, tabObj #[rawInt 176, rawInt 40, .ref c2]) :: rest))
    (hc : (c2, oc) ∈ rst) (d1 : oc.data = .fields vs) (d2 : vs[1]? = some (.str compQ tq)) (c1 : o1.data = .cell v1) (cc2 : o2.data = .cell v2) (l0 : P < LL) (l1 : AllLt LL rest) (l2 : LL + 1 + 1 < f)
    (e1 : nm = lamN) (e2 : q = compQ) (e3 : A = compA) (e4 : B = compB) (e5 : S = compS) (e6 : v1 = some (.ref f1)) (e7 : v2 = some (.ref f2))
    (hG : ∀ (ps' : Array Value) (new : Led), TabJ ps' (new ++ rst) → Cmp (new ++ rst) f f1 f2 → News h₀ L h ((P, tabObj ps') :: (new ++ rest)) → (∀ p ∈ new, ∀ q ∈ (P, tabObj #[rawInt 176, rawInt 40, .ref c2]) :: rest, q.1 < p.1) → G) : G := by
  subst e1 e2 e3 e4 e5 e6 e7
  refine hG #[rawInt 176, rawInt 40, .ref c2] [(f, compObj (LL + 1) (LL + 1 + 1) pm c2 ctv), (LL + 1 + 1, o2), (LL + 1, o1)] (.inr ⟨c2, oc, vs, tq, rfl, .tail _ (.tail _ (.tail _ hc)), d1, d2⟩)
    ⟨LL + 1, LL + 1 + 1, pm, c2, ctv, oc, o1, o2, vs, tq, .head _, .tail _ (.tail _ (.tail _ hc)), d1, d2, .tail _ (.tail _ (.head _)), .tail _ (.head _), c1, cc2⟩ ?_ ?_
  · intro p hp
    rcases List.mem_cons.mp hp with rfl | hp
    · exact nq _ (.tail _ (.tail _ (.tail _ (.head _))))
    rcases List.mem_cons.mp hp with rfl | hp
    · exact nq _ (.head _)
    rcases List.mem_cons.mp hp with rfl | hp
    · exact nq _ (.tail _ (.head _))
    rcases List.mem_cons.mp hp with rfl | hp
    · exact nq _ (.tail _ (.tail _ (.head _)))
    · exact nq _ (.tail _ (.tail _ (.tail _ (.tail _ hp))))
  · have hq : ∀ q ∈ (P, tabObj #[rawInt 176, rawInt 40, .ref c2]) :: rest, q.1 < LL := List.forall_mem_cons.mpr ⟨l0, allLt_mem l1⟩
    intro p hp q hr
    have hq := hq q hr
    simp only [List.mem_cons, List.not_mem_nil, or_false] at hp
    have b1 : LL < LL + 1 := Nat.lt_succ_self _
    have b2 : LL < LL + 1 + 1 := Nat.lt_trans b1 (Nat.lt_succ_self _)
    have b3 : LL < f := Nat.lt_trans b2 l2
    rcases hp with rfl | rfl | rfl
    · exact Nat.lt_trans hq b3
    · exact Nat.lt_trans hq b2
    · exact Nat.lt_trans hq b1
end
theorem rows24 : True := by
  k_with "k_all" => ((with_reducible assumption))
  trivial
set_option maxHeartbeats 2000000 in
theorem c_join0 {w : World} {f1 f2 fn c P : Addr} {oc : Obj} {pm ctv : Value} {all rst : Led} {mean : ExcName → Option Value} {mg mb : Str → Option Value} {dp un : Nat} {gd : Option (List Code)} {cn : Str} {cs : Scope} {a : Addr} {ccd : Value} {cl : List (Str × Addr)} {outer : List Env} {A₀ : Around} {base h₀ : Heap} {L : Addr} {m : Str → Option Value}  {s : Shared} {Q E : Value → Shared → Prop}
    (B : Below A₀ base outer h₀) (F : Fr h₀ L s.heap m) (X : (hd.heap_39 w.params).In h₀) (N : News h₀ L s.heap ((P, tabObj #[]) :: all)) (T : Top topProg LS mean mg mb h₀) (hk : cs.kind = .function) (hdp : dp + 3 < recursionLimit) (_hu : un + 40 < cLine)
    (cH : CodeHd base 92 88) (hf : (fn, joinObj pm c ctv) ∈ all) (hc : (c, oc) ∈ all) (hO : CodeOb oc c P joinQ) (hoff : ∀ p ∈ all, p.1 ≠ P) 
    (hret : ∀ (f : Addr) (ps' : Array Value) (new : Led) (h' : Heap) (tk' : Nat), TabJ ps' (new ++ rst) → Cmp (new ++ rst) f f1 f2 → Fr h₀ L h' m → News h₀ L h' ((P, tabObj ps') :: (new ++ all)) → (∀ p ∈ new, ∀ q ∈ (P, tabObj #[]) :: all, q.1 < p.1) → Q (.ref f) { s with heap := h', toks := tk' }) :
    wpAny (model PR w) (ktrTop dp un gd cn cs L a ccd cl outer) (call (.ref fn) [.ref f1, .ref f2]) Q E s := by
  have hfill : Challenge.rw_mq0241_01 = Challenge.rw_mq0241_01 ∧ Mine.hd.heap_39 = Mine.hd.heap_39 := by (k_fill; exact ⟨rfl, rfl⟩)
  clear hfill
  refine wpAny_call ?_
  refine callE_cells B F N T.nolimit rfl rfl hk (N _ (.tail _ hf)).1 rfl (hO.rec (N _ (.tail _ hc)).1) (by ktr_room) (binds := [(Str.ofString "first", .ref f1), (Str.ofString "then", .ref f2)]) (by with_unfolding_all rfl) ?_ (by with_unfolding_all decide) ?_ (by with_unfolding_all rfl) (by with_unfolding_all rfl) (by with_unfolding_all rfl)
  · intro n x hx
    simp only [List.mem_cons, List.not_mem_nil, or_false] at hx
    rcases hx with rfl | rfl
    · exact .inr ⟨by with_unfolding_all rfl, by with_unfolding_all rfl⟩
    · exact .inr ⟨by with_unfolding_all rfl, by with_unfolding_all rfl⟩
  intro gg LL hh tkk cells FG FF NN YY BB st0 l1
  have XX := X.keeps st0
  have TT := T.keeps st0
  have hCo := hO.hd (NN _ (List.mem_append_right _ (.tail _ hc))).1
  (try k_lt l1)
  (try obtain ⟨l1, l1b⟩ := l1)
  (repeat (conv in (occs := *) joinS => all_goals whnf))
  k_cells YY
  (try simp only [List.cons_append, List.nil_append] at NN)
  (repeat (conv in joinB => whnf))
  (try dsimp only)
  (try k_fold)
  k_steps
  have n1 : LL + 1 + 1 ≠ P := Nat.ne_of_gt (Nat.lt_trans l1 (Nat.lt_trans (Nat.lt_succ_self _) (Nat.lt_succ_self _)))
  have n2 : LL + 1 ≠ P := Nat.ne_of_gt (Nat.lt_trans l1 (Nat.lt_succ_self _))
  refine kla_eval (by with_unfolding_all rfl) ?_
  refine lam_new FF NN TT hCo rfl (UpdF.tail n1 (UpdF.tail n2 (UpdF.head hoff))) trivial rfl (by with_unfolding_all rfl) ?_
  intro f3 c3 P3 oc3 ct3 h3 tk3 F3 N3 hO3 b1 b2 b3 b4 b5
  clear NN FF
  k_steps
  (rename News h₀ L _ _ => nq)
  (rename (_ = Data.cell (bindC _ _ _ (Str.ofString "first"))) => ck1)
  (rename (_ = Data.cell (bindC _ _ _ (Str.ofString "then"))) => ck2)
  exact join_end0 nq hO3 ck1 ck2 l1 l1b (b1 _ (.head _)) b3 rfl (by with_unfolding_all rfl) rfl rfl rfl (by with_unfolding_all rfl) (by with_unfolding_all rfl) (fun ps' new t1 t2 t3 t4 => hret _ _ _ _ _ t1 t2 (by k_asm) t3 t4)

set_option maxHeartbeats 2000000 in
theorem c_join1 {w : World} {f1 f2 fn c P : Addr} {oc : Obj} {pm ctv : Value} {all rst : Led} {c2 : Addr} {oc2 : Obj} {vs : Array Value} {tq : Tok} {mean : ExcName → Option Value} {mg mb : Str → Option Value} {dp un : Nat} {gd : Option (List Code)} {cn : Str} {cs : Scope} {a : Addr} {ccd : Value} {cl : List (Str × Addr)} {outer : List Env} {A₀ : Around} {base h₀ : Heap} {L : Addr} {m : Str → Option Value}  {s : Shared} {Q E : Value → Shared → Prop}
    (B : Below A₀ base outer h₀) (F : Fr h₀ L s.heap m) (X : (hd.heap_39 w.params).In h₀) (N : News h₀ L s.heap ((P, tabObj #[rawInt 176, rawInt 40, .ref c2]) :: all)) (T : Top topProg LS mean mg mb h₀) (hk : cs.kind = .function) (hdp : dp + 3 < recursionLimit) (_hu : un + 40 < cLine)
    (cH : CodeHd base 92 88) (hf : (fn, joinObj pm c ctv) ∈ all) (hc : (c, oc) ∈ all) (hO : CodeOb oc c P joinQ) (hoff : ∀ p ∈ all, p.1 ≠ P) (hc2 : (c2, oc2) ∈ rst) (hcd : oc2.data = .fields vs) (hcv : vs[1]? = some (.str compQ tq))
    (hret : ∀ (f : Addr) (ps' : Array Value) (new : Led) (h' : Heap) (tk' : Nat), TabJ ps' (new ++ rst) → Cmp (new ++ rst) f f1 f2 → Fr h₀ L h' m → News h₀ L h' ((P, tabObj ps') :: (new ++ all)) → (∀ p ∈ new, ∀ q ∈ (P, tabObj #[rawInt 176, rawInt 40, .ref c2]) :: all, q.1 < p.1) → Q (.ref f) { s with heap := h', toks := tk' }) :
    wpAny (model PR w) (ktrTop dp un gd cn cs L a ccd cl outer) (call (.ref fn) [.ref f1, .ref f2]) Q E s := by
  have hfill : Challenge.rw_mq0241_01 = Challenge.rw_mq0241_01 ∧ Mine.hd.heap_39 = Mine.hd.heap_39 := by (k_fill; exact ⟨rfl, rfl⟩)
  clear hfill
  refine wpAny_call ?_
  refine callE_cells B F N T.nolimit rfl rfl hk (N _ (.tail _ hf)).1 rfl (hO.rec (N _ (.tail _ hc)).1) (by ktr_room) (binds := [(Str.ofString "first", .ref f1), (Str.ofString "then", .ref f2)]) (by with_unfolding_all rfl) ?_ (by with_unfolding_all decide) ?_ (by with_unfolding_all rfl) (by with_unfolding_all rfl) (by with_unfolding_all rfl)
  · intro n x hx
    simp only [List.mem_cons, List.not_mem_nil, or_false] at hx
    rcases hx with rfl | rfl
    · exact .inr ⟨by with_unfolding_all rfl, by with_unfolding_all rfl⟩
    · exact .inr ⟨by with_unfolding_all rfl, by with_unfolding_all rfl⟩
  intro gg LL hh tkk cells FG FF NN YY BB st0 l1
  have XX := X.keeps st0
  have TT := T.keeps st0
  have hCo := hO.hd (NN _ (List.mem_append_right _ (.tail _ hc))).1
  (try k_lt l1)
  (try obtain ⟨l1, l1b⟩ := l1)
  (repeat (conv in (occs := *) joinS => all_goals whnf))
  k_cells YY
  (try simp only [List.cons_append, List.nil_append] at NN)
  (repeat (conv in joinB => whnf))
  (try dsimp only)
  (try k_fold)
  k_steps
  have n1 : LL + 1 + 1 ≠ P := Nat.ne_of_gt (Nat.lt_trans l1 (Nat.lt_trans (Nat.lt_succ_self _) (Nat.lt_succ_self _)))
  have n2 : LL + 1 ≠ P := Nat.ne_of_gt (Nat.lt_trans l1 (Nat.lt_succ_self _))
  refine kla_eval (by with_unfolding_all rfl) ?_
  refine lam_hit (c' := c2) FF NN TT hCo rfl (.tail _ (.tail _ (.head _))) (by kn_triples) (by kn_hit) (by with_unfolding_all rfl) ?_
  intro f3 ct3 h3 tk3 F3 N3 b1
  clear NN FF
  k_steps
  (rename News h₀ L _ _ => nq)
  (rename (_ = Data.cell (bindC _ _ _ (Str.ofString "first"))) => ck1)
  (rename (_ = Data.cell (bindC _ _ _ (Str.ofString "then"))) => ck2)
  exact join_end1 nq hc2 hcd hcv ck1 ck2 l1 l1b (b1 _ (.head _)) rfl (by with_unfolding_all rfl) rfl rfl rfl (by with_unfolding_all rfl) (by with_unfolding_all rfl) (fun ps' new t1 t2 t3 t4 => hret _ _ _ _ _ t1 t2 (by k_asm) t3 t4)

theorem c_join {w : World} {f1 f2 fn c P : Addr} {oc : Obj} {pm ctv : Value} {all rst : Led} {ps : Array Value} {mean : ExcName → Option Value} {mg mb : Str → Option Value} {dp un : Nat} {gd : Option (List Code)} {cn : Str} {cs : Scope} {a : Addr} {ccd : Value} {cl : List (Str × Addr)} {outer : List Env} {A₀ : Around} {base h₀ : Heap} {L : Addr} {m : Str → Option Value}  {s : Shared} {Q E : Value → Shared → Prop}
    (B : Below A₀ base outer h₀) (F : Fr h₀ L s.heap m) (X : (hd.heap_39 w.params).In h₀) (N : News h₀ L s.heap ((P, tabObj ps) :: all)) (T : Top topProg LS mean mg mb h₀) (hk : cs.kind = .function) (hdp : dp + 3 < recursionLimit) (_hu : un + 40 < cLine)
    (cH : CodeHd base 92 88) (hf : (fn, joinObj pm c ctv) ∈ all) (hc : (c, oc) ∈ all) (hO : CodeOb oc c P joinQ) (hoff : ∀ p ∈ all, p.1 ≠ P) (ht : TabJ ps rst)
    (hret : ∀ (f : Addr) (ps' : Array Value) (new : Led) (h' : Heap) (tk' : Nat), TabJ ps' (new ++ rst) → Cmp (new ++ rst) f f1 f2 → Fr h₀ L h' m → News h₀ L h' ((P, tabObj ps') :: (new ++ all)) → (∀ p ∈ new, ∀ q ∈ (P, tabObj ps) :: all, q.1 < p.1) → Q (.ref f) { s with heap := h', toks := tk' }) :
    wpAny (model PR w) (ktrTop dp un gd cn cs L a ccd cl outer) (call (.ref fn) [.ref f1, .ref f2]) Q E s := by
  rcases ht with rfl | ⟨c2, oc2, vs, tq, rfl, hc2, hcd, hcv⟩
  · exact c_join0 B F X N T hk hdp _hu cH hf hc hO hoff hret
  · exact c_join1 B F X N T hk hdp _hu cH hf hc hO hoff hc2 hcd hcv hret
end Mine
end
section
open PySem PySem.W PyProof.Rows PySem.Flt
set_option maxRecDepth 100000
namespace Mine
def In2 (lo hi x : Int) : Prop := lo ≤ x ∧ x ≤ hi
theorem in_flip {lo hi x : Int} (h : In2 lo hi x) : In2 lo hi (hi + lo - x) := by
  obtain ⟨a, b⟩ := h
  exact ⟨by lia, by lia⟩
theorem rot_range {lo hi : Int} : ∀ (n : Nat) (p : Int × Int × Int), In2 lo hi p.1 → In2 lo hi p.2.1 → In2 lo hi p.2.2 →
    In2 lo hi (rotI (hi + lo) n p).1 ∧ In2 lo hi (rotI (hi + lo) n p).2.1 ∧ In2 lo hi (rotI (hi + lo) n p).2.2
  | 0, _, a, b, c => ⟨a, b, c⟩
  | n + 1, p, a, b, c => by
    obtain ⟨d, e, f⟩ := rot_range n p a b c
    exact ⟨in_flip e, in_flip f, in_flip d⟩
theorem max3I_spec (a b c : Int) : a ≤ max3I a b c ∧ b ≤ max3I a b c ∧ c ≤ max3I a b c ∧ (max3I a b c = a ∨ max3I a b c = b ∨ max3I a b c = c) := by
  unfold max3I; split <;> split <;> lia
theorem min3I_spec (a b c : Int) : min3I a b c ≤ a ∧ min3I a b c ≤ b ∧ min3I a b c ≤ c ∧ (min3I a b c = a ∨ min3I a b c = b ∨ min3I a b c = c) := by
  unfold min3I; split <;> split <;> lia
theorem in_half {M T x : Int} (h : In2 0 T M) (g : In2 0 T x) : In2 0 T ((M + x).fdiv 2) := by
  rw [Int.fdiv_eq_ediv_of_nonneg _ (by decide)]
  obtain ⟨a, b⟩ := h
  obtain ⟨c, d⟩ := g
  exact ⟨by lia, by lia⟩
theorem in_half0 {T x : Int} (g : In2 0 T x) : In2 0 T (x.fdiv 2) := by
  rw [Int.fdiv_eq_ediv_of_nonneg _ (by decide)]
  obtain ⟨c, d⟩ := g
  exact ⟨by lia, by lia⟩
theorem in_anti {M m T x : Int} (h : M ≤ T) (g : 0 ≤ m) (i : In2 m M x) : In2 0 T (T - M - m + x) := by
  obtain ⟨c, d⟩ := i
  exact ⟨by lia, by lia⟩
theorem in_quart {M m T x : Int} (h : M ≤ T) (g : 0 ≤ m) (i : In2 m M x) : In2 0 T ((M + m + 2 * x).fdiv 4) := by
  rw [Int.fdiv_eq_ediv_of_nonneg _ (by decide)]
  obtain ⟨c, d⟩ := i
  exact ⟨by lia, by lia⟩
theorem in_cutHi {T x q : Int} (h : 0 ≤ x) (g : 0 ≤ q) (t : 0 ≤ T) : In2 0 T (cutHi T (x + q)) := by
  unfold cutHi
  split
  · exact ⟨Int.add_nonneg h g, Int.le_of_lt (by assumption)⟩
  · exact ⟨t, Int.le_refl _⟩
theorem in_cutLo {T x q : Int} (h : x ≤ T) (g : 0 ≤ q) (t : 0 ≤ T) : In2 0 T (cutLo (x - q)) := by
  unfold cutLo
  split
  · exact ⟨Int.le_of_lt (by assumption), Int.le_trans (Int.sub_le_self x g) h⟩
  · exact ⟨Int.le_refl _, t⟩
theorem in_mono {lo hi T x : Int} (h : hi ≤ T) (g : 0 ≤ lo) (i : In2 lo hi x) : In2 0 T x := ⟨Int.le_trans g i.1, Int.le_trans i.2 h⟩
theorem ends_in {T a b c : Int} (ha : In2 0 T a) (hb : In2 0 T b) (hc : In2 0 T c) : In2 0 T (max3I a b c) ∧ In2 0 T (min3I a b c) := by
  obtain ⟨-, -, -, M4⟩ := max3I_spec a b c
  obtain ⟨-, -, -, m4⟩ := min3I_spec a b c
  constructor
  · rcases M4 with h | h | h <;> (rw [h]; assumption)
  · rcases m4 with h | h | h <;> (rw [h]; assumption)
theorem due_in {kind k P x1 x2 x3 : Int} (h1 : 1 ≤ k) (v1 : In2 0 (4 * P) (4 * x1)) (v2 : In2 0 (4 * P) (4 * x2)) (v3 : In2 0 (4 * P) (4 * x3)) :
    (dueI kind k P x1 x2 x3).1 = 4 * P ∧ In2 0 (4 * P) (dueI kind k P x1 x2 x3).2.1 ∧ In2 0 (4 * P) (dueI kind k P x1 x2 x3).2.2.1 ∧ In2 0 (4 * P) (dueI kind k P x1 x2 x3).2.2.2 := by
  obtain ⟨M1, M2, M3, -⟩ := max3I_spec (4 * x1) (4 * x2) (4 * x3)
  obtain ⟨m1, m2, m3, -⟩ := min3I_spec (4 * x1) (4 * x2) (4 * x3)
  obtain ⟨hM, hm⟩ := ends_in v1 v2 v3
  have hT : 0 ≤ 4 * P := Int.le_trans v1.1 v1.2
  have hq : 0 ≤ (k * (4 * P)).fdiv 8 := by
    rw [Int.fdiv_eq_ediv_of_nonneg _ (by decide)]
    exact Int.ediv_nonneg (Int.mul_nonneg (Int.le_trans (by decide) h1) hT) (by decide)
  unfold dueI
  generalize max3I (4 * x1) (4 * x2) (4 * x3) = M at *
  generalize min3I (4 * x1) (4 * x2) (4 * x3) = m at *
  generalize (k * (4 * P)).fdiv 8 = q at *
  generalize 4 * P = T at *
  generalize 4 * x1 = y1 at *
  generalize 4 * x2 = y2 at *
  generalize 4 * x3 = y3 at *
  by_cases c : kind < 2
  · rw [if_pos c]
    obtain ⟨a, b, d⟩ := rot_range (lo := m) (hi := M) (if kind = 0 then k else 6 - k).toNat (y1, y2, y3) ⟨m1, M1⟩ ⟨m2, M2⟩ ⟨m3, M3⟩
    exact ⟨rfl, in_mono hM.2 hm.1 a, in_mono hM.2 hm.1 b, in_mono hM.2 hm.1 d⟩
  rw [if_neg c]; clear c
  by_cases c : kind = 2
  · rw [if_pos c]; exact ⟨rfl, in_half hM v1, in_half hM v2, in_half hM v3⟩
  rw [if_neg c]; clear c
  by_cases c : kind = 3
  · rw [if_pos c]; exact ⟨rfl, in_half0 v1, in_half0 v2, in_half0 v3⟩
  rw [if_neg c]; clear c
  by_cases c : kind = 4
  · rw [if_pos c]; exact ⟨rfl, in_anti hM.2 hm.1 ⟨m1, M1⟩, in_anti hM.2 hm.1 ⟨m2, M2⟩, in_anti hM.2 hm.1 ⟨m3, M3⟩⟩
  rw [if_neg c]; clear c
  by_cases c : kind = 5
  · rw [if_pos c]; exact ⟨rfl, in_quart hM.2 hm.1 ⟨m1, M1⟩, in_quart hM.2 hm.1 ⟨m2, M2⟩, in_quart hM.2 hm.1 ⟨m3, M3⟩⟩
  rw [if_neg c]; clear c
  by_cases c : kind = 6
  · rw [if_pos c]; exact ⟨rfl, in_cutHi v1.1 hq hT, in_cutHi v2.1 hq hT, in_cutHi v3.1 hq hT⟩
  rw [if_neg c]
  exact ⟨rfl, in_cutLo v1.2 hq hT, in_cutLo v2.2 hq hT, in_cutLo v3.2 hq hT⟩
theorem in_four {P x : Int} (h : 0 ≤ x ∧ x ≤ P) : In2 0 (4 * P) (4 * x) := ⟨by lia, by lia⟩
theorem valid_next {kind k : Int} {j : Nat} {q : S4} (_ : 0 ≤ kind) (_ : kind < 8) (h1 : 1 ≤ k) (_ : k ≤ 5) (hV : Valid j q) : Valid (j + 1) (dueS kind k q) := by
  obtain ⟨e, v1, v2, v3⟩ := hV
  obtain ⟨a, b, c, d⟩ := due_in (kind := kind) h1 (in_four v1) (in_four v2) (in_four v3)
  have e4 : (4 * q.1 : Int) = 16 * 4 ^ (j + 1) := by rw [e, Int.pow_succ]; generalize (4 : Int) ^ j = z; lia
  refine ⟨a.trans e4, ?_, ?_, ?_⟩ <;> (show _ ∧ _; unfold dueS; rw [a]; assumption)
def WordOk (x : Int × Int) : Prop := 0 ≤ x.1 ∧ x.1 < 8 ∧ 1 ≤ x.2 ∧ x.2 ≤ 5
def duesN (ws : List (Int × Int)) (i : Nat) (q : S4) : S4 := (ws.take i).foldl (fun q x => dueS x.1 x.2 q) q
theorem duesN_succ {ws : List (Int × Int)} {i : Nat} {x : Int × Int} (h : ws[i]? = some x) (q : S4) : duesN ws (i + 1) q = dueS x.1 x.2 (duesN ws i q) := by
  unfold duesN
  rw [List.take_add_one, h]
  simp
theorem duesN_valid {ws : List (Int × Int)} (hw : ∀ x ∈ ws, WordOk x) {q : S4} (hq : Valid 0 q) : ∀ i, i ≤ ws.length → Valid i (duesN ws i q)
  | 0, _ => hq
  | i + 1, h => by
    have e : ws[i]? = some ws[i] := by simp
    rw [duesN_succ e]
    obtain ⟨a, b, c, d⟩ := hw ws[i] (List.getElem_mem _)
    exact valid_next a b c d (duesN_valid hw hq i (by lia))
end Mine
end
section
open PySem PySem.W PyProof.Rows PySem.Flt PySem.Calls PySem.Spec
set_option maxRecDepth 100000
namespace Mine
section
variable {w : World} {base : Heap} {mean : ExcName → Option Value} {mg mb : Str → Option Value} {d u : Nat} {rest : Led} {f f1 f2 : Addr} {V1 V2 : S4 → Prop} {φ1 φ2 : S4 → S4}
theorem does_comp (cH : CodeHd base 92 88) (C : Cmp rest f f1 f2) (D1 : Does w base mean mg mb d u rest f1 V1 φ1) (D2 : Does w base mean mg mb d u rest f2 V2 φ2) (G1 : Fn rest f1) (G2 : Fn rest f2) (hV : ∀ q, V1 q → V2 (φ1 q)) :
    Does w base mean mg mb (d + 1) (u + 40) rest f V1 (fun q => φ2 (φ1 q)) := by
  intro dp un gd cn cs a ccd cl outer A₀ h₀ L m s Q E all st o q B F X N T hk hdp hu hs hst ho hq hret
  obtain ⟨b1, b2, pm, c2, ctv, oc, o1, o2, vs, tq, D⟩ := C
  exact c_comp B F X N T hk hdp hu cH (hs _ D.hf) (hs _ D.hc) D.hcd D.hcv (hs _ D.h1) (hs _ D.h2) D.hd1 D.hd2 D1 D2 G1 G2 hs hst ho hq (hV _ hq) hret
theorem Cmp.fn (C : Cmp rest f f1 f2) : Fn rest f := by
  obtain ⟨b1, b2, pm, c2, ctv, oc, o1, o2, vs, tq, D⟩ := C
  exact ⟨_, _, _, _, D.hf⟩
theorem Deed.fn {kind k : Int} (C : Deed rest f kind k) : Fn rest f := by
  obtain ⟨a1, a2, doc, pm, c2, ctv, oc, o1, o2, vs, tq, tk1, tk2, D⟩ := C
  exact ⟨_, _, _, _, D.hf⟩
/-- the functions at fs are the deeds of the words ws -/
def Deeds (rest : Led) (fs : List Addr) (ws : List (Int × Int)) : Prop := fs.length = ws.length ∧ ∀ (i : Nat) (x : Int × Int) (g : Addr), ws[i]? = some x → fs[i]? = some g → Deed rest g x.1 x.2
theorem Deeds.mono {rest rest' : Led} {fs : List Addr} {ws : List (Int × Int)} (h : Deeds rest fs ws) (hs : ∀ p ∈ rest, p ∈ rest') : Deeds rest' fs ws := ⟨h.1, fun i x g a b => (h.2 i x g a b).mono hs⟩
def refs (fs : List Addr) : Array Value := (fs.map Value.ref).toArray
/-- the joining reduce, behind i of the deeds -/
structure JJ (w : World) (base : Heap) (mean : ExcName → Option Value) (mg mb : Str → Option Value) (P fn c : Addr) (pm ctv : Value) (oc : Obj) (fs : List Addr) (ws : List (Int × Int)) (i : Nat) (v : Value) (mu rest : Led) : Prop where
  out : ∃ f ps, v = .ref f ∧ mu = [(P, tabObj ps)] ∧ TabJ ps rest ∧ Fn rest f ∧ Does w base mean mg mb (7 + i) (40 + 40 * i) rest f (Valid 0) (duesN ws i)
  one : 1 ≤ i
  hf : (fn, joinObj pm c ctv) ∈ rest
  hc : (c, oc) ∈ rest
  hd : Deeds rest fs ws
theorem step_join (pl : Plain) (cH : CodeHd base 92 88) {P fn c : Addr} {pm ctv : Value} {oc : Obj} {fs : List Addr} {ws : List (Int × Int)} (hw : ∀ x ∈ ws, WordOk x) (h8 : ws.length ≤ 8) (hO : CodeOb oc c P joinQ) :
    StepOk w base mean mg mb 3 40 fn (refs fs) (JJ w base mean mg mb P fn c pm ctv oc fs ws) := by
  intro dp un gd cn cs a ccd cl outer A₀ h₀ L m s Q E i v x mu all rest B F X N T hk hdp hu hs hoff hx J hret
  obtain ⟨⟨f, ps, rfl, rfl, t1, g1, D1⟩, one, hf, hc, hd⟩ := J
  obtain ⟨g, eg, rfl⟩ : ∃ g, fs[i]? = some g ∧ x = .ref g := by
    unfold refs at hx
    rw [List.getElem?_toArray, List.getElem?_map] at hx
    cases e : fs[i]? with
    | none => rw [e] at hx; cases hx
    | some g => rw [e] at hx; cases hx; exact ⟨g, rfl, rfl⟩
  have hlt : i < fs.length := (List.getElem?_eq_some_iff.mp eg).1
  have hlw : i < ws.length := hd.1 ▸ hlt
  have ex : ws[i]? = some ws[i] := by simp [hlw]
  have De := hd.2 i _ g ex eg
  obtain ⟨a1, a2, a3, a4⟩ := hw ws[i] (List.getElem_mem _)
  refine c_join (rst := rest) B F X N T hk hdp hu cH (hs _ hf) (hs _ hc) hO (fun p hp => hoff p hp (P, tabObj ps) (List.mem_singleton.mpr rfl)) t1 ?_
  intro f' ps' new h' tk' t2 C F' N' fr
  have sub : ∀ p ∈ rest, p ∈ new ++ rest := fun p hp => List.mem_append_right _ hp
  refine hret (.ref f') [(P, tabObj ps')] new h' tk' ⟨⟨f', ps', rfl, rfl, t2, C.fn, ?_⟩, Nat.le_succ_of_le one, sub _ hf, sub _ hc, hd.mono sub⟩ rfl F' N' fr
  have D2 : Does w base mean mg mb (7 + i) (40 + 40 * i) rest g (Valid i) (dueS ws[i].1 ws[i].2) := (does_deed pl cH De a1 a2 a3 a4 (by lia)).more (by lia) (by lia)
  have D3 := does_comp cH C (D1.mono sub) (D2.mono sub) (g1.mono sub) (De.fn.mono sub) (fun q hq => duesN_valid hw hq i (Nat.le_of_lt hlw))
  have e : duesN ws (i + 1) = fun q => dueS ws[i].1 ws[i].2 (duesN ws i q) := funext fun q => duesN_succ ex q
  rw [e]
  exact D3.more (by lia) (by lia)
end
end Mine
end
section
open PySem PySem.W PyProof.Rows PySem.Flt PySem.Calls PySem.Spec
set_option maxRecDepth 100000
namespace Mine
theorem rows27 : True := by
  w_top off
  k_with_none
  trivial
section
variable {prog : Program} {w : World} {A : Around} {E : Value → Shared → Prop} {s : Shared} {h₀ : Heap} {L l a b : Addr} {m : Str → Option Value} {news : List (Addr × Obj)} {its its2 : Array Value} {n n2 : Nat}
theorem item_last {value slice : PySem.Expr} {u : Tok} {v : Value} {Q : Value → Shared → Prop} (N : News h₀ L s.heap news) (hm : (l, W.listOf its n) ∈ news) (hx : its[its.size - 1]? = some v) (h : Q v s)
    (hs : subscripted slice false (.ref l) (.int (-1) u) = operate [.ref l, .int (-1) u] (getItem (.ref l) (.int (-1) u)) := by with_unfolding_all rfl) :
    wpAny (model prog w) A (subscriptTail value slice (.ref l) (.int (-1) u)) Q E s := by
  have hl : s.heap.IsList l its := ⟨_, (N _ hm).1, rfl, n, rfl⟩
  have h1 := (Array.getElem?_eq_some_iff.mp hx).1
  refine tail_any hl.typeIs slot_list_getitem.lookup (wpAny_getItem_list_neg hl (by decide) (by omega) (by decide) ?_ h) hs
  rw [show ((-1 : Int) + (its.size : Int)).toNat = its.size - 1 by omega]
  exact hx
theorem cat_list {Q : Value → Shared → Prop} (F : Fr h₀ L s.heap m) (N : News h₀ L s.heap news) (ha : (a, W.listOf its n) ∈ news) (hb : (b, W.listOf its2 n2) ∈ news) (hz : its.size + its2.size ≤ 1000)
    (h : ∀ D h', Fr h₀ L h' m → News h₀ L h' ((D, W.listOf (its ++ its2) 0) :: news) → AllLt D news → Q (.ref D) { s with heap := h' }) :
    wpAny (model prog w) A (binaryOp .Add (.ref a) (.ref b)) Q E s := by
  refine kmk_add_lit F N ⟨_, (N _ ha).1, rfl, n, rfl⟩ ⟨_, (N _ hb).1, rfl, n2, rfl⟩ rfl (fun D h' F' N' l => h D h' F' (by rw [← Array.toList_append, Array.toArray_toList] at N'; exact N') (allLt_of l)) ?_
  simp only [Array.length_toList, sizeLine_eq]; omega
end
theorem rows26 : True := by
  k_with "k_all" => ((first | (refine ne_all (by assumption) ?_; (try dsimp only); omega) | (refine ne_all (And.right (by assumption)) ?_; (try dsimp only); omega)))
  k_with "subscriptTail Name UnaryOp ref int" => ((k_here; (with_reducible show wpAny _ _ (subscriptTail _ _ (Value.ref _) (Value.int _ _)) _ _ _); (with_unfolding_all refine' item_last (by k_asm) (by k_mem) (by assumption) ?_ (by with_unfolding_all rfl); k_whole)))
  k_with "binaryOp Add ref ref" => ((k_here; (with_reducible show wpAny _ _ (binaryOp _ (Value.ref _) (Value.ref _)) _ _ _); k_dflt (refine' cat_list (by k_asm) (by k_asm) (by k_mem) (by k_mem) (by assumption) ?_); intro _ _ _ _ l1))
  trivial
set_option maxHeartbeats 2000000 in
theorem c_row {w : World} {d u : Nat} {rest : Led} {fn g c r st : Addr} {o oc : Obj} {vs : Array Value} {tq : Tok} {pm ctv : Value} {its : Array Value} {n : Nat} {V : S4 → Prop} {φ : S4 → S4} {q : S4} {mean : ExcName → Option Value} {mg mb : Str → Option Value} {dp un : Nat} {gd : Option (List Code)} {cn : Str} {cs : Scope} {a : Addr} {ccd : Value} {cl : List (Str × Addr)} {outer : List Env} {A₀ : Around} {base h₀ : Heap} {L : Addr} {m : Str → Option Value} {news : List (Addr × Obj)} {s : Shared} {Q E : Value → Shared → Prop}
    (B : Below A₀ base outer h₀) (F : Fr h₀ L s.heap m) (X : (hd.heap_39 w.params).In h₀) (N : News h₀ L s.heap news) (T : Top topProg LS mean mg mb h₀) (hk : cs.kind = .function) (hdp : dp + (d + 1) < recursionLimit) (_hu : un + (u + 40) < cLine)
    (_cH : CodeHd base 92 88) (hf : (fn, rowObj pm c ctv) ∈ news) (hc : (c, oc) ∈ news) (hcd : oc.data = .fields vs) (hcv : vs[1]? = some (.str joinQ tq))
    (hr : (r, W.listOf its n) ∈ news) (hsz : its.size + (#[.ref st] : Array Value).size ≤ 1000) (hlast : its[its.size - 1]? = some (.ref st))
    (D1 : Does w base mean mg mb d u rest g V φ) (G1 : Fn rest g) (hsub : ∀ p ∈ rest, p ∈ news)
    (hst : (st, o) ∈ news) (ho : IsSt o q) (hV : V q)
    (hret : ∀ (D R : Addr) (o' : Obj) (h' : Heap) (tk' : Nat), IsSt o' (φ q) → Fr h₀ L h' m → News h₀ L h' ((R, W.listOf (its ++ #[.ref D]) 0) :: (D, o') :: news) → AllLt D news → AllLt R ((D, o') :: news) → Q (.ref R) { s with heap := h', toks := tk' }) :
    wpAny (model PR w) (ktrTop dp un gd cn cs L a ccd cl outer) (call (.ref fn) [.ref r, .ref g]) Q E s := by
  have hfill : Challenge.rw_mq0241_01 = Challenge.rw_mq0241_01 ∧ Mine.hd.heap_39 = Mine.hd.heap_39 := by (k_fill; exact ⟨rfl, rfl⟩)
  clear hfill
  obtain ⟨oc1, od1, fd1, sl1, g1⟩ := G1
  replace N := news_front (news_front (news_front N hst) (.tail _ hr)) (.tail _ (.tail _ (hsub _ g1)))
  have hf' := List.Mem.tail (g, (⟨oc1, od1, .func fd1, sl1⟩ : Obj)) (List.Mem.tail (r, W.listOf its n) (List.Mem.tail (st, o) hf))
  have hc' := List.Mem.tail (g, (⟨oc1, od1, .func fd1, sl1⟩ : Obj)) (List.Mem.tail (r, W.listOf its n) (List.Mem.tail (st, o) hc))
  refine wpAny_call ?_
  refine kla_code B F X N T rfl rfl hk hf' (codeRec_news N hc' hcd hcv) (by ktr_room) (by with_unfolding_all rfl) (locs (by with_unfolding_all rfl)) ?_ (by with_unfolding_all rfl) (by with_unfolding_all rfl) (by with_unfolding_all rfl) (by with_unfolding_all decide)
  intro gg LL hh FG FF NN BB XX TT
  (repeat (conv in rowB => whnf))
  (repeat (conv in rowS => whnf))
  (try dsimp only)
  (try k_fold)
  k_steps
  (rename News gg LL _ _ => N1)
  k_dflt (refine' Does.use D1 BB ?F XX TT ?hk ?hdp ?hu N1 ?hs ?m ho hV ?_; (case F => k_asm); (case hk => exact rfl); (case hdp => ktr_room); (case hu => ktr_units); (case hs => exact fun p hp => .tail _ (.tail _ (.tail _ (hsub p hp)))); (case m => exact .tail _ (.tail _ (.head _))))
  intro D' o' h' tk' ho' F2 N2 l2
  clear N1
  k_steps
  (rename News h₀ L _ _ => N5)
  (rename (_ < _) ∧ (_ < _) ∧ (_ < _) ∧ (_ < _) ∧ (_ < _) ∧ AllLt _ _ => l5)
  exact hret _ _ _ _ _ ho' (by k_asm) (cb_drop N5 (List.forall_mem_cons.mpr ⟨List.Mem.head _, List.forall_mem_cons.mpr ⟨.tail _ (.tail _ (.head _)), fun p hp => .tail _ (.tail _ (.tail _ (.tail _ (.tail _ (.tail _ hp)))))⟩⟩)) l2.2.2.2 ⟨l5.2.1, l5.2.2.2.2.2⟩
end Mine
end
section
open PySem PySem.W PyProof.Rows PySem.Flt PySem.Calls PySem.Spec
set_option maxRecDepth 100000
namespace Mine
section
variable {w : World} {base : Heap} {mean : ExcName → Option Value} {mg mb : Str → Option Value}
/-- sts are lists that hold the states of the row -/
def Row (rest : Led) (ws : List (Int × Int)) (q : S4) (sts : List Addr) : Prop := ∀ (j : Nat) (st : Addr), sts[j]? = some st → ∃ o, (st, o) ∈ rest ∧ IsSt o (duesN ws j q)
theorem Row.mono {rest rest' : Led} {ws : List (Int × Int)} {q : S4} {sts : List Addr} (h : Row rest ws q sts) (hs : ∀ p ∈ rest, p ∈ rest') : Row rest' ws q sts := fun j st e => let ⟨o, a, b⟩ := h j st e; ⟨o, hs _ a, b⟩
structure RJ (fn c : Addr) (pm ctv : Value) (oc : Obj) (fs : List Addr) (ws : List (Int × Int)) (q : S4) (i : Nat) (v : Value) (mu rest : Led) : Prop where
  out : ∃ r n sts, v = .ref r ∧ mu = [] ∧ (r, W.listOf (refs sts) n) ∈ rest ∧ sts.length = i + 1 ∧ Row rest ws q sts
  hf : (fn, rowObj pm c ctv) ∈ rest
  hc : (c, oc) ∈ rest
  hd : Deeds rest fs ws
theorem refs_get {fs : List Addr} {i : Nat} {x : Value} (hx : (refs fs)[i]? = some x) : ∃ g, fs[i]? = some g ∧ x = .ref g := by
  unfold refs at hx
  rw [List.getElem?_toArray, List.getElem?_map] at hx
  cases e : fs[i]? with
  | none => rw [e] at hx; cases hx
  | some g => rw [e] at hx; cases hx; exact ⟨g, rfl, rfl⟩
theorem step_row (pl : Plain) (cH : CodeHd base 92 88) {fn c : Addr} {pm ctv : Value} {oc : Obj} {vs : Array Value} {tq : Tok} {fs : List Addr} {ws : List (Int × Int)} {q : S4} (hw : ∀ x ∈ ws, WordOk x) (h8 : ws.length ≤ 8) (hq : Valid 0 q) (hcd : oc.data = .fields vs) (hcv : vs[1]? = some (.str joinQ tq)) :
    StepOk w base mean mg mb 9 120 fn (refs fs) (RJ fn c pm ctv oc fs ws q) := by
  intro dp un gd cn cs a ccd cl outer A₀ h₀ L m s Q E i v x mu all rest B F X N T hk hdp hu hs hoff hx J hret
  obtain ⟨⟨r, n, sts, rfl, rfl, hr, hl, hrow⟩, hf, hc, hd⟩ := J
  replace N : News h₀ L s.heap all := N
  obtain ⟨g, eg, rfl⟩ := refs_get hx
  have hlt : i < fs.length := (List.getElem?_eq_some_iff.mp eg).1
  have hlw : i < ws.length := hd.1 ▸ hlt
  have ex : ws[i]? = some ws[i] := by simp [hlw]
  have De := hd.2 i _ g ex eg
  obtain ⟨a1, a2, a3, a4⟩ := hw ws[i] (List.getElem_mem _)
  have es : sts[i]? = some sts[i] := by simp [hl]
  obtain ⟨o, hst, ho⟩ := hrow i _ es
  have hsz : (refs sts).size = i + 1 := by unfold refs; simp [hl]
  refine c_row B F X N T hk hdp hu cH (hs _ hf) (hs _ hc) hcd hcv (hs _ hr) (by rw [hsz]; show i + 1 + 1 ≤ 1000; lia) ?_ (does_deed pl cH De a1 a2 a3 a4 (j := i) (by lia)) De.fn hs (hs _ hst) ho (duesN_valid hw hq i (Nat.le_of_lt hlw)) ?_
  · rw [hsz]
    show (refs sts)[i]? = some (.ref sts[i])
    unfold refs
    rw [List.getElem?_toArray, List.getElem?_map, es]; rfl
  · intro D R o' h' tk' ho' F' N' l1 l2
    refine hret (.ref R) [] [(R, W.listOf (refs sts ++ (#[Value.ref D] : Array Value)) 0), (D, o')] h' tk' ⟨⟨R, 0, sts ++ [D], rfl, rfl, ?_, by simp [hl], ?_⟩, List.mem_append_right _ hf, List.mem_append_right _ hc, hd.mono fun p hp => List.mem_append_right _ hp⟩ rfl F' N' ?_
    · have e : refs (sts ++ [D]) = refs sts ++ #[.ref D] := by unfold refs; simp
      rw [e]; exact .head _
    · intro j st e
      rcases Nat.lt_or_ge j sts.length with h | h
      · rw [List.getElem?_append_left h] at e
        obtain ⟨o, a, b⟩ := hrow j st e
        exact ⟨o, List.mem_append_right _ a, b⟩
      · rw [List.getElem?_append_right h] at e
        have hj : j = i + 1 := by
          have := (List.getElem?_eq_some_iff.mp e).1
          simp at this; lia
        rw [hl, hj] at e
        simp at e
        subst e hj
        exact ⟨o', .tail _ (.head _), by rw [duesN_succ ex]; exact ho'⟩
    · have k1 := allLt_mem l1
      have k2 := allLt_mem l2
      intro p hp q hq
      simp only [List.mem_cons, List.not_mem_nil, or_false] at hp
      rcases hp with rfl | rfl
      · exact k2 q (.tail _ hq)
      · exact k1 q hq
end
end Mine
end
section
open PySem PySem.W PyProof.Rows PySem.Flt PySem.Calls PySem.Spec PyProof.Rows.LCg
set_option maxRecDepth 100000
namespace Mine
theorem rows28 : True := by
  w_top off
  k_with_none
  trivial
noncomputable def agS : Scope := (fnDef (PR.main.body.getD 19 default)).2.2
noncomputable def ag0 : Stmt := agreesB.getD 0 default
noncomputable def ag1 : Stmt := agreesB.getD 1 default
noncomputable def ag2 : Stmt := agreesB.getD 2 default
noncomputable def ag3 : Stmt := agreesB.getD 3 default
noncomputable def body2 : List Stmt := forBody ag2
noncomputable def lp0 : Stmt := body2.getD 0 default
noncomputable def lp1 : Stmt := body2.getD 1 default
noncomputable def lp2 : Stmt := body2.getD 2 default
noncomputable def lp3 : Stmt := body2.getD 3 default
/-- the words' lists -/
def WordsAt (rest : Led) (wa : List Addr) (ws : List (Int × Int)) : Prop := wa.length = ws.length ∧ ∀ (i : Nat) (x : Int × Int) (t : Addr), ws[i]? = some x → wa[i]? = some t → ∃ (t1 t2 : Tok) (n : Nat), (t, W.listOf #[.int x.1 t1, .int x.2 t2] n) ∈ rest
theorem WordsAt.mono {rest rest' : Led} {wa : List Addr} {ws : List (Int × Int)} (h : WordsAt rest wa ws) (hs : ∀ p ∈ rest, p ∈ rest') : WordsAt rest' wa ws := ⟨h.1, fun i x t a b => let ⟨t1, t2, n, m⟩ := h.2 i x t a b; ⟨t1, t2, n, hs _ m⟩⟩
theorem refs_size (fs : List Addr) : (refs fs).size = fs.length := by unfold refs; simp
theorem lst_refs {ys : List Value} {fs : List Addr} (h : ys = fs.map .ref) : lst ys = W.listOf (refs fs) fs.length := by
  subst h; unfold refs; show ({ cls := _, data := _ } : Obj) = { cls := _, data := _ }; simp
/-- the deeds so far -/
structure DInv (rest rst : Led) (ws : List (Int × Int)) (i : Nat) (ys : List Value) (nw : Led) : Prop where
  out : ∃ (ps : Array Value) (new : Led) (fs : List Addr), nw = (88, tabObj ps) :: (new ++ rest) ∧ Tab88 ps (new ++ rst) ∧ ys = fs.map .ref ∧ fs.length = i ∧ (∀ p ∈ new, ∀ q ∈ (88, tabObj ps) :: rest, q.1 < p.1) ∧
    ∀ (j : Nat) (x : Int × Int) (g : Addr), ws[j]? = some x → fs[j]? = some g → Deed (new ++ rst) g x.1 x.2
theorem Tab88.mono {ps : Array Value} {rest rest' : Led} (h : Tab88 ps rest) (hs : ∀ p ∈ rest, p ∈ rest') : Tab88 ps rest' := by
  rcases h with h | ⟨c2, oc, vs, tq, a, b, c⟩
  · exact .inl h
  · exact .inr ⟨c2, oc, vs, tq, a, hs _ b, c⟩
theorem mem_front3 {a b c d : Addr × Obj} {r : Led} {p : Addr × Obj} (hp : p ∈ a :: b :: c :: d :: r) : p ∈ b :: c :: d :: a :: r := by
  simp only [List.mem_cons] at hp ⊢
  rcases hp with h | h | h | h | h
  · exact .inr (.inr (.inr (.inl h)))
  · exact .inl h
  · exact .inr (.inl h)
  · exact .inr (.inr (.inl h))
  · exact .inr (.inr (.inr (.inr h)))
theorem mem_back3 {a b c d : Addr × Obj} {n1 n2 r : Led} {p : Addr × Obj} (hp : p ∈ b :: c :: d :: a :: ((n1 ++ n2) ++ r)) : p ∈ a :: (n1 ++ (b :: c :: d :: (n2 ++ r))) := by
  simp only [List.mem_cons, List.mem_append] at hp ⊢
  rcases hp with h | h | h | h | (h | h) | h
  · exact .inr (.inr (.inl h))
  · exact .inr (.inr (.inr (.inl h)))
  · exact .inr (.inr (.inr (.inr (.inl h))))
  · exact .inl h
  · exact .inr (.inl h)
  · exact .inr (.inr (.inr (.inr (.inr (.inl h)))))
  · exact .inr (.inr (.inr (.inr (.inr (.inr h)))))
section
variable {w : World} {mean : ExcName → Option Value} {mg mb : Str → Option Value} {dp un : Nat} {gd : Option (List Code)} {cn : Str} {a : Addr} {ccd : Value} {outer : List Env} {A₀ : Around} {base h₀ : Heap} {L : Addr} {m : Str → Option Value} {s : Shared} {E : Value → Shared → Prop}
set_option maxHeartbeats 1000000 in
theorem ag_deeds {Q : Flow → Shared → Prop} {rest rst : Led} {ws : List (Int × Int)} {wa : List Addr} {Wd : Addr} {nW : Nat} (B : Below A₀ base outer h₀) (F : Fr h₀ L s.heap m) (X : (hd.heap_39 w.params).In h₀) (N : News h₀ L s.heap ((88, tabObj #[]) :: rest)) (T : Top topProg LS mean mg mb h₀) (hdp : dp + 10 < recursionLimit) (_hu : un + 100 < cLine)
    (cH : CodeHd base 92 88) (hoff : ∀ p ∈ rest, p.1 ≠ 88) (hW : (Wd, W.listOf (refs wa) nW) ∈ rest) (hws : WordsAt rest wa ws) (h8 : ws.length = 8) (hm : m (Str.ofString "words") = some (.ref Wd))
    (hret : ∀ (D : Addr) (ps : Array Value) (new : Led) (fs : List Addr) (h' : Heap) (tk' : Nat), Deeds (new ++ rst) fs ws → (∀ p ∈ new, ∀ q ∈ (88, tabObj ps) :: rest, q.1 < p.1) → Fr h₀ L h' (fun z => if z = Str.ofString "deeds" then some (.ref D) else m z) → News h₀ L h' ((D, W.listOf (refs fs) fs.length) :: (88, tabObj ps) :: (new ++ rest)) → Off1 D ((88, tabObj ps) :: (new ++ rest)) → Q .next { s with heap := h', toks := tk' }) :
    wpAny (model PR w) (ktrTop dp un gd cn agS L a ccd [] outer) (exec ag0 (envX cn agS L a ccd [])) Q E s := by
  have hfill : Challenge.rw_mq0241_01 = Challenge.rw_mq0241_01 ∧ Mine.hd.heap_39 = Mine.hd.heap_39 := by (k_fill; exact ⟨rfl, rfl⟩)
  clear hfill
  (repeat (conv in ag0 => whnf))
  refine Assign_pairs (L := L) (Inv := DInv rest rst ws) rfl F N (.tail _ hW) rfl (by rw [refs_size, hws.1, h8]; decide) (by with_unfolding_all rfl) (by with_unfolding_all rfl) (by with_unfolding_all decide) (by with_unfolding_all rfl) (by with_unfolding_all decide) (by with_unfolding_all rfl) (by with_unfolding_all rfl) (by decide) (by with_unfolding_all rfl) (by with_unfolding_all rfl) ?_ (fun _ => by with_unfolding_all rfl) ?_ ?_ ?_
  · intro Q' hq
    refine name_fr F hm hq (by with_unfolding_all rfl) (by with_unfolding_all rfl) (by with_unfolding_all rfl)
  · intro i v ys nw hv hI
    obtain ⟨ps, new, fs, rfl, ht, rfl, hl, fr, hd⟩ := hI
    obtain ⟨t, et, rfl⟩ := refs_get hv
    have hlt : i < wa.length := (List.getElem?_eq_some_iff.mp et).1
    have hlw : i < ws.length := hws.1 ▸ hlt
    have ex : ws[i]? = some ws[i] := by simp [hlw]
    obtain ⟨t1, t2, n, hm'⟩ := hws.2 i _ t ex et
    refine ⟨t, _, _, n, rfl, .tail _ (List.mem_append_right _ hm'), ?_⟩
    intro I oI C oC D m₂ h tk E' hC e1 e2 F' N' off ne hax
    k_steps
    have offm := off.mem
    have N2 : News h₀ L h ((88, tabObj ps) :: ((I, oI) :: (C, oC) :: (D, lst (List.map Value.ref fs)) :: (new ++ rest))) := fun p hp => N' p (mem_front3 hp)
    have o88 : ∀ p ∈ (I, oI) :: (C, oC) :: (D, lst (List.map Value.ref fs)) :: (new ++ rest), p.1 ≠ 88 := by
      have z := offm _ (.head _)
      intro p hp
      rcases List.mem_cons.mp hp with rfl | hp
      · exact Ne.symm z.1
      rcases List.mem_cons.mp hp with rfl | hp
      · exact Ne.symm z.2.1
      rcases List.mem_cons.mp hp with rfl | hp
      · exact Ne.symm z.2.2
      rcases List.mem_append.mp hp with hp | hp
      · exact Nat.ne_of_gt (fr p hp _ (.head _))
      · exact hoff p hp
    refine c_deed B F' X N2 T (by with_unfolding_all rfl) (by lia) (by lia) cH o88 ht ?_
    intro f ps' new' h' tk' ht' De F'' N'' fr'
    refine LCg.CompEnd.intro F'' N'' ((88, tabObj ps') :: ((new' ++ new) ++ rest)) (fun p hp => mem_back3 hp) ?_ (.tail _ (List.mem_append_right _ hW)) ?_
    · refine LCg.Off3.of fun p hp => ?_
      rcases List.mem_cons.mp hp with rfl | hp
      · exact offm (88, tabObj ps) (.head _)
      rcases List.mem_append.mp hp with hp | hp
      · rcases List.mem_append.mp hp with hp | hp
        · exact ⟨Nat.ne_of_gt (fr' p hp _ (.tail _ (.head _))), Nat.ne_of_gt (fr' p hp _ (.tail _ (.tail _ (.head _)))), Nat.ne_of_gt (fr' p hp _ (.tail _ (.tail _ (.tail _ (.head _)))))⟩
        · exact offm p (.tail _ (List.mem_append_left _ hp))
      · exact offm p (.tail _ (List.mem_append_right _ hp))
    · refine ⟨ps', new' ++ new, fs ++ [f], rfl, ?_, by simp, by simp [hl], ?_, ?_⟩
      · rw [List.append_assoc]; exact ht'
      · intro p hp q hq
        have q88 : ∀ q, q = (88, tabObj ps') → (88, tabObj ps).1 = q.1 := fun q e => by rw [e]
        rcases List.mem_append.mp hp with hp | hp
        · rcases List.mem_cons.mp hq with rfl | hq
          · exact fr' p hp (88, tabObj ps) (.head _)
          · exact fr' p hp q (.tail _ (.tail _ (.tail _ (.tail _ (List.mem_append_right _ hq)))))
        · rcases List.mem_cons.mp hq with rfl | hq
          · exact fr p hp (88, tabObj ps) (.head _)
          · exact fr p hp q (.tail _ hq)
      · intro j y g e3 e4
        rw [List.append_assoc]
        rcases Nat.lt_or_ge j fs.length with hj | hj
        · rw [List.getElem?_append_left hj] at e4
          exact (hd j y g e3 e4).mono fun p hp => List.mem_append_right _ hp
        · rw [List.getElem?_append_right hj] at e4
          have hj0 : j = fs.length := by
            have := (List.getElem?_eq_some_iff.mp e4).1
            simp at this; lia
          subst hj0
          simp at e4
          subst e4
          rw [hl, ex] at e3
          cases e3
          exact De
  · exact ⟨#[], [], [], rfl, .inl rfl, rfl, rfl, (fun _ h => nomatch h), fun j x g _ h => by simp at h⟩
  · intro D h tk ys nw hI F' N' off
    obtain ⟨ps, new, fs, rfl, ht, e, hl, fr, hd⟩ := hI
    rw [lst_refs e] at N'
    exact hret D ps new fs h tk ⟨by rw [hl, refs_size, hws.1], hd⟩ fr F' N' off
end
end Mine
end
section
open PySem PySem.W PyProof.Rows PySem.Flt PySem.Calls PySem.Spec PyProof.Rows.LCg
set_option maxRecDepth 100000
namespace Mine
theorem rows30 : True := by
  w_top off
  k_with_none
  trivial
theorem jj_start {w : World} {base : Heap} {mean : ExcName → Option Value} {mg mb : Str → Option Value} {P fn c : Addr} {pm ctv : Value} {oc : Obj} {fs : List Addr} {ws : List (Int × Int)} {rest : Led} (pl : Plain) (cH : CodeHd base 92 88) (hw : ∀ x ∈ ws, WordOk x) (h8 : ws.length = 8)
    (hf : (fn, joinObj pm c ctv) ∈ rest) (hc : (c, oc) ∈ rest) (hd : Deeds rest fs ws) : ∃ g, (refs fs)[0]? = some (.ref g) ∧ JJ w base mean mg mb P fn c pm ctv oc fs ws 1 (.ref g) [(P, tabObj #[])] rest := by
  have hl : 0 < fs.length := by rw [hd.1, h8]; decide
  have hlw : 0 < ws.length := by rw [h8]; decide
  have e1 : fs[0]? = some fs[0] := by simp [hl]
  have e2 : ws[0]? = some ws[0] := by simp [hlw]
  have De := hd.2 0 _ _ e2 e1
  obtain ⟨a1, a2, a3, a4⟩ := hw ws[0] (List.getElem_mem _)
  have D1 : Does w base mean mg mb (7 + 1) (40 + 40 * 1) rest fs[0] (Valid 0) (dueS ws[0].1 ws[0].2) := does_deed pl cH De a1 a2 a3 a4 (by lia)
  have e : duesN ws (0 + 1) = fun q => dueS ws[0].1 ws[0].2 (duesN ws 0 q) := funext fun q => duesN_succ e2 q
  have e0 : duesN ws 1 = dueS ws[0].1 ws[0].2 := by rw [e]; funext q; simp [duesN]
  refine ⟨fs[0], ?_, ⟨⟨fs[0], #[], rfl, rfl, .inl rfl, De.fn, by rw [e0]; exact D1⟩, Nat.le_refl _, hf, hc, hd⟩⟩
  unfold refs
  rw [List.getElem?_toArray, List.getElem?_map, e1]; rfl
theorem mem_red {a b c d : Addr × Obj} {r : Led} {p : Addr × Obj} (hp : p ∈ [c] ++ (a :: b :: d :: r)) : p ∈ a :: b :: c :: d :: r := by
  simp only [List.mem_cons, List.mem_append, List.not_mem_nil, or_false] at hp ⊢
  rcases hp with h | h | h | h | h
  · exact .inr (.inr (.inl h))
  · exact .inl h
  · exact .inr (.inl h)
  · exact .inr (.inr (.inr (.inl h)))
  · exact .inr (.inr (.inr (.inr h)))
section
variable {w : World} {mean : ExcName → Option Value} {mg mb : Str → Option Value} {dp un : Nat} {gd : Option (List Code)} {cn : Str} {a : Addr} {ccd : Value} {outer : List Env} {A₀ : Around} {base h₀ : Heap} {L : Addr} {m : Str → Option Value} {s : Shared} {E : Value → Shared → Prop}
theorem rows29 : True := by
  k_with "eval Name" => ((k_here; k_dflt (refine name_fr (by with_reducible assumption) (by with_reducible assumption) ?_)))
  trivial
set_option maxHeartbeats 1000000 in
theorem ag_joined {Q : Flow → Shared → Prop} {rest : Led} {ws : List (Int × Int)} {fs : List Addr} {D : Addr} {nD : Nat} (pl : Plain) (B : Below A₀ base outer h₀) (F : Fr h₀ L s.heap m) (X : (hd.heap_39 w.params).In h₀) (N : News h₀ L s.heap ((100, tabObj #[]) :: rest)) (T : Top topProg LS mean mg mb h₀) (hdp : dp + 30 < recursionLimit) (_hu : un + 1000 < cLine)
    (hcc : ccd = .ref 102) (hcn : cn = Str.ofString "_law_agrees") (cH : CodeHd base 92 88) (cH2 : CodeHd base 102 100) (hoff : ∀ p ∈ rest, p.1 ≠ 100) (hD : (D, W.listOf (refs fs) nD) ∈ rest) (hds : Deeds rest fs ws) (hw : ∀ x ∈ ws, WordOk x) (h8 : ws.length = 8) (hm : m (Str.ofString "deeds") = some (.ref D))
    (hret : ∀ (f : Addr) (ps : Array Value) (new : Led) (h' : Heap) (tk' : Nat), Does w base mean mg mb 15 360 (new ++ rest) f (Valid 0) (duesN ws 8) → Fn (new ++ rest) f → (∃ c, ps = #[rawInt 176, rawInt 20, .ref c]) → (∀ p ∈ new, ∀ q ∈ (100, tabObj ps) :: rest, q.1 < p.1) → Fr h₀ L h' (fun z => if z = Str.ofString "joined" then some (.ref f) else m z) → News h₀ L h' ((100, tabObj ps) :: (new ++ rest)) → Q .next { s with heap := h', toks := tk' }) :
    wpAny (model PR w) (ktrTop dp un gd cn agS L a ccd [] outer) (exec ag1 (envX cn agS L a ccd [])) Q E s := by
  have hfill : Challenge.rw_mq0241_01 = Challenge.rw_mq0241_01 ∧ Mine.hd.heap_39 = Mine.hd.heap_39 := by (k_fill; exact ⟨rfl, rfl⟩)
  clear hfill
  subst hcc hcn
  have cH3 : CodeHd s.heap 102 100 := (cH2.keeps B.stays).keeps F.keep
  (repeat (conv in ag1 => whnf))
  k_steps
  refine kla_eval (by with_unfolding_all rfl) ?_
  refine lam_new (ps := #[]) F N T cH3 rfl (UpdF.head hoff) trivial rfl (by with_unfolding_all rfl) ?_
  intro fj c P oc ct h1 tk1 F1 N1 hO b1 b2 b3 b4 b5
  obtain ⟨pm, hpm⟩ : ∃ pm, pm = (mg (Str.ofString "__name__")).getD .none := ⟨_, rfl⟩
  replace N1 : News h₀ L h1 ((fj, joinObj pm c ct) :: (c, oc) :: (P, tabObj #[]) :: (100, tabObj #[rawInt 176, rawInt 20, .ref c]) :: rest) := by subst hpm; with_unfolding_all exact N1
  replace hO : CodeOb oc c P joinQ := by with_unfolding_all exact hO
  k_steps
  obtain ⟨g0, e0, J0⟩ := jj_start (w := w) (base := base) (mean := mean) (mg := mg) (mb := mb) (P := P) (fn := fj) (c := c) (pm := pm) (ctv := ct) (oc := oc) (rest := (fj, joinObj pm c ct) :: (c, oc) :: rest) pl cH hw h8 (.head _) (.tail _ (.head _)) (hds.mono fun p hp => .tail _ (.tail _ hp))
  have N2 : News h₀ L h1 ([(P, tabObj #[])] ++ ((fj, joinObj pm c ct) :: (c, oc) :: (100, tabObj #[rawInt 176, rawInt 20, .ref c]) :: rest)) := fun p hp => N1 p (mem_red hp)
  have hsz : (refs fs).size = 8 := by rw [refs_size, hds.1, h8]
  have l100 : ∀ q ∈ (100, tabObj #[rawInt 176, rawInt 20, .ref c]) :: rest, q.1 < c ∧ q.1 < P := by
    intro q hq
    rcases List.mem_cons.mp hq with rfl | hq
    · exact ⟨b1 (100, tabObj #[]) (.head _), b2 (100, tabObj #[]) (.head _)⟩
    · exact ⟨b1 q (.tail _ hq), b2 q (.tail _ hq)⟩
  refine c_red0 (d := 3) (u := 40) (rest := (fj, joinObj pm c ct) :: (c, oc) :: rest) B F1 X N2 T (by with_unfolding_all rfl) (by lia) (by lia) cH (JJ w base mean mg mb P fj c pm ct oc fs ws) (.tail _ (.tail _ (.tail _ hD))) (.head _) ?_ ?_ (step_join pl cH hw (by lia) hO) e0 J0 ?_
  · intro p hp
    rcases List.mem_cons.mp hp with rfl | hp
    · exact .head _
    rcases List.mem_cons.mp hp with rfl | hp
    · exact .tail _ (.head _)
    · exact .tail _ (.tail _ (.tail _ hp))
  · intro p hp q hq
    rw [List.mem_singleton.mp hq]
    rcases List.mem_cons.mp hp with rfl | hp
    · exact Nat.ne_of_gt b4
    rcases List.mem_cons.mp hp with rfl | hp
    · exact b5
    · exact Nat.ne_of_lt (l100 p hp).2
  intro r mu' new h' tk' J8 same F' N' fr
  rw [hsz] at J8
  obtain ⟨⟨f, ps', rfl, rfl, t8, g8, D8⟩, _, _, _, _⟩ := J8
  clear N N1 N2
  k_steps
  (rename News h₀ L _ _ => N9)
  have hin : ∀ p ∈ new ++ ((fj, joinObj pm c ct) :: (c, oc) :: rest), p ∈ (new ++ [(fj, joinObj pm c ct), (c, oc), (P, tabObj ps')]) ++ rest := by
    intro p hp
    rw [List.append_assoc]
    rcases List.mem_append.mp hp with hp | hp
    · exact List.mem_append_left _ hp
    · refine List.mem_append_right _ ?_
      rcases List.mem_cons.mp hp with rfl | hp
      · exact .head _
      rcases List.mem_cons.mp hp with rfl | hp
      · exact .tail _ (.head _)
      · exact .tail _ (.tail _ (.tail _ hp))
  refine hret f #[rawInt 176, rawInt 20, .ref c] (new ++ [(fj, joinObj pm c ct), (c, oc), (P, tabObj ps')]) _ _ (D8.mono hin) (g8.mono hin) ⟨c, rfl⟩ ?_ (by k_asm) ?_
  · intro p hp q hq
    rcases List.mem_append.mp hp with hp | hp
    · refine fr p hp q (List.mem_append_right _ (.tail _ (.tail _ hq)))
    · have z := l100 q hq
      rcases List.mem_cons.mp hp with rfl | hp
      · exact Nat.lt_trans z.1 b3
      rcases List.mem_cons.mp hp with rfl | hp
      · exact z.1
      rw [List.mem_singleton.mp hp]
      exact z.2
  · intro p hp
    refine N9 p ?_
    simp only [List.mem_cons, List.mem_append, List.not_mem_nil, or_false] at hp ⊢
    rcases hp with h | (h | h | h | h) | h
    · exact .inr (.inr (.inr (.inr (.inl h))))
    · exact .inr (.inl h)
    · exact .inr (.inr (.inl h))
    · exact .inr (.inr (.inr (.inl h)))
    · exact .inl h
    · exact .inr (.inr (.inr (.inr (.inr h))))
end
end Mine
end
section
open PySem PySem.W PyProof.Rows PySem.Flt PySem.Calls PySem.Spec PyProof.Rows.LCg
set_option maxRecDepth 100000
namespace Mine
theorem rows32 : True := by
  w_top off
  k_with_none
  trivial
/-- the table of _law_agrees' lambdas, the row's one not yet made or made -/
def T100 (ps : Array Value) (rest : Led) : Prop := (∃ c, ps = #[rawInt 176, rawInt 20, .ref c]) ∨ ∃ c c2 oc vs tq, ps = #[rawInt 176, rawInt 20, .ref c, rawInt 178, rawInt 24, .ref c2] ∧ (c2, oc) ∈ rest ∧ oc.data = .fields vs ∧ vs[1]? = some (.str joinQ tq)
theorem T100.mono {ps : Array Value} {rest rest' : Led} (h : T100 ps rest) (hs : ∀ p ∈ rest, p ∈ rest') : T100 ps rest' := by
  rcases h with h | ⟨c, c2, oc, vs, tq, a, b, d⟩
  · exact .inl h
  · exact .inr ⟨c, c2, oc, vs, tq, a, hs _ b, d⟩
theorem rj_start {fn c st l : Addr} {pm ctv : Value} {o oc : Obj} {fs : List Addr} {ws : List (Int × Int)} {q : S4} {n : Nat} {rest : Led} (hl : (l, W.listOf #[.ref st] n) ∈ rest) (hst : (st, o) ∈ rest) (ho : IsSt o q) (hf : (fn, rowObj pm c ctv) ∈ rest) (hc : (c, oc) ∈ rest) (hd : Deeds rest fs ws) : RJ fn c pm ctv oc fs ws q 0 (.ref l) [] rest := by
  refine ⟨⟨l, n, [st], rfl, rfl, hl, rfl, ?_⟩, hf, hc, hd⟩
  intro j t e
  have hj : j = 0 := by have := (List.getElem?_eq_some_iff.mp e).1; simp at this; lia
  subst hj
  simp at e
  subst e
  exact ⟨o, hst, by simpa [duesN] using ho⟩
theorem mem_ins4 {a b c d e : Addr × Obj} {r : Led} {p : Addr × Obj} (hp : p ∈ a :: b :: c :: d :: r) : p ∈ a :: b :: c :: d :: e :: r := by
  simp only [List.mem_cons] at hp ⊢
  rcases hp with h | h | h | h | h
  · exact .inl h
  · exact .inr (.inl h)
  · exact .inr (.inr (.inl h))
  · exact .inr (.inr (.inr (.inl h)))
  · exact .inr (.inr (.inr (.inr (.inr h))))
theorem mem_ins2 {a b e : Addr × Obj} {r : Led} {p : Addr × Obj} (hp : p ∈ a :: b :: r) : p ∈ a :: b :: e :: r := by
  simp only [List.mem_cons] at hp ⊢
  rcases hp with h | h | h
  · exact .inl h
  · exact .inr (.inl h)
  · exact .inr (.inr (.inr h))
theorem mem_app2 {a b : Addr × Obj} {n r : Led} {p : Addr × Obj} (hp : p ∈ n ++ (a :: b :: r)) : p ∈ (n ++ [a, b]) ++ r := by
  rw [List.append_assoc]; exact hp
theorem mem_app4 {a b c d : Addr × Obj} {n r : Led} {p : Addr × Obj} (hp : p ∈ n ++ (a :: b :: c :: d :: r)) : p ∈ (n ++ [a, b, c, d]) ++ r := by
  rw [List.append_assoc]; exact hp
section
variable {w : World} {mean : ExcName → Option Value} {mg mb : Str → Option Value} {dp un : Nat} {gd : Option (List Code)} {cn : Str} {a : Addr} {ccd : Value} {outer : List Env} {A₀ : Around} {base h₀ : Heap} {L : Addr} {m : Str → Option Value} {s : Shared} {E : Value → Shared → Prop}
theorem rows31 : True := by
  k_with "eval Name" => ((k_here; k_dflt (refine name_fr (by with_reducible assumption) (by with_reducible assumption) ?_)))
  trivial
set_option maxHeartbeats 1000000 in
theorem lp_stages0 {Q : Flow → Shared → Prop} {rest : Led} {ws : List (Int × Int)} {fs : List Addr} {D st : Addr} {nD : Nat} {o : Obj} {q : S4} {c0 : Addr} (pl : Plain) (B : Below A₀ base outer h₀) (F : Fr h₀ L s.heap m) (X : (hd.heap_39 w.params).In h₀) (N : News h₀ L s.heap ((100, tabObj #[rawInt 176, rawInt 20, .ref c0]) :: rest)) (T : Top topProg LS mean mg mb h₀) (hdp : dp + 30 < recursionLimit) (_hu : un + 1000 < cLine)
    (hcc : ccd = .ref 102) (hcn : cn = Str.ofString "_law_agrees") (cH : CodeHd base 92 88) (cH2 : CodeHd base 102 100) (hoff : ∀ p ∈ rest, p.1 ≠ 100) (hD : (D, W.listOf (refs fs) nD) ∈ rest) (hds : Deeds rest fs ws) (hw : ∀ x ∈ ws, WordOk x) (h8 : ws.length = 8) (hm : m (Str.ofString "deeds") = some (.ref D))
    (hm2 : m (Str.ofString "colour") = some (.ref st)) (hst : (st, o) ∈ rest) (ho : IsSt o q) (hV : Valid 0 q)
    (hret : ∀ (r : Addr) (n : Nat) (sts : List Addr) (ps : Array Value) (new : Led) (h' : Heap) (tk' : Nat), sts.length = 9 → Row (new ++ rest) ws q sts → (r, W.listOf (refs sts) n) ∈ new ++ rest → T100 ps (new ++ rest) → (∀ p ∈ new, ∀ q ∈ (100, tabObj ps) :: rest, q.1 < p.1) → Fr h₀ L h' (fun z => if z = Str.ofString "stages" then some (.ref r) else m z) → News h₀ L h' ((100, tabObj ps) :: (new ++ rest)) → Q .next { s with heap := h', toks := tk' }) :
    wpAny (model PR w) (ktrTop dp un gd cn agS L a ccd [] outer) (exec lp0 (envX cn agS L a ccd [])) Q E s := by
  have hfill : Challenge.rw_mq0241_01 = Challenge.rw_mq0241_01 ∧ Mine.hd.heap_39 = Mine.hd.heap_39 := by (k_fill; exact ⟨rfl, rfl⟩)
  clear hfill
  subst hcc hcn
  have cH3 : CodeHd s.heap 102 100 := (cH2.keeps B.stays).keeps F.keep
  (repeat (conv in lp0 => whnf))
  k_steps
  refine kla_eval (by with_unfolding_all rfl) ?_
  refine lam_new (ps := #[rawInt 176, rawInt 20, .ref c0]) F N T cH3 rfl (UpdF.head hoff) (by kn_triples) (by kn_among) (by with_unfolding_all rfl) ?_
  intro fj c P oc ct h1 tk1 F1 N1 hO b1 b2 b3 b4 b5
  obtain ⟨pm, hpm⟩ : ∃ pm, pm = (mg (Str.ofString "__name__")).getD .none := ⟨_, rfl⟩
  replace N1 : News h₀ L h1 ((fj, rowObj pm c ct) :: (c, oc) :: (P, tabObj #[]) :: (100, tabObj #[rawInt 176, rawInt 20, .ref c0, rawInt 178, rawInt 24, .ref c]) :: rest) := by subst hpm; with_unfolding_all exact N1
  obtain ⟨vs, _, _, _, _, _, _, _, tq, _, d1, d2, _⟩ : CodeOb oc c P joinQ := by with_unfolding_all exact hO
  clear N F
  k_steps
  (rename News h₀ L _ _ => N5)
  (rename Fr h₀ L _ _ => F5)
  (rename (_ < _) ∧ (_ < _) ∧ (_ < _) ∧ (_ < _) ∧ AllLt _ _ => l5)
  (rename Addr => l)
  have hsz : (refs fs).size = 8 := by rw [refs_size, hds.1, h8]
  refine c_red1 (d := 9) (u := 120) (mu := []) (all := (l, W.listOf #[Value.ref st] 0) :: (fj, rowObj pm c ct) :: (c, oc) :: (P, tabObj #[]) :: (100, tabObj #[rawInt 176, rawInt 20, Value.ref c0, rawInt 178, rawInt 24, Value.ref c]) :: rest) (rest := (l, W.listOf #[Value.ref st] 0) :: (fj, rowObj pm c ct) :: (c, oc) :: (P, tabObj #[]) :: rest) B F5 X N5 T (by with_unfolding_all rfl) (by lia) (by lia) cH (RJ fj c pm ct oc fs ws q) (.tail _ (.tail _ (.tail _ (.tail _ (.tail _ hD))))) (.tail _ (.head _)) (fun p hp => mem_ins4 hp) (fun _ _ _ h => nomatch h) (step_row pl cH hw (by lia) hV d1 d2) (.head _) (rj_start (.head _) (.tail _ (.tail _ (.tail _ (.tail _ hst)))) ho (.tail _ (.head _)) (.tail _ (.tail _ (.head _))) (hds.mono fun p hp => .tail _ (.tail _ (.tail _ (.tail _ hp))))) ?_
  intro r mu' new h' tk' J8 same F' N' fr
  rw [hsz] at J8
  obtain ⟨⟨r', n', sts, rfl, rfl, hr, hls, hrow⟩, _, _, _⟩ := J8
  clear N5 F5
  k_steps
  (rename News h₀ L _ _ => N9)
  refine hret r' n' sts #[rawInt 176, rawInt 20, .ref c0, rawInt 178, rawInt 24, .ref c] (new ++ [(l, W.listOf #[Value.ref st] 0), (fj, rowObj pm c ct), (c, oc), (P, tabObj #[])]) _ _ hls (hrow.mono fun p hp => mem_app4 hp) (mem_app4 hr) (.inr ⟨c0, c, oc, vs, tq, rfl, List.mem_append_left _ (List.mem_append_right _ (.tail _ (.tail _ (.head _)))), d1, d2⟩) ?_ (by k_asm) ?_
  · intro p hp q hq
    have z : q.1 < c ∧ q.1 < P ∧ q.1 < l := by
      rcases List.mem_cons.mp hq with rfl | hq
      · exact ⟨b1 (100, tabObj #[rawInt 176, rawInt 20, .ref c0]) (.head _), b2 (100, tabObj #[rawInt 176, rawInt 20, .ref c0]) (.head _), l5.2.2.2.1⟩
      · exact ⟨b1 q (.tail _ hq), b2 q (.tail _ hq), allLt_mem l5.2.2.2.2 q hq⟩
    rcases List.mem_append.mp hp with hp | hp
    · exact fr p hp q (.tail _ (.tail _ (.tail _ (.tail _ hq))))
    · rcases List.mem_cons.mp hp with rfl | hp
      · exact z.2.2
      rcases List.mem_cons.mp hp with rfl | hp
      · exact Nat.lt_trans z.1 b3
      rcases List.mem_cons.mp hp with rfl | hp
      · exact z.1
      rw [List.mem_singleton.mp hp]
      exact z.2.1
  · intro p hp
    refine N9 p ?_
    simp only [List.mem_cons, List.mem_append, List.not_mem_nil, or_false, false_or] at hp ⊢
    rcases hp with h | (h | h | h | h | h) | h
    · exact .inr (.inr (.inr (.inr (.inr (.inl h)))))
    · exact .inl h
    · exact .inr (.inl h)
    · exact .inr (.inr (.inl h))
    · exact .inr (.inr (.inr (.inl h)))
    · exact .inr (.inr (.inr (.inr (.inl h))))
    · exact .inr (.inr (.inr (.inr (.inr (.inr h)))))
set_option maxHeartbeats 1000000 in
theorem lp_stages1 {Q : Flow → Shared → Prop} {rest : Led} {ws : List (Int × Int)} {fs : List Addr} {D st : Addr} {nD : Nat} {o : Obj} {q : S4} {c0 c : Addr} {oc : Obj} {vs : Array Value} {tq : Tok} (pl : Plain) (B : Below A₀ base outer h₀) (F : Fr h₀ L s.heap m) (X : (hd.heap_39 w.params).In h₀) (N : News h₀ L s.heap ((100, tabObj #[rawInt 176, rawInt 20, .ref c0, rawInt 178, rawInt 24, .ref c]) :: rest)) (hc : (c, oc) ∈ rest) (d1 : oc.data = .fields vs) (d2 : vs[1]? = some (.str joinQ tq)) (T : Top topProg LS mean mg mb h₀) (hdp : dp + 30 < recursionLimit) (_hu : un + 1000 < cLine)
    (hcc : ccd = .ref 102) (hcn : cn = Str.ofString "_law_agrees") (cH : CodeHd base 92 88) (cH2 : CodeHd base 102 100) (hoff : ∀ p ∈ rest, p.1 ≠ 100) (hD : (D, W.listOf (refs fs) nD) ∈ rest) (hds : Deeds rest fs ws) (hw : ∀ x ∈ ws, WordOk x) (h8 : ws.length = 8) (hm : m (Str.ofString "deeds") = some (.ref D))
    (hm2 : m (Str.ofString "colour") = some (.ref st)) (hst : (st, o) ∈ rest) (ho : IsSt o q) (hV : Valid 0 q)
    (hret : ∀ (r : Addr) (n : Nat) (sts : List Addr) (ps : Array Value) (new : Led) (h' : Heap) (tk' : Nat), sts.length = 9 → Row (new ++ rest) ws q sts → (r, W.listOf (refs sts) n) ∈ new ++ rest → T100 ps (new ++ rest) → (∀ p ∈ new, ∀ q ∈ (100, tabObj ps) :: rest, q.1 < p.1) → Fr h₀ L h' (fun z => if z = Str.ofString "stages" then some (.ref r) else m z) → News h₀ L h' ((100, tabObj ps) :: (new ++ rest)) → Q .next { s with heap := h', toks := tk' }) :
    wpAny (model PR w) (ktrTop dp un gd cn agS L a ccd [] outer) (exec lp0 (envX cn agS L a ccd [])) Q E s := by
  have hfill : Challenge.rw_mq0241_01 = Challenge.rw_mq0241_01 ∧ Mine.hd.heap_39 = Mine.hd.heap_39 := by (k_fill; exact ⟨rfl, rfl⟩)
  clear hfill
  subst hcc hcn
  have cH3 : CodeHd s.heap 102 100 := (cH2.keeps B.stays).keeps F.keep
  (repeat (conv in lp0 => whnf))
  k_steps
  refine kla_eval (by with_unfolding_all rfl) ?_
  refine lam_hit (c' := c) F N T cH3 rfl (.head _) (by kn_triples) (by kn_hit) (by with_unfolding_all rfl) ?_
  intro fj ct h1 tk1 F1 N1 b1
  obtain ⟨pm, hpm⟩ : ∃ pm, pm = (mg (Str.ofString "__name__")).getD .none := ⟨_, rfl⟩
  replace N1 : News h₀ L h1 ((fj, rowObj pm c ct) :: (100, tabObj #[rawInt 176, rawInt 20, .ref c0, rawInt 178, rawInt 24, .ref c]) :: rest) := by subst hpm; with_unfolding_all exact N1
  clear N F
  k_steps
  (rename News h₀ L _ _ => N5)
  (rename Fr h₀ L _ _ => F5)
  (rename (_ < _) ∧ (_ < _) ∧ AllLt _ _ => l5)
  (rename Addr => l)
  have hsz : (refs fs).size = 8 := by rw [refs_size, hds.1, h8]
  refine c_red1 (d := 9) (u := 120) (mu := []) (all := (l, W.listOf #[Value.ref st] 0) :: (fj, rowObj pm c ct) :: (100, tabObj #[rawInt 176, rawInt 20, Value.ref c0, rawInt 178, rawInt 24, Value.ref c]) :: rest) (rest := (l, W.listOf #[Value.ref st] 0) :: (fj, rowObj pm c ct) :: rest) B F5 X N5 T (by with_unfolding_all rfl) (by lia) (by lia) cH (RJ fj c pm ct oc fs ws q) (.tail _ (.tail _ (.tail _ hD))) (.tail _ (.head _)) (fun p hp => mem_ins2 hp) (fun _ _ _ h => nomatch h) (step_row pl cH hw (by lia) hV d1 d2) (.head _) (rj_start (.head _) (.tail _ (.tail _ hst)) ho (.tail _ (.head _)) (.tail _ (.tail _ hc)) (hds.mono fun p hp => .tail _ (.tail _ hp))) ?_
  intro r mu' new h' tk' J8 same F' N' fr
  rw [hsz] at J8
  obtain ⟨⟨r', n', sts, rfl, rfl, hr, hls, hrow⟩, _, _, _⟩ := J8
  clear N5 F5
  k_steps
  (rename News h₀ L _ _ => N9)
  refine hret r' n' sts #[rawInt 176, rawInt 20, .ref c0, rawInt 178, rawInt 24, .ref c] (new ++ [(l, W.listOf #[Value.ref st] 0), (fj, rowObj pm c ct)]) _ _ hls (hrow.mono fun p hp => mem_app2 hp) (mem_app2 hr) (.inr ⟨c0, c, oc, vs, tq, rfl, List.mem_append_right _ hc, d1, d2⟩) ?_ (by k_asm) ?_
  · intro p hp q hq
    have z : q.1 < fj ∧ q.1 < l := ⟨b1 q hq, by
      rcases List.mem_cons.mp hq with rfl | hq
      · exact l5.2.1
      · exact allLt_mem l5.2.2 q hq⟩
    rcases List.mem_append.mp hp with hp | hp
    · exact fr p hp q (.tail _ (.tail _ hq))
    · rcases List.mem_cons.mp hp with rfl | hp
      · exact z.2
      rw [List.mem_singleton.mp hp]
      exact z.1
  · intro p hp
    refine N9 p ?_
    simp only [List.mem_cons, List.mem_append, List.not_mem_nil, or_false, false_or] at hp ⊢
    rcases hp with h | (h | h | h) | h
    · exact .inr (.inr (.inr (.inl h)))
    · exact .inl h
    · exact .inr (.inl h)
    · exact .inr (.inr (.inl h))
    · exact .inr (.inr (.inr (.inr h)))
theorem lp_stages {Q : Flow → Shared → Prop} {rest : Led} {ws : List (Int × Int)} {fs : List Addr} {D st : Addr} {nD : Nat} {o : Obj} {q : S4} {ps0 : Array Value} (pl : Plain) (B : Below A₀ base outer h₀) (F : Fr h₀ L s.heap m) (X : (hd.heap_39 w.params).In h₀) (N : News h₀ L s.heap ((100, tabObj ps0) :: rest)) (ht : T100 ps0 rest) (T : Top topProg LS mean mg mb h₀) (hdp : dp + 30 < recursionLimit) (_hu : un + 1000 < cLine)
    (hcc : ccd = .ref 102) (hcn : cn = Str.ofString "_law_agrees") (cH : CodeHd base 92 88) (cH2 : CodeHd base 102 100) (hoff : ∀ p ∈ rest, p.1 ≠ 100) (hD : (D, W.listOf (refs fs) nD) ∈ rest) (hds : Deeds rest fs ws) (hw : ∀ x ∈ ws, WordOk x) (h8 : ws.length = 8) (hm : m (Str.ofString "deeds") = some (.ref D))
    (hm2 : m (Str.ofString "colour") = some (.ref st)) (hst : (st, o) ∈ rest) (ho : IsSt o q) (hV : Valid 0 q)
    (hret : ∀ (r : Addr) (n : Nat) (sts : List Addr) (ps : Array Value) (new : Led) (h' : Heap) (tk' : Nat), sts.length = 9 → Row (new ++ rest) ws q sts → (r, W.listOf (refs sts) n) ∈ new ++ rest → T100 ps (new ++ rest) → (∀ p ∈ new, ∀ q ∈ (100, tabObj ps) :: rest, q.1 < p.1) → Fr h₀ L h' (fun z => if z = Str.ofString "stages" then some (.ref r) else m z) → News h₀ L h' ((100, tabObj ps) :: (new ++ rest)) → Q .next { s with heap := h', toks := tk' }) :
    wpAny (model PR w) (ktrTop dp un gd cn agS L a ccd [] outer) (exec lp0 (envX cn agS L a ccd [])) Q E s := by
  rcases ht with ⟨c0, rfl⟩ | ⟨c0, c, oc, vs, tq, rfl, hc, d1, d2⟩
  · exact lp_stages0 pl B F X N T hdp _hu hcc hcn cH cH2 hoff hD hds hw h8 hm hm2 hst ho hV hret
  · exact lp_stages1 pl B F X N hc d1 d2 T hdp _hu hcc hcn cH cH2 hoff hD hds hw h8 hm hm2 hst ho hV hret
end
end Mine
end
section
open PySem PySem.W PyProof.Rows PySem.Flt PySem.Calls PySem.Spec PyProof.Rows.LCg
set_option maxRecDepth 100000
namespace Mine
theorem rows34 : True := by
  w_top off
  k_with_none
  trivial
theorem iter_pl {prog : Program} {w : World} {A : Around} {E : Value → Shared → Prop} {s : Shared} {h₀ : Heap} {L ax : Addr} {m : Str → Option Value} {news : List (Addr × Obj)} {items : Array Value} {nn : Nat} {Q : Value → Shared → Prop} (F : Fr h₀ L s.heap m) (N : News h₀ L s.heap news) (hp : (ax, W.listOf items nn) ∈ news)
    (h : ∀ (I : Addr) h' oI, Fr h₀ L h' m → News h₀ L h' ((I, oI) :: news) → (∀ p ∈ news, p.1 < I) → LIt oI ax 0 → Q (.ref I) { s with heap := h' }) :
    wpAny (model prog w) A (pyIter (.ref ax)) Q E s :=
  wpAny_pyIter_list (items := items) ⟨_, (N _ hp).1, rfl, nn, rfl⟩ (h _ _ _ (F.push _) (News.push F N _ rfl) (fun q hq => Heap.lt_size (N q hq).1) ⟨rfl, rfl⟩)
/-- between two turns of the loop over the words -/
structure WInv (rest : Led) (ws : List (Int × Int)) (q : S4) (Du : Addr) (m : Str → Option Value) (i : Nat) (m' : Str → Option Value) (nw : Led) : Prop where
  out : ∃ (dts : List Addr) (n : Nat) (new : Led), nw = (Du, W.listOf (refs dts) n) :: (new ++ rest) ∧ dts.length = i + 1 ∧ Row (new ++ rest) ws q dts ∧ ∀ p ∈ new, ∀ q ∈ (Du, W.listOf (refs dts) n) :: rest, q.1 < p.1
  same : ∀ x, x ≠ Str.ofString "kind" → x ≠ Str.ofString "k" → m' x = m x
section
variable {w : World} {mean : ExcName → Option Value} {mg mb : Str → Option Value} {dp un : Nat} {gd : Option (List Code)} {cn : Str} {a : Addr} {ccd : Value} {outer : List Env} {A₀ : Around} {base h₀ : Heap} {L : Addr} {m : Str → Option Value} {s : Shared} {E : Value → Shared → Prop}
theorem rows33 : True := by
  k_with "eval Name" => ((k_here; k_dflt (refine name_fr (by with_reducible assumption) (by with_reducible assumption) ?_)))
  k_with "exec For Tuple Name cons nil" => ((refine wpAny_For ?_))
  k_with "subscriptTail Name UnaryOp ref int" => ((k_here; (with_reducible show wpAny _ _ (subscriptTail _ _ (Value.ref _) (Value.int _ _)) _ _ _); (with_unfolding_all refine' item_last (by k_asm) (by k_mem) (by assumption) ?_ (by with_unfolding_all rfl); k_whole)))
  k_with "k_all" => ((with_reducible assumption))
  trivial
set_option maxHeartbeats 1000000 in
theorem lp_due {Q : Flow → Shared → Prop} {rest : Led} {ws : List (Int × Int)} {wa : List Addr} {Wd Du st : Addr} {nW n0 : Nat} {o : Obj} {q : S4} (B : Below A₀ base outer h₀) (F : Fr h₀ L s.heap m) (X : (hd.heap_39 w.params).In h₀) (N : News h₀ L s.heap ((Du, W.listOf (refs [st]) n0) :: rest)) (T : Top topProg LS mean mg mb h₀) (hdp : dp + 30 < recursionLimit) (_hu : un + 1000 < cLine)
    (hoff : ∀ p ∈ rest, p.1 ≠ Du) (hW : (Wd, W.listOf (refs wa) nW) ∈ rest) (hws : WordsAt rest wa ws) (hw : ∀ x ∈ ws, WordOk x) (h8 : ws.length = 8) (hm : m (Str.ofString "words") = some (.ref Wd))
    (hm2 : m (Str.ofString "due") = some (.ref Du)) (hst : (st, o) ∈ rest) (ho : IsSt o q) (hV : Valid 0 q)
    (hret : ∀ (dts : List Addr) (n : Nat) (new : Led) (m' : Str → Option Value) (h' : Heap) (tk' : Nat), dts.length = 9 → Row (new ++ rest) ws q dts → (∀ p ∈ new, ∀ q ∈ (Du, W.listOf (refs dts) n) :: rest, q.1 < p.1) → (∀ x, x ≠ Str.ofString "kind" → x ≠ Str.ofString "k" → m' x = m x) → Fr h₀ L h' m' → News h₀ L h' ((Du, W.listOf (refs dts) n) :: (new ++ rest)) → Q .next { s with heap := h', toks := tk' }) :
    wpAny (model PR w) (ktrTop dp un gd cn agS L a ccd [] outer) (exec lp2 (envX cn agS L a ccd [])) Q E s := by
  have hfill : Challenge.rw_mq0241_01 = Challenge.rw_mq0241_01 ∧ Mine.hd.heap_39 = Mine.hd.heap_39 := by (k_fill; exact ⟨rfl, rfl⟩)
  clear hfill
  (repeat (conv in lp2 => whnf))
  k_steps
  have hsz : (refs wa).size = 8 := by rw [refs_size, hws.1, h8]
  refine iter_pl F N (.tail _ hW) ?_
  intro I h1 oI F1 N1 l1 hI
  refine loopP (h₀ := h₀) (L := L) (I := I) (ax := Wd) (items := refs wa) (nn := nW) (s := s) rfl rfl (by with_unfolding_all rfl) (by with_unfolding_all rfl) (by with_unfolding_all rfl) rfl (WInv rest ws q Du m) ?_ ?_ (i₀ := 0) (Nat.zero_le _) ⟨h1, _, m, (Du, W.listOf (refs [st]) n0) :: rest, oI, rfl, F1, N1, hI, off_of_lt l1, .tail _ hW, ⟨[st], n0, [], rfl, rfl, ?_, fun _ h => nomatch h⟩, fun _ _ _ => rfl⟩
  · intro i v m' news hv hWn hI1
    obtain ⟨⟨dts, n, new, rfl, hl, hrow, fr⟩, same⟩ := hI1
    obtain ⟨t, et, rfl⟩ := refs_get hv
    have hlt : i < wa.length := (List.getElem?_eq_some_iff.mp et).1
    have hlw : i < ws.length := hws.1 ▸ hlt
    have ex : ws[i]? = some ws[i] := by simp [hlw]
    obtain ⟨t1, t2, nt, hmt⟩ := hws.2 i _ t ex et
    obtain ⟨a1, a2, a3, a4⟩ := hw ws[i] (List.getElem_mem _)
    have es : dts[i]? = some dts[i] := by simp [hl]
    obtain ⟨od, hst', ho'⟩ := hrow i _ es
    obtain ⟨z0, z1, z2, z3, zn, rfl⟩ := ho'
    have hlast : (refs dts)[(refs dts).size - 1]? = some (.ref dts[i]) := by
      have e : (refs dts).size - 1 = i := by rw [refs_size, hl]; rfl
      rw [e]
      unfold refs; rw [List.getElem?_toArray, List.getElem?_map, es]; rfl
    have hszd : (refs dts).size ≤ 100 := by rw [refs_size, hl]; lia
    have hoffD : ∀ p ∈ new ++ rest, p.1 ≠ Du := by
      intro p hp
      rcases List.mem_append.mp hp with hp | hp
      · exact Nat.ne_of_gt (fr p hp _ (.head _))
      · exact hoff p hp
    refine ⟨t, _, _, nt, rfl, .tail _ (List.mem_append_right _ hmt), ?_⟩
    intro h' tk oI' F2 N2 hI2 off2
    have e1 : (fun y => if y = Str.ofString "k" then some (Value.int ws[i].2 t2) else if y = Str.ofString "kind" then some (Value.int ws[i].1 t1) else m' y) (Str.ofString "k") = some (Value.int ws[i].2 t2) := by with_unfolding_all rfl
    have e2 : (fun y => if y = Str.ofString "k" then some (Value.int ws[i].2 t2) else if y = Str.ofString "kind" then some (Value.int ws[i].1 t1) else m' y) (Str.ofString "kind") = some (Value.int ws[i].1 t1) := by with_unfolding_all rfl
    have e3 : (fun y => if y = Str.ofString "k" then some (Value.int ws[i].2 t2) else if y = Str.ofString "kind" then some (Value.int ws[i].1 t1) else m' y) (Str.ofString "due") = some (Value.ref Du) := by
      show (if Str.ofString "due" = Str.ofString "k" then _ else if Str.ofString "due" = Str.ofString "kind" then _ else m' (Str.ofString "due")) = _
      rw [if_neg (by decide), if_neg (by decide), same _ (by decide) (by decide)]; exact hm2
    have e4 : ∀ x, x ≠ Str.ofString "kind" → x ≠ Str.ofString "k" → (fun y => if y = Str.ofString "k" then some (Value.int ws[i].2 t2) else if y = Str.ofString "kind" then some (Value.int ws[i].1 t1) else m' y) x = m x := by
      intro x h1 h2
      show (if x = Str.ofString "k" then _ else if x = Str.ofString "kind" then _ else m' x) = _
      rw [if_neg h2, if_neg h1]; exact same x h1 h2
    generalize (fun y => if y = Str.ofString "k" then some (Value.int ws[i].2 t2) else if y = Str.ofString "kind" then some (Value.int ws[i].1 t1) else m' y) = m2 at F2 e1 e2 e3 e4
    clear F N F1 N1 l1 hI
    k_steps
    (rename News h₀ L _ _ => N5)
    (rename Fr h₀ L _ _ => F5)
    k_dflt (refine' c_due B F5 X N5 T ?hk ?hdp ?hu a3 a4 a1 a2 ?m ?_; (case hk => with_unfolding_all rfl); (case hdp => lia); (case hu => lia); (case m => exact .tail _ (.tail _ hst')))
    intro D pp r g b u0 u1 u2 u3 nn h6 tk6 hdue F6 N6 l6
    have l6' := l6.2.2
    clear F5 N5
    k_steps
    have nD := N6 (Du, W.listOf (refs dts) n) (.tail _ (.tail _ (.head _)))
    refine append_at (its := refs dts) (n := n) nD.1 (fun h7 hs7 hD7 => ?_) (by rw [sizeLine_eq]; lia)
    refine wpAny_execs_nil ?_
    have eR : (refs dts).push (.ref D) = refs (dts ++ [D]) := by unfold refs; simp
    rw [eR] at hD7
    have lDu : @LT.lt Nat _ Du D := l6.2.1
    have lI : @LT.lt Nat _ I D := l6.1
    have l6m := allLt_mem l6'
    have offDu : ∀ p ∈ (I, oI') :: (D, W.listOf #[Value.int pp u0, Value.int r u1, Value.int g u2, Value.int b u3] nn) :: (new ++ rest), p.1 ≠ Du := by
      intro p hp
      rcases List.mem_cons.mp hp with rfl | hp
      · exact Ne.symm (off2 (Du, W.listOf (refs dts) n) (.head _))
      rcases List.mem_cons.mp hp with rfl | hp
      · exact Nat.ne_of_gt lDu
      · exact hoffD p hp
    refine ⟨⟨h7, tk6, m2, (Du, W.listOf (refs (dts ++ [D])) (n + 1)) :: (((D, W.listOf #[Value.int pp u0, Value.int r u1, Value.int g u2, Value.int b u3] nn) :: new) ++ rest), oI', rfl, F6.change hs7 nD.2.1 nD.2.2, ?_, hI2, ?_, .tail _ (List.mem_append_right _ hW), ⟨dts ++ [D], n + 1, _, rfl, by simp [hl], ?_, ?_⟩, e4⟩⟩
    · intro p hp
      have up : ∀ p' ∈ (I, oI') :: (D, W.listOf #[Value.int pp u0, Value.int r u1, Value.int g u2, Value.int b u3] nn) :: (new ++ rest), h7.get? p'.1 = some p'.2 ∧ p'.1 ≠ L ∧ h₀.get? p'.1 = none := by
        intro p' hp'
        have z := N6 p' (by
          rcases List.mem_cons.mp hp' with rfl | hp'
          · exact .tail _ (.head _)
          rcases List.mem_cons.mp hp' with rfl | hp'
          · exact .head _
          · exact .tail _ (.tail _ (.tail _ hp')))
        exact ⟨hs7.extBut _ _ (offDu p' hp') z.1, z.2⟩
      rcases List.mem_cons.mp hp with rfl | hp
      · exact up _ (.head _)
      rcases List.mem_cons.mp hp with rfl | hp
      · exact ⟨hD7, nD.2⟩
      · exact up _ (.tail _ hp)
    · intro p hp
      rcases List.mem_cons.mp hp with rfl | hp
      · exact off2 (Du, W.listOf (refs dts) n) (.head _)
      rcases List.mem_cons.mp hp with rfl | hp
      · exact Nat.ne_of_gt lI
      · exact off2 p (.tail _ hp)
    · intro j t e
      rcases Nat.lt_or_ge j dts.length with h | h
      · rw [List.getElem?_append_left h] at e
        obtain ⟨o, a, b⟩ := hrow j t e
        exact ⟨o, .tail _ a, b⟩
      · rw [List.getElem?_append_right h] at e
        have hj : j = i + 1 := by
          have := (List.getElem?_eq_some_iff.mp e).1
          simp at this; lia
        rw [hl, hj] at e
        simp at e
        subst e hj
        refine ⟨_, .head _, u0, u1, u2, u3, nn, ?_⟩
        rw [duesN_succ ex]
        show _ = W.listOf #[.int (dueI _ _ _ _ _ _).1 u0, .int (dueI _ _ _ _ _ _).2.1 u1, .int (dueI _ _ _ _ _ _).2.2.1 u2, .int (dueI _ _ _ _ _ _).2.2.2 u3] nn
        rw [← hdue]
    · intro p hp q hq
      rcases List.mem_cons.mp hp with rfl | hp
      · rcases List.mem_cons.mp hq with rfl | hq
        · exact lDu
        · exact l6m q (List.mem_append_right _ hq)
      · rcases List.mem_cons.mp hq with rfl | hq
        · exact fr p hp (Du, W.listOf (refs dts) n) (.head _)
        · exact fr p hp q (.tail _ hq)
  · intro h' tk m' news F2 N2 _ hI1
    obtain ⟨⟨dts, n, new, rfl, hl, hrow, fr⟩, same⟩ := hI1
    rw [hsz] at hl
    exact (hret dts n new m' h' tk hl hrow fr same F2 N2)
  · intro j t e
    have hj : j = 0 := by have := (List.getElem?_eq_some_iff.mp e).1; simp at this; lia
    subst hj
    simp at e
    subst e
    exact ⟨o, hst, by simpa [duesN] using ho⟩
end
end Mine
end
section
open PySem PySem.W PyProof.Rows PySem.Flt PySem.Calls PySem.Spec PyProof.Rows.LCg PySem.SeqAt
set_option maxRecDepth 100000
namespace Mine
theorem rows36 : True := by
  w_top off
  k_with_none
  trivial
def stD (q : S4) : PyData := .list [.int q.1, .int q.2.1, .int q.2.2.1, .int q.2.2.2]
def rowD (ws : List (Int × Int)) (q : S4) : PyData := .list ((List.range' 0 9).map fun j => stD (duesN ws j q))
theorem st_reads {h : Heap} {st : Addr} {o : Obj} {q : S4} (g : h.get? st = some o) (ho : IsSt o q) : Reads h (.ref st) (stD q) [st] := by
  obtain ⟨t0, t1, t2, t3, n, rfl⟩ := ho
  exact .list g rfl rfl (.cons (.int _ _) (.cons (.int _ _) (.cons (.int _ _) (.cons (.int _ _) .nil))))
theorem reads_states {h : Heap} (f : Nat → S4) : ∀ (sts : List Addr) (k : Nat), (∀ (j : Nat) (st : Addr), sts[j]? = some st → ∃ o, h.get? st = some o ∧ IsSt o (f (k + j))) →
    ∃ as, ReadsAll h (sts.map Value.ref) ((List.range' k sts.length).map fun j => stD (f j)) as
  | [], _, _ => ⟨_, .nil⟩
  | st :: r, k, H => by
    obtain ⟨o, g, ho⟩ := H 0 st rfl
    obtain ⟨as, A⟩ := reads_states f r (k + 1) (fun j st e => by
      have := H (j + 1) st (by simpa using e)
      rw [show k + (j + 1) = k + 1 + j by lia] at this
      exact this)
    exact ⟨_, .cons (st_reads g ho) A⟩
theorem row_reads {h₀ h : Heap} {L r : Addr} {all rest : Led} {ws : List (Int × Int)} {q : S4} {sts : List Addr} {n : Nat} (N : News h₀ L h all) (hs : ∀ p ∈ rest, p ∈ all) (hm : (r, W.listOf (refs sts) n) ∈ all) (hl : sts.length = 9) (hrow : Row rest ws q sts) : ∃ as, Reads h (.ref r) (rowD ws q) as := by
  obtain ⟨as, A⟩ := reads_states (h := h) (fun j => duesN ws j q) sts 0 (fun j st e => by
    obtain ⟨o, m, i⟩ := hrow j st e
    exact ⟨o, (N _ (hs _ m)).1, by rw [Nat.zero_add]; exact i⟩)
  rw [hl] at A
  refine ⟨_, reads_list_at (N _ hm).1 rfl rfl (as := as) ?_⟩
  have e : (refs sts).toList = sts.map Value.ref := by unfold refs; simp
  rw [e]; exact A
theorem rows_ne {prog : Program} {w : World} {A : Around} {E : Value → Shared → Prop} {s : Shared} {h₀ : Heap} {L r d : Addr} {all rest : Led} {ws : List (Int × Int)} {q : S4} {sts dts : List Addr} {n n2 : Nat} {Q : Value → Shared → Prop} (N : News h₀ L s.heap all) (hs : ∀ p ∈ rest, p ∈ all)
    (hm : (r, W.listOf (refs sts) n) ∈ all) (hl : sts.length = 9) (hrow : Row rest ws q sts) (hm2 : (d, W.listOf (refs dts) n2) ∈ all) (hl2 : dts.length = 9) (hrow2 : Row rest ws q dts) (hu : A.units + 64 < cLine) (h : Q (.bool false) s) :
    wpAny (model prog w) A (compareOp .NotEq (.ref r) (.ref d)) Q E s := by
  obtain ⟨as, R1⟩ := row_reads N hs hm hl hrow
  obtain ⟨bs, R2⟩ := row_reads N hs hm2 hl2 hrow2
  have hsh : shaped (rowD ws q) = true := by with_unfolding_all rfl
  refine ne_dataH R1 R2 hsh hsh hu ?_
  rw [eqv_refl _ (canLay_of_shaped hsh)]
  exact h
theorem st_ne {prog : Program} {w : World} {A : Around} {E : Value → Shared → Prop} {s : Shared} {r d : Addr} {o o2 : Obj} {q : S4} {Q : Value → Shared → Prop} (g1 : s.heap.get? r = some o) (h1 : IsSt o q) (g2 : s.heap.get? d = some o2) (h2 : IsSt o2 q) (hu : A.units + 64 < cLine) (h : Q (.bool false) s) :
    wpAny (model prog w) A (compareOp .NotEq (.ref r) (.ref d)) Q E s := by
  have hsh : shaped (stD q) = true := by with_unfolding_all rfl
  refine ne_dataH (st_reads g1 h1) (st_reads g2 h2) hsh hsh hu ?_
  rw [eqv_refl _ (canLay_of_shaped hsh)]
  exact h
section
variable {w : World} {mean : ExcName → Option Value} {mg mb : Str → Option Value} {dp un : Nat} {gd : Option (List Code)} {cn : Str} {a : Addr} {ccd : Value} {outer : List Env} {A₀ : Around} {base h₀ : Heap} {L : Addr} {m : Str → Option Value} {s : Shared} {E : Value → Shared → Prop}
theorem rows35 : True := by
  k_with "eval Name" => ((k_here; k_dflt (refine name_fr (by with_reducible assumption) (by with_reducible assumption) ?_)))
  k_with "subscriptTail Name UnaryOp ref int" => ((k_here; (with_reducible show wpAny _ _ (subscriptTail _ _ (Value.ref _) (Value.int _ _)) _ _ _); (with_unfolding_all refine' item_last (by k_asm) (by k_mem) (by assumption) ?_ (by with_unfolding_all rfl); k_whole)))
  k_with "compareOp NotEq ref ref" => (fail "here")
  k_with "k_all" => ((with_reducible assumption))
  trivial
set_option maxHeartbeats 1000000 in
theorem lp_if {Q : Flow → Shared → Prop} {rest : Led} {ws : List (Int × Int)} {r Du f st : Addr} {n n2 : Nat} {sts dts : List Addr} {o : Obj} {q : S4} (B : Below A₀ base outer h₀) (F : Fr h₀ L s.heap m) (X : (hd.heap_39 w.params).In h₀) (N : News h₀ L s.heap rest) (T : Top topProg LS mean mg mb h₀) (hdp : dp + 30 < recursionLimit) (_hu : un + 1000 < cLine) (_cH : CodeHd base 92 88)
    (m1 : m (Str.ofString "stages") = some (.ref r)) (m2 : m (Str.ofString "due") = some (.ref Du)) (m3 : m (Str.ofString "joined") = some (.ref f)) (m4 : m (Str.ofString "colour") = some (.ref st))
    (hr : (r, W.listOf (refs sts) n) ∈ rest) (hd : (Du, W.listOf (refs dts) n2) ∈ rest) (l1 : sts.length = 9) (l2 : dts.length = 9) (R1 : Row rest ws q sts) (R2 : Row rest ws q dts)
    (D8 : Does w base mean mg mb 15 360 rest f (Valid 0) (duesN ws 8)) (G8 : Fn rest f) (hst : (st, o) ∈ rest) (ho : IsSt o q) (hV : Valid 0 q)
    (hret : ∀ (D : Addr) (o' : Obj) (h' : Heap) (tk' : Nat), Fr h₀ L h' m → News h₀ L h' ((D, o') :: rest) → AllLt D rest → Q .next { s with heap := h', toks := tk' }) :
    wpAny (model PR w) (ktrTop dp un gd cn agS L a ccd [] outer) (exec lp3 (envX cn agS L a ccd [])) Q E s := by
  have hfill : Challenge.rw_mq0241_01 = Challenge.rw_mq0241_01 ∧ Mine.hd.heap_39 = Mine.hd.heap_39 := by (k_fill; exact ⟨rfl, rfl⟩)
  clear hfill
  (repeat (conv in lp3 => whnf))
  obtain ⟨oc1, od1, fd1, sl1, g1⟩ := G8
  have e8 : dts[8]? = some dts[8] := by simp [l2]
  have hlast : (refs dts)[(refs dts).size - 1]? = some (.ref dts[8]) := by
    have e : (refs dts).size - 1 = 8 := by rw [refs_size, l2]
    rw [e]; unfold refs; rw [List.getElem?_toArray, List.getElem?_map, e8]; rfl
  obtain ⟨od, hm8, ho8⟩ := R2 8 _ e8
  replace N := news_front (news_front N g1) (.tail _ hd)
  k_steps
  refine rows_ne N (fun p hp => .tail _ (.tail _ hp)) (.tail _ (.tail _ hr)) l1 R1 (.head _) l2 R2 (by show un + 64 < cLine; lia) ?_
  k_steps
  (rename News h₀ L _ _ => N5)
  (rename Fr h₀ L _ _ => F5)
  k_dflt (refine' Does.use D8 B F5 X T ?hk ?hdp ?hu N5 ?hs ?m ho hV ?_; (case hk => with_unfolding_all rfl); (case hdp => lia); (case hu => lia); (case hs => exact fun p hp => .tail _ (.tail _ hp)); (case m => exact .tail _ (.tail _ hst)))
  intro D' o' h' tk' ho' F2 N2 l3
  clear N5 F5
  k_steps
  refine st_ne (N2 _ (.head _)).1 ho' (N2 _ (.tail _ (.tail _ (.tail _ hm8)))).1 ho8 (by show un + 64 < cLine; lia) ?_
  k_steps
  (rename News h₀ L _ _ => N9)
  exact hret D' o' _ _ (by k_asm) (cb_drop N9 (List.forall_mem_cons.mpr ⟨List.Mem.head _, fun p hp => .tail _ (.tail _ (.tail _ hp))⟩)) l3.2.2
end
end Mine
end
section
open PySem PySem.W PyProof.Rows PySem.Flt PySem.Calls PySem.Spec PyProof.Rows.LCg
set_option maxRecDepth 100000
namespace Mine
theorem rows38 : True := by
  w_top off
  k_with_none
  trivial
/-- the colours' lists -/
def ColsAt (rest : Led) (ca : List Addr) : Prop := ∀ (i : Nat) (t : Addr), ca[i]? = some t → ∃ o q, (t, o) ∈ rest ∧ IsSt o q ∧ Valid 0 q
theorem T100.drop {ps : Array Value} {new kn : Led} {I ax : Addr} {oI : Obj} {i : Nat} (hI : LIt oI ax i) (h : T100 ps (new ++ ((I, oI) :: kn))) : T100 ps (new ++ kn) := by
  rcases h with h | ⟨c, c2, oc, vs, tq, a, b, d, e⟩
  · exact .inl h
  · refine .inr ⟨c, c2, oc, vs, tq, a, ?_, d, e⟩
    rcases List.mem_append.mp b with b | b
    · exact List.mem_append_left _ b
    rcases List.mem_cons.mp b with b | b
    · exfalso
      have e1 : oc = oI := congrArg Prod.snd b
      rw [e1, hI.2] at d
      injection d with d
      rw [← d] at e
      exact absurd e (by simp)
    · exact List.mem_append_right _ b
/-- between two colours -/
structure AInv (rest0 : Led) (Wd D f : Addr) (i : Nat) (m' : Str → Option Value) (nw : Led) : Prop where
  out : ∃ (ps : Array Value) (kn : Led), nw = (100, tabObj ps) :: kn ∧ T100 ps kn ∧ (∀ p ∈ rest0, p ∈ kn) ∧ ∀ p ∈ kn, p.1 ≠ 100
  h1 : m' (Str.ofString "deeds") = some (.ref D)
  h2 : m' (Str.ofString "joined") = some (.ref f)
  h3 : m' (Str.ofString "words") = some (.ref Wd)
section
variable {w : World} {mean : ExcName → Option Value} {mg mb : Str → Option Value} {dp un : Nat} {gd : Option (List Code)} {cn : Str} {a : Addr} {ccd : Value} {outer : List Env} {A₀ : Around} {base h₀ : Heap} {L : Addr} {m : Str → Option Value} {s : Shared} {E : Value → Shared → Prop}
theorem rows37 : True := by
  k_with "eval Name" => ((k_here; k_dflt (refine name_fr (by with_reducible assumption) (by with_reducible assumption) ?_)))
  trivial
set_option maxHeartbeats 1000000 in
theorem lp_one {Q : Flow → Shared → Prop} {rest : Led} {st : Addr} (B : Below A₀ base outer h₀) (F : Fr h₀ L s.heap m) (X : (hd.heap_39 w.params).In h₀) (N : News h₀ L s.heap rest) (T : Top topProg LS mean mg mb h₀) (m4 : m (Str.ofString "colour") = some (.ref st))
    (hret : ∀ (D : Addr) (n : Nat) (h' : Heap) (tk' : Nat), Fr h₀ L h' (fun z => if z = Str.ofString "due" then some (.ref D) else m z) → News h₀ L h' ((D, W.listOf (refs [st]) n) :: rest) → (∀ p ∈ rest, p.1 < D) → Q .next { s with heap := h', toks := tk' }) :
    wpAny (model PR w) (ktrTop dp un gd cn agS L a ccd [] outer) (exec lp1 (envX cn agS L a ccd [])) Q E s := by
  have hfill : Challenge.rw_mq0241_01 = Challenge.rw_mq0241_01 ∧ Mine.hd.heap_39 = Mine.hd.heap_39 := by (k_fill; exact ⟨rfl, rfl⟩)
  clear hfill
  (repeat (conv in lp1 => whnf))
  k_steps
  (rename News h₀ L _ _ => N9)
  exact hret _ _ _ _ (by k_asm) N9 (by assumption)
theorem set_same {m : Str → Option Value} {y x : Str} {v w' : Value} (h : m x = some w') (hne : x ≠ y) : (fun z => if z = y then some v else m z) x = some w' := by
  show (if x = y then _ else m x) = _
  rw [if_neg hne]; exact h
set_option maxHeartbeats 1000000 in
theorem ag_loop {Q : Flow → Shared → Prop} {rest0 : Led} {ws : List (Int × Int)} {wa ca fs : List Addr} {Wd C D f : Addr} {nW nC nD : Nat} {ps : Array Value} (pl : Plain) (B : Below A₀ base outer h₀) (F : Fr h₀ L s.heap m) (X : (hd.heap_39 w.params).In h₀) (N : News h₀ L s.heap ((100, tabObj ps) :: rest0)) (T : Top topProg LS mean mg mb h₀) (hdp : dp + 30 < recursionLimit) (_hu : un + 1000 < cLine)
    (hcc : ccd = .ref 102) (hcn : cn = Str.ofString "_law_agrees") (cH : CodeHd base 92 88) (cH2 : CodeHd base 102 100) (hoff : ∀ p ∈ rest0, p.1 ≠ 100) (ht : T100 ps rest0)
    (hD : (D, W.listOf (refs fs) nD) ∈ rest0) (hds : Deeds rest0 fs ws) (hw : ∀ x ∈ ws, WordOk x) (h8 : ws.length = 8) (hW : (Wd, W.listOf (refs wa) nW) ∈ rest0) (hws : WordsAt rest0 wa ws)
    (hC : (C, W.listOf (refs ca) nC) ∈ rest0) (hcs : ColsAt rest0 ca) (D8 : Does w base mean mg mb 15 360 rest0 f (Valid 0) (duesN ws 8)) (G8 : Fn rest0 f)
    (m1 : m (Str.ofString "deeds") = some (.ref D)) (m2 : m (Str.ofString "joined") = some (.ref f)) (m3 : m (Str.ofString "words") = some (.ref Wd)) (m4 : m (Str.ofString "colours") = some (.ref C))
    (hret : ∀ (ps : Array Value) (kn : Led) (m' : Str → Option Value) (h' : Heap) (tk' : Nat), (∀ p ∈ rest0, p ∈ kn) → Fr h₀ L h' m' → News h₀ L h' ((100, tabObj ps) :: kn) → Q .next { s with heap := h', toks := tk' }) :
    wpAny (model PR w) (ktrTop dp un gd cn agS L a ccd [] outer) (exec ag2 (envX cn agS L a ccd [])) Q E s := by
  have e2 : ∃ px py pos, ag2 = Stmt.For (.Name (Str.ofString "colour") px) (.Name (Str.ofString "colours") py) [lp0, lp1, lp2, lp3] [] pos := ⟨_, _, _, by with_unfolding_all rfl⟩
  obtain ⟨px, py, pos, e2⟩ := e2
  rw [e2]
  refine wpAny_For ?_
  refine name_fr F m4 ?_ (by with_unfolding_all rfl) (by with_unfolding_all rfl) (by with_unfolding_all rfl)
  refine iter_pl F N (.tail _ hC) ?_
  intro I h1 oI F1 N1 l1 hI
  refine loopL (h₀ := h₀) (L := L) (I := I) (ax := C) (items := refs ca) (nn := nC) (s := s) rfl rfl (by with_unfolding_all rfl) (by with_unfolding_all rfl) rfl (AInv rest0 Wd D f) ?_ ?_ (i₀ := 0) (Nat.zero_le _) ⟨h1, _, m, (100, tabObj ps) :: rest0, oI, rfl, F1, N1, hI, off_of_lt l1, .tail _ hC, ⟨ps, rest0, rfl, ht, fun _ h => h, hoff⟩, m1, m2, m3⟩
  · intro i v h' tk m' news oI' hv F2 N2 hI2 off2 hCn hInv
    obtain ⟨⟨ps', kn, rfl, ht', hsub, hoff'⟩, b1, b2, b3⟩ := hInv
    obtain ⟨st, est, rfl⟩ := refs_get hv
    obtain ⟨o, q, hst, ho, hV⟩ := hcs i st est
    clear N1 F1 l1 hI N F
    have N3 : News h₀ L h' ((100, tabObj ps') :: ((I, oI') :: kn)) := fun p hp => N2 p (by
      rcases List.mem_cons.mp hp with rfl | hp
      · exact .tail _ (.head _)
      rcases List.mem_cons.mp hp with rfl | hp
      · exact .head _
      · exact .tail _ (.tail _ hp))
    have offI : ∀ p ∈ (I, oI') :: kn, p.1 ≠ 100 := by
      intro p hp
      rcases List.mem_cons.mp hp with rfl | hp
      · exact Ne.symm (off2 (100, tabObj ps') (.head _))
      · exact hoff' p hp
    have up : ∀ p ∈ rest0, p ∈ (I, oI') :: kn := fun p hp => .tail _ (hsub p hp)
    have hI3 := hI2
    generalize hm2e : (fun y => if y = Str.ofString "colour" then some (Value.ref st) else m' y) = m2e at F2
    have c0 : m2e (Str.ofString "colour") = some (.ref st) := by rw [← hm2e]; exact if_pos rfl
    have c1 : m2e (Str.ofString "deeds") = some (.ref D) := by rw [← hm2e]; exact set_same b1 (by decide)
    have c2 : m2e (Str.ofString "joined") = some (.ref f) := by rw [← hm2e]; exact set_same b2 (by decide)
    have c3 : m2e (Str.ofString "words") = some (.ref Wd) := by rw [← hm2e]; exact set_same b3 (by decide)
    refine wpAny_execs_cons (lp_stages pl B F2 X N3 (ht'.mono fun p hp => .tail _ hp) T hdp _hu hcc hcn cH cH2 offI (up _ hD) (hds.mono up) hw h8 c1 c0 (up _ hst) ho hV ?_)
    intro r n sts ps2 new h2 tk2 ls hrow hr t2 fr F3 N4
    have d0 := set_same (v := .ref r) (y := Str.ofString "stages") c0 (by decide)
    have d1 := set_same (v := .ref r) (y := Str.ofString "stages") c1 (by decide)
    have d2 := set_same (v := .ref r) (y := Str.ofString "stages") c2 (by decide)
    have d3 := set_same (v := .ref r) (y := Str.ofString "stages") c3 (by decide)
    have d4 : (fun z => if z = Str.ofString "stages" then some (Value.ref r) else m2e z) (Str.ofString "stages") = some (.ref r) := if_pos rfl
    generalize (fun z => if z = Str.ofString "stages" then some (Value.ref r) else m2e z) = m3e at F3 d0 d1 d2 d3 d4
    refine wpAny_execs_cons (lp_one B F3 X N4 T d0 ?_)
    intro Du nD2 h3 tk3 F5 N5 lDu
    have f0 := set_same (v := .ref Du) (y := Str.ofString "due") d0 (by decide)
    have f1 := set_same (v := .ref Du) (y := Str.ofString "due") d1 (by decide)
    have f2 := set_same (v := .ref Du) (y := Str.ofString "due") d2 (by decide)
    have f3 := set_same (v := .ref Du) (y := Str.ofString "due") d3 (by decide)
    have f4 := set_same (v := .ref Du) (y := Str.ofString "due") d4 (by decide)
    have f5 : (fun z => if z = Str.ofString "due" then some (Value.ref Du) else m3e z) (Str.ofString "due") = some (.ref Du) := if_pos rfl
    generalize (fun z => if z = Str.ofString "due" then some (Value.ref Du) else m3e z) = m4e at F5 f0 f1 f2 f3 f4 f5
    have up2 : ∀ p ∈ rest0, p ∈ (100, tabObj ps2) :: (new ++ ((I, oI') :: kn)) := fun p hp => .tail _ (List.mem_append_right _ (up p hp))
    refine wpAny_execs_cons (lp_due B F5 X N5 T hdp _hu (fun p hp => Nat.ne_of_lt (lDu p hp)) (up2 _ hW) (hws.mono up2) hw h8 f3 f5 (up2 _ hst) ho hV ?_)
    intro dts n3 new2 m5 h4 tk4 ld hrow2 fr2 same F6 N6
    have up3 : ∀ p ∈ new ++ ((I, oI') :: kn), p ∈ (Du, W.listOf (refs dts) n3) :: (new2 ++ ((100, tabObj ps2) :: (new ++ ((I, oI') :: kn)))) := fun p hp => .tail _ (List.mem_append_right _ (.tail _ hp))
    have up4 : ∀ p ∈ rest0, p ∈ (Du, W.listOf (refs dts) n3) :: (new2 ++ ((100, tabObj ps2) :: (new ++ ((I, oI') :: kn)))) := fun p hp => up3 p (List.mem_append_right _ (up p hp))
    have g0 := (same (Str.ofString "colour") (by decide) (by decide)).trans f0
    have g1 := (same (Str.ofString "deeds") (by decide) (by decide)).trans f1
    have g2 := (same (Str.ofString "joined") (by decide) (by decide)).trans f2
    have g3 := (same (Str.ofString "words") (by decide) (by decide)).trans f3
    have g4 := (same (Str.ofString "stages") (by decide) (by decide)).trans f4
    have g5 := (same (Str.ofString "due") (by decide) (by decide)).trans f5
    refine wpAny_execs_cons (lp_if B F6 X N6 T hdp _hu cH g4 g5 g2 g0 (up3 _ hr) (.head _) ls ld (hrow.mono up3) (hrow2.mono fun p hp => .tail _ hp) (D8.mono up4) (G8.mono up4) (up4 _ hst) ho hV ?_)
    intro D' o' h5 tk5 F7 N7 l7
    have l7m := allLt_mem l7
    refine wpAny_execs_nil ?_
    have in1 : ∀ p ∈ (I, oI') :: kn, p ∈ (Du, W.listOf (refs dts) n3) :: (new2 ++ ((100, tabObj ps2) :: (new ++ ((I, oI') :: kn)))) := fun p hp => up3 p (List.mem_append_right _ hp)
    have in2 : (100, tabObj ps2) ∈ (Du, W.listOf (refs dts) n3) :: (new2 ++ ((100, tabObj ps2) :: (new ++ ((I, oI') :: kn)))) := .tail _ (List.mem_append_right _ (.head _))
    refine ⟨⟨h5, tk5, m5, (100, tabObj ps2) :: ((D', o') :: (Du, W.listOf (refs dts) n3) :: (new2 ++ (new ++ kn))), oI', rfl, F7, ?_, hI3, ?_, ?_, ⟨ps2, _, rfl, ?_, ?_, ?_⟩, g1, g2, g3⟩⟩
    · intro p hp
      refine N7 p ?_
      simp only [List.mem_cons, List.mem_append] at hp ⊢
      rcases hp with h | h | h | h | h | h | h
      · exact .inr (.inr (.inr (.inr (.inr (.inl h)))))
      · exact .inr (.inr (.inr (.inl h)))
      · exact .inl h
      · exact .inr (.inl h)
      · exact .inr (.inr (.inl h))
      · exact .inr (.inr (.inr (.inr (.inl h))))
      · exact .inr (.inr (.inr (.inr (.inr (.inr h)))))
    · intro p hp
      have iI : (I, oI') ∈ (100, tabObj ps2) :: (new ++ ((I, oI') :: kn)) := .tail _ (List.mem_append_right _ (.head _))
      rcases List.mem_cons.mp hp with rfl | hp
      · exact off2 (100, tabObj ps') (.head _)
      rcases List.mem_cons.mp hp with rfl | hp
      · exact Nat.ne_of_gt (l7m (I, oI') (in1 _ (.head _)))
      rcases List.mem_cons.mp hp with rfl | hp
      · exact Nat.ne_of_gt (lDu (I, oI') iI)
      rcases List.mem_append.mp hp with hp | hp
      · exact Nat.ne_of_gt (fr2 p hp (I, oI') (.tail _ iI))
      rcases List.mem_append.mp hp with hp | hp
      · exact Nat.ne_of_gt (fr p hp (I, oI') (.tail _ (.head _)))
      · exact off2 p (.tail _ hp)
    · exact .tail _ (.tail _ (.tail _ (List.mem_append_right _ (List.mem_append_right _ (hsub _ hC)))))
    · exact (t2.drop hI3).mono fun p hp => .tail _ (.tail _ (List.mem_append_right _ hp))
    · exact fun p hp => .tail _ (.tail _ (List.mem_append_right _ (List.mem_append_right _ (hsub p hp))))
    · intro p hp
      rcases List.mem_cons.mp hp with rfl | hp
      · exact Nat.ne_of_gt (l7m (100, tabObj ps2) in2)
      rcases List.mem_cons.mp hp with rfl | hp
      · exact Nat.ne_of_gt (lDu (100, tabObj ps2) (.head _))
      rcases List.mem_append.mp hp with hp | hp
      · exact Nat.ne_of_gt (fr2 p hp (100, tabObj ps2) (.tail _ (.head _)))
      rcases List.mem_append.mp hp with hp | hp
      · exact Nat.ne_of_gt (fr p hp (100, tabObj ps2) (.head _))
      · exact hoff' p hp
  · intro h' tk m' news F2 N2 _ hInv
    obtain ⟨⟨ps', kn, rfl, ht', hsub, hoff'⟩, b1, b2, b3⟩ := hInv
    exact hret ps' kn m' h' tk hsub F2 N2
end
end Mine
end
section
open PySem PySem.W PyProof.Rows PySem.Flt
set_option maxRecDepth 100000
namespace Mine
theorem off1_mem {D : Addr} {l : List (Addr × Obj)} (h : LCg.Off1 D l) : ∀ p ∈ l, p.1 ≠ D := by
  induction l with
  | nil => exact fun _ h => nomatch h
  | cons q r ih => exact List.forall_mem_cons.mpr ⟨h.1, ih h.2⟩
set_option maxHeartbeats 2000000 in
theorem c_agrees {w : World} {wa ca : List Addr} {Wd C : Addr} {nW nC : Nat} {ws : List (Int × Int)} {rest : Led} {mean : ExcName → Option Value} {mg mb : Str → Option Value} {dp un : Nat} {gd : Option (List Code)} {cn : Str} {cs : Scope} {a : Addr} {ccd : Value} {cl : List (Str × Addr)} {outer : List Env} {A₀ : Around} {base h₀ : Heap} {L : Addr} {m : Str → Option Value}  {s : Shared} {Q E : Value → Shared → Prop}
    (B : Below A₀ base outer h₀) (F : Fr h₀ L s.heap m) (X : (hd.heap_39 w.params).In h₀) (N : News h₀ L s.heap ((88, tabObj #[]) :: (100, tabObj #[]) :: rest)) (T : Top topProg LS mean mg mb h₀) (hk : cs.kind = .function) (hdp : dp + 60 < recursionLimit) (_hu : un + 3000 < cLine)
    (pl : Plain) (cH : CodeHd base 92 88) (cH2 : CodeHd base 102 100) (hof8 : ∀ p ∈ rest, p.1 ≠ 88) (hof10 : ∀ p ∈ rest, p.1 ≠ 100) (hW : (Wd, W.listOf (refs wa) nW) ∈ rest) (hws : WordsAt rest wa ws) (hw : ∀ x ∈ ws, WordOk x) (h8 : ws.length = 8) (hC : (C, W.listOf (refs ca) nC) ∈ rest) (hcs : ColsAt rest ca)
    (hret : ∀ (ps1 ps2 : Array Value) (h' : Heap) (tk' : Nat), Fr h₀ L h' m → News h₀ L h' [(88, tabObj ps1), (100, tabObj ps2)] → Q (.bool true) { s with heap := h', toks := tk' }) :
    wpAny (model PR w) (ktrTop dp un gd cn cs L a ccd cl outer) (call (.ref 103) [.ref Wd, .ref C]) Q E s := by
  have hfill : Challenge.rw_mq0241_01 = Challenge.rw_mq0241_01 ∧ Mine.hd.heap_39 = Mine.hd.heap_39 := by (k_fill; exact ⟨rfl, rfl⟩)
  clear hfill
  refine wpAny_call ?_
  k_dflt ktr_enter
  (rename News _ _ _ _ => N')
  (rename Fr _ _ _ _ => F')
  (rename Below _ _ (_ :: _) _ => B')
  (rename Frag.In _ _ => X')
  (rename Top _ _ _ _ _ _ => T')
  obtain ⟨m0, F0, i1, i2⟩ : ∃ m0, Fr _ _ _ m0 ∧ m0 (Str.ofString "words") = some (.ref Wd) ∧ m0 (Str.ofString "colours") = some (.ref C) := ⟨_, F', by with_unfolding_all rfl, by with_unfolding_all rfl⟩
  clear F' F N
  have uL := cLine_is
  with_unfolding_all refine wpAny_execs_cons (st := ag0) (rest := [ag1, ag2, ag3]) ?_
  k_dflt (refine' ag_deeds (rst := rest) B' F0 X' N' T' ?hdp ?hu cH ?o8 (.tail _ hW) (hws.mono fun p hp => .tail _ hp) h8 i1 ?_; (case hdp => show dp + 1 + 10 < _; omega); (case hu => show un + 3 + 100 < _; omega); (case o8 => exact List.forall_mem_cons.mpr ⟨by decide, hof8⟩))
  intro D ps1 new fs h1 tk1 hds fr1 F1 N1 o1
  clear N' F0
  have N1' : News _ _ h1 ((100, tabObj #[]) :: ((D, W.listOf (refs fs) fs.length) :: (88, tabObj ps1) :: (new ++ rest))) := fun p hp => N1 p (by
    simp only [List.mem_cons, List.mem_append] at hp ⊢
    rcases hp with h | h | h | h | h
    · exact .inr (.inr (.inr (.inl h)))
    · exact .inl h
    · exact .inr (.inl h)
    · exact .inr (.inr (.inl h))
    · exact .inr (.inr (.inr (.inr h))))
  have off1 : ∀ p ∈ (D, W.listOf (refs fs) fs.length) :: (88, tabObj ps1) :: (new ++ rest), p.1 ≠ 100 := by
    intro p hp
    rcases List.mem_cons.mp hp with rfl | hp
    · exact Ne.symm (off1_mem o1 (100, tabObj #[]) (.tail _ (List.mem_append_right _ (.head _))))
    rcases List.mem_cons.mp hp with rfl | hp
    · exact show (88 : Nat) ≠ 100 by decide
    rcases List.mem_append.mp hp with hp | hp
    · exact Nat.ne_of_gt (fr1 p hp (100, tabObj #[]) (.tail _ (.head _)))
    · exact hof10 p hp
  have j1 := set_same (v := .ref D) (y := Str.ofString "deeds") i1 (by decide)
  have j2 := set_same (v := .ref D) (y := Str.ofString "deeds") i2 (by decide)
  have j3 : (fun z => if z = Str.ofString "deeds" then some (Value.ref D) else m0 z) (Str.ofString "deeds") = some (.ref D) := if_pos rfl
  generalize (fun z => if z = Str.ofString "deeds" then some (Value.ref D) else m0 z) = m1 at F1 j1 j2 j3
  have hds1 : Deeds ((D, W.listOf (refs fs) fs.length) :: (88, tabObj ps1) :: (new ++ rest)) fs ws := hds.mono fun p hp => .tail _ (.tail _ hp)
  dsimp only
  k_dflt (refine wpAny_execs_cons ?_; refine' ag_joined pl B' F1 X' N1' T' ?hdp ?hu rfl rfl cH cH2 off1 (.head _) hds1 hw h8 j3 ?_; (case hdp => show dp + 1 + 30 < _; omega); (case hu => show un + 3 + 1000 < _; omega))
  intro f ps2 new2 h2 tk2 D8 G8 hps2 fr2 F2 N2
  clear N1 N1' F1
  have up1 : ∀ p ∈ (D, W.listOf (refs fs) fs.length) :: (88, tabObj ps1) :: (new ++ rest), p ∈ new2 ++ ((D, W.listOf (refs fs) fs.length) :: (88, tabObj ps1) :: (new ++ rest)) := fun p hp => List.mem_append_right _ hp
  have up0 : ∀ p ∈ rest, p ∈ new2 ++ ((D, W.listOf (refs fs) fs.length) :: (88, tabObj ps1) :: (new ++ rest)) := fun p hp => up1 p (.tail _ (.tail _ (List.mem_append_right _ hp)))
  have off2 : ∀ p ∈ new2 ++ ((D, W.listOf (refs fs) fs.length) :: (88, tabObj ps1) :: (new ++ rest)), p.1 ≠ 100 := by
    intro p hp
    rcases List.mem_append.mp hp with hp | hp
    · exact Nat.ne_of_gt (fr2 p hp (100, tabObj ps2) (.head _))
    · exact off1 p hp
  have q1 := set_same (v := .ref f) (y := Str.ofString "joined") j1 (by decide)
  have q2 := set_same (v := .ref f) (y := Str.ofString "joined") j2 (by decide)
  have q3 := set_same (v := .ref f) (y := Str.ofString "joined") j3 (by decide)
  have q4 : (fun z => if z = Str.ofString "joined" then some (Value.ref f) else m1 z) (Str.ofString "joined") = some (.ref f) := if_pos rfl
  generalize (fun z => if z = Str.ofString "joined" then some (Value.ref f) else m1 z) = m2 at F2 q1 q2 q3 q4
  dsimp only
  k_dflt (refine wpAny_execs_cons ?_; refine' ag_loop pl B' F2 X' N2 T' ?hdp ?hu rfl rfl cH cH2 off2 (.inl hps2) (up1 _ (.head _)) (hds1.mono up1) hw h8 (up0 _ hW) (hws.mono up0) (up0 _ hC) (fun i t e => let ⟨o, q, a, b, c⟩ := hcs i t e; ⟨o, q, up0 _ a, b, c⟩) D8 G8 q3 q4 q1 q2 ?_; (case hdp => show dp + 1 + 30 < _; omega); (case hu => show un + 3 + 1000 < _; omega))
  intro ps3 kn m' h3 tk3 sub F3 N3
  clear N2 F2
  replace N3 : News _ _ h3 [(88, tabObj ps1), (100, tabObj ps3)] := cb_drop N3 (List.forall_mem_cons.mpr ⟨.tail _ (sub _ (up1 _ (.tail _ (.head _)))), List.forall_mem_cons.mpr ⟨.head _, fun _ h => nomatch h⟩⟩)
  dsimp only
  (repeat (conv in ag3 => whnf))
  (try k_fold)
  (repeat (first | walk1 | (dsimp only; walk1) | (leave1; try dsimp only)))
  exact hret ps1 ps3 _ _ (by k_asm) (by k_asm)

end Mine
end
section
open PySem PySem.W PyProof.Rows PySem.Flt PySem.Calls PySem.Spec PyProof.Rows.LCg
set_option maxRecDepth 100000
namespace Mine
theorem rows40 : True := by
  w_top off
  k_with_none
  trivial
noncomputable def lawS : Scope := (fnDef (PR.main.body.getD 20 default)).2.2
noncomputable def lawB : List Stmt := (fnDef (PR.main.body.getD 20 default)).2.1
noncomputable def lw0 : Stmt := lawB.getD 0 default
noncomputable def lw1 : Stmt := lawB.getD 1 default
noncomputable def lw2 : Stmt := lawB.getD 2 default
def Stop (p : Prop) : Prop := p
theorem Stop.intro {p : Prop} (h : Stop p) : p := h
theorem compRest_ind {prog : Program} {w : World} {A : Around} {h₀ : Heap} {L : Addr} {m : Str → Option Value} {env : Env} {elt : PySem.Expr} {x : Str} {scope : Scope} {cl : List (Str × Addr)} {s : Shared} {S : Led → Prop} {P : Nat → Value → Prop} {Fin : List Value → Led → Prop} {n : Nat} (Inv : Nat → List Value → Led → Prop)
    (turn : ∀ i v ys nw, i < n → P i v → Inv i ys nw → ∀ I oI C oC D m₂ h tk (E' : Value → Shared → Prop), NsObj oC m₂ → m₂ x = some v → Fr h₀ L h m → News h₀ L h ((I, oI) :: (C, oC) :: (D, lst ys) :: nw) → Off3 I C D nw → ((@Ne Nat I C) ∧ (@Ne Nat I D) ∧ (@Ne Nat C D)) →
      wpAny (model prog w) A (eval elt (compEnvC scope cl C env)) (CompEnd h₀ L m { s with heap := h, toks := tk } I oI C oC D (lst ys) S (fun y nw' => Inv (i + 1) (ys ++ [y]) nw')) E' { s with heap := h, toks := tk })
    (fin : ∀ ys nw, Inv n ys nw → Fin ys nw) : ∀ k i ys nw, i + k = n → Inv i ys nw → CompRest prog w A h₀ L m env elt x scope cl s S P Fin k i ys nw
  | 0, i, ys, nw, e, hI => CompRest.zero (fin ys nw (by rw [← e]; exact hI))
  | k + 1, i, ys, nw, e, hI => CompRest.succ fun v I oI C oC D m₂ h tk E' hP hC hx F N off ne =>
    wpAny_mono (turn i v ys nw (by lia) hP hI I oI C oC D m₂ h tk E' hC hx F N off ne) (fun y s₂ ⟨h', tk', news', e', F', N', off', hS, r⟩ => ⟨h', tk', news', e', F', N', off', hS, compRest_ind Inv turn fin k (i + 1) (ys ++ [y]) news' (by lia) r⟩) fun _ _ h => h
theorem ints8 {d0 d1 d2 d3 d4 d5 d6 d7 : Int} {t0 t1 t2 t3 t4 t5 t6 t7 : Tok} {i : Nat} {v : Value} (hi : i < 8) (h : (#[Value.int d0 t0, Value.int d1 t1, Value.int d2 t2, Value.int d3 t3, Value.int d4 t4, Value.int d5 t5, Value.int d6 t6, Value.int d7 t7] : Array Value)[i]? = some v) : ∃ d t, v = Value.int d t := by
  have : i = 0 ∨ i = 1 ∨ i = 2 ∨ i = 3 ∨ i = 4 ∨ i = 5 ∨ i = 6 ∨ i = 7 := by lia
  rcases this with rfl | rfl | rfl | rfl | rfl | rfl | rfl | rfl <;> (injection h with h; exact ⟨_, _, h.symm⟩)
/-- the words so far -/
structure WI (rest : Led) (i : Nat) (ys : List Value) (nw : Led) : Prop where
  out : ∃ (wa : List Addr) (ws : List (Int × Int)) (new : Led), nw = new ++ rest ∧ ys = wa.map .ref ∧ wa.length = i ∧ ws.length = i ∧ (∀ x ∈ ws, WordOk x) ∧ WordsAt new wa ws ∧ ∀ p ∈ new, ∀ q ∈ rest, q.1 < p.1
section
variable {w : World} {mean : ExcName → Option Value} {mg mb : Str → Option Value} {dp un : Nat} {gd : Option (List Code)} {cn : Str} {a : Addr} {ccd : Value} {outer : List Env} {A₀ : Around} {base h₀ : Heap} {L : Addr} {m : Str → Option Value} {s : Shared} {E : Value → Shared → Prop}
theorem rows39 : True := by
  k_with "eval Name" => ((k_here; k_dflt (refine name_fr (by with_reducible assumption) (by with_reducible assumption) ?_)))
  k_with "CompRest" => (refine Stop.intro ?_)
  k_with "CompEnd" => (refine Stop.intro ?_)
  k_with "k_all" => ((with_reducible assumption))
  k_with "exec Assign cons ListComp" => ((k_here; k_dflt (refine LCg.Assign_ListComp_U (F₀ := by k_asm) (by rfl) (by with_unfolding_all rfl) (by with_unfolding_all rfl) (by with_unfolding_all decide) (by with_unfolding_all rfl) (by with_unfolding_all decide) (by with_unfolding_all rfl) (by with_unfolding_all rfl) (by with_unfolding_all rfl) ?_)))
  k_with "CompSrc" => ((k_here; k_dflt (refine LCg.CompSrc.ledger (by rfl) (by k_asm) (by k_asm) (by k_mem) (by first | size_fits | exact Nat.le_of_ble_eq_true rfl) ?_; intro _)))
  trivial
set_option maxHeartbeats 1000000 in
theorem law_words {Q : Flow → Shared → Prop} {rest : Led} {Dr : Addr} {nD : Nat} {d0 d1 d2 d3 d4 d5 d6 d7 d8 d9 d10 : Int} {t0 t1 t2 t3 t4 t5 t6 t7 t8 t9 t10 : Tok} (F : Fr h₀ L s.heap m) (X : (hd.heap_39 w.params).In h₀) (N : News h₀ L s.heap ((Dr, W.listOf #[Value.int d0 t0, Value.int d1 t1, Value.int d2 t2, Value.int d3 t3, Value.int d4 t4, Value.int d5 t5, Value.int d6 t6, Value.int d7 t7, Value.int d8 t8, Value.int d9 t9, Value.int d10 t10] nD) :: rest)) (T : Top topProg LS mean mg mb h₀) (hm : m (Str.ofString "draws") = some (.ref Dr))
    (hret : ∀ (Wd : Addr) (n : Nat) (wa : List Addr) (ws : List (Int × Int)) (new : Led) (h' : Heap) (tk' : Nat), ws.length = 8 → (∀ x ∈ ws, WordOk x) → WordsAt new wa ws → (Wd, W.listOf (refs wa) n) ∈ new → (∀ p ∈ new, ∀ q ∈ (Dr, W.listOf #[Value.int d0 t0, Value.int d1 t1, Value.int d2 t2, Value.int d3 t3, Value.int d4 t4, Value.int d5 t5, Value.int d6 t6, Value.int d7 t7, Value.int d8 t8, Value.int d9 t9, Value.int d10 t10] nD) :: rest, p.1 ≠ q.1) → Fr h₀ L h' (fun z => if z = Str.ofString "words" then some (.ref Wd) else m z) → News h₀ L h' (new ++ ((Dr, W.listOf #[Value.int d0 t0, Value.int d1 t1, Value.int d2 t2, Value.int d3 t3, Value.int d4 t4, Value.int d5 t5, Value.int d6 t6, Value.int d7 t7, Value.int d8 t8, Value.int d9 t9, Value.int d10 t10] nD) :: rest)) → Q .next { s with heap := h', toks := tk' }) :
    wpAny (model PR w) (ktrTop dp un gd cn lawS L a ccd [] outer) (exec lw1 (envX cn lawS L a ccd [])) Q E s := by
  have hfill : Challenge.rw_mq0241_01 = Challenge.rw_mq0241_01 ∧ Mine.hd.heap_39 = Mine.hd.heap_39 := by (k_fill; exact ⟨rfl, rfl⟩)
  clear hfill
  (repeat (conv in lw1 => whnf))
  k_steps
  (rename News h₀ L _ _ => N1)
  (rename Addr => Sl)
  (rename_i l1 g')
  show LCg.CompRest _ _ _ _ _ _ _ _ _ _ _ _ _ _ _ _ _ _ _
  refine compRest_ind (n := 8) (WI ((Sl, W.listOf #[Value.int d0 t0, Value.int d1 t1, Value.int d2 t2, Value.int d3 t3, Value.int d4 t4, Value.int d5 t5, Value.int d6 t6, Value.int d7 t7] 0) :: (Dr, W.listOf #[Value.int d0 t0, Value.int d1 t1, Value.int d2 t2, Value.int d3 t3, Value.int d4 t4, Value.int d5 t5, Value.int d6 t6, Value.int d7 t7, Value.int d8 t8, Value.int d9 t9, Value.int d10 t10] nD) :: rest)) ?_ ?_ 8 0 [] _ rfl ⟨[], [], [], rfl, rfl, rfl, rfl, (fun _ h => nomatch h), ⟨rfl, fun i x t e => nomatch e⟩, fun _ h => nomatch h⟩
  · intro i v ys nw hi hv hI I oI C oC D m₂ h tk E' hC hx F2 N2 off ne
    obtain ⟨d, t, rfl⟩ : ∃ d t, v = Value.int d t := ints8 hi hv
    clear N1
    k_steps
    (rename News h₀ L _ _ => N3)
    (rename Fr h₀ L _ _ => F3)
    (rename (_ < _) ∧ (_ < _) ∧ (_ < _) ∧ AllLt _ _ => l3)
    obtain ⟨wa, ws, new, rfl, rfl, e1, e2, hw, hws, fr⟩ := hI
    have l3m := allLt_mem l3.2.2.2
    unfold Stop
    refine comp_more (s₁ := { s with heap := h, toks := tk }) F3 N3 (allLt_mem (l := (I, oI) :: (C, oC) :: (D, lst (List.map Value.ref wa)) :: (new ++ _)) l3) off ?_ ?_
    · exact .inr ⟨_, .tail _ (List.mem_append_right _ (.head _)), rfl, _, rfl⟩
    refine WI.mk ⟨wa ++ [_], ws ++ [(d.fmod 8, 1 + (d.fdiv 8).fmod 5)], _ :: new, rfl, by rw [List.map_append]; rfl, by rw [List.length_append, e1]; rfl, by rw [List.length_append, e2]; rfl, ?_, ?_, ?_⟩
    · intro x hx
      rcases List.mem_append.mp hx with hx | hx
      · exact hw x hx
      · rw [List.mem_singleton.mp hx]
        refine ⟨?_, ?_, ?_, ?_⟩ <;> (simp only [Int.fmod_eq_emod_of_nonneg _ (show (0 : Int) ≤ 8 by decide), Int.fmod_eq_emod_of_nonneg _ (show (0 : Int) ≤ 5 by decide)]; lia)
    · refine ⟨by simp [e1, e2], fun j x t' ea eb => ?_⟩
      rcases Nat.lt_or_ge j ws.length with hj | hj
      · rw [List.getElem?_append_left hj] at ea
        rw [List.getElem?_append_left (by lia)] at eb
        obtain ⟨u1, u2, un', um⟩ := hws.2 j x t' ea eb
        exact ⟨u1, u2, un', .tail _ um⟩
      · rw [List.getElem?_append_right hj] at ea
        rw [List.getElem?_append_right (by lia)] at eb
        have hj0 : j = ws.length := by
          have := (List.getElem?_eq_some_iff.mp ea).1
          simp at this; lia
        subst hj0
        rw [show ws.length - wa.length = 0 by lia] at eb
        simp at ea eb
        subst ea eb
        exact ⟨_, _, _, .head _⟩
    · intro p hp q hq
      rcases List.mem_cons.mp hp with rfl | hp
      · exact l3m q (List.mem_append_right _ hq)
      · exact fr p hp q hq
  · intro ys nw hI
    obtain ⟨wa, ws, new, rfl, rfl, e1, e2, hw, hws, fr⟩ := hI
    intro D h tk F2 N2 o2
    rw [lst_refs rfl] at N2
    have o2m := off1_mem o2
    refine hret D _ wa ws ((D, W.listOf (refs wa) wa.length) :: (new ++ [(Sl, W.listOf #[Value.int d0 t0, Value.int d1 t1, Value.int d2 t2, Value.int d3 t3, Value.int d4 t4, Value.int d5 t5, Value.int d6 t6, Value.int d7 t7] 0)])) h tk e2 hw (hws.mono fun p hp => .tail _ (List.mem_append_left _ hp)) (.head _) ?_ F2 (fun p hp => N2 p ?_)
    · intro p hp q hq
      rcases List.mem_cons.mp hp with rfl | hp
      · exact Ne.symm (o2m q (List.mem_append_right _ (.tail _ hq)))
      rcases List.mem_append.mp hp with hp | hp
      · exact Nat.ne_of_gt (fr p hp q (.tail _ hq))
      rw [List.mem_singleton.mp hp]
      rcases List.mem_cons.mp hq with rfl | hq
      · exact Nat.ne_of_gt l1.1
      · exact Nat.ne_of_gt (allLt_mem l1.2 q hq)
    · rw [List.cons_append, List.append_assoc] at hp
      exact hp
end
end Mine
end
section
open PySem PySem.W PyProof.Rows PySem.Flt PySem.Calls PySem.Spec PyProof.Rows.LCg
set_option maxRecDepth 100000
namespace Mine
theorem rows42 : True := by
  w_top off
  k_with_none
  trivial
theorem ints3 {d0 d1 d2 : Int} {t0 t1 t2 : Tok} {i : Nat} {v : Value} (hi : i < 3) (h : (#[Value.int d0 t0, Value.int d1 t1, Value.int d2 t2] : Array Value)[i]? = some v) : ∃ d t, v = Value.int d t := by
  have : i = 0 ∨ i = 1 ∨ i = 2 := by lia
  rcases this with rfl | rfl | rfl <;> (injection h with h; exact ⟨_, _, h.symm⟩)
theorem ColsAt.mono {rest rest' : Led} {ca : List Addr} (h : ColsAt rest ca) (hs : ∀ p ∈ rest, p ∈ rest') : ColsAt rest' ca := fun i t e => let ⟨o, q, a, b, c⟩ := h i t e; ⟨o, q, hs _ a, b, c⟩
/-- the colours so far -/
structure CI (rest : Led) (i : Nat) (ys : List Value) (nw : Led) : Prop where
  out : ∃ (ca : List Addr) (new : Led), nw = new ++ rest ∧ ys = ca.map .ref ∧ ca.length = i ∧ ColsAt new ca ∧ ∀ p ∈ new, ∀ q ∈ rest, q.1 < p.1
section
variable {w : World} {mean : ExcName → Option Value} {mg mb : Str → Option Value} {dp un : Nat} {gd : Option (List Code)} {cn : Str} {a : Addr} {ccd : Value} {outer : List Env} {A₀ : Around} {base h₀ : Heap} {L : Addr} {m : Str → Option Value} {s : Shared} {E : Value → Shared → Prop}
theorem rows41 : True := by
  k_with "eval Name" => ((k_here; k_dflt (refine name_fr (by with_reducible assumption) (by with_reducible assumption) ?_)))
  k_with "CompRest" => (refine Stop.intro ?_)
  k_with "CompEnd" => (refine Stop.intro ?_)
  k_with "k_all" => ((with_reducible assumption))
  k_with "exec Assign cons ListComp" => ((k_here; k_dflt (refine LCg.Assign_ListComp_U (F₀ := by k_asm) (by rfl) (by with_unfolding_all rfl) (by with_unfolding_all rfl) (by with_unfolding_all decide) (by with_unfolding_all rfl) (by with_unfolding_all decide) (by with_unfolding_all rfl) (by with_unfolding_all rfl) (by with_unfolding_all rfl) ?_)))
  k_with "CompSrc" => ((k_here; k_dflt (refine LCg.CompSrc.ledger (by rfl) (by k_asm) (by k_asm) (by k_mem) (by first | size_fits | exact Nat.le_of_ble_eq_true rfl) ?_; intro _)))
  k_with "eval ListComp" => ((k_here; k_dflt (refine LCg.ListComp_U (F₀ := by k_asm) (by with_unfolding_all rfl) (by with_unfolding_all decide) (by with_unfolding_all rfl) (by with_unfolding_all decide) (by with_unfolding_all rfl) ?_)))
  trivial
set_option maxHeartbeats 1000000 in
theorem law_ret {Q : Flow → Shared → Prop} {rest : Led} {Dr Wd : Addr} {nD nW : Nat} {wa : List Addr} {ws : List (Int × Int)} {d0 d1 d2 d3 d4 d5 d6 d7 d8 d9 d10 : Int} {t0 t1 t2 t3 t4 t5 t6 t7 t8 t9 t10 : Tok} (pl : Plain) (B : Below A₀ base outer h₀) (F : Fr h₀ L s.heap m) (X : (hd.heap_39 w.params).In h₀) (N : News h₀ L s.heap ((88, tabObj #[]) :: (100, tabObj #[]) :: rest)) (T : Top topProg LS mean mg mb h₀) (hdp : dp + 70 < recursionLimit) (_hu : un + 3100 < cLine)
    (cH : CodeHd base 92 88) (cH2 : CodeHd base 102 100) (hof8 : ∀ p ∈ rest, p.1 ≠ 88) (hof10 : ∀ p ∈ rest, p.1 ≠ 100) (hDr : (Dr, W.listOf #[Value.int d0 t0, Value.int d1 t1, Value.int d2 t2, Value.int d3 t3, Value.int d4 t4, Value.int d5 t5, Value.int d6 t6, Value.int d7 t7, Value.int d8 t8, Value.int d9 t9, Value.int d10 t10] nD) ∈ rest) (hm : m (Str.ofString "draws") = some (.ref Dr)) (hm2 : m (Str.ofString "words") = some (.ref Wd))
    (hW : (Wd, W.listOf (refs wa) nW) ∈ rest) (hws : WordsAt rest wa ws) (hw : ∀ x ∈ ws, WordOk x) (h8 : ws.length = 8)
    (hret : ∀ (ps1 ps2 : Array Value) (h' : Heap) (tk' : Nat), Fr h₀ L h' m → News h₀ L h' [(88, tabObj ps1), (100, tabObj ps2)] → Q (.ret (.bool true)) { s with heap := h', toks := tk' }) :
    wpAny (model PR w) (ktrTop dp un gd cn lawS L a ccd [] outer) (exec lw2 (envX cn lawS L a ccd [])) Q E s := by
  have hfill : Challenge.rw_mq0241_01 = Challenge.rw_mq0241_01 ∧ Mine.hd.heap_39 = Mine.hd.heap_39 := by (k_fill; exact ⟨rfl, rfl⟩)
  clear hfill
  (repeat (conv in lw2 => whnf))
  replace N := news_front N (.tail _ (.tail _ hDr))
  k_steps
  (rename News h₀ L _ _ => N1)
  (rename Addr => Sl)
  (rename (_ < _) ∧ _ => l1)
  unfold Stop
  refine compRest_ind (n := 3) (CI ((Sl, W.listOf #[Value.int d8 t8, Value.int d9 t9, Value.int d10 t10] 0) :: (Dr, W.listOf #[Value.int d0 t0, Value.int d1 t1, Value.int d2 t2, Value.int d3 t3, Value.int d4 t4, Value.int d5 t5, Value.int d6 t6, Value.int d7 t7, Value.int d8 t8, Value.int d9 t9, Value.int d10 t10] nD) :: (88, tabObj #[]) :: (100, tabObj #[]) :: rest)) ?_ ?_ 3 0 [] _ rfl ⟨[], [], rfl, rfl, rfl, (fun i t e => nomatch e), fun _ h => nomatch h⟩
  · intro i v ys nw hi hv hI I oI C oC D m₂ h tk E' hC hx F2 N2 off ne
    obtain ⟨d, t, rfl⟩ : ∃ d t, v = Value.int d t := ints3 hi hv
    clear N1
    k_steps
    (rename News h₀ L _ _ => N3)
    (rename Fr h₀ L _ _ => F3)
    (rename (_ < _) ∧ (_ < _) ∧ (_ < _) ∧ AllLt _ _ => l3)
    obtain ⟨ca, new, rfl, rfl, e1, hcs, fr⟩ := hI
    have l3m := allLt_mem l3.2.2.2
    unfold Stop
    refine comp_more (s₁ := { s with heap := h, toks := tk }) F3 N3 (allLt_mem (l := (I, oI) :: (C, oC) :: (D, lst (List.map Value.ref ca)) :: (new ++ _)) l3) off ?_ ?_
    · exact .inr ⟨_, .tail _ (List.mem_append_right _ (.head _)), rfl, _, rfl⟩
    refine CI.mk ⟨ca ++ [_], _ :: new, rfl, by rw [List.map_append]; rfl, by rw [List.length_append, e1]; rfl, ?_, ?_⟩
    · intro j t' eb
      rcases Nat.lt_or_ge j ca.length with hj | hj
      · rw [List.getElem?_append_left hj] at eb
        obtain ⟨o, q, a1, a2, a3⟩ := hcs j t' eb
        exact ⟨o, q, .tail _ a1, a2, a3⟩
      · rw [List.getElem?_append_right hj] at eb
        have hj0 : j = ca.length := by
          have := (List.getElem?_eq_some_iff.mp eb).1
          simp at this; lia
        subst hj0
        rw [Nat.sub_self] at eb
        simp at eb
        subst eb
        refine ⟨_, (16, d.fmod 17, (d.fdiv 17).fmod 17, (d.fdiv 289).fmod 17), .head _, ⟨_, _, _, _, _, rfl⟩, rfl, ?_, ?_, ?_⟩ <;> (simp only [Int.fmod_eq_emod_of_nonneg _ (show (0 : Int) ≤ 17 by decide)]; lia)
    · intro p hp q hq
      rcases List.mem_cons.mp hp with rfl | hp
      · exact l3m q (List.mem_append_right _ hq)
      · exact fr p hp q hq
  · intro ys nw hI
    obtain ⟨ca, new, rfl, rfl, e1, hcs, fr⟩ := hI
    intro D h tk F2 N2 o2
    rw [lst_refs rfl] at N2
    have o2m := off1_mem o2
    clear N1
    k_steps
    have N4 : News h₀ L h ((88, tabObj #[]) :: (100, tabObj #[]) :: ((D, W.listOf (refs ca) ca.length) :: (new ++ rest))) := fun p hp => N2 p (by
      simp only [List.mem_cons, List.mem_append] at hp ⊢
      rcases hp with h | h | h | h | h
      · exact .inr (.inr (.inr (.inr (.inl h))))
      · exact .inr (.inr (.inr (.inr (.inr (.inl h)))))
      · exact .inl h
      · exact .inr (.inl h)
      · exact .inr (.inr (.inr (.inr (.inr (.inr h))))))
    have i88 : (88, tabObj #[]) ∈ (Sl, W.listOf #[Value.int d8 t8, Value.int d9 t9, Value.int d10 t10] 0) :: (Dr, W.listOf #[Value.int d0 t0, Value.int d1 t1, Value.int d2 t2, Value.int d3 t3, Value.int d4 t4, Value.int d5 t5, Value.int d6 t6, Value.int d7 t7, Value.int d8 t8, Value.int d9 t9, Value.int d10 t10] nD) :: (88, tabObj #[]) :: (100, tabObj #[]) :: rest := .tail _ (.tail _ (.head _))
    have i100 : (100, tabObj #[]) ∈ (Sl, W.listOf #[Value.int d8 t8, Value.int d9 t9, Value.int d10 t10] 0) :: (Dr, W.listOf #[Value.int d0 t0, Value.int d1 t1, Value.int d2 t2, Value.int d3 t3, Value.int d4 t4, Value.int d5 t5, Value.int d6 t6, Value.int d7 t7, Value.int d8 t8, Value.int d9 t9, Value.int d10 t10] nD) :: (88, tabObj #[]) :: (100, tabObj #[]) :: rest := .tail _ (.tail _ (.tail _ (.head _)))
    have up : ∀ p ∈ rest, p ∈ (D, W.listOf (refs ca) ca.length) :: (new ++ rest) := fun p hp => .tail _ (List.mem_append_right _ hp)
    k_dflt (refine' c_agrees (rest := (D, W.listOf (refs ca) ca.length) :: (new ++ rest)) B F2 X N4 T ?hk ?hdp ?hu pl cH cH2 ?o8 ?o10 (up _ hW) (hws.mono up) hw h8 (.head _) (hcs.mono fun p hp => .tail _ (List.mem_append_left _ hp)) ?_; (case hk => with_unfolding_all rfl); (case hdp => lia); (case hu => lia))
    case o8 =>
      intro p hp
      rcases List.mem_cons.mp hp with rfl | hp
      · exact Ne.symm (o2m _ (List.mem_append_right _ i88))
      rcases List.mem_append.mp hp with hp | hp
      · exact Nat.ne_of_gt (fr p hp _ i88)
      · exact hof8 p hp
    case o10 =>
      intro p hp
      rcases List.mem_cons.mp hp with rfl | hp
      · exact Ne.symm (o2m _ (List.mem_append_right _ i100))
      rcases List.mem_append.mp hp with hp | hp
      · exact Nat.ne_of_gt (fr p hp _ i100)
      · exact hof10 p hp
    intro ps1 ps2 h' tk' F5 N5
    exact hret ps1 ps2 h' tk' F5 N5
end
end Mine
end
section
open PySem PySem.W PyProof.Rows PySem.Flt PySem.Calls PySem.Spec PyProof.Rows.LCg
set_option maxRecDepth 100000
namespace Mine
theorem rows44 : True := by
  w_top off
  k_with_none
  trivial
section
variable {w : World} {mean : ExcName → Option Value} {mg mb : Str → Option Value} {dp un : Nat} {gd : Option (List Code)} {cn : Str} {a : Addr} {ccd : Value} {outer : List Env} {A₀ : Around} {base h₀ : Heap} {L : Addr} {m : Str → Option Value} {s : Shared} {E : Value → Shared → Prop}
theorem rows43 : True := by
  k_with "eval Name" => ((k_here; k_dflt (refine name_fr (by with_reducible assumption) (by with_reducible assumption) ?_)))
  trivial
set_option maxHeartbeats 1000000 in
theorem law_body {Q : Flow → Shared → Prop} {sc : Addr} {vs : List Value} {ns : List Int} (pl : Plain) (B : Below A₀ base outer h₀) (F : Fr h₀ L s.heap m) (X : (hd.heap_39 w.params).In h₀) (N : News h₀ L s.heap [(88, tabObj #[]), (100, tabObj #[])]) (T : Top topProg LS mean mg mb h₀) (hdp : dp + 70 < recursionLimit) (_hu : un + 3100 < cLine)
    (cH : CodeHd base 92 88) (cH2 : CodeHd base 102 100) (hm : m (Str.ofString "script") = some (.ref sc)) (hl : h₀.IsList sc vs.toArray) (hi : IntsAre vs ns) (hlay : (PyData.list (List.map PyData.int ns)).layable0 = true) (hcond : ¬ (63 : Int) < (ns.length : Int))
    (hret : ∀ (m' : Str → Option Value) (ps1 ps2 : Array Value) (h' : Heap) (tk' : Nat), Fr h₀ L h' m' → News h₀ L h' [(88, tabObj ps1), (100, tabObj ps2)] → Q (.ret (.bool true)) { s with heap := h', toks := tk' }) :
    wpAny (model PR w) (ktrTop dp un gd cn lawS L a ccd [] outer) (execs [lw0, lw1, lw2] (envX cn lawS L a ccd [])) Q E s := by
  have hfill : Challenge.rw_mq0241_01 = Challenge.rw_mq0241_01 ∧ Mine.hd.heap_39 = Mine.hd.heap_39 := by (k_fill; exact ⟨rfl, rfl⟩)
  clear hfill
  refine wpAny_execs_cons ?_
  (repeat (conv in lw0 => whnf))
  k_steps
  k_dflt (refine' c_draws B F X N T ?hk ?hdp ?hu hl hi hlay hcond ?_; (case hk => with_unfolding_all rfl); (case hdp => lia); (case hu => lia))
  intro Dr nD d0 d1 d2 d3 d4 d5 d6 d7 d8 d9 d10 t0 t1 t2 t3 t4 t5 t6 t7 t8 t9 t10 h1 tk1 F1 N1 l1
  clear F N
  k_steps
  (rename News h₀ L _ _ => N2)
  (rename Fr h₀ L _ _ => F2)
  have j1 : (fun y => if y = Str.ofString "draws" then some (Value.ref Dr) else m y) (Str.ofString "draws") = some (.ref Dr) := if_pos rfl
  generalize (fun y => if y = Str.ofString "draws" then some (Value.ref Dr) else m y) = m1 at F2 j1
  refine law_words F2 X N2 T j1 ?_
  intro Wd n wa ws new h3 tk3 h8 hw hws hW hne F3 N3
  have q1 := set_same (v := .ref Wd) (y := Str.ofString "words") j1 (by decide)
  have q2 : (fun z => if z = Str.ofString "words" then some (Value.ref Wd) else m1 z) (Str.ofString "words") = some (.ref Wd) := if_pos rfl
  generalize (fun z => if z = Str.ofString "words" then some (Value.ref Wd) else m1 z) = m2 at F3 q1 q2
  have i88 : (88, tabObj #[]) ∈ [(88, tabObj #[]), (100, tabObj #[])] := .head _
  have i100 : (100, tabObj #[]) ∈ [(88, tabObj #[]), (100, tabObj #[])] := .tail _ (.head _)
  have off : ∀ x ∈ [(88, tabObj #[]), (100, tabObj #[])], ∀ p ∈ new ++ [(Dr, W.listOf #[Value.int d0 t0, Value.int d1 t1, Value.int d2 t2, Value.int d3 t3, Value.int d4 t4, Value.int d5 t5, Value.int d6 t6, Value.int d7 t7, Value.int d8 t8, Value.int d9 t9, Value.int d10 t10] nD)], p.1 ≠ x.1 := by
    intro x hx p hp
    rcases List.mem_append.mp hp with hp | hp
    · exact hne p hp x (.tail _ hx)
    · rw [List.mem_singleton.mp hp]
      exact Nat.ne_of_gt (l1 x hx)
  have N4 : News h₀ L h3 ((88, tabObj #[]) :: (100, tabObj #[]) :: (new ++ [(Dr, W.listOf #[Value.int d0 t0, Value.int d1 t1, Value.int d2 t2, Value.int d3 t3, Value.int d4 t4, Value.int d5 t5, Value.int d6 t6, Value.int d7 t7, Value.int d8 t8, Value.int d9 t9, Value.int d10 t10] nD)])) := fun p hp => N3 p (by
    simp only [List.mem_cons, List.mem_append, List.not_mem_nil, or_false] at hp ⊢
    rcases hp with h | h | h | h
    · exact .inr (.inr (.inl h))
    · exact .inr (.inr (.inr h))
    · exact .inl h
    · exact .inr (.inl h))
  refine wpAny_execs_cons (law_ret pl B F3 X N4 T hdp _hu cH cH2 (off _ i88) (off _ i100) (List.mem_append_right _ (.head _)) q1 q2 (List.mem_append_left _ hW) (hws.mono fun p hp => List.mem_append_left _ hp) hw h8 ?_)
  intro ps1 ps2 h' tk' F5 N5
  exact hret m2 ps1 ps2 h' tk' F5 N5
end
end Mine
end
section
open PySem PySem.W PyProof.Rows PySem.Flt PySem.Float64
set_option maxRecDepth 100000
namespace Mine
theorem rep (k : Nat) : ∀ q, q ≤ 2 ^ 53 → ∃ t, V t = q * 2 ^ k := by
  induction k with
  | zero => intro q h; exact ⟨0 * 2 ^ 52 + q, V_at h (.inr rfl)⟩
  | succ k ih =>
    intro q h
    by_cases h2 : 2 ^ 52 ≤ q
    · exact ⟨_, V_at h (.inl h2)⟩
    · obtain ⟨t, e⟩ := ih (2 * q) (by lia)
      exact ⟨t, by rw [e, Nat.pow_succ]; ac_rfl⟩
def IsFin (x : UInt64) : Prop := ∃ s m e, decode x = .fin s m e
theorem IsFin.isFinite {x : UInt64} (h : IsFin x) : Float64.isFinite x = true := by
  obtain ⟨s, m, e, h⟩ := h
  unfold Float64.isFinite; rw [h]
theorem right_fin {r : UInt64} {neg : Bool} {W D : Nat} (h : Right r neg W D) (hD : 0 < D) {k : Nat} (hk : k ≤ 60) (hW : W ≤ D * 2 ^ (1074 + k)) :
    ∃ v, IsFin r ∧ val r = sgn neg v ∧ (∀ q j, q ≤ 2 ^ 53 → dist W (D * v) ≤ dist W (D * (q * 2 ^ j))) := by
  obtain ⟨t, rfl, hle, hinf, hn⟩ := h
  have hlt : t < infMag := by
    refine Nat.lt_of_le_of_ne hle fun e => ?_
    have h1 := hinf.mp e
    have h2 : 2 * W ≤ D * (2 * 2 ^ 1134) := by
      have : W ≤ D * 2 ^ 1134 := Nat.le_trans hW (Nat.mul_le_mul_left _ (Nat.pow_le_pow_right (by decide) (by lia)))
      generalize (2 : Nat) ^ 1134 = z at *
      rw [Nat.mul_left_comm]; exact Nat.mul_le_mul_left 2 this
    have h3 := Nat.le_of_mul_le_mul_left (Nat.le_trans h1 h2) hD
    exact absurd h3 (by decide +kernel)
  obtain ⟨m, e, hd, hv⟩ := decode_pack neg hlt
  refine ⟨V t, ⟨_, _, _, hd⟩, val_pack neg hlt, fun q j hq => ?_⟩
  obtain ⟨t', e⟩ := rep j q hq
  rw [← e]
  exact (hn hlt t').1
theorem p53 (k : Nat) : 2 ^ (1074 + k) = 2 ^ 53 * 2 ^ (1021 + k) := by
  have e : 53 + (1021 + k) = 1074 + k := by lia
  rw [← Nat.pow_add, e]
theorem dist_floor (W B : Nat) (hB : 0 < B) : dist W (B * (W / B)) ≤ B := by
  have := Nat.div_add_mod W B
  have := Nat.mod_lt W hB
  unfold Float64.dist
  lia
theorem right_near {r : UInt64} {neg : Bool} {W D : Nat} (h : Right r neg W D) (hD : 0 < D) {k : Nat} (hk : k ≤ 60) (hW : W ≤ D * 2 ^ (1074 + k)) :
    ∃ v, IsFin r ∧ val r = sgn neg v ∧ dist W (D * v) ≤ D * 2 ^ (1021 + k) := by
  obtain ⟨v, h1, h2, h3⟩ := right_fin h hD hk hW
  refine ⟨v, h1, h2, ?_⟩
  have hB : 0 < D * 2 ^ (1021 + k) := Nat.mul_pos hD (Nat.two_pow_pos _)
  have e1 : 2 ^ (1074 + k) = 2 ^ 53 * 2 ^ (1021 + k) := p53 k
  have hq : W / (D * 2 ^ (1021 + k)) ≤ 2 ^ 53 := by
    refine Nat.div_le_of_le_mul ?_
    rw [e1] at hW
    rw [Nat.mul_assoc, Nat.mul_comm (2 ^ (1021 + k))]; exact hW
  refine Nat.le_trans (h3 _ (1021 + k) hq) ?_
  rw [show ∀ a b c : Nat, a * (b * c) = a * c * b from fun a b c => by rw [Nat.mul_comm b c, Nat.mul_assoc]]
  exact dist_floor W _ hB
theorem right_exact {r : UInt64} {neg : Bool} {W D : Nat} (h : Right r neg W D) (hD : 0 < D) {k : Nat} (hk : k ≤ 60) (hW : W ≤ D * 2 ^ (1074 + k)) {q j : Nat} (hq : q ≤ 2 ^ 53) (e : W = D * (q * 2 ^ j)) :
    IsFin r ∧ val r = sgn neg (q * 2 ^ j) := by
  obtain ⟨v, h1, h2, h3⟩ := right_fin h hD hk hW
  have := h3 q j hq
  rw [e] at this
  have e0 : dist (D * (q * 2 ^ j)) (D * (q * 2 ^ j)) = 0 := by unfold Float64.dist; lia
  rw [e0, dist_mul] at this
  have h4 : dist (q * 2 ^ j) v = 0 := by
    rcases Nat.mul_eq_zero.mp (Nat.le_zero.mp this) with h | h
    · lia
    · exact h
  have : v = q * 2 ^ j := by unfold Float64.dist at h4; lia
  exact ⟨h1, by rw [h2, this]⟩
end Mine
end
section
open PySem PySem.W PyProof.Rows PySem.Flt PySem.Float64
set_option maxRecDepth 100000
namespace Mine
theorem val_zero (b : Bool) : IsFin (zero b) ∧ val (zero b) = 0 := by
  have h : (0 : Nat) < infMag := by decide
  obtain ⟨m, e, hd, hv⟩ := decode_pack b h
  refine ⟨⟨_, _, _, hd⟩, ?_⟩
  show val (pack b 0) = 0
  rw [val_pack b h, V_zero]
  cases b <;> rfl
theorem sgn_near {S : Int} {v B : Nat} (h : dist S.natAbs v ≤ B) : (sgn (decide (S < 0)) v - S).natAbs ≤ B := by
  unfold Float64.dist at h
  unfold sgn
  by_cases h0 : S < 0
  · rw [decide_eq_true h0]; simp only [if_true]; omega
  · rw [decide_eq_false h0]; simp only [Bool.false_eq_true, if_false]; omega
theorem sgn_exact {S : Int} {v : Nat} (h : S.natAbs = v) : sgn (decide (S < 0)) v = S := by
  unfold sgn
  by_cases h0 : S < 0
  · rw [decide_eq_true h0]; simp only [if_true]; omega
  · rw [decide_eq_false h0]; simp only [Bool.false_eq_true, if_false]; omega
theorem add_int {x y : UInt64} (hx : IsFin x) (hy : IsFin y) {k : Nat} (hk : k ≤ 60) (hb : (val x + val y).natAbs ≤ 2 ^ (1074 + k)) :
    IsFin (add x y) ∧ (val (add x y) - (val x + val y)).natAbs ≤ 2 ^ (1021 + k) := by
  obtain ⟨_, _, _, hx⟩ := hx
  obtain ⟨_, _, _, hy⟩ := hy
  obtain ⟨h0, h1⟩ := add_right hx hy
  by_cases h : val x + val y = 0
  · rw [h0 h, h]
    obtain ⟨a, b⟩ := val_zero (Bool.and _ _)
    exact ⟨a, by rw [b]; exact Nat.zero_le _⟩
  · obtain ⟨v, f, e, d⟩ := right_near (h1 h) (by decide) hk (by rw [Nat.one_mul]; exact hb)
    rw [Nat.one_mul, Nat.one_mul] at d
    exact ⟨f, by rw [e]; exact sgn_near d⟩
theorem sub_int {x y : UInt64} (hx : IsFin x) (hy : IsFin y) {k : Nat} (hk : k ≤ 60) (hb : (val x - val y).natAbs ≤ 2 ^ (1074 + k)) :
    IsFin (sub x y) ∧ (val (sub x y) - (val x - val y)).natAbs ≤ 2 ^ (1021 + k) := by
  obtain ⟨_, _, _, hx⟩ := hx
  obtain ⟨_, _, _, hy⟩ := hy
  obtain ⟨h0, h1⟩ := sub_right hx hy
  by_cases h : val x - val y = 0
  · rw [h0 h, h]
    obtain ⟨a, b⟩ := val_zero (Bool.and _ _)
    exact ⟨a, by rw [b]; exact Nat.zero_le _⟩
  · obtain ⟨v, f, e, d⟩ := right_near (h1 h) (by decide) hk (by rw [Nat.one_mul]; exact hb)
    rw [Nat.one_mul, Nat.one_mul] at d
    exact ⟨f, by rw [e]; exact sgn_near d⟩
theorem add_int_exact {x y : UInt64} (hx : IsFin x) (hy : IsFin y) {k : Nat} (hk : k ≤ 60) (hb : (val x + val y).natAbs ≤ 2 ^ (1074 + k)) {q j : Nat} (hq : q ≤ 2 ^ 53) (e : (val x + val y).natAbs = q * 2 ^ j) :
    IsFin (add x y) ∧ val (add x y) = val x + val y := by
  obtain ⟨_, _, _, hx⟩ := hx
  obtain ⟨_, _, _, hy⟩ := hy
  obtain ⟨h0, h1⟩ := add_right hx hy
  by_cases h : val x + val y = 0
  · rw [h0 h, h]
    exact val_zero (Bool.and _ _)
  · obtain ⟨f, e'⟩ := right_exact (h1 h) (by decide) hk (by rw [Nat.one_mul]; exact hb) hq (by rw [Nat.one_mul]; exact e)
    exact ⟨f, by rw [e']; exact sgn_exact e⟩
theorem sub_int_exact {x y : UInt64} (hx : IsFin x) (hy : IsFin y) {k : Nat} (hk : k ≤ 60) (hb : (val x - val y).natAbs ≤ 2 ^ (1074 + k)) {q j : Nat} (hq : q ≤ 2 ^ 53) (e : (val x - val y).natAbs = q * 2 ^ j) :
    IsFin (sub x y) ∧ val (sub x y) = val x - val y := by
  obtain ⟨_, _, _, hx⟩ := hx
  obtain ⟨_, _, _, hy⟩ := hy
  obtain ⟨h0, h1⟩ := sub_right hx hy
  by_cases h : val x - val y = 0
  · rw [h0 h, h]
    exact val_zero (Bool.and _ _)
  · obtain ⟨f, e'⟩ := right_exact (h1 h) (by decide) hk (by rw [Nat.one_mul]; exact hb) hq (by rw [Nat.one_mul]; exact e)
    exact ⟨f, by rw [e']; exact sgn_exact e⟩
theorem sgn_sgn (a b : Bool) (m k : Nat) : sgn a m * sgn b k = sgn (a != b) (m * k) := by
  cases a <;> cases b <;> simp [sgn, Int.neg_mul, Int.mul_neg]
theorem sgn_dist (a : Bool) (W D v B : Nat) (h : dist W (D * v) ≤ B) : (sgn a W - (D : Int) * sgn a v).natAbs ≤ B := by
  unfold Float64.dist at h
  generalize hp : D * v = p at h
  have : (D : Int) * (v : Int) = (p : Int) := by rw [← hp, Int.natCast_mul]
  cases a
  · simp only [sgn, Bool.false_eq_true, if_false]; rw [this]; omega
  · simp only [sgn, if_true]; rw [Int.mul_neg, this]; omega
theorem mul_int {x y : UInt64} (hx : IsFin x) (hy : IsFin y) {k : Nat} (hk : k ≤ 60) (hb : (val x).natAbs * (val y).natAbs ≤ 2 ^ 1074 * 2 ^ (1074 + k)) :
    IsFin (mul x y) ∧ (val x * val y - ((2 ^ 1074 : Nat) : Int) * val (mul x y)).natAbs ≤ 2 ^ 1074 * 2 ^ (1021 + k) := by
  obtain ⟨a, m, e, hx⟩ := hx
  obtain ⟨b, n, f, hy⟩ := hy
  obtain ⟨v, f', e', d⟩ := right_near (mul_right hx hy) (Nat.two_pow_pos _) hk hb
  refine ⟨f', ?_⟩
  rw [e', val_eq hx, val_eq hy, sgn_sgn]
  rw [val_natAbs hx, val_natAbs hy] at d
  exact sgn_dist _ _ _ _ _ d
theorem mul_int_exact {x y : UInt64} (hx : IsFin x) (hy : IsFin y) {k : Nat} (hk : k ≤ 60) (hb : (val x).natAbs * (val y).natAbs ≤ 2 ^ 1074 * 2 ^ (1074 + k)) {q j : Nat} (hq : q ≤ 2 ^ 53) (e : (val x).natAbs * (val y).natAbs = 2 ^ 1074 * (q * 2 ^ j)) :
    IsFin (mul x y) ∧ val x * val y = ((2 ^ 1074 : Nat) : Int) * val (mul x y) := by
  obtain ⟨a, m, e1, hx⟩ := hx
  obtain ⟨b, n, f, hy⟩ := hy
  obtain ⟨f', e'⟩ := right_exact (mul_right hx hy) (Nat.two_pow_pos _) hk hb hq e
  refine ⟨f', ?_⟩
  rw [e', val_eq hx, val_eq hy, sgn_sgn]
  rw [val_natAbs hx, val_natAbs hy] at e
  rw [e, Nat.mul_comm (2 ^ 1074), sgn_mul, Int.mul_comm]
theorem div_int {x y : UInt64} (hx : IsFin x) (hy : IsFin y) (h0 : val y ≠ 0) {k : Nat} (hk : k ≤ 60) (hb : (val x).natAbs * 2 ^ 1074 ≤ (val y).natAbs * 2 ^ (1074 + k)) :
    IsFin (div x y) ∧ (val x * ((2 ^ 1074 : Nat) : Int) - val y * val (div x y)).natAbs ≤ (val y).natAbs * 2 ^ (1021 + k) := by
  obtain ⟨a, m, e, hx⟩ := hx
  obtain ⟨b, n, f, hy⟩ := hy
  have hn : n ≠ 0 := fun h => h0 (by rw [val_eq hy, h]; cases b <;> simp [sgn])
  obtain ⟨v, f', e', d⟩ := right_near (div_right hx hy hn) (by omega) hk hb
  refine ⟨f', ?_⟩
  have hs : ∀ c : Nat, sgn a ((val x).natAbs * c) = val x * (c : Int) := fun c => by rw [sgn_mul, val_natAbs hx, val_eq hx]
  have e2 : val y * sgn (a != b) v = ((val y).natAbs : Int) * sgn a v := by
    rw [val_natAbs hy, val_eq hy, sgn_sgn]
    have : (n * 2 ^ (f + 1074).toNat : Nat) * v = (n * 2 ^ (f + 1074).toNat) * v := rfl
    cases a <;> cases b <;> simp [sgn, Int.mul_neg]
  rw [e', e2, ← hs]
  exact sgn_dist _ _ _ _ _ d
end Mine
end
section
open PySem PySem.W PyProof.Rows PySem.Flt PySem.Float64
set_option maxRecDepth 100000
namespace Mine
theorem inv_pos' {K : Rat} (hK : 0 < K) : 0 < K⁻¹ := Rat.inv_pos.mpr hK
theorem div_le' {a K B : Rat} (hK : 0 < K) (h : a ≤ B * K) : a / K ≤ B := by
  have h1 : K * K⁻¹ = 1 := Rat.mul_inv_cancel K (Rat.ne_of_gt hK)
  have hi := inv_pos' hK
  rw [Rat.div_def]
  generalize K⁻¹ = I at *
  have h3 := Rat.mul_le_mul_of_nonneg_right h (Rat.le_of_lt hi)
  rw [Rat.mul_assoc, h1, Rat.mul_one] at h3
  exact h3
theorem le_div' {a K B : Rat} (hK : 0 < K) (h : B * K ≤ a) : B ≤ a / K := by
  have h1 : K * K⁻¹ = 1 := Rat.mul_inv_cancel K (Rat.ne_of_gt hK)
  have hi := inv_pos' hK
  rw [Rat.div_def]
  generalize K⁻¹ = I at *
  have h3 := Rat.mul_le_mul_of_nonneg_right h (Rat.le_of_lt hi)
  rw [Rat.mul_assoc, h1, Rat.mul_one] at h3
  exact h3
theorem div_mul' {a K : Rat} (hK : 0 < K) : a / K * K = a := Rat.div_mul_cancel (Rat.ne_of_gt hK)
def two (k : Nat) : Rat := ((2 ^ k : Nat) : Rat)
theorem two_pos (k : Nat) : 0 < two k := by
  have : 0 < (2 : Nat) ^ k := Nat.two_pow_pos k
  unfold two
  exact_mod_cast this
theorem two_add (a b : Nat) : two (a + b) = two a * two b := by
  unfold two
  rw [Nat.pow_add, Rat.natCast_mul]
/-- the value of a finite float -/
def fv (x : UInt64) : Rat := ((val x : Int) : Rat) / two 1074
def er (k : Nat) : Rat := two k / two 53
theorem er_mul (k : Nat) : er k * two 1074 = two (1021 + k) := by
  have e : two 1074 = two 53 * two 1021 := two_add 53 1021
  have h := div_mul' (a := two k) (two_pos 53)
  unfold er
  rw [e, two_add]
  grind
def Cl (e x y : Rat) : Prop := x - y ≤ e ∧ y - x ≤ e
theorem fv_mul (x : UInt64) : fv x * two 1074 = ((val x : Int) : Rat) := div_mul' (two_pos _)
/-- bounds from the rationals to the integers -/
theorem nat_of_rat {z : Int} {k n : Nat} (h1 : ((z : Int) : Rat) ≤ two k * two n) (h2 : -(two k * two n) ≤ ((z : Int) : Rat)) : z.natAbs ≤ 2 ^ (n + k) := by
  have e : two k * two n = (((2 ^ (n + k) : Nat) : Int) : Rat) := by
    rw [Rat.intCast_natCast, Nat.add_comm, ← two_add]; rfl
  rw [e] at h1 h2
  rw [← Rat.intCast_neg] at h2
  have g1 := Rat.intCast_le_intCast.mp h1
  have g2 := Rat.intCast_le_intCast.mp h2
  generalize 2 ^ (n + k) = B at *
  omega
theorem rat_of_nat {z : Int} {n : Nat} (h : z.natAbs ≤ 2 ^ n) : ((z : Int) : Rat) ≤ two n ∧ -(two n) ≤ ((z : Int) : Rat) := by
  have e : two n = (((2 ^ n : Nat) : Int) : Rat) := by rw [Rat.intCast_natCast]; rfl
  rw [e, ← Rat.intCast_neg]
  generalize 2 ^ n = B at *
  exact ⟨Rat.intCast_le_intCast.mpr (by omega), Rat.intCast_le_intCast.mpr (by omega)⟩
theorem cl_of_int {r : UInt64} {z : Int} {q : Rat} {k : Nat} (hq : q * two 1074 = ((z : Int) : Rat)) (h : (val r - z).natAbs ≤ 2 ^ (1021 + k)) : Cl (er k) (fv r) q := by
  obtain ⟨h1, h2⟩ := rat_of_nat h
  rw [Rat.intCast_sub, ← hq, ← fv_mul, ← er_mul] at h1 h2
  have hK := two_pos 1074
  constructor
  · refine Rat.le_of_mul_le_mul_right (c := two 1074) ?_ hK
    grind
  · refine Rat.le_of_mul_le_mul_right (c := two 1074) ?_ hK
    grind
section
variable {x y : UInt64} (hx : IsFin x) (hy : IsFin y) {k : Nat} (hk : k ≤ 60)
include hx hy hk
theorem add_cl (h1 : fv x + fv y ≤ two k) (h2 : -(two k) ≤ fv x + fv y) : IsFin (add x y) ∧ Cl (er k) (fv (add x y)) (fv x + fv y) := by
  have hK := two_pos 1074
  have e : (fv x + fv y) * two 1074 = ((val x + val y : Int) : Rat) := by
    rw [Rat.intCast_add, ← fv_mul, ← fv_mul]; grind
  have g1 := Rat.mul_le_mul_of_nonneg_right h1 (Rat.le_of_lt hK)
  have g2 := Rat.mul_le_mul_of_nonneg_right h2 (Rat.le_of_lt hK)
  rw [e] at g1 g2
  obtain ⟨f, g⟩ := add_int hx hy hk (nat_of_rat g1 (by grind))
  exact ⟨f, cl_of_int e g⟩
theorem sub_cl (h1 : fv x - fv y ≤ two k) (h2 : -(two k) ≤ fv x - fv y) : IsFin (sub x y) ∧ Cl (er k) (fv (sub x y)) (fv x - fv y) := by
  have hK := two_pos 1074
  have e : (fv x - fv y) * two 1074 = ((val x - val y : Int) : Rat) := by
    rw [Rat.intCast_sub, ← fv_mul, ← fv_mul]; grind
  have g1 := Rat.mul_le_mul_of_nonneg_right h1 (Rat.le_of_lt hK)
  have g2 := Rat.mul_le_mul_of_nonneg_right h2 (Rat.le_of_lt hK)
  rw [e] at g1 g2
  obtain ⟨f, g⟩ := sub_int hx hy hk (nat_of_rat g1 (by grind))
  exact ⟨f, cl_of_int e g⟩
theorem mul_cl (h1 : fv x * fv y ≤ two k) (h2 : -(two k) ≤ fv x * fv y) : IsFin (mul x y) ∧ Cl (er k) (fv (mul x y)) (fv x * fv y) := by
  have hK := two_pos 1074
  have hKK := Rat.mul_pos hK hK
  have e : (fv x * fv y) * (two 1074 * two 1074) = ((val x * val y : Int) : Rat) := by
    rw [Rat.intCast_mul, ← fv_mul, ← fv_mul]; grind
  have g1 := Rat.mul_le_mul_of_nonneg_right h1 (Rat.le_of_lt hKK)
  have g2 := Rat.mul_le_mul_of_nonneg_right h2 (Rat.le_of_lt hKK)
  rw [e] at g1 g2
  rw [← two_add] at g1 g2
  have b := nat_of_rat (z := val x * val y) (k := k) (n := 1074 + 1074) g1 (by grind)
  rw [Int.natAbs_mul] at b
  obtain ⟨f, g⟩ := mul_int hx hy hk (by rw [← Nat.pow_add]; rw [Nat.add_assoc] at b; exact b)
  refine ⟨f, ?_⟩
  rw [← Nat.pow_add] at g
  obtain ⟨i1, i2⟩ := rat_of_nat g
  have eK : (((2 ^ 1074 : Nat) : Int) : Rat) = two 1074 := by rw [Rat.intCast_natCast]; rfl
  rw [Rat.intCast_sub, ← e, Rat.intCast_mul, eK, ← fv_mul, two_add, ← er_mul] at i1 i2
  constructor
  · refine Rat.le_of_mul_le_mul_right (c := two 1074 * two 1074) ?_ hKK
    grind
  · refine Rat.le_of_mul_le_mul_right (c := two 1074 * two 1074) ?_ hKK
    grind
end
end Mine
end
section
open PySem PySem.W PyProof.Rows PySem.Flt PySem.Float64
set_option maxRecDepth 100000
namespace Mine
theorem two_int (n : Nat) : (((2 ^ n : Nat) : Int) : Rat) = two n := by rw [Rat.intCast_natCast]; rfl
theorem div_cl {x y : UInt64} (hx : IsFin x) (hy : IsFin y) {k : Nat} (hk : k ≤ 60) (h0 : 0 < fv y) (h1 : fv x ≤ two k * fv y) (h2 : -(two k * fv y) ≤ fv x) : IsFin (div x y) ∧ Cl (er k) (fv (div x y)) (fv x / fv y) := by
  have hK := two_pos 1074
  have hKK := Rat.mul_pos hK hK
  have eX := fv_mul x
  have eY := fv_mul y
  have pY : 0 < val y := by
    have := Rat.mul_pos h0 hK
    rw [eY, show (0 : Rat) = ((0 : Int) : Rat) from rfl] at this
    exact Rat.intCast_lt_intCast.mp this
  have b1 : val x ≤ ((2 ^ k : Nat) : Int) * val y := by
    refine Rat.intCast_le_intCast.mp ?_
    rw [Rat.intCast_mul, two_int, ← eX, ← eY]
    have := Rat.mul_le_mul_of_nonneg_right h1 (Rat.le_of_lt hK)
    grind
  have b2 : -(((2 ^ k : Nat) : Int) * val y) ≤ val x := by
    refine Rat.intCast_le_intCast.mp ?_
    rw [Rat.intCast_neg, Rat.intCast_mul, two_int, ← eX, ← eY]
    have := Rat.mul_le_mul_of_nonneg_right h2 (Rat.le_of_lt hK)
    grind
  have b3 : (val x).natAbs ≤ (val y).natAbs * 2 ^ k := by
    have e : (((val y).natAbs * 2 ^ k : Nat) : Int) = ((2 ^ k : Nat) : Int) * val y := by
      rw [Int.natCast_mul, Int.natAbs_of_nonneg (Int.le_of_lt pY), Int.mul_comm]
    generalize (val y).natAbs * 2 ^ k = B at *
    generalize ((2 ^ k : Nat) : Int) * val y = C at *
    omega
  obtain ⟨f, g⟩ := div_int hx hy (Int.ne_of_gt pY) hk (by
    rw [Nat.pow_add, Nat.mul_left_comm, Nat.mul_comm]
    exact Nat.mul_le_mul_left _ b3)
  refine ⟨f, ?_⟩
  generalize div x y = r at *
  have eR := fv_mul r
  have eB : (((val y).natAbs * 2 ^ (1021 + k) : Nat) : Int) = val y * ((2 ^ (1021 + k) : Nat) : Int) := by
    rw [Int.natCast_mul, Int.natAbs_of_nonneg (Int.le_of_lt pY)]
  have c1 : val x * ((2 ^ 1074 : Nat) : Int) - val y * val r ≤ val y * ((2 ^ (1021 + k) : Nat) : Int) := by
    rw [← eB]; exact Int.le_trans Int.le_natAbs (Int.ofNat_le.mpr g)
  have c2 : -(val y * ((2 ^ (1021 + k) : Nat) : Int)) ≤ val x * ((2 ^ 1074 : Nat) : Int) - val y * val r := by
    rw [← eB]
    have := Int.ofNat_le.mpr g
    generalize val x * ((2 ^ 1074 : Nat) : Int) - val y * val r = z at *
    generalize (((val y).natAbs * 2 ^ (1021 + k) : Nat) : Int) = B at *
    omega
  have d1 := Rat.intCast_le_intCast.mpr c1
  have d2 := Rat.intCast_le_intCast.mpr c2
  rw [Rat.intCast_neg] at d2
  rw [Rat.intCast_sub, Rat.intCast_mul, Rat.intCast_mul, Rat.intCast_mul, two_int, two_int, ← eX, ← eY, ← eR, ← er_mul] at d1 d2
  have e1 : fv x - fv y * fv r ≤ fv y * er k := by
    refine Rat.le_of_mul_le_mul_right (c := two 1074 * two 1074) ?_ hKK
    grind
  have e2 : -(fv y * er k) ≤ fv x - fv y * fv r := by
    refine Rat.le_of_mul_le_mul_right (c := two 1074 * two 1074) ?_ hKK
    grind
  constructor
  · have := le_div' (a := fv x) (B := fv r - er k) h0 (by grind)
    grind
  · have := div_le' (a := fv x) (B := er k + fv r) h0 (by grind)
    grind
/-- exact operations: the values are whole numbers of 2^-24 -/
def G (n : Int) : Rat := ((n : Int) : Rat) / two 24
theorem G_mul (n : Int) : G n * two 24 = ((n : Int) : Rat) := div_mul' (two_pos _)
def IsG (x : UInt64) (n : Int) : Prop := IsFin x ∧ val x = n * ((2 ^ 1050 : Nat) : Int)
theorem IsG.fv {x : UInt64} {n : Int} (h : IsG x n) : fv x = G n := by
  have e : two 1074 = two 1050 * two 24 := two_add 1050 24
  have h1 := fv_mul x
  rw [h.2, Rat.intCast_mul, two_int, ← G_mul, e] at h1
  have hK := Rat.mul_pos (two_pos 1050) (two_pos 24)
  have : Mine.fv x * (two 1050 * two 24) = G n * (two 1050 * two 24) := by grind
  refine Rat.le_antisymm (Rat.le_of_mul_le_mul_right (c := two 1050 * two 24) (by grind) hK) (Rat.le_of_mul_le_mul_right (c := two 1050 * two 24) (by grind) hK)
theorem p60 : 2 ^ (1074 + 26) = 2 ^ 50 * 2 ^ 1050 := by rw [← Nat.pow_add]
theorem IsG.add {x y : UInt64} {n m : Int} (hx : IsG x n) (hy : IsG y m) (h : (n + m).natAbs ≤ 2 ^ 50) : IsG (Float64.add x y) (n + m) := by
  have e : val x + val y = (n + m) * ((2 ^ 1050 : Nat) : Int) := by rw [hx.2, hy.2, Int.add_mul]
  have e2 : (val x + val y).natAbs = (n + m).natAbs * 2 ^ 1050 := by rw [e, Int.natAbs_mul, Int.natAbs_natCast]
  obtain ⟨f, g⟩ := add_int_exact hx.1 hy.1 (k := 26) (by decide) (by rw [e2, p60]; exact Nat.mul_le_mul_right _ h) (Nat.le_trans h (by decide)) e2
  exact ⟨f, by rw [g, e]⟩
theorem IsG.sub {x y : UInt64} {n m : Int} (hx : IsG x n) (hy : IsG y m) (h : (n - m).natAbs ≤ 2 ^ 50) : IsG (Float64.sub x y) (n - m) := by
  have e : val x - val y = (n - m) * ((2 ^ 1050 : Nat) : Int) := by rw [hx.2, hy.2, Int.sub_mul]
  have e2 : (val x - val y).natAbs = (n - m).natAbs * 2 ^ 1050 := by rw [e, Int.natAbs_mul, Int.natAbs_natCast]
  obtain ⟨f, g⟩ := sub_int_exact hx.1 hy.1 (k := 26) (by decide) (by rw [e2, p60]; exact Nat.mul_le_mul_right _ h) (Nat.le_trans h (by decide)) e2
  exact ⟨f, by rw [g, e]⟩
end Mine
end
section
open PySem PySem.W PyProof.Rows PySem.Flt PySem.Float64
set_option maxRecDepth 100000
namespace Mine
theorem p74 : 2 ^ 1074 = 2 ^ 24 * 2 ^ 1050 := by rw [← Nat.pow_add]
theorem ofInt_G {n : Int} (h : n.natAbs ≤ 2 ^ 26) : IsG (ofInt n) (n * ((2 ^ 24 : Nat) : Int)) := by
  have e : n.natAbs * 2 ^ 1074 = 1 * ((n.natAbs * 2 ^ 24) * 2 ^ 1050) := by rw [Nat.one_mul, p74, Nat.mul_assoc]
  obtain ⟨f, g⟩ := right_exact (ofInt_right n) (by decide) (k := 26) (by decide) (by rw [Nat.one_mul, Nat.pow_add, Nat.mul_comm]; exact Nat.mul_le_mul_left _ h) (q := n.natAbs * 2 ^ 24) (j := 1050) (Nat.le_trans (Nat.mul_le_mul_right _ h) (by decide)) e
  refine ⟨f, ?_⟩
  rw [g, sgn_mul, sgn_mul, sgn_exact (S := n) rfl]
theorem kdiv_G {x P c : Int} (h0 : 0 ≤ x) (h1 : x ≤ P) (hP : 0 < P) (hc0 : 0 ≤ c) (hc : c * P = ((2 ^ 24 : Nat) : Int)) : IsG (kdiv (4 * x) (4 * P)) (x * c) := by
  obtain ⟨X, rfl⟩ := Int.eq_ofNat_of_zero_le h0
  obtain ⟨Q, rfl⟩ := Int.eq_ofNat_of_zero_le (Int.le_of_lt hP)
  obtain ⟨C, rfl⟩ := Int.eq_ofNat_of_zero_le hc0
  have hc' : C * Q = 2 ^ 24 := by exact_mod_cast hc
  have hQ : 0 < Q := by exact_mod_cast hP
  have hX : X ≤ Q := by exact_mod_cast h1
  have e1 : (4 * (X : Int)).natAbs = 4 * X := by lia
  have e2 : (4 * (Q : Int)).natAbs = 4 * Q := by lia
  have e3 : (decide (4 * (X : Int) < 0) != decide (4 * (Q : Int) < 0)) = false := by
    rw [decide_eq_false (by lia), decide_eq_false (by lia)]; rfl
  unfold kdiv
  rw [e1, e2, e3]
  have hb : X * C ≤ 2 ^ 24 := by rw [← hc', Nat.mul_comm C]; exact Nat.mul_le_mul_right _ hX
  have e : 4 * X * 2 ^ 1074 = 4 * Q * ((X * C) * 2 ^ 1050) := by
    rw [p74, ← hc']
    generalize 2 ^ 1050 = Z
    rw [Nat.mul_assoc 4 X, Nat.mul_assoc 4 Q]
    congr 1
    ac_rfl
  have hR := ofFrac_right (neg := false) (n := 4 * X) (d := 4 * Q) (W := 4 * X * 2 ^ 1074) (D := 4 * Q) (by lia) rfl (by lia)
  obtain ⟨f, g⟩ := right_exact hR (by lia) (k := 26) (by decide) (Nat.mul_le_mul (by lia) (Nat.pow_le_pow_right (by decide) (by decide))) (q := X * C) (j := 1050) (Nat.le_trans hb (by decide)) e
  refine ⟨f, ?_⟩
  rw [g]
  show (((X * C) * 2 ^ 1050 : Nat) : Int) = _
  push_cast
  rfl
/-- a written float near a written fraction -/
theorem cl_of_frac {c : UInt64} {a b : Int} {k : Nat} (hb : 0 < b) (h : (b * val c - a * ((2 ^ 1074 : Nat) : Int)).natAbs ≤ b.natAbs * 2 ^ (1021 + k)) : Cl (er k) (fv c) ((a : Rat) / (b : Rat)) := by
  have hK := two_pos 1074
  have eC := fv_mul c
  have hb' : (0 : Rat) < ((b : Int) : Rat) := by rw [show (0 : Rat) = ((0 : Int) : Rat) from rfl]; exact Rat.intCast_lt_intCast.mpr hb
  have eB : ((b.natAbs * 2 ^ (1021 + k) : Nat) : Int) = b * ((2 ^ (1021 + k) : Nat) : Int) := by rw [Int.natCast_mul, Int.natAbs_of_nonneg (Int.le_of_lt hb)]
  have g := Int.ofNat_le.mpr h
  rw [eB] at g
  have c1 : b * val c - a * ((2 ^ 1074 : Nat) : Int) ≤ b * ((2 ^ (1021 + k) : Nat) : Int) := Int.le_trans Int.le_natAbs g
  have c2 : -(b * ((2 ^ (1021 + k) : Nat) : Int)) ≤ b * val c - a * ((2 ^ 1074 : Nat) : Int) := by
    generalize b * val c - a * ((2 ^ 1074 : Nat) : Int) = z at *
    generalize b * ((2 ^ (1021 + k) : Nat) : Int) = B at *
    lia
  have d1 := Rat.intCast_le_intCast.mpr c1
  have d2 := Rat.intCast_le_intCast.mpr c2
  rw [Rat.intCast_neg] at d2
  rw [Rat.intCast_sub, Rat.intCast_mul, Rat.intCast_mul, Rat.intCast_mul, two_int, two_int, ← eC, ← er_mul] at d1 d2
  have e1 : b * fv c - a ≤ b * er k := by
    refine Rat.le_of_mul_le_mul_right (c := two 1074) ?_ hK
    grind
  have e2 : -(b * er k) ≤ b * fv c - a := by
    refine Rat.le_of_mul_le_mul_right (c := two 1074) ?_ hK
    grind
  constructor
  · have := le_div' (a := (a : Rat)) (B := fv c - er k) hb' (by grind)
    grind
  · have := div_le' (a := (a : Rat)) (B := er k + fv c) hb' (by grind)
    grind
theorem kdiv_cl {k n : Int} (h0 : 0 ≤ k) (h1 : k ≤ n) (hn : 0 < n) : IsFin (kdiv k n) ∧ Cl (er 0) (fv (kdiv k n)) ((k : Rat) / (n : Rat)) := by
  obtain ⟨X, rfl⟩ := Int.eq_ofNat_of_zero_le h0
  obtain ⟨Q, rfl⟩ := Int.eq_ofNat_of_zero_le (Int.le_of_lt hn)
  have hQ : 0 < Q := by exact_mod_cast hn
  have hX : X ≤ Q := by exact_mod_cast h1
  have e3 : (decide ((X : Int) < 0) != decide ((Q : Int) < 0)) = false := by
    rw [decide_eq_false (by lia), decide_eq_false (by lia)]; rfl
  have ek : kdiv (X : Int) (Q : Int) = ofFrac false X Q := by
    unfold kdiv
    rw [e3, Int.natAbs_natCast, Int.natAbs_natCast]
  have hR := ofFrac_right (neg := false) (n := X) (d := Q) (W := X * 2 ^ 1074) (D := Q) hQ rfl hQ
  obtain ⟨v, f, g, d⟩ := right_near hR hQ (k := 0) (by decide) (Nat.mul_le_mul_right _ hX)
  rw [ek]
  refine ⟨f, cl_of_frac hn ?_⟩
  rw [g]
  show ((Q : Int) * (v : Int) - (X : Int) * ((2 ^ 1074 : Nat) : Int)).natAbs ≤ _
  rw [← Int.natCast_mul, ← Int.natCast_mul, Int.natAbs_natCast]
  unfold Float64.dist at d
  generalize Q * 2 ^ (1021 + 0) = B at *
  generalize Q * v = C at *
  generalize X * 2 ^ 1074 = D at *
  lia
theorem fin_of {c : UInt64} (h : Float64.isFinite c = true) : IsFin c := by
  unfold Float64.isFinite at h
  cases e : decode c with
  | nan => rw [e] at h; cases h
  | inf _ => rw [e] at h; cases h
  | fin s m x => exact ⟨s, m, x, e⟩
theorem G_0 : IsG 0 0 := ⟨fin_of (by decide +kernel), by decide +kernel⟩
theorem G_1 : IsG 4607182418800017408 16777216 := ⟨fin_of (by decide +kernel), by decide +kernel⟩
theorem G_2 : IsG 4611686018427387904 33554432 := ⟨fin_of (by decide +kernel), by decide +kernel⟩
theorem G_4 : IsG 4616189618054758400 67108864 := ⟨fin_of (by decide +kernel), by decide +kernel⟩
theorem G_6 : IsG 4618441417868443648 100663296 := ⟨fin_of (by decide +kernel), by decide +kernel⟩
theorem G_h : IsG 4602678819172646912 8388608 := ⟨fin_of (by decide +kernel), by decide +kernel⟩
end Mine
end
section
open PySem PySem.W PyProof.Rows PySem.Flt PySem.Float64
set_option maxRecDepth 100000
namespace Mine
theorem fv_lt {x y : UInt64} : fv x < fv y ↔ val x < val y := by
  have hK := two_pos 1074
  have ex := fv_mul x
  have ey := fv_mul y
  constructor
  · intro h
    have := Rat.mul_lt_mul_of_pos_right h hK
    rw [ex, ey] at this
    exact Rat.intCast_lt_intCast.mp this
  · intro h
    have := Rat.intCast_lt_intCast.mpr h
    rw [← ex, ← ey] at this
    exact Rat.lt_of_mul_lt_mul_right this (Rat.le_of_lt hK)
theorem cmp_fin {x y : UInt64} (hx : IsFin x) (hy : IsFin y) : cmp x y = some (compare (val x) (val y)) := by
  obtain ⟨_, _, _, hx⟩ := hx
  obtain ⟨_, _, _, hy⟩ := hy
  exact cmp_right hx hy
theorem ltF_iff {x y : UInt64} (hx : IsFin x) (hy : IsFin y) : ltF x y = true ↔ fv x < fv y := by
  unfold ltF
  rw [cmp_fin hx hy, fv_lt]
  rcases Int.lt_trichotomy (val x) (val y) with h | h | h
  · rw [Int.compare_eq_lt.mpr h]; simp [h]
  · rw [Int.compare_eq_eq.mpr h]; simp [h]
  · rw [Int.compare_eq_gt.mpr h]; simp; lia
theorem gt_iff {x y : UInt64} (hx : IsFin x) (hy : IsFin y) : (Float64.cmp x y == some .gt) = true ↔ fv y < fv x := by
  rw [cmp_fin hx hy, fv_lt]
  rcases Int.lt_trichotomy (val x) (val y) with h | h | h
  · rw [Int.compare_eq_lt.mpr h]; simp; lia
  · rw [Int.compare_eq_eq.mpr h]; simp [h]
  · rw [Int.compare_eq_gt.mpr h]; simp [h]
theorem eqF_iff {x y : UInt64} (hx : IsFin x) (hy : IsFin y) : eqF x y = true ↔ fv x = fv y := by
  have e : fv x = fv y ↔ ¬ fv x < fv y ∧ ¬ fv y < fv x := by grind
  unfold eqF
  rw [cmp_fin hx hy, e, fv_lt, fv_lt]
  rcases Int.lt_trichotomy (val x) (val y) with h | h | h
  · rw [Int.compare_eq_lt.mpr h]; simp; lia
  · rw [Int.compare_eq_eq.mpr h]; simp [h]
  · rw [Int.compare_eq_gt.mpr h]; simp; lia
theorem leF_iff {x y : UInt64} (hx : IsFin x) (hy : IsFin y) : leF x y = true ↔ fv x ≤ fv y := by
  have e : fv x ≤ fv y ↔ ¬ fv y < fv x := by grind
  unfold leF
  rw [cmp_fin hx hy, e, fv_lt]
  rcases Int.lt_trichotomy (val x) (val y) with h | h | h
  · rw [Int.compare_eq_lt.mpr h]; simp; lia
  · rw [Int.compare_eq_eq.mpr h]; simp [h]
  · rw [Int.compare_eq_gt.mpr h]; simp; lia
theorem decode_lt {x : UInt64} {a : Bool} {m : Nat} {e : Int} (h : decode x = .fin a m e) : m < 2 ^ 53 := by
  unfold decode at h
  simp only at h
  split at h
  · split at h <;> cases h
  · split at h
    · cases h; lia
    · cases h; lia
theorem decode_one : decode 4607182418800017408 = .fin false (2 ^ 52) (-52) := by
  have h : ∃ s m e, decode 4607182418800017408 = .fin s m e := G_1.1
  have h2 : (match decode 4607182418800017408 with | .fin s m e => s == false && m == 2 ^ 52 && e == -52 | _ => false) = true := by decide +kernel
  obtain ⟨s, m, e, h⟩ := h
  rw [h] at h2 ⊢
  simp only [Bool.and_eq_true, beq_iff_eq] at h2
  obtain ⟨⟨rfl, rfl⟩, rfl⟩ := h2
  rfl
theorem ofBin_right {neg : Bool} {M : Nat} {g : Int} (hg : -1074 ≤ g) : Right (ofBin neg M g) neg (M * 2 ^ (g + 1074).toNat) 1 := by
  unfold ofBin
  refine ofFrac_right (shift_pos _ _ _ (by decide)) ?_ (by decide)
  have := shift_one M g 1074 (by lia)
  rw [Nat.mul_one]
  exact this
theorem fmod_spec {x : UInt64} (hx : IsFin x) : IsFin (fmod x 4607182418800017408) ∧ ∃ a : Bool, val (fmod x 4607182418800017408) = sgn a ((val x).natAbs % 2 ^ 1074) ∧ val x = sgn a (val x).natAbs := by
  obtain ⟨a, m, e, h⟩ := hx
  have he := decode_ge h
  have hm := decode_lt h
  have hv := val_natAbs h
  have hp1 : (m : Int) * ((2 ^ (e - min e (-52)).toNat : Nat) : Int) = ((m * 2 ^ (e - min e (-52)).toNat : Nat) : Int) := (Int.natCast_mul _ _).symm
  have e0 : fmod x 4607182418800017408 = ofBin a ((m * 2 ^ (e - min e (-52)).toNat) % (2 ^ 52 * 2 ^ (-52 - min e (-52)).toNat)) (min e (-52)) := by
    unfold fmod
    rw [h, decode_one]
    rfl
  have hg : -1074 ≤ min e (-52) := by lia
  have eW : ((m * 2 ^ (e - min e (-52)).toNat) % (2 ^ 52 * 2 ^ (-52 - min e (-52)).toNat)) * 2 ^ (min e (-52) + 1074).toNat = (val x).natAbs % 2 ^ 1074 := by
    rw [← Nat.mul_mod_mul_right, Nat.mul_assoc, Nat.mul_assoc, ← Nat.pow_add, ← Nat.pow_add, ← Nat.pow_add, hv]
    have a1 : (e - min e (-52)).toNat + (min e (-52) + 1074).toNat = (e + 1074).toNat := by lia
    have a2 : 52 + ((-52 - min e (-52)).toNat + (min e (-52) + 1074).toNat) = 1074 := by lia
    rw [a1, a2]
  have hW : (m * 2 ^ (e - min e (-52)).toNat) % (2 ^ 52 * 2 ^ (-52 - min e (-52)).toNat) ≤ 2 ^ 53 := by
    by_cases c : -52 ≤ e
    · have a3 : (-52 - min e (-52)).toNat = 0 := by lia
      rw [a3, Nat.pow_zero, Nat.mul_one]
      exact Nat.le_of_lt (Nat.lt_trans (Nat.mod_lt _ (Nat.two_pow_pos _)) (by decide))
    · have a3 : (e - min e (-52)).toNat = 0 := by lia
      rw [a3, Nat.pow_zero, Nat.mul_one]
      exact Nat.le_trans (Nat.mod_le _ _) (Nat.le_of_lt hm)
  have hlt : (val x).natAbs % 2 ^ 1074 < 2 ^ 1074 := Nat.mod_lt _ (Nat.two_pow_pos _)
  obtain ⟨f, g⟩ := right_exact (ofBin_right (neg := a) (M := (m * 2 ^ (e - min e (-52)).toNat) % (2 ^ 52 * 2 ^ (-52 - min e (-52)).toNat)) hg) (by decide) (k := 0) (by decide) (by rw [eW, Nat.one_mul]; exact Nat.le_of_lt hlt) hW (Nat.one_mul _).symm
  rw [e0]
  refine ⟨f, a, by rw [g, eW], ?_⟩
  rw [hv, val_eq h]
theorem add_unit {m : UInt64} (hm : IsFin m) (h0 : val m < 0) (h1 : -((2 ^ 1074 : Nat) : Int) < val m) : IsFin (Float64.add m 4607182418800017408) ∧ 0 ≤ val (Float64.add m 4607182418800017408) ∧ val (Float64.add m 4607182418800017408) ≤ ((2 ^ 1074 : Nat) : Int) ∧ (val (Float64.add m 4607182418800017408) - (val m + ((2 ^ 1074 : Nat) : Int))).natAbs ≤ 2 ^ (1021 + 0) := by
  have e1 : val 4607182418800017408 = ((2 ^ 1074 : Nat) : Int) := by decide +kernel
  have hb : (val m + val 4607182418800017408).natAbs ≤ 2 ^ (1074 + 0) := by
    rw [e1, Nat.add_zero]
    generalize 2 ^ 1074 = B at *
    lia
  obtain ⟨f, g⟩ := add_int hm G_1.1 (k := 0) (by decide) hb
  obtain ⟨_, _, _, hx⟩ := hm
  obtain ⟨_, _, _, hy⟩ := G_1.1
  obtain ⟨_, hr⟩ := add_right hx hy
  rw [e1] at g hr hb
  have hne : val m + ((2 ^ 1074 : Nat) : Int) ≠ 0 := by generalize 2 ^ 1074 = B at *; lia
  obtain ⟨v, _, hv, hn⟩ := right_fin (hr hne) (by decide) (k := 0) (by decide) (by rw [Nat.one_mul]; exact hb)
  have hneg : decide (val m + ((2 ^ 1074 : Nat) : Int) < 0) = false := decide_eq_false (by generalize 2 ^ 1074 = B at *; lia)
  rw [hneg] at hv
  have hv2 : val (Float64.add m 4607182418800017408) = (v : Int) := hv
  have := hn 1 1074 (by decide)
  rw [Nat.one_mul, Nat.one_mul, Nat.one_mul] at this
  refine ⟨f, by rw [hv2]; exact Int.natCast_nonneg _, ?_, g⟩
  rw [hv2]
  unfold Float64.dist at this
  generalize 2 ^ 1074 = B at *
  lia
theorem mod1_eq (x : UInt64) : mod1 x = if isZero (fmod x 4607182418800017408) = true then 0 else if lt (fmod x 4607182418800017408) 0 = true then Float64.add (fmod x 4607182418800017408) 4607182418800017408 else fmod x 4607182418800017408 := by
  have c1 : copysign 0 4607182418800017408 = 0 := by decide +kernel
  have c2 : lt 4607182418800017408 0 = false := by decide +kernel
  have c3 : zero false = 0 := by decide +kernel
  unfold mod1 divmod
  simp only [c3, c1, c2]
  generalize fmod x 4607182418800017408 = m
  cases h : isZero m with
  | true => simp
  | false =>
    cases h2 : lt m 0 with
    | true => simp
    | false => simp
theorem sgn_add (a : Bool) (m k : Nat) : sgn a (m + k) = sgn a m + sgn a k := by cases a <;> simp [sgn] <;> lia
theorem fv_nonneg {x : UInt64} : 0 ≤ fv x ↔ 0 ≤ val x := by
  have e : fv 0 = 0 := by rw [G_0.fv]; unfold G; rw [Rat.div_def]; exact Rat.zero_mul _
  have e2 : val 0 = 0 := G_0.2.trans (by simp)
  have h := @fv_lt x 0
  rw [e, e2] at h
  constructor
  · intro g; exact Int.not_lt.mp fun c => absurd (h.mpr c) (by grind)
  · intro g
    have : ¬ fv x < 0 := fun c => absurd (h.mp c) (by lia)
    grind
theorem fv_le_one {x : UInt64} : fv x ≤ 1 ↔ val x ≤ ((2 ^ 1074 : Nat) : Int) := by
  have e : fv 4607182418800017408 = 1 := by
    refine Rat.le_antisymm (div_le' (two_pos _) ?_) (le_div' (two_pos _) ?_)
    · rw [Rat.one_mul, ← two_int]; exact Rat.intCast_le_intCast.mpr (by decide +kernel)
    · rw [Rat.one_mul, ← two_int]; exact Rat.intCast_le_intCast.mpr (by decide +kernel)
  have e2 : val 4607182418800017408 = ((2 ^ 1074 : Nat) : Int) := by decide +kernel
  have h := @fv_lt 4607182418800017408 x
  rw [e, e2] at h
  constructor
  · intro g; exact Int.not_lt.mp fun c => absurd (h.mpr c) (by grind)
  · intro g
    have : ¬ 1 < fv x := fun c => absurd (h.mp c) (Int.not_lt.mpr g)
    grind
theorem mod1_spec {x : UInt64} (hx : IsFin x) : IsFin (mod1 x) ∧ 0 ≤ fv (mod1 x) ∧ fv (mod1 x) ≤ 1 ∧ ∃ n : Int, Cl (er 0) (fv (mod1 x)) (fv x - (n : Rat)) := by
  obtain ⟨fm, a, e1, e2⟩ := fmod_spec hx
  rw [mod1_eq]
  generalize fmod x 4607182418800017408 = m at *
  have hK : 0 < 2 ^ 1074 := Nat.two_pow_pos 1074
  have hn : val m = val x - sgn a ((val x).natAbs / 2 ^ 1074) * ((2 ^ 1074 : Nat) : Int) := by
    have h := Nat.div_add_mod (val x).natAbs (2 ^ 1074)
    have : sgn a (val x).natAbs = sgn a ((val x).natAbs / 2 ^ 1074) * ((2 ^ 1074 : Nat) : Int) + sgn a ((val x).natAbs % 2 ^ 1074) := by
      rw [← sgn_mul, ← sgn_add, Nat.mul_comm, h]
    rw [← e2, ← e1] at this
    generalize sgn a ((val x).natAbs / 2 ^ 1074) * ((2 ^ 1074 : Nat) : Int) = z at *
    lia
  have hfv : fv m = fv x - ((sgn a ((val x).natAbs / 2 ^ 1074) : Int) : Rat) := by
    have k1 := fv_mul m
    rw [hn, Rat.intCast_sub, Rat.intCast_mul, two_int, ← fv_mul x] at k1
    refine Rat.le_antisymm (Rat.le_of_mul_le_mul_right (c := two 1074) ?_ (two_pos _)) (Rat.le_of_mul_le_mul_right (c := two 1074) ?_ (two_pos _)) <;> grind
  generalize sgn a ((val x).natAbs / 2 ^ 1074) = n at *
  have habs : (val m).natAbs < 2 ^ 1074 := by
    rw [e1, sgn_natAbs]; exact Nat.mod_lt _ hK
  have her : 0 ≤ er 0 := by
    unfold er; exact le_div' (two_pos _) (by rw [Rat.zero_mul]; exact Rat.le_of_lt (two_pos 0))
  by_cases h1 : isZero m = true
  · rw [if_pos h1]
    have hz : val m = 0 := by
      obtain ⟨s, k, e, h⟩ := fm
      unfold isZero at h1
      rw [h] at h1
      cases k with
      | zero => rw [val_eq h]; cases s <;> simp [sgn]
      | succ _ => cases h1
    have hz2 : fv m = 0 := by unfold fv; rw [hz, Rat.div_def]; exact Rat.zero_mul _
    have e0 : fv 0 = 0 := by rw [G_0.fv]; unfold G; rw [Rat.div_def]; exact Rat.zero_mul _
    refine ⟨G_0.1, by rw [e0]; exact Rat.le_refl, by rw [e0]; decide, n, ?_⟩
    rw [e0, ← hfv, hz2]
    constructor <;> grind
  · rw [if_neg h1]
    by_cases h2 : lt m 0 = true
    · rw [if_pos h2]
      have h3 : val m < 0 := by
        have := (ltF_iff fm G_0.1).mp h2
        have := fv_lt.mp this
        rwa [show val 0 = 0 from G_0.2.trans (by simp)] at this
      obtain ⟨f, p0, p1, p2⟩ := add_unit fm h3 (by generalize 2 ^ 1074 = B at *; lia)
      refine ⟨f, fv_nonneg.mpr p0, fv_le_one.mpr p1, n - 1, ?_⟩
      have q : (fv x - ((n - 1 : Int) : Rat)) * two 1074 = ((val m + ((2 ^ 1074 : Nat) : Int) : Int) : Rat) := by
        have k1 := fv_mul m
        rw [Rat.intCast_add, two_int, ← k1, hfv, Rat.intCast_sub]
        show (fv x - ((n : Rat) - ((1 : Int) : Rat))) * two 1074 = _
        rw [show ((1 : Int) : Rat) = 1 from rfl]
        grind
      exact cl_of_int q p2
    · rw [if_neg h2]
      have h3 : 0 ≤ fv m := by
        refine Rat.not_lt.mp fun c => h2 ?_
        refine (ltF_iff fm G_0.1).mpr ?_
        rw [show fv 0 = 0 by rw [G_0.fv]; unfold G; rw [Rat.div_def]; exact Rat.zero_mul _]
        exact c
      refine ⟨fm, h3, fv_le_one.mpr (by generalize 2 ^ 1074 = B at *; lia), n, ?_⟩
      rw [← hfv]
      constructor <;> grind
end Mine
end
section
open PySem PySem.W PyProof.Rows PySem.Flt PySem.Float64
set_option maxRecDepth 100000
namespace Mine
def tent (z : Rat) : Rat := if z ≤ 1 then z else if z ≤ 3 then 1 else if z ≤ 4 then 4 - z else 0
def psi (y : Rat) : Rat := tent (y - 6 * (((y / 6).floor : Int) : Rat))
theorem six_floor (y : Rat) : 0 ≤ y - 6 * (((y / 6).floor : Int) : Rat) ∧ y - 6 * (((y / 6).floor : Int) : Rat) < 6 := by
  have h1 := Rat.floor_le (y / 6)
  have h2 := Rat.lt_floor_add_one (y / 6)
  have e : y / 6 * 6 = y := Rat.div_mul_cancel (by decide)
  rw [Rat.intCast_add] at h2
  generalize ((y / 6).floor : Int) = n at *
  have h3 : ((1 : Int) : Rat) = 1 := rfl
  rw [h3] at h2
  constructor <;> grind
/-- psi at a place within the first turn -/
theorem psi_at {y z : Rat} {n : Int} (e : z = y - 6 * (n : Rat)) (h0 : 0 ≤ z) (h1 : z < 6) : psi y = tent z := by
  obtain ⟨g0, g1⟩ := six_floor y
  unfold psi
  have : (y / 6).floor = n := by
    generalize (y / 6).floor = k at *
    have a1 : ((k : Int) : Rat) - (n : Rat) < 1 := by grind
    have a2 : (n : Rat) - ((k : Int) : Rat) < 1 := by grind
    have b1 : ((k - n : Int) : Rat) < ((1 : Int) : Rat) := by rw [Rat.intCast_sub]; exact a1
    have b2 : ((n - k : Int) : Rat) < ((1 : Int) : Rat) := by rw [Rat.intCast_sub]; exact a2
    have c1 := Rat.intCast_lt_intCast.mp b1
    have c2 := Rat.intCast_lt_intCast.mp b2
    lia
  rw [this, ← e]
theorem psi_ex (y : Rat) : ∃ (n : Int) (z : Rat), z = y - 6 * (n : Rat) ∧ 0 ≤ z ∧ z < 6 ∧ psi y = tent z := by
  obtain ⟨g0, g1⟩ := six_floor y
  exact ⟨(y / 6).floor, _, rfl, g0, g1, rfl⟩
theorem tent_01 {z : Rat} (h0 : 0 ≤ z) : 0 ≤ tent z ∧ tent z ≤ 1 := by
  unfold tent
  grind
theorem psi_01 (y : Rat) : 0 ≤ psi y ∧ psi y ≤ 1 := tent_01 (six_floor y).1
theorem psi_per (y : Rat) (k : Int) : psi (y + 6 * (k : Rat)) = psi y := by
  obtain ⟨n, z, e, h0, h1, h⟩ := psi_ex y
  rw [h]
  refine psi_at (n := n + k) ?_ h0 h1
  rw [Rat.intCast_add]
  grind
theorem psi_anti (y : Rat) : psi (y + 3) = 1 - psi y := by
  obtain ⟨n, z, e, h0, h1, h⟩ := psi_ex y
  rw [h]
  by_cases c : z < 3
  · rw [psi_at (n := n) (z := z + 3) (by grind) (by grind) (by grind)]
    unfold tent
    grind
  · rw [psi_at (n := n + 1) (z := z - 3) (by rw [Rat.intCast_add, show ((1 : Int) : Rat) = 1 from rfl]; grind) (by grind) (by grind)]
    unfold tent
    grind
theorem tent_lip {a b e : Rat} (h : Cl e a b) : Cl e (tent a) (tent b) := by
  obtain ⟨h1, h2⟩ := h
  unfold Cl tent
  grind
theorem psi_lip {x y e : Rat} (h : Cl e x y) : Cl e (psi x) (psi y) := by
  obtain ⟨x0, x1⟩ := psi_01 x
  obtain ⟨y0, y1⟩ := psi_01 y
  by_cases he : 1 ≤ e
  · constructor <;> grind
  obtain ⟨n, a, ea, a0, a1, ha⟩ := psi_ex x
  obtain ⟨k, b, eb, b0, b1, hb⟩ := psi_ex y
  obtain ⟨h1, h2⟩ := h
  have c1 : (n : Rat) - (k : Rat) < 2 := by grind
  have c2 : (k : Rat) - (n : Rat) < 2 := by grind
  have d1 : ((n - k : Int) : Rat) < ((2 : Int) : Rat) := by rw [Rat.intCast_sub]; exact c1
  have d2 : ((k - n : Int) : Rat) < ((2 : Int) : Rat) := by rw [Rat.intCast_sub]; exact c2
  have f1 := Rat.intCast_lt_intCast.mp d1
  have f2 := Rat.intCast_lt_intCast.mp d2
  rw [ha, hb]
  have : n = k ∨ n = k + 1 ∨ k = n + 1 := by lia
  rcases this with rfl | rfl | rfl
  · exact tent_lip ⟨by grind, by grind⟩
  · rw [Rat.intCast_add, show ((1 : Int) : Rat) = 1 from rfl] at ea
    unfold Cl tent
    constructor <;> grind
  · rw [Rat.intCast_add, show ((1 : Int) : Rat) = 1 from rfl] at eb
    unfold Cl tent
    constructor <;> grind
end Mine
end
section
open PySem PySem.W PyProof.Rows PySem.Flt PySem.Float64
set_option maxRecDepth 100000
namespace Mine
def uu : Rat := 1 / 562949953421312
theorem er4 : er 4 = uu := by
  unfold er two uu
  decide +kernel
theorem two4 : two 4 = 16 := by unfold two; decide +kernel
theorem uu_pos : 0 < uu ∧ uu ≤ 1 / 1000000000000 := by unfold uu; decide +kernel
theorem er0_le : er 0 ≤ uu := by unfold er two uu; decide +kernel
theorem er0_pos : 0 ≤ er 0 := by unfold er two; decide +kernel
/-- near q, within n units of 2^-49 -/
def Ap (x : UInt64) (q n : Rat) : Prop := IsFin x ∧ Cl (n * uu) (fv x) q
theorem Ap.mono {x : UInt64} {q n m : Rat} (h : Ap x q n) (hn : n ≤ m) : Ap x q m := by
  have := uu_pos
  have g := Rat.mul_le_mul_of_nonneg_right hn (Rat.le_of_lt this.1)
  obtain ⟨f, a, b⟩ := h
  exact ⟨f, by grind, by grind⟩
theorem Ap.of_G {x : UInt64} {n : Int} (h : IsG x n) : Ap x (G n) 0 := ⟨h.1, by rw [h.fv]; constructor <;> grind⟩
theorem Ap.to {x : UInt64} {p q n m : Rat} (h : Ap x p n) (hq : Cl (m * uu) p q) : Ap x q (n + m) := by
  obtain ⟨f, a, b⟩ := h
  obtain ⟨c, d⟩ := hq
  exact ⟨f, by grind, by grind⟩
theorem Ap.exact {x : UInt64} (h : IsFin x) : Ap x (fv x) 0 := ⟨h, by constructor <;> grind⟩
theorem Ap.add {x y : UInt64} {p q a b : Rat} (hx : Ap x p a) (hy : Ap y q b) (ha : a ≤ 1000000) (hb : b ≤ 1000000) (h1 : p + q ≤ 15) (h2 : -15 ≤ p + q) : Ap (Float64.add x y) (p + q) (a + b + 1) := by
  obtain ⟨fx, x1, x2⟩ := hx
  obtain ⟨fy, y1, y2⟩ := hy
  obtain ⟨u0, u1⟩ := uu_pos
  have ga := Rat.mul_le_mul_of_nonneg_right ha (Rat.le_of_lt u0)
  have gb := Rat.mul_le_mul_of_nonneg_right hb (Rat.le_of_lt u0)
  obtain ⟨f, g1, g2⟩ := add_cl fx fy (k := 4) (by decide) (by rw [two4]; grind) (by rw [two4]; grind)
  rw [er4] at g1 g2
  exact ⟨f, by grind, by grind⟩
theorem Ap.sub {x y : UInt64} {p q a b : Rat} (hx : Ap x p a) (hy : Ap y q b) (ha : a ≤ 1000000) (hb : b ≤ 1000000) (h1 : p - q ≤ 15) (h2 : -15 ≤ p - q) : Ap (Float64.sub x y) (p - q) (a + b + 1) := by
  obtain ⟨fx, x1, x2⟩ := hx
  obtain ⟨fy, y1, y2⟩ := hy
  obtain ⟨u0, u1⟩ := uu_pos
  have ga := Rat.mul_le_mul_of_nonneg_right ha (Rat.le_of_lt u0)
  have gb := Rat.mul_le_mul_of_nonneg_right hb (Rat.le_of_lt u0)
  obtain ⟨f, g1, g2⟩ := sub_cl fx fy (k := 4) (by decide) (by rw [two4]; grind) (by rw [two4]; grind)
  rw [er4] at g1 g2
  exact ⟨f, by grind, by grind⟩
/-- the error of a product -/
theorem mul_err {x y p q e f P Q : Rat} (hx : Cl e x p) (hy : Cl f y q) (hp : p ≤ P) (hp' : -P ≤ p) (hq : q ≤ Q) (hq' : -Q ≤ q) (he : 0 ≤ e) (hf : 0 ≤ f) : Cl (e * Q + f * P + e * f) (x * y) (p * q) := by
  obtain ⟨x1, x2⟩ := hx
  obtain ⟨y1, y2⟩ := hy
  have e1 : x * y - p * q = (x - p) * q + p * (y - q) + (x - p) * (y - q) := by grind
  have ab : ∀ a b A B : Rat, a ≤ A → -A ≤ a → b ≤ B → -B ≤ b → a * b ≤ A * B ∧ -(A * B) ≤ a * b := by
    intro a b A B h1 h2 h3 h4
    have k1 := Rat.mul_nonneg (show 0 ≤ A - a by grind) (show 0 ≤ B + b by grind)
    have k2 := Rat.mul_nonneg (show 0 ≤ A + a by grind) (show 0 ≤ B - b by grind)
    have k3 := Rat.mul_nonneg (show 0 ≤ A - a by grind) (show 0 ≤ B - b by grind)
    have k4 := Rat.mul_nonneg (show 0 ≤ A + a by grind) (show 0 ≤ B + b by grind)
    constructor <;> grind
  have m1 := ab (x - p) q e Q x1 (by grind) hq hq'
  have m2 := ab p (y - q) P f hp hp' y1 (by grind)
  have m3 := ab (x - p) (y - q) e f x1 (by grind) y1 (by grind)
  constructor <;> grind
theorem Ap.mul {x y : UInt64} {p q a b P Q : Rat} (hx : Ap x p a) (hy : Ap y q b) (ha : a ≤ 1000000) (hb : b ≤ 1000000) (ha0 : 0 ≤ a) (hb0 : 0 ≤ b) (hp : p ≤ P) (hp' : -P ≤ p) (hq : q ≤ Q) (hq' : -Q ≤ q) (hP : P ≤ 7) (hQ : Q ≤ 7) (hPQ : P * Q ≤ 14) (h1 : 0 ≤ P) (h2 : 0 ≤ Q) : Ap (Float64.mul x y) (p * q) (a * Q + b * P + a + 1) := by
  obtain ⟨fx, hx⟩ := hx
  obtain ⟨fy, hy⟩ := hy
  obtain ⟨u0, u1⟩ := uu_pos
  have au0 := Rat.mul_nonneg ha0 (Rat.le_of_lt u0)
  have bu0 := Rat.mul_nonneg hb0 (Rat.le_of_lt u0)
  have ga := Rat.mul_le_mul_of_nonneg_right ha (Rat.le_of_lt u0)
  have gb := Rat.mul_le_mul_of_nonneg_right hb (Rat.le_of_lt u0)
  have ab1 : b * uu ≤ 1 / 1000000 := by grind
  have aa1 : a * uu ≤ 1 / 1000000 := by grind
  have m := mul_err hx hy hp hp' hq hq' au0 bu0
  have c1 := Rat.mul_le_mul_of_nonneg_left ab1 au0
  have c2 := Rat.mul_le_mul_of_nonneg_left hQ au0
  have c3 := Rat.mul_le_mul_of_nonneg_left hP bu0
  have n1 : p * q ≤ P * Q ∧ -(P * Q) ≤ p * q := by
    have k1 := Rat.mul_nonneg (show 0 ≤ P - p by grind) (show 0 ≤ Q + q by grind)
    have k2 := Rat.mul_nonneg (show 0 ≤ P + p by grind) (show 0 ≤ Q - q by grind)
    have k3 := Rat.mul_nonneg (show 0 ≤ P - p by grind) (show 0 ≤ Q - q by grind)
    have k4 := Rat.mul_nonneg (show 0 ≤ P + p by grind) (show 0 ≤ Q + q by grind)
    constructor <;> grind
  obtain ⟨m1, m2⟩ := m
  obtain ⟨f, g1, g2⟩ := mul_cl fx fy (k := 4) (by decide) (by rw [two4]; grind) (by rw [two4]; grind)
  rw [er4] at g1 g2
  refine ⟨f, ?_, ?_⟩ <;> grind
end Mine
end
section
open PySem PySem.W PyProof.Rows PySem.Flt PySem.Float64
set_option maxRecDepth 100000
namespace Mine
theorem floor_nat {m : Nat} {e : Int} {N : Nat} (he : -1074 ≤ e) (h1 : N * 2 ^ 1074 ≤ m * 2 ^ (e + 1074).toNat) (h2 : m * 2 ^ (e + 1074).toNat < (N + 1) * 2 ^ 1074) : floorOf false m e = (N : Int) := by
  unfold floorOf
  by_cases c : e ≥ 0
  · rw [if_pos c]
    have e1 : (e + 1074).toNat = e.toNat + 1074 := by lia
    rw [e1, Nat.pow_add, ← Nat.mul_assoc] at h1 h2
    have g1 := Nat.le_of_mul_le_mul_right h1 (Nat.two_pow_pos 1074)
    have g2 := Nat.lt_of_mul_lt_mul_right h2
    have : m * 2 ^ e.toNat = N := by lia
    rw [← this]
    show (m : Int) * (2 : Int) ^ e.toNat = _
    push_cast
    rfl
  · rw [if_neg c]
    have e1 : 1074 = (-e).toNat + (e + 1074).toNat := by lia
    rw [show (2 : Nat) ^ 1074 = 2 ^ ((-e).toNat + (e + 1074).toNat) by rw [← e1], Nat.pow_add, ← Nat.mul_assoc] at h1 h2
    have g1 := Nat.le_of_mul_le_mul_right h1 (Nat.two_pow_pos _)
    have g2 := Nat.lt_of_mul_lt_mul_right h2
    have : m / 2 ^ (-e).toNat = N := by
      refine (Nat.div_eq_iff (Nat.two_pow_pos _)).mpr ?_
      rw [Nat.add_mul] at g2
      have := Nat.two_pow_pos (-e).toNat
      generalize 2 ^ (-e).toNat = B at *
      generalize N * B = NB at *
      lia
    show ((m : Int)).fdiv ((2 : Int) ^ (-e).toNat) = _
    rw [Int.fdiv_eq_ediv_of_nonneg _ (Int.pow_nonneg (by decide)), ← this]
    push_cast
    rfl
theorem trunc_spec {x : UInt64} (hx : IsFin x) {N : Nat} (h0 : 0 ≤ fv x) (h1 : (N : Rat) ≤ fv x) (h2 : fv x < (N : Rat) + 1) : toInt truncOf x = (N : Int) := by
  obtain ⟨a, m, e, h⟩ := hx
  have he := decode_ge h
  rw [toInt_fin h]
  have hv := val_eq h
  have p0 := fv_nonneg.mp h0
  have hK := two_pos 1074
  have g1 : ((N : Nat) : Int) * ((2 ^ 1074 : Nat) : Int) ≤ val x := by
    refine Rat.intCast_le_intCast.mp ?_
    rw [Rat.intCast_mul, two_int, Rat.intCast_natCast, ← fv_mul]
    exact Rat.mul_le_mul_of_nonneg_right h1 (Rat.le_of_lt hK)
  have g2 : val x < ((N + 1 : Nat) : Int) * ((2 ^ 1074 : Nat) : Int) := by
    refine Rat.intCast_lt_intCast.mp ?_
    rw [Rat.intCast_mul, two_int, Rat.intCast_natCast, ← fv_mul]
    refine Rat.mul_lt_mul_of_pos_right ?_ hK
    rw [Rat.natCast_add]
    exact h2
  rw [← Int.natCast_mul] at g1 g2
  cases a with
  | false =>
    rw [hv] at g1 g2
    show floorOf false m e = _
    exact floor_nat he (Int.ofNat_le.mp g1) (Int.ofNat_lt.mp g2)
  | true =>
    have hm : m * 2 ^ (e + 1074).toNat = 0 := by
      rw [hv] at p0
      unfold sgn at p0
      simp only [if_true] at p0
      generalize m * 2 ^ (e + 1074).toNat = z at *
      lia
    have hx0 : val x = 0 := by rw [hv, hm]; rfl
    rw [hx0] at g1 g2
    have hN : N = 0 := by
      have : N * 2 ^ 1074 = 0 := by generalize N * 2 ^ 1074 = z at *; lia
      rcases Nat.mul_eq_zero.mp this with h | h
      · exact h
      · exact absurd h (Nat.ne_of_gt (Nat.two_pow_pos _))
    subst hN
    show -floorOf false m e = 0
    rw [floor_nat (N := 0) he (by rw [hm]; simp) (by rw [hm, Nat.zero_add, Nat.one_mul]; exact Nat.two_pow_pos _)]
    rfl
theorem mul_nonneg_fv {x y : UInt64} (hx : IsFin x) (hy : IsFin y) (h0 : 0 ≤ fv x) (h1 : 0 ≤ fv y) (hb : fv x * fv y ≤ 16) : 0 ≤ fv (Float64.mul x y) := by
  obtain ⟨f, g1, g2⟩ := mul_cl hx hy (k := 4) (by decide) (by rw [two4]; exact hb) (by rw [two4]; have := Rat.mul_nonneg h0 h1; grind)
  have p0 := fv_nonneg.mp h0
  have p1 := fv_nonneg.mp h1
  obtain ⟨a, m, e, hx⟩ := hx
  obtain ⟨b, n, k, hy⟩ := hy
  obtain ⟨t, r1, r2, r3, r4⟩ := mul_right hx hy
  have hlt : t < infMag := by
    refine Nat.lt_of_le_of_ne r2 fun c => ?_
    have key : ∀ neg : Bool, isFinite (pack neg infMag) = false := fun neg => by cases neg <;> decide +kernel
    have := f.isFinite
    rw [r1, c, key] at this
    cases this
  refine fv_nonneg.mpr ?_
  rw [r1, val_pack _ hlt]
  cases hab : (a != b) with
  | false => exact Int.natCast_nonneg _
  | true =>
    have hz : (val x).natAbs * (val y).natAbs = 0 := by
      rw [val_eq hx] at p0
      rw [val_eq hy] at p1
      rw [val_natAbs hx, val_natAbs hy]
      cases a with
      | false =>
        cases b with
        | false => cases hab
        | true =>
          have q : (0 : Int) ≤ -((n * 2 ^ (k + 1074).toNat : Nat) : Int) := p1
          have : n * 2 ^ (k + 1074).toNat = 0 := by
            generalize n * 2 ^ (k + 1074).toNat = z at *; lia
          rw [this, Nat.mul_zero]
      | true =>
        have q : (0 : Int) ≤ -((m * 2 ^ (e + 1074).toNat : Nat) : Int) := p0
        have : m * 2 ^ (e + 1074).toNat = 0 := by
          generalize m * 2 ^ (e + 1074).toNat = z at *; lia
        rw [this, Nat.zero_mul]
    have := (r4 hlt 0).1
    rw [hz, V_zero, Nat.mul_zero] at this
    have hV : V t = 0 := by
      have d0 : Float64.dist 0 0 = 0 := rfl
      rw [d0] at this
      have : 2 ^ 1074 * V t = 0 := by unfold Float64.dist at this; lia
      rcases Nat.mul_eq_zero.mp this with h | h
      · exact absurd h (Nat.ne_of_gt (Nat.two_pow_pos _))
      · exact h
    rw [hV]
    decide
end Mine
end
section
open PySem PySem.W PyProof.Rows PySem.Flt PySem.Float64
set_option maxRecDepth 100000
namespace Mine
theorem G_lt {n m : Int} : G n < G m ↔ n < m := by
  have h := two_pos 24
  have a := G_mul n
  have b := G_mul m
  constructor
  · intro g
    have := Rat.mul_lt_mul_of_pos_right g h
    rw [a, b] at this
    exact Rat.intCast_lt_intCast.mp this
  · intro g
    have := Rat.intCast_lt_intCast.mpr g
    rw [← a, ← b] at this
    exact Rat.lt_of_mul_lt_mul_right this (Rat.le_of_lt h)
theorem G_le {n m : Int} : G n ≤ G m ↔ n ≤ m := by
  have h := @G_lt m n
  constructor
  · intro g; exact Int.not_lt.mp fun c => absurd (h.mpr c) (by grind)
  · intro g
    have : ¬ G m < G n := fun c => absurd (h.mp c) (by lia)
    grind
theorem G_add (n m : Int) : G (n + m) = G n + G m := by
  refine Rat.le_antisymm (Rat.le_of_mul_le_mul_right (c := two 24) ?_ (two_pos _)) (Rat.le_of_mul_le_mul_right (c := two 24) ?_ (two_pos _)) <;>
  · have a := G_mul n
    have b := G_mul m
    have c := G_mul (n + m)
    rw [Rat.intCast_add] at c
    grind
theorem G_sub (n m : Int) : G (n - m) = G n - G m := by
  have := G_add (n - m) m
  rw [Int.sub_add_cancel] at this
  grind
theorem G_zero : G 0 = 0 := by unfold G; rw [Rat.div_def]; exact Rat.zero_mul _
theorem G_one : G 16777216 = 1 := by unfold G two; decide +kernel
theorem G_two : G 33554432 = 2 := by unfold G two; decide +kernel
theorem G_four : G 67108864 = 4 := by unfold G two; decide +kernel
theorem G_six : G 100663296 = 6 := by unfold G two; decide +kernel
theorem G_half : G 8388608 = 1 / 2 := by unfold G two; decide +kernel
theorem ltF_G {x y : UInt64} {n m : Int} (hx : IsG x n) (hy : IsG y m) : ltF x y = true ↔ m > n := by
  rw [ltF_iff hx.1 hy.1, hx.fv, hy.fv, G_lt]
theorem eqF_G {x y : UInt64} {n m : Int} (hx : IsG x n) (hy : IsG y m) : eqF x y = true ↔ n = m := by
  rw [eqF_iff hx.1 hy.1, hx.fv, hy.fv]
  have a := @G_lt n m
  have b := @G_lt m n
  constructor
  · intro h
    rw [h] at a b
    have c : ¬ G m < G m := Rat.lt_irrefl
    have p1 : ¬ n < m := fun z => c (a.mpr z)
    have p2 : ¬ m < n := fun z => c (b.mpr z)
    lia
  · intro h; rw [h]
theorem max3_G {a b c : UInt64} {n m k : Int} (ha : IsG a n) (hb : IsG b m) (hc : IsG c k) : IsG (max3F a b c) (max3I n m k) := by
  have h1 := ltF_G ha hb
  have h2 := ltF_G hb hc
  have h3 := ltF_G ha hc
  unfold max3F max3I
  by_cases c1 : m > n
  · rw [if_pos (h1.mpr c1), if_pos c1]
    by_cases c2 : k > m
    · rw [if_pos (h2.mpr c2), if_pos c2]; exact hc
    · rw [if_neg (fun z => c2 (h2.mp z)), if_neg c2]; exact hb
  · rw [if_neg (fun z => c1 (h1.mp z)), if_neg c1]
    by_cases c2 : k > n
    · rw [if_pos (h3.mpr c2), if_pos c2]; exact hc
    · rw [if_neg (fun z => c2 (h3.mp z)), if_neg c2]; exact ha
theorem min3_G {a b c : UInt64} {n m k : Int} (ha : IsG a n) (hb : IsG b m) (hc : IsG c k) : IsG (min3F a b c) (min3I n m k) := by
  have h1 := ltF_G hb ha
  have h2 := ltF_G hc hb
  have h3 := ltF_G hc ha
  unfold min3F min3I
  by_cases c1 : m < n
  · rw [if_pos (h1.mpr c1), if_pos c1]
    by_cases c2 : k < m
    · rw [if_pos (h2.mpr c2), if_pos c2]; exact hc
    · rw [if_neg (fun z => c2 (h2.mp z)), if_neg c2]; exact hb
  · rw [if_neg (fun z => c1 (h1.mp z)), if_neg c1]
    by_cases c2 : k < n
    · rw [if_pos (h3.mpr c2), if_pos c2]; exact hc
    · rw [if_neg (fun z => c2 (h3.mp z)), if_neg c2]; exact ha
/-- r, g, b are the colour of hue x between m and m + d -/
def Hue (r g b m d x : Rat) : Prop := r = m + d * psi (x + 2) ∧ g = m + d * psi x ∧ b = m + d * psi (x - 2)
theorem Hue.turn {r g b m d x : Rat} (h : Hue r g b m d x) (n : Int) : Hue r g b m d (x - 6 * (n : Rat)) := by
  obtain ⟨a, b, c⟩ := h
  have e : ∀ y, psi (y - 6 * (n : Rat)) = psi y := fun y => by
    have := psi_per y (-n)
    rw [Rat.intCast_neg] at this
    rw [← this]
    congr 1
    grind
  refine ⟨?_, ?_, ?_⟩
  · rw [show x - 6 * (n : Rat) + 2 = (x + 2) - 6 * (n : Rat) by grind, e]; exact a
  · rw [e]; exact b
  · rw [show x - 6 * (n : Rat) - 2 = (x - 2) - 6 * (n : Rat) by grind, e]; exact c
theorem le_of_mul {x d : Rat} (hd : 0 < d) (h : x * d ≤ d) : x ≤ 1 := Rat.le_of_mul_le_mul_right (c := d) (by grind) hd
theorem nonneg_of_mul {x d : Rat} (hd : 0 < d) (h : 0 ≤ x * d) : 0 ≤ x := Rat.le_of_mul_le_mul_right (c := d) (by grind) hd
/-- one sector: t of the way from the one corner to the next -/
theorem sector {t d : Rat} (hd : 0 < d) (h0 : 0 ≤ t * d) (h1 : t * d ≤ d) : 0 ≤ t ∧ t ≤ 1 := ⟨nonneg_of_mul hd h0, le_of_mul hd h1⟩
theorem psi_0 {t : Rat} (h0 : 0 ≤ t) (h1 : t ≤ 1) (n : Int) : psi (t + 6 * (n : Rat)) = t := by
  rw [psi_per, psi_at (n := 0) (z := t) (by rw [show ((0 : Int) : Rat) = 0 from rfl]; grind) h0 (by grind)]
  unfold tent; grind
theorem psi_1 {t : Rat} (h0 : 1 ≤ t) (h1 : t ≤ 3) (n : Int) : psi (t + 6 * (n : Rat)) = 1 := by
  rw [psi_per, psi_at (n := 0) (z := t) (by rw [show ((0 : Int) : Rat) = 0 from rfl]; grind) (by grind) (by grind)]
  unfold tent; grind
theorem psi_3 {t : Rat} (h0 : 3 ≤ t) (h1 : t ≤ 4) (n : Int) : psi (t + 6 * (n : Rat)) = 4 - t := by
  rw [psi_per, psi_at (n := 0) (z := t) (by rw [show ((0 : Int) : Rat) = 0 from rfl]; grind) (by grind) (by grind)]
  unfold tent; grind
theorem psi_4 {t : Rat} (h0 : 4 ≤ t) (h1 : t < 6) (n : Int) : psi (t + 6 * (n : Rat)) = 0 := by
  rw [psi_per, psi_at (n := 0) (z := t) (by rw [show ((0 : Int) : Rat) = 0 from rfl]; grind) (by grind) (by grind)]
  unfold tent; grind
theorem psi_6 (n : Int) : psi (6 * (n : Rat)) = 0 := by
  have := psi_0 (t := 0) (by decide) (by decide) n
  rw [Rat.zero_add] at this; exact this
theorem psi_5 {t : Rat} (h0 : 4 ≤ t) (h1 : t ≤ 6) (n : Int) : psi (t + 6 * (n : Rat)) = 0 := by
  by_cases c : t < 6
  · exact psi_4 h0 c n
  · have e : t + 6 * (n : Rat) = 6 * ((n + 1 : Int) : Rat) := by
      rw [Rat.intCast_add, show ((1 : Int) : Rat) = 1 from rfl]; grind
    rw [e]; exact psi_6 _
theorem psi_is {y t : Rat} {v : Rat} (n : Int) (e : y = t + 6 * (n : Rat)) (h : psi (t + 6 * (n : Rat)) = v) : psi y = v := by rw [e]; exact h
theorem n0 : ((0 : Int) : Rat) = 0 := rfl
theorem n1 : ((1 : Int) : Rat) = 1 := rfl
theorem n_1 : ((-1 : Int) : Rat) = -1 := rfl
theorem hue_r {r g b m d x : Rat} (hd : 0 < d) (hr : r = m + d) (hx : x * d = g - b) (hg : m ≤ g) (hg' : g ≤ r) (hb : m ≤ b) (hb' : b ≤ r) (hm : g = m ∨ b = m) : Hue r g b m d x := by
  by_cases c : b ≤ g
  · have e : b = m := by grind
    obtain ⟨t0, t1⟩ := sector (t := x) hd (by grind) (by grind)
    have p1 := psi_is (y := x + 2) (t := x + 2) 0 (by rw [n0]; grind) (psi_1 (by grind) (by grind) 0)
    have p2 := psi_is (y := x) (t := x) 0 (by rw [n0]; grind) (psi_0 t0 t1 0)
    have p3 := psi_is (y := x - 2) (t := x + 4) (-1) (by rw [n_1]; grind) (psi_5 (by grind) (by grind) (-1))
    refine ⟨by rw [p1]; grind, by rw [p2]; grind, by rw [p3]; grind⟩
  · have e : g = m := by grind
    obtain ⟨t0, t1⟩ := sector (t := -x) hd (by grind) (by grind)
    have p1 := psi_is (y := x + 2) (t := x + 2) 0 (by rw [n0]; grind) (psi_1 (by grind) (by grind) 0)
    have p2 := psi_is (y := x) (t := x + 6) (-1) (by rw [n_1]; grind) (psi_5 (by grind) (by grind) (-1))
    have p3 := psi_is (y := x - 2) (t := x + 4) (-1) (by rw [n_1]; grind) (psi_3 (by grind) (by grind) (-1))
    refine ⟨by rw [p1]; grind, by rw [p2]; grind, by rw [p3]; grind⟩
theorem hue_g {r g b m d x : Rat} (hd : 0 < d) (hr : g = m + d) (hx : (x - 2) * d = b - r) (hg : m ≤ r) (hg' : r ≤ g) (hb : m ≤ b) (hb' : b ≤ g) (hm : r = m ∨ b = m) : Hue r g b m d x := by
  by_cases c : r ≤ b
  · have e : r = m := by grind
    obtain ⟨t0, t1⟩ := sector (t := x - 2) hd (by grind) (by grind)
    have p1 := psi_is (y := x + 2) (t := x + 2) 0 (by rw [n0]; grind) (psi_5 (by grind) (by grind) 0)
    have p2 := psi_is (y := x) (t := x) 0 (by rw [n0]; grind) (psi_1 (by grind) (by grind) 0)
    have p3 := psi_is (y := x - 2) (t := x - 2) 0 (by rw [n0]; grind) (psi_0 t0 t1 0)
    refine ⟨by rw [p1]; grind, by rw [p2]; grind, by rw [p3]; grind⟩
  · have e : b = m := by grind
    obtain ⟨t0, t1⟩ := sector (t := 2 - x) hd (by grind) (by grind)
    have p1 := psi_is (y := x + 2) (t := x + 2) 0 (by rw [n0]; grind) (psi_3 (by grind) (by grind) 0)
    have p2 := psi_is (y := x) (t := x) 0 (by rw [n0]; grind) (psi_1 (by grind) (by grind) 0)
    have p3 := psi_is (y := x - 2) (t := x + 4) (-1) (by rw [n_1]; grind) (psi_5 (by grind) (by grind) (-1))
    refine ⟨by rw [p1]; grind, by rw [p2]; grind, by rw [p3]; grind⟩
theorem hue_b {r g b m d x : Rat} (hd : 0 < d) (hr : b = m + d) (hx : (x - 4) * d = r - g) (hg : m ≤ r) (hg' : r ≤ b) (hb : m ≤ g) (hb' : g ≤ b) (hm : r = m ∨ g = m) : Hue r g b m d x := by
  by_cases c : g ≤ r
  · have e : g = m := by grind
    obtain ⟨t0, t1⟩ := sector (t := x - 4) hd (by grind) (by grind)
    have p1 := psi_is (y := x + 2) (t := x - 4) 1 (by rw [n1]; grind) (psi_0 t0 t1 1)
    have p2 := psi_is (y := x) (t := x) 0 (by rw [n0]; grind) (psi_5 (by grind) (by grind) 0)
    have p3 := psi_is (y := x - 2) (t := x - 2) 0 (by rw [n0]; grind) (psi_1 (by grind) (by grind) 0)
    refine ⟨by rw [p1]; grind, by rw [p2]; grind, by rw [p3]; grind⟩
  · have e : r = m := by grind
    obtain ⟨t0, t1⟩ := sector (t := 4 - x) hd (by grind) (by grind)
    have p1 := psi_is (y := x + 2) (t := x + 2) 0 (by rw [n0]; grind) (psi_5 (by grind) (by grind) 0)
    have p2 := psi_is (y := x) (t := x) 0 (by rw [n0]; grind) (psi_3 (by grind) (by grind) 0)
    have p3 := psi_is (y := x - 2) (t := x - 2) 0 (by rw [n0]; grind) (psi_1 (by grind) (by grind) 0)
    refine ⟨by rw [p1]; grind, by rw [p2]; grind, by rw [p3]; grind⟩
end Mine
end
section
open PySem PySem.W PyProof.Rows PySem.Flt PySem.Float64
set_option maxRecDepth 100000
namespace Mine
theorem Ap.divG {X d : UInt64} {n D : Int} (hx : IsG X n) (hy : IsG d D) (h0 : 0 ≤ n) (h1 : n ≤ D) (hD : 0 < D) : Ap (Float64.div X d) (G n / G D) 1 ∧ 0 ≤ G n / G D ∧ G n / G D ≤ 1 := by
  have gD : 0 < G D := by rw [← G_zero]; exact G_lt.mpr hD
  have g0 : 0 ≤ G n := by rw [← G_zero]; exact G_le.mpr h0
  have g1 : G n ≤ G D := G_le.mpr h1
  obtain ⟨f, c⟩ := div_cl hx.1 hy.1 (k := 4) (by decide +kernel) (by rw [hy.fv]; exact gD) (by rw [hx.fv, hy.fv, two4]; grind) (by rw [hx.fv, hy.fv, two4]; grind)
  rw [er4, hx.fv, hy.fv] at c
  refine ⟨⟨f, ?_⟩, le_div' gD (by grind), div_le' gD (by grind)⟩
  rw [Rat.one_mul]; exact c
theorem Ap.div6 {X : UInt64} {x a : Rat} (h : Ap X x a) (ha : a ≤ 4) (h1 : x ≤ 15) (h2 : -15 ≤ x) : Ap (Float64.div X 4618441417868443648) (x / 6) 2 := by
  obtain ⟨u0, u1⟩ := uu_pos
  have ga := Rat.mul_le_mul_of_nonneg_right ha (Rat.le_of_lt u0)
  obtain ⟨fx, x1, x2⟩ := h
  have e6 : fv 4618441417868443648 = 6 := by rw [G_6.fv, G_six]
  obtain ⟨f, c1, c2⟩ := div_cl fx G_6.1 (k := 4) (by decide +kernel) (by rw [e6]; decide) (by rw [e6, two4]; grind) (by rw [e6, two4]; grind)
  rw [er4, e6] at c1 c2
  refine ⟨f, by grind, by grind⟩
theorem Ap.mod1 {X : UInt64} {x a : Rat} (h : Ap X x a) : IsFin (mod1 X) ∧ 0 ≤ fv (mod1 X) ∧ fv (mod1 X) ≤ 1 ∧ ∃ n : Int, Ap (mod1 X) (x - (n : Rat)) (a + 1) := by
  obtain ⟨f, h0, h1, n, c1, c2⟩ := mod1_spec h.1
  obtain ⟨_, x1, x2⟩ := h
  have := er0_le
  exact ⟨f, h0, h1, n, f, by grind, by grind⟩
theorem hue_fin {X h : UInt64} {R g b m d x : Rat} (e : h = mod1 (Float64.div X 4618441417868443648)) (hX : Ap X x 4) (h1 : x ≤ 15) (h2 : -15 ≤ x) (H : Hue R g b m d x) : ∃ x, Hue R g b m d x ∧ Ap h (x / 6) 3 ∧ 0 ≤ fv h ∧ fv h ≤ 1 := by
  subst e
  obtain ⟨_, a0, a1, n, ap⟩ := (hX.div6 (by decide +kernel) h1 h2).mod1
  refine ⟨x - 6 * (n : Rat), H.turn n, ?_, a0, a1⟩
  have e : (x - 6 * (n : Rat)) / 6 = x / 6 - (n : Rat) := by grind
  rw [e]
  exact ap.mono (by decide +kernel)
theorem hue_spec {r g b : UInt64} {k1 k2 k3 : Int} (hr : IsG r k1) (hg : IsG g k2) (hb : IsG b k3) (r0 : 0 ≤ k1) (g0 : 0 ≤ k2) (b0 : 0 ≤ k3) (r1 : k1 ≤ 16777216) (g1 : k2 ≤ 16777216) (b1 : k3 ≤ 16777216) (hne : min3I k1 k2 k3 < max3I k1 k2 k3) :
    ∃ x, Hue (G k1) (G k2) (G k3) (G (min3I k1 k2 k3)) (G (max3I k1 k2 k3) - G (min3I k1 k2 k3)) x ∧ Ap (hueF (max3F r g b) (rngF r g b) r g b) (x / 6) 3 ∧ 0 ≤ fv (hueF (max3F r g b) (rngF r g b) r g b) ∧ fv (hueF (max3F r g b) (rngF r g b) r g b) ≤ 1 := by
  obtain ⟨M1, M2, M3, M4⟩ := max3I_spec k1 k2 k3
  obtain ⟨m1, m2, m3, m4⟩ := min3I_spec k1 k2 k3
  have hM := max3_G hr hg hb
  have hm := min3_G hr hg hb
  have hd : IsG (rngF r g b) (max3I k1 k2 k3 - min3I k1 k2 k3) := hM.sub hm (by lia)
  generalize max3F r g b = Mf at *
  generalize rngF r g b = df at *
  generalize max3I k1 k2 k3 = M at *
  generalize min3I k1 k2 k3 = m at *
  have hD : 0 < M - m := by lia
  have gD : 0 < G M - G m := by rw [← G_sub, ← G_zero]; exact G_lt.mpr hD
  obtain ⟨pr, pr0, pr1⟩ := Ap.divG (hM.sub hr (by lia)) hd (by lia) (by lia) hD
  obtain ⟨pg, pg0, pg1⟩ := Ap.divG (hM.sub hg (by lia)) hd (by lia) (by lia) hD
  obtain ⟨pb, pb0, pb1⟩ := Ap.divG (hM.sub hb (by lia)) hd (by lia) (by lia) hD
  rw [G_sub M k1, G_sub M m] at pr pr0 pr1
  rw [G_sub M k2, G_sub M m] at pg pg0 pg1
  rw [G_sub M k3, G_sub M m] at pb pb0 pb1
  have er := div_mul' (a := G M - G k1) gD
  have eg := div_mul' (a := G M - G k2) gD
  have eb := div_mul' (a := G M - G k3) gD
  have l1 := G_le.mpr M1
  have l2 := G_le.mpr M2
  have l3 := G_le.mpr M3
  have s1 := G_le.mpr m1
  have s2 := G_le.mpr m2
  have s3 := G_le.mpr m3
  have mm : G m = G k1 ∨ G m = G k2 ∨ G m = G k3 := by rcases m4 with h | h | h <;> simp [h]
  generalize (G M - G k1) / (G M - G m) = rc at *
  generalize (G M - G k2) / (G M - G m) = gc at *
  generalize (G M - G k3) / (G M - G m) = bc at *
  by_cases c1 : eqF r Mf = true
  · have e1 := (eqF_G hr hM).mp c1
    have a := pb.sub pg (by decide +kernel) (by decide +kernel) (by grind) (by grind)
    refine hue_fin (x := bc - gc) (by unfold hueF; rw [if_pos c1]) (a.mono (by decide +kernel)) (by grind) (by grind) ?_
    have e1' : G k1 = G M := by rw [e1]
    exact hue_r gD (by grind) (by grind) s2 (by grind) s3 (by grind) (by grind)
  · by_cases c2 : eqF g Mf = true
    · have e2 := (eqF_G hg hM).mp c2
      have a2 := (Ap.of_G G_2)
      rw [G_two] at a2
      have a := (a2.add pr (by decide +kernel) (by decide +kernel) (by grind) (by grind)).sub pb (by decide +kernel) (by decide +kernel) (by grind) (by grind)
      refine hue_fin (x := 2 + rc - bc) (by unfold hueF; rw [if_neg c1, if_pos c2]) (a.mono (by decide +kernel)) (by grind) (by grind) ?_
      have e2' : G k2 = G M := by rw [e2]
      exact hue_g gD (by grind) (by grind) s1 (by grind) s3 (by grind) (by grind)
    · have e3 : k3 = M := by
        have n1 : k1 ≠ M := fun z => c1 ((eqF_G hr hM).mpr z)
        have n2 : k2 ≠ M := fun z => c2 ((eqF_G hg hM).mpr z)
        lia
      have a4 := (Ap.of_G G_4)
      rw [G_four] at a4
      have a := (a4.add pg (by decide +kernel) (by decide +kernel) (by grind) (by grind)).sub pr (by decide +kernel) (by decide +kernel) (by grind) (by grind)
      refine hue_fin (x := 4 + gc - rc) (by unfold hueF; rw [if_neg c1, if_neg c2]) (a.mono (by decide +kernel)) (by grind) (by grind) ?_
      have e3' : G k3 = G M := by rw [e3]
      exact hue_b gD (by grind) (by grind) s1 (by grind) s2 (by grind) (by grind)
end Mine
end
section
open PySem PySem.W PyProof.Rows PySem.Flt PySem.Float64
set_option maxRecDepth 100000
namespace Mine
theorem prod_bd {a b e : Rat} (h0 : 0 ≤ a) (h1 : a ≤ 1) (hb : b ≤ e) (hb' : -e ≤ b) : a * b ≤ e ∧ -e ≤ a * b := by
  have k1 := Rat.mul_nonneg h0 (show 0 ≤ e - b by grind)
  have k2 := Rat.mul_nonneg h0 (show 0 ≤ e + b by grind)
  have k3 := Rat.mul_nonneg (show 0 ≤ 1 - a by grind) (show 0 ≤ e by grind)
  constructor <;> grind
theorem prod_01 {a b : Rat} (h0 : 0 ≤ a) (h1 : a ≤ 1) (g0 : 0 ≤ b) (g1 : b ≤ 1) : 0 ≤ a * b ∧ a * b ≤ 1 := by
  have k1 := Rat.mul_nonneg h0 g0
  have k2 := Rat.mul_nonneg h0 (show 0 ≤ 1 - b by grind)
  constructor <;> grind
/-- a channel told by a fraction near psi -/
theorem chan {c : UInt64} {V S φ Z Y n : Rat} (hc : Ap c (V * (1 - S * (1 - φ))) n) (hn : n ≤ 50) (hφ : psi Z = φ) (hZ : Cl (61 * uu) Z Y) (v0 : 0 ≤ V) (v1 : V ≤ 1) (s0 : 0 ≤ S) (s1 : S ≤ 1) : Ap c (V * (1 - S * (1 - psi Y))) 111 := by
  obtain ⟨a, b⟩ := psi_lip hZ
  rw [hφ] at a b
  have k1 := prod_bd s0 s1 a (by grind)
  have k2 := prod_bd v0 v1 k1.1 k1.2
  exact ((hc.mono hn).to (m := 61) (q := V * (1 - S * (1 - psi Y))) ⟨by grind, by grind⟩).mono (by decide +kernel)
theorem nat_floor {x : Rat} (h0 : 0 ≤ x) : ∃ N : Nat, (N : Rat) ≤ x ∧ x < (N : Rat) + 1 := by
  have a := Rat.floor_le x
  have b := Rat.lt_floor_add_one x
  have h : 0 ≤ x.floor := Rat.le_floor_iff.mpr (by exact h0)
  refine ⟨x.floor.toNat, ?_⟩
  have e : ((x.floor.toNat : Nat) : Rat) = ((x.floor : Int) : Rat) := by
    rw [← Rat.intCast_natCast, Int.toNat_of_nonneg h]
  rw [e]
  rw [Rat.intCast_add, n1] at b
  exact ⟨a, b⟩
theorem ofNat_G {N : Nat} (h : N ≤ 20) : IsFin (ofInt (N : Int)) ∧ fv (ofInt (N : Int)) = (N : Rat) := by
  have g := ofInt_G (n := (N : Int)) (by rw [Int.natAbs_natCast]; exact Nat.le_trans h (by decide))
  refine ⟨g.1, ?_⟩
  rw [g.fv]
  have a := G_mul ((N : Int) * ((2 ^ 24 : Nat) : Int))
  rw [Rat.intCast_mul, two_int, Rat.intCast_natCast] at a
  have hp := two_pos 24
  refine Rat.le_antisymm (Rat.le_of_mul_le_mul_right (c := two 24) ?_ hp) (Rat.le_of_mul_le_mul_right (c := two 24) ?_ hp) <;> grind
theorem sex_spec {h : UInt64} (hf : IsFin h) (h0 : 0 ≤ fv h) (h1 : fv h ≤ 2) : ∃ N : Nat, N ≤ 12 ∧ sexF h = (N : Int) ∧ IsFin (Float64.mul h 4618441417868443648) ∧ ∃ F : Rat, 0 ≤ F ∧ F < 1 ∧ Ap (fraF h) F 1 ∧ Cl uu ((N : Rat) + F) (fv h * 6) := by
  obtain ⟨u0, u1⟩ := uu_pos
  have e6 : fv 4618441417868443648 = 6 := by rw [G_6.fv, G_six]
  obtain ⟨f, c1, c2⟩ := mul_cl hf G_6.1 (k := 4) (by decide) (by rw [e6, two4]; grind) (by rw [e6, two4]; grind)
  rw [er4, e6] at c1 c2
  have p0 := mul_nonneg_fv hf G_6.1 h0 (by rw [e6]; decide) (by rw [e6]; grind)
  obtain ⟨N, a, b⟩ := nat_floor p0
  have hN : N ≤ 12 := by
    have : (N : Rat) < ((13 : Nat) : Rat) := by
      have : ((13 : Nat) : Rat) = 13 := rfl
      grind
    have := Rat.natCast_lt_natCast.mp this
    lia
  have es : sexF h = (N : Int) := trunc_spec f p0 a b
  obtain ⟨g1, g2⟩ := ofNat_G (N := N) (by lia)
  refine ⟨N, hN, es, f, fv (Float64.mul h 4618441417868443648) - (N : Rat), by grind, by grind, ?_, ⟨by grind, by grind⟩⟩
  have h12 : (N : Rat) ≤ ((12 : Nat) : Rat) := Rat.natCast_le_natCast.mpr hN
  have h12' : ((12 : Nat) : Rat) = 12 := rfl
  have hn0 : ((0 : Nat) : Rat) ≤ (N : Rat) := Rat.natCast_le_natCast.mpr (Nat.zero_le _)
  have h00 : ((0 : Nat) : Rat) = 0 := rfl
  obtain ⟨fs, s1, s2⟩ := sub_cl f g1 (k := 4) (by decide) (by rw [g2, two4]; grind) (by rw [g2, two4]; grind)
  rw [er4, g2] at s1 s2
  unfold fraF
  rw [es]
  exact ⟨fs, by rw [Rat.one_mul]; exact s1, by rw [Rat.one_mul]; exact s2⟩
end Mine
end
section
open PySem PySem.W PyProof.Rows PySem.Flt PySem.Float64
set_option maxRecDepth 100000
namespace Mine
theorem ap1 : Ap 4607182418800017408 1 0 := by
  have := Ap.of_G G_1
  rw [G_one] at this; exact this
theorem bounds_S {S F : Rat} (s0 : 0 ≤ S) (s1 : S ≤ 1) (f0 : 0 ≤ F) (f1 : F ≤ 1) : 0 ≤ S * F ∧ S * F ≤ 1 ∧ 0 ≤ S * (1 - F) ∧ S * (1 - F) ≤ 1 := by
  have a := prod_01 s0 s1 f0 f1
  have b := prod_01 s0 s1 (show 0 ≤ 1 - F by grind) (show 1 - F ≤ 1 by grind)
  exact ⟨a.1, a.2, b.1, b.2⟩
section
variable {h s v : UInt64} {S V F : Rat}
theorem p_ap (hs : Ap s S 10) (hv : Ap v V 10) (s0 : 0 ≤ S) (s1 : S ≤ 1) (v0 : 0 ≤ V) (v1 : V ≤ 1) : Ap (pF s v) (V * (1 - S * (1 - 0))) 50 := by
  have a := ap1.sub hs (by decide +kernel) (by decide +kernel) (by grind) (by grind)
  have b := hv.mul a (P := 1) (Q := 1) (by decide +kernel) (by decide +kernel) (by decide +kernel) (by decide +kernel) v1 (by grind) (by grind) (by grind) (by decide +kernel) (by decide +kernel) (by decide +kernel) (by decide +kernel) (by decide +kernel)
  have e : V * (1 - S * (1 - 0)) = V * (1 - S) := by grind
  rw [e]
  exact b.mono (by decide +kernel)
theorem q_ap (hs : Ap s S 10) (hv : Ap v V 10) (hf : Ap (fraF h) F 1) (s0 : 0 ≤ S) (s1 : S ≤ 1) (v0 : 0 ≤ V) (v1 : V ≤ 1) (f0 : 0 ≤ F) (f1 : F ≤ 1) : Ap (qF h s v) (V * (1 - S * (1 - (1 - F)))) 50 := by
  obtain ⟨b0, b1, b2, b3⟩ := bounds_S s0 s1 f0 f1
  have a := ap1.sub (hs.mul hf (P := 1) (Q := 1) (by decide +kernel) (by decide +kernel) (by decide +kernel) (by decide +kernel) s1 (by grind) f1 (by grind) (by decide +kernel) (by decide +kernel) (by decide +kernel) (by decide +kernel) (by decide +kernel)) (by decide +kernel) (by decide +kernel) (by grind) (by grind)
  have b := hv.mul a (P := 1) (Q := 1) (by decide +kernel) (by decide +kernel) (by decide +kernel) (by decide +kernel) v1 (by grind) (by grind) (by grind) (by decide +kernel) (by decide +kernel) (by decide +kernel) (by decide +kernel) (by decide +kernel)
  have e : V * (1 - S * (1 - (1 - F))) = V * (1 - S * F) := by grind
  rw [e]
  exact b.mono (by decide +kernel)
theorem t_ap (hs : Ap s S 10) (hv : Ap v V 10) (hf : Ap (fraF h) F 1) (s0 : 0 ≤ S) (s1 : S ≤ 1) (v0 : 0 ≤ V) (v1 : V ≤ 1) (f0 : 0 ≤ F) (f1 : F ≤ 1) : Ap (tF h s v) (V * (1 - S * (1 - F))) 50 := by
  obtain ⟨b0, b1, b2, b3⟩ := bounds_S s0 s1 f0 f1
  have c := ap1.sub hf (by decide +kernel) (by decide +kernel) (by grind) (by grind)
  have a := ap1.sub (hs.mul c (P := 1) (Q := 1) (by decide +kernel) (by decide +kernel) (by decide +kernel) (by decide +kernel) s1 (by grind) (by grind) (by grind) (by decide +kernel) (by decide +kernel) (by decide +kernel) (by decide +kernel) (by decide +kernel)) (by decide +kernel) (by decide +kernel) (by grind) (by grind)
  have b := hv.mul a (P := 1) (Q := 1) (by decide +kernel) (by decide +kernel) (by decide +kernel) (by decide +kernel) v1 (by grind) (by grind) (by grind) (by decide +kernel) (by decide +kernel) (by decide +kernel) (by decide +kernel) (by decide +kernel)
  exact b.mono (by decide +kernel)
theorem v_ap (hv : Ap v V 10) : Ap v (V * (1 - S * (1 - 1))) 50 := by
  have e : V * (1 - S * (1 - 1)) = V := by grind
  rw [e]
  exact hv.mono (by decide +kernel)
end
/-- what comes back from HSV -/
def HsvVal (V S Y : Rat) : Rat := V * (1 - S * (1 - psi Y))
theorem hsv_bwd {h s v : UInt64} {S V Y : Rat} (hh : Ap h (Y / 6) 10) (h0 : 0 ≤ fv h) (h1 : fv h ≤ 2) (hs : Ap s S 10) (hv : Ap v V 10) (s0 : 0 ≤ S) (s1 : S ≤ 1) (v0 : 0 ≤ V) (v1 : V ≤ 1) :
    (Ap (rgbOfHsv h s v).1 (HsvVal V S (Y + 2)) 111 ∧ Ap (rgbOfHsv h s v).2.1 (HsvVal V S Y) 111 ∧ Ap (rgbOfHsv h s v).2.2 (HsvVal V S (Y - 2)) 111) ∧ rgbOfHsvOk h s := by
  obtain ⟨u0, u1⟩ := uu_pos
  obtain ⟨N, hN, es, fm, F, f0, f1, hf, z1, z2⟩ := sex_spec hh.1 h0 h1
  have hY : Cl (61 * uu) ((N : Rat) + F) Y := by
    obtain ⟨_, a, b⟩ := hh
    constructor <;> grind
  have ok : rgbOfHsvOk h s := fun _ => ⟨fm.isFinite, by
    rw [es, Int.natAbs_natCast]
    exact Nat.lt_of_le_of_lt hN (by decide +kernel)⟩
  refine ⟨?_, ok⟩
  have fin0 : IsFin 0 := G_0.1
  have fv0 : fv 0 = 0 := by rw [G_0.fv, G_zero]
  unfold rgbOfHsv
  by_cases c0 : eqF s 0 = true
  · rw [if_pos c0]
    have hz := (eqF_iff hs.1 fin0).mp c0
    rw [fv0] at hz
    have key : ∀ y, Ap v (HsvVal V S y) 111 := by
      intro y
      obtain ⟨p0, p1⟩ := psi_01 y
      obtain ⟨_, a, b⟩ := hs
      rw [hz] at a b
      have k1 := prod_bd (a := 1 - psi y) (b := S) (e := 10 * uu) (by grind) (by grind) (by grind) (by grind)
      have k2 := prod_bd v0 v1 k1.1 k1.2
      refine (hv.to (m := 10) (q := HsvVal V S y) ?_).mono (by decide +kernel)
      unfold HsvVal
      constructor <;> grind
    exact ⟨key _, key _, key _⟩
  rw [if_neg c0]
  have P := p_ap hs hv s0 s1 v0 v1
  have Qq := q_ap hs hv hf s0 s1 v0 v1 f0 (Rat.le_of_lt f1)
  have Tt := t_ap hs hv hf s0 s1 v0 v1 f0 (Rat.le_of_lt f1)
  have Vv : Ap v (V * (1 - S * (1 - 1))) 50 := v_ap hv
  have sh : ∀ c : Rat, Cl (61 * uu) ((N : Rat) + F + c) (Y + c) := fun c => by
    obtain ⟨a, b⟩ := hY
    constructor <;> grind
  have e2 : Y - 2 = Y + (-2) := by grind
  have e0 : Y = Y + 0 := by grind
  have ch : ∀ {x : UInt64} {φ : Rat} (c : Rat), Ap x (V * (1 - S * (1 - φ))) 50 → psi ((N : Rat) + F + c) = φ → Ap x (HsvVal V S (Y + c)) 111 := fun c hx hp => chan hx (by decide +kernel) hp (sh c) v0 v1 s0 s1
  obtain ⟨n, i, hi, e⟩ : ∃ n i : Nat, i < 6 ∧ N = i + 6 * n := ⟨N / 6, N % 6, Nat.mod_lt _ (by decide), by lia⟩
  have ei : (sexF h).fmod 6 = (i : Int) := by
    rw [es, Int.fmod_eq_emod_of_nonneg _ (by decide)]
    lia
  have eN : (N : Rat) = (i : Rat) + 6 * (((n : Int)) : Rat) := by
    rw [e, Rat.natCast_add, Rat.natCast_mul, Rat.intCast_natCast]; rfl
  have em : (((n : Int) - 1 : Int) : Rat) = ((n : Int) : Rat) - 1 := by rw [Rat.intCast_sub]; rfl
  have ep : (((n : Int) + 1 : Int) : Rat) = ((n : Int) : Rat) + 1 := by rw [Rat.intCast_add]; rfl
  have f1' := Rat.le_of_lt f1
  rw [ei]
  have hcases : i = 0 ∨ i = 1 ∨ i = 2 ∨ i = 3 ∨ i = 4 ∨ i = 5 := by lia
  rw [show HsvVal V S Y = HsvVal V S (Y + 0) by rw [← e0], e2]
  rcases hcases with rfl | rfl | rfl | rfl | rfl | rfl
  · have ec : ((0 : Nat) : Rat) = 0 := rfl
    rw [if_pos (show ((0 : Nat) : Int) = 0 from rfl)]
    exact ⟨ch 2 Vv (psi_is (t := F + 2) n (by grind) (psi_1 (by grind) (by grind) n)),
      ch 0 Tt (psi_is (t := F) n (by grind) (psi_0 f0 f1' n)), ch (-2) P (psi_is (t := F + 4) ((n : Int) - 1) (by grind) (psi_5 (by grind) (by grind) _))⟩
  · have ec : ((1 : Nat) : Rat) = 1 := rfl
    rw [if_neg (show ¬ ((((1 : Nat) : Int)) = 0) by decide), if_pos (show ((1 : Nat) : Int) = 1 from rfl)]
    refine ⟨ch 2 Qq ?_, ch 0 Vv (psi_is (t := F + 1) n (by grind) (psi_1 (by grind) (by grind) n)), ch (-2) P (psi_is (t := F + 5) ((n : Int) - 1) (by grind) (psi_5 (by grind) (by grind) _))⟩
    rw [psi_is (t := F + 3) n (by grind) (psi_3 (by grind) (by grind) n)]; grind
  · have ec : ((2 : Nat) : Rat) = 2 := rfl
    rw [if_neg (show ¬ ((((2 : Nat) : Int)) = 0) by decide), if_neg (show ¬ ((((2 : Nat) : Int)) = 1) by decide), if_pos (show ((2 : Nat) : Int) = 2 from rfl)]
    exact ⟨ch 2 P (psi_is (t := F + 4) n (by grind) (psi_5 (by grind) (by grind) n)), ch 0 Vv (psi_is (t := F + 2) n (by grind) (psi_1 (by grind) (by grind) n)),
      ch (-2) Tt (psi_is (t := F) n (by grind) (psi_0 f0 f1' n))⟩
  · have ec : ((3 : Nat) : Rat) = 3 := rfl
    rw [if_neg (show ¬ ((((3 : Nat) : Int)) = 0) by decide), if_neg (show ¬ ((((3 : Nat) : Int)) = 1) by decide), if_neg (show ¬ ((((3 : Nat) : Int)) = 2) by decide), if_pos (show ((3 : Nat) : Int) = 3 from rfl)]
    refine ⟨ch 2 P (psi_is (t := F + 5) n (by grind) (psi_5 (by grind) (by grind) n)), ch 0 Qq ?_, ch (-2) Vv (psi_is (t := F + 1) n (by grind) (psi_1 (by grind) (by grind) n))⟩
    rw [psi_is (t := F + 3) n (by grind) (psi_3 (by grind) (by grind) n)]; grind
  · have ec : ((4 : Nat) : Rat) = 4 := rfl
    rw [if_neg (show ¬ ((((4 : Nat) : Int)) = 0) by decide), if_neg (show ¬ ((((4 : Nat) : Int)) = 1) by decide), if_neg (show ¬ ((((4 : Nat) : Int)) = 2) by decide), if_neg (show ¬ ((((4 : Nat) : Int)) = 3) by decide), if_pos (show ((4 : Nat) : Int) = 4 from rfl)]
    exact ⟨ch 2 Tt (psi_is (t := F) ((n : Int) + 1) (by grind) (psi_0 f0 f1' _)), ch 0 P (psi_is (t := F + 4) n (by grind) (psi_5 (by grind) (by grind) n)),
      ch (-2) Vv (psi_is (t := F + 2) n (by grind) (psi_1 (by grind) (by grind) n))⟩
  · have ec : ((5 : Nat) : Rat) = 5 := rfl
    rw [if_neg (show ¬ ((((5 : Nat) : Int)) = 0) by decide), if_neg (show ¬ ((((5 : Nat) : Int)) = 1) by decide), if_neg (show ¬ ((((5 : Nat) : Int)) = 2) by decide), if_neg (show ¬ ((((5 : Nat) : Int)) = 3) by decide), if_neg (show ¬ ((((5 : Nat) : Int)) = 4) by decide)]
    refine ⟨ch 2 Vv (psi_is (t := F + 1) ((n : Int) + 1) (by grind) (psi_1 (by grind) (by grind) _)), ch 0 P (psi_is (t := F + 5) n (by grind) (psi_5 (by grind) (by grind) n)), ch (-2) Qq ?_⟩
    rw [psi_is (t := F + 3) n (by grind) (psi_3 (by grind) (by grind) n)]; grind
end Mine
end
section
open PySem PySem.W PyProof.Rows PySem.Flt PySem.Float64
set_option maxRecDepth 100000
namespace Mine
theorem c_third : IsFin 4599676419421066581 ∧ Cl uu (fv 4599676419421066581) (1 / 3) := by
  refine ⟨fin_of (by decide +kernel), ?_⟩
  have := cl_of_frac (c := 4599676419421066581) (a := 1) (b := 3) (k := 0) (by decide) (by decide +kernel)
  have e : (((1 : Int) : Rat)) / ((3 : Int) : Rat) = 1 / 3 := rfl
  rw [e] at this
  have l := er0_le
  obtain ⟨a, b⟩ := this
  exact ⟨by grind, by grind⟩
theorem c_sixth : IsFin 4595172819793696085 ∧ Cl uu (fv 4595172819793696085) (1 / 6) := by
  refine ⟨fin_of (by decide +kernel), ?_⟩
  have := cl_of_frac (c := 4595172819793696085) (a := 1) (b := 6) (k := 0) (by decide) (by decide +kernel)
  have e : (((1 : Int) : Rat)) / ((6 : Int) : Rat) = 1 / 6 := rfl
  rw [e] at this
  have l := er0_le
  obtain ⟨a, b⟩ := this
  exact ⟨by grind, by grind⟩
theorem c_two3 : IsFin 4604180019048437077 ∧ Cl uu (fv 4604180019048437077) (2 / 3) := by
  refine ⟨fin_of (by decide +kernel), ?_⟩
  have := cl_of_frac (c := 4604180019048437077) (a := 2) (b := 3) (k := 0) (by decide) (by decide +kernel)
  have e : (((2 : Int) : Rat)) / ((3 : Int) : Rat) = 2 / 3 := rfl
  rw [e] at this
  have l := er0_le
  obtain ⟨a, b⟩ := this
  exact ⟨by grind, by grind⟩
theorem psi_tent {y : Rat} (h0 : 0 ≤ y) (h1 : y < 6) : psi y = tent y := psi_at (n := 0) (by rw [n0]; grind) h0 h1
theorem psi_six : psi 6 = 0 := by
  have := psi_6 1
  rw [n1] at this
  rw [show (6 : Rat) = 6 * 1 by grind]; exact this
theorem v_spec {m1 m2 hue : UInt64} {A B Y : Rat} (hh : Ap hue (Y / 6) 12) (h1 : Ap m1 A 102) (h2 : Ap m2 B 80) (a0 : 0 ≤ A) (a1 : A ≤ 1) (b0 : 0 ≤ B) (b1 : B ≤ 1) : Ap (vF m1 m2 hue) (A + (B - A) * psi Y) 2900 := by
  obtain ⟨u0, u1⟩ := uu_pos
  obtain ⟨fz, z0, z1, n, _, zn1, zn2⟩ := hh.mod1
  have hz : Ap (mod1 hue) (fv (mod1 hue)) 0 := Ap.exact fz
  obtain ⟨f16, s1, s2⟩ := c_sixth
  obtain ⟨f23, t1, t2⟩ := c_two3
  have fh : fv 4602678819172646912 = 1 / 2 := by rw [G_h.fv, G_half]
  have i1 := ltF_iff fz f16
  have i2 := ltF_iff fz G_h.1
  have i3 := ltF_iff fz f23
  rw [fh] at i2
  have g6 := Ap.of_G G_6
  rw [G_six] at g6
  have a23 : Ap 4604180019048437077 (2 / 3) 1 := ⟨f23, by rw [Rat.one_mul]; exact ⟨t1, t2⟩⟩
  generalize hZ : fv (mod1 hue) = Z at *
  -- from the place in the turn to Y
  have fin : ∀ {c : UInt64} {φ : Rat}, Ap c (A + (B - A) * φ) 2700 → Cl (6 * uu) (psi (6 * Z)) φ → Ap c (A + (B - A) * psi Y) 2900 := by
    intro c φ hc hφ
    have l : Cl (100 * uu) (6 * Z) (Y + 6 * ((-n : Int) : Rat)) := by
      rw [Rat.intCast_neg]
      constructor <;> grind
    have p := psi_lip l
    rw [psi_per] at p
    obtain ⟨p1, p2⟩ := p
    obtain ⟨q1, q2⟩ := hφ
    have k : ∀ x : Rat, x ≤ 106 * uu → -(106 * uu) ≤ x → (B - A) * x ≤ 106 * uu ∧ -(106 * uu) ≤ (B - A) * x := by
      intro x x1 x2
      by_cases c : 0 ≤ B - A
      · exact prod_bd c (by grind) x1 x2
      · have := prod_bd (a := A - B) (b := x) (by grind) (by grind) x1 x2
        constructor <;> grind
    have k1 := k (φ - psi Y) (by grind) (by grind)
    exact (hc.to (m := 106) (q := A + (B - A) * psi Y) ⟨by grind, by grind⟩).mono (by decide +kernel)
  have pt : Z < 1 → psi (6 * Z) = tent (6 * Z) := fun h => psi_tent (by grind) (by grind)
  have p6 : ¬ Z < 1 → psi (6 * Z) = 0 := fun h => by
    have : Z = 1 := by grind
    rw [this, show (6 * 1 : Rat) = 6 by grind]; exact psi_six
  have d := h2.sub h1 (by decide +kernel) (by decide +kernel) (by grind) (by grind)
  unfold vF
  by_cases c1 : ltF (mod1 hue) 4595172819793696085 = true
  · rw [if_pos c1]
    have l1 := i1.mp c1
    have x1 := d.mul hz (P := 1) (Q := 1) (by decide +kernel) (by decide +kernel) (by decide +kernel) (by decide +kernel) (by grind) (by grind) z1 (by grind) (by decide +kernel) (by decide +kernel) (by decide +kernel) (by decide +kernel) (by decide +kernel)
    have bd : (B - A) * Z ≤ 1 ∧ -1 ≤ (B - A) * Z := by
      have := prod_bd (a := Z) (b := B - A) (e := 1) z0 z1 (by grind) (by grind)
      constructor <;> grind
    have x2 := x1.mul g6 (P := 1) (Q := 6) (by decide +kernel) (by decide +kernel) (by decide +kernel) (by decide +kernel) bd.1 bd.2 (by decide +kernel) (by decide +kernel) (by decide +kernel) (by decide +kernel) (by decide +kernel) (by decide +kernel) (by decide +kernel)
    have x3 := h1.add x2 (by decide +kernel) (by decide +kernel) (by grind) (by grind)
    refine fin (φ := 6 * Z) ?_ ?_
    · have e : A + (B - A) * (6 * Z) = A + (B - A) * Z * 6 := by grind
      rw [e]; exact x3.mono (by decide +kernel)
    · rw [pt (by grind)]
      unfold tent
      constructor <;> grind
  rw [if_neg c1]
  have l1 : ¬ Z < fv 4595172819793696085 := fun h => c1 (i1.mpr h)
  by_cases c2 : ltF (mod1 hue) 4602678819172646912 = true
  · rw [if_pos c2]
    have l2 := i2.mp c2
    refine fin (φ := 1) ?_ ?_
    · have e : A + (B - A) * 1 = B := by grind
      rw [e]; exact h2.mono (by decide +kernel)
    · rw [pt (by grind)]
      unfold tent
      constructor <;> grind
  rw [if_neg c2]
  have l2 : ¬ Z < 1 / 2 := fun h => c2 (i2.mpr h)
  by_cases c3 : ltF (mod1 hue) 4604180019048437077 = true
  · rw [if_pos c3]
    have l3 := i3.mp c3
    have x0 := a23.sub hz (by decide +kernel) (by decide +kernel) (by grind) (by grind)
    have x1 := d.mul x0 (P := 1) (Q := 1) (by decide +kernel) (by decide +kernel) (by decide +kernel) (by decide +kernel) (by grind) (by grind) (by grind) (by grind) (by decide +kernel) (by decide +kernel) (by decide +kernel) (by decide +kernel) (by decide +kernel)
    have bd : (B - A) * (2 / 3 - Z) ≤ 1 ∧ -1 ≤ (B - A) * (2 / 3 - Z) := by
      by_cases c : 0 ≤ B - A
      · exact prod_bd (a := B - A) (b := 2 / 3 - Z) (e := 1) c (by grind) (by grind) (by grind)
      · have := prod_bd (a := A - B) (b := 2 / 3 - Z) (e := 1) (by grind) (by grind) (by grind) (by grind)
        constructor <;> grind
    have x2 := x1.mul g6 (P := 1) (Q := 6) (by decide +kernel) (by decide +kernel) (by decide +kernel) (by decide +kernel) bd.1 bd.2 (by decide +kernel) (by decide +kernel) (by decide +kernel) (by decide +kernel) (by decide +kernel) (by decide +kernel) (by decide +kernel)
    have x3 := h1.add x2 (by decide +kernel) (by decide +kernel) (by grind) (by grind)
    refine fin (φ := 4 - 6 * Z) ?_ ?_
    · have e : A + (B - A) * (4 - 6 * Z) = A + (B - A) * (2 / 3 - Z) * 6 := by grind
      rw [e]; exact x3.mono (by decide +kernel)
    · rw [pt (by grind)]
      unfold tent
      constructor <;> grind
  rw [if_neg c3]
  have l3 : ¬ Z < fv 4604180019048437077 := fun h => c3 (i3.mpr h)
  refine fin (φ := 0) ?_ ?_
  · have e : A + (B - A) * 0 = A := by grind
    rw [e]; exact h1.mono (by decide +kernel)
  · by_cases c : Z < 1
    · rw [pt c]
      unfold tent
      constructor <;> grind
    · rw [p6 c]
      constructor <;> grind
end Mine
end
section
open PySem PySem.W PyProof.Rows PySem.Flt PySem.Float64
set_option maxRecDepth 100000
namespace Mine
def minR (L : Rat) : Rat := if L ≤ 1 / 2 then L else 1 - L
def HlsVal (L S Y : Rat) : Rat := L + S * minR L * (2 * psi Y - 1)
theorem minR_bd {L : Rat} (h0 : 0 ≤ L) (h1 : L ≤ 1) : 0 ≤ minR L ∧ minR L ≤ L ∧ minR L ≤ 1 - L ∧ minR L ≤ 1 / 2 := by
  unfold minR
  grind
theorem m2_spec {l s : UInt64} {L S : Rat} (hl : Ap l L 10) (hs : Ap s S 10) (l0 : 0 ≤ L) (l1 : L ≤ 1) (s0 : 0 ≤ S) (s1 : S ≤ 1) : Ap (m2F l s) (L + S * minR L) 80 := by
  obtain ⟨u0, u1⟩ := uu_pos
  have fh : fv 4602678819172646912 = 1 / 2 := by rw [G_h.fv, G_half]
  have i1 := leF_iff hl.1 G_h.1
  rw [fh] at i1
  have b := prod_01 l0 l1 s0 s1
  obtain ⟨_, x1, x2⟩ := id hl
  unfold m2F
  by_cases c : leF l 4602678819172646912 = true
  · rw [if_pos c]
    have c' := i1.mp c
    have a := ap1.add hs (by decide +kernel) (by decide +kernel) (by grind) (by grind)
    have m := hl.mul a (P := 1) (Q := 2) (by decide +kernel) (by decide +kernel) (by decide +kernel) (by decide +kernel) l1 (by grind) (by grind) (by grind) (by decide +kernel) (by decide +kernel) (by decide +kernel) (by decide +kernel) (by decide +kernel)
    have e : Cl (20 * uu) (L * (1 + S)) (L + S * minR L) := by
      have k := prod_bd (a := S) (b := L - minR L) (e := 20 * uu) s0 s1 (by unfold minR; grind) (by unfold minR; grind)
      constructor <;> grind
    exact (m.to e).mono (by decide +kernel)
  · rw [if_neg c]
    have c' : ¬ fv l ≤ 1 / 2 := fun h => c (i1.mpr h)
    have a := hl.add hs (by decide +kernel) (by decide +kernel) (by grind) (by grind)
    have m := hl.mul hs (P := 1) (Q := 1) (by decide +kernel) (by decide +kernel) (by decide +kernel) (by decide +kernel) l1 (by grind) s1 (by grind) (by decide +kernel) (by decide +kernel) (by decide +kernel) (by decide +kernel) (by decide +kernel)
    have d := a.sub m (by decide +kernel) (by decide +kernel) (by grind) (by grind)
    have e : Cl (20 * uu) (L + S - L * S) (L + S * minR L) := by
      have k := prod_bd (a := S) (b := (1 - L) - minR L) (e := 20 * uu) s0 s1 (by unfold minR; grind) (by unfold minR; grind)
      constructor <;> grind
    exact (d.to e).mono (by decide +kernel)
theorem hls_bwd {h l s : UInt64} {S L Y : Rat} (hh : Ap h (Y / 6) 10) (y0 : -60 ≤ Y) (y1 : Y ≤ 60) (hl : Ap l L 10) (hs : Ap s S 10) (l0 : 0 ≤ L) (l1 : L ≤ 1) (s0 : 0 ≤ S) (s1 : S ≤ 1) :
    Ap (rgbOfHls h l s).1 (HlsVal L S (Y + 2)) 2900 ∧ Ap (rgbOfHls h l s).2.1 (HlsVal L S Y) 2900 ∧ Ap (rgbOfHls h l s).2.2 (HlsVal L S (Y - 2)) 2900 := by
  obtain ⟨u0, u1⟩ := uu_pos
  obtain ⟨w0, w1, w2, w3⟩ := minR_bd l0 l1
  have fin0 : IsFin 0 := G_0.1
  have fv0 : fv 0 = 0 := by rw [G_0.fv, G_zero]
  unfold rgbOfHls
  by_cases c0 : eqF s 0 = true
  · rw [if_pos c0]
    have hz := (eqF_iff hs.1 fin0).mp c0
    rw [fv0] at hz
    have key : ∀ y, Ap l (HlsVal L S y) 2900 := by
      intro y
      obtain ⟨p0, p1⟩ := psi_01 y
      obtain ⟨_, a, b⟩ := hs
      rw [hz] at a b
      have k1 := prod_bd (a := minR L) (b := S) (e := 10 * uu) w0 (by grind) (by grind) (by grind)
      have k2 : S * minR L * (2 * psi y - 1) ≤ 10 * uu ∧ -(10 * uu) ≤ S * minR L * (2 * psi y - 1) := by
        by_cases c : 0 ≤ 2 * psi y - 1
        · have := prod_bd (a := 2 * psi y - 1) (b := S * minR L) (e := 10 * uu) c (by grind) (by grind) (by grind)
          constructor <;> grind
        · have := prod_bd (a := 1 - 2 * psi y) (b := S * minR L) (e := 10 * uu) (by grind) (by grind) (by grind) (by grind)
          constructor <;> grind
      refine (hl.to (m := 10) (q := HlsVal L S y) ?_).mono (by decide +kernel)
      unfold HlsVal
      constructor <;> grind
    exact ⟨key _, key _, key _⟩
  rw [if_neg c0]
  have sw := prod_bd (a := S) (b := minR L) (e := minR L) s0 s1 (by grind) (by grind)
  have sw0 := Rat.mul_nonneg s0 w0
  have h2 := m2_spec hl hs l0 l1 s0 s1
  have two' := Ap.of_G G_2
  rw [G_two] at two'
  have ll := two'.mul hl (P := 2) (Q := 1) (by decide +kernel) (by decide +kernel) (by decide +kernel) (by decide +kernel) (by decide +kernel) (by decide +kernel) l1 (by grind) (by decide +kernel) (by decide +kernel) (by decide +kernel) (by decide +kernel) (by decide +kernel)
  have h1 := ll.sub h2 (by decide +kernel) (by decide +kernel) (by grind) (by grind)
  have e1 : 2 * L - (L + S * minR L) = L - S * minR L := by grind
  rw [e1] at h1
  have h1' : Ap (m1F l s) (L - S * minR L) 102 := h1.mono (by decide +kernel)
  have third : Ap 4599676419421066581 (1 / 3) 1 := ⟨c_third.1, by rw [Rat.one_mul]; exact c_third.2⟩
  have hp := hh.add third (by decide +kernel) (by decide +kernel) (by grind) (by grind)
  have hn := hh.sub third (by decide +kernel) (by decide +kernel) (by grind) (by grind)
  rw [show Y / 6 + 1 / 3 = (Y + 2) / 6 by grind] at hp
  rw [show Y / 6 - 1 / 3 = (Y - 2) / 6 by grind] at hn
  have ev : ∀ y, (L - S * minR L) + ((L + S * minR L) - (L - S * minR L)) * psi y = HlsVal L S y := by
    intro y; unfold HlsVal; grind
  refine ⟨?_, ?_, ?_⟩
  · rw [← ev]; exact v_spec (hp.mono (by decide +kernel)) h1' h2 (by grind) (by grind) (by grind) (by grind)
  · rw [← ev]; exact v_spec (hh.mono (by decide +kernel)) h1' h2 (by grind) (by grind) (by grind) (by grind)
  · rw [← ev]; exact v_spec (hn.mono (by decide +kernel)) h1' h2 (by grind) (by grind) (by grind) (by grind)
end Mine
end
section
open PySem PySem.W PyProof.Rows PySem.Flt PySem.Float64
set_option maxRecDepth 100000
namespace Mine
theorem ap_const {c : UInt64} {a b : Int} {q : Rat} (hf : Float64.isFinite c = true) (hb : 0 < b) (h : (b * val c - a * ((2 ^ 1074 : Nat) : Int)).natAbs ≤ b.natAbs * 2 ^ (1021 + 1)) (e : (((a : Int) : Rat)) / ((b : Int) : Rat) = q) : Ap c q 1 := by
  have := cl_of_frac (k := 1) hb h
  rw [e] at this
  have l : er 1 ≤ uu := by unfold er two uu; decide +kernel
  obtain ⟨x, y⟩ := this
  exact ⟨fin_of hf, by rw [Rat.one_mul]; grind, by rw [Rat.one_mul]; grind⟩
theorem k_30 : Ap 4599075939470750515 (3 / 10) 1 := ap_const (a := 3) (b := 10) (by decide +kernel) (by decide) (by decide +kernel) (by decide +kernel)
theorem k_59 : Ap 4603489467105573601 (59 / 100) 1 := ap_const (a := 59) (b := 100) (by decide +kernel) (by decide) (by decide +kernel) (by decide +kernel)
theorem k_11 : Ap 4592590756007337001 (11 / 100) 1 := ap_const (a := 11) (b := 100) (by decide +kernel) (by decide) (by decide +kernel) (by decide +kernel)
theorem k_74 : Ap 4604840546993784750 (74 / 100) 1 := ap_const (a := 74) (b := 100) (by decide +kernel) (by decide) (by decide +kernel) (by decide +kernel)
theorem k_27 : Ap 4598535507515466056 (27 / 100) 1 := ap_const (a := 27) (b := 100) (by decide +kernel) (by decide) (by decide +kernel) (by decide +kernel)
theorem k_48 : Ap 4602318531202457272 (48 / 100) 1 := ap_const (a := 48) (b := 100) (by decide +kernel) (by decide) (by decide +kernel) (by decide +kernel)
theorem k_41 : Ap 4601057523306793533 (41 / 100) 1 := ap_const (a := 41) (b := 100) (by decide +kernel) (by decide) (by decide +kernel) (by decide +kernel)
theorem k_a1 : Ap 4606703976345377586 (9468822170900693 / 10000000000000000) 1 := ap_const (a := 9468822170900693) (b := 10000000000000000) (by decide +kernel) (by decide) (by decide +kernel) (by decide +kernel)
theorem k_a2 : Ap 4603791717925830846 (6235565819861433 / 10000000000000000) 1 := ap_const (a := 6235565819861433) (b := 10000000000000000) (by decide +kernel) (by decide) (by decide +kernel) (by decide +kernel)
theorem k_b1 : Ap 4598621754083818298 (27478764629897834 / 100000000000000000) 1 := ap_const (a := 27478764629897834) (b := 100000000000000000) (by decide +kernel) (by decide) (by decide +kernel) (by decide +kernel)
theorem k_b2 : Ap 4603901015759978483 (6356910791873801 / 10000000000000000) 1 := ap_const (a := 6356910791873801) (b := 10000000000000000) (by decide +kernel) (by decide) (by decide +kernel) (by decide +kernel)
theorem k_c1 : Ap 4607671262177584182 (11085450346420322 / 10000000000000000) 1 := ap_const (a := 11085450346420322) (b := 10000000000000000) (by decide +kernel) (by decide) (by decide +kernel) (by decide +kernel)
theorem k_c2 : Ap 4610375502138591871 (17090069284064666 / 10000000000000000) 1 := ap_const (a := 17090069284064666) (b := 10000000000000000) (by decide +kernel) (by decide) (by decide +kernel) (by decide +kernel)
def clampR (X : Rat) : Rat := if X < 0 then 0 else if 1 < X then 1 else X
theorem clip_ap {x : UInt64} {X n : Rat} (h : Ap x X n) (n0 : 0 ≤ n) : Ap (clip1 (clip0 x)) (clampR X) n := by
  obtain ⟨u0, u1⟩ := uu_pos
  have nu := Rat.mul_nonneg n0 (Rat.le_of_lt u0)
  obtain ⟨f, a, b⟩ := h
  have fv0 : fv 0 = 0 := by rw [G_0.fv, G_zero]
  have fv1 : fv 4607182418800017408 = 1 := by rw [G_1.fv, G_one]
  have i0 : (Float64.cmp x 0 == some .lt) = true ↔ fv x < 0 := by
    have := ltF_iff f G_0.1
    rw [fv0] at this; exact this
  unfold clip0 pick
  by_cases c : (Float64.cmp x 0 == some .lt) = true
  · rw [if_pos c]
    have c' := i0.mp c
    have i1 := gt_iff (x := 0) (y := 4607182418800017408) G_0.1 G_1.1
    rw [fv0, fv1] at i1
    unfold clip1 pick
    rw [if_neg (fun z => absurd (i1.mp z) (by decide))]
    refine ⟨G_0.1, ?_⟩
    rw [fv0]
    unfold clampR
    constructor <;> grind
  · rw [if_neg c]
    have c' : ¬ fv x < 0 := fun z => c (i0.mpr z)
    have i1 := gt_iff (x := x) (y := 4607182418800017408) f G_1.1
    rw [fv1] at i1
    unfold clip1 pick
    by_cases d : (Float64.cmp x 4607182418800017408 == some .gt) = true
    · rw [if_pos d]
      have d' := i1.mp d
      refine ⟨G_1.1, ?_⟩
      rw [fv1]
      unfold clampR
      constructor <;> grind
    · rw [if_neg d]
      have d' : ¬ 1 < fv x := fun z => d (i1.mpr z)
      refine ⟨f, ?_⟩
      unfold clampR
      constructor <;> grind
theorem inv_R {R G B y K : Rat} (hl : y = 3 / 10 * R + 59 / 100 * G + 11 / 100 * B) (r0 : 0 ≤ R) (r1 : R ≤ 1) (g0 : 0 ≤ G) (g1 : G ≤ 1) (b0 : 0 ≤ B) (b1 : B ≤ 1) : Cl (20 * uu) (y + K + (9468822170900693 / 10000000000000000) * (74 / 100 * (R - y) - 27 / 100 * (B - y)) + (6235565819861433 / 10000000000000000) * (48 / 100 * (R - y) + 41 / 100 * (B - y))) (R + K) := by
  have e : y + K + (9468822170900693 / 10000000000000000) * (74 / 100 * (R - y) - 27 / 100 * (B - y)) + (6235565819861433 / 10000000000000000) * (48 / 100 * (R - y) + 41 / 100 * (B - y)) = R + K + ((21 / 625000000000000000) * R + (-1593 / 25000000000000000000) * G + (753 / 25000000000000000000) * B) := by
    subst hl
    grind
  rw [e]
  have hu : 20 * uu = 20 / 562949953421312 := by unfold uu; decide +kernel
  rw [hu]
  clear e hu hl
  constructor <;> grind
theorem inv_G {R G B y K : Rat} (hl : y = 3 / 10 * R + 59 / 100 * G + 11 / 100 * B) (r0 : 0 ≤ R) (r1 : R ≤ 1) (g0 : 0 ≤ G) (g1 : G ≤ 1) (b0 : 0 ≤ B) (b1 : B ≤ 1) : Cl (20 * uu) (y + K - (27478764629897834 / 100000000000000000) * (74 / 100 * (R - y) - 27 / 100 * (B - y)) - (6356910791873801 / 10000000000000000) * (48 / 100 * (R - y) + 41 / 100 * (B - y))) (G + K) := by
  have e : y + K - (27478764629897834 / 100000000000000000) * (74 / 100 * (R - y) - 27 / 100 * (B - y)) - (6356910791873801 / 10000000000000000) * (48 / 100 * (R - y) + 41 / 100 * (B - y)) = G + K + ((163 / 12500000000000000000) * R + (-247 / 15625000000000000000) * G + (173 / 62500000000000000000) * B) := by
    subst hl
    grind
  rw [e]
  have hu : 20 * uu = 20 / 562949953421312 := by unfold uu; decide +kernel
  rw [hu]
  clear e hu hl
  constructor <;> grind
theorem inv_B {R G B y K : Rat} (hl : y = 3 / 10 * R + 59 / 100 * G + 11 / 100 * B) (r0 : 0 ≤ R) (r1 : R ≤ 1) (g0 : 0 ≤ G) (g1 : G ≤ 1) (b0 : 0 ≤ B) (b1 : B ≤ 1) : Cl (20 * uu) (y + K - (11085450346420322 / 10000000000000000) * (74 / 100 * (R - y) - 27 / 100 * (B - y)) + (17090069284064666 / 10000000000000000) * (48 / 100 * (R - y) + 41 / 100 * (B - y))) (B + K) := by
  have e : y + K - (11085450346420322 / 10000000000000000) * (74 / 100 * (R - y) - 27 / 100 * (B - y)) + (17090069284064666 / 10000000000000000) * (48 / 100 * (R - y) + 41 / 100 * (B - y)) = B + K + ((49 / 500000000000000000) * R + (-413 / 5000000000000000000) * G + (-77 / 5000000000000000000) * B) := by
    subst hl
    grind
  rw [e]
  have hu : 20 * uu = 20 / 562949953421312 := by unfold uu; decide +kernel
  rw [hu]
  clear e hu hl
  constructor <;> grind
def lumR (R G B : Rat) : Rat := 3 / 10 * R + 59 / 100 * G + 11 / 100 * B
section
variable {r g b : UInt64} {R G B : Rat} (hr : Ap r R 0) (hg : Ap g G 0) (hb : Ap b B 0) (r0 : 0 ≤ R) (r1 : R ≤ 1) (g0 : 0 ≤ G) (g1 : G ≤ 1) (b0 : 0 ≤ B) (b1 : B ≤ 1)
include hr hg hb r0 r1 g0 g1 b0 b1
theorem lum_ap : Ap (lumF r g b) (lumR R G B) 11 ∧ 0 ≤ lumR R G B ∧ lumR R G B ≤ 1 := by
  have x := k_30.mul hr (P := 1) (Q := 1) (by decide +kernel) (by decide +kernel) (by decide +kernel) (by decide +kernel) (by decide +kernel) (by decide +kernel) (by grind) (by grind) (by decide +kernel) (by decide +kernel) (by decide +kernel) (by decide +kernel) (by decide +kernel)
  have y := k_59.mul hg (P := 1) (Q := 1) (by decide +kernel) (by decide +kernel) (by decide +kernel) (by decide +kernel) (by decide +kernel) (by decide +kernel) (by grind) (by grind) (by decide +kernel) (by decide +kernel) (by decide +kernel) (by decide +kernel) (by decide +kernel)
  have z := k_11.mul hb (P := 1) (Q := 1) (by decide +kernel) (by decide +kernel) (by decide +kernel) (by decide +kernel) (by decide +kernel) (by decide +kernel) (by grind) (by grind) (by decide +kernel) (by decide +kernel) (by decide +kernel) (by decide +kernel) (by decide +kernel)
  refine ⟨(((x.add y (by decide +kernel) (by decide +kernel) (by grind) (by grind)).add z (by decide +kernel) (by decide +kernel) (by grind) (by grind)).mono (by decide +kernel)), ?_, ?_⟩ <;> (unfold lumR; grind)
theorem iq_ap : Ap (yiqF r g b).2.1 (74 / 100 * (R - lumR R G B) - 27 / 100 * (B - lumR R G B)) 31 ∧ Ap (yiqF r g b).2.2 (48 / 100 * (R - lumR R G B) + 41 / 100 * (B - lumR R G B)) 31 := by
  obtain ⟨l, l0, l1⟩ := lum_ap hr hg hb r0 r1 g0 g1 b0 b1
  have x := hr.sub l (by decide +kernel) (by decide +kernel) (by grind) (by grind)
  have y := hb.sub l (by decide +kernel) (by decide +kernel) (by grind) (by grind)
  have x1 := k_74.mul x (P := 1) (Q := 1) (by decide +kernel) (by decide +kernel) (by decide +kernel) (by decide +kernel) (by decide +kernel) (by decide +kernel) (by grind) (by grind) (by decide +kernel) (by decide +kernel) (by decide +kernel) (by decide +kernel) (by decide +kernel)
  have y1 := k_27.mul y (P := 1) (Q := 1) (by decide +kernel) (by decide +kernel) (by decide +kernel) (by decide +kernel) (by decide +kernel) (by decide +kernel) (by grind) (by grind) (by decide +kernel) (by decide +kernel) (by decide +kernel) (by decide +kernel) (by decide +kernel)
  have x2 := k_48.mul x (P := 1) (Q := 1) (by decide +kernel) (by decide +kernel) (by decide +kernel) (by decide +kernel) (by decide +kernel) (by decide +kernel) (by grind) (by grind) (by decide +kernel) (by decide +kernel) (by decide +kernel) (by decide +kernel) (by decide +kernel)
  have y2 := k_41.mul y (P := 1) (Q := 1) (by decide +kernel) (by decide +kernel) (by decide +kernel) (by decide +kernel) (by decide +kernel) (by decide +kernel) (by grind) (by grind) (by decide +kernel) (by decide +kernel) (by decide +kernel) (by decide +kernel) (by decide +kernel)
  exact ⟨(x1.sub y1 (by decide +kernel) (by decide +kernel) (by grind) (by grind)).mono (by decide +kernel), (x2.add y2 (by decide +kernel) (by decide +kernel) (by grind) (by grind)).mono (by decide +kernel)⟩
theorem yiq_ap {y : UInt64} {K : Rat} (hy : Ap y (lumR R G B + K) 13) (k0 : -1 ≤ K) (k1 : K ≤ 1) :
    Ap (rgbOfYiq y (yiqF r g b).2.1 (yiqF r g b).2.2).1 (clampR (R + K)) 200 ∧ Ap (rgbOfYiq y (yiqF r g b).2.1 (yiqF r g b).2.2).2.1 (clampR (G + K)) 200 ∧ Ap (rgbOfYiq y (yiqF r g b).2.1 (yiqF r g b).2.2).2.2 (clampR (B + K)) 200 := by
  obtain ⟨l, l0, l1⟩ := lum_ap hr hg hb r0 r1 g0 g1 b0 b1
  obtain ⟨i, q⟩ := iq_ap hr hg hb r0 r1 g0 g1 b0 b1
  generalize (yiqF r g b).2.1 = fi at *
  generalize (yiqF r g b).2.2 = fq at *
  have hu : uu = 1 / 562949953421312 := rfl
  have hl : lumR R G B = 3 / 10 * R + 59 / 100 * G + 11 / 100 * B := rfl
  have x1 := k_a1.mul i (P := 2) (Q := 2) (by decide +kernel) (by decide +kernel) (by decide +kernel) (by decide +kernel) (by decide +kernel) (by decide +kernel) (by grind) (by grind) (by decide +kernel) (by decide +kernel) (by decide +kernel) (by decide +kernel) (by decide +kernel)
  have x2 := k_a2.mul q (P := 2) (Q := 2) (by decide +kernel) (by decide +kernel) (by decide +kernel) (by decide +kernel) (by decide +kernel) (by decide +kernel) (by grind) (by grind) (by decide +kernel) (by decide +kernel) (by decide +kernel) (by decide +kernel) (by decide +kernel)
  have y1 := k_b1.mul i (P := 2) (Q := 2) (by decide +kernel) (by decide +kernel) (by decide +kernel) (by decide +kernel) (by decide +kernel) (by decide +kernel) (by grind) (by grind) (by decide +kernel) (by decide +kernel) (by decide +kernel) (by decide +kernel) (by decide +kernel)
  have y2 := k_b2.mul q (P := 2) (Q := 2) (by decide +kernel) (by decide +kernel) (by decide +kernel) (by decide +kernel) (by decide +kernel) (by decide +kernel) (by grind) (by grind) (by decide +kernel) (by decide +kernel) (by decide +kernel) (by decide +kernel) (by decide +kernel)
  have z1 := k_c1.mul i (P := 2) (Q := 2) (by decide +kernel) (by decide +kernel) (by decide +kernel) (by decide +kernel) (by decide +kernel) (by decide +kernel) (by grind) (by grind) (by decide +kernel) (by decide +kernel) (by decide +kernel) (by decide +kernel) (by decide +kernel)
  have z2 := k_c2.mul q (P := 2) (Q := 2) (by decide +kernel) (by decide +kernel) (by decide +kernel) (by decide +kernel) (by decide +kernel) (by decide +kernel) (by grind) (by grind) (by decide +kernel) (by decide +kernel) (by decide +kernel) (by decide +kernel) (by decide +kernel)
  have x := ((hy.add x1 (by decide +kernel) (by decide +kernel) (by grind) (by grind)).add x2 (by decide +kernel) (by decide +kernel) (by grind) (by grind)).to (m := 20) (q := R + K) (inv_R rfl r0 r1 g0 g1 b0 b1)
  have y' := ((hy.sub y1 (by decide +kernel) (by decide +kernel) (by grind) (by grind)).sub y2 (by decide +kernel) (by decide +kernel) (by grind) (by grind)).to (m := 20) (q := G + K) (inv_G rfl r0 r1 g0 g1 b0 b1)
  have z := ((hy.sub z1 (by decide +kernel) (by decide +kernel) (by grind) (by grind)).add z2 (by decide +kernel) (by decide +kernel) (by grind) (by grind)).to (m := 20) (q := B + K) (inv_B rfl r0 r1 g0 g1 b0 b1)
  exact ⟨clip_ap (x.mono (by decide +kernel)) (by decide +kernel), clip_ap (y'.mono (by decide +kernel)) (by decide +kernel), clip_ap (z.mono (by decide +kernel)) (by decide +kernel)⟩
end
end Mine
end
section
open PySem PySem.W PyProof.Rows PySem.Flt PySem.Float64
set_option maxRecDepth 100000
namespace Mine
theorem IsG.half {x : UInt64} {n : Int} (h : IsG x (2 * n)) (hb : n.natAbs ≤ 2 ^ 50) : IsG (Float64.div x 4611686018427387904) n := by
  obtain ⟨⟨a, m, e, hx⟩, hv⟩ := h
  obtain ⟨b, k, f, hy⟩ := G_2.1
  have v2 : val 4611686018427387904 = ((2 * 2 ^ 1074 : Nat) : Int) := by decide +kernel
  have hk : k ≠ 0 := fun c => by
    have := val_natAbs hy
    rw [v2, c, Nat.zero_mul, Int.natAbs_natCast] at this
    exact absurd this (by decide +kernel)
  have hb0 : b = false := by
    cases b with
    | false => rfl
    | true =>
      have := val_eq hy
      rw [v2] at this
      unfold sgn at this
      simp only [if_true] at this
      have p : 0 < 2 * 2 ^ 1074 := by decide +kernel
      generalize 2 * 2 ^ 1074 = B at *
      generalize k * 2 ^ (f + 1074).toNat = C at *
      lia
  have e1 : (val x).natAbs = 2 * n.natAbs * 2 ^ 1050 := by
    rw [hv, Int.natAbs_mul, Int.natAbs_natCast, Int.natAbs_mul]; rfl
  have eD : (val 4611686018427387904).natAbs = 2 * 2 ^ 1074 := by rw [v2, Int.natAbs_natCast]
  have hR := div_right hx hy hk
  rw [e1, eD] at hR
  have eW : 2 * n.natAbs * 2 ^ 1050 * 2 ^ 1074 = 2 * 2 ^ 1074 * (n.natAbs * 2 ^ 1050) := by
    generalize 2 ^ 1050 = A
    generalize 2 ^ 1074 = B
    rw [Nat.mul_assoc 2, Nat.mul_assoc 2, Nat.mul_assoc 2, Nat.mul_comm B]
  obtain ⟨f', g'⟩ := right_exact hR (by decide +kernel) (k := 26) (by decide) (by
    rw [eW]
    refine Nat.mul_le_mul_left _ ?_
    rw [p60]
    exact Nat.mul_le_mul_right _ hb) (Nat.le_trans hb (by decide)) eW
  refine ⟨f', ?_⟩
  rw [g', hb0]
  have ea : (a != false) = a := by cases a <;> rfl
  rw [ea]
  have := val_eq hx
  rw [hv] at this
  have e2 : m * 2 ^ (e + 1074).toNat = 2 * (n.natAbs * 2 ^ 1050) := by rw [← val_natAbs hx, e1, Nat.mul_assoc]
  rw [e2] at this
  cases a with
  | false =>
    unfold sgn at this ⊢
    simp only [Bool.false_eq_true, if_false] at this ⊢
    have e3 : 2 * n * ((2 ^ 1050 : Nat) : Int) = 2 * (n * ((2 ^ 1050 : Nat) : Int)) := Int.mul_assoc _ _ _
    rw [e3] at this
    generalize n * ((2 ^ 1050 : Nat) : Int) = A at *
    generalize n.natAbs * 2 ^ 1050 = B at *
    lia
  | true =>
    unfold sgn at this ⊢
    simp only [if_true] at this ⊢
    have e3 : 2 * n * ((2 ^ 1050 : Nat) : Int) = 2 * (n * ((2 ^ 1050 : Nat) : Int)) := Int.mul_assoc _ _ _
    rw [e3] at this
    generalize n * ((2 ^ 1050 : Nat) : Int) = A at *
    generalize n.natAbs * 2 ^ 1050 = B at *
    lia
theorem isZero_G {x : UInt64} {n : Int} (h : IsG x n) (hn : n ≠ 0) : Float64.isZero x = false := by
  obtain ⟨⟨a, m, e, hx⟩, hv⟩ := h
  cases hz : Float64.isZero x with
  | false => rfl
  | true =>
    exfalso
    unfold Float64.isZero at hz
    rw [hx] at hz
    cases m with
    | succ _ => cases hz
    | zero =>
      have e := val_eq hx
      rw [Nat.zero_mul] at e
      have e0 : val x = 0 := by rw [e]; cases a <;> rfl
      rw [e0] at hv
      rcases Int.mul_eq_zero.mp hv.symm with h | h
      · exact hn h
      · exact absurd (Int.natCast_eq_zero.mp h) (Nat.ne_of_gt (Nat.two_pow_pos _))
theorem hue_grey {R g b m : Rat} (h1 : R = m) (h2 : g = m) (h3 : b = m) : Hue R g b m 0 0 := ⟨by grind, by grind, by grind⟩
theorem ap0 : Ap 0 (0 / 6) 3 := by
  have := Ap.of_G G_0
  rw [G_zero] at this
  rw [show (0 : Rat) / 6 = 0 by decide +kernel]
  exact this.mono (by decide +kernel)
theorem ap00 : Ap 0 0 1 := by
  have := Ap.of_G G_0
  rw [G_zero] at this
  exact this.mono (by decide +kernel)
theorem fv0' : fv 0 = 0 := by rw [G_0.fv, G_zero]
theorem grey {k1 k2 k3 : Int} (h : min3I k1 k2 k3 = max3I k1 k2 k3) : k1 = min3I k1 k2 k3 ∧ k2 = min3I k1 k2 k3 ∧ k3 = min3I k1 k2 k3 := by
  obtain ⟨M1, M2, M3, M4⟩ := max3I_spec k1 k2 k3
  obtain ⟨m1, m2, m3, m4⟩ := min3I_spec k1 k2 k3
  lia
section
variable {r g b : UInt64} {k1 k2 k3 : Int} (hr : IsG r k1) (hg : IsG g k2) (hb : IsG b k3) (r0 : 0 ≤ k1) (g0 : 0 ≤ k2) (b0 : 0 ≤ k3) (r1 : k1 ≤ 16777216) (g1 : k2 ≤ 16777216) (b1 : k3 ≤ 16777216)
include hr hg hb r0 r1 g0 g1 b0 b1
theorem hsv_fwd : ∃ x S : Rat, Hue (G k1) (G k2) (G k3) (G (min3I k1 k2 k3)) (G (max3I k1 k2 k3) - G (min3I k1 k2 k3)) x ∧ S * G (max3I k1 k2 k3) = G (max3I k1 k2 k3) - G (min3I k1 k2 k3) ∧ 0 ≤ S ∧ S ≤ 1 ∧
    Ap (hsvF r g b).1 (x / 6) 3 ∧ 0 ≤ fv (hsvF r g b).1 ∧ fv (hsvF r g b).1 ≤ 1 ∧ Ap (hsvF r g b).2.1 S 1 ∧ IsG (hsvF r g b).2.2 (max3I k1 k2 k3) ∧ hsvOk r g b := by
  have hM := max3_G hr hg hb
  have hm := min3_G hr hg hb
  obtain ⟨M1, M2, M3, M4⟩ := max3I_spec k1 k2 k3
  obtain ⟨m1, m2, m3, m4⟩ := min3I_spec k1 k2 k3
  have ee := eqF_G hm hM
  by_cases c : min3I k1 k2 k3 = max3I k1 k2 k3
  · obtain ⟨e1, e2, e3⟩ := grey c
    have ce := ee.mpr c
    refine ⟨0, 0, ?_, ?_, by decide, by decide, ?_⟩
    · rw [← c, show G (min3I k1 k2 k3) - G (min3I k1 k2 k3) = 0 by grind]
      exact hue_grey (congrArg G e1) (congrArg G e2) (congrArg G e3)
    · rw [c]; grind
    · unfold hsvF
      rw [if_pos ce]
      refine ⟨ap0, by show 0 ≤ fv 0; rw [fv0']; decide, by show fv 0 ≤ 1; rw [fv0']; decide, ap00, hM, fun h => ?_⟩
      rw [ce] at h; cases h
  · have ce : ¬ eqF (min3F r g b) (max3F r g b) = true := fun h => c (ee.mp h)
    have hlt : min3I k1 k2 k3 < max3I k1 k2 k3 := by lia
    obtain ⟨x, H, a1, a2, a3⟩ := hue_spec hr hg hb r0 g0 b0 r1 g1 b1 hlt
    have hd : IsG (rngF r g b) (max3I k1 k2 k3 - min3I k1 k2 k3) := hM.sub hm (by lia)
    obtain ⟨s1, s2, s3⟩ := Ap.divG hd hM (by lia) (by lia) (by lia)
    rw [G_sub] at s1 s2 s3
    have gM : 0 < G (max3I k1 k2 k3) := by rw [← G_zero]; exact G_lt.mpr (by lia)
    refine ⟨x, _, H, div_mul' gM, s2, s3, ?_⟩
    unfold hsvF
    rw [if_neg ce]
    exact ⟨a1, a2, a3, s1, hM, fun _ => ⟨isZero_G hM (by lia), isZero_G hd (by lia)⟩⟩
theorem hls_fwd (h2 : ∃ t, max3I k1 k2 k3 + min3I k1 k2 k3 = 2 * t) : ∃ x S : Rat, Hue (G k1) (G k2) (G k3) (G (min3I k1 k2 k3)) (G (max3I k1 k2 k3) - G (min3I k1 k2 k3)) x ∧
    S * minR ((G (max3I k1 k2 k3) + G (min3I k1 k2 k3)) / 2) = (G (max3I k1 k2 k3) - G (min3I k1 k2 k3)) / 2 ∧ 0 ≤ S ∧ S ≤ 1 ∧
    Ap (hlsF r g b).1 (x / 6) 3 ∧ 0 ≤ fv (hlsF r g b).1 ∧ fv (hlsF r g b).1 ≤ 1 ∧ Ap (hlsF r g b).2.1 ((G (max3I k1 k2 k3) + G (min3I k1 k2 k3)) / 2) 0 ∧ Ap (hlsF r g b).2.2 S 1 ∧ hlsOk r g b := by
  have hM := max3_G hr hg hb
  have hm := min3_G hr hg hb
  obtain ⟨M1, M2, M3, M4⟩ := max3I_spec k1 k2 k3
  obtain ⟨m1, m2, m3, m4⟩ := min3I_spec k1 k2 k3
  have ee := eqF_G hm hM
  obtain ⟨t, ht⟩ := h2
  have hs : IsG (sumF r g b) (max3I k1 k2 k3 + min3I k1 k2 k3) := hM.add hm (by lia)
  have hl : IsG (litF r g b) t := by
    unfold litF
    rw [ht] at hs
    exact hs.half (by lia)
  have eL : G t = (G (max3I k1 k2 k3) + G (min3I k1 k2 k3)) / 2 := by
    have a := G_add (max3I k1 k2 k3) (min3I k1 k2 k3)
    rw [ht, show 2 * t = t + t by lia, G_add] at a
    grind
  have aL : Ap (litF r g b) ((G (max3I k1 k2 k3) + G (min3I k1 k2 k3)) / 2) 0 := by rw [← eL]; exact Ap.of_G hl
  have gm0 : 0 ≤ G (min3I k1 k2 k3) := by rw [← G_zero]; exact G_le.mpr (by lia)
  by_cases c : min3I k1 k2 k3 = max3I k1 k2 k3
  · obtain ⟨e1, e2, e3⟩ := grey c
    have ce := ee.mpr c
    refine ⟨0, 0, ?_, ?_, by decide, by decide, ?_⟩
    · rw [← c, show G (min3I k1 k2 k3) - G (min3I k1 k2 k3) = 0 by grind]
      exact hue_grey (congrArg G e1) (congrArg G e2) (congrArg G e3)
    · rw [c]; grind
    · unfold hlsF
      rw [if_pos ce]
      refine ⟨ap0, by show 0 ≤ fv 0; rw [fv0']; decide, by show fv 0 ≤ 1; rw [fv0']; decide, aL, ap00, fun h => ?_⟩
      rw [ce] at h; cases h
  · have ce : ¬ eqF (min3F r g b) (max3F r g b) = true := fun h => c (ee.mp h)
    have hlt : min3I k1 k2 k3 < max3I k1 k2 k3 := by lia
    obtain ⟨x, H, a1, a2, a3⟩ := hue_spec hr hg hb r0 g0 b0 r1 g1 b1 hlt
    have hd : IsG (rngF r g b) (max3I k1 k2 k3 - min3I k1 k2 k3) := hM.sub hm (by lia)
    have hdf : IsG (defF r g b) (33554432 - max3I k1 k2 k3 - min3I k1 k2 k3) := (G_2.sub hM (by lia)).sub hm (by lia)
    have ok : hlsOk r g b := fun _ => ⟨isZero_G hd (by lia), fun _ => isZero_G hs (by lia), fun _ => isZero_G hdf (by lia)⟩
    have il := leF_iff hl.1 G_h.1
    rw [hl.fv, G_h.fv, G_half, eL] at il
    by_cases cl : leF (litF r g b) 4602678819172646912 = true
    · obtain ⟨s1, s2, s3⟩ := Ap.divG hd hs (by lia) (by lia) (by lia)
      have gs : 0 < G (max3I k1 k2 k3 + min3I k1 k2 k3) := by rw [← G_zero]; exact G_lt.mpr (by lia)
      have em := div_mul' (a := G (max3I k1 k2 k3 - min3I k1 k2 k3)) gs
      refine ⟨x, _, H, ?_, s2, s3, ?_⟩
      · unfold minR
        rw [if_pos (il.mp cl)]
        rw [G_sub, G_add] at em
        rw [G_sub, G_add]
        generalize (G (max3I k1 k2 k3) - G (min3I k1 k2 k3)) / (G (max3I k1 k2 k3) + G (min3I k1 k2 k3)) = S at *
        grind
      · unfold hlsF
        rw [if_neg ce, if_pos cl]
        exact ⟨a1, a2, a3, aL, s1, ok⟩
    · obtain ⟨s1, s2, s3⟩ := Ap.divG hd hdf (by lia) (by lia) (by lia)
      have gs : 0 < G (33554432 - max3I k1 k2 k3 - min3I k1 k2 k3) := by rw [← G_zero]; exact G_lt.mpr (by lia)
      have em := div_mul' (a := G (max3I k1 k2 k3 - min3I k1 k2 k3)) gs
      refine ⟨x, _, H, ?_, s2, s3, ?_⟩
      · unfold minR
        rw [if_neg (fun z => cl (il.mpr z))]
        rw [G_sub, G_sub, G_sub, G_two] at em
        rw [G_sub, G_sub, G_sub, G_two]
        generalize (G (max3I k1 k2 k3) - G (min3I k1 k2 k3)) / (2 - G (max3I k1 k2 k3) - G (min3I k1 k2 k3)) = S at *
        grind
      · unfold hlsF
        rw [if_neg ce, if_neg cl]
        exact ⟨a1, a2, a3, aL, s1, ok⟩
end
end Mine
end
section
open PySem PySem.W PyProof.Rows PySem.Flt PySem.Float64
set_option maxRecDepth 100000
namespace Mine
theorem ofInt_fv {n : Int} (h : n.natAbs ≤ 2 ^ 26) : IsFin (ofInt n) ∧ fv (ofInt n) = ((n : Int) : Rat) := by
  have g := ofInt_G h
  refine ⟨g.1, ?_⟩
  rw [g.fv]
  have a := G_mul (n * ((2 ^ 24 : Nat) : Int))
  rw [Rat.intCast_mul, two_int] at a
  have hp := two_pos 24
  refine Rat.le_antisymm (Rat.le_of_mul_le_mul_right (c := two 24) ?_ hp) (Rat.le_of_mul_le_mul_right (c := two 24) ?_ hp) <;> grind
theorem two21 : two 21 = 2097152 := by unfold two; decide +kernel
theorem er21 : er 21 = 1 / 4294967296 := by unfold er two; decide +kernel
theorem rnd_spec {c : UInt64} {X : Rat} {P : Int} {N : Nat} (h : Ap c X 3000) (x0 : 0 ≤ X) (x1 : X ≤ 1) (p0 : 0 < P) (p1 : P ≤ 262144) (hN : X * ((4 * P : Int) : Rat) = (N : Rat)) : rndOk P c ∧ rndI P c = (N : Int) := by
  have hu : uu = 1 / 562949953421312 := rfl
  obtain ⟨fc, c1, c2⟩ := h
  obtain ⟨fp, ep⟩ := ofInt_fv (n := 4 * P) (by lia)
  have q0 : (0 : Rat) < ((4 * P : Int) : Rat) := by
    rw [show (0 : Rat) = ((0 : Int) : Rat) from rfl]; exact Rat.intCast_lt_intCast.mpr (by lia)
  have q1 : ((4 * P : Int) : Rat) ≤ 1048576 := by
    rw [show (1048576 : Rat) = ((1048576 : Int) : Rat) from rfl]; exact Rat.intCast_le_intCast.mpr (by lia)
  generalize ((4 * P : Int) : Rat) = q at *
  have e : (fv c - X) * q ≤ 3000 * uu * q ∧ -(3000 * uu * q) ≤ (fv c - X) * q := by
    have a := Rat.mul_le_mul_of_nonneg_right c1 (Rat.le_of_lt q0)
    have b := Rat.mul_le_mul_of_nonneg_right c2 (Rat.le_of_lt q0)
    constructor <;> grind
  have e2 : 3000 * uu * q ≤ 1 / 100000 := by
    have := Rat.mul_le_mul_of_nonneg_left q1 (show (0 : Rat) ≤ 3000 * uu by rw [hu]; decide +kernel)
    rw [hu] at this ⊢
    grind
  have e3 : X * q ≤ q := by
    have := Rat.mul_le_mul_of_nonneg_right x1 (Rat.le_of_lt q0)
    grind
  have e4 := Rat.mul_nonneg x0 (Rat.le_of_lt q0)
  have cq : fv c * q - (N : Rat) ≤ 1 / 100000 ∧ -(1 / 100000) ≤ fv c * q - (N : Rat) := by
    constructor <;> grind
  obtain ⟨fm, m1, m2⟩ := mul_cl fc fp (k := 21) (by decide) (by rw [ep, two21]; grind) (by rw [ep, two21]; grind)
  rw [er21, ep] at m1 m2
  have fh : fv 4602678819172646912 = 1 / 2 := by rw [G_h.fv, G_half]
  obtain ⟨fa, a1, a2⟩ := add_cl fm G_h.1 (k := 21) (by decide) (by rw [fh, two21]; grind) (by rw [fh, two21]; grind)
  rw [er21, fh] at a1 a2
  refine ⟨fa.isFinite, ?_⟩
  unfold rndI
  exact trunc_spec fa (by grind) (by grind) (by grind)
end Mine
end
section
open PySem PySem.W PyProof.Rows PySem.Flt PySem.Float64
set_option maxRecDepth 100000
namespace Mine
theorem max3I_mul {a x y z : Int} (ha : 0 < a) : max3I (x * a) (y * a) (z * a) = max3I x y z * a := by
  have h : ∀ u v : Int, u * a > v * a ↔ u > v := fun u v => ⟨fun h => Int.lt_of_mul_lt_mul_right h (Int.le_of_lt ha), fun h => Int.mul_lt_mul_of_pos_right h ha⟩
  unfold max3I
  simp only [h]
  split <;> split <;> rfl
theorem min3I_mul {a x y z : Int} (ha : 0 < a) : min3I (x * a) (y * a) (z * a) = min3I x y z * a := by
  have h : ∀ u v : Int, u * a < v * a ↔ u < v := fun u v => ⟨fun h => Int.lt_of_mul_lt_mul_right h (Int.le_of_lt ha), fun h => Int.mul_lt_mul_of_pos_right h ha⟩
  unfold min3I
  simp only [h]
  split <;> split <;> rfl
theorem max3I_four (x y z : Int) : max3I (4 * x) (4 * y) (4 * z) = 4 * max3I x y z := by
  rw [Int.mul_comm 4 x, Int.mul_comm 4 y, Int.mul_comm 4 z, max3I_mul (by decide), Int.mul_comm]
theorem min3I_four (x y z : Int) : min3I (4 * x) (4 * y) (4 * z) = 4 * min3I x y z := by
  rw [Int.mul_comm 4 x, Int.mul_comm 4 y, Int.mul_comm 4 z, min3I_mul (by decide), Int.mul_comm]
/-- a whole number told as parts of Q -/
def Is (Q X : Rat) (t : Int) : Prop := X * Q = ((t : Int) : Rat)
theorem Is.mul4 {P c x : Int} (hc : 0 < c) (h : c * P = 16777216) : Is ((4 * P : Int) : Rat) (G (x * c)) (4 * x) := by
  have a := G_mul (x * c)
  have e : two 24 = ((c * P : Int) : Rat) := by rw [h]; unfold two; decide +kernel
  have hc' : (0 : Rat) < (c : Rat) := by rw [show (0 : Rat) = ((0 : Int) : Rat) from rfl]; exact Rat.intCast_lt_intCast.mpr hc
  rw [e, Rat.intCast_mul, Rat.intCast_mul] at a
  unfold Is
  rw [Rat.intCast_mul, Rat.intCast_mul, show ((4 : Int) : Rat) = 4 from rfl]
  refine Rat.le_antisymm (Rat.le_of_mul_le_mul_right (c := (c : Rat)) ?_ hc') (Rat.le_of_mul_le_mul_right (c := (c : Rat)) ?_ hc') <;> grind
theorem rot_hue {Q m d S : Rat} {T : Int} (hS : S = 2 * m + d) (hT : Is Q S T) {a1 a2 a3 x : Rat} {t : Int × Int × Int} (H : Hue a1 a2 a3 m d x) (h1 : Is Q a1 t.1) (h2 : Is Q a2 t.2.1) (h3 : Is Q a3 t.2.2) :
    ∀ k : Nat, ∃ b1 b2 b3 : Rat, Hue b1 b2 b3 m d (x + ((k : Nat) : Rat)) ∧ Is Q b1 (rotI T k t).1 ∧ Is Q b2 (rotI T k t).2.1 ∧ Is Q b3 (rotI T k t).2.2
  | 0 => ⟨a1, a2, a3, by rw [show x + ((0 : Nat) : Rat) = x by rw [show ((0 : Nat) : Rat) = 0 from rfl]; grind]; exact H, h1, h2, h3⟩
  | k + 1 => by
    obtain ⟨b1, b2, b3, ⟨e1, e2, e3⟩, i1, i2, i3⟩ := rot_hue hS hT H h1 h2 h3 k
    have s : ∀ {b : Rat} {u : Int}, Is Q b u → Is Q (S - b) (T - u) := by
      intro b u h
      unfold Is at h hT ⊢
      rw [Rat.intCast_sub]
      grind
    refine ⟨S - b2, S - b3, S - b1, ?_, s i2, s i3, s i1⟩
    have ek : ((k + 1 : Nat) : Rat) = (k : Rat) + 1 := by rw [Rat.natCast_add]; rfl
    rw [ek]
    have p1 := psi_anti (x + (k : Rat))
    have p2 := psi_anti (x + (k : Rat) - 2)
    have p3 := psi_anti (x + (k : Rat) + 2)
    have q3 := psi_per (x + ((k : Rat) + 1) - 2) 1
    rw [n1] at q3
    refine ⟨?_, ?_, ?_⟩
    · rw [show x + ((k : Rat) + 1) + 2 = x + (k : Rat) + 3 by grind, p1]; grind
    · rw [show x + ((k : Rat) + 1) = x + (k : Rat) - 2 + 3 by grind, p2]; grind
    · rw [← q3, show x + ((k : Rat) + 1) - 2 + 6 * 1 = x + (k : Rat) + 2 + 3 by grind, p3]; grind
theorem fin_c {c : UInt64} {X : Rat} {P t : Int} (h : Ap c X 3000) (hX : Is ((4 * P : Int) : Rat) X t) (p0 : 0 < P) (p1 : P ≤ 262144) (t0 : 0 ≤ t) (t1 : t ≤ 4 * P) : rndOk P c ∧ rndI P c = t := by
  obtain ⟨N, rfl⟩ := Int.eq_ofNat_of_zero_le t0
  have q0 : (0 : Rat) < ((4 * P : Int) : Rat) := by
    rw [show (0 : Rat) = ((0 : Int) : Rat) from rfl]; exact Rat.intCast_lt_intCast.mpr (by lia)
  have a0 := Rat.intCast_le_intCast.mpr t0
  have a1 := Rat.intCast_le_intCast.mpr t1
  rw [← hX] at a0 a1
  rw [n0] at a0
  unfold Is at hX
  refine rnd_spec h (nonneg_of_mul q0 a0) (le_of_mul q0 a1) p0 p1 ?_
  rw [hX, Rat.intCast_natCast]
end Mine
end
section
open PySem PySem.W PyProof.Rows PySem.Flt PySem.Float64
set_option maxRecDepth 100000
namespace Mine
theorem P_spec {j : Nat} (hj : j ≤ 7) : ∃ c p : Int, 0 < c ∧ (2 * c) * (16 * 4 ^ j) = 16777216 ∧ (16 : Int) * 4 ^ j = 16 * p ∧ 0 < p ∧ (16 : Int) * 4 ^ j ≤ 262144 := by
  have : j = 0 ∨ j = 1 ∨ j = 2 ∨ j = 3 ∨ j = 4 ∨ j = 5 ∨ j = 6 ∨ j = 7 := by lia
  rcases this with rfl | rfl | rfl | rfl | rfl | rfl | rfl | rfl
  · exact ⟨524288, 1, by decide⟩
  · exact ⟨131072, 4, by decide⟩
  · exact ⟨32768, 16, by decide⟩
  · exact ⟨8192, 64, by decide⟩
  · exact ⟨2048, 256, by decide⟩
  · exact ⟨512, 1024, by decide⟩
  · exact ⟨128, 4096, by decide⟩
  · exact ⟨32, 16384, by decide⟩
theorem kint {k : Int} (h1 : 1 ≤ k) (h5 : k ≤ 5) : (1 : Rat) ≤ ((k : Int) : Rat) ∧ ((k : Int) : Rat) ≤ 5 :=
  ⟨Rat.intCast_le_intCast.mpr h1, Rat.intCast_le_intCast.mpr h5⟩
theorem a_k6 {k : Int} (h1 : 1 ≤ k) (h5 : k ≤ 5) : Ap (kdiv k 6) ((k : Rat) / 6) 1 := by
  obtain ⟨f, a, b⟩ := kdiv_cl (k := k) (n := 6) (by lia) (by lia) (by decide)
  rw [show ((6 : Int) : Rat) = 6 from rfl] at a b
  have := er0_le
  exact ⟨f, by rw [Rat.one_mul]; grind, by rw [Rat.one_mul]; grind⟩
theorem a_k8 {k : Int} (h1 : 1 ≤ k) (h5 : k ≤ 5) : Ap (kdiv k 8) ((k : Rat) / 8) 1 := by
  obtain ⟨f, a, b⟩ := kdiv_cl (k := k) (n := 8) (by lia) (by lia) (by decide)
  rw [show ((8 : Int) : Rat) = 8 from rfl] at a b
  have := er0_le
  exact ⟨f, by rw [Rat.one_mul]; grind, by rw [Rat.one_mul]; grind⟩
theorem Y_bd {h : UInt64} {Y : Rat} (hh : Ap h (Y / 6) 3) (h0 : 0 ≤ fv h) (h1 : fv h ≤ 1) : -1 ≤ Y ∧ Y ≤ 7 := by
  obtain ⟨u0, u1⟩ := uu_pos
  obtain ⟨_, a, b⟩ := hh
  constructor <;> grind
theorem a_turn {h : UInt64} {Y : Rat} {k : Int} (hh : Ap h (Y / 6) 3) (h0 : 0 ≤ fv h) (h1 : fv h ≤ 1) (k1 : 1 ≤ k) (k5 : k ≤ 5) : Ap (Float64.add h (kdiv k 6)) ((Y + (k : Rat)) / 6) 10 ∧ 0 ≤ fv (Float64.add h (kdiv k 6)) ∧ fv (Float64.add h (kdiv k 6)) ≤ 2 := by
  obtain ⟨u0, u1⟩ := uu_pos
  obtain ⟨y0, y1⟩ := Y_bd hh h0 h1
  obtain ⟨c0, c1⟩ := kint k1 k5
  have a := hh.add (a_k6 k1 k5) (by decide +kernel) (by decide +kernel) (by grind) (by grind)
  obtain ⟨_, b1, b2⟩ := (Ap.exact hh.1).add (a_k6 k1 k5) (by decide +kernel) (by decide +kernel) (by grind) (by grind)
  refine ⟨?_, by grind, by grind⟩
  rw [show (Y + (k : Rat)) / 6 = Y / 6 + (k : Rat) / 6 by grind]
  exact a.mono (by decide +kernel)
theorem a_back {h : UInt64} {Y : Rat} {k : Int} (hh : Ap h (Y / 6) 3) (h0 : 0 ≤ fv h) (h1 : fv h ≤ 1) (k1 : 1 ≤ k) (k5 : k ≤ 5) : Ap (Float64.sub h (kdiv k 6)) ((Y - (k : Rat)) / 6) 10 := by
  obtain ⟨u0, u1⟩ := uu_pos
  obtain ⟨y0, y1⟩ := Y_bd hh h0 h1
  obtain ⟨c0, c1⟩ := kint k1 k5
  have a := hh.sub (a_k6 k1 k5) (by decide +kernel) (by decide +kernel) (by grind) (by grind)
  rw [show (Y - (k : Rat)) / 6 = Y / 6 - (k : Rat) / 6 by grind]
  exact a.mono (by decide +kernel)
theorem a_half {s : UInt64} {S : Rat} (hs : Ap s S 1) (s0 : 0 ≤ S) (s1 : S ≤ 1) : Ap (Float64.div s (Float64.ofInt 2)) (S / 2) 10 := by
  obtain ⟨u0, u1⟩ := uu_pos
  obtain ⟨f, e⟩ := ofInt_fv (n := 2) (by decide)
  rw [show ((2 : Int) : Rat) = 2 from rfl] at e
  obtain ⟨fs, a, b⟩ := hs
  obtain ⟨g, c1, c2⟩ := div_cl fs f (k := 4) (by decide) (by rw [e]; decide) (by rw [e, two4]; grind) (by rw [e, two4]; grind)
  rw [er4, e] at c1 c2
  exact ⟨g, by grind, by grind⟩
theorem a_one : Ap (Float64.ofInt 1) 1 0 := by
  obtain ⟨f, e⟩ := ofInt_fv (n := 1) (by decide)
  rw [n1] at e
  exact ⟨f, by rw [e]; constructor <;> grind⟩
theorem hsv_is {V S m d Y : Rat} (h : S * V = d) (e : V = m + d) : HsvVal V S Y = m + d * psi Y := by
  unfold HsvVal
  grind
theorem hls_is {L S m d Y : Rat} (h : S * minR L = d / 2) (e : L = m + d / 2) : HlsVal L S Y = m + d * psi Y := by
  unfold HlsVal
  rw [h]
  grind
end Mine
end
section
open PySem PySem.W PyProof.Rows PySem.Flt PySem.Float64
set_option maxRecDepth 100000
namespace Mine
/-- three floats near three parts of Q -/
def Near3 (Q : Rat) (v : UInt64 × UInt64 × UInt64) (t : Int × Int × Int) : Prop :=
  (∃ X, Ap v.1 X 3000 ∧ Is Q X t.1) ∧ (∃ X, Ap v.2.1 X 3000 ∧ Is Q X t.2.1) ∧ (∃ X, Ap v.2.2 X 3000 ∧ Is Q X t.2.2)
theorem Near3.of {Q : Rat} {v : UInt64 × UInt64 × UInt64} {t : Int × Int × Int} {X1 X2 X3 n : Rat} (h : Ap v.1 X1 n ∧ Ap v.2.1 X2 n ∧ Ap v.2.2 X3 n) (hn : n ≤ 3000) (h1 : Is Q X1 t.1) (h2 : Is Q X2 t.2.1) (h3 : Is Q X3 t.2.2) : Near3 Q v t :=
  ⟨⟨X1, h.1.mono hn, h1⟩, ⟨X2, h.2.1.mono hn, h2⟩, ⟨X3, h.2.2.mono hn, h3⟩⟩
theorem nat_of_int {k : Int} (h : 0 ≤ k) : ((k.toNat : Nat) : Rat) = ((k : Int) : Rat) := by
  rw [← Rat.intCast_natCast, Int.toNat_of_nonneg h]
theorem Is.cast {Q X : Rat} {t : Int} (h : Is Q X t) : X * Q = ((t : Int) : Rat) := h
theorem c2 : ((2 : Int) : Rat) = 2 := rfl
theorem c4 : ((4 : Int) : Rat) = 4 := rfl
theorem c8 : ((8 : Int) : Rat) = 8 := rfl
theorem hsv_pale {V S m Y a : Rat} (h : S * V = V - m) (e : a = m + (V - m) * psi Y) : HsvVal V (S / 2) Y = (V + a) / 2 := by
  unfold HsvVal
  grind
theorem hsv_dark {V S m Y a : Rat} (h : S * V = V - m) (e : a = m + (V - m) * psi Y) : HsvVal (V / 2) S Y = a / 2 := by
  unfold HsvVal
  grind
theorem minR_flip (L : Rat) : minR (1 - L) = minR L := by unfold minR; grind
theorem hls_flip {L S m M Y a : Rat} (h : S * minR L = (M - m) / 2) (eL : L = (M + m) / 2) (e : a = m + (M - m) * psi Y) : HlsVal (1 - L) S Y = 1 - M - m + a := by
  unfold HlsVal
  rw [minR_flip, h]
  grind
theorem hls_pale {L S m M Y a : Rat} (h : S * minR L = (M - m) / 2) (eL : L = (M + m) / 2) (e : a = m + (M - m) * psi Y) : HlsVal L (S / 2) Y = (M + m + 2 * a) / 4 := by
  unfold HlsVal
  have : S / 2 * minR L = (M - m) / 4 := by grind
  rw [this]
  grind
theorem cut8 {k P p : Int} (hp : P = 16 * p) : (k * (4 * P)).fdiv 8 = 8 * (k * p) := by
  rw [Int.fdiv_eq_ediv_of_nonneg _ (by decide), hp, show k * (4 * (16 * p)) = 8 * (8 * (k * p)) by
    rw [show 4 * (16 * p) = 64 * p by lia, Int.mul_left_comm]; lia]
  exact Int.mul_ediv_cancel_left _ (by decide)
theorem is_hi {Q R : Rat} {x P k p : Int} (hQ : Q = ((4 * P : Int) : Rat)) (q0 : 0 < Q) (hp : P = 16 * p) (i : Is Q R (4 * x)) (r0 : 0 ≤ R) (k0 : (0 : Rat) ≤ (k : Rat)) : Is Q (clampR (R + (k : Rat) / 8)) (cutHi (4 * P) (4 * x + (k * (4 * P)).fdiv 8)) := by
  rw [cut8 hp]
  have e : (R + (k : Rat) / 8) * Q = ((4 * x + 8 * (k * p) : Int) : Rat) := by
    have i' := i.cast
    have hQ' : Q = 64 * (p : Rat) := by rw [hQ, hp, show 4 * (16 * p) = 64 * p by lia, Rat.intCast_mul]; rfl
    rw [Rat.intCast_add, Rat.intCast_mul 8, Rat.intCast_mul k, c8, ← i']
    rw [hQ']
    grind
  generalize 4 * x + 8 * (k * p) = y at *
  unfold cutHi Is clampR
  by_cases c : y < 4 * P
  · rw [if_pos c]
    have c' := Rat.intCast_lt_intCast.mpr c
    rw [← e, ← hQ] at c'
    have : R + (k : Rat) / 8 < 1 := Rat.lt_of_mul_lt_mul_right (c := Q) (by grind) (Rat.le_of_lt q0)
    rw [if_neg (by grind), if_neg (by grind)]
    exact e
  · rw [if_neg c]
    have c' := Rat.intCast_le_intCast.mpr (Int.not_lt.mp c)
    rw [← e, ← hQ] at c'
    have : 1 ≤ R + (k : Rat) / 8 := Rat.le_of_mul_le_mul_right (c := Q) (by grind) q0
    rw [if_neg (by grind)]
    split
    · rw [Rat.one_mul]; exact hQ
    · have : R + (k : Rat) / 8 = 1 := by grind
      rw [this, Rat.one_mul]; exact hQ
theorem is_lo {Q R : Rat} {x P k p : Int} (hQ : Q = ((4 * P : Int) : Rat)) (q0 : 0 < Q) (hp : P = 16 * p) (i : Is Q R (4 * x)) (r1 : R ≤ 1) (k0 : (0 : Rat) ≤ (k : Rat)) : Is Q (clampR (R + -((k : Rat) / 8))) (cutLo (4 * x - (k * (4 * P)).fdiv 8)) := by
  rw [cut8 hp]
  have e : (R + -((k : Rat) / 8)) * Q = ((4 * x - 8 * (k * p) : Int) : Rat) := by
    have i' := i.cast
    have hQ' : Q = 64 * (p : Rat) := by rw [hQ, hp, show 4 * (16 * p) = 64 * p by lia, Rat.intCast_mul]; rfl
    rw [Rat.intCast_sub, Rat.intCast_mul 8, Rat.intCast_mul k, c8, ← i']
    rw [hQ']
    grind
  generalize 4 * x - 8 * (k * p) = y at *
  unfold cutLo Is clampR
  by_cases c : y > 0
  · rw [if_pos c]
    have c' := Rat.intCast_lt_intCast.mpr (show (0 : Int) < y from c)
    rw [← e, n0] at c'
    have : 0 < R + -((k : Rat) / 8) := Rat.lt_of_mul_lt_mul_right (c := Q) (by grind) (Rat.le_of_lt q0)
    rw [if_neg (by grind), if_neg (by grind)]
    exact e
  · rw [if_neg c]
    have c' := Rat.intCast_le_intCast.mpr (Int.not_lt.mp c)
    rw [← e, n0] at c'
    have : R + -((k : Rat) / 8) ≤ 0 := Rat.le_of_mul_le_mul_right (c := Q) (by grind) q0
    rw [n0]
    split
    · rw [Rat.zero_mul]
    · have h : R + -((k : Rat) / 8) = 0 := by grind
      rw [if_neg (by grind), h, Rat.zero_mul]
theorem moved_spec {k P c p x1 x2 x3 : Int} {r g b : UInt64} (gr : IsG r (x1 * (2 * c))) (gg : IsG g (x2 * (2 * c))) (gb : IsG b (x3 * (2 * c))) (v1 : 0 ≤ x1 ∧ x1 ≤ P) (v2 : 0 ≤ x2 ∧ x2 ≤ P) (v3 : 0 ≤ x3 ∧ x3 ≤ P) (hc : 0 < c) (hP : (2 * c) * P = 16777216) (hp : P = 16 * p) (p0 : 0 < p) (k1 : 1 ≤ k) (k5 : k ≤ 5) :
    MovedOk k r g b ∧ ∀ kind, 0 ≤ kind → kind < 8 → Near3 ((4 * P : Int) : Rat) (movedF kind k r g b) (dueI kind k P x1 x2 x3).2 := by
  obtain ⟨u0, u1⟩ := uu_pos
  obtain ⟨c0, c1⟩ := kint k1 k5
  have hc2 : 0 < 2 * c := by lia
  have up : ∀ {x : Int}, 0 ≤ x ∧ x ≤ P → 0 ≤ x * (2 * c) ∧ x * (2 * c) ≤ 16777216 := by
    intro x ⟨h0, h1⟩
    refine ⟨Int.mul_nonneg h0 (Int.le_of_lt hc2), ?_⟩
    rw [← hP, Int.mul_comm (2 * c)]
    exact Int.mul_le_mul_of_nonneg_right h1 (Int.le_of_lt hc2)
  have i1 := Is.mul4 (x := x1) hc2 hP
  have i2 := Is.mul4 (x := x2) hc2 hP
  have i3 := Is.mul4 (x := x3) hc2 hP
  have iM := Is.mul4 (x := max3I x1 x2 x3) hc2 hP
  have im := Is.mul4 (x := min3I x1 x2 x3) hc2 hP
  obtain ⟨w1, w1'⟩ := up v1
  obtain ⟨w2, w2'⟩ := up v2
  obtain ⟨w3, w3'⟩ := up v3
  obtain ⟨M1, M2, M3, M4⟩ := max3I_spec x1 x2 x3
  obtain ⟨m1, m2, m3, m4⟩ := min3I_spec x1 x2 x3
  obtain ⟨x, S, H, hS, s0, s1, ah, h0, h1, as, gv, ok1⟩ := hsv_fwd gr gg gb w1 w2 w3 w1' w2' w3'
  obtain ⟨y, Z, H', hZ, z0, z1, bh, l0, l1, al, bs, ok2⟩ := hls_fwd gr gg gb w1 w2 w3 w1' w2' w3' (by
    rw [max3I_mul hc2, min3I_mul hc2]
    exact ⟨(max3I x1 x2 x3 + min3I x1 x2 x3) * c, by rw [Int.add_mul, Int.mul_left_comm, Int.mul_left_comm _ 2 c, Int.mul_add]⟩)
  rw [max3I_mul hc2, min3I_mul hc2] at H hS H' hZ al
  rw [max3I_mul hc2] at gv
  have av := Ap.of_G gv
  have wM := up (x := max3I x1 x2 x3) (by lia)
  have wm := up (x := min3I x1 x2 x3) (by lia)
  have gM0 : 0 ≤ G (max3I x1 x2 x3 * (2 * c)) := by rw [← G_zero]; exact G_le.mpr wM.1
  have gM1 : G (max3I x1 x2 x3 * (2 * c)) ≤ 1 := by rw [← G_one]; exact G_le.mpr wM.2
  have gm0 : 0 ≤ G (min3I x1 x2 x3 * (2 * c)) := by rw [← G_zero]; exact G_le.mpr wm.1
  have gm1 : G (min3I x1 x2 x3 * (2 * c)) ≤ 1 := by rw [← G_one]; exact G_le.mpr wm.2
  have gR0 : 0 ≤ G (x1 * (2 * c)) ∧ G (x1 * (2 * c)) ≤ 1 := ⟨by rw [← G_zero]; exact G_le.mpr w1, by rw [← G_one]; exact G_le.mpr w1'⟩
  have gG0 : 0 ≤ G (x2 * (2 * c)) ∧ G (x2 * (2 * c)) ≤ 1 := ⟨by rw [← G_zero]; exact G_le.mpr w2, by rw [← G_one]; exact G_le.mpr w2'⟩
  have gB0 : 0 ≤ G (x3 * (2 * c)) ∧ G (x3 * (2 * c)) ≤ 1 := ⟨by rw [← G_zero]; exact G_le.mpr w3, by rw [← G_one]; exact G_le.mpr w3'⟩
  have ar := Ap.of_G gr
  have ag := Ap.of_G gg
  have ab := Ap.of_G gb
  have q0 : (0 : Rat) < ((4 * P : Int) : Rat) := by
    rw [show (0 : Rat) = ((0 : Int) : Rat) from rfl]; exact Rat.intCast_lt_intCast.mpr (by lia)
  have eT : max3I (4 * x1) (4 * x2) (4 * x3) + min3I (4 * x1) (4 * x2) (4 * x3) = 4 * max3I x1 x2 x3 + 4 * min3I x1 x2 x3 := by rw [max3I_four, min3I_four]
  have eMx := max3I_four x1 x2 x3
  have eMn := min3I_four x1 x2 x3
  generalize max3I x1 x2 x3 = X at *
  generalize min3I x1 x2 x3 = n at *
  generalize G (x1 * (2 * c)) = R at *
  generalize G (x2 * (2 * c)) = Gr at *
  generalize G (x3 * (2 * c)) = Bl at *
  generalize G (X * (2 * c)) = M at *
  generalize G (n * (2 * c)) = m at *
  have qi : ((4 * P : Int) : Rat) = 64 * (p : Rat) := by
    rw [hp, show 4 * (16 * p) = 64 * p by lia, Rat.intCast_mul]; rfl
  -- what HSV and HLS give back
  obtain ⟨at1, at2, at3⟩ := a_turn ah h0 h1 k1 k5
  have turn := hsv_bwd at1 at2 at3 (as.mono (by decide +kernel)) (av.mono (by decide +kernel)) s0 s1 gM0 gM1
  have ah' : Ap (hsvF r g b).1 (x / 6) 10 := ah.mono (by decide +kernel)
  have h2 : fv (hsvF r g b).1 ≤ 2 := by grind
  have pale := hsv_bwd ah' h0 h2 (a_half as s0 s1) (av.mono (by decide +kernel)) (by grind) (by grind) gM0 gM1
  have dark := hsv_bwd ah' h0 h2 (as.mono (by decide +kernel)) (a_half (av.mono (by decide +kernel)) gM0 gM1) s0 s1 (by grind) (by grind)
  refine ⟨⟨ok1, ok2, turn.2, pale.2, dark.2⟩, ?_⟩
  intro kind hk0 hk8
  obtain ⟨H1, H2, H3⟩ := H
  obtain ⟨J1, J2, J3⟩ := H'
  have eV : M = m + (M - m) := by grind
  have eL : (M + m) / 2 = m + (M - m) / 2 := by grind
  have iS : Is ((4 * P : Int) : Rat) (M + m) (4 * X + 4 * n) := by
    unfold Is at iM im ⊢
    rw [Rat.intCast_add]
    grind
  have L0 : 0 ≤ (M + m) / 2 := by grind
  have L1 : (M + m) / 2 ≤ 1 := by grind
  obtain ⟨y0, y1⟩ := Y_bd bh l0 l1
  have bh' : Ap (hlsF r g b).1 (y / 6) 10 := bh.mono (by decide +kernel)
  have al' : Ap (hlsF r g b).2.1 ((M + m) / 2) 10 := al.mono (by decide +kernel)
  have bs' : Ap (hlsF r g b).2.2 Z 10 := bs.mono (by decide +kernel)
  have hcase : kind = 0 ∨ kind = 1 ∨ kind = 2 ∨ kind = 3 ∨ kind = 4 ∨ kind = 5 ∨ kind = 6 ∨ kind = 7 := by lia
  rcases hcase with rfl | rfl | rfl | rfl | rfl | rfl | rfl | rfl
  · have e : movedF 0 k r g b = rgbOfHsv (Float64.add (hsvF r g b).1 (kdiv k 6)) (hsvF r g b).2.1 (hsvF r g b).2.2 := by unfold movedF; rw [if_pos rfl]
    have eD : (dueI 0 k P x1 x2 x3).2 = rotI (4 * X + 4 * n) k.toNat (4 * x1, 4 * x2, 4 * x3) := by
      unfold dueI; rw [if_pos (by decide), if_pos rfl, eT]
    obtain ⟨b1, b2, b3, ⟨f1, f2, f3⟩, j1, j2, j3⟩ := rot_hue (S := M + m) (by grind) iS (a1 := R) (a2 := Gr) (a3 := Bl) ⟨H1, H2, H3⟩ (t := (4 * x1, 4 * x2, 4 * x3)) i1 i2 i3 k.toNat
    rw [nat_of_int (by lia)] at f1 f2 f3
    rw [e, eD]
    have T := turn.1
    rw [hsv_is hS eV, hsv_is hS eV, hsv_is hS eV, ← f1, ← f2, ← f3] at T
    exact Near3.of T (by decide +kernel) j1 j2 j3
  · have e : movedF 1 k r g b = rgbOfHls (Float64.sub (hlsF r g b).1 (kdiv k 6)) (hlsF r g b).2.1 (hlsF r g b).2.2 := by unfold movedF; rw [if_neg (by decide), if_pos rfl]
    have eD : (dueI 1 k P x1 x2 x3).2 = rotI (4 * X + 4 * n) (6 - k).toNat (4 * x1, 4 * x2, 4 * x3) := by
      unfold dueI; rw [if_pos (by decide), if_neg (by decide), eT]
    obtain ⟨b1, b2, b3, ⟨f1, f2, f3⟩, j1, j2, j3⟩ := rot_hue (S := M + m) (by grind) iS (a1 := R) (a2 := Gr) (a3 := Bl) ⟨J1, J2, J3⟩ (t := (4 * x1, 4 * x2, 4 * x3)) i1 i2 i3 (6 - k).toNat
    have e6 : ((6 - k : Int) : Rat) = 6 - (k : Rat) := by rw [Rat.intCast_sub]; rfl
    rw [nat_of_int (by lia), e6] at f1 f2 f3
    have per : ∀ z, psi (z + 6) = psi z := fun z => by
      have := psi_per z 1
      rw [n1] at this
      rw [← this, show z + 6 = z + 6 * 1 by grind]
    rw [show y + (6 - (k : Rat)) + 2 = y - (k : Rat) + 2 + 6 by grind, per] at f1
    rw [show y + (6 - (k : Rat)) = y - (k : Rat) + 6 by grind, per] at f2
    rw [show y + (6 - (k : Rat)) - 2 = y - (k : Rat) - 2 + 6 by grind, per] at f3
    rw [e, eD]
    have T := hls_bwd (a_back bh l0 l1 k1 k5) (by grind) (by grind) al' bs' L0 L1 z0 z1
    rw [hls_is hZ eL, hls_is hZ eL, hls_is hZ eL, ← f1, ← f2, ← f3] at T
    exact Near3.of T (by decide +kernel) j1 j2 j3
  · have e : movedF 2 k r g b = rgbOfHsv (hsvF r g b).1 (Float64.div (hsvF r g b).2.1 (Float64.ofInt 2)) (hsvF r g b).2.2 := by unfold movedF; rw [if_neg (by decide), if_neg (by decide), if_pos rfl]
    have eD : (dueI 2 k P x1 x2 x3).2 = (2 * X + 2 * x1, 2 * X + 2 * x2, 2 * X + 2 * x3) := by
      unfold dueI
      rw [if_neg (by decide), if_pos rfl, eMx]
      simp only [Int.fdiv_eq_ediv_of_nonneg _ (show (0 : Int) ≤ 2 by decide), Prod.mk.injEq]
      lia
    rw [e, eD]
    have T := pale.1
    rw [hsv_pale hS H1, hsv_pale hS H2, hsv_pale hS H3] at T
    have is : ∀ {a : Rat} {x : Int}, Is ((4 * P : Int) : Rat) a (4 * x) → Is ((4 * P : Int) : Rat) ((M + a) / 2) (2 * X + 2 * x) := by
      intro a x i
      have iM' := iM.cast
      have i' := i.cast
      rw [Rat.intCast_mul 4, c4] at iM' i'
      unfold Is
      rw [Rat.intCast_add, Rat.intCast_mul 2, Rat.intCast_mul 2, c2]
      grind
    exact Near3.of T (by decide +kernel) (is i1) (is i2) (is i3)
  · have e : movedF 3 k r g b = rgbOfHsv (hsvF r g b).1 (hsvF r g b).2.1 (Float64.div (hsvF r g b).2.2 (Float64.ofInt 2)) := by unfold movedF; rw [if_neg (by decide), if_neg (by decide), if_neg (by decide), if_pos rfl]
    have eD : (dueI 3 k P x1 x2 x3).2 = (2 * x1, 2 * x2, 2 * x3) := by
      unfold dueI
      rw [if_neg (by decide), if_neg (by decide), if_pos rfl]
      simp only [Int.fdiv_eq_ediv_of_nonneg _ (show (0 : Int) ≤ 2 by decide), Prod.mk.injEq]
      lia
    rw [e, eD]
    have T := dark.1
    rw [hsv_dark hS H1, hsv_dark hS H2, hsv_dark hS H3] at T
    have is : ∀ {a : Rat} {x : Int}, Is ((4 * P : Int) : Rat) a (4 * x) → Is ((4 * P : Int) : Rat) (a / 2) (2 * x) := by
      intro a x i
      have i' := i.cast
      rw [Rat.intCast_mul 4, c4] at i'
      unfold Is
      rw [Rat.intCast_mul 2, c2]
      grind
    exact Near3.of T (by decide +kernel) (is i1) (is i2) (is i3)
  · have e : movedF 4 k r g b = rgbOfHls (hlsF r g b).1 (Float64.sub (Float64.ofInt 1) (hlsF r g b).2.1) (hlsF r g b).2.2 := by unfold movedF; rw [if_neg (by decide), if_neg (by decide), if_neg (by decide), if_neg (by decide), if_pos rfl]
    have eD : (dueI 4 k P x1 x2 x3).2 = (4 * P - 4 * X - 4 * n + 4 * x1, 4 * P - 4 * X - 4 * n + 4 * x2, 4 * P - 4 * X - 4 * n + 4 * x3) := by
      unfold dueI
      rw [if_neg (by decide), if_neg (by decide), if_neg (by decide), if_pos rfl, eMx, eMn]
    rw [e, eD]
    have aF := a_one.sub al (by decide +kernel) (by decide +kernel) (by grind) (by grind)
    have T := hls_bwd bh' (by grind) (by grind) (aF.mono (by decide +kernel)) bs' (by grind) (by grind) z0 z1
    rw [hls_flip hZ rfl J1, hls_flip hZ rfl J2, hls_flip hZ rfl J3] at T
    have is : ∀ {a : Rat} {x : Int}, Is ((4 * P : Int) : Rat) a (4 * x) → Is ((4 * P : Int) : Rat) (1 - M - m + a) (4 * P - 4 * X - 4 * n + 4 * x) := by
      intro a x i
      have iM' := iM.cast
      have im' := im.cast
      have i' := i.cast
      unfold Is
      rw [Rat.intCast_add, Rat.intCast_sub, Rat.intCast_sub]
      grind
    exact Near3.of T (by decide +kernel) (is i1) (is i2) (is i3)
  · have e : movedF 5 k r g b = rgbOfHls (hlsF r g b).1 (hlsF r g b).2.1 (Float64.div (hlsF r g b).2.2 (Float64.ofInt 2)) := by unfold movedF; rw [if_neg (by decide), if_neg (by decide), if_neg (by decide), if_neg (by decide), if_neg (by decide), if_pos rfl]
    have eD : (dueI 5 k P x1 x2 x3).2 = (X + n + 2 * x1, X + n + 2 * x2, X + n + 2 * x3) := by
      unfold dueI
      rw [if_neg (by decide), if_neg (by decide), if_neg (by decide), if_neg (by decide), if_pos rfl, eMx, eMn]
      simp only [Int.fdiv_eq_ediv_of_nonneg _ (show (0 : Int) ≤ 4 by decide), Prod.mk.injEq]
      lia
    rw [e, eD]
    have T := hls_bwd bh' (by grind) (by grind) al' (a_half bs z0 z1) L0 L1 (by grind) (by grind)
    rw [hls_pale hZ rfl J1, hls_pale hZ rfl J2, hls_pale hZ rfl J3] at T
    have is : ∀ {a : Rat} {x : Int}, Is ((4 * P : Int) : Rat) a (4 * x) → Is ((4 * P : Int) : Rat) ((M + m + 2 * a) / 4) (X + n + 2 * x) := by
      intro a x i
      have iM' := iM.cast
      have im' := im.cast
      have i' := i.cast
      rw [Rat.intCast_mul 4, c4] at iM' im' i'
      unfold Is
      rw [Rat.intCast_add, Rat.intCast_add, Rat.intCast_mul 2, c2]
      grind
    exact Near3.of T (by decide +kernel) (is i1) (is i2) (is i3)
  · have e : movedF 6 k r g b = rgbOfYiq (Float64.add (lumF r g b) (kdiv k 8)) (yiqF r g b).2.1 (yiqF r g b).2.2 := by unfold movedF; rw [if_neg (by decide), if_neg (by decide), if_neg (by decide), if_neg (by decide), if_neg (by decide), if_neg (by decide), if_pos rfl]; rfl
    have eD : (dueI 6 k P x1 x2 x3).2 = (cutHi (4 * P) (4 * x1 + (k * (4 * P)).fdiv 8), cutHi (4 * P) (4 * x2 + (k * (4 * P)).fdiv 8), cutHi (4 * P) (4 * x3 + (k * (4 * P)).fdiv 8)) := by
      unfold dueI
      rw [if_neg (by decide), if_neg (by decide), if_neg (by decide), if_neg (by decide), if_neg (by decide), if_pos rfl]
    rw [e, eD]
    obtain ⟨la, la0, la1⟩ := lum_ap ar ag ab gR0.1 gR0.2 gG0.1 gG0.2 gB0.1 gB0.2
    have yy := la.add (a_k8 k1 k5) (by decide +kernel) (by decide +kernel) (by grind) (by grind)
    have T := yiq_ap ar ag ab gR0.1 gR0.2 gG0.1 gG0.2 gB0.1 gB0.2 (yy.mono (by decide +kernel)) (by grind) (by grind)
    exact Near3.of T (by decide +kernel) (is_hi rfl q0 hp i1 gR0.1 (by grind)) (is_hi rfl q0 hp i2 gG0.1 (by grind)) (is_hi rfl q0 hp i3 gB0.1 (by grind))
  · have e : movedF 7 k r g b = rgbOfYiq (Float64.sub (lumF r g b) (kdiv k 8)) (yiqF r g b).2.1 (yiqF r g b).2.2 := by unfold movedF; rw [if_neg (by decide), if_neg (by decide), if_neg (by decide), if_neg (by decide), if_neg (by decide), if_neg (by decide), if_neg (by decide)]; rfl
    have eD : (dueI 7 k P x1 x2 x3).2 = (cutLo (4 * x1 - (k * (4 * P)).fdiv 8), cutLo (4 * x2 - (k * (4 * P)).fdiv 8), cutLo (4 * x3 - (k * (4 * P)).fdiv 8)) := by
      unfold dueI
      rw [if_neg (by decide), if_neg (by decide), if_neg (by decide), if_neg (by decide), if_neg (by decide), if_neg (by decide)]
    rw [e, eD]
    obtain ⟨la, la0, la1⟩ := lum_ap ar ag ab gR0.1 gR0.2 gG0.1 gG0.2 gB0.1 gB0.2
    have yy := la.sub (a_k8 k1 k5) (by decide +kernel) (by decide +kernel) (by grind) (by grind)
    rw [Rat.sub_eq_add_neg] at yy
    have T := yiq_ap ar ag ab gR0.1 gR0.2 gG0.1 gG0.2 gB0.1 gB0.2 (yy.mono (by decide +kernel)) (by grind) (by grind)
    exact Near3.of T (by decide +kernel) (is_lo rfl q0 hp i1 gR0.2 (by grind)) (is_lo rfl q0 hp i2 gG0.2 (by grind)) (is_lo rfl q0 hp i3 gB0.2 (by grind))
theorem plain : Plain := by
  intro kind k j q h0 h8 h1 h5 hj hV
  have hn := valid_next h0 h8 h1 h5 hV
  obtain ⟨P, x1, x2, x3⟩ := q
  obtain ⟨e, v1, v2, v3⟩ := hV
  obtain ⟨c, p, hc, hcP, hp, p0, hle⟩ := P_spec hj
  simp only at e v1 v2 v3
  rw [← e] at hcP hp hle
  have hP0 : 0 < P := by lia
  have g1 := kdiv_G v1.1 v1.2 hP0 (c := 2 * c) (by lia) (by rw [hcP]; decide)
  have g2 := kdiv_G v2.1 v2.2 hP0 (c := 2 * c) (by lia) (by rw [hcP]; decide)
  have g3 := kdiv_G v3.1 v3.2 hP0 (c := 2 * c) (by lia) (by rw [hcP]; decide)
  obtain ⟨ok, near⟩ := moved_spec g1 g2 g3 v1 v2 v3 hc hcP hp p0 h1 h5
  refine ⟨ok, ?_⟩
  obtain ⟨⟨X1, a1, i1⟩, ⟨X2, a2, i2⟩, ⟨X3, a3, i3⟩⟩ := near kind h0 h8
  have d1 : (dueI kind k P x1 x2 x3).1 = 4 * P := by
    unfold dueI
    repeat' split
    all_goals rfl
  obtain ⟨_, w1, w2, w3⟩ := hn
  unfold dueS at w1 w2 w3
  simp only at w1 w2 w3
  rw [d1] at w1 w2 w3
  obtain ⟨o1, r1⟩ := fin_c a1 i1 hP0 hle w1.1 w1.2
  obtain ⟨o2, r2⟩ := fin_c a2 i2 hP0 hle w2.1 w2.2
  obtain ⟨o3, r3⟩ := fin_c a3 i3 hP0 hle w3.1 w3.2
  refine ⟨⟨o1, o2, o3⟩, ?_⟩
  show dueI kind k P x1 x2 x3 = (4 * P, rndI P (movedF kind k (kdiv (4 * x1) (4 * P)) (kdiv (4 * x2) (4 * P)) (kdiv (4 * x3) (4 * P))).1, rndI P (movedF kind k (kdiv (4 * x1) (4 * P)) (kdiv (4 * x2) (4 * P)) (kdiv (4 * x3) (4 * P))).2.1, rndI P (movedF kind k (kdiv (4 * x1) (4 * P)) (kdiv (4 * x2) (4 * P)) (kdiv (4 * x3) (4 * P))).2.2)
  rw [r1, r2, r3, ← d1]
end Mine
end
section
open PySem PySem.W PyProof.Rows PySem.Flt
set_option maxRecDepth 100000
namespace Mine
theorem rows45 : True := by
  w_top off
  k_with_none
  trivial
set_option maxHeartbeats 1000000 in
theorem holds_of (pl : Plain) : PySem.Challenge.rw_mq0241_01.Holds := by
  refine hd ?_
  w_strict (
    k_go0
    (all_goals try k_fold)
    rename News _ _ _ _ => N'
    rename Fr _ _ _ _ => F'
    rename Below _ _ _ _ => B'
    rename Frag.In _ _ => X'
    rename Top topProg _ _ _ _ _ => T'
    rename Heap.IsList (ghostOf _ _) _ _ => hl'
    rename IntsAre _ _ => hi'
    rename PyData.layable0 (PyData.list _) = true => hlay'
    rename ¬ _ < ((_ : Nat) : Int) => hcond'
    rename CodeHd _ (Prod.fst (92, 88)) _ => c1'
    rename CodeHd _ (Prod.fst (102, 100)) _ => c2'
    with_unfolding_all refine law_body pl B' F' X' N' T' ?hdp ?hu c1' c2' ?hm hl' hi' hlay' hcond' ?_
    (case hdp => first | decide | ktr_room)
    (case hu => first | decide | ktr_units)
    (case hm => exact rfl)
    intro m' ps1 ps2 h' tk' F9 N9
    clear F' N'
    (try dsimp only)
    k_steps)
end Mine
end
set_option maxRecDepth 100000 in
set_option maxHeartbeats 8000000 in
theorem PySem.Challenge.cw_mq0241_01_holds : PySem.Challenge.rw_mq0241_01.Holds := by
  exact Mine.holds_of Mine.plain
