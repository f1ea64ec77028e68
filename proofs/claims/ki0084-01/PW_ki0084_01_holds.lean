import PyProof.Rows.All
import Wide.All
import OpenK.AllK
import Wide.FinOn
import PySem.Challenge.RW_ki0084_01
set_option Elab.async false
set_option rowWalk.seconds 0

section
open PySem PyProof.Rows PyProof.Rows.KTD
namespace Mine

/-- the table, read off the text's own display -/
noncomputable def pairsOf : List (Option PySem.Expr) → List PySem.Expr → List (Int × PyData)
  | some (.Constant (.int i) _ _) :: ks, .Constant (.str x) _ _ :: vs => (i, .str x) :: pairsOf ks vs
  | _, _ => []
noncomputable def tableOf : List PySem.Stmt → List (Int × PyData)
  | _ :: .Assign _ (.Dict ks vs _) _ :: _ => pairsOf ks vs
  | _ => []
noncomputable def tabB3 : List (Int × PyData) := tableOf PySem.Challenge.pw_ki0084_01.main.body

def one (c : Int) : Str := ⟨#[c.toNat]⟩

def latin (c : Int) : Str :=
  if c < 128 then (if 65 ≤ c ∧ c ≤ 90 then one (c + 32) else one c)
  else if c = 181 then Str.ofString "μ"
  else if c = 223 then Str.ofString "ss"
  else if c = 304 then Str.ofString "i\u0307"
  else if c = 329 then Str.ofString "ʼn"
  else if c = 376 then Str.ofString "ÿ"
  else if c = 383 then Str.ofString "s"
  else if c < 256 then (if (192 ≤ c ∧ c ≤ 222) ∧ c ≠ 215 then one (c + 32) else one c)
  else if c = 312 then one c
  else if Int.fmod c 2 = (if (313 ≤ c ∧ c ≤ 328) ∨ 376 < c then 1 else 0) then one (c + 1) else one c
def greek (c : Int) : Str :=
  if c = 944 then Str.ofString "\u03c5\u0308\u0301"
  else if c = 962 then Str.ofString "σ"
  else if c < 940 ∧ c ≠ 930 then one (c + 32) else one c
def cyrillic (c : Int) : Str :=
  if c < 1040 then one (c + 80) else if c < 1072 then one (c + 32)
  else if 1120 ≤ c ∧ Int.fmod c 2 = 0 then one (c + 1) else one c
def ends : List Str := [Str.ofString "h\u0331", Str.ofString "t\u0308", Str.ofString "w\u030a", Str.ofString "y\u030a", Str.ofString "a\u02be", Str.ofString "\u1e61"]
def moreLatin (c : Int) : Str :=
  if 7830 ≤ c ∧ c ≤ 7835 then ends.getD (c - 7830).toNat Str.empty
  else if Int.fmod c 2 = 0 then one (c + 1) else one c
def marks : List Str := [Str.ofString "", Str.ofString "\u0300", Str.ofString "\u0301", Str.ofString "\u0342"]
def moreGreek (c : Int) : Str :=
  if 8064 ≤ c then one (([7936, 7968, 8032] : List Int).getD (Int.fdiv (c - 8064) 16).toNat 0 + Int.fmod c 8) ++ Str.ofString "ι"
  else if (8016 ≤ c ∧ c ≤ 8022) ∧ Int.fmod c 2 = 0 then Str.ofString "\u03c5\u0313" ++ marks.getD (Int.fdiv (c - 8016) 2).toNat Str.empty
  else if (([7966, 7967, 8014, 8015, 8024, 8026, 8028, 8030] : List Int).any fun x => x == c) = true then one c
  else if 7 < Int.fmod c 16 then one (c - 8) else one c
def ligs : List Str := [Str.ofString "ff", Str.ofString "fi", Str.ofString "fl", Str.ofString "ffi", Str.ofString "ffl", Str.ofString "st", Str.ofString "st"]
def ligsA : List Str := [Str.ofString "մն", Str.ofString "մե", Str.ofString "մի", Str.ofString "վն", Str.ofString "մխ"]
def ligature (c : Int) : Str :=
  if c < 64263 then ligs.getD (c - 64256).toNat Str.empty
  else if c < 64275 then one c
  else ligsA.getD (c - 64275).toNat Str.empty
def gaps : List Int := [119965, 119968, 119969, 119971, 119972, 119975, 119976, 119981, 120070, 120075, 120076, 120085, 120093, 120122, 120127, 120133, 120135, 120136, 120137, 120145]
def mathematical (c : Int) : Str :=
  if c < 120488 then (if Int.fmod (c - 119808) 52 < 26 then (if (gaps.any fun x => x == c) = true then one c else one (97 + Int.fmod (c - 119808) 52)) else one c)
  else if Int.fmod (c - 120488) 58 = 17 then Str.ofString "θ"
  else if Int.fmod (c - 120488) 58 = 43 then Str.ofString "σ"
  else if Int.fmod (c - 120488) 58 < 25 then one (945 + Int.fmod (c - 120488) 58) else one c
def folded (c : Int) : Str :=
  if c < 384 then latin c
  else if c < 1024 then greek c
  else if c < 1154 then cyrillic c
  else if c < 1415 then (if c < 1367 then one (c + 48) else one c)
  else if c = 1415 then Str.ofString "եւ"
  else if c < 7936 then moreLatin c
  else if c < 8544 then moreGreek c
  else if c < 8576 then (if c < 8560 then one (c + 16) else one c)
  else if c < 9450 then (if c < 9424 then one (c + 26) else one c)
  else if c < 64280 then ligature c
  else if c < 65371 then (if c < 65339 then one (c + 32) else one c)
  else if c < 66640 then (if c < 66600 then one (c + 40) else one c)
  else mathematical c

/-- what map_table_b3 answers, over a table and the case table's rest -/
def mapped (D : List (Int × PyData)) (c : Int) : Str := match datumAt c D with
  | some (.str x) => x
  | _ => Txt.lower (one c)

def blocks : List (Int × Int) := [(0, 128), (128, 128), (256, 128), (913, 62), (1024, 130), (1329, 87), (7680, 156), (7840, 90), (7936, 112), (8064, 48), (8544, 32), (9398, 52), (64256, 24), (65313, 58), (66560, 80), (119808, 676), (120488, 290)]

/-- the table's rows within a block are all that a sign of the block asks -/
theorem datumAt_part {lo hi k : Int} (h1 : lo ≤ k) (h2 : k < hi) : ∀ D : List (Int × PyData), datumAt k (D.filter fun p => decide (lo ≤ p.1) && decide (p.1 < hi)) = datumAt k D
  | [] => rfl
  | (x, d) :: D => by
    have ih := datumAt_part h1 h2 D
    by_cases hx : k = x
    · subst hx
      rw [List.filter_cons_of_pos (by simp [h1, h2])]
      simp [datumAt]
    · by_cases hp : (decide (lo ≤ x) && decide (x < hi)) = true
      · rw [List.filter_cons_of_pos (p := fun p : Int × PyData => decide (lo ≤ p.1) && decide (p.1 < hi)) (a := (x, d)) hp]
        simp only [datumAt, hx, decide_false, Bool.false_eq_true, if_false, ih]
      · rw [List.filter_cons_of_neg (p := fun p : Int × PyData => decide (lo ≤ p.1) && decide (p.1 < hi)) (a := (x, d)) hp, ih]
        simp only [datumAt, hx, decide_false, Bool.false_eq_true, if_false]
/-- the case table from a block's first sign on -/
noncomputable def fromOn (lo : Nat) : List (Nat × Nat × Nat) → List (Nat × Nat × Nat)
  | [] => []
  | (a, b, t) :: r => if b < lo then (if a ≤ lo then fromOn lo r else (a, b, t) :: r) else (a, b, t) :: r
theorem shifted_fromOn {lo c : Nat} (h : lo ≤ c) : ∀ l, Unicode.shifted (fromOn lo l) c = Unicode.shifted l c
  | [] => rfl
  | (a, b, t) :: r => by
    unfold fromOn
    by_cases hb : b < lo
    · by_cases ha : a ≤ lo
      · rw [if_pos hb, if_pos ha, shifted_fromOn h r]
        simp only [Unicode.shifted]
        rw [if_neg (by omega), if_neg (by omega)]
      · rw [if_pos hb, if_neg ha]
    · rw [if_neg hb]
def lowOf (T : List (Nat × Nat × Nat)) (c : Nat) : List Nat := Unicode.image T UnicodeData.severalLower c
theorem lower_one (c : Int) : Txt.lower (one c) = ⟨(lowOf UnicodeData.oneLower c.toNat).toArray⟩ := by
  unfold Txt.lower placed one
  simp [Unicode.lowerAt, Unicode.endsWord, Unicode.lowerOf, lowOf]
theorem lowOf_from {lo c : Nat} (h : lo ≤ c) : lowOf (fromOn lo UnicodeData.oneLower) c = lowOf UnicodeData.oneLower c := by
  unfold lowOf Unicode.image
  rw [shifted_fromOn h]
def mapOf (D : List (Int × PyData)) (T : List (Nat × Nat × Nat)) (c : Nat) : List Nat := match datumAt (c : Int) D with
  | some (.str x) => x.cps.toList
  | _ => lowOf T c
noncomputable def okOn (D : List (Int × PyData)) (T : List (Nat × Nat × Nat)) : Nat → Nat → Bool
  | _, 0 => true
  | c, n + 1 => (mapOf D T c == (folded (c : Int)).cps.toList) && okOn D T (c + 1) n
theorem okOn_at {D T} : ∀ {n lo : Nat}, okOn D T lo n = true → ∀ c, lo ≤ c → c < lo + n → mapOf D T c = (folded (c : Int)).cps.toList
  | 0, _, _, c, h1, h2 => by omega
  | n + 1, lo, h, c, h1, h2 => by
    unfold okOn at h
    simp only [Bool.and_eq_true, beq_iff_eq] at h
    by_cases e : c = lo
    · subst e; exact h.1
    · exact okOn_at h.2 c (by omega) (by omega)
noncomputable def okBlock (lo n : Nat) : Bool := okOn (tabB3.filter fun p => decide ((lo : Int) ≤ p.1) && decide (p.1 < (lo + n : Nat))) (fromOn lo UnicodeData.oneLower) lo n
theorem okBlock_at {lo n : Nat} (h : okBlock lo n = true) (c : Int) (h1 : (lo : Int) ≤ c) (h2 : c < (lo + n : Nat)) : mapped tabB3 c = folded c := by
  obtain ⟨k, rfl⟩ : ∃ k : Nat, c = (k : Int) := ⟨c.toNat, by omega⟩
  have q := okOn_at h k (by omega) (by omega)
  unfold mapOf at q
  rw [datumAt_part h1 h2, lowOf_from (by omega)] at q
  have e : ∀ x y : Str, x.cps.toList = y.cps.toList → x = y := by
    rintro ⟨⟨x⟩⟩ ⟨⟨y⟩⟩ h; cases h; rfl
  apply e
  rw [← q]
  unfold mapped
  split
  · rfl
  · rw [lower_one]; simp
theorem blk0 : okBlock 0 128 = true := by decide +kernel
theorem blk1 : okBlock 128 128 = true := by decide +kernel
theorem blk2 : okBlock 256 128 = true := by decide +kernel
theorem blk3 : okBlock 913 62 = true := by decide +kernel
theorem blk4 : okBlock 1024 130 = true := by decide +kernel
theorem blk5 : okBlock 1329 87 = true := by decide +kernel
theorem blk6 : okBlock 7680 156 = true := by decide +kernel
theorem blk7 : okBlock 7840 90 = true := by decide +kernel
theorem blk8 : okBlock 7936 112 = true := by decide +kernel
theorem blk9 : okBlock 8064 48 = true := by decide +kernel
theorem blk10 : okBlock 8544 32 = true := by decide +kernel
theorem blk11 : okBlock 9398 52 = true := by decide +kernel
theorem blk12 : okBlock 64256 24 = true := by decide +kernel
theorem blk13 : okBlock 65313 58 = true := by decide +kernel
theorem blk14 : okBlock 66560 80 = true := by decide +kernel
theorem blk15x0 : okBlock 119808 52 = true := by decide +kernel
theorem blk15x1 : okBlock 119860 52 = true := by decide +kernel
theorem blk15x2 : okBlock 119912 52 = true := by decide +kernel
theorem blk15x3 : okBlock 119964 52 = true := by decide +kernel
theorem blk15x4 : okBlock 120016 52 = true := by decide +kernel
theorem blk15x5 : okBlock 120068 52 = true := by decide +kernel
theorem blk15x6 : okBlock 120120 52 = true := by decide +kernel
theorem blk15x7 : okBlock 120172 52 = true := by decide +kernel
theorem blk15x8 : okBlock 120224 52 = true := by decide +kernel
theorem blk15x9 : okBlock 120276 52 = true := by decide +kernel
theorem blk15x10 : okBlock 120328 52 = true := by decide +kernel
theorem blk15x11 : okBlock 120380 52 = true := by decide +kernel
theorem blk15x12 : okBlock 120432 52 = true := by decide +kernel
theorem blk16x0 : okBlock 120488 58 = true := by decide +kernel
theorem blk16x1 : okBlock 120546 58 = true := by decide +kernel
theorem blk16x2 : okBlock 120604 58 = true := by decide +kernel
theorem blk16x3 : okBlock 120662 58 = true := by decide +kernel
theorem blk16x4 : okBlock 120720 58 = true := by decide +kernel

def InBlocks (c : Int) : Prop := (blocks.any fun b => decide (b.1 ≤ c) && decide (c < b.1 + b.2)) = true
theorem InBlocks.out {c : Int} (h : InBlocks c) : ∃ b ∈ blocks, b.1 ≤ c ∧ c < b.1 + b.2 := by
  obtain ⟨b, hb, q⟩ := List.any_eq_true.mp h
  simp only [Bool.and_eq_true, decide_eq_true_eq] at q
  exact ⟨b, hb, q⟩
theorem InBlocks.of {b : Int × Int} {x : Int} (hb : b ∈ blocks) (h0 : 0 < b.2) : InBlocks (b.1 + Int.fmod x b.2) := by
  refine List.any_eq_true.mpr ⟨b, hb, ?_⟩
  have h1 := Int.fmod_nonneg_of_pos x h0
  have h2 := Int.fmod_lt_of_pos x h0
  simp only [Bool.and_eq_true, decide_eq_true_eq]
  omega
theorem InBlocks.rough {c : Int} (h : InBlocks c) : (0 ≤ c ∧ c < 1416) ∨ (7680 ≤ c ∧ c < 8112) ∨ (8544 ≤ c ∧ c < 9450) ∨ (64256 ≤ c ∧ c < 64280) ∨ (65313 ≤ c ∧ c < 120778) := by
  obtain ⟨b, hb, h1, h2⟩ := h.out
  simp only [blocks, List.mem_cons, List.not_mem_nil, or_false] at hb
  rcases hb with rfl | rfl | rfl | rfl | rfl | rfl | rfl | rfl | rfl | rfl | rfl | rfl | rfl | rfl | rfl | rfl | rfl <;> (dsimp only at h1 h2; omega)
theorem InBlocks.ge {c : Int} (h : InBlocks c) : 0 ≤ c := by have := h.rough; omega
theorem InBlocks.le {c : Int} (h : InBlocks c) : c ≤ 1114111 := by have := h.rough; omega
theorem fold_ok {c : Int} (h : InBlocks c) : mapped tabB3 c = folded c := by
  obtain ⟨b, hb, h1, h2⟩ := h.out
  simp only [blocks, List.mem_cons, List.not_mem_nil, or_false] at hb
  rcases hb with rfl | rfl | rfl | rfl | rfl | rfl | rfl | rfl | rfl | rfl | rfl | rfl | rfl | rfl | rfl | rfl | rfl
  · exact okBlock_at blk0 c h1 h2
  · exact okBlock_at blk1 c h1 h2
  · exact okBlock_at blk2 c h1 h2
  · exact okBlock_at blk3 c h1 h2
  · exact okBlock_at blk4 c h1 h2
  · exact okBlock_at blk5 c h1 h2
  · exact okBlock_at blk6 c h1 h2
  · exact okBlock_at blk7 c h1 h2
  · exact okBlock_at blk8 c h1 h2
  · exact okBlock_at blk9 c h1 h2
  · exact okBlock_at blk10 c h1 h2
  · exact okBlock_at blk11 c h1 h2
  · exact okBlock_at blk12 c h1 h2
  · exact okBlock_at blk13 c h1 h2
  · exact okBlock_at blk14 c h1 h2
  · dsimp only at h1 h2
    by_cases g0 : c < 119860
    · exact okBlock_at blk15x0 c (by omega) (by omega)
    by_cases g1 : c < 119912
    · exact okBlock_at blk15x1 c (by omega) (by omega)
    by_cases g2 : c < 119964
    · exact okBlock_at blk15x2 c (by omega) (by omega)
    by_cases g3 : c < 120016
    · exact okBlock_at blk15x3 c (by omega) (by omega)
    by_cases g4 : c < 120068
    · exact okBlock_at blk15x4 c (by omega) (by omega)
    by_cases g5 : c < 120120
    · exact okBlock_at blk15x5 c (by omega) (by omega)
    by_cases g6 : c < 120172
    · exact okBlock_at blk15x6 c (by omega) (by omega)
    by_cases g7 : c < 120224
    · exact okBlock_at blk15x7 c (by omega) (by omega)
    by_cases g8 : c < 120276
    · exact okBlock_at blk15x8 c (by omega) (by omega)
    by_cases g9 : c < 120328
    · exact okBlock_at blk15x9 c (by omega) (by omega)
    by_cases g10 : c < 120380
    · exact okBlock_at blk15x10 c (by omega) (by omega)
    by_cases g11 : c < 120432
    · exact okBlock_at blk15x11 c (by omega) (by omega)
    exact okBlock_at blk15x12 c (by omega) (by omega)
  · dsimp only at h1 h2
    by_cases g0 : c < 120546
    · exact okBlock_at blk16x0 c (by omega) (by omega)
    by_cases g1 : c < 120604
    · exact okBlock_at blk16x1 c (by omega) (by omega)
    by_cases g2 : c < 120662
    · exact okBlock_at blk16x2 c (by omega) (by omega)
    by_cases g3 : c < 120720
    · exact okBlock_at blk16x3 c (by omega) (by omega)
    exact okBlock_at blk16x4 c (by omega) (by omega)

theorem pairsOf_str {k : Int} {d : PyData} : ∀ {ks : List (Option PySem.Expr)} {vs : List PySem.Expr}, datumAt k (pairsOf ks vs) = some d → ∃ y, d = .str y := by
  intro ks
  induction ks with
  | nil => intro vs h; simp [pairsOf, datumAt] at h
  | cons a ks ih =>
    intro vs h
    unfold pairsOf at h
    split at h
    · rename_i e2
      obtain ⟨-, rfl⟩ := List.cons.inj e2
      simp only [datumAt] at h
      split at h
      · cases h; exact ⟨_, rfl⟩
      · exact ih h
    · simp [datumAt] at h
theorem tabB3_str {k : Int} {d : PyData} (h : datumAt k tabB3 = some d) : ∃ y, d = .str y := by
  unfold tabB3 tableOf at h
  split at h
  · exact pairsOf_str h
  · simp [datumAt] at h
noncomputable def mapS (x : Str) : Str := match datumAt ((x.cps.getD 0 0 : Nat) : Int) tabB3 with
  | some (.str y) => y
  | _ => Txt.lower x
theorem mapS_some {x y : Str} (h : datumAt ((x.cps.getD 0 0 : Nat) : Int) tabB3 = some (.str y)) : y = mapS x := by
  unfold mapS; rw [h]
theorem mapS_none {x : Str} (h : datumAt ((x.cps.getD 0 0 : Nat) : Int) tabB3 = none) : Txt.lower x = mapS x := by
  unfold mapS; rw [h]
theorem mapS_one {c : Int} (h : InBlocks c) : mapS ⟨#[c.toNat]⟩ = folded c := by
  rw [← fold_ok h]
  have := h.ge
  have e : ((c.toNat : Nat) : Int) = c := by omega
  show (match datumAt ((c.toNat : Nat) : Int) tabB3 with | some (.str y) => y | _ => Txt.lower _) = _
  rw [e]
  rfl
end Mine
end

section
open PySem PySem.W PyProof.Rows PyProof.Rows.KTD
namespace Mine
theorem latin_ex : ∃ f : Int → Str, ∀ c, f c = latin c := ⟨latin, fun _ => rfl⟩
noncomputable def latinO : Int → Str := Classical.choose latin_ex
theorem latinO_eq (c : Int) : latinO c = latin c := Classical.choose_spec latin_ex c
theorem greek_ex : ∃ f : Int → Str, ∀ c, f c = greek c := ⟨greek, fun _ => rfl⟩
noncomputable def greekO : Int → Str := Classical.choose greek_ex
theorem greekO_eq (c : Int) : greekO c = greek c := Classical.choose_spec greek_ex c
theorem cyrillic_ex : ∃ f : Int → Str, ∀ c, f c = cyrillic c := ⟨cyrillic, fun _ => rfl⟩
noncomputable def cyrillicO : Int → Str := Classical.choose cyrillic_ex
theorem cyrillicO_eq (c : Int) : cyrillicO c = cyrillic c := Classical.choose_spec cyrillic_ex c
theorem moreLatin_ex : ∃ f : Int → Str, ∀ c, f c = moreLatin c := ⟨moreLatin, fun _ => rfl⟩
noncomputable def moreLatinO : Int → Str := Classical.choose moreLatin_ex
theorem moreLatinO_eq (c : Int) : moreLatinO c = moreLatin c := Classical.choose_spec moreLatin_ex c
theorem moreGreek_ex : ∃ f : Int → Str, ∀ c, f c = moreGreek c := ⟨moreGreek, fun _ => rfl⟩
noncomputable def moreGreekO : Int → Str := Classical.choose moreGreek_ex
theorem moreGreekO_eq (c : Int) : moreGreekO c = moreGreek c := Classical.choose_spec moreGreek_ex c
theorem ligature_ex : ∃ f : Int → Str, ∀ c, f c = ligature c := ⟨ligature, fun _ => rfl⟩
noncomputable def ligatureO : Int → Str := Classical.choose ligature_ex
theorem ligatureO_eq (c : Int) : ligatureO c = ligature c := Classical.choose_spec ligature_ex c
theorem mathematical_ex : ∃ f : Int → Str, ∀ c, f c = mathematical c := ⟨mathematical, fun _ => rfl⟩
noncomputable def mathematicalO : Int → Str := Classical.choose mathematical_ex
theorem mathematicalO_eq (c : Int) : mathematicalO c = mathematical c := Classical.choose_spec mathematical_ex c
theorem folded_ex : ∃ f : Int → Str, ∀ c, f c = folded c := ⟨folded, fun _ => rfl⟩
noncomputable def foldedO : Int → Str := Classical.choose folded_ex
theorem foldedO_eq (c : Int) : foldedO c = folded c := Classical.choose_spec folded_ex c
theorem mapS_ex : ∃ f : Str → Str, ∀ c, f c = mapS c := ⟨mapS, fun _ => rfl⟩
noncomputable def mapSO : Str → Str := Classical.choose mapS_ex
theorem mapSO_eq (c : Str) : mapSO c = mapS c := Classical.choose_spec mapS_ex c
theorem mapSO_some {x y : Str} (h : datumAt ((x.cps.getD 0 0 : Nat) : Int) tabB3 = some (.str y)) : y = mapSO x := (mapS_some h).trans (mapSO_eq x).symm
theorem mapSO_none {x : Str} (h : datumAt ((x.cps.getD 0 0 : Nat) : Int) tabB3 = none) : Txt.lower x = mapSO x := (mapS_none h).trans (mapSO_eq x).symm
end Mine
end

section
open PySem
namespace Mine
def ps : Pos := ⟨2, 16, 2, 17⟩
def emptyD : PySem.Expr := .Dict [] [] ps
def cS (s : Str) : PySem.Expr := .Constant (.str s) 0 ps
def cI (n : Int) : PySem.Expr := .Constant (.int n) 0 ps
/-- an f-string of n written parts: n + 1 tokens, no object -/
def pad (n : Nat) : PySem.Stmt := .Expr (.JoinedStr (List.replicate n (cS "a")) ps) ps
def minis (ns : List Nat) : List PySem.Stmt → List PySem.Stmt
  | a :: .Assign ts (.Dict ks vs p) q :: r => a :: (ns.map pad ++ .Assign ts (.Dict (ks.take 1 ++ List.replicate 38 none) (vs.take 1 ++ List.replicate 38 emptyD) p) q :: r)
  | s => s
set_option maxRecDepth 100000 in
set_option maxHeartbeats 4000000 in
def pwm : PySem.Program := { PySem.Challenge.pw_ki0084_01 with main := { PySem.Challenge.pw_ki0084_01.main with body := minis (List.replicate 11 176) PySem.Challenge.pw_ki0084_01.main.body } }
def rwm : PySem.W.OpenLaw :=
  { prog := pwm, name := (PySem.Str.ofString "law"), about := [(PySem.Str.ofString "map_table_b3")], foot := 10, most := some 63, bound := none, writes := false }
end Mine
end

section
open PySem PySem.W PyProof.Rows
namespace Mine
set_option maxRecDepth 100000 in
set_option maxHeartbeats 8000000 in
open_top hdm for rwm
end Mine
end

section
open PySem PySem.W PySem.Calls PyProof.Rows
namespace Mine
/-- a tree run at the top, straight: from s, pos to the answer a at s', pos' in n steps -/
def Ev (w : World) (b : List Stmt) (env : Env) (q : Pos) (n₀ : Nat) (ann : Option Value) {α : Type} (x : Sem α) (s : Shared) (pos : Pos) (n : Nat) (a : α) (s' : Shared) (pos' : Pos) : Prop :=
  ∀ (p : Program) (K : α → Sem Fin) (H : Value → Sem Fin) (gd : Bool → Bool) (lv : List Value → List Value) (N : Nat) (r : Shared),
    topRun treeTable p w n₀ ann N s' ⟨K a, .body b env, pos', [topFrame q]⟩ = some r → topRun treeTable p w n₀ ann (N + n) s ⟨x.wrap K H gd lv, .body b env, pos, [topFrame q]⟩ = some r
section
variable {w : World} {b : List Stmt} {env : Env} {q : Pos} {n₀ : Nat} {ann : Option Value} {α β : Type} {s s₁ s₂ : Shared} {pos pos₁ pos₂ : Pos} {n m : Nat}
theorem Ev.pure (a : α) : Ev w b env q n₀ ann (.pure a) s pos 0 a s pos := fun _ _ _ _ _ _ _ h => h
theorem Ev.wrap {x : Sem α} {K : α → Sem β} {H : Value → Sem β} {gd : Bool → Bool} {lv : List Value → List Value} {a : α} {c : β} (h1 : Ev w b env q n₀ ann x s pos n a s₁ pos₁) (h2 : Ev w b env q n₀ ann (K a) s₁ pos₁ m c s₂ pos₂) :
    Ev w b env q n₀ ann (x.wrap K H gd lv) s pos (m + n) c s₂ pos₂ := fun p K' H' gd' lv' N r h => by
  rw [Sem.wrap_wrap, ← Nat.add_assoc]
  exact h1 p _ _ _ _ _ r (h2 p _ _ _ _ _ r h)
theorem Ev.bind {x : Sem α} {f : α → Sem β} {a : α} {c : β} (h1 : Ev w b env q n₀ ann x s pos n a s₁ pos₁) (h2 : Ev w b env q n₀ ann (f a) s₁ pos₁ m c s₂ pos₂) : Ev w b env q n₀ ann (x >>= f) s pos (m + n) c s₂ pos₂ := by
  rw [Sem.bind_eq_wrap']; exact h1.wrap h2
theorem Ev.keep {x : Sem α} {vs : List Value} {a : α} (h : Ev w b env q n₀ ann x s pos n a s₁ pos₁) : Ev w b env q n₀ ann (x.keep vs) s pos n a s₁ pos₁ := by
  rw [Sem.keep_eq_wrap]
  have := h.wrap (K := Sem.pure) (H := .raise) (gd := id) (lv := (vs ++ ·)) (Ev.pure a)
  rwa [Nat.zero_add] at this
theorem Ev.holding {x : Sem α} {vs : List Value} {a : α} (h : Ev w b env q n₀ ann x s pos n a s₁ pos₁) : Ev w b env q n₀ ann (PySem.holding vs x) s pos n a s₁ pos₁ := by
  unfold PySem.holding
  split
  · exact h
  · exact h.keep
theorem Ev.onRaise {x : Sem α} {f : Value → Sem Unit} {a : α} (h : Ev w b env q n₀ ann x s pos n a s₁ pos₁) : Ev w b env q n₀ ann (x.onRaise f) s pos n a s₁ pos₁ := by
  rw [Sem.onRaise_eq_wrap]
  have := h.wrap (K := Sem.pure) (H := fun e => (f e).bind fun _ => .raise e) (gd := id) (lv := id) (Ev.pure a)
  rwa [Nat.zero_add] at this
theorem topRun_succ {p : Program} {N : Nat} {s s' r : Shared} {t t' : Thread} (h1 : through t = false) (h2 : stepOk n₀ ann t = true) (h3 : step (denote treeTable) p w s t = .go s' t') (k : topRun treeTable p w n₀ ann N s' t' = some r) :
    topRun treeTable p w n₀ ann (N + 1) s t = some r := by
  unfold topRun; rw [h1, h2, h3]; exact k
theorem Ev.fresh : Ev w b env q n₀ ann PySem.fresh s pos 1 s.toks { s with toks := s.toks + 1 } pos := fun _ _ _ _ _ _ _ h => topRun_succ rfl rfl rfl h
theorem Ev.rule {t : String} : Ev w b env q n₀ ann (PySem.rule t) s pos 1 () s pos := fun _ _ _ _ _ _ _ h => topRun_succ rfl rfl rfl h
theorem Ev.standAt {p₁ : Pos} : Ev w b env q n₀ ann (PySem.standAt p₁) s pos 1 () s p₁ := fun _ _ _ _ _ _ _ h => topRun_succ rfl rfl rfl h
theorem Ev.alloc {o : Obj} : Ev w b env q n₀ ann (PySem.alloc o) s pos 1 s.heap.objs.size { s with heap := s.heap.push o } pos := fun _ _ _ _ _ _ _ h => topRun_succ rfl rfl rfl h
theorem Ev.load {d : Addr} {part : Option Value} {o : Obj} (ho : s.heap.get? d = some o) : Ev w b env q n₀ ann (PySem.loadPart d part) s pos 1 o s pos := fun _ _ _ _ _ _ _ h =>
  topRun_succ rfl rfl (by simp only [PySem.loadPart, Sem.wrap, step, ho]) h
theorem Ev.update {d : Addr} {part : Option Value} {f : Obj → Obj} (ho : (s.heap.get? d).isSome = true) (hd : n₀ ≤ d) : Ev w b env q n₀ ann (PySem.updatePart d part f) s pos 1 () { s with heap := s.heap.update d f } pos := fun _ _ _ _ _ _ _ h =>
  topRun_succ rfl (by simp only [PySem.updatePart, Sem.wrap, stepOk]; rw [show Nat.ble n₀ d = true from Nat.ble_eq_true_of_le hd]; rfl) (by simp only [PySem.updatePart, Sem.wrap, step, ho, if_true]) h
end
end Mine
end

section
open PySem PySem.W PySem.Calls PyProof.Rows
namespace Mine
set_option maxRecDepth 100000 in
theorem hash_run : ∀ w : World, ∀ (p : Program) (K : Int → Sem Fin) (H : Value → Sem Fin) (gd : Bool → Bool) (lv : List Value → List Value) (N : Nat) (heap : Heap) (gens : Array GenState) (drawn : Drawn) (toks : Nat) (os : OsState) (b : List Stmt) (env : Env) (q pos : Pos) (n₀ : Nat) (ann : Option Value) (i : Int) (t : Tok),
    topRun treeTable p w n₀ ann (N + 5) ⟨heap, gens, drawn, toks, os⟩ ⟨(pyHash (.int i t)).wrap K H gd lv, .body b env, pos, [topFrame q]⟩ = topRun treeTable p w n₀ ann N ⟨heap, gens, drawn, toks + 1, os⟩ ⟨(pyHashByItsType.reduced (rawHash i)).wrap K H gd lv, .body b env, pos, [topFrame q]⟩ :=
  byRow2 "special-get-raises" (fun w => by intros; kernel_rfl) (fun w => by intros; kernel_rfl)
theorem reduced_raw (k : Int) : pyHashByItsType.reduced (rawHash k) = Sem.pure (hashInt k) := by
  have hr := rawHash_range k
  unfold pyHashByItsType.reduced
  rw [if_pos (by rw [decide_eq_true hr.1, decide_eq_true hr.2]; rfl)]
  rfl
theorem Ev.hash {w : World} {b : List Stmt} {env : Env} {q : Pos} {n₀ : Nat} {ann : Option Value} {s : Shared} {pos : Pos} {i : Int} {t : Tok} : Ev w b env q n₀ ann (pyHash (.int i t)) s pos 5 (hashInt i) { s with toks := s.toks + 1 } pos := fun p K H gd lv N r h => by
  rw [hash_run, reduced_raw]
  exact h
end Mine
end

section
open PySem PySem.W PySem.Calls PyProof.Rows
namespace Mine
/-- the heap while the display is filled: the main dict m, the chunks' dicts behind it -/
def hp (l : List Obj) (life : Life) (m : Obj) (subs : List Obj) : Heap := ⟨(l ++ m :: subs).toArray, life⟩
def dob (es : List DictEntry) : Obj := { cls := .type "dict", data := .dict es.toArray es.length }
section
variable {l subs : List Obj} {life : Life} {m o : Obj} {es : List DictEntry} {e : DictEntry}
theorem hp_size : (hp l life m subs).objs.size = l.length + 1 + subs.length := by
  simp [hp]; omega
theorem push_first (h : Heap) (o : Obj) : h.push o = hp h.objs.toList h.life o [] := by
  obtain ⟨⟨l⟩, f⟩ := h
  simp [Heap.push, hp]
theorem hp_push : (hp l life m subs).push o = hp l life m (subs ++ [o]) := by
  simp [Heap.push, hp]
theorem get_main : (hp l life (dob es) subs).get? l.length = some (dob es) := by
  simp [Heap.get?, hp, dob]
theorem get_sub : (hp l life m (subs ++ [dob es])).get? (l.length + 1 + subs.length) = some (dob es) := by
  have : (l ++ m :: (subs ++ [dob es]))[l.length + 1 + subs.length]? = some (dob es) := by
    rw [List.getElem?_append_right (by omega)]
    have e : l.length + 1 + subs.length - l.length = subs.length + 1 := by omega
    rw [e, List.getElem?_cons_succ, List.getElem?_append_right (Nat.le_refl _)]
    simp
  unfold Heap.get? hp
  simp only [List.getElem?_toArray, this]
  rfl
theorem map_dob : (dob es).mapDictKeys (·.push e) = dob (es ++ [e]) := by
  simp [dob, Obj.mapDictKeys]
theorem modify_at : ∀ (l : List Obj) (o : Obj) (r : List Obj) (f : Obj → Obj), (l ++ o :: r).modify l.length f = l ++ f o :: r
  | [], o, r, f => rfl
  | a :: l, o, r, f => by simp [modify_at l o r f]
theorem upd_main {f : Obj → Obj} : (hp l life m subs).update l.length f = hp l life (f m) subs := by
  simp only [Heap.update, hp, List.modify_toArray, modify_at]
theorem upd_sub {f : Obj → Obj} : (hp l life m (subs ++ [o])).update (l.length + 1 + subs.length) f = hp l life m (subs ++ [f o]) := by
  have h : l ++ m :: (subs ++ [o]) = (l ++ m :: subs) ++ o :: [] := by simp
  have hl : l.length + 1 + subs.length = (l ++ m :: subs).length := by simp; omega
  simp only [Heap.update, hp, List.modify_toArray]
  rw [h, hl, modify_at]
  simp
end
section
variable {w : World} {b : List Stmt} {env : Env} {q : Pos} {n₀ : Nat} {ann : Option Value} {s : Shared} {pos : Pos} {d : Addr} {es : List DictEntry} {i h : Int} {t : Tok} {v : Value} {part : Option Value} {h' : Heap}
theorem places_nil {es : Array DictEntry} (hn : ∀ e ∈ es, e.hash ≠ h) : placesWithHash es.size (fun i => es[i]?.map (·.hash)) h = [] := by
  unfold placesWithHash
  rw [List.filter_eq_nil_iff]
  intro j hj
  have hj' : j < es.size := by simpa using hj
  dsimp only
  rw [Array.getElem?_eq_getElem hj']
  simpa using hn _ (Array.getElem_mem hj')
theorem Ev.entries (ho : s.heap.get? d = some (dob es)) : Ev w b env q n₀ ann (dictEntries d part) s pos 1 es.toArray s pos := by
  unfold dictEntries
  exact Ev.bind (m := 0) (Ev.load ho) (Ev.pure es.toArray)
theorem Ev.find (ho : s.heap.get? d = some (dob es)) (hn : ∀ e ∈ es, e.hash ≠ h) : Ev w b env q n₀ ann (dictFind d (.int i t) h) s pos 1 none s pos := by
  unfold dictFind
  refine Ev.holding ?_
  refine Ev.bind (m := 0) (Ev.entries ho) ?_
  dsimp only
  rw [places_nil (by simpa using hn)]
  exact Ev.pure none
theorem Ev.keys {e : DictEntry} (ho : s.heap.get? d = some (dob es)) (hlt : n₀ ≤ d) (hsz : es.length < 1000000) (hup : s.heap.update d (Obj.mapDictKeys (·.push e)) = h') (ho' : h'.get? d = some (dob (es ++ [e]))) :
    Ev w b env q n₀ ann (updateDictKeys d (·.push e) part) s pos 3 () { s with heap := h' } pos := by
  unfold updateDictKeys
  refine Ev.bind (m := 2) (Ev.load ho) ?_
  refine Ev.bind (m := 1) (Ev.update (by rw [ho]; rfl) hlt) ?_
  rw [hup]
  unfold lookBehind
  refine Ev.bind (m := 0) (Ev.load ho') ?_
  have hp : (dob (es ++ [e])).data.pastItsLine = none := by
    simp only [dob, Data.pastItsLine, List.size_toArray, List.length_append, List.length_singleton, sizeLine]
    rw [if_neg (by omega)]
  rw [hp]
  exact Ev.pure ()
theorem Ev.put {e : DictEntry} (hk : e.key = .int i t) (ho : s.heap.get? d = some (dob es)) (hn : ∀ x ∈ es, x.hash ≠ e.hash) (hlt : n₀ ≤ d) (hsz : es.length < 1000000) (hup : s.heap.update d (Obj.mapDictKeys (·.push e)) = h') (ho' : h'.get? d = some (dob (es ++ [e]))) :
    Ev w b env q n₀ ann (dictPut d e.hash e.key e.val) s pos 4 () { s with heap := h' } pos := by
  unfold dictPut
  rw [hk]
  refine Ev.bind (m := 3) (Ev.find ho hn) ?_
  have : (⟨e.hash, .int i t, e.val⟩ : DictEntry) = e := by rw [← hk]
  dsimp only
  rw [this]
  exact Ev.keys ho hlt hsz hup ho'
theorem Ev.set (ho : s.heap.get? d = some (dob es)) (hn : ∀ x ∈ es, x.hash ≠ hashInt i) (hlt : n₀ ≤ d) (hsz : es.length < 1000000) (hup : s.heap.update d (Obj.mapDictKeys (·.push ⟨hashInt i, .int i t, v⟩)) = h') (ho' : h'.get? d = some (dob (es ++ [⟨hashInt i, .int i t, v⟩]))) :
    Ev w b env q n₀ ann (dictSet d (.int i t) v) s pos 10 () { s with heap := h', toks := s.toks + 1 } pos := by
  unfold dictSet
  refine Ev.holding ?_
  refine Ev.bind (m := 5) Ev.hash ?_
  unfold dictSetHashed
  refine Ev.holding ?_
  refine Ev.bind (m := 4) (Ev.find (s := { s with toks := s.toks + 1 }) ho hn) ?_
  dsimp only
  refine Ev.bind (m := 3) Ev.rule ?_
  exact Ev.keys (s := { s with toks := s.toks + 1 }) ho hlt hsz hup ho'
end
end Mine
end

section
open PySem PySem.W PySem.Calls PyProof.Rows
namespace Mine
structure Fam (hF : List DictEntry → Heap) (d : Addr) : Prop where
  get : ∀ es, (hF es).get? d = some (dob es)
  upd : ∀ es e, (hF es).update d (Obj.mapDictKeys (·.push e)) = hF (es ++ [e])
theorem fam_main {l subs : List Obj} {life : Life} : Fam (fun es => hp l life (dob es) subs) l.length :=
  ⟨fun _ => get_main, fun es e => by rw [upd_main, map_dob]⟩
theorem fam_sub {l subs : List Obj} {life : Life} {m : Obj} : Fam (fun es => hp l life m (subs ++ [dob es])) (l.length + 1 + subs.length) :=
  ⟨fun _ => get_sub, fun es e => by rw [upd_sub, map_dob]⟩
/-- the rows that a chunk lays from the token T on -/
def ent (T : Nat) (p : Int × Str) : DictEntry := ⟨hashInt p.1, .int p.1 T, .str p.2 (T + 1)⟩
noncomputable def ents (T : Nat) : List (Int × Str) → List DictEntry
  | [] => []
  | p :: r => ent T p :: ents (T + 3) r
def kS (p : Int × Str) : Sem Value := mkInt p.1
def vS (pos : Pos) (p : Int × Str) : Sem Value := do let x ← mkText p.2; standAt pos; pure x
def prs (pos : Pos) (ps : List (Int × Str)) : List (Sem Value × Sem Value) := ps.map fun p => (kS p, vS pos p)
section
variable {w : World} {b : List Stmt} {env : Env} {q : Pos} {n₀ : Nat} {ann : Option Value} {s : Shared} {pos pos' : Pos} {d : Addr} {hF : List DictEntry → Heap} {T : Nat}
theorem ev_bind {α β : Type} {x : Sem α} {f : α → Sem β} {a : α} {c : β} {s s₁ s₂ : Shared} {pos pos₁ pos₂ : Pos} {n m k : Nat} (h1 : Ev w b env q n₀ ann x s pos n a s₁ pos₁) (h2 : Ev w b env q n₀ ann (f a) s₁ pos₁ m c s₂ pos₂) (hk : k = m + n) : Ev w b env q n₀ ann (x >>= f) s pos k c s₂ pos₂ := by
  subst hk; exact h1.bind h2
theorem ev_kS {p : Int × Str} : Ev w b env q n₀ ann (Mine.kS p) s pos 1 (.int p.1 s.toks) { s with toks := s.toks + 1 } pos :=
  Ev.bind (m := 0) Ev.fresh (Ev.pure _)
theorem ev_vS {p : Int × Str} : Ev w b env q n₀ ann (Mine.vS pos' p) s pos 2 (.str p.2 s.toks) { s with toks := s.toks + 1 } pos' := by
  unfold Mine.vS
  refine Ev.bind (m := 1) (n := 1) (s₁ := { s with toks := s.toks + 1 }) (Ev.bind (m := 0) Ev.fresh (Ev.pure _)) ?_
  exact Ev.bind (m := 0) Ev.standAt (Ev.pure _)
theorem ev_loop {f : Sem Value × Sem Value → PUnit → Sem (ForInStep PUnit)} (hf : ∀ (p : Int × Str) (es : List DictEntry) (T : Nat), (∀ x ∈ es, x.hash ≠ hashInt p.1) → es.length < 1000000 →
      Ev w b env q n₀ ann (f (Mine.kS p, Mine.vS pos p) ⟨⟩) { s with heap := hF es, toks := T } pos 13 (.yield ⟨⟩) { s with heap := hF (es ++ [ent T p]), toks := T + 3 } pos) :
    ∀ (ps : List (Int × Str)) (es : List DictEntry) (T : Nat), (es.map (·.hash) ++ ps.map fun p => hashInt p.1).Nodup → es.length + ps.length < 1000000 →
      Ev w b env q n₀ ann (forIn (prs pos ps) PUnit.unit f) { s with heap := hF es, toks := T } pos (13 * ps.length) ⟨⟩ { s with heap := hF (es ++ ents T ps), toks := T + 3 * ps.length } pos
  | [], es, T, _, _ => by
    simp only [prs, List.map_nil, List.forIn_nil, ents, List.append_nil, List.length_nil]
    exact Ev.pure _
  | p :: ps, es, T, hn, hsz => by
    simp only [prs, List.map_cons, List.forIn_cons]
    have e1 : 13 * (p :: ps).length = 13 * ps.length + 13 := by simp [Nat.mul_add]
    have e2 : T + 3 * (p :: ps).length = (T + 3) + 3 * ps.length := by simp [Nat.mul_add]; omega
    have e3 : es ++ ents T (p :: ps) = (es ++ [ent T p]) ++ ents (T + 3) ps := by simp [ents]
    rw [e1, e2, e3]
    have hn' : ∀ x ∈ es, x.hash ≠ hashInt p.1 := by
      intro x hx e
      have := List.nodup_append.mp hn
      exact this.2.2 _ (List.mem_map_of_mem hx) _ (by simp) e
    refine Ev.bind (hf p es T hn' (by simp at hsz; omega)) ?_
    refine ev_loop hf ps (es ++ [ent T p]) (T + 3) ?_ (by simp at hsz ⊢; omega)
    simpa [ent] using hn
theorem ev_body (F : Fam hF d) (hlt : n₀ ≤ d) (p : Int × Str) (es : List DictEntry) (T : Nat) (hn : ∀ x ∈ es, x.hash ≠ hashInt p.1) (hsz : es.length < 1000000) :
    Ev w b env q n₀ ann (do let kv ← Mine.kS p; let vv ← holding [kv] (Mine.vS pos p); holding [kv, vv] (dictSet d kv vv); pure (ForInStep.yield PUnit.unit)) { s with heap := hF es, toks := T } pos 13 (.yield ⟨⟩) { s with heap := hF (es ++ [ent T p]), toks := T + 3 } pos := by
  refine Ev.bind (m := 12) ev_kS ?_
  refine Ev.bind (m := 10) (Ev.holding ev_vS) ?_
  refine Ev.bind (m := 0) (n := 10) (Ev.holding (Ev.set (es := es) (h' := hF (es ++ [ent T p])) (F.get es) hn hlt hsz (F.upd es _) (F.get _))) ?_
  exact Ev.pure _
theorem ev_subDict {ps : List (Int × Str)} (hl : 15 < ps.length) (hsz : ps.length < 1000000) (hnd : (ps.map fun p => hashInt p.1).Nodup) (F : Fam hF s.heap.objs.size) (h0 : s.heap.push { cls := .type "dict", data := .dict #[] } = hF []) (hlt : n₀ ≤ s.heap.objs.size) :
    Ev w b env q n₀ ann (subDict (prs pos ps)) s pos (13 * ps.length + 2) s.heap.objs.size { s with heap := hF (ents s.toks ps), toks := s.toks + 3 * ps.length } pos := by
  unfold PySem.subDict
  refine ev_bind (m := 13 * ps.length + 1) (n := 1) Ev.alloc ?_ (by omega)
  rw [h0]
  refine ev_bind (a := ()) (m := 0) (n := 13 * ps.length + 1) ?_ (Ev.pure _) (by omega)
  refine Ev.holding ?_
  rw [if_neg (by simp [prs]; omega)]
  refine ev_bind (n := 1) (m := 13 * ps.length) Ev.rule ?_ (by omega)
  refine ev_bind (a := PUnit.unit) (m := 0) (n := 13 * ps.length) (s₁ := { s with heap := hF ([] ++ ents s.toks ps), toks := s.toks + 3 * ps.length }) ?_ (Ev.pure _) (by omega)
  refine ev_loop (s := s) (hF := hF) ?_ ps [] s.toks (by simpa using hnd) (by simpa using hsz)
  intro p es T hn hs
  exact ev_body F hlt p es T hn hs
end
end Mine
end

section
open PySem PySem.W PySem.Calls PyProof.Rows
namespace Mine
noncomputable def vals (T : Nat) : List (Int × Str) → List (Value × Value)
  | [] => []
  | p :: r => (.int p.1 T, .str p.2 (T + 1)) :: vals (T + 2) r
noncomputable def entsS (T : Nat) : List (Int × Str) → List DictEntry
  | [] => []
  | p :: r => ent T p :: entsS (T + 2) r
section
variable {w : World} {b : List Stmt} {env : Env} {q : Pos} {n₀ : Nat} {ann : Option Value} {pos pos' : Pos} {d : Addr} {hF : List DictEntry → Heap} {T : Nat}
theorem ev_pairs : ∀ (ps : List (Int × Str)) (s : Shared), Ev w b env q n₀ ann (evalPairs (prs pos ps)) s pos (3 * ps.length) (vals s.toks ps) { s with toks := s.toks + 2 * ps.length } pos
  | [], s => Ev.pure _
  | p :: ps, s => by
    simp only [prs, List.map_cons, evalPairs]
    have e1 : 3 * (p :: ps).length = 3 * ps.length + 3 := by simp [Nat.mul_add]
    have e2 : s.toks + 2 * (p :: ps).length = s.toks + 1 + 1 + 2 * ps.length := by simp [Nat.mul_add]; omega
    rw [e1, e2]
    refine ev_bind (m := 3 * ps.length + 2) ev_kS ?_ (by omega)
    refine ev_bind (m := 3 * ps.length) (Ev.holding ev_vS) ?_ (by omega)
    refine ev_bind (m := 0) (n := 3 * ps.length) (Ev.holding (ev_pairs ps { s with toks := s.toks + 1 + 1 })) ?_ (by omega)
    exact Ev.pure _
theorem ev_loopS {s : Shared} {f : Value × Value → PUnit → Sem (ForInStep PUnit)} (hf : ∀ (p : Int × Str) (es : List DictEntry) (T U : Nat), (∀ x ∈ es, x.hash ≠ hashInt p.1) → es.length < 1000000 →
      Ev w b env q n₀ ann (f (.int p.1 T, .str p.2 (T + 1)) ⟨⟩) { s with heap := hF es, toks := U } pos 10 (.yield ⟨⟩) { s with heap := hF (es ++ [ent T p]), toks := U + 1 } pos) :
    ∀ (ps : List (Int × Str)) (es : List DictEntry) (T U : Nat), (es.map (·.hash) ++ ps.map fun p => hashInt p.1).Nodup → es.length + ps.length < 1000000 →
      Ev w b env q n₀ ann (forIn (vals T ps) PUnit.unit f) { s with heap := hF es, toks := U } pos (10 * ps.length) ⟨⟩ { s with heap := hF (es ++ entsS T ps), toks := U + ps.length } pos
  | [], es, T, U, _, _ => by
    simp only [vals, List.forIn_nil, entsS, List.append_nil, List.length_nil]
    exact Ev.pure _
  | p :: ps, es, T, U, hn, hsz => by
    simp only [vals, List.forIn_cons]
    have e1 : 10 * (p :: ps).length = 10 * ps.length + 10 := by simp [Nat.mul_add]
    have e2 : U + (p :: ps).length = (U + 1) + ps.length := by simp; omega
    have e3 : es ++ entsS T (p :: ps) = (es ++ [ent T p]) ++ entsS (T + 2) ps := by simp [entsS]
    rw [e1, e2, e3]
    have hn' : ∀ x ∈ es, x.hash ≠ hashInt p.1 := by
      intro x hx e
      have := List.nodup_append.mp hn
      exact this.2.2 _ (List.mem_map_of_mem hx) _ (by simp) e
    refine Ev.bind (hf p es T U hn' (by simp at hsz; omega)) ?_
    refine ev_loopS hf ps (es ++ [ent T p]) (T + 2) (U + 1) ?_ (by simp at hsz ⊢; omega)
    simpa [ent] using hn
theorem ev_subShort {s : Shared} {ps : List (Int × Str)} (hl : ps.length ≤ 15) (hnd : (ps.map fun p => hashInt p.1).Nodup) (F : Fam hF s.heap.objs.size) (h0 : s.heap.push { cls := .type "dict", data := .dict #[] } = hF []) (hlt : n₀ ≤ s.heap.objs.size) :
    Ev w b env q n₀ ann (subDict (prs pos ps)) s pos (13 * ps.length + 1) s.heap.objs.size { s with heap := hF (entsS s.toks ps), toks := s.toks + 3 * ps.length } pos := by
  unfold PySem.subDict
  refine ev_bind (m := 13 * ps.length) (n := 1) Ev.alloc ?_ (by omega)
  rw [h0]
  refine ev_bind (a := ()) (m := 0) (n := 13 * ps.length) ?_ (Ev.pure _) (by omega)
  refine Ev.holding ?_
  rw [if_pos (by simpa [prs] using hl)]
  refine ev_bind (m := 10 * ps.length) (n := 3 * ps.length) (ev_pairs ps _) ?_ (by omega)
  refine Ev.holding ?_
  have e : s.toks + 3 * ps.length = s.toks + 2 * ps.length + ps.length := by omega
  rw [e]
  refine ev_bind (a := PUnit.unit) (m := 0) (n := 10 * ps.length) (s₁ := { s with heap := hF ([] ++ entsS s.toks ps), toks := s.toks + 2 * ps.length + ps.length }) ?_ (Ev.pure _) (by omega)
  refine ev_loopS (s := s) (hF := hF) ?_ ps [] s.toks (s.toks + 2 * ps.length) (by simpa using hnd) (by simp; omega)
  intro p es T U hn hs
  exact ev_bind (m := 0) (n := 10) (Ev.set (s := { s with heap := hF es, toks := U }) (es := es) (h' := hF (es ++ [ent T p])) (F.get es) hn hlt hs (F.upd es _) (F.get _)) (Ev.pure _) (by omega)
end
end Mine
end

section
open PySem PySem.W PySem.Calls PyProof.Rows
namespace Mine
section
variable {w : World} {b : List Stmt} {env : Env} {q : Pos} {n₀ : Nat} {ann : Option Value} {pos pos' : Pos} {d a : Addr} {s : Shared} {es xs : List DictEntry}
theorem ev_typeOf (ho : s.heap.get? a = some (dob xs)) : Ev w b env q n₀ ann (typeOf (.ref a)) s pos 1 (.type "dict") s pos := by
  unfold typeOf
  exact ev_bind (m := 0) (Ev.load ho) (Ev.pure _) rfl
theorem sub_dict : isSubtype (.type "dict") (.type "dict") = Sem.pure true := by kernel_rfl
theorem iter_dict : typeLookup (.type "dict") "__iter__" = Sem.pure (some (.builtin "dict.__iter__")) := by kernel_rfl
theorem ev_isInstance (ho : s.heap.get? a = some (dob xs)) : Ev w b env q n₀ ann (isInstance (.ref a) (.type "dict")) s pos 1 true s pos := by
  unfold isInstance
  refine ev_bind (m := 0) (ev_typeOf ho) ?_ rfl
  rw [sub_dict]; exact Ev.pure _
theorem ev_special (ho : s.heap.get? a = some (dob xs)) : Ev w b env q n₀ ann (specialOf (.ref a) "__iter__") s pos 1 (some (.builtin "dict.__iter__")) s pos := by
  unfold specialOf
  refine ev_bind (m := 0) (ev_typeOf ho) ?_ rfl
  rw [iter_dict]; exact Ev.pure _
theorem ev_epoch {part : Option Value} (ho : s.heap.get? a = some (dob xs)) : Ev w b env q n₀ ann (dictEpoch a part) s pos 1 xs.length s pos := by
  unfold dictEpoch
  exact ev_bind (m := 0) (Ev.load ho) (Ev.pure _) rfl
theorem ev_mloop {l subs : List Obj} {life : Life} {s : Shared} {xs : List DictEntry} {f : Nat → PUnit → Sem (ForInStep PUnit)} (hf : ∀ (j : Nat) (e : DictEntry) (es : List DictEntry), xs[j]? = some e → (∀ x ∈ es, x.hash ≠ e.hash) → es.length < 1000000 →
      Ev w b env q n₀ ann (f j ⟨⟩) { s with heap := hp l life (dob es) (subs ++ [dob xs]) } pos 6 (.yield ⟨⟩) { s with heap := hp l life (dob (es ++ [e])) (subs ++ [dob xs]) } pos) :
    ∀ (ys : List DictEntry) (k : Nat) (es : List DictEntry), (∀ j, xs[k + j]? = ys[j]?) → (es.map (·.hash) ++ ys.map (·.hash)).Nodup → es.length + ys.length < 1000000 →
      Ev w b env q n₀ ann (forIn (List.range' k ys.length) PUnit.unit f) { s with heap := hp l life (dob es) (subs ++ [dob xs]) } pos (6 * ys.length) ⟨⟩ { s with heap := hp l life (dob (es ++ ys)) (subs ++ [dob xs]) } pos
  | [], k, es, _, _, _ => by
    simp only [List.length_nil, List.range'_zero, List.forIn_nil, List.append_nil]
    exact Ev.pure _
  | y :: ys, k, es, hx, hn, hsz => by
    simp only [List.length_cons, List.range'_succ, List.forIn_cons]
    have e1 : 6 * (ys.length + 1) = 6 * ys.length + 6 := by omega
    have e3 : es ++ y :: ys = (es ++ [y]) ++ ys := by simp
    rw [e1, e3]
    have hn' : ∀ x ∈ es, x.hash ≠ y.hash := by
      intro x hx e
      have := List.nodup_append.mp hn
      exact this.2.2 _ (List.mem_map_of_mem hx) _ (by simp) e
    refine Ev.bind (hf k y es (by simpa using hx 0) hn' (by simp at hsz; omega)) ?_
    refine ev_mloop hf ys (k + 1) (es ++ [y]) (fun j => ?_) (by simpa using hn) (by simp at hsz ⊢; omega)
    have := hx (j + 1)
    rw [List.getElem?_cons_succ] at this
    rw [← this]; congr 1; omega
theorem beq_iter : (some (Value.builtin "dict.__iter__") == some (Value.builtin "dict.__iter__")) = true := by kernel_rfl
theorem ev_merge {l subs : List Obj} {life : Life} (hs : s.heap = hp l life (dob es) (subs ++ [dob xs])) (hne : es ≠ []) (hsys : (l.length + 1 + subs.length == sysModules) = false) (hlt : n₀ ≤ l.length) (hnd : (es.map (·.hash) ++ xs.map (·.hash)).Nodup) (hk : ∀ e ∈ xs, ∃ i t, e.key = .int i t) (hsz : es.length + xs.length < 1000000) :
    Ev w b env q n₀ ann (mergeMapping l.length (.ref (l.length + 1 + subs.length)) false) s pos (6 * xs.length + 5) () { s with heap := hp l life (dob (es ++ xs)) (subs ++ [dob xs]) } pos := by
  have g1 : s.heap.get? l.length = some (dob es) := by rw [hs]; exact get_main
  have g2 : s.heap.get? (l.length + 1 + subs.length) = some (dob xs) := by rw [hs]; exact get_sub
  unfold mergeMapping
  refine ev_bind (m := 6 * xs.length + 4) (ev_isInstance g2) ?_ (by omega)
  dsimp only
  rw [if_pos rfl]
  refine ev_bind (m := 6 * xs.length + 3) (ev_special g2) ?_ (by omega)
  refine ev_bind (m := 6 * xs.length + 3) (n := 0) (Ev.pure _) ?_ (by omega)
  rw [beq_iter]
  dsimp only
  rw [if_neg (by rw [hsys]; exact Bool.false_ne_true)]
  refine ev_bind (m := 6 * xs.length + 2) (Ev.entries g1) ?_ (by omega)
  have hE : es.toArray.isEmpty = false := by cases es <;> simp_all
  rw [hE, if_neg Bool.false_ne_true]
  refine ev_bind (m := 6 * xs.length + 1) (Ev.entries g2) ?_ (by omega)
  refine ev_bind (m := 6 * xs.length) (ev_epoch g2) ?_ (by omega)
  refine ev_bind (a := PUnit.unit) (m := 0) (n := 6 * xs.length) ?_ (Ev.pure _) (by omega)
  rw [List.size_toArray, List.range_eq_range']
  have hst : s = { s with heap := hp l life (dob es) (subs ++ [dob xs]) } := by rw [← hs]
  rw [hst]
  refine ev_mloop (s := s) (xs := xs) ?_ xs 0 es (fun j => by rw [Nat.zero_add]) hnd hsz
  intro j e es' hj hn hsz'
  obtain ⟨i, t, hkey⟩ := hk e (List.mem_of_getElem? hj)
  refine ev_bind (m := 5) (Ev.entries (es := xs) get_sub) ?_ (by omega)
  have hj' : xs.toArray[j]? = some e := by simpa using hj
  rw [hj']
  dsimp only
  rw [if_neg Bool.false_ne_true]
  refine ev_bind (m := 1) (n := 4) (Ev.holding (Ev.put (s := { s with heap := hp l life (dob es') (subs ++ [dob xs]) }) (h' := hp l life (dob (es' ++ [e])) (subs ++ [dob xs])) hkey get_main hn hlt hsz' (by rw [upd_main, map_dob]) get_main)) ?_ (by omega)
  refine ev_bind (m := 0) (ev_epoch (xs := xs) get_sub) ?_ (by omega)
  rw [if_neg (by simp)]
  exact Ev.pure _
end
end Mine
end

section
open PySem PySem.W PySem.Calls PyProof.Rows
namespace Mine
def flushD (run : List (Sem Value × Sem Value)) (main : Option Addr) : Sem (Option Addr) :=
  if run.isEmpty = true then pure main
  else match main with
    | none => do
      let x ← subDict run
      pure (some x)
    | some d => do
      let sub ← holding [Value.ref d] (subDict run)
      (holding [Value.ref d, Value.ref sub] (mergeMapping d (Value.ref sub) false)).onRaise fun (x : Value) => do
        let _ ← holding [Value.ref d, x] (runValue (Code.builtin "proto.let_go" { }))
        pure ()
      pure (some d)
abbrev DSt := Option Addr × List (Sem Value × Sem Value)
abbrev DIt := Option (Sem Value) × Sem Value
def its (pos : Pos) (ps : List (Int × Str)) : List DIt := ps.map fun p => (some (kS p), vS pos p)
def DBody (F : DIt → DSt → Sem (ForInStep DSt)) : Prop := ∀ k v main run, F (some k, v) (main, run) =
  if ((run ++ [(k, v)]).length == 17) = true then (do let main ← flushD (run ++ [(k, v)]) main; pure (ForInStep.yield (main, []))) else pure (ForInStep.yield (main, run ++ [(k, v)]))
noncomputable def subsOf (T : Nat) : List (List (Int × Str)) → List Obj
  | [] => []
  | c :: cs => dob (ents T c) :: subsOf (T + 3 * c.length) cs
theorem ents_append : ∀ (c r : List (Int × Str)) (T : Nat), ents T (c ++ r) = ents T c ++ ents (T + 3 * c.length) r
  | [], r, T => by simp [ents]
  | p :: c, r, T => by
    simp only [List.cons_append, ents, ents_append c r, List.length_cons]
    congr 3
    omega
theorem ents_hash : ∀ (c : List (Int × Str)) (T : Nat), (ents T c).map (·.hash) = c.map fun p => hashInt p.1
  | [], _ => rfl
  | p :: c, T => by simp [ents, ent, ents_hash c]
theorem entsS_hash : ∀ (c : List (Int × Str)) (T : Nat), (entsS T c).map (·.hash) = c.map fun p => hashInt p.1
  | [], _ => rfl
  | p :: c, T => by simp [entsS, ent, entsS_hash c]
theorem ents_key : ∀ (c : List (Int × Str)) (T : Nat), ∀ e ∈ ents T c, ∃ i t, e.key = .int i t
  | [], _, e, h => by simp [ents] at h
  | p :: c, T, e, h => by
    simp only [ents, List.mem_cons] at h
    rcases h with rfl | h
    · exact ⟨_, _, rfl⟩
    · exact ents_key c _ e h
theorem entsS_key : ∀ (c : List (Int × Str)) (T : Nat), ∀ e ∈ entsS T c, ∃ i t, e.key = .int i t
  | [], _, e, h => by simp [entsS] at h
  | p :: c, T, e, h => by
    simp only [entsS, List.mem_cons] at h
    rcases h with rfl | h
    · exact ⟨_, _, rfl⟩
    · exact entsS_key c _ e h
theorem ents_length : ∀ (c : List (Int × Str)) (T : Nat), (ents T c).length = c.length
  | [], _ => rfl
  | p :: c, T => by simp [ents, ents_length c]
theorem entsS_length : ∀ (c : List (Int × Str)) (T : Nat), (entsS T c).length = c.length
  | [], _ => rfl
  | p :: c, T => by simp [entsS, entsS_length c]
section
variable {w : World} {b : List Stmt} {env : Env} {q : Pos} {n₀ : Nat} {ann : Option Value} {pos : Pos} {F : DIt → DSt → Sem (ForInStep DSt)}
theorem ev_chunk (hF : DBody F) {main m : Option Addr} {rest : List DIt} {s s₁ s₂ : Shared} {pos₁ pos₂ : Pos} {n k : Nat} {r : DSt} (h2 : Ev w b env q n₀ ann (forIn rest (m, []) F) s₁ pos₁ k r s₂ pos₂) :
    ∀ (c : List (Int × Str)) (run : List (Sem Value × Sem Value)), run.length + c.length = 17 → c ≠ [] → Ev w b env q n₀ ann (flushD (run ++ prs pos c) main) s pos n m s₁ pos₁ → Ev w b env q n₀ ann (forIn (its pos c ++ rest) (main, run) F) s pos (k + n) r s₂ pos₂
  | [], _, _, hc, _ => absurd rfl hc
  | [p], run, hl, _, h1 => by
    simp only [its, List.map_cons, List.map_nil, List.cons_append, List.nil_append, List.forIn_cons]
    rw [hF, if_pos (by simp at hl ⊢; omega)]
    refine ev_bind (m := k) (n := n) (a := ForInStep.yield (m, [])) ?_ h2 rfl
    exact ev_bind (m := 0) h1 (Ev.pure _) (by omega)
  | p :: p' :: c, run, hl, _, h1 => by
    simp only [its, List.map_cons, List.cons_append, List.forIn_cons]
    rw [hF, if_neg (by simp at hl ⊢; omega)]
    refine ev_bind (m := k + n) (n := 0) (Ev.pure _) ?_ (by omega)
    have := ev_chunk hF h2 (p' :: c) (run ++ [(kS p, vS pos p)]) (by simp at hl ⊢; omega) (by simp) (by simpa [prs] using h1)
    simpa [its, List.forIn_cons] using this
theorem ev_tail (hF : DBody F) {main : Option Addr} {s : Shared} : ∀ (c : List (Int × Str)) (run : List (Sem Value × Sem Value)), run.length + c.length < 17 → Ev w b env q n₀ ann (forIn (its pos c) (main, run) F) s pos 0 (main, run ++ prs pos c) s pos
  | [], run, _ => by
    simp only [its, List.map_nil, List.forIn_nil, prs, List.append_nil]
    exact Ev.pure _
  | p :: c, run, hl => by
    simp only [its, List.map_cons, List.forIn_cons]
    rw [hF, if_neg (by simp at hl ⊢; omega)]
    refine ev_bind (m := 0) (n := 0) (Ev.pure _) ?_ (by omega)
    have := ev_tail hF (main := main) (s := s) c (run ++ [(kS p, vS pos p)]) (by simp at hl ⊢; omega)
    simpa [its, prs] using this
theorem prs_ne {c : List (Int × Str)} (h : c ≠ []) : ¬ (prs pos c).isEmpty = true := by
  cases c <;> simp_all [prs]
theorem ev_flush0 {s : Shared} {c : List (Int × Str)} (hl : 15 < c.length) (hsz : c.length < 1000000) (hnd : (c.map fun p => hashInt p.1).Nodup) (hlt : n₀ ≤ s.heap.objs.size) :
    Ev w b env q n₀ ann (flushD (prs pos c) none) s pos (13 * c.length + 2) (some s.heap.objs.size) { s with heap := hp s.heap.objs.toList s.heap.life (dob (ents s.toks c)) [], toks := s.toks + 3 * c.length } pos := by
  unfold flushD
  rw [if_neg (prs_ne (by rintro rfl; simp at hl))]
  refine ev_bind (m := 0) (ev_subDict (hF := fun es => hp s.heap.objs.toList s.heap.life (dob es) []) hl hsz hnd ?_ ?_ hlt) (Ev.pure _) (by omega)
  · have : s.heap.objs.size = s.heap.objs.toList.length := by simp
    rw [this]; exact fam_main
  · rw [push_first]; rfl
theorem ev_flush {s : Shared} {l subs : List Obj} {life : Life} {es : List DictEntry} {T : Nat} {c : List (Int × Str)} (hl : 15 < c.length) (hne : es ≠ []) (hsys : sysModules ≤ l.length) (hlt : n₀ ≤ l.length) (hnd : (es.map (·.hash) ++ c.map fun p => hashInt p.1).Nodup) (hsz : es.length + c.length < 1000000) :
    Ev w b env q n₀ ann (flushD (prs pos c) (some l.length)) { s with heap := hp l life (dob es) subs, toks := T } pos (19 * c.length + 7) (some l.length) { s with heap := hp l life (dob (es ++ ents T c)) (subs ++ [dob (ents T c)]), toks := T + 3 * c.length } pos := by
  unfold flushD
  rw [if_neg (prs_ne (by rintro rfl; simp at hl))]
  dsimp only
  have hz : ({ s with heap := hp l life (dob es) subs, toks := T } : Shared).heap.objs.size = l.length + 1 + subs.length := hp_size
  refine ev_bind (pos₁ := pos) (a := l.length + 1 + subs.length) (s₁ := { s with heap := hp l life (dob es) (subs ++ [dob (ents T c)]), toks := T + 3 * c.length }) (m := 6 * c.length + 5) (n := 13 * c.length + 2) (Ev.holding ?_) ?_ (by omega)
  · have := ev_subDict (w := w) (b := b) (env := env) (q := q) (n₀ := n₀) (ann := ann) (pos := pos) (s := { s with heap := hp l life (dob es) subs, toks := T }) (ps := c) (hF := fun xs => hp l life (dob es) (subs ++ [dob xs])) hl (by omega) (List.nodup_append.mp hnd).2.1 (by rw [hz]; exact fam_sub) (by show (hp l life (dob es) subs).push _ = _; rw [hp_push]; rfl) (by rw [hz]; omega)
    rw [hz] at this
    exact this
  · have := ev_merge (w := w) (b := b) (env := env) (q := q) (n₀ := n₀) (ann := ann) (pos := pos) (s := { s with heap := hp l life (dob es) (subs ++ [dob (ents T c)]), toks := T + 3 * c.length }) (es := es) (xs := ents T c) (l := l) (subs := subs) (life := life) rfl hne (beq_eq_false_iff_ne.mpr (Nat.ne_of_gt (Nat.lt_of_le_of_lt hsys (by omega)))) hlt (by rw [ents_hash]; exact hnd) (ents_key c T) (by rw [ents_length]; omega)
    rw [ents_length] at this
    exact ev_bind (m := 0) (Ev.onRaise (Ev.holding this)) (Ev.pure _) (by omega)
theorem ev_flushS {s : Shared} {l subs : List Obj} {life : Life} {es : List DictEntry} {T : Nat} {c : List (Int × Str)} (hl : c.length ≤ 15) (hc : c ≠ []) (hne : es ≠ []) (hsys : sysModules ≤ l.length) (hlt : n₀ ≤ l.length) (hnd : (es.map (·.hash) ++ c.map fun p => hashInt p.1).Nodup) (hsz : es.length + c.length < 1000000) :
    Ev w b env q n₀ ann (flushD (prs pos c) (some l.length)) { s with heap := hp l life (dob es) subs, toks := T } pos (19 * c.length + 6) (some l.length) { s with heap := hp l life (dob (es ++ entsS T c)) (subs ++ [dob (entsS T c)]), toks := T + 3 * c.length } pos := by
  unfold flushD
  rw [if_neg (prs_ne hc)]
  dsimp only
  have hz : ({ s with heap := hp l life (dob es) subs, toks := T } : Shared).heap.objs.size = l.length + 1 + subs.length := hp_size
  refine ev_bind (pos₁ := pos) (a := l.length + 1 + subs.length) (s₁ := { s with heap := hp l life (dob es) (subs ++ [dob (entsS T c)]), toks := T + 3 * c.length }) (m := 6 * c.length + 5) (n := 13 * c.length + 1) (Ev.holding ?_) ?_ (by omega)
  · have := ev_subShort (w := w) (b := b) (env := env) (q := q) (n₀ := n₀) (ann := ann) (pos := pos) (s := { s with heap := hp l life (dob es) subs, toks := T }) (ps := c) (hF := fun xs => hp l life (dob es) (subs ++ [dob xs])) hl (List.nodup_append.mp hnd).2.1 (by rw [hz]; exact fam_sub) (by show (hp l life (dob es) subs).push _ = _; rw [hp_push]; rfl) (by rw [hz]; omega)
    rw [hz] at this
    exact this
  · have := ev_merge (w := w) (b := b) (env := env) (q := q) (n₀ := n₀) (ann := ann) (pos := pos) (s := { s with heap := hp l life (dob es) (subs ++ [dob (entsS T c)]), toks := T + 3 * c.length }) (es := es) (xs := entsS T c) (l := l) (subs := subs) (life := life) rfl hne (beq_eq_false_iff_ne.mpr (Nat.ne_of_gt (Nat.lt_of_le_of_lt hsys (by omega)))) hlt (by rw [entsS_hash]; exact hnd) (entsS_key c T) (by rw [entsS_length]; omega)
    rw [entsS_length] at this
    exact ev_bind (m := 0) (Ev.onRaise (Ev.holding this)) (Ev.pure _) (by omega)
end
end Mine
end

section
open PySem PySem.W PySem.Calls PyProof.Rows
namespace Mine
section
variable {w : World} {b : List Stmt} {env : Env} {q : Pos} {n₀ : Nat} {ann : Option Value} {pos : Pos} {F : DIt → DSt → Sem (ForInStep DSt)}
theorem ev_chunks (hF : DBody F) {s : Shared} {l : List Obj} {life : Life} (hsys : sysModules ≤ l.length) (hlt : n₀ ≤ l.length) {last : List (Int × Str)} (hlast : last.length < 17) :
    ∀ (cs : List (List (Int × Str))) (es : List DictEntry) (subs : List Obj) (T : Nat), es ≠ [] → (∀ c ∈ cs, c.length = 17) → (es.map (·.hash) ++ cs.flatten.map fun p => hashInt p.1).Nodup → es.length + cs.flatten.length < 1000000 →
      Ev w b env q n₀ ann (forIn (its pos (cs.flatten ++ last)) (some l.length, []) F) { s with heap := hp l life (dob es) subs, toks := T } pos (330 * cs.length) (some l.length, prs pos last)
        { s with heap := hp l life (dob (es ++ ents T cs.flatten)) (subs ++ subsOf T cs), toks := T + 3 * cs.flatten.length } pos
  | [], es, subs, T, _, _, _, _ => by
    have := ev_tail (w := w) (b := b) (env := env) (q := q) (n₀ := n₀) (ann := ann) (pos := pos) hF (main := some l.length) (s := { s with heap := hp l life (dob es) subs, toks := T }) last [] (by simpa using hlast)
    simpa [ents, subsOf] using this
  | c :: cs, es, subs, T, hne, hc, hn, hsz => by
    have hc17 : c.length = 17 := hc c (.head _)
    have e1 : its pos ((c :: cs).flatten ++ last) = its pos c ++ its pos (cs.flatten ++ last) := by simp [its]
    rw [e1]
    have hn1 : (es.map (·.hash) ++ c.map fun p => hashInt p.1).Nodup := by
      simp only [List.flatten_cons, List.map_append, ← List.append_assoc] at hn
      exact (List.nodup_append.mp hn).1
    have hn2 : ((es ++ ents T c).map (·.hash) ++ cs.flatten.map fun p => hashInt p.1).Nodup := by
      simp only [List.map_append, ents_hash]
      simpa using hn
    have hsz1 : es.length + c.length < 1000000 := by simp at hsz ⊢; omega
    have ih := ev_chunks hF (s := s) (life := life) hsys hlt hlast cs (es ++ ents T c) (subs ++ [dob (ents T c)]) (T + 3 * c.length) (by simp [hne]) (fun x hx => hc x (.tail _ hx)) hn2 (by simp [ents_length] at hsz ⊢; omega)
    have hfl := ev_flush (w := w) (b := b) (env := env) (q := q) (n₀ := n₀) (ann := ann) (pos := pos) (s := s) (l := l) (subs := subs) (life := life) (es := es) (T := T) (c := c) (by omega) hne hsys hlt hn1 hsz1
    have := ev_chunk hF ih c [] (by simp [hc17]) (by rintro rfl; simp at hc17) (by simpa using hfl)
    have e2 : 330 * cs.length + (19 * c.length + 7) = 330 * (c :: cs).length := by simp [hc17]; omega
    have e3 : es ++ ents T c ++ ents (T + 3 * c.length) cs.flatten = es ++ ents T (c :: cs).flatten := by rw [List.flatten_cons, ents_append, List.append_assoc]
    have e4 : subs ++ [dob (ents T c)] ++ subsOf (T + 3 * c.length) cs = subs ++ subsOf T (c :: cs) := by simp [subsOf]
    have e5 : T + 3 * c.length + 3 * cs.flatten.length = T + 3 * (c :: cs).flatten.length := by simp; omega
    rw [e2, e3, e4, e5] at this
    exact this
/-- the whole display: a first chunk, long chunks, a short last one -/
theorem ev_display {s : Shared} {c₀ last : List (Int × Str)} {cs : List (List (Int × Str))} (h0 : c₀.length = 17) (hcs : ∀ c ∈ cs, c.length = 17) (hl : last.length ≤ 15) (hl0 : last ≠ []) (hsys : sysModules ≤ s.heap.objs.size) (hlt : n₀ ≤ s.heap.objs.size)
    (hnd : ((c₀ ++ cs.flatten ++ last).map fun p => hashInt p.1).Nodup) (hsz : (c₀ ++ cs.flatten ++ last).length < 1000000) :
    Ev w b env q n₀ ann (dictDisplay (its pos (c₀ ++ cs.flatten ++ last))) s pos (330 * cs.length + 223 + (19 * last.length + 6)) (.ref s.heap.objs.size)
      { s with heap := hp s.heap.objs.toList s.heap.life (dob (ents s.toks (c₀ ++ cs.flatten) ++ entsS (s.toks + 3 * (c₀ ++ cs.flatten).length) last)) (subsOf (s.toks + 51) cs ++ [dob (entsS (s.toks + 3 * (c₀ ++ cs.flatten).length) last)]), toks := s.toks + 3 * (c₀ ++ cs.flatten ++ last).length } pos := by
  have hsl : s.heap.objs.size = s.heap.objs.toList.length := by simp
  have hnA : (c₀.map fun p => hashInt p.1).Nodup := by
    simp only [List.map_append, List.append_assoc] at hnd
    exact (List.nodup_append.mp hnd).1
  have hnB : ((ents s.toks c₀).map (·.hash) ++ cs.flatten.map fun p => hashInt p.1).Nodup := by
    rw [ents_hash]
    simp only [List.map_append] at hnd
    exact (List.nodup_append.mp hnd).1
  have hnC : ((ents s.toks (c₀ ++ cs.flatten)).map (·.hash) ++ last.map fun p => hashInt p.1).Nodup := by
    rw [ents_hash]; simpa using hnd
  have hz : c₀.length + cs.flatten.length + last.length < 1000000 := by
    rw [List.length_append, List.length_append] at hsz; exact hsz
  have hE0 : ents s.toks c₀ ≠ [] := by
    intro e
    have := congrArg List.length e
    rw [ents_length, h0] at this
    cases this
  unfold dictDisplay
  dsimp only
  have hfin := ev_flushS (w := w) (b := b) (env := env) (q := q) (n₀ := n₀) (ann := ann) (pos := pos) (s := s) (l := s.heap.objs.toList) (subs := [] ++ subsOf (s.toks + 51) cs) (life := s.heap.life) (es := ents s.toks c₀ ++ ents (s.toks + 51) cs.flatten) (T := s.toks + 51 + 3 * cs.flatten.length) (c := last) hl hl0 (fun e => hE0 (List.append_eq_nil_iff.mp e).1) (by rw [← hsl]; exact hsys) (by rw [← hsl]; exact hlt) (by
      have e : ents s.toks c₀ ++ ents (s.toks + 51) cs.flatten = ents s.toks (c₀ ++ cs.flatten) := by rw [ents_append, h0]
      rw [e]; exact hnC) (by simp only [List.length_append, ents_length]; omega)
  have e1 : ents s.toks (c₀ ++ cs.flatten) = ents s.toks c₀ ++ ents (s.toks + 51) cs.flatten := by rw [ents_append, h0]
  have e2 : s.toks + 3 * (c₀ ++ cs.flatten).length = s.toks + 51 + 3 * cs.flatten.length := by simp [h0]; omega
  have e3 : s.toks + 3 * (c₀ ++ cs.flatten ++ last).length = s.toks + 51 + 3 * cs.flatten.length + 3 * last.length := by simp [h0]; omega
  rw [e1, e2, e3]
  refine ev_bind (a := (some s.heap.objs.toList.length, prs pos last)) (pos₁ := pos) (s₁ := { s with heap := hp s.heap.objs.toList s.heap.life (dob (ents s.toks c₀ ++ ents (s.toks + 51) cs.flatten)) ([] ++ subsOf (s.toks + 51) cs), toks := s.toks + 51 + 3 * cs.flatten.length }) (m := 19 * last.length + 6) (n := 330 * cs.length + 223) ?_ ?_ (by omega)
  · have hF : ∀ F, DBody F → Ev w b env q n₀ ann (forIn (its pos (c₀ ++ cs.flatten ++ last)) (none, []) F) s pos (330 * cs.length + 223) (some s.heap.objs.toList.length, prs pos last) { s with heap := hp s.heap.objs.toList s.heap.life (dob (ents s.toks c₀ ++ ents (s.toks + 51) cs.flatten)) ([] ++ subsOf (s.toks + 51) cs), toks := s.toks + 51 + 3 * cs.flatten.length } pos := by
      intro F hF
      have hr := ev_chunks (w := w) (b := b) (env := env) (q := q) (n₀ := n₀) (ann := ann) (pos := pos) hF (s := s) (l := s.heap.objs.toList) (life := s.heap.life) (by rw [← hsl]; exact hsys) (by rw [← hsl]; exact hlt) (last := last) (by omega) cs (ents s.toks c₀) [] (s.toks + 51) hE0 hcs hnB (by rw [ents_length]; omega)
      have hf := ev_flush0 (w := w) (b := b) (env := env) (q := q) (n₀ := n₀) (ann := ann) (pos := pos) (s := s) (c := c₀) (by omega) (by omega) hnA hlt
      rw [h0, hsl] at hf
      have := ev_chunk hF hr c₀ [] (by simp [h0]) (by rintro rfl; simp at h0) (by simpa using hf)
      have e : its pos (c₀ ++ cs.flatten ++ last) = its pos c₀ ++ its pos (cs.flatten ++ last) := by simp [its]
      rw [e]
      exact this
    exact hF _ (fun _ _ _ _ => rfl)
  · dsimp only
    refine ev_bind (m := 0) (n := 19 * last.length + 6) hfin ?_ (by omega)
    rw [hsl]
    exact Ev.pure _
end
end Mine
end

section
open PySem PySem.W PySem.Calls PyProof.Rows
namespace Mine

abbrev pR : Program := PySem.Challenge.pw_ki0084_01
noncomputable def bR : List Stmt := behindTheImports pR
noncomputable def cR : Code := .body bR hdm.env_41
def p0 : Pos := ⟨0, 0, 0, 0⟩
def pE0 : Pos := ⟨1, 0, 1, 8⟩
def pD : Pos := ⟨2, 0, 2, 13⟩
def pF : Pos := ⟨96, 0, 100, 15⟩
def gR : Array GenState := { toList := [] }
def annR : Option Value := some (.ref 6)
noncomputable def stR (i : Nat) : Stmt := bR.getD i (.Pass p0)
noncomputable def restR : List Stmt := bR.drop 2
noncomputable def base1 (P : Params) : List Obj := [boot_o_0 P, boot_o_1 P, boot_o_2 P, hdm.o_49 P, boot_o_4 P, boot_o_5 P, boot_o_6 P, boot_o_7 P, boot_o_8 P, boot_o_9 P, boot_o_10 P, hdm.o_43 P, hdm.o_44 P, hdm.o_45 P, hdm.o_46 P]
noncomputable def ns2 (P : Params) : Obj := Obj.putName (Str.ofString "b3_exceptions") (PyData.keyHash P (Str.ofString "b3_exceptions")) (.str (Str.ofString "b3_exceptions") 2139) (.ref 15) (hdm.o_49 P)
noncomputable def base2 (P : Params) : List Obj := [boot_o_0 P, boot_o_1 P, boot_o_2 P, ns2 P, boot_o_4 P, boot_o_5 P, boot_o_6 P, boot_o_7 P, boot_o_8 P, boot_o_9 P, boot_o_10 P, hdm.o_43 P, hdm.o_44 P, hdm.o_45 P, hdm.o_46 P]
noncomputable def base3 (P : Params) : List Obj := [boot_o_0 P, boot_o_1 P, boot_o_2 P, hdm.o_118 P, boot_o_4 P, boot_o_5 P, boot_o_6 P, boot_o_7 P, boot_o_8 P, boot_o_9 P, boot_o_10 P, hdm.o_43 P, hdm.o_119 P, hdm.o_45 P, hdm.o_46 P]
noncomputable def tail3 (P : Params) : List Obj := hdm.o_102 P :: hdm.o_103 P :: hdm.o_104 P :: hdm.o_105 P :: hdm.o_106 P :: hdm.o_107 P :: hdm.o_108 P :: hdm.o_109 P :: hdm.o_110 P :: hdm.o_111 P :: hdm.o_112 P :: hdm.o_113 P :: hdm.o_114 P :: hdm.o_115 P :: hdm.o_120 P :: hdm.o_121 P :: hdm.o_122 P :: hdm.o_123 P :: hdm.o_124 P :: hdm.o_125 P :: hdm.o_126 P :: hdm.o_127 P :: hdm.o_128 P :: hdm.o_129 P :: hdm.o_130 P :: hdm.o_131 P :: hdm.o_132 P :: hdm.o_133 P :: hdm.o_134 P :: hdm.o_135 P :: hdm.o_136 P :: hdm.o_137 P :: hdm.o_138 P :: hdm.o_139 P :: hdm.o_140 P :: hdm.o_141 P :: hdm.o_142 P :: hdm.o_143 P :: hdm.o_144 P :: hdm.o_145 P :: hdm.o_146 P :: hdm.o_147 P :: hdm.o_148 P :: hdm.o_149 P :: hdm.o_150 P :: hdm.o_151 P :: hdm.o_152 P :: hdm.o_153 P :: hdm.o_154 P :: hdm.o_155 P :: hdm.o_156 P :: hdm.o_157 P :: hdm.o_158 P :: hdm.o_159 P :: hdm.o_160 P :: hdm.o_161 P :: hdm.o_162 P :: hdm.o_163 P :: hdm.o_164 P :: hdm.o_165 P :: hdm.o_166 P :: hdm.o_167 P :: hdm.o_168 P :: hdm.o_169 P :: hdm.o_170 P :: hdm.o_171 P :: hdm.o_172 P :: hdm.o_173 P :: hdm.o_174 P :: hdm.o_175 P :: hdm.o_176 P :: hdm.o_177 P :: hdm.o_178 P :: hdm.o_179 P :: hdm.o_180 P :: hdm.o_181 P :: hdm.o_182 P :: []
noncomputable def tabL : List (Int × Str) := tabB3.filterMap fun p => match p.2 with | .str x => some (p.1, x) | _ => none
/-- the chunks that the display lays down -/
noncomputable def chunks : Nat → List (Int × Str) → List (List (Int × Str))
  | 0, _ => []
  | n + 1, l => l.take 17 :: chunks n (l.drop 17)
noncomputable def csR : List (List (Int × Str)) := chunks 37 (tabL.drop 17)
noncomputable def lastR : List (Int × Str) := tabL.drop 646
noncomputable def allR : List DictEntry := ents 189 (tabL.take 17 ++ csR.flatten) ++ entsS 2127 lastR
noncomputable def dictR : Obj := dob allR
noncomputable def subsR : List Obj := subsOf 240 csR ++ [dob (entsS 2127 lastR)]
noncomputable def endH (P : Params) : Heap := ⟨(base3 P ++ dictR :: (subsR ++ tail3 P)).toArray, {}⟩
theorem body_split : bR = [stR 0] ++ (stR 1 :: restR) := by kernel_rfl
theorem pre_run (w : World) (os : OsState) : topGo treeTable pR w 11 annR 12 ⟨boot_heap w.params, gR, boot_drawn, boot_toks, os⟩ (topStub pR) = some (⟨hdm.heap_46 w.params, gR, boot_drawn, 187, os⟩, ⟨denote treeTable cR, cR, p0, [topFrame p0]⟩) := by kernel_rfl
theorem block_run (w : World) (os : OsState) : segRun treeTable pR w 11 annR 1 1 ⟨hdm.heap_46 w.params, gR, boot_drawn, 187, os⟩ (blockOf bR hdm.env_41 cR p0 [topFrame p0]) = some (.next, ⟨hdm.heap_46 w.params, gR, boot_drawn, 187, os⟩, cR, p0) := by kernel_rfl
theorem st0_run (w : World) (os : OsState) : segRun treeTable pR w 11 annR 1 10 ⟨hdm.heap_46 w.params, gR, boot_drawn, 187, os⟩ (piecesOf [stR 0] hdm.env_41 cR p0 [topFrame p0]) = some (.next, ⟨⟨(base1 w.params).toArray, {}⟩, gR, boot_drawn, 189, os⟩, cR, pE0) := by kernel_rfl
theorem rest_run : ∀ (w : World) (os : OsState), segRun treeTable pR w 11 annR 1 341 ⟨hp (base2 w.params) {} dictR subsR, gR, boot_drawn, 2140, os⟩ (piecesOf restR hdm.env_41 cR pD [topFrame p0]) = some (.next, ⟨endH w.params, gR, boot_drawn, 2231, os⟩, cR, pF) :=
  byRow2 "special-get-raises" (fun w => by intros; kernel_rfl) (fun w => by intros; kernel_rfl)
theorem fin_run (w : World) (os : OsState) : topRun treeTable pR w 11 annR 2 ⟨endH w.params, gR, boot_drawn, 2231, os⟩ ⟨doneF .next, cR, pF, [topFrame p0]⟩ = some ⟨endH w.params, gR, boot_drawn, 2231, os⟩ := by kernel_rfl
end Mine
end

section
open PySem PySem.W PySem.Calls PyProof.Rows
namespace Mine
noncomputable def tgR : List PySem.Expr := match stR 1 with | .Assign ts _ _ => ts | _ => []
noncomputable def vaR : PySem.Expr := match stR 1 with | .Assign _ v _ => v | _ => .Name "" p0
noncomputable def ksR : List (Option PySem.Expr) := match vaR with | .Dict ks _ _ => ks | _ => []
noncomputable def vsR : List PySem.Expr := match vaR with | .Dict _ vs _ => vs | _ => []
noncomputable def poA : Pos := match stR 1 with | .Assign _ _ p => p | _ => p0
noncomputable def poD : Pos := match vaR with | .Dict _ _ p => p | _ => p0
noncomputable def itR : List DIt := (evalEachOpt ksR hdm.env_41).zip ((evalEach vsR hdm.env_41).map fun v => do let x ← v; standAt poD; pure x)
noncomputable def contD (v : Value) : Sem Flow := do assignStores hdm.env_41 v (← swappedStores tgR vaR hdm.env_41) ((assignEach tgR hdm.env_41).map (·.2))
theorem exec_dict : exec (stR 1) hdm.env_41 = (do standAt poA; let v ← (do standAt poD; dictDisplay itR); contD v) := by kernel_rfl
end Mine
end

section
open PySem PySem.W PySem.Calls PyProof.Rows
namespace Mine
theorem it_eq : itR = its poD tabL := by kernel_rfl
noncomputable def incB : List Int → Bool
  | [] => true
  | [_] => true
  | a :: b :: r => decide (a < b) && incB (b :: r)
theorem incB_pair : ∀ {l : List Int}, incB l = true → l.Pairwise (· < ·)
  | [], _ => .nil
  | [a], _ => List.pairwise_singleton _ _
  | a :: b :: r, h => by
    simp only [incB, Bool.and_eq_true, decide_eq_true_eq] at h
    have ih := incB_pair h.2
    refine List.pairwise_cons.mpr ⟨fun x hx => ?_, ih⟩
    rcases List.mem_cons.mp hx with rfl | hx
    · exact h.1
    · exact Int.lt_trans h.1 ((List.pairwise_cons.mp ih).1 x hx)
theorem incB_nodup {l : List Int} (h : incB l = true) : l.Nodup := (incB_pair h).imp fun q => Int.ne_of_lt q
theorem tab_inc : incB (tabL.map fun p => hashInt p.1) = true := by decide +kernel
theorem tab_split : tabL = tabL.take 17 ++ csR.flatten ++ lastR := by kernel_rfl
theorem tab_c0 : (tabL.take 17).length = 17 := by kernel_rfl
theorem tab_cs : ∀ c ∈ csR, c.length = 17 := by
  have h : (csR.all fun c => Nat.beq c.length 17) = true := by decide +kernel
  intro c hc
  exact Nat.eq_of_beq_eq_true (List.all_eq_true.mp h c hc)
theorem tab_last : lastR.length = 4 := by kernel_rfl
theorem tab_cn : csR.length = 37 := by kernel_rfl
theorem tab_len : (tabL.take 17 ++ csR.flatten ++ lastR).length = 650 := by kernel_rfl
theorem tab_len2 : (tabL.take 17 ++ csR.flatten).length = 646 := by kernel_rfl
theorem cont_run : ∀ (w : World) (p : Program) (K : Flow → Sem Fin) (H : Value → Sem Fin) (gd : Bool → Bool) (lv : List Value → List Value) (N : Nat) (os : OsState),
    topRun treeTable p w 11 annR (N + 7) ⟨hp (base1 w.params) {} dictR subsR, gR, boot_drawn, 2139, os⟩ ⟨(contD (.ref 15)).wrap K H gd lv, cR, poD, [topFrame p0]⟩ = topRun treeTable p w 11 annR N ⟨hp (base2 w.params) {} dictR subsR, gR, boot_drawn, 2140, os⟩ ⟨K .next, cR, pD, [topFrame p0]⟩ :=
  byRow2 "special-get-raises" (fun w => by intros; kernel_rfl) (fun w => by intros; kernel_rfl)
end Mine
end

section
open PySem PySem.W PySem.Calls PyProof.Rows
namespace Mine
theorem base1_len (P : Params) : (base1 P).length = 15 := rfl
theorem cont_ev (w : World) (os : OsState) : Ev w bR hdm.env_41 p0 11 annR (contD (.ref 15)) ⟨hp (base1 w.params) {} dictR subsR, gR, boot_drawn, 2139, os⟩ poD 7 .next ⟨hp (base2 w.params) {} dictR subsR, gR, boot_drawn, 2140, os⟩ pD := fun p K H gd lv N r h => by
  have := cont_run w p K H gd lv N os
  exact this.trans h
theorem disp_ev (w : World) (os : OsState) (q₀ : Pos) : Ev w bR hdm.env_41 p0 11 annR (dictDisplay itR) ⟨⟨(base1 w.params).toArray, {}⟩, gR, boot_drawn, 189, os⟩ poD 12515 (.ref 15) ⟨hp (base1 w.params) {} dictR subsR, gR, boot_drawn, 2139, os⟩ poD := by
  rw [it_eq, tab_split]
  have hsz : ((⟨⟨(base1 w.params).toArray, {}⟩, gR, boot_drawn, 189, os⟩ : Shared)).heap.objs.size = 15 := rfl
  have h := ev_display (w := w) (b := bR) (env := hdm.env_41) (q := p0) (n₀ := 11) (ann := annR) (pos := poD) (s := ⟨⟨(base1 w.params).toArray, {}⟩, gR, boot_drawn, 189, os⟩) (c₀ := tabL.take 17) (last := lastR) (cs := csR) tab_c0 tab_cs (by rw [tab_last]; omega) (by intro e; have := tab_last; rw [e] at this; cases this) (by rw [hsz]; decide) (by rw [hsz]; omega) (by rw [← tab_split]; exact incB_nodup tab_inc) (by rw [tab_len]; omega)
  rw [tab_cn, tab_last, hsz, tab_len2, tab_len] at h
  exact h
theorem dict_ev (w : World) (os : OsState) : Ev w bR hdm.env_41 p0 11 annR (exec (stR 1) hdm.env_41) ⟨⟨(base1 w.params).toArray, {}⟩, gR, boot_drawn, 189, os⟩ pE0 12524 .next ⟨hp (base2 w.params) {} dictR subsR, gR, boot_drawn, 2140, os⟩ pD := by
  rw [exec_dict]
  refine ev_bind (n := 1) (m := 12523) Ev.standAt ?_ rfl
  refine ev_bind (n := 12516) (m := 7) ?_ (cont_ev w os) rfl
  exact ev_bind (n := 1) (m := 12515) Ev.standAt (disp_ev w os poA) rfl
theorem run_all (w : World) (os : OsState) : topRun treeTable pR w 11 annR (12 + (1 + (10 + ((341 + 2) + 12524)))) ⟨boot_heap w.params, gR, boot_drawn, boot_toks, os⟩ (topStub pR) = some ⟨endH w.params, gR, boot_drawn, 2231, os⟩ := by
  refine go_top (pre_run w os) ?_
  refine piece_block (block_run w os) ?_
  have hb : restOf bR hdm.env_41 cR p0 [topFrame p0] = restOf ([stR 0] ++ (stR 1 :: restR)) hdm.env_41 cR p0 [topFrame p0] := by rw [← body_split]
  rw [hb]
  refine piece_app (st0_run w os) ?_
  unfold restOf
  rw [execs_cons_wrap]
  refine dict_ev w os pR _ _ _ _ _ _ ?_
  have hr : restR = restR ++ [] := by rw [List.append_nil]
  rw [hr]
  exact piece_app (rest_run w os) (piece_nil (fin_run w os))
end Mine
end

section
open PySem PySem.W PySem.Calls PyProof.Rows
namespace Mine
noncomputable def KR (P : Params) : Frag := (nat_lit 2, boot_o_2 P) :: (nat_lit 3, hdm.o_118 P) :: (nat_lit 6, boot_o_6 P) :: (nat_lit 15, dictR) :: (nat_lit 54, hdm.o_102 P) :: (nat_lit 56, hdm.o_104 P) :: (nat_lit 57, hdm.o_105 P) :: (nat_lit 59, hdm.o_107 P) :: (nat_lit 60, hdm.o_108 P) :: (nat_lit 61, hdm.o_109 P) :: (nat_lit 63, hdm.o_111 P) :: (nat_lit 64, hdm.o_112 P) :: (nat_lit 66, hdm.o_114 P) :: (nat_lit 67, hdm.o_115 P) :: (nat_lit 68, hdm.o_120 P) :: (nat_lit 70, hdm.o_122 P) :: (nat_lit 71, hdm.o_123 P) :: (nat_lit 73, hdm.o_125 P) :: (nat_lit 74, hdm.o_126 P) :: (nat_lit 75, hdm.o_127 P) :: (nat_lit 77, hdm.o_129 P) :: (nat_lit 78, hdm.o_130 P) :: (nat_lit 80, hdm.o_132 P) :: (nat_lit 81, hdm.o_133 P) :: (nat_lit 82, hdm.o_134 P) :: (nat_lit 84, hdm.o_136 P) :: (nat_lit 85, hdm.o_137 P) :: (nat_lit 87, hdm.o_139 P) :: (nat_lit 88, hdm.o_140 P) :: (nat_lit 89, hdm.o_141 P) :: (nat_lit 91, hdm.o_143 P) :: (nat_lit 92, hdm.o_144 P) :: (nat_lit 94, hdm.o_146 P) :: (nat_lit 95, hdm.o_147 P) :: (nat_lit 96, hdm.o_148 P) :: (nat_lit 98, hdm.o_150 P) :: (nat_lit 99, hdm.o_151 P) :: (nat_lit 101, hdm.o_153 P) :: (nat_lit 102, hdm.o_154 P) :: (nat_lit 103, hdm.o_155 P) :: (nat_lit 105, hdm.o_157 P) :: (nat_lit 106, hdm.o_158 P) :: (nat_lit 108, hdm.o_160 P) :: (nat_lit 109, hdm.o_161 P) :: (nat_lit 110, hdm.o_162 P) :: (nat_lit 112, hdm.o_164 P) :: (nat_lit 113, hdm.o_165 P) :: (nat_lit 115, hdm.o_167 P) :: (nat_lit 116, hdm.o_168 P) :: (nat_lit 117, hdm.o_169 P) :: (nat_lit 119, hdm.o_171 P) :: (nat_lit 120, hdm.o_172 P) :: (nat_lit 122, hdm.o_174 P) :: (nat_lit 123, hdm.o_175 P) :: (nat_lit 124, hdm.o_176 P) :: (nat_lit 126, hdm.o_178 P) :: (nat_lit 127, hdm.o_179 P) :: (nat_lit 129, hdm.o_181 P) :: (nat_lit 130, hdm.o_182 P) :: []
def asR : List Addr := [nat_lit 2, nat_lit 3, nat_lit 6, nat_lit 15, nat_lit 54, nat_lit 56, nat_lit 57, nat_lit 59, nat_lit 60, nat_lit 61, nat_lit 63, nat_lit 64, nat_lit 66, nat_lit 67, nat_lit 68, nat_lit 70, nat_lit 71, nat_lit 73, nat_lit 74, nat_lit 75, nat_lit 77, nat_lit 78, nat_lit 80, nat_lit 81, nat_lit 82, nat_lit 84, nat_lit 85, nat_lit 87, nat_lit 88, nat_lit 89, nat_lit 91, nat_lit 92, nat_lit 94, nat_lit 95, nat_lit 96, nat_lit 98, nat_lit 99, nat_lit 101, nat_lit 102, nat_lit 103, nat_lit 105, nat_lit 106, nat_lit 108, nat_lit 109, nat_lit 110, nat_lit 112, nat_lit 113, nat_lit 115, nat_lit 116, nat_lit 117, nat_lit 119, nat_lit 120, nat_lit 122, nat_lit 123, nat_lit 124, nat_lit 126, nat_lit 127, nat_lit 129, nat_lit 130]
theorem asR_eq (P : Params) : asR = (KR P).map (·.1) := by kernel_rfl
noncomputable def HR : Hook := kHook KR asR asR_eq
def looseR : List Str := [Str.ofString "b3_exceptions"]
noncomputable def XtR : Shared → Bool := fun s => xlAt hdm.view_39 [] s && recOk (RowW.records PySem.Challenge.rw_ki0084_01.row.toRowW) s
theorem size_R (w : World) : ((boot_heap w.params).isNs mainGlobals && gR.size == 0, (boot_heap w.params).objs.size, (boot_heap w.params).nsMap mainGlobals "__annotations__") = (true, 11, annR) := by kernel_rfl
theorem open_R (w : World) : (fencedOpening treeTable pR w 30000).map (fun s => (s.heap, s.gens, s.drawn, s.toks)) = some (boot_heap w.params, gR, boot_drawn, boot_toks) :=
  boot_open (by kernel_rfl) (by kernel_rfl) (fun s => by kernel_rfl) w
theorem look1 (w : World) (os : OsState) : (staticsOk (importedModules pR.main.body) (boot_heap w.params) (endH w.params) && namesBound pR (endH w.params) && gensDone ⟨endH w.params, gR, boot_drawn, 2231, os⟩ && laidKept (boot_heap w.params) (endH w.params)) = true := by kernel_rfl
theorem look3 (w : World) (os : OsState) : HR.obs ⟨endH w.params, gR, boot_drawn, 2231, os⟩ = HR.val w := by kernel_rfl
end Mine
end

section
open PySem PySem.W PySem.Calls PyProof.Rows
namespace Mine
noncomputable abbrev qR : Program := hdm.view_39
noncomputable def sE (w : World) (os : OsState) : Shared := ⟨endH w.params, gR, boot_drawn, 2231, os⟩
set_option maxRecDepth 100000
theorem l2a (w : World) (os : OsState) : seen ((recsOf qR).map (·.name)) (ownsOf qR) [] { sE w os with gens := #[] } = expectedOf qR := by kernel_rfl
theorem l2b (w : World) (os : OsState) : (sE w os).heap.bltView = bltViewBooted := by kernel_rfl
theorem l2c (w : World) (os : OsState) : ((sE w os).heap.keysOk (looseW qR looseR) ((recsOf qR).map (·.name)) ((litsOf qR).map (·.1)) ((clssOf qR (looseW qR looseR)).map (·.name)) && (sE w os).heap.accountedOkI (importedModules pR.main.body) && (sE w os).heap.isNs mainGlobals && (sE w os).heap.isNs builtinsNs && tablesOk qR (sE w os).heap && XtR (sE w os) && (if true then (sE w os).gens.size == 0 else !leftWithCleanup (sE w os).gens)) = true := by kernel_rfl
theorem l2d (w : World) (os : OsState) : tabsOk qR (sE w os) = true := by kernel_rfl
theorem l2e (w : World) (os : OsState) : pinSeenD qR (drecsOf qR) (sE w os) = pinGoodD (drecsOf qR) := by kernel_rfl
theorem l2f (w : World) (os : OsState) : plainSeenE qR (looseW qR looseR) (sE w os) = plainGoodE qR (looseW qR looseR) := by kernel_rfl
theorem l2g (w : World) (os : OsState) : plainSeenD qR looseR (sE w os) = plainGoodD qR looseR := by kernel_rfl
theorem l2h (w : World) (os : OsState) : wideSeen qR (sE w os) = wideGood qR := by kernel_rfl
theorem l2i (w : World) (os : OsState) : clsSeenW qR looseR (sE w os) = clsGoodW qR looseR := by kernel_rfl
theorem look2 (w : World) (os : OsState) : openSeen qR looseR (importedModules pR.main.body) XtR true (sE w os) = openGood qR looseR := by
  unfold openSeen openGood
  exact Prod.ext (l2a w os) (Prod.ext (l2b w os) (Prod.ext (l2c w os) (Prod.ext (l2d w os) (Prod.ext (l2e w os) (Prod.ext (l2f w os) (Prod.ext (l2g w os) (Prod.ext (l2h w os) (l2i w os))))))))
theorem left_R : LeftO pR qR looseR XtR HR.obs HR.val 30000 := LeftO.of_pieces (H₀ := boot_heap) (H₁ := endH) (gs₀ := gR) (gs₁ := gR) (d₀ := boot_drawn) (d₁ := boot_drawn) (k₀ := boot_toks) (k₁ := 2231) (m₀ := 11) (ann := annR) (M := 12 + (1 + (10 + ((341 + 2) + 12524)))) open_R size_R run_all (by decide) (fun w => funext fun os => Prod.ext (look1 w os) (Prod.ext (look2 w os) (look3 w os)))
end Mine
end

section
open PySem PySem.W PySem.Calls PyProof.Rows PyProof.Rows.KTD
namespace Mine
theorem lookD (P : Params) : (KR P).lookup 15 = some dictR := by kernel_rfl
theorem numsD : numsLook allR tabB3 = true := by decide +kernel
theorem nodupD : (tabB3.map (·.1)).Nodup := incB_nodup (by decide +kernel)
theorem keyedR {P : Params} {h : Heap} (X : (KR P).In h) : Keyed h 15 tabB3 := by
  intro prog w
  obtain ⟨hk, kvs, hp, hf, hm⟩ := nums_of_look prog w numsD
  exact ⟨by kernel_rfl, kvs, ⟨dictR, allR.toArray, allR.length, X _ _ (lookD P), ⟨rfl, rfl, rfl⟩, rfl, fun e he => hk e (by simpa using he), hp, by rw [hm]; exact nodupD⟩, hf⟩
end Mine
end

section
open PySem PySem.W PyProof.Rows PyProof.Rows.KTD
namespace Mine
abbrev CI (w : World) (mean : ExcName → Option Value) (mg mb : Str → Option Value) (f : Addr) (pre : Int → Prop) (g : Int → Str) : Prop :=
  ∀ (news : List (Addr × Obj)) (c : Int) (t : Tok), CbClaim PySem.Challenge.rw_ki0084_01.row.prog w (KR w.params) hdm.view_39 (looseW hdm.view_39 [Str.ofString "b3_exceptions"]) mean mg mb f news [] (pre c) [.int c t] (fun t => .str (g c) t)
theorem strs_item {prog : Program} {w : World} {A : Around} {E : Value → Shared → Prop} {s : Shared} {h₀ : Heap} {L l : Addr} {news : List (Addr × Obj)} {vs : List Value} {ws : List Str} {n : Nat} {i : Int} {u : Tok} {value slice : PySem.Expr} {Q : Value → Shared → Prop}
    (N : News h₀ L s.heap news) (hl : (l, listOf vs.toArray n) ∈ news) (hw : StrsAre vs ws) (h0 : 0 ≤ i) (h1 : i < (ws.length : Int)) (hfit : i < 2 ^ 63) (h : ∀ t', Q (.str (ws.getD i.toNat PySem.Str.empty) t') s)
    (hs : subscripted slice false (.ref l) (.int i u) = operate [.ref l, .int i u] (getItem (.ref l) (.int i u)) := by with_unfolding_all rfl) :
    wpAny (model prog w) A (subscriptTail value slice (.ref l) (.int i u)) Q E s :=
  KTb.item_list ⟨_, (N _ hl).1, rfl, n, rfl⟩ hw h0 h1 hfit (fun t' _ => h t') hs
theorem ints_item {prog : Program} {w : World} {A : Around} {E : Value → Shared → Prop} {s : Shared} {h₀ : Heap} {L l : Addr} {news : List (Addr × Obj)} {vs : List Value} {ws : List Int} {n : Nat} {i : Int} {u : Tok} {value slice : PySem.Expr} {Q : Value → Shared → Prop}
    (N : News h₀ L s.heap news) (hl : (l, listOf vs.toArray n) ∈ news) (hw : IntsAre vs ws) (h0 : 0 ≤ i) (h1 : i < (ws.length : Int)) (hfit : i < 2 ^ 63) (hz : ∀ z ∈ ws, 0 ≤ z ∧ z ≤ 100000) (h : ∀ t', 0 ≤ ws.getD i.toNat 0 → ws.getD i.toNat 0 ≤ 100000 → Q (.int (ws.getD i.toNat 0) t') s)
    (hs : subscripted slice false (.ref l) (.int i u) = operate [.ref l, .int i u] (getItem (.ref l) (.int i u)) := by with_unfolding_all rfl) :
    wpAny (model prog w) A (subscriptTail value slice (.ref l) (.int i u)) Q E s := by
  have hL : s.heap.IsList l vs.toArray := ⟨_, (N _ hl).1, rfl, n, rfl⟩
  have hlt : i.toNat < ws.length := by omega
  have hg : ws.getD i.toNat 0 = ws[i.toNat] := by rw [List.getD_eq_getElem?_getD, List.getElem?_eq_getElem hlt]; rfl
  obtain ⟨t', e⟩ := hw.get i.toNat (ws.getD i.toNat 0) (by rw [hg, List.getElem?_eq_getElem hlt])
  have hm : ws.getD i.toNat 0 ∈ ws := by rw [hg]; exact List.getElem_mem hlt
  exact tail_any hL.typeIs slot_list_getitem.lookup (wpAny_getItem_list hL h0 hfit (x := .int _ t') (by simpa using e) (h t' (hz _ hm).1 (hz _ hm).2)) hs
theorem fm16 {c : Int} (h : 8016 ≤ c ∧ c ≤ 8022) : ¬ 7 < c.fmod 16 := by
  rw [Int.fmod_eq_emod_of_nonneg _ (by omega)]; omega
theorem bf {b : Bool} (h : b = false) : ¬ b = true := by simp [h]
theorem i16 {c : Int} (h : 8064 ≤ c ∧ c < 8112) : 0 ≤ (c - 8064).fdiv 16 ∧ (c - 8064).fdiv 16 < 3 := by
  rw [Int.fdiv_eq_ediv_of_nonneg _ (by omega)]; omega
theorem i2 {c : Int} (h : 8016 ≤ c ∧ c ≤ 8022) : 0 ≤ (c - 8016).fdiv 2 ∧ (c - 8016).fdiv 2 < 4 := by
  rw [Int.fdiv_eq_ediv_of_nonneg _ (by omega)]; omega
theorem menu3 (i : Nat) : 0 ≤ ([7936, 7968, 8032] : List Int).getD i 0 ∧ ([7936, 7968, 8032] : List Int).getD i 0 ≤ 100000 := by
  rcases i with _ | _ | _ | i <;> simp
theorem fm_lo {a c m : Int} (ha : 0 ≤ a) (hm : 0 < m) : 0 ≤ a + c.fmod m := by have := Int.fmod_nonneg_of_pos c hm; omega
theorem fm_hi {a c m : Int} (ha : a ≤ 100000) (hm : 0 < m) (hm' : m < 1000) : a + c.fmod m ≤ 1114111 := by have := Int.fmod_lt_of_pos c hm; omega

end Mine
end

section
open PySem PySem.W PyProof.Rows PyProof.Rows.KTD
namespace Mine
local macro_rules | `(tactic| walk_at "subscriptTail") => `(tactic| (k_here; (with_reducible show wpAny _ _ (subscriptTail _ _ (Value.ref _) (Value.int _ _)) _ _ _); first | (with_unfolding_all refine' strs_item ?k1 ?k2 ?k3 ?k4 ?k5 ?k6 ?_ ?k7; (case k1 => k_asm); (case k2 => k_mem); (case k3 => repeat constructor); (case k4 => first | omega | exact (i16 (by omega)).1 | exact (i2 (by omega)).1); (case k5 => ((simp only [List.length_cons, List.length_nil]); first | omega | exact (i16 (by omega)).2 | exact (i2 (by omega)).2)); (case k6 => first | omega | exact Int.lt_trans (i16 (by omega)).2 (by decide) | exact Int.lt_trans (i2 (by omega)).2 (by decide)); (case k7 => with_unfolding_all rfl); k_whole; intro t17) | (with_unfolding_all refine' ints_item ?k1 ?k2 ?k3 ?k4 ?k5 ?k6 ?kz ?_ ?k7; (case k1 => k_asm); (case k2 => k_mem); (case k3 => repeat constructor); (case k4 => first | omega | exact (i16 (by omega)).1 | exact (i2 (by omega)).1); (case k5 => ((simp only [List.length_cons, List.length_nil]); first | omega | exact (i16 (by omega)).2 | exact (i2 (by omega)).2)); (case k6 => first | omega | exact Int.lt_trans (i16 (by omega)).2 (by decide) | exact Int.lt_trans (i2 (by omega)).2 (by decide)); (case kz => decide); (case k7 => with_unfolding_all rfl); k_whole; intro t17 h17 g17)))
local macro_rules | `(tactic| walk_at "call builtin:chr") => `(tactic| (k_here; (with_reducible show wpAny _ _ (call (Value.builtin "chr") [Value.int _ _]) _ _ _); first | (refine chr_of_range (by omega) (by omega) ?_) | (refine chr_of_range (fm_lo (menu3 _).1 (by omega)) (fm_hi (menu3 _).2 (by omega) (by omega)) ?_) | (refine chr_of_range (fm_lo (by omega) (by omega)) (fm_hi (by omega) (by omega) (by omega)) ?_)))
set_option maxRecDepth 100000 in
set_option maxHeartbeats 8000000 in
theorem c_latin (w : World) (mean : ExcName → Option Value) (mg mb : Str → Option Value) : CI w mean mg mb 67 (fun c => 0 ≤ c ∧ c < 384) latinO := by
  w_top off
  k_with_none
  k_with "tree" => ((with_reducible show _ = latinO _); rw [latinO_eq]; unfold latin; (repeat first | rw [if_pos (by first | omega | assumption)] | rw [if_neg (by first | omega | exact bf (by assumption) | exact fm16 (by omega))]); first | done | rfl | decide +kernel  | (trace_state; fail "latin"))
  unfold CI; k_fill
  dsimp only [CI, CbClaim, CbLists, CbRet]
  intros
  rename_i hret
  refine wpAny_call ?_
  k_dflt cell_enter
  k_steps
  all_goals cb_end hret
end Mine
end

section
open PySem PySem.W PyProof.Rows PyProof.Rows.KTD
namespace Mine
local macro_rules | `(tactic| walk_at "subscriptTail") => `(tactic| (k_here; (with_reducible show wpAny _ _ (subscriptTail _ _ (Value.ref _) (Value.int _ _)) _ _ _); first | (with_unfolding_all refine' strs_item ?k1 ?k2 ?k3 ?k4 ?k5 ?k6 ?_ ?k7; (case k1 => k_asm); (case k2 => k_mem); (case k3 => repeat constructor); (case k4 => first | omega | exact (i16 (by omega)).1 | exact (i2 (by omega)).1); (case k5 => ((simp only [List.length_cons, List.length_nil]); first | omega | exact (i16 (by omega)).2 | exact (i2 (by omega)).2)); (case k6 => first | omega | exact Int.lt_trans (i16 (by omega)).2 (by decide) | exact Int.lt_trans (i2 (by omega)).2 (by decide)); (case k7 => with_unfolding_all rfl); k_whole; intro t17) | (with_unfolding_all refine' ints_item ?k1 ?k2 ?k3 ?k4 ?k5 ?k6 ?kz ?_ ?k7; (case k1 => k_asm); (case k2 => k_mem); (case k3 => repeat constructor); (case k4 => first | omega | exact (i16 (by omega)).1 | exact (i2 (by omega)).1); (case k5 => ((simp only [List.length_cons, List.length_nil]); first | omega | exact (i16 (by omega)).2 | exact (i2 (by omega)).2)); (case k6 => first | omega | exact Int.lt_trans (i16 (by omega)).2 (by decide) | exact Int.lt_trans (i2 (by omega)).2 (by decide)); (case kz => decide); (case k7 => with_unfolding_all rfl); k_whole; intro t17 h17 g17)))
local macro_rules | `(tactic| walk_at "call builtin:chr") => `(tactic| (k_here; (with_reducible show wpAny _ _ (call (Value.builtin "chr") [Value.int _ _]) _ _ _); first | (refine chr_of_range (by omega) (by omega) ?_) | (refine chr_of_range (fm_lo (menu3 _).1 (by omega)) (fm_hi (menu3 _).2 (by omega) (by omega)) ?_) | (refine chr_of_range (fm_lo (by omega) (by omega)) (fm_hi (by omega) (by omega) (by omega)) ?_)))
set_option maxRecDepth 100000 in
set_option maxHeartbeats 8000000 in
theorem c_greek (w : World) (mean : ExcName → Option Value) (mg mb : Str → Option Value) : CI w mean mg mb 74 (fun c => 384 ≤ c ∧ c < 1024) greekO := by
  w_top off
  k_with_none
  k_with "tree" => ((with_reducible show _ = greekO _); rw [greekO_eq]; unfold greek; (repeat first | rw [if_pos (by first | omega | assumption)] | rw [if_neg (by first | omega | exact bf (by assumption) | exact fm16 (by omega))]); first | done | rfl | decide +kernel  | (trace_state; fail "greek"))
  unfold CI; k_fill
  dsimp only [CI, CbClaim, CbLists, CbRet]
  intros
  rename_i hret
  refine wpAny_call ?_
  k_dflt cell_enter
  k_steps
  all_goals cb_end hret
end Mine
end

section
open PySem PySem.W PyProof.Rows PyProof.Rows.KTD
namespace Mine
local macro_rules | `(tactic| walk_at "subscriptTail") => `(tactic| (k_here; (with_reducible show wpAny _ _ (subscriptTail _ _ (Value.ref _) (Value.int _ _)) _ _ _); first | (with_unfolding_all refine' strs_item ?k1 ?k2 ?k3 ?k4 ?k5 ?k6 ?_ ?k7; (case k1 => k_asm); (case k2 => k_mem); (case k3 => repeat constructor); (case k4 => first | omega | exact (i16 (by omega)).1 | exact (i2 (by omega)).1); (case k5 => ((simp only [List.length_cons, List.length_nil]); first | omega | exact (i16 (by omega)).2 | exact (i2 (by omega)).2)); (case k6 => first | omega | exact Int.lt_trans (i16 (by omega)).2 (by decide) | exact Int.lt_trans (i2 (by omega)).2 (by decide)); (case k7 => with_unfolding_all rfl); k_whole; intro t17) | (with_unfolding_all refine' ints_item ?k1 ?k2 ?k3 ?k4 ?k5 ?k6 ?kz ?_ ?k7; (case k1 => k_asm); (case k2 => k_mem); (case k3 => repeat constructor); (case k4 => first | omega | exact (i16 (by omega)).1 | exact (i2 (by omega)).1); (case k5 => ((simp only [List.length_cons, List.length_nil]); first | omega | exact (i16 (by omega)).2 | exact (i2 (by omega)).2)); (case k6 => first | omega | exact Int.lt_trans (i16 (by omega)).2 (by decide) | exact Int.lt_trans (i2 (by omega)).2 (by decide)); (case kz => decide); (case k7 => with_unfolding_all rfl); k_whole; intro t17 h17 g17)))
local macro_rules | `(tactic| walk_at "call builtin:chr") => `(tactic| (k_here; (with_reducible show wpAny _ _ (call (Value.builtin "chr") [Value.int _ _]) _ _ _); first | (refine chr_of_range (by omega) (by omega) ?_) | (refine chr_of_range (fm_lo (menu3 _).1 (by omega)) (fm_hi (menu3 _).2 (by omega) (by omega)) ?_) | (refine chr_of_range (fm_lo (by omega) (by omega)) (fm_hi (by omega) (by omega) (by omega)) ?_)))
set_option maxRecDepth 100000 in
set_option maxHeartbeats 8000000 in
theorem c_cyrillic (w : World) (mean : ExcName → Option Value) (mg mb : Str → Option Value) : CI w mean mg mb 81 (fun c => 1024 ≤ c ∧ c < 1154) cyrillicO := by
  w_top off
  k_with_none
  k_with "tree" => ((with_reducible show _ = cyrillicO _); rw [cyrillicO_eq]; unfold cyrillic; (repeat first | rw [if_pos (by first | omega | assumption)] | rw [if_neg (by first | omega | exact bf (by assumption) | exact fm16 (by omega))]); first | done | rfl | decide +kernel  | (trace_state; fail "cyrillic"))
  unfold CI; k_fill
  dsimp only [CI, CbClaim, CbLists, CbRet]
  intros
  rename_i hret
  refine wpAny_call ?_
  k_dflt cell_enter
  k_steps
  all_goals cb_end hret
end Mine
end

section
open PySem PySem.W PyProof.Rows PyProof.Rows.KTD
namespace Mine
local macro_rules | `(tactic| walk_at "subscriptTail") => `(tactic| (k_here; (with_reducible show wpAny _ _ (subscriptTail _ _ (Value.ref _) (Value.int _ _)) _ _ _); first | (with_unfolding_all refine' strs_item ?k1 ?k2 ?k3 ?k4 ?k5 ?k6 ?_ ?k7; (case k1 => k_asm); (case k2 => k_mem); (case k3 => repeat constructor); (case k4 => first | omega | exact (i16 (by omega)).1 | exact (i2 (by omega)).1); (case k5 => ((simp only [List.length_cons, List.length_nil]); first | omega | exact (i16 (by omega)).2 | exact (i2 (by omega)).2)); (case k6 => first | omega | exact Int.lt_trans (i16 (by omega)).2 (by decide) | exact Int.lt_trans (i2 (by omega)).2 (by decide)); (case k7 => with_unfolding_all rfl); k_whole; intro t17) | (with_unfolding_all refine' ints_item ?k1 ?k2 ?k3 ?k4 ?k5 ?k6 ?kz ?_ ?k7; (case k1 => k_asm); (case k2 => k_mem); (case k3 => repeat constructor); (case k4 => first | omega | exact (i16 (by omega)).1 | exact (i2 (by omega)).1); (case k5 => ((simp only [List.length_cons, List.length_nil]); first | omega | exact (i16 (by omega)).2 | exact (i2 (by omega)).2)); (case k6 => first | omega | exact Int.lt_trans (i16 (by omega)).2 (by decide) | exact Int.lt_trans (i2 (by omega)).2 (by decide)); (case kz => decide); (case k7 => with_unfolding_all rfl); k_whole; intro t17 h17 g17)))
local macro_rules | `(tactic| walk_at "call builtin:chr") => `(tactic| (k_here; (with_reducible show wpAny _ _ (call (Value.builtin "chr") [Value.int _ _]) _ _ _); first | (refine chr_of_range (by omega) (by omega) ?_) | (refine chr_of_range (fm_lo (menu3 _).1 (by omega)) (fm_hi (menu3 _).2 (by omega) (by omega)) ?_) | (refine chr_of_range (fm_lo (by omega) (by omega)) (fm_hi (by omega) (by omega) (by omega)) ?_)))
set_option maxRecDepth 100000 in
set_option maxHeartbeats 8000000 in
theorem c_moreLatin (w : World) (mean : ExcName → Option Value) (mg mb : Str → Option Value) : CI w mean mg mb 88 (fun c => 1415 < c ∧ c < 7936) moreLatinO := by
  w_top off
  k_with_none
  k_with "tree" => ((with_reducible show _ = moreLatinO _); rw [moreLatinO_eq]; unfold moreLatin; (repeat first | rw [if_pos (by first | omega | assumption)] | rw [if_neg (by first | omega | exact bf (by assumption) | exact fm16 (by omega))]); first | done | rfl | decide +kernel  | (trace_state; fail "moreLatin"))
  unfold CI; k_fill
  dsimp only [CI, CbClaim, CbLists, CbRet]
  intros
  rename_i hret
  refine wpAny_call ?_
  k_dflt cell_enter
  k_steps
  all_goals cb_end hret
end Mine
end

section
open PySem PySem.W PyProof.Rows PyProof.Rows.KTD
namespace Mine
local macro_rules | `(tactic| walk_at "subscriptTail") => `(tactic| (k_here; (with_reducible show wpAny _ _ (subscriptTail _ _ (Value.ref _) (Value.int _ _)) _ _ _); first | (with_unfolding_all refine' strs_item ?k1 ?k2 ?k3 ?k4 ?k5 ?k6 ?_ ?k7; (case k1 => k_asm); (case k2 => k_mem); (case k3 => repeat constructor); (case k4 => first | omega | exact (i16 (by omega)).1 | exact (i2 (by omega)).1); (case k5 => ((simp only [List.length_cons, List.length_nil]); first | omega | exact (i16 (by omega)).2 | exact (i2 (by omega)).2)); (case k6 => first | omega | exact Int.lt_trans (i16 (by omega)).2 (by decide) | exact Int.lt_trans (i2 (by omega)).2 (by decide)); (case k7 => with_unfolding_all rfl); k_whole; intro t17) | (with_unfolding_all refine' ints_item ?k1 ?k2 ?k3 ?k4 ?k5 ?k6 ?kz ?_ ?k7; (case k1 => k_asm); (case k2 => k_mem); (case k3 => repeat constructor); (case k4 => first | omega | exact (i16 (by omega)).1 | exact (i2 (by omega)).1); (case k5 => ((simp only [List.length_cons, List.length_nil]); first | omega | exact (i16 (by omega)).2 | exact (i2 (by omega)).2)); (case k6 => first | omega | exact Int.lt_trans (i16 (by omega)).2 (by decide) | exact Int.lt_trans (i2 (by omega)).2 (by decide)); (case kz => decide); (case k7 => with_unfolding_all rfl); k_whole; intro t17 h17 g17)))
local macro_rules | `(tactic| walk_at "call builtin:chr") => `(tactic| (k_here; (with_reducible show wpAny _ _ (call (Value.builtin "chr") [Value.int _ _]) _ _ _); first | (refine chr_of_range (by omega) (by omega) ?_) | (refine chr_of_range (fm_lo (menu3 _).1 (by omega)) (fm_hi (menu3 _).2 (by omega) (by omega)) ?_) | (refine chr_of_range (fm_lo (by omega) (by omega)) (fm_hi (by omega) (by omega) (by omega)) ?_)))
set_option maxRecDepth 100000 in
set_option maxHeartbeats 8000000 in
theorem c_moreGreek (w : World) (mean : ExcName → Option Value) (mg mb : Str → Option Value) : CI w mean mg mb 95 (fun c => 7936 ≤ c ∧ c < 8112) moreGreekO := by
  w_top off
  k_with_none
  k_with "tree" => ((with_reducible show _ = moreGreekO _); rw [moreGreekO_eq]; unfold moreGreek; (repeat first | rw [if_pos (by first | omega | assumption)] | rw [if_neg (by first | omega | exact bf (by assumption) | exact fm16 (by omega))]); first | done | rfl | decide +kernel  | (trace_state; fail "moreGreek"))
  unfold CI; k_fill
  dsimp only [CI, CbClaim, CbLists, CbRet]
  intros
  rename_i hret
  refine wpAny_call ?_
  k_dflt cell_enter
  k_steps
  all_goals cb_end hret
end Mine
end

section
open PySem PySem.W PyProof.Rows PyProof.Rows.KTD
namespace Mine
local macro_rules | `(tactic| walk_at "subscriptTail") => `(tactic| (k_here; (with_reducible show wpAny _ _ (subscriptTail _ _ (Value.ref _) (Value.int _ _)) _ _ _); first | (with_unfolding_all refine' strs_item ?k1 ?k2 ?k3 ?k4 ?k5 ?k6 ?_ ?k7; (case k1 => k_asm); (case k2 => k_mem); (case k3 => repeat constructor); (case k4 => first | omega | exact (i16 (by omega)).1 | exact (i2 (by omega)).1); (case k5 => ((simp only [List.length_cons, List.length_nil]); first | omega | exact (i16 (by omega)).2 | exact (i2 (by omega)).2)); (case k6 => first | omega | exact Int.lt_trans (i16 (by omega)).2 (by decide) | exact Int.lt_trans (i2 (by omega)).2 (by decide)); (case k7 => with_unfolding_all rfl); k_whole; intro t17) | (with_unfolding_all refine' ints_item ?k1 ?k2 ?k3 ?k4 ?k5 ?k6 ?kz ?_ ?k7; (case k1 => k_asm); (case k2 => k_mem); (case k3 => repeat constructor); (case k4 => first | omega | exact (i16 (by omega)).1 | exact (i2 (by omega)).1); (case k5 => ((simp only [List.length_cons, List.length_nil]); first | omega | exact (i16 (by omega)).2 | exact (i2 (by omega)).2)); (case k6 => first | omega | exact Int.lt_trans (i16 (by omega)).2 (by decide) | exact Int.lt_trans (i2 (by omega)).2 (by decide)); (case kz => decide); (case k7 => with_unfolding_all rfl); k_whole; intro t17 h17 g17)))
local macro_rules | `(tactic| walk_at "call builtin:chr") => `(tactic| (k_here; (with_reducible show wpAny _ _ (call (Value.builtin "chr") [Value.int _ _]) _ _ _); first | (refine chr_of_range (by omega) (by omega) ?_) | (refine chr_of_range (fm_lo (menu3 _).1 (by omega)) (fm_hi (menu3 _).2 (by omega) (by omega)) ?_) | (refine chr_of_range (fm_lo (by omega) (by omega)) (fm_hi (by omega) (by omega) (by omega)) ?_)))
set_option maxRecDepth 100000 in
set_option maxHeartbeats 8000000 in
theorem c_ligature (w : World) (mean : ExcName → Option Value) (mg mb : Str → Option Value) : CI w mean mg mb 102 (fun c => 64256 ≤ c ∧ c < 64280) ligatureO := by
  w_top off
  k_with_none
  k_with "tree" => ((with_reducible show _ = ligatureO _); rw [ligatureO_eq]; unfold ligature; (repeat first | rw [if_pos (by first | omega | assumption)] | rw [if_neg (by first | omega | exact bf (by assumption) | exact fm16 (by omega))]); first | done | rfl | decide +kernel  | (trace_state; fail "ligature"))
  unfold CI; k_fill
  dsimp only [CI, CbClaim, CbLists, CbRet]
  intros
  rename_i hret
  refine wpAny_call ?_
  k_dflt cell_enter
  k_steps
  all_goals cb_end hret
end Mine
end

section
open PySem PySem.W PyProof.Rows PyProof.Rows.KTD
namespace Mine
local macro_rules | `(tactic| walk_at "subscriptTail") => `(tactic| (k_here; (with_reducible show wpAny _ _ (subscriptTail _ _ (Value.ref _) (Value.int _ _)) _ _ _); first | (with_unfolding_all refine' strs_item ?k1 ?k2 ?k3 ?k4 ?k5 ?k6 ?_ ?k7; (case k1 => k_asm); (case k2 => k_mem); (case k3 => repeat constructor); (case k4 => first | omega | exact (i16 (by omega)).1 | exact (i2 (by omega)).1); (case k5 => ((simp only [List.length_cons, List.length_nil]); first | omega | exact (i16 (by omega)).2 | exact (i2 (by omega)).2)); (case k6 => first | omega | exact Int.lt_trans (i16 (by omega)).2 (by decide) | exact Int.lt_trans (i2 (by omega)).2 (by decide)); (case k7 => with_unfolding_all rfl); k_whole; intro t17) | (with_unfolding_all refine' ints_item ?k1 ?k2 ?k3 ?k4 ?k5 ?k6 ?kz ?_ ?k7; (case k1 => k_asm); (case k2 => k_mem); (case k3 => repeat constructor); (case k4 => first | omega | exact (i16 (by omega)).1 | exact (i2 (by omega)).1); (case k5 => ((simp only [List.length_cons, List.length_nil]); first | omega | exact (i16 (by omega)).2 | exact (i2 (by omega)).2)); (case k6 => first | omega | exact Int.lt_trans (i16 (by omega)).2 (by decide) | exact Int.lt_trans (i2 (by omega)).2 (by decide)); (case kz => decide); (case k7 => with_unfolding_all rfl); k_whole; intro t17 h17 g17)))
local macro_rules | `(tactic| walk_at "call builtin:chr") => `(tactic| (k_here; (with_reducible show wpAny _ _ (call (Value.builtin "chr") [Value.int _ _]) _ _ _); first | (refine chr_of_range (by omega) (by omega) ?_) | (refine chr_of_range (fm_lo (menu3 _).1 (by omega)) (fm_hi (menu3 _).2 (by omega) (by omega)) ?_) | (refine chr_of_range (fm_lo (by omega) (by omega)) (fm_hi (by omega) (by omega) (by omega)) ?_)))
set_option maxRecDepth 100000 in
set_option maxHeartbeats 8000000 in
theorem c_mathematical (w : World) (mean : ExcName → Option Value) (mg mb : Str → Option Value) : CI w mean mg mb 109 (fun c => 66640 ≤ c ∧ c < 120778) mathematicalO := by
  w_top off
  k_with_none
  k_with "tree" => ((with_reducible show _ = mathematicalO _); rw [mathematicalO_eq]; unfold mathematical; (repeat first | rw [if_pos (by first | omega | assumption)] | rw [if_neg (by first | omega | exact bf (by assumption) | exact fm16 (by omega))]); first | done | rfl | decide +kernel  | (trace_state; fail "mathematical"))
  unfold CI; k_fill
  dsimp only [CI, CbClaim, CbLists, CbRet]
  intros
  rename_i hret
  refine wpAny_call ?_
  k_dflt cell_enter
  k_steps
  all_goals cb_end hret
end Mine
end

section
open PySem PySem.W PyProof.Rows PyProof.Rows.KTD
namespace Mine
section
variable {w : World} {mean : ExcName → Option Value} {mg mb : Str → Option Value} {news : List (Addr × Obj)} {c : Int} {t : Tok} {dp un : Nat} {gd : Option (List Code)} {cn : Str} {cs : Scope} {a : Addr} {ccd : Value} {cl : List (Str × Addr)} {outer : List Env} {A₀ : Around} {base h₀ : Heap} {L : Addr} {m : Str → Option Value} {s : Shared} {Q E : Value → Shared → Prop}
theorem call_latin (B : Below A₀ base outer h₀) (F : Fr h₀ L s.heap m) (X : (KR w.params).In h₀) (N : News h₀ L s.heap news) (T : Top hdm.view_39 (looseW hdm.view_39 [Str.ofString "b3_exceptions"]) mean mg mb h₀) (hk : cs.kind = .function)
    (hp : 0 ≤ c ∧ c < 384) (hd : dp + 1 < recursionLimit) (hu : un + 8 < cLine) (h : ∀ (t : Tok) (h' : Heap) (tk' : Nat), Fr h₀ L h' m → News h₀ L h' news → Q (.str (latinO c) t) { s with heap := h', toks := tk' }) :
    wpAny (model PySem.Challenge.rw_ki0084_01.row.prog w) (ktrTop dp un gd cn cs L a ccd cl outer) (call (.ref 67) [.int c t]) Q E s := c_latin w mean mg mb news c t dp un gd cn cs a ccd cl outer A₀ base h₀ L m s Q E B F X N T hk hp hd hu h
theorem call_greek (B : Below A₀ base outer h₀) (F : Fr h₀ L s.heap m) (X : (KR w.params).In h₀) (N : News h₀ L s.heap news) (T : Top hdm.view_39 (looseW hdm.view_39 [Str.ofString "b3_exceptions"]) mean mg mb h₀) (hk : cs.kind = .function)
    (hp : 384 ≤ c ∧ c < 1024) (hd : dp + 1 < recursionLimit) (hu : un + 8 < cLine) (h : ∀ (t : Tok) (h' : Heap) (tk' : Nat), Fr h₀ L h' m → News h₀ L h' news → Q (.str (greekO c) t) { s with heap := h', toks := tk' }) :
    wpAny (model PySem.Challenge.rw_ki0084_01.row.prog w) (ktrTop dp un gd cn cs L a ccd cl outer) (call (.ref 74) [.int c t]) Q E s := c_greek w mean mg mb news c t dp un gd cn cs a ccd cl outer A₀ base h₀ L m s Q E B F X N T hk hp hd hu h
theorem call_cyrillic (B : Below A₀ base outer h₀) (F : Fr h₀ L s.heap m) (X : (KR w.params).In h₀) (N : News h₀ L s.heap news) (T : Top hdm.view_39 (looseW hdm.view_39 [Str.ofString "b3_exceptions"]) mean mg mb h₀) (hk : cs.kind = .function)
    (hp : 1024 ≤ c ∧ c < 1154) (hd : dp + 1 < recursionLimit) (hu : un + 8 < cLine) (h : ∀ (t : Tok) (h' : Heap) (tk' : Nat), Fr h₀ L h' m → News h₀ L h' news → Q (.str (cyrillicO c) t) { s with heap := h', toks := tk' }) :
    wpAny (model PySem.Challenge.rw_ki0084_01.row.prog w) (ktrTop dp un gd cn cs L a ccd cl outer) (call (.ref 81) [.int c t]) Q E s := c_cyrillic w mean mg mb news c t dp un gd cn cs a ccd cl outer A₀ base h₀ L m s Q E B F X N T hk hp hd hu h
theorem call_moreLatin (B : Below A₀ base outer h₀) (F : Fr h₀ L s.heap m) (X : (KR w.params).In h₀) (N : News h₀ L s.heap news) (T : Top hdm.view_39 (looseW hdm.view_39 [Str.ofString "b3_exceptions"]) mean mg mb h₀) (hk : cs.kind = .function)
    (hp : 1415 < c ∧ c < 7936) (hd : dp + 1 < recursionLimit) (hu : un + 8 < cLine) (h : ∀ (t : Tok) (h' : Heap) (tk' : Nat), Fr h₀ L h' m → News h₀ L h' news → Q (.str (moreLatinO c) t) { s with heap := h', toks := tk' }) :
    wpAny (model PySem.Challenge.rw_ki0084_01.row.prog w) (ktrTop dp un gd cn cs L a ccd cl outer) (call (.ref 88) [.int c t]) Q E s := c_moreLatin w mean mg mb news c t dp un gd cn cs a ccd cl outer A₀ base h₀ L m s Q E B F X N T hk hp hd hu h
theorem call_moreGreek (B : Below A₀ base outer h₀) (F : Fr h₀ L s.heap m) (X : (KR w.params).In h₀) (N : News h₀ L s.heap news) (T : Top hdm.view_39 (looseW hdm.view_39 [Str.ofString "b3_exceptions"]) mean mg mb h₀) (hk : cs.kind = .function)
    (hp : 7936 ≤ c ∧ c < 8112) (hd : dp + 1 < recursionLimit) (hu : un + 8 < cLine) (h : ∀ (t : Tok) (h' : Heap) (tk' : Nat), Fr h₀ L h' m → News h₀ L h' news → Q (.str (moreGreekO c) t) { s with heap := h', toks := tk' }) :
    wpAny (model PySem.Challenge.rw_ki0084_01.row.prog w) (ktrTop dp un gd cn cs L a ccd cl outer) (call (.ref 95) [.int c t]) Q E s := c_moreGreek w mean mg mb news c t dp un gd cn cs a ccd cl outer A₀ base h₀ L m s Q E B F X N T hk hp hd hu h
theorem call_ligature (B : Below A₀ base outer h₀) (F : Fr h₀ L s.heap m) (X : (KR w.params).In h₀) (N : News h₀ L s.heap news) (T : Top hdm.view_39 (looseW hdm.view_39 [Str.ofString "b3_exceptions"]) mean mg mb h₀) (hk : cs.kind = .function)
    (hp : 64256 ≤ c ∧ c < 64280) (hd : dp + 1 < recursionLimit) (hu : un + 8 < cLine) (h : ∀ (t : Tok) (h' : Heap) (tk' : Nat), Fr h₀ L h' m → News h₀ L h' news → Q (.str (ligatureO c) t) { s with heap := h', toks := tk' }) :
    wpAny (model PySem.Challenge.rw_ki0084_01.row.prog w) (ktrTop dp un gd cn cs L a ccd cl outer) (call (.ref 102) [.int c t]) Q E s := c_ligature w mean mg mb news c t dp un gd cn cs a ccd cl outer A₀ base h₀ L m s Q E B F X N T hk hp hd hu h
theorem call_mathematical (B : Below A₀ base outer h₀) (F : Fr h₀ L s.heap m) (X : (KR w.params).In h₀) (N : News h₀ L s.heap news) (T : Top hdm.view_39 (looseW hdm.view_39 [Str.ofString "b3_exceptions"]) mean mg mb h₀) (hk : cs.kind = .function)
    (hp : 66640 ≤ c ∧ c < 120778) (hd : dp + 1 < recursionLimit) (hu : un + 8 < cLine) (h : ∀ (t : Tok) (h' : Heap) (tk' : Nat), Fr h₀ L h' m → News h₀ L h' news → Q (.str (mathematicalO c) t) { s with heap := h', toks := tk' }) :
    wpAny (model PySem.Challenge.rw_ki0084_01.row.prog w) (ktrTop dp un gd cn cs L a ccd cl outer) (call (.ref 109) [.int c t]) Q E s := c_mathematical w mean mg mb news c t dp un gd cn cs a ccd cl outer A₀ base h₀ L m s Q E B F X N T hk hp hd hu h
end
local macro_rules | `(tactic| walk_at "call ref") => `(tactic| (k_here; (with_reducible show wpAny _ _ (call (Value.ref 67) [Value.int _ _]) _ _ _); k_dflt (refine' call_latin ?k1 ?k2 ?k3 ?k4 ?k5 ?kK ?kp ?kd ?ku ?_; (case k1 => k_asm); (case k2 => k_asm); (case k3 => k_asm); (case k4 => k_asm); (case k5 => k_asm); (case kK => first | exact rfl | assumption); (case kp => omega); (case kd => first | omega | ktr_room); (case ku => first | omega | ktr_units)); intro t9 h9 tk9 F9 N9; (try dsimp only); (try k_fold)))
local macro_rules | `(tactic| walk_at "call ref") => `(tactic| (k_here; (with_reducible show wpAny _ _ (call (Value.ref 74) [Value.int _ _]) _ _ _); k_dflt (refine' call_greek ?k1 ?k2 ?k3 ?k4 ?k5 ?kK ?kp ?kd ?ku ?_; (case k1 => k_asm); (case k2 => k_asm); (case k3 => k_asm); (case k4 => k_asm); (case k5 => k_asm); (case kK => first | exact rfl | assumption); (case kp => omega); (case kd => first | omega | ktr_room); (case ku => first | omega | ktr_units)); intro t9 h9 tk9 F9 N9; (try dsimp only); (try k_fold)))
local macro_rules | `(tactic| walk_at "call ref") => `(tactic| (k_here; (with_reducible show wpAny _ _ (call (Value.ref 81) [Value.int _ _]) _ _ _); k_dflt (refine' call_cyrillic ?k1 ?k2 ?k3 ?k4 ?k5 ?kK ?kp ?kd ?ku ?_; (case k1 => k_asm); (case k2 => k_asm); (case k3 => k_asm); (case k4 => k_asm); (case k5 => k_asm); (case kK => first | exact rfl | assumption); (case kp => omega); (case kd => first | omega | ktr_room); (case ku => first | omega | ktr_units)); intro t9 h9 tk9 F9 N9; (try dsimp only); (try k_fold)))
local macro_rules | `(tactic| walk_at "call ref") => `(tactic| (k_here; (with_reducible show wpAny _ _ (call (Value.ref 88) [Value.int _ _]) _ _ _); k_dflt (refine' call_moreLatin ?k1 ?k2 ?k3 ?k4 ?k5 ?kK ?kp ?kd ?ku ?_; (case k1 => k_asm); (case k2 => k_asm); (case k3 => k_asm); (case k4 => k_asm); (case k5 => k_asm); (case kK => first | exact rfl | assumption); (case kp => omega); (case kd => first | omega | ktr_room); (case ku => first | omega | ktr_units)); intro t9 h9 tk9 F9 N9; (try dsimp only); (try k_fold)))
local macro_rules | `(tactic| walk_at "call ref") => `(tactic| (k_here; (with_reducible show wpAny _ _ (call (Value.ref 95) [Value.int _ _]) _ _ _); k_dflt (refine' call_moreGreek ?k1 ?k2 ?k3 ?k4 ?k5 ?kK ?kp ?kd ?ku ?_; (case k1 => k_asm); (case k2 => k_asm); (case k3 => k_asm); (case k4 => k_asm); (case k5 => k_asm); (case kK => first | exact rfl | assumption); (case kp => omega); (case kd => first | omega | ktr_room); (case ku => first | omega | ktr_units)); intro t9 h9 tk9 F9 N9; (try dsimp only); (try k_fold)))
local macro_rules | `(tactic| walk_at "call ref") => `(tactic| (k_here; (with_reducible show wpAny _ _ (call (Value.ref 102) [Value.int _ _]) _ _ _); k_dflt (refine' call_ligature ?k1 ?k2 ?k3 ?k4 ?k5 ?kK ?kp ?kd ?ku ?_; (case k1 => k_asm); (case k2 => k_asm); (case k3 => k_asm); (case k4 => k_asm); (case k5 => k_asm); (case kK => first | exact rfl | assumption); (case kp => omega); (case kd => first | omega | ktr_room); (case ku => first | omega | ktr_units)); intro t9 h9 tk9 F9 N9; (try dsimp only); (try k_fold)))
local macro_rules | `(tactic| walk_at "call ref") => `(tactic| (k_here; (with_reducible show wpAny _ _ (call (Value.ref 109) [Value.int _ _]) _ _ _); k_dflt (refine' call_mathematical ?k1 ?k2 ?k3 ?k4 ?k5 ?kK ?kp ?kd ?ku ?_; (case k1 => k_asm); (case k2 => k_asm); (case k3 => k_asm); (case k4 => k_asm); (case k5 => k_asm); (case kK => first | exact rfl | assumption); (case kp => omega); (case kd => first | omega | ktr_room); (case ku => first | omega | ktr_units)); intro t9 h9 tk9 F9 N9; (try dsimp only); (try k_fold)))

theorem foldedO_of {c : Int} : foldedO c = (if c < 384 then latinO c
  else if c < 1024 then greekO c
  else if c < 1154 then cyrillicO c
  else if c < 1415 then (if c < 1367 then one (c + 48) else one c)
  else if c = 1415 then Str.ofString "եւ"
  else if c < 7936 then moreLatinO c
  else if c < 8544 then moreGreekO c
  else if c < 8576 then (if c < 8560 then one (c + 16) else one c)
  else if c < 9450 then (if c < 9424 then one (c + 26) else one c)
  else if c < 64280 then ligatureO c
  else if c < 65371 then (if c < 65339 then one (c + 32) else one c)
  else if c < 66640 then (if c < 66600 then one (c + 40) else one c)
  else mathematicalO c) := by
  rw [foldedO_eq, latinO_eq, greekO_eq, cyrillicO_eq, moreLatinO_eq, moreGreekO_eq, ligatureO_eq, mathematicalO_eq]; rfl
set_option maxRecDepth 100000 in
set_option maxHeartbeats 8000000 in
theorem c_folded (w : World) (mean : ExcName → Option Value) (mg mb : Str → Option Value) (news : List (Addr × Obj)) (c : Int) (t : Tok) : ∀ (dp un : Nat) (gd : Option (List Code)) (cn : Str) (cs : Scope) (a : Addr) (ccd : Value) (cl : List (Str × Addr)) (outer : List Env) (A₀ : Around) (base h₀ : Heap) (L : Addr) (m : Str → Option Value) (s : Shared) (Q E : Value → Shared → Prop),
    Below A₀ base outer h₀ → Fr h₀ L s.heap m → (KR w.params).In h₀ → News h₀ L s.heap news → Top hdm.view_39 (looseW hdm.view_39 [Str.ofString "b3_exceptions"]) mean mg mb h₀ → cs.kind = .function →
    ((0 ≤ c ∧ c < 1416) ∨ (7680 ≤ c ∧ c < 8112) ∨ (8544 ≤ c ∧ c < 9450) ∨ (64256 ≤ c ∧ c < 64280) ∨ (65313 ≤ c ∧ c < 120778)) → dp + 3 < recursionLimit → un + 24 < cLine → (∀ (t : Tok) (h' : Heap) (tk' : Nat), Fr h₀ L h' m → News h₀ L h' news → Q (.str (foldedO c) t) { s with heap := h', toks := tk' }) →
      wpAny (model PySem.Challenge.rw_ki0084_01.row.prog w) (ktrTop dp un gd cn cs L a ccd cl outer) (call (.ref 116) [.int c t]) Q E s := by
  w_top off
  k_with_none
  k_with "tree" => ((with_reducible show _ = foldedO _); rw [foldedO_of]; (repeat first | rw [if_pos (by omega)] | rw [if_neg (by omega)]); first | done | rfl | decide +kernel | (trace_state; fail "folded"))
  k_fill
  intros
  rename_i hret
  refine wpAny_call ?_
  k_dflt cell_enter
  k_steps
  all_goals cb_end hret
end Mine
end

section
open PySem PySem.W PyProof.Rows PyProof.Rows.KTD
namespace Mine
theorem keyed15 {P : Params} {h : Heap} (X : (KR P).In h) : Keyed h 15 tabB3 := keyedR X

theorem b3_get {prog : Program} {w : World} {A : Around} {E : Value → Shared → Prop} {s : Shared} {P : Params} {h₀ : Heap} {L : Addr} {m : Str → Option Value} {k : Int} {tk : Tok} {Q : Value → Shared → Prop}
    (X : (KR P).In h₀) (F : Fr h₀ L s.heap m) (h1 : ∀ y t, datumAt k tabB3 = some (.str y) → Q (.str y t) { s with toks := s.toks + 1 }) (h2 : datumAt k tabB3 = none → Q .none { s with toks := s.toks + 1 }) :
    wpAny (model prog w) A (call (.builtin "dict.get") [.ref 15, .int k tk]) Q E s :=
  call_get1_intTab ((keyed15 X).keep F.keep prog w) fun v hv => by
    rw [lookup_keyed] at hv
    cases hat : datumAt k tabB3 with
    | some d =>
      rw [hat] at hv
      obtain ⟨y, rfl⟩ := tabB3_str hat
      have hv' : PyProof.V.Flat v (.str y) := hv
      obtain ⟨t, rfl⟩ := hv'.str_inv
      exact h1 y t hat
    | none =>
      rw [hat] at hv
      have hv' : PyProof.V.Flat v .none := hv
      rw [hv'.none_inv]
      exact h2 hat
theorem b3_method {prog : Program} {w : World} {A : Around} {E : Value → Shared → Prop} {s : Shared} {P : Params} {h₀ : Heap} {L : Addr} {m : Str → Option Value} {pl : Sem Bool} {Q : Value × List Value → Shared → Prop}
    (X : (KR P).In h₀) (F : Fr h₀ L s.heap m) (h : Q (.builtin "dict.get", [.ref 15]) s) : wpAny (model prog w) A (getMethod (.ref 15) "get" pl) Q E s :=
  getMethod_keyed (keyed15 X) F.keep h
local macro_rules | `(tactic| walk_at "getMethod ref") => `(tactic| (k_here; (with_reducible show wpAny _ _ (getMethod (Value.ref 15) _ _) _ _ _); (refine' b3_method ?k1 ?k2 ?_; (case k1 => k_asm); (case k2 => k_asm); k_whole)))
local macro_rules | `(tactic| walk_at "call builtin:dict.get") => `(tactic| (k_here; (with_reducible show wpAny _ _ (call (Value.builtin "dict.get") [Value.ref 15, Value.int _ _]) _ _ _); (refine' b3_get ?k1 ?k2 ?_ ?_; (case k1 => k_asm); (case k2 => k_asm); k_whole); intros))
local macro_rules | `(tactic| walk_at "call builtin:str.lower") => `(tactic| (k_here; (with_reducible show wpAny _ _ (call (Value.builtin "str.lower") [Value.str _ _]) _ _ _); (refine SCL.lower (by omega) ?_); intro _))
set_option maxRecDepth 100000 in
set_option maxHeartbeats 8000000 in
theorem c_map (w : World) (mean : ExcName → Option Value) (mg mb : Str → Option Value) (news : List (Addr × Obj)) (x : Str) (t : Tok) : CbClaim PySem.Challenge.rw_ki0084_01.row.prog w (KR w.params) hdm.view_39 (looseW hdm.view_39 [Str.ofString "b3_exceptions"]) mean mg mb 60 news [] (x.length = 1) [.str x t] (fun t => .str (mapSO x) t) := by
  w_top off
  k_with_none
  k_with "tree" => ((with_reducible show _ = mapSO _); first | exact mapSO_some (by assumption) | exact mapSO_none (by assumption))
  k_fill
  dsimp only [CbClaim, CbLists, CbRet]
  intros
  rename_i hret
  refine wpAny_call ?_
  k_dflt cell_enter
  k_steps
  all_goals cb_end hret
end Mine
end

section
open PySem PySem.W PyProof.Rows PyProof.Rows.KTD
namespace Mine
section
variable {w : World} {mean : ExcName → Option Value} {mg mb : Str → Option Value} {news : List (Addr × Obj)} {c : Int} {x : Str} {t : Tok} {dp un : Nat} {gd : Option (List Code)} {cn : Str} {cs : Scope} {a : Addr} {ccd : Value} {cl : List (Str × Addr)} {outer : List Env} {A₀ : Around} {base h₀ : Heap} {L : Addr} {m : Str → Option Value} {s : Shared} {Q E : Value → Shared → Prop}
theorem call_folded (B : Below A₀ base outer h₀) (F : Fr h₀ L s.heap m) (X : (KR w.params).In h₀) (N : News h₀ L s.heap news) (T : Top hdm.view_39 (looseW hdm.view_39 [Str.ofString "b3_exceptions"]) mean mg mb h₀) (hk : cs.kind = .function)
    (hp : InBlocks c) (hd : dp + 3 < recursionLimit) (hu : un + 24 < cLine) (h : ∀ (t : Tok) (h' : Heap) (tk' : Nat), Fr h₀ L h' m → News h₀ L h' news → Q (.str (foldedO c) t) { s with heap := h', toks := tk' }) :
    wpAny (model PySem.Challenge.rw_ki0084_01.row.prog w) (ktrTop dp un gd cn cs L a ccd cl outer) (call (.ref 116) [.int c t]) Q E s := c_folded w mean mg mb news c t dp un gd cn cs a ccd cl outer A₀ base h₀ L m s Q E B F X N T hk hp.rough hd hu h
theorem call_map (B : Below A₀ base outer h₀) (F : Fr h₀ L s.heap m) (X : (KR w.params).In h₀) (N : News h₀ L s.heap news) (T : Top hdm.view_39 (looseW hdm.view_39 [Str.ofString "b3_exceptions"]) mean mg mb h₀) (hk : cs.kind = .function)
    (hp : InBlocks c) (hd : dp + 1 < recursionLimit) (hu : un + 8 < cLine) (h : ∀ (t : Tok) (h' : Heap) (tk' : Nat), Fr h₀ L h' m → News h₀ L h' news → Q (.str (foldedO c) t) { s with heap := h', toks := tk' }) :
    wpAny (model PySem.Challenge.rw_ki0084_01.row.prog w) (ktrTop dp un gd cn cs L a ccd cl outer) (call (.ref 60) [.str ⟨#[c.toNat]⟩ t]) Q E s := c_map w mean mg mb news _ t dp un gd cn cs a ccd cl outer A₀ base h₀ L m s Q E B F X N T hk rfl hd hu (by
      intro t h' tk' F' N'
      have e : mapSO ⟨#[c.toNat]⟩ = foldedO c := by rw [mapSO_eq, foldedO_eq, mapS_one hp]
      show Q (.str (mapSO ⟨#[c.toNat]⟩) t) _
      rw [e]
      exact h t h' tk' F' N')
end
def PairIn (news : List (Addr × Obj)) (v : Value) : Prop := ∃ (a : Addr) (lo sz : Int) (t1 t2 : Tok), v = .ref a ∧ (∃ n : Nat, (a, ({ cls := .type "tuple", data := .seq #[.int lo t1, .int sz t2] n } : Obj)) ∈ news) ∧ (lo, sz) ∈ blocks
theorem blocks_pos {lo sz : Int} (h : (lo, sz) ∈ blocks) : 0 < sz := by
  simp only [blocks, List.mem_cons, List.not_mem_nil, or_false, Prod.mk.injEq] at h
  omega
theorem blocks_item {prog : Program} {w : World} {A : Around} {E : Value → Shared → Prop} {s : Shared} {h₀ : Heap} {L l : Addr} {news : List (Addr × Obj)} {vs : List Value} {c : Nat} {n : Int} {u : Tok} {value slice : PySem.Expr} {Q : Value → Shared → Prop}
    (N : News h₀ L s.heap news) (hl : (l, listOf vs.toArray c) ∈ news) (hlen : vs.length = 17) (hv : ∀ v ∈ vs, PairIn news v)
    (h : ∀ (a : Addr) (lo sz : Int) (t1 t2 : Tok), IsTup s.heap a #[.int lo t1, .int sz t2] → (lo, sz) ∈ blocks → 0 < sz → Q (.ref a) s)
    (hs : subscripted slice false (.ref l) (.int (n.fmod 17) u) = operate [.ref l, .int (n.fmod 17) u] (getItem (.ref l) (.int (n.fmod 17) u)) := by with_unfolding_all rfl) :
    wpAny (model prog w) A (subscriptTail value slice (.ref l) (.int (n.fmod 17) u)) Q E s := by
  have h1 := Int.fmod_nonneg_of_pos n (b := 17) (by omega)
  have h2 := Int.fmod_lt_of_pos n (b := 17) (by omega)
  have hi : (n.fmod 17).toNat < vs.length := by omega
  obtain ⟨a, lo, sz, t1, t2, e, ⟨k, hm⟩, hb⟩ := hv _ (List.getElem_mem hi)
  have hL : s.heap.IsList l vs.toArray := ⟨_, (N _ hl).1, rfl, c, rfl⟩
  refine tail_any hL.typeIs slot_list_getitem.lookup (wpAny_getItem_list (x := .ref a) hL h1 (by omega) (by simp [List.getElem?_eq_getElem hi, e]) (h a lo sz t1 t2 (News.isTup N hm) hb (blocks_pos hb))) hs
local macro_rules | `(tactic| walk_at "subscriptTail") => `(tactic| (k_here; (with_reducible show wpAny _ _ (subscriptTail (PySem.Expr.Name (PySem.Str.ofString "blocks") _) _ (Value.ref _) (Value.int (Int.fmod _ 17) _)) _ _ _); (with_unfolding_all refine' blocks_item ?k1 ?k2 ?k3 ?k4 ?_ ?k6; (case k1 => k_asm); (case k2 => k_mem); (case k3 => rfl); (case k4 => (repeat' (refine List.forall_mem_cons.mpr ⟨⟨_, _, _, _, _, rfl, ⟨_, by k_mem⟩, by decide⟩, ?_⟩)); exact List.forall_mem_nil _); (case k6 => with_unfolding_all rfl); k_whole); intro a17 lo17 sz17 t17 u17 hT17 hB17 hP17))
local macro_rules | `(tactic| walk_at "assign Tuple") => `(tactic| (k_here; (with_reducible show wpAny _ _ (assign (PySem.Expr.Tuple [PySem.Expr.Name (PySem.Str.ofString "low") _, _] _ _) _ (Value.ref _)) _ _ _); (rename IsTup _ _ _ => hT17); k_dflt (refine' unpackN_ ?k1 ?k2 hT17 ?k4 ?k5 ?k6 ?_; (case k1 => k_asm); (case k2 => k_asm); (case k4 => exact rfl); (case k5 => exact rfl); (case k6 => exact rfl); k_whole); intro h' F' N'; (try k_sweep)))
theorem inB_of {lo sz x : Int} (hb : (lo, sz) ∈ blocks) (h0 : 0 < sz) : InBlocks (lo + Int.fmod x sz) := InBlocks.of hb h0
theorem chr_in {prog : Program} {w : World} {A : Around} {E : Value → Shared → Prop} {s : Shared} {c : Int} {t : Tok} {Q : Value → Shared → Prop} (hIB : InBlocks c) (h : InBlocks c → Q (.str ⟨#[c.toNat]⟩ s.toks) { s with toks := s.toks + 1 }) :
    wpAny (model prog w) A (call (.builtin "chr") [.int c t]) Q E s := chr_of_range hIB.ge hIB.le (h hIB)
local macro_rules | `(tactic| walk_at "call builtin:chr") => `(tactic| (k_here; (with_reducible show wpAny _ _ (call (Value.builtin "chr") [Value.int _ _]) _ _ _); first | ((rename ∀ c ∈ _, InBlocks c => hAll); (refine chr_in (hAll _ (by assumption)) ?_); intro hIB) | ((refine chr_in (inB_of (by assumption) (by assumption)) ?_); intro hIB)))
local macro_rules | `(tactic| walk_at "call ref") => `(tactic| (k_here; (with_reducible show wpAny _ _ (call (Value.ref 116) [Value.int _ _]) _ _ _); k_dflt (refine' call_folded ?k1 ?k2 ?k3 ?k4 ?k5 ?kK ?kp ?kd ?ku ?_; (case k1 => k_asm); (case k2 => k_asm); (case k3 => k_asm); (case k4 => k_asm); (case k5 => k_asm); (case kK => first | exact rfl | assumption); (case kp => assumption); (case kd => first | omega | ktr_room); (case ku => first | omega | ktr_units)); intro t9 h9 tk9 F9 N9; (try dsimp only); (try k_fold)))
local macro_rules | `(tactic| walk_at "call ref") => `(tactic| (k_here; (with_reducible show wpAny _ _ (call (Value.ref 60) [Value.str _ _]) _ _ _); k_dflt (refine' call_map ?k1 ?k2 ?k3 ?k4 ?k5 ?kK ?kp ?kd ?ku ?_; (case k1 => k_asm); (case k2 => k_asm); (case k3 => k_asm); (case k4 => k_asm); (case k5 => k_asm); (case kK => first | exact rfl | assumption); (case kp => assumption); (case kd => first | omega | ktr_room); (case ku => first | omega | ktr_units)); intro t9 h9 tk9 F9 N9; (try dsimp only); (try k_fold)))
theorem ne_self (x : Str) : (x != x) = false := by simp
theorem st_step {l pre : List Int} {n x lo sz : Int} (hb : (lo, sz) ∈ blocks) (h0 : 0 < sz) (h1 : l.length = pre.length) (h2 : ∀ c ∈ l, InBlocks c) :
    (l ++ [lo + Int.fmod x sz]).length = (pre ++ [n]).length ∧ ∀ c ∈ l ++ [lo + Int.fmod x sz], InBlocks c := by
  refine ⟨by simp [h1], fun c hc => ?_⟩
  rcases List.mem_append.mp hc with hc | hc
  · exact h2 c hc
  · obtain rfl := List.mem_singleton.mp hc
    exact InBlocks.of hb h0
theorem st_nil : ([] : List Int).length = ([] : List Int).length ∧ ∀ c ∈ ([] : List Int), InBlocks c := ⟨rfl, fun _ h => (nomatch h)⟩
set_option maxRecDepth 100000 in
set_option maxHeartbeats 8000000 in
theorem t1 : PySem.Challenge.rw_ki0084_01.Holds := (by
  w_top off
  k_with_none
  k_with "pyIter ref" => (k_of "number" => k_state (fun pre codes => codes.length = pre.length ∧ ∀ c ∈ codes, InBlocks c) "codes")
  k_with "pyIter ref" => (k_of "point" => k_search (fun pre => True))
  k_with "state" => first | exact trivial | exact st_nil | exact st_step (by first | assumption | decide) (by first | assumption | decide) (by assumption) (by assumption)
  w_on
  o_law
  refine holds_open (q := qR) (loose := looseR) (Xt := XtR) (XP := XL qR []) (Yf := (kHook KR asR asR_eq).obs) (Ya := (kHook KR asR asR_eq).val) (YP := (kHook KR asR asR_eq).says) (N := 30000) left_R (kHook KR asR asR_eq).of (kHook KR asR asR_eq).keeps (fun s e => xl_of s (Bool.and_eq_true_iff.mp e).1) XL.keeps (by rfl) (by rfl) (by rfl) (fun s e => recFacts_of (Bool.and_eq_true_iff.mp e).2) (by rfl) (by first | assumption | decide +kernel) (by decide +kernel) ⟨rfl, rfl, rfl, rfl, rfl, by decide +kernel⟩ ?hw ?hc
  case hw => w_witness2
  k_go0
  (all_goals try k_fold)
  k_steps
  (all_goals (try k_data))
  all_goals w_report)
end Mine
end

theorem PySem.Challenge.cw_ki0084_01_holds : PySem.Challenge.rw_ki0084_01.Holds := by
  exact Mine.t1
