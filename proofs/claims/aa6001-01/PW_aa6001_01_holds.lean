import PyProof.Rows.All
import Wide.All
import OpenK.AllK
import Wide.FinOn
import PyProof.ListStr
import PySem.Challenge.RW_aa6001_01

set_option Elab.async false
set_option rowWalk.seconds 0

/-! part HdA -/
namespace Mine
open PySem PySem.W PyProof.Rows
set_option maxRecDepth 100000 in
set_option maxHeartbeats 8000000 in
open_top hd for PySem.Challenge.rw_aa6001_01
end Mine
open PyProof.Rows PySem.W in
theorem Mine.flushHdA : True := by w_top off; first | walk1 | trivial

/-! part Bs -/
namespace Mine
open PySem PySem.W PySem.Spec PySem.Calls PyProof.Rows
set_option maxRecDepth 100000
set_option maxHeartbeats 8000000

noncomputable abbrev PG : Program := RowW.prog (OpenRow.toRowW (OpenLaw.row PySem.Challenge.rw_aa6001_01))

/-- one sign's six bits, or -1 -/
def plc (c : Int) : Int :=
  if 65 ≤ c ∧ c ≤ 90 then c - 65 else if 97 ≤ c ∧ c ≤ 122 then c - 71 else if 48 ≤ c ∧ c ≤ 57 then c + 4
  else if c = 43 then 62 else if c = 47 then 63 else -1
theorem plc_lo (c : Int) : -1 ≤ plc c := by unfold plc; repeat' split <;> omega
theorem plc_hi (c : Int) : plc c < 64 := by unfold plc; repeat' split <;> omega

theorem recLim : recursionLimit = 1000 := rfl

abbrev ALPH : String := "ABCDEFGHIJKLMNOPQRSTUVWXYZabcdefghijklmnopqrstuvwxyz0123456789+/"

theorem news_append {prog : Program} {w : World} {A : Around} {E : Value → Shared → Prop} {s : Shared} {h₀ : Heap} {L lo : Addr} {m : Str → Option Value} {vs : List Value} {n : Nat} {rest : List (Addr × Obj)} {v : Value} {Q : Value → Shared → Prop}
   (F : Fr h₀ L s.heap m) (N : News h₀ L s.heap ((lo, W.listOf vs.toArray n) :: rest)) (hr : ∀ p ∈ rest, p.1 ≠ lo) (hsz : vs.length ≤ 1000000)
   (h : ∀ h', Fr h₀ L h' m → News h₀ L h' ((lo, W.listOf (vs ++ [v]).toArray (n + 1)) :: rest) → Q .none { s with heap := h' }) :
   wpAny (model prog w) A (call (.builtin "list.append") [.ref lo, v]) Q E s := by
  refine append_K F N (Upd.head hr) (fun h' F' N' => h h' F' (by simpa using N')) ?_
  rw [List.size_toArray, sizeLine_eq]; omega

theorem apart_own {lo : Addr} {news own : List (Addr × Obj)} {l : List Addr} (h1 : ∀ p ∈ news, p.1 < lo) (h2 : OwnOff own (lo :: l)) : ∀ p ∈ news ++ own, p.1 ≠ lo := by
  intro p hp
  rcases List.mem_append.mp hp with h | h
  · exact Nat.ne_of_lt (h1 p h)
  · exact h2 p h lo (.head _)
theorem news_len {prog : Program} {w : World} {A : Around} {E : Value → Shared → Prop} {s : Shared} {h₀ : Heap} {L lo : Addr} {vs : List Value} {ns : List Int} {n : Nat} {rest : List (Addr × Obj)} {Q : Value → Shared → Prop}
   (N : News h₀ L s.heap ((lo, W.listOf vs.toArray n) :: rest)) (hi : IntsAre vs ns) (hsz : ns.length ≤ 1000000)
   (h : Q (.int (ns.length : Int) (s.toks + 1)) { s with toks := s.toks + 1 + 1 }) :
   wpAny (model prog w) A (call (.builtin "len") [.ref lo]) Q E s :=
  kst_len N (.head _) hi.length (by omega) h

section
variable {prog : Program} {w : World} {A : Around} {E : Value → Shared → Prop} {s : Shared} {x y : Int} {t u : Tok} {Q : Value → Shared → Prop}
theorem shl_2 (h0 : 0 ≤ x) (h1 : x < 64) (h : ∀ t' k, Q (.int (x * 4) t') { s with toks := k }) : wpAny (model prog w) A (binaryOp .LShift (.int x t) (.int 2 u)) Q E s :=
  lshift_int_small (by omega) (by omega) (by omega) (h _ _)
theorem shl_4 (h0 : 0 ≤ x) (h1 : x < 64) (h : ∀ t' k, Q (.int (x * 16) t') { s with toks := k }) : wpAny (model prog w) A (binaryOp .LShift (.int x t) (.int 4 u)) Q E s :=
  lshift_int_small (by omega) (by omega) (by omega) (h _ _)
theorem shl_6 (h0 : 0 ≤ x) (h1 : x < 64) (h : ∀ t' k, Q (.int (x * 64) t') { s with toks := k }) : wpAny (model prog w) A (binaryOp .LShift (.int x t) (.int 6 u)) Q E s :=
  lshift_int_small (by omega) (by omega) (by omega) (h _ _)
theorem shr_2 (h : ∀ t' k, Q (.int (x / 4) t') { s with toks := k }) : wpAny (model prog w) A (binaryOp .RShift (.int x t) (.int 2 u)) Q E s :=
  rshift_int (by omega) (by rw [show x.fdiv (2 ^ (2 : Int).toNat) = x / 4 from Int.fdiv_eq_ediv_of_nonneg x (by decide)]; exact h _ _)
theorem shr_4 (h : ∀ t' k, Q (.int (x / 16) t') { s with toks := k }) : wpAny (model prog w) A (binaryOp .RShift (.int x t) (.int 4 u)) Q E s :=
  rshift_int (by omega) (by rw [show x.fdiv (2 ^ (4 : Int).toNat) = x / 16 from Int.fdiv_eq_ediv_of_nonneg x (by decide)]; exact h _ _)
theorem shr_6 (h : ∀ t' k, Q (.int (x / 64) t') { s with toks := k }) : wpAny (model prog w) A (binaryOp .RShift (.int x t) (.int 6 u)) Q E s :=
  rshift_int (by omega) (by rw [show x.fdiv (2 ^ (6 : Int).toNat) = x / 64 from Int.fdiv_eq_ediv_of_nonneg x (by decide)]; exact h _ _)
theorem shr_12 (h : ∀ t' k, Q (.int (x / 4096) t') { s with toks := k }) : wpAny (model prog w) A (binaryOp .RShift (.int x t) (.int 12 u)) Q E s :=
  rshift_int (by omega) (by rw [show x.fdiv (2 ^ (12 : Int).toNat) = x / 4096 from Int.fdiv_eq_ediv_of_nonneg x (by decide)]; exact h _ _)
theorem shr_18 (h : ∀ t' k, Q (.int (x / 262144) t') { s with toks := k }) : wpAny (model prog w) A (binaryOp .RShift (.int x t) (.int 18 u)) Q E s :=
  rshift_int (by omega) (by rw [show x.fdiv (2 ^ (18 : Int).toNat) = x / 262144 from Int.fdiv_eq_ediv_of_nonneg x (by decide)]; exact h _ _)
theorem and_3 (h : 0 ≤ x % 4 → x % 4 < 4 → ∀ t' k, Q (.int (x % 4) t') { s with toks := k }) : wpAny (model prog w) A (binaryOp .BitAnd (.int x t) (.int 3 u)) Q E s :=
  and_int (by rw [bitAnd_m2]; exact h (by omega) (by omega) _ _)
theorem and_15 (h : 0 ≤ x % 16 → x % 16 < 16 → ∀ t' k, Q (.int (x % 16) t') { s with toks := k }) : wpAny (model prog w) A (binaryOp .BitAnd (.int x t) (.int 15 u)) Q E s :=
  and_int (by rw [bitAnd_m4]; exact h (by omega) (by omega) _ _)
theorem and_63 (h : 0 ≤ x % 64 → x % 64 < 64 → ∀ t' k, Q (.int (x % 64) t') { s with toks := k }) : wpAny (model prog w) A (binaryOp .BitAnd (.int x t) (.int 63 u)) Q E s :=
  and_int (by rw [bitAnd_m6]; exact h (by omega) (by omega) _ _)
theorem bor4N : ∀ a : Nat, a < 64 → ∀ b : Nat, b < 4 → Builtin.bitOr ((a : Int) * 4) b = (a : Int) * 4 + b := by decide +kernel
theorem bor16N : ∀ a : Nat, a < 16 → ∀ b : Nat, b < 16 → Builtin.bitOr ((a : Int) * 16) b = (a : Int) * 16 + b := by decide +kernel
theorem bor64N : ∀ a : Nat, a < 4 → ∀ b : Nat, b < 64 → Builtin.bitOr ((a : Int) * 64) b = (a : Int) * 64 + b := by decide +kernel
theorem or_4 (h0 : 0 ≤ x ∧ x < 64 ∧ 0 ≤ y ∧ y < 4) (h : ∀ t' k, Q (.int (x * 4 + y) t') { s with toks := k }) : wpAny (model prog w) A (binaryOp .BitOr (.int (x * 4) t) (.int y u)) Q E s :=
  or_int (by
    have e := bor4N x.toNat (by omega) y.toNat (by omega)
    rw [Int.toNat_of_nonneg h0.1, Int.toNat_of_nonneg h0.2.2.1] at e
    rw [e]; exact h _ _)
theorem or_16 (h0 : 0 ≤ x ∧ x < 16 ∧ 0 ≤ y ∧ y < 16) (h : ∀ t' k, Q (.int (x * 16 + y) t') { s with toks := k }) : wpAny (model prog w) A (binaryOp .BitOr (.int (x * 16) t) (.int y u)) Q E s :=
  or_int (by
    have e := bor16N x.toNat (by omega) y.toNat (by omega)
    rw [Int.toNat_of_nonneg h0.1, Int.toNat_of_nonneg h0.2.2.1] at e
    rw [e]; exact h _ _)
theorem or_64 (h0 : 0 ≤ x ∧ x < 4 ∧ 0 ≤ y ∧ y < 64) (h : ∀ t' k, Q (.int (x * 64 + y) t') { s with toks := k }) : wpAny (model prog w) A (binaryOp .BitOr (.int (x * 64) t) (.int y u)) Q E s :=
  or_int (by
    have e := bor64N x.toNat (by omega) y.toNat (by omega)
    rw [Int.toNat_of_nonneg h0.1, Int.toNat_of_nonneg h0.2.2.1] at e
    rw [e]; exact h _ _)
end
end Mine
open PyProof.Rows PySem.W in
theorem Mine.flushBs : True := by w_top off; first | walk1 | trivial

/-! part Dc -/
namespace Mine
open PySem PySem.W PySem.Spec PySem.Calls PyProof.Rows
set_option maxRecDepth 100000
set_option maxHeartbeats 8000000
theorem fill : (PySem.Challenge.rw_aa6001_01 = PySem.Challenge.rw_aa6001_01) ∧ (hd.heap_39 = hd.heap_39) := by
  k_fill
  exact ⟨rfl, rfl⟩

structure DSt where
  out : List Int
  quad : Int
  pads : Int
  left : Int

def decStep (d : DSt) (c : Int) : DSt :=
  if c = 61 then { d with pads := d.pads + 1 }
  else if plc c < 0 then d
  else { out := d.out ++ (if d.quad = 1 then [d.left * 4 + plc c / 16] else if d.quad = 2 then [d.left % 16 * 16 + plc c / 4] else if d.quad = 3 then [d.left % 4 * 64 + plc c] else []),
         quad := (d.quad + 1) % 4, pads := 0, left := plc c }
def decRun (cs : List Int) : DSt := cs.foldl decStep ⟨[], 0, 0, 0⟩

def DecI (pre out : List Int) (q p l : Int) : Prop := decRun pre = ⟨out, q, p, l⟩ ∧ out.length ≤ pre.length ∧ KBa.In out ∧ 0 ≤ p ∧ p ≤ pre.length
theorem decI_nil : DecI [] [] 0 0 0 := ⟨rfl, Nat.le_refl _, fun _ hx => (nomatch hx), Int.le_refl _, Int.le_refl _⟩

def ALPHN : List Nat := [65, 66, 67, 68, 69, 70, 71, 72, 73, 74, 75, 76, 77, 78, 79, 80, 81, 82, 83, 84, 85, 86, 87, 88, 89, 90, 97, 98, 99, 100, 101, 102, 103, 104, 105, 106, 107, 108, 109, 110, 111, 112, 113, 114, 115, 116, 117, 118, 119, 120, 121, 122, 48, 49, 50, 51, 52, 53, 54, 55, 56, 57, 43, 47]
theorem alph_is : Str.ofString ALPH = ⟨ALPHN.toArray⟩ := by decide +kernel
theorem find_hit : ∀ n ∈ ALPHN, Txt.find ⟨ALPHN.toArray⟩ ⟨#[n]⟩ = plc n := by decide +kernel
theorem plc_miss : ∀ n : Nat, n < 256 → n ∉ ALPHN → plc n = -1 := by decide +kernel
theorem find_miss {n : Nat} (h : n ∉ ALPHN) : Txt.find ⟨ALPHN.toArray⟩ ⟨#[n]⟩ = -1 := by
  have e := StrLaws.found_one ⟨ALPHN.toArray⟩ n
  rw [decide_eq_false (show n ∉ ALPHN.toArray.toList from h), Bool.not_eq_false', List.isEmpty_iff] at e
  unfold Txt.find
  rw [e]
theorem find_plcN : ∀ n : Nat, n < 256 → Txt.find (Str.ofString ALPH) ⟨#[n]⟩ = plc n := by
  intro n hn
  rw [alph_is]
  by_cases h : n ∈ ALPHN
  · exact find_hit n h
  · rw [find_miss h, plc_miss n hn h]
theorem find_plc {c : Int} (h0 : 0 ≤ c) (h1 : c < 256) : Txt.find (Str.ofString ALPH) ⟨#[c.toNat]⟩ = plc c := by
  have h := find_plcN c.toNat (by omega)
  rwa [Int.toNat_of_nonneg h0] at h
theorem my_find {prog : Program} {w : World} {A : Around} {E : Value → Shared → Prop} {s : Shared} {t u : Tok} {Q : Value → Shared → Prop} {c : Int} (h0 : 0 ≤ c) (h1 : c < 256)
   (h : -1 ≤ plc c → plc c < 64 → ∀ t' k, Q (.int (plc c) t') { s with toks := k }) :
   wpAny (model prog w) A (call (.builtin "str.find") [.str (Str.ofString ALPH) t, .str ⟨#[c.toNat]⟩ u]) Q E s :=
  KXw.find (find_plc h0 h1) (h (plc_lo c) (plc_hi c))
theorem decI_pad {pre ns : List Int} {c q p l : Int} (h : DecI pre ns q p l) (hc : c = 61) : DecI (pre ++ [c]) ns q (p+1) l := by
  obtain ⟨h1, h2, h3, h4, h5⟩ := h
  refine ⟨?_, by simp; omega, h3, by omega, by simp; omega⟩
  simp [decRun, List.foldl_append] at h1 ⊢
  rw [h1]; simp [decStep, hc]
theorem decI_skip {pre ns : List Int} {c q p l : Int} (h : DecI pre ns q p l) (h1 : ¬ c = 61) (h2 : plc c < 0) : DecI (pre ++ [c]) ns q p l := by
  obtain ⟨g1, g2, g3, g4, g5⟩ := h
  refine ⟨?_, by simp; omega, g3, by omega, by simp; omega⟩
  simp [decRun, List.foldl_append] at g1 ⊢
  rw [g1]; simp [decStep, h1, h2]
def decOut (q l n : Int) : List Int := if q = 1 then [l * 4 + n / 16] else if q = 2 then [l % 16 * 16 + n / 4] else if q = 3 then [l % 4 * 64 + n] else []
theorem decI_go {pre ns : List Int} {c q p l : Int} (h : DecI pre ns q p l) (h1 : ¬ c = 61) (h2 : ¬ plc c < 0) (hl : 0 ≤ l) (hl' : l < 64) : DecI (pre ++ [c]) (ns ++ decOut q l (plc c)) ((q + 1) % 4) 0 (plc c) := by
  obtain ⟨g1, g2, g3, g4, g5⟩ := h
  have hn := plc_hi c
  refine ⟨?_, ?_, ?_, by omega, by simp; omega⟩
  · simp [decRun, List.foldl_append] at g1 ⊢
    rw [g1]; simp [decStep, h1, h2, decOut]
  · simp only [List.length_append, decOut, List.length_cons, List.length_nil]; repeat' split
    all_goals simp <;> omega
  · intro x hx
    rcases List.mem_append.mp hx with h | h
    · exact g3 x h
    · unfold decOut at h
      (repeat' split at h) <;> first | (simp at h; done) | (simp at h; subst h; omega)

theorem dec_fm (q : Int) : Int.fmod (q + 1) 4 = (q + 1) % 4 := Int.fmod_eq_emod_of_nonneg _ (by decide)
theorem dec_q0 {pre ns : List Int} {c q p l : Int} (h : DecI pre ns q p l) (h1 : c ≠ 61) (h2 : ¬ plc c < 0) (hl : 0 ≤ l) (hl' : l < 64) (hq : q = 0) : DecI (pre ++ [c]) ns ((q + 1) % 4) 0 (plc c) := by
  have := decI_go h h1 h2 hl hl'
  simpa [decOut, hq] using this
theorem dec_q1 {pre ns : List Int} {c q p l : Int} (h : DecI pre ns q p l) (h1 : c ≠ 61) (h2 : ¬ plc c < 0) (hl : 0 ≤ l) (hl' : l < 64) (hq : q = 1) : DecI (pre ++ [c]) (ns ++ [l * 4 + plc c / 16]) ((q + 1) % 4) 0 (plc c) := by
  have := decI_go h h1 h2 hl hl'
  simpa [decOut, hq] using this
theorem dec_q2 {pre ns : List Int} {c q p l : Int} (h : DecI pre ns q p l) (h1 : c ≠ 61) (h2 : ¬ plc c < 0) (hl : 0 ≤ l) (hl' : l < 64) (hq : q = 2) : DecI (pre ++ [c]) (ns ++ [l % 16 * 16 + plc c / 4]) ((q + 1) % 4) 0 (plc c) := by
  have := decI_go h h1 h2 hl hl'
  simpa [decOut, hq] using this
theorem dec_q3 {pre ns : List Int} {c q p l : Int} (h : DecI pre ns q p l) (h1 : c ≠ 61) (h2 : ¬ plc c < 0) (hl : 0 ≤ l) (hl' : l < 64) (hq : q = 3) : DecI (pre ++ [c]) (ns ++ [l % 4 * 64 + plc c]) ((q + 1) % 4) 0 (plc c) := by
  have := decI_go h h1 h2 hl hl'
  simpa [decOut, hq] using this
abbrev DT := List Value × List Int × Nat × Int × Int × Int × Tok × Tok × Tok
abbrev decLed (lo : Addr) (news : List (Addr × Obj)) (c : DT) : List (Addr × Obj) := (lo, W.listOf c.1.toArray c.2.2.1) :: news
abbrev decPs (lo : Addr) (c : DT) : List (Str × Value) := [(Str.ofString "out", .ref lo), (Str.ofString "quad", .int c.2.2.2.1 c.2.2.2.2.2.2.1), (Str.ofString "pads", .int c.2.2.2.2.1 c.2.2.2.2.2.2.2.1), (Str.ofString "left", .int c.2.2.2.2.2.1 c.2.2.2.2.2.2.2.2)]
abbrev decFa (c : DT) : Prop := IntsAre c.1 c.2.1
abbrev decP (pre : List Int) (c : DT) : Prop := DecI pre c.2.1 c.2.2.2.1 c.2.2.2.2.1 c.2.2.2.2.2.1 ∧ 0 ≤ c.2.2.2.1 ∧ c.2.2.2.1 < 4 ∧ 0 ≤ c.2.2.2.2.2.1 ∧ c.2.2.2.2.2.1 < 64

theorem dec_end {x : Str} {stored : List Str} {m₀ : Str → Option Value} {pre : List Int} {lo : Addr} {news : List (Addr × Obj)} {L : Addr} {h₀ h' : Heap} {m' : Str → Option Value} {own : List (Addr × Obj)} {s₁ : Shared} {tk : Nat}
   {vs : List Value} {ns : List Int} {n : Nat} {q p l : Int} {tq tp tl : Tok}
   (F : Fr h₀ L h' m') (N : News h₀ L h' ((lo, W.listOf vs.toArray n) :: (news ++ own)))
   (hk : ∀ z ∈ [(Str.ofString "out", Value.ref lo), (Str.ofString "quad", .int q tq), (Str.ofString "pads", .int p tp), (Str.ofString "left", .int l tl)], m' z.1 = some z.2)
   (hi : IntsAre vs ns) (hr : ∀ z, z ≠ x → (∀ b ∈ [(Str.ofString "out", Value.ref lo), (Str.ofString "quad", .int q tq), (Str.ofString "pads", .int p tp), (Str.ofString "left", .int l tl)], z ≠ b.1) → stored.contains z = false → m' z = m₀ z)
   (hp : DecI pre ns q p l ∧ 0 ≤ q ∧ q < 4 ∧ 0 ≤ l ∧ l < 64) :
   InvEndN h₀ L (KstS (decLed lo news) (decPs lo) decFa x stored m₀ decP pre) own (lo :: news.map (·.1)) s₁ { s₁ with heap := h', toks := tk } :=
  kst_end (vs, ns, n, q, p, l, tq, tp, tl) F N (fun a ha => by
    rcases List.mem_cons.mp ha with rfl | ha
    · exact .head _
    · exact .tail _ (List.mem_append_left _ ha)) (fun a ha => .tail _ (List.mem_append_right _ ha)) rfl hi hk hr hp

theorem dec_iter {prog : Program} {w : World} {A : Around} {E : Value → Shared → Prop} {s : Shared} {env : Env} {h₀ : Heap} {x : Str} {body : List Stmt} {Q : Flow → Shared → Prop}
   {b : Array UInt8} {ks : List Int} {tb tq tp tl : Tok} {lo : Addr} {news : List (Addr × Obj)} {m₀ : Str → Option Value}
   (hks : KBw.bInts b = ks) (hh : A.handled = none) (F : Fr h₀ env.locals s.heap m₀) (N : News h₀ env.locals s.heap ((lo, W.listOf [].toArray 0) :: news)) (hlo : ∀ p ∈ news, p.1 < lo)
   (hk : ∀ p ∈ [(Str.ofString "out", Value.ref lo), (Str.ofString "quad", .int 0 tq), (Str.ofString "pads", .int 0 tp), (Str.ofString "left", .int 0 tl)], m₀ p.1 = some p.2)
   (turn : ∀ (vs : List Value) (ns : List Int) (n : Nat) (q p l : Int) (tq tp tl : Tok) (pre : List Int) (c : Int) t (u : Str → Option Value) h tk own, pre.length < ks.length → 0 ≤ c → c < 256 → (∀ p ∈ news ++ own, p.1 ≠ lo) → IntsAre vs ns → vs.length ≤ pre.length →
      DecI pre ns q p l → 0 ≤ q → q < 4 → 0 ≤ l → l < 64 →
      Fr h₀ env.locals h (fun y => if y = x then some (.int c t) else kstB (fun z => if [Str.ofString "n"].contains z then u z else m₀ z) [(Str.ofString "out", .ref lo), (Str.ofString "quad", .int q tq), (Str.ofString "pads", .int p tp), (Str.ofString "left", .int l tl)] y) →
      News h₀ env.locals h ((lo, W.listOf vs.toArray n) :: (news ++ own)) →
      wpAny (model prog w) A (execs body env) (InvPostN h₀ env.locals (KstS (decLed lo news) (decPs lo) decFa x [Str.ofString "n"] m₀ decP (pre ++ [c])) own (lo :: news.map (·.1)) { s with heap := h, toks := tk } Q) E { s with heap := h, toks := tk })
   (done : ∀ (vs : List Value) (ns : List Int) (n : Nat) (q p l : Int) (tq tp tl : Tok) (u : Str → Option Value) h tk, IntsAre vs ns → DecI ks ns q p l → 0 ≤ q → q < 4 → 0 ≤ l → l < 64 →
      Fr h₀ env.locals h (fun y => if y = x then u y else kstB (fun z => if [Str.ofString "n"].contains z then u z else m₀ z) [(Str.ofString "out", .ref lo), (Str.ofString "quad", .int q tq), (Str.ofString "pads", .int p tp), (Str.ofString "left", .int l tl)] y) →
      News h₀ env.locals h ((lo, W.listOf vs.toArray n) :: news) → Q .next { s with heap := h, toks := tk }) :
   wpAny (model prog w) A (pyIter (.bytes b tb)) (fun it s₂ => LoopAtV prog w A h₀ env x body Q E it s₂) E s := by
  refine KStb.kst_bytes (σ := DT) (decLed lo news) (decPs lo) decFa [Str.ofString "n"] decP ([], [], 0, 0, 0, 0, tq, tp, tl) hks rfl hh F N IntsAre.nil hk ⟨decI_nil, by dsimp only; omega, by dsimp only; omega, by dsimp only; omega, by dsimp only; omega⟩ ?turn ?done
  case turn =>
    rintro ⟨vs, ns, n, q, p, l, tq, tp, tl⟩ pre post c t u h tk own e1 e2 e3 e4 e5 e6 ⟨e7, e8, e9, e10, e11⟩ F2 N2
    exact turn vs ns n q p l tq tp tl pre c t u h tk own e2 e3 e4 (apart_own hlo e5) e6 (by have := e6.length; have := e7.2.1; dsimp only at *; omega) e7 e8 e9 e10 e11 F2 N2
  case done =>
    rintro ⟨vs, ns, n, q, p, l, tq, tp, tl⟩ u h tk e1 e6 ⟨e7, e8, e9, e10, e11⟩ F2 N2
    exact done vs ns n q p l tq tp tl u h tk e6 e7 e8 e9 e10 e11 F2 N2

local macro_rules | `(tactic| k_room) => `(tactic| ((simp only [depth_under_make, depth_under_kw, depth_in1, depth_deeper, depth_caller, ktrTop, recLim] at *); omega))
local macro_rules | `(tactic| k_units) => `(tactic| ((have hcL9 := cLine_is); (simp only [units_in1, units_deeper, Around.mark_units, units_caller, ktrTop] at *); omega))
local macro_rules | `(tactic| walk_at "call builtin:str.find") => `(tactic| (k_here; (with_reducible show wpAny _ _ (call (Value.builtin "str.find") [Value.str _ _, Value.str _ _]) _ _ _); (refine my_find (by assumption) (by assumption) ?_); intro hp1 hp2 _ _))
local macro_rules | `(tactic| walk_at "call builtin:list.append") => `(tactic| (k_here; (refine news_append (by assumption) (by assumption) (by assumption) (by omega) ?_); intro h' F' N'))

local macro_rules | `(tactic| walk_at "call builtin:len") => `(tactic| (k_here; (refine news_len (by assumption) (by assumption) (by omega) ?_)))
local macro_rules | `(tactic| walk_at "binaryOp LShift int int") => `(tactic| (k_here; first | (with_reducible refine shl_2 ?_ ?_ ?_) | (with_reducible refine shl_4 ?_ ?_ ?_) | (with_reducible refine shl_6 ?_ ?_ ?_)); (omega); (omega); intro _ _)
local macro_rules | `(tactic| walk_at "binaryOp RShift int int") => `(tactic| (k_here; first | (with_reducible refine shr_2 ?_) | (with_reducible refine shr_4 ?_) | (with_reducible refine shr_6 ?_) | (with_reducible refine shr_12 ?_) | (with_reducible refine shr_18 ?_)); intro _ _)
local macro_rules | `(tactic| walk_at "binaryOp BitAnd int int") => `(tactic| (k_here; first | (with_reducible refine and_3 ?_) | (with_reducible refine and_15 ?_) | (with_reducible refine and_63 ?_)); intro _ _ _ _)
local macro_rules | `(tactic| walk_at "binaryOp BitOr int int") => `(tactic| (k_here; first | (with_reducible refine or_4 ?_ ?_) | (with_reducible refine or_16 ?_ ?_) | (with_reducible refine or_64 ?_ ?_)); (omega); intro _ _)
theorem ints_snoc {vs : List Value} {ns : List Int} (h : IntsAre vs ns) (x : Int) (t : Tok) : IntsAre (vs ++ [.int x t]) (ns ++ [x]) := by
  induction h with
  | nil => exact .cons x t .nil
  | cons n t _ ih => exact .cons n t ih
theorem news_bytes {prog : Program} {w : World} {A : Around} {E : Value → Shared → Prop} {s : Shared} {h₀ : Heap} {L lo : Addr} {m : Str → Option Value} {vs : List Value} {ns : List Int} {n : Nat} {rest : List (Addr × Obj)} {Q : Value → Shared → Prop}
   (F : Fr h₀ L s.heap m) (N : News h₀ L s.heap ((lo, W.listOf vs.toArray n) :: rest)) (hh : A.handled = none) (hi : IntsAre vs ns) (hr : KBa.In ns) (hsz : ns.length ≤ 1000000)
   (h : ∀ h' t' k, Fr h₀ L h' m → News h₀ L h' ((lo, W.listOf vs.toArray n) :: rest) → Q (.bytes (byteArr ns) t') { s with heap := h', toks := k }) :
   wpAny (model prog w) A (call (.type "bytes") [.ref lo]) Q E s :=
  KBa.make_K F N hh ⟨_, (N _ (.head _)).1, rfl, n, rfl⟩ hi hr (by omega) (fun h' t' k F' N' _ => h h' t' k F' N')

def decBad (ks : List Int) : Bool := decide ((decRun ks).quad = 1) || (decide ((decRun ks).quad ≠ 0) && decide ((decRun ks).quad + (decRun ks).pads < 4))
theorem decBad_1 {ks ns : List Int} {q p l : Int} (h : DecI ks ns q p l) (hq : q = 1) : decBad ks = true := by
  simp [decBad, h.1, hq]
theorem decBad_2 {ks ns : List Int} {q p l : Int} (h : DecI ks ns q p l) (hq : q ≠ 0) (hp : q + p < 4) : decBad ks = true := by
  simp [decBad, h.1, hq, hp]
theorem decBad_no {ks ns : List Int} {q p l : Int} (h : DecI ks ns q p l) (hq : q ≠ 1) (hp : q = 0 ∨ ¬ q + p < 4) : decBad ks = false := by
  simp only [decBad, h.1]
  rcases hp with h | h <;> simp [h, hq]

abbrev DecRaise (base h₀ : Heap) (L : Addr) (m : Str → Option Value) (news : List (Addr × Obj)) (l : List Env) (s : Shared) (E : Value → Shared → Prop) : Prop :=
  ∀ (g : Heap) (e t : Addr) (vs : List Value) (nx : List (Addr × Obj)) (h' : Heap) (k : Nat), (∀ p ∈ news, p ∈ nx) → Fr h₀ L g m → RaisedS base g l e (.type "ValueError") t vs nx h' → RaisedK base l e (.type "ValueError") t vs nx h' → g.UpToSlots h' → E (.ref e) { s with heap := h', toks := k }

local macro_rules | `(tactic| walk_at "leaving ref") => `(tactic| (k_here; (refine' leave_raiseS ?k1 ?k0 ?k2 ?k3 ?_; (case k0 => first | assumption | exact Heap.MadeExc.of (by assumption)); (case k2 => assumption); (case k1 => assumption); (case k3 => k_asm); k_whole; intro h' t' S' R' U'; (try dsimp only at S' R' U' ⊢))))
local macro_rules | `(tactic| walk_at "call type:bytes") => `(tactic| (k_here; (refine news_bytes (by assumption) (by assumption) rfl (by assumption) (by assumption) (by omega) ?_); intro h' t' tk' F' N'))
local macro_rules | `(tactic| walk_at "InvEndN") => `(tactic| first
  | (refine dec_end (by assumption) (by assumption) (by kst_all) (by assumption) (by kst_same) ?_; first
     | exact ⟨decI_pad (by assumption) (by assumption), by omega, by omega, by omega, by omega⟩
     | exact ⟨decI_skip (by assumption) (by assumption) (by assumption), by omega, by omega, by omega, by omega⟩
     | (rw [dec_fm]; refine ⟨dec_q0 (by assumption) (by assumption) (by assumption) (by assumption) (by assumption) (by omega), by omega, by omega, by omega, by omega⟩))
  | (refine dec_end (by assumption) (by assumption) (by kst_all) (ints_snoc (by assumption) _ _) (by kst_same) ?_; rw [dec_fm]; first
     | exact ⟨dec_q1 (by assumption) (by assumption) (by assumption) (by assumption) (by assumption) (by omega), by omega, by omega, by omega, by omega⟩
     | exact ⟨dec_q2 (by assumption) (by assumption) (by assumption) (by assumption) (by assumption) (by omega), by omega, by omega, by omega, by omega⟩
     | exact ⟨dec_q3 (by assumption) (by assumption) (by assumption) (by assumption) (by assumption) (by omega), by omega, by omega, by omega, by omega⟩))

theorem dec_ct {w : World} {mean : ExcName → Option Value} {mg mb : Str → Option Value}
  {b : Array UInt8} {tb : Tok} {ks : List Int} (hks : KBw.bInts b = ks) (hl : ks.length ≤ 1000)
  {dp un : Nat} {gd : Option (List Code)} {cn : Str} {cs : Scope} {a : Addr} {ccd : Value} {cl : List (Str × Addr)} {outer : List Env} {A₀ : Around} {base h₀ : Heap} {L : Addr} {m : Str → Option Value} {news : List (Addr × Obj)} {s : Shared} {Q E : Value → Shared → Prop}
  (B : Below A₀ base outer h₀) (F : Fr h₀ L s.heap m) (X : (hd.heap_39 w.params).In h₀) (N : News h₀ L s.heap news) (T : Top hd.view_39 (looseW hd.view_39 []) mean mg mb h₀) (hk : cs.kind = .function)
  (hdp : dp ≤ 310)
  (hret : decBad ks = false → KBa.In (decRun ks).out → ∀ (t : Tok) (h' : Heap) (tk' : Nat), Fr h₀ L h' m → News h₀ L h' news → Q (.bytes (byteArr (decRun ks).out) t) { s with heap := h', toks := tk' })
  (hrai : decBad ks = true → DecRaise base h₀ L m news (envX cn cs L a ccd cl :: outer) s E) :
  wpAny (model PG w) (ktrTop dp un gd cn cs L a ccd cl outer) (call (.ref 28) [.bytes b tb]) Q E s := by
  refine wpAny_call ?_
  k_dflt cell_enter
  k_steps
  rename Fr _ _ _ _ => lF'
  rename News _ _ _ _ => N'
  refine dec_iter hks rfl (by assumption) (by assumption) (by assumption) (by kst_all) ?turn ?done
  case turn =>
    intro vs ns n q p l tq tp tl pre c t u h tk own e2 e3 e4 e5 e6 e62 e7 e8 e9 e10 e11 F2 N2
    simp only [kstB] at F2
    k_steps
  case done =>
    intro vs ns n q p l tq tp tl u h tk e6 e7 e8 e9 e10 e11 F2 N2
    simp only [kstB] at F2
    have e12 := e7.2.1
    have e13 := e7.2.2.1
    have e14 : (decRun ks).out = ns := by rw [e7.1]
    rw [e14] at hret
    clear lF' N' e14
    k_steps
    all_goals first
     | exact hrai (decBad_1 e7 (by assumption)) _ _ _ _ _ _ _ (fun _ hp => .tail _ hp) (by assumption) (by assumption) (by assumption) (by assumption)
     | exact hrai (decBad_2 e7 (by assumption) (by assumption)) _ _ _ _ _ _ _ (fun _ hp => .tail _ hp) (by assumption) (by assumption) (by assumption) (by assumption)
     | exact hret (decBad_no e7 (by assumption) (Or.inl (by assumption))) e13 _ _ _ (by assumption) (cb_drop (by assumption) (fun _ hp => .tail _ hp))
     | exact hret (decBad_no e7 (by assumption) (Or.inr (by assumption))) e13 _ _ _ (by assumption) (cb_drop (by assumption) (fun _ hp => .tail _ hp))
end Mine
open PyProof.Rows PySem.W in
theorem Mine.flushDc : True := by w_top off; first | walk1 | trivial

/-! part Rf -/
namespace Mine
open PySem PySem.W PySem.Spec PySem.Calls PyProof.Rows
set_option maxRecDepth 100000
set_option maxHeartbeats 8000000
theorem fill2 : (PySem.Challenge.rw_aa6001_01 = PySem.Challenge.rw_aa6001_01) ∧ (hd.heap_39 = hd.heap_39) := by
  k_fill
  exact ⟨rfl, rfl⟩

section
variable {prog : Program} {w : World} {A A₀ : Around} {s : Shared} {base h₀ : Heap} {L : Addr} {m mg mb : Str → Option Value} {env : Env} {news : List (Addr × Obj)} {K : Frag} {p : Program} {loose : List Str} {mean : ExcName → Option Value}
  {R : Result → Shared → Prop} {name qual : Str} {params : Arguments} {body : List Stmt} {scope : Scope} {dV kV doc pm cdv ct oc : Value} {an od : Option Addr} {osl : Array (Option Value)} {f : Addr} {args : Args} {binds : List (Str × Value)}
/-- a def with a try of its own, called from the first frame (which may hold cells) -/
theorem enter_try (B : Below A₀ base [] h₀) (F : Fr h₀ L s.heap m) (X₀ : K.In h₀) (N : News h₀ L s.heap news) (T : Top p loose mean mg mb h₀) (hA : A.frames = some [env]) (hf : env.frame = some L) (hke : env.scope.kind = .function)
    (ho : K.lookup f = some ⟨oc, od, .func (fnOf name qual params body scope dV kV doc pm an cdv ct), osl⟩) (hcd : codeIn K cdv qual = true) (hroom : A.depth < recursionLimit)
    (hbind : BindsTo s (fnOf name qual params body scope dV kV doc pm an cdv ct) args binds) (hloc : ∀ y ∈ binds, scope.names.lookup y.1 = some .local)
    (h : ∀ g L' h₁, Fr h₀ L g m → Fr g L' h₁ (fun y => binds.reverse.lookup y) → News g L' h₁ news → Below A base [env] g → K.In g → Top p loose mean mg mb g → KtsDicts ([env].filterMap (·.frame)) g →
      wpAny (model prog w) (A.deeper (envOf qual scope L' f cdv)) (execs body (envOf qual scope L' f cdv))
        (fun fl s' => LeaveS0 ([env].filterMap (·.frame)) h₀ L m g R (match fl with | .ret v => v | _ => .none) s')
        (fun e s' => wpAny (model prog w) (A.deeper (envOf qual scope L' f cdv)) (leaving (envOf qual scope L' f cdv) e) (fun _ s'' => R (.error e) s'') (fun e' s'' => R (.error e') s'') s')
        { s with heap := h₁, toks := s.toks + binds.length })
    (hcell : ∀ x ∈ scope.names, x.2 ≠ .cell) (hco : scope.isCoroutine = false) (hgen : scope.isGenerator = false) (hk : scope.kind = .function) : codeAny (model prog w) A (.call (.ref f) args) R s := by
  obtain ⟨FG, BG, st, _⟩ := groundX (R := R) B F N hA hf hke
  have X := X₀.keeps F.keep
  refine codeAny_call_def (fd := fnOf name qual params body scope dV kV doc pm an cdv ct) (body := body) (binds := binds) hroom (X _ _ ho) rfl (T.nolimit.keeps F.keep) (codeRec_of X hcd) rfl hbind hcell hloc (fun h₁ hns hk₁ => ?_) hco hgen hk
  have mem : ∀ b, b ∈ [env].filterMap (·.frame) → b = L := fun b hb => by
    obtain ⟨e, he, hb⟩ := List.mem_filterMap.mp hb
    rw [List.mem_singleton.mp he, hf] at hb
    exact (Option.some.inj hb).symm
  obtain ⟨oL, es, ep, hLg, hLd, hN, hNf⟩ := FG.ns
  refine wpAny_mono (h _ s.heap.objs.size h₁ ⟨⟨oL, es, ep, hLg, hLd, hN, hNf⟩, st, F.above⟩ ⟨hns, fun b o e => hk₁ b o (of_hideAll _ e), Nat.le_of_eq (hideAll_size _ _)⟩
    (fun p hp => ⟨hk₁ _ _ (N p hp).1, Nat.ne_of_lt (Heap.lt_size (N p hp).1), hideAll_none _ (List.mem_map_of_mem hp)⟩) BG (X₀.keeps st) (T.keeps st) (fun b hb => by
      rw [mem b hb]; exact ⟨oL, es, ep, hLg, hLd⟩)) (fun fl s' hl => ?_) fun _ _ y => y
  obtain ⟨g', L', m', news', T', F', N', k⟩ := hl
  have nL₀ : h₀.get? L = none := kts_self F
  obtain ⟨sl, hs⟩ := T'.up hLg
  refine k ⟨⟨_, es, ep, F'.keep _ _ hs, hLd, hN, hNf⟩, fun b o e => F'.keep b o (T'.other b o (st b o e) (fun q => ?_)), F.above⟩ fun p hp => ⟨(N' p hp).1, fun q => ?_, ?_⟩
  · rw [mem b q, nL₀] at e; cases e
  · have := (N' p hp).2.2; rw [q, hs] at this; cases this
  · cases q : h₀.get? p.1 with
    | none => rfl
    | some o =>
      obtain ⟨sl', hs'⟩ := T'.up (st _ _ q)
      have := (N' p hp).2.2
      rw [hs'] at this
      cases this
end

local macro_rules | `(tactic| k_room) => `(tactic| ((simp only [depth_under_make, depth_under_kw, depth_in1, depth_deeper, depth_caller, ktrTop, recLim] at *); omega))
local macro_rules | `(tactic| k_units) => `(tactic| ((have hcL9 := cLine_is); (simp only [units_in1, units_deeper, Around.mark_units, units_caller, ktrTop] at *); omega))
local macro_rules | `(tactic| walk_at "call ref") => `(tactic| (k_here; k_dflt (refine' dec_ct ?hks ?hl ?k1 ?k2 ?k3 ?k4 ?k5 ?kK ?kd ?kR ?kE; (case hks => assumption); (case hl => assumption); (case k1 => k_asm); (case k2 => k_asm); (case k3 => k_asm); (case k4 => k_asm); (case k5 => k_asm); (case kK => exact rfl); (case kd => dsimp only; omega)); all_goals (intros; try k_fold)))

theorem ref_ct {w : World} {mean : ExcName → Option Value} {mg mb : Str → Option Value}
  {b : Array UInt8} {tb : Tok} {ks : List Int} (hks : KBw.bInts b = ks) (hl : ks.length ≤ 1000)
  {dp un : Nat} {gd : Option (List Code)} {cn : Str} {cs : Scope} {a : Addr} {ccd : Value} {cl : List (Str × Addr)} {A₀ : Around} {h₀ : Heap} {L : Addr} {m : Str → Option Value} {news : List (Addr × Obj)} {s : Shared} {Q E : Value → Shared → Prop}
  (B : Below A₀ h₀ [] h₀) (F : Fr h₀ L s.heap m) (X : (hd.heap_39 w.params).In h₀) (N : News h₀ L s.heap news) (T : Top hd.view_39 (looseW hd.view_39 []) mean mg mb h₀) (hk : cs.kind = .function)
  (hdp : dp ≤ 305)
  (hret : ∀ (h' : Heap) (tk' : Nat), Fr h₀ L h' m → News h₀ L h' news → Q (.bool (decBad ks)) { s with heap := h', toks := tk' }) :
  wpAny (model PG w) (ktrTop dp un gd cn cs L a ccd cl []) (call (.ref 71) [.bytes b tb]) Q E s := by
  refine wpAny_call ?_
  k_dflt (refine' enter_try ?k1 ?k2 ?k3 ?k4 ?k5 ?kA ?kF ?kK ?k6 ?k7 ?k8 ?k9 ?kB ?_ ?c5 ?c2 ?c3 ?c4; (case kA => exact rfl); (case kF => exact rfl); (case kK => assumption); (case k1 => k_asm); (case k2 => k_asm); (case k3 => k_asm); (case k4 => k_asm); (case k5 => k_asm); (case k6 => k_is); (case k7 => k_is); (case k8 => k_room); (case k9 => exact BindsTo.of_eq rfl); (case c5 => decide); (case kB => exact locs rfl); (case c2 => exact rfl); (case c3 => exact rfl); (case c4 => exact rfl); k_whole; intro g' L' h' FG' F' N' B' X' T' D'; (try dsimp only); (try k_fold))
  k_steps
  all_goals first
    | (rename decBad ks = false => hb; rw [hb] at hret; exact hret _ _ (by assumption) (by assumption))
    | (rename decBad ks = true => hb; rw [hb] at hret; exact hret _ _ (by assumption) (cb_drop (by assumption) (by assumption)))
end Mine
open PyProof.Rows PySem.W in
theorem Mine.flushRf : True := by w_top off; first | walk1 | trivial

/-! part Lb -/
namespace Mine
open PySem PySem.W PySem.Spec PySem.Calls PyProof.Rows
set_option maxRecDepth 100000
set_option maxHeartbeats 8000000

abbrev ByteAt (b : Array UInt8) (i : Nat) (v : Value) : Prop := ∃ c u, b[i]? = some c ∧ v = .int (c.toNat : Int) u

section
variable {prog : Program} {w : World} {A : Around} {E : Value → Shared → Prop} {s : Shared}
theorem bytes_has_len : typeLookup (.type "bytes") "__len__" = pure (some (.builtin "bytes.__len__")) := by rw [typeLookup_type, builtinLookup_eq_fast]; kernel_rfl

theorem extend_bytes {R : Result → Shared → Prop} (hh : A.handled = none) (b : Array UInt8) (t : Tok) (S : Addr) (res : Value) (c₀ : Nat) (hS : s.heap.get? S = some { cls := .type "list", data := .seq #[] c₀ })
    (hR : ∀ h' tk acc' c', (∀ a o, a ≠ S → s.heap.get? a = some o → h'.get? a = some o) → h'.get? S = some { cls := .type "list", dict := none, data := .seq acc' c', slots := #[] } →
      ItemsOf (ByteAt b) acc' b.size → R (.ok (.ret res)) { s with heap := h', toks := tk }) (hn : b.size ≤ sizeLine) :
    wpAny (model prog w) A.in1 (Builtin.List.listExtendWith (.ref S) (.bytes b t) res)
      (fun fin s' => match fin with | .done f => R (.ok f) s' | .again c' => c'.quiet = true ∧ codeAny (model prog w) A c' R s') (fun e s' => R (.error e) s') s := by
  have hSI : S ≠ s.heap.objs.size := Nat.ne_of_lt (Heap.lt_size hS)
  have hSf : S ∉ [s.heap.objs.size] := fun hm => hSI (List.mem_singleton.mp hm)
  unfold Builtin.List.listExtendWith
  refine wpAny_bind (wpAny_typeOf (T := "bytes") (v := .bytes b t) rfl ?_)
  have h1 : Builtin.List.listSameRef (.ref S) (.bytes b t) = false := rfl
  have h2 : (Value.type "bytes" == Value.type "list") = false := by decide
  have h3 : (Value.type "bytes" == Value.type "tuple") = false := by decide
  simp only [h1, h2, h3, Bool.or_false, Bool.false_eq_true, if_false]
  refine wpAny_bind (KBw.pyIter_bytes ?_)
  refine wpAny_bind (wpAny_holding ?_)
  unfold Builtin.List.listLengthHint
  refine wpAny_bind (wpAny_specialOf (T := "bytes") (v := .bytes b t) rfl bytes_has_len ?_)
  wp_delta
  refine wpAny_bind (wpAny_isInstance (T := "bytes") (v := .bytes b t) (b := true) rfl (by rw [isSubtype_type]; kernel_rfl) ?_)
  show wpAny _ _ (typeOf (Value.bytes b t) >>= _) _ _ _
  refine wpAny_bind (wpAny_typeOf (T := "bytes") (v := .bytes b t) rfl ?_)
  refine wpAny_pure ?_
  rw [if_neg (by decide)]
  have W := KBw.walks (prog := prog) (w := w) (A := A.in1) hh s.heap.objs.size b t
  refine wpAny_pure ⟨plainId_quiet F.plain_extend_loop _, codeAny_extend_loopS W.toS hn _ hSf _ b.size 0 _ _ _ rfl (Nat.zero_le _) ⟨_, Heap.get?_push_size _ rfl, rfl, rfl⟩ (Heap.get?_push_of_some _ hS) (ItemsOf.nil _) fun s' acc' c' hm hS' hacc => ?_⟩
  rw [Moved.eq_with hm]
  refine hR s'.heap s'.toks acc' c' (fun a ob hb e => hm.heap a ob (fun hmem => ?_) (Heap.get?_push_of_some _ e)) hS' hacc
  rcases List.mem_cons.mp hmem with e' | hmem
  · exact hb e'
  · exact absurd (Heap.lt_size e) (by rw [List.mem_singleton.mp hmem]; exact Nat.lt_irrefl _)

theorem list_of_bytes {Q : Value → Shared → Prop} (hh : A.handled = none) (b : Array UInt8) (t : Tok)
    (hQ : ∀ h' tk acc' c', (∀ a o, s.heap.get? a = some o → h'.get? a = some o) →
      h'.get? s.heap.objs.size = some { cls := .type "list", dict := none, data := .seq acc' c', slots := #[] } → ItemsOf (ByteAt b) acc' b.size → Q (.ref s.heap.objs.size) { s with heap := h', toks := tk }) (hn : b.size ≤ sizeLine) :
    wpAny (model prog w) A (call (.type "list") [.bytes b t]) Q E s := by
  refine callType_codes (Q₁ := fun obj s₁ => obj = .ref s.heap.objs.size ∧ s₁ = { s with heap := s.heap.push { cls := .type "list", data := .seq #[] } }) F.called_list (F.typeCall_list_1 _) F.entry_list_init
    (code_list_new _ ⟨rfl, rfl⟩) fun obj s₁ h₁ => ?_
  obtain ⟨rfl, rfl⟩ := h₁
  have hS : (s.heap.push { cls := .type "list", data := .seq #[] }).get? s.heap.objs.size = some { cls := .type "list", data := .seq #[] } := Heap.get?_push_size _ rfl
  refine ⟨⟨_, hS, rfl⟩, F.args_list_init_2 _ _, ?_⟩
  show wpAny _ _ (do let old ← Builtin.List.listItems (.ref s.heap.objs.size); Builtin.List.listUpdate (.ref s.heap.objs.size) (fun _ => #[]); letGo old.toList.reverse; Builtin.List.listExtendWith (.ref s.heap.objs.size) (.bytes b t) .none) _ _ _
  refine wpAny_bind ?_
  unfold Builtin.List.listItems
  refine wpAny_bind (wpAny_seqItems hS rfl (wpAny_pure ?_))
  show wpAny _ _ (updateSeq s.heap.objs.size (fun _ => #[]) >>= fun _ => letGo (#[] : Array Value).toList.reverse >>= fun _ => Builtin.List.listExtendWith (.ref s.heap.objs.size) (.bytes b t) .none) _ _ _
  refine wpAny_bind (wpAny_updateSeq hS rfl ?_)
  have hS₂ := Heap.get?_update_self (Obj.mapSeq (fun _ => (#[] : Array Value))) hS rfl
  have oth : ∀ a o, a ≠ s.heap.objs.size → (s.heap.push { cls := .type "list", data := .seq #[] }).get? a = some o → ((s.heap.push { cls := .type "list", data := .seq #[] }).update s.heap.objs.size (Obj.mapSeq (fun _ => (#[] : Array Value)))).get? a = some o :=
    fun a o hb e => (Heap.get?_update_other _ _ (Ne.symm hb)).trans e
  refine wpAny_bind (wpAny_letGo ?_)
  refine extend_bytes (A := A.in1) hh b t _ .none _ hS₂ (fun h' tk acc' c' hk hS' hacc => ?_) hn
  exact ⟨rfl, hQ h' tk acc' c' (fun a o e => hk a o (Nat.ne_of_lt (Heap.lt_size e)) (oth a o (Nat.ne_of_lt (Heap.lt_size e)) (Heap.get?_push_of_some _ e))) hS' hacc⟩
end

theorem ints_of_items {b : Array UInt8} {acc : Array Value} (h : ItemsOf (ByteAt b) acc b.size) : IntsAre acc.toList (KBw.bInts b) := by
  obtain ⟨h1, h2⟩ := h
  have key : ∀ (l : List Value) (ks : List Int), l.length = ks.length → (∀ (i : Nat) (v : Value), l[i]? = some v → ∃ (k : Int) (u : Tok), ks[i]? = some k ∧ v = Value.int k u) → IntsAre l ks := by
    intro l
    induction l with
    | nil => intro ks h _; cases ks with | nil => exact .nil | cons => cases h
    | cons v l ih =>
      intro ks h hi
      cases ks with
      | nil => cases h
      | cons k ks =>
        obtain ⟨k', u, hk, rfl⟩ := hi 0 v rfl
        cases hk
        exact .cons _ _ (ih ks (by simpa using h) fun i v hv => hi (i + 1) v (by simpa using hv))
  refine key _ _ (by rw [KBw.ints_length]; simpa using h1) fun i v hv => ?_
  obtain ⟨c, u, hc, rfl⟩ := h2 i v (by simpa using hv)
  exact ⟨_, u, KBw.ints_get hc, rfl⟩

section
variable {prog : Program} {w : World} {A : Around} {E : Value → Shared → Prop} {s : Shared} {h₀ : Heap} {L : Addr} {m : Str → Option Value} {Q : Value → Shared → Prop} {news : List (Addr × Obj)}
theorem list_bytes_K {b : Array UInt8} {t : Tok} {ks : List Int} (hb : KBw.bInts b = ks) (hh : A.handled = none) (F : Fr h₀ L s.heap m) (N : News h₀ L s.heap news) (hsz : ks.length ≤ 1000000)
    (h : ∀ D h' tk vs c, Fr h₀ L h' m → News h₀ L h' ((D, W.listOf vs.toArray c) :: news) → (∀ p ∈ news, p.1 < D) → IntsAre vs ks → Q (.ref D) { s with heap := h', toks := tk }) :
    wpAny (model prog w) A (call (.type "list") [.bytes b t]) Q E s := by
  refine list_of_bytes hh b t (fun h' tk acc' c' hk hS' hacc => ?_) (by rw [← KBw.ints_length, hb, sizeLine_eq]; omega)
  refine h s.heap.objs.size h' tk acc'.toList c' (F.keeps hk) (fun p hp => ?_) (fun p hp => Heap.lt_size (N p hp).1) (hb ▸ ints_of_items hacc)
  rcases List.mem_cons.mp hp with rfl | hp
  · refine ⟨by simpa using hS', fun e => ?_, ?_⟩
    · exact absurd F.ns.lt (by rw [← e]; exact Nat.lt_irrefl _)
    · cases e : h₀.get? s.heap.objs.size with
      | none => rfl
      | some o => exact absurd (Heap.lt_size (F.keep _ _ e)) (Nat.lt_irrefl _)
  · exact ⟨hk _ _ (N p hp).1, (N p hp).2⟩
end
end Mine
open PyProof.Rows PySem.W in
theorem Mine.flushLb : True := by w_top off; first | walk1 | trivial

/-! part Ec -/
namespace Mine
open PySem PySem.W PySem.Spec PySem.Calls PyProof.Rows
set_option maxRecDepth 100000
set_option maxHeartbeats 8000000

def asc (x : List Nat) : Array UInt8 := (x.map Nat.toUInt8).toArray
theorem asc_ints (x : List Nat) (hx : ∀ c ∈ x, c < 128) : KBw.bInts (asc x) = x.map (fun c : Nat => (c : Int)) := by
  show ((x.map Nat.toUInt8).map fun c => ((c.toNat : Nat) : Int)) = _
  rw [List.map_map]
  refine List.map_congr_left fun c hc => ?_
  have h := hx c hc
  show (((UInt8.ofNat c).toNat : Nat) : Int) = c
  rw [UInt8.toNat_ofNat']; omega
theorem enc_fold (l : List Nat) (hx : ∀ c ∈ l, c < 128) : ∀ out : Array UInt8, l.foldl (fun acc y => acc ++ (Builtin._codecs.utf8Codec.bytesOf y).toArray) out = out ++ asc l := by
  induction l with
  | nil => intro out; simp [asc]
  | cons c l ih =>
    intro out
    have hc : Builtin._codecs.utf8Codec.bytesOf c = [c.toUInt8] := by
      show Str.utf8Of c = _
      unfold Str.utf8Of
      rw [if_pos (hx c (.head _))]
    rw [List.foldl_cons, ih (fun c hc => hx c (.tail _ hc)), hc]
    simp [asc]
theorem not_bad {c : Nat} (h : c < 128) : Builtin._codecs.utf8Codec.bad c = false := by
  show Str.isSurrogate c = false
  simp [Str.isSurrogate]; omega

section
variable {prog : Program} {w : World} {A : Around} {E : Value → Shared → Prop} {s : Shared}
theorem encode_K {x : Str} {t : Tok} {Q : Value → Shared → Prop} (hx : ∀ c ∈ x.cps.toList, c < 128) (hl : x.cps.size ≤ 100000)
  (h : ∀ t' k, Q (.bytes (asc x.cps.toList) t') { s with toks := k }) :
  wpAny (model prog w) A (call (.builtin "str.encode") [.str x t]) Q E s := by
  refine wpAny_call_entry F.slot_str_encode (typeIs_str s x t) F.entry_str_encode ?_ (F.args_str_encode_1 _)
  rw [encode_tree, encodeRoad_utf8]
  refine wpAny_bind (wpAny_bind ?_)
  unfold Builtin._codecs.encodeNarrow
  simp only []
  refine wpAny_bind ?_
  rw [Std.Legacy.Range.forIn_eq_forIn_range']
  refine wpAny_forIn_list _ (fun l b s' => s' = s ∧ ((b.1 = 0 ∧ b.2.1 = #[] ∧ l.length = x.cps.size) ∨ (b.1 = x.cps.size ∧ b.2.1 = asc x.cps.toList))) _ ?_ ?_ _ _ ⟨rfl, .inl ⟨rfl, rfl, by simp [Std.Legacy.Range.size]; rfl⟩⟩
  · rintro y rest ⟨i, out, st⟩ s' ⟨rfl, h1⟩
    rcases h1 with ⟨h1, h2, h3⟩ | ⟨h1, h2⟩
    · dsimp only at h1 h2 h3 ⊢
      subst h1 h2
      have hpos : 0 < x.cps.size := by rw [← h3]; simp
      rw [if_neg (by simp)]
      rw [Array.getElem?_eq_getElem hpos]
      dsimp only
      have hb : Builtin._codecs.utf8Codec.bad x.cps[0] = false := not_bad (hx _ (by simp))
      rw [hb]
      simp only [Bool.not_false, if_true]
      refine wpAny_pure ⟨rfl, .inr ?_⟩
      have hf : Array.findIdx? Builtin._codecs.utf8Codec.bad (x.cps.extract 0) = none := by
        rw [Array.findIdx?_eq_none_iff]
        intro c hc
        rw [Array.extract_size] at hc
        exact not_bad (hx c (by simpa using hc))
      rw [hf]
      have he : x.cps.extract 0 = x.cps := Array.extract_size
      simp only [he, Option.getD_none, Nat.zero_add, Array.extract_size]
      refine ⟨trivial, ?_⟩
      rw [← Array.foldl_toList, enc_fold _ hx]
      simp
    · dsimp only at h1 h2 ⊢
      subst h1 h2
      rw [if_neg (by simp [asc, sizeLine_eq]; omega)]
      rw [Array.getElem?_eq_none (Nat.le_refl _)]
      dsimp only
      exact wpAny_pure (wpAny_pure (wpAny_mkBytes (wpAny_pure ⟨_, rfl, h _ _⟩) (by simp [asc, sizeLine_eq]; omega)))
  · rintro ⟨i, out, st⟩ s' ⟨rfl, h1⟩
    have e : out = asc x.cps.toList := by
      rcases h1 with ⟨h1, h2, h3⟩ | ⟨h1, h2⟩
      · dsimp only at h2 h3
        rw [h2]
        have : x.cps.toList = [] := by simpa using h3.symm
        rw [this]; rfl
      · exact h2
    dsimp only
    subst e
    exact wpAny_pure (wpAny_mkBytes (wpAny_pure ⟨_, rfl, h _ _⟩) (by simp [asc, sizeLine_eq]; omega))
end
end Mine
open PyProof.Rows PySem.W in
theorem Mine.flushEc : True := by w_top off; first | walk1 | trivial

/-! part En -/
namespace Mine
open PySem PySem.W PySem.Spec PySem.Calls PyProof.Rows
local macro_rules | `(tactic| k_steps) => `(tactic| repeat' (first | (k_unfold; (try dsimp only)) | (k_end; wrow_close) | walk1 | (dsimp only; walk1) | (leave1; walk_say "STEP leave1"; try dsimp only) | fail "no step"))
set_option maxRecDepth 100000
set_option maxHeartbeats 8000000
theorem fill3 : (PySem.Challenge.rw_aa6001_01 = PySem.Challenge.rw_aa6001_01) ∧ (hd.heap_39 = hd.heap_39) := by
  k_fill
  exact ⟨rfl, rfl⟩

/-- the sign of six bits -/
def sg (k : Int) : Nat := if k < 26 then (k + 65).toNat else if k < 52 then (k + 71).toNat else if k < 62 then (k - 4).toNat else if k = 62 then 43 else 47
def st1 (c : Nat) : Str := ⟨#[c]⟩
noncomputable def encC : List Int → List Nat
  | [] => []
  | [a] => [sg (a / 4), sg (a % 4 * 16), 61, 61]
  | [a, b] => [sg (a / 4), sg (a % 4 * 16 + b / 16), sg (b % 16 * 4), 61]
  | a :: b :: c :: r => sg (a / 4) :: sg (a % 4 * 16 + b / 16) :: sg (b % 16 * 4 + c / 64) :: sg (c % 64) :: encC r
noncomputable def encL (ks : List Int) : List Str := (encC ks).map st1
theorem sg_lt (k : Int) (h : k < 64) : sg k < 128 := by
  unfold sg
  (repeat' split) <;> omega
theorem encC_lt : ∀ (ks : List Int), (∀ y ∈ ks, 0 ≤ y ∧ y < 256) → ∀ c ∈ encC ks, c < 128
  | [], _ => by simp [encC]
  | [a], h => by
    have ha := h a (.head _)
    intro c hc
    simp only [encC, List.mem_cons, List.not_mem_nil, or_false] at hc
    rcases hc with rfl | rfl | rfl | rfl <;> first | (exact sg_lt _ (by omega)) | omega
  | [a, b], h => by
    have ha := h a (.head _)
    have hb := h b (.tail _ (.head _))
    intro c hc
    simp only [encC, List.mem_cons, List.not_mem_nil, or_false] at hc
    rcases hc with rfl | rfl | rfl | rfl <;> first | (exact sg_lt _ (by omega)) | omega
  | a :: b :: c :: r, h => by
    have ha := h a (.head _)
    have hb := h b (.tail _ (.head _))
    have hc := h c (.tail _ (.tail _ (.head _)))
    intro d hd
    simp only [encC, List.mem_cons] at hd
    rcases hd with rfl | rfl | rfl | rfl | hd
    · exact sg_lt _ (by omega)
    · exact sg_lt _ (by omega)
    · exact sg_lt _ (by omega)
    · exact sg_lt _ (by omega)
    · exact encC_lt r (fun y hy => h y (.tail _ (.tail _ (.tail _ hy)))) d hd

theorem rng_iter {prog : Program} {w : World} {A : Around} {E : Value → Shared → Prop} {s : Shared} {env : Env} {h₀ : Heap} {x : Str} {body : List Stmt} {Q : Flow → Shared → Prop}
    {σ : Type} {r : Addr} {a₀ b₀ st : Int} {t₀ u₀ v₀ : Tok} {n : Nat} {m₀ : Str → Option Value} (Led : σ → List (Addr × Obj)) (ps : σ → List (Str × Value)) (Facts : σ → Prop) (stored : List Str) (P : Nat → σ → Prop) (c₀ : σ)
    (hh : A.handled = none) (hr : IsRange s.heap r a₀ b₀ st t₀ u₀ v₀) (hsmall : Builtin.Range.small a₀ b₀ st = true) (hn : Builtin.Range.rangeSize a₀ b₀ st = (n : Int)) (F : Fr h₀ env.locals s.heap m₀) (N : News h₀ env.locals s.heap (Led c₀)) (hf : Facts c₀) (hk : ∀ p ∈ ps c₀, m₀ p.1 = some p.2) (hp : P 0 c₀)
    (turn : ∀ (c : σ) (j : Nat) t (u : Str → Option Value) h tk own, j < n → OwnOff own ((Led c₀).map (·.1)) → Facts c → P j c →
      Fr h₀ env.locals h (fun y => if y = x then some (.int (a₀ + (j : Int) * st) t) else kstB (fun z => if stored.contains z then u z else m₀ z) (ps c) y) → News h₀ env.locals h (Led c ++ own) →
      wpAny (model prog w) A (execs body env) (InvPostN h₀ env.locals (KstS Led ps Facts x stored m₀ (fun _ => P (j + 1)) []) own ((Led c₀).map (·.1)) { s with heap := h, toks := tk } Q) E { s with heap := h, toks := tk })
    (done : ∀ (c : σ) (u : Str → Option Value) h tk, Facts c → P n c → Fr h₀ env.locals h (fun y => if y = x then u y else kstB (fun z => if stored.contains z then u z else m₀ z) (ps c) y) → News h₀ env.locals h (Led c) → Q .next { s with heap := h, toks := tk }) :
    wpAny (model prog w) A (pyIter (.ref r)) (fun it s₂ => LoopAtV prog w A h₀ env x body Q E it s₂) E s := by
  refine wpAny_pyIter_range hr hsmall ?_
  have W : Walks prog w A s.heap.objs.size [s.heap.objs.size] [s.heap.objs.size] n (fun i v => i < n ∧ ∃ t, v = .int (a₀ + i * st) t)
      (fun i h => IsRangeIter h s.heap.objs.size (a₀ + (i : Nat) * st) ((n : Int) - (i : Nat)) st) := (Walks.range hh _ a₀ st n).bound
  refine loop_invN (fun i m nx => KstS Led ps Facts x stored m₀ (fun _ => P i) [] m nx) W ?_ ?_ ?_ ?_ (by show IsRangeIter _ _ _ _ _; rw [hn]; simpa using Heap.get?_push_size _ rfl) (F.push _) (fun p hp => ⟨Heap.get?_push_of_some _ (N p hp).1, (N p hp).2⟩) ⟨c₀, rfl, hf, hk, fun _ _ _ _ => rfl, hp⟩ ?_ ?_
  · intro hm
    exact absurd F.ns.lt ((List.mem_singleton.mp hm) ▸ Nat.lt_irrefl _)
  · intro b hb
    rw [List.mem_singleton.mp hb]
    exact next_is_new F
  · intro p hp hI
    exact absurd (Heap.lt_size (N p hp).1) ((List.mem_singleton.mp hI) ▸ Nat.lt_irrefl _)
  · intro p hp hI
    exact absurd (Heap.lt_size (N p hp).1) ((List.mem_singleton.mp hI) ▸ Nat.lt_irrefl _)
  · rintro i v m₁ nx h tk own hi ⟨_, t, rfl⟩ _ hoff ⟨c, rfl, hf', h1, h2, hp'⟩ F₁ N₁
    exact turn c i t m₁ h tk own hi hoff hf' hp' (kst_fr h1 h2 F₁) N₁
  · rintro m₁ nx h tk ⟨c, rfl, hf', h1, h2, hp'⟩ F₁ N₁
    exact done c m₁ h tk hf' hp' (kst_frOut h1 h2 F₁) N₁

theorem item_sgN : ∀ n : Nat, n < 64 → Txt.item (Str.ofString ALPH) (n : Int) = st1 (sg n) := by decide +kernel
theorem alph_len : (Str.ofString ALPH).length = 64 := by decide +kernel
theorem sub_alph {prog : Program} {w : World} {A : Around} {E : Value → Shared → Prop} {s : Shared} {value slice : PySem.Expr} {t u : Tok} {k : Int} {Q : Value → Shared → Prop}
    (h0 : 0 ≤ k) (h1 : k < 64) (h : ∀ t' k', Q (.str (st1 (sg k)) t') { s with toks := k' })
    (hs : subscripted slice false (.str (Str.ofString ALPH) t) (.int k u) = operate [.str (Str.ofString ALPH) t, .int k u] (getItem (.str (Str.ofString ALPH) t) (.int k u)) := by with_unfolding_all rfl)
    (ht : ∀ r, letTemporaryGo value (.str (Str.ofString ALPH) t) r = pure () := by intro _; with_unfolding_all rfl) :
    wpAny (model prog w) A (subscriptTail value slice (.str (Str.ofString ALPH) t) (.int k u)) Q E s :=
  KXi.item alph_len (by omega) (by omega) (by decide) (fun _ => by
    have e := item_sgN k.toNat (by omega)
    rw [Int.toNat_of_nonneg h0] at e
    rw [e]; exact h _ _) hs ht

/-- the groups' numbers, as the code reckons them -/
def tri (a b c : Int) : Int := (a * 256 + b) * 256 + c
abbrev EncT := List Value × List Str × Nat
abbrev encLed (lo : Addr) (news : List (Addr × Obj)) (c : EncT) : List (Addr × Obj) := (lo, W.listOf c.1.toArray c.2.2) :: news
abbrev encPs (lo : Addr) (b : Array UInt8) (tb : Tok) (_ : EncT) : List (Str × Value) := [(Str.ofString "out", .ref lo), (Str.ofString "data", .bytes b tb)]
abbrev encFa (c : EncT) : Prop := StrsAre c.1 c.2.1
def encQ (ks : List Int) (j : Nat) (ts : List Str) : Prop := ts ++ encL (ks.drop (3 * j)) = encL ks ∧ ts.length ≤ 4 * j
theorem encQ_nil (ks : List Int) : encQ ks 0 [] := ⟨by simp, by simp⟩

theorem strs_app {vs ws : List Value} {ts us : List Str} (h : StrsAre vs ts) (g : StrsAre ws us) : StrsAre (vs ++ ws) (ts ++ us) := by
  induction h with
  | nil => exact g
  | cons y t _ ih => exact .cons y t ih
theorem enc_end {x : Str} {stored : List Str} {m₀ : Str → Option Value} {pre : List Int} {lo : Addr} {news : List (Addr × Obj)} {L : Addr} {h₀ h' : Heap} {m' : Str → Option Value} {own news' : List (Addr × Obj)} {s₁ : Shared} {tk : Nat}
   {vs : List Value} {ts : List Str} {n j : Nat} {b : Array UInt8} {tb : Tok} {ks : List Int}
   (F : Fr h₀ L h' m') (N : News h₀ L h' news') (hn : (lo, W.listOf vs.toArray n) ∈ news') (hn2 : ∀ p ∈ news, p ∈ news') (ho : ∀ p ∈ own, p ∈ news')
   (hk : ∀ z ∈ [(Str.ofString "out", Value.ref lo), (Str.ofString "data", .bytes b tb)], m' z.1 = some z.2)
   (hi : StrsAre vs ts) (hr : ∀ z, z ≠ x → (∀ y ∈ [(Str.ofString "out", Value.ref lo), (Str.ofString "data", .bytes b tb)], z ≠ y.1) → stored.contains z = false → m' z = m₀ z)
   (hp : encQ ks j ts) :
   InvEndN h₀ L (KstS (encLed lo news) (encPs lo b tb) encFa x stored m₀ (fun _ c => encQ ks j c.2.1) pre) own (lo :: news.map (·.1)) s₁ { s₁ with heap := h', toks := tk } :=
  kst_end (vs, ts, n) F N (fun a ha => by
    rcases List.mem_cons.mp ha with rfl | ha
    · exact hn
    · exact hn2 a ha) ho rfl hi hk hr hp

theorem rng3 (n : Nat) : Builtin.Range.rangeSize 0 (n : Int) 3 = (((n + 2) / 3 : Nat) : Int) := by
  unfold Builtin.Range.rangeSize
  rw [if_pos (by decide)]
  split <;> omega

theorem strs_len {vs : List Value} {ts : List Str} (h : StrsAre vs ts) : vs.length = ts.length := by
  induction h with
  | nil => rfl
  | cons y t _ ih => rw [List.length_cons, List.length_cons, ih]
theorem small_one' {n : Nat} (h : n ≤ 1000) : Builtin.Range.small 0 (n : Int) 3 = true := by
  have e : ∀ n : Nat, n < 1001 → Builtin.Range.small 0 (n : Int) 3 = true := by decide +kernel
  exact e n (by omega)
theorem sg_eq {a b : Int} (h : a = b) : st1 (sg a) = st1 (sg b) := by rw [h]
theorem enc_1 {a : Int} (ha : 0 ≤ a ∧ a < 256) : encL [a] = [st1 (sg (tri a 0 0 / 262144)), st1 (sg (tri a 0 0 / 4096 % 64)), st1 61, st1 61] ++ encL [] := by
  have h1 : a / 4 = tri a 0 0 / 262144 := by unfold tri; omega
  have h2 : a % 4 * 16 = tri a 0 0 / 4096 % 64 := by unfold tri; omega
  simp only [encL, encC, List.map_cons, List.map_nil, List.append_nil, h1, h2]
theorem enc_2 {a b : Int} (ha : 0 ≤ a ∧ a < 256) (hb : 0 ≤ b ∧ b < 256) : encL [a, b] = [st1 (sg (tri a b 0 / 262144)), st1 (sg (tri a b 0 / 4096 % 64)), st1 (sg (tri a b 0 / 64 % 64)), st1 61] ++ encL [] := by
  have h1 : a / 4 = tri a b 0 / 262144 := by unfold tri; omega
  have h2 : a % 4 * 16 + b / 16 = tri a b 0 / 4096 % 64 := by unfold tri; omega
  have h3 : b % 16 * 4 = tri a b 0 / 64 % 64 := by unfold tri; omega
  simp only [encL, encC, List.map_cons, List.map_nil, List.append_nil, h1, h2, h3]
theorem enc_3 {a b c : Int} {r : List Int} (ha : 0 ≤ a ∧ a < 256) (hb : 0 ≤ b ∧ b < 256) (hc : 0 ≤ c ∧ c < 256) : encL (a :: b :: c :: r) = [st1 (sg (tri a b c / 262144)), st1 (sg (tri a b c / 4096 % 64)), st1 (sg (tri a b c / 64 % 64)), st1 (sg (tri a b c % 64))] ++ encL r := by
  have h1 : a / 4 = tri a b c / 262144 := by unfold tri; omega
  have h2 : a % 4 * 16 + b / 16 = tri a b c / 4096 % 64 := by unfold tri; omega
  have h3 : b % 16 * 4 + c / 64 = tri a b c / 64 % 64 := by unfold tri; omega
  have h4 : c % 64 = tri a b c % 64 := by unfold tri; omega
  simp only [encL, encC, List.map_cons, h1, h2, h3, h4]; rfl

theorem enc_iter {prog : Program} {w : World} {A : Around} {E : Value → Shared → Prop} {s : Shared} {env : Env} {h₀ : Heap} {x : Str} {body : List Stmt} {Q : Flow → Shared → Prop}
   {b : Array UInt8} {ks : List Int} {r : Addr} {tb t₀ u₀ v₀ : Tok} {lo : Addr} {news : List (Addr × Obj)} {m₀ : Str → Option Value}
   (hks : KBw.bInts b = ks) (hl : ks.length ≤ 1000) (hh : A.handled = none) (hr : IsRange s.heap r 0 (ks.length : Int) 3 t₀ u₀ v₀) (F : Fr h₀ env.locals s.heap m₀) (N : News h₀ env.locals s.heap ((lo, W.listOf [].toArray 0) :: news)) (hlo : ∀ p ∈ news, p.1 < lo)
   (hk : ∀ p ∈ [(Str.ofString "out", Value.ref lo), (Str.ofString "data", .bytes b tb)], m₀ p.1 = some p.2)
   (turn : ∀ (vs : List Value) (ts g : List Str) (n j : Nat) (i : Int) (l : List Int) t (u : Str → Option Value) h tk own, i = 3 * j → 0 ≤ i → i ≤ 1000 → (∀ p ∈ news ++ own, p.1 ≠ lo) → StrsAre vs ts → vs.length ≤ 10000 → (ks.drop i.toNat).take 3 = l → (∀ y ∈ l, 0 ≤ y ∧ y < 256) →
      ((∃ a b c, l = [a, b, c] ∧ g = [st1 (sg (tri a b c / 262144)), st1 (sg (tri a b c / 4096 % 64)), st1 (sg (tri a b c / 64 % 64)), st1 (sg (tri a b c % 64))]) ∨
       (∃ a b, l = [a, b] ∧ g = [st1 (sg (tri a b 0 / 262144)), st1 (sg (tri a b 0 / 4096 % 64)), st1 (sg (tri a b 0 / 64 % 64)), st1 61]) ∨
       (∃ a, l = [a] ∧ g = [st1 (sg (tri a 0 0 / 262144)), st1 (sg (tri a 0 0 / 4096 % 64)), st1 61, st1 61])) →
      encQ ks (j + 1) (ts ++ g) →
      Fr h₀ env.locals h (fun y => if y = x then some (.int i t) else kstB (fun z => if ([Str.ofString "three", Str.ofString "left", Str.ofString "n", Str.ofString "x", Str.ofString "four"] : List Str).contains z then u z else m₀ z) [(Str.ofString "out", .ref lo), (Str.ofString "data", .bytes b tb)] y) →
      News h₀ env.locals h ((lo, W.listOf vs.toArray n) :: (news ++ own)) →
      wpAny (model prog w) A (execs body env) (InvPostN h₀ env.locals (KstS (encLed lo news) (encPs lo b tb) encFa x [Str.ofString "three", Str.ofString "left", Str.ofString "n", Str.ofString "x", Str.ofString "four"] m₀ (fun _ c => encQ ks (j + 1) c.2.1) []) own (lo :: news.map (·.1)) { s with heap := h, toks := tk } Q) E { s with heap := h, toks := tk })
   (done : ∀ (vs : List Value) (n : Nat) (u : Str → Option Value) h tk, StrsAre vs ((encC ks).map st1) → (encC ks).length ≤ 2000 → (∀ c ∈ encC ks, c < 128) →
      Fr h₀ env.locals h (fun y => if y = x then u y else kstB (fun z => if ([Str.ofString "three", Str.ofString "left", Str.ofString "n", Str.ofString "x", Str.ofString "four"] : List Str).contains z then u z else m₀ z) [(Str.ofString "out", .ref lo), (Str.ofString "data", .bytes b tb)] y) →
      News h₀ env.locals h ((lo, W.listOf vs.toArray n) :: news) → Q .next { s with heap := h, toks := tk }) :
   wpAny (model prog w) A (pyIter (.ref r)) (fun it s₂ => LoopAtV prog w A h₀ env x body Q E it s₂) E s := by
  refine rng_iter (σ := EncT) (encLed lo news) (encPs lo b tb) encFa [Str.ofString "three", Str.ofString "left", Str.ofString "n", Str.ofString "x", Str.ofString "four"] (fun j c => encQ ks j c.2.1) ([], [], 0) hh hr (small_one' hl) (rng3 _) F N StrsAre.nil hk (encQ_nil ks) ?turn ?done
  case turn =>
    rintro ⟨vs, ts, n⟩ j t u h tk own e1 e2 e3 e4 F2 N2
    have hj : 3 * j < ks.length := by omega
    have hin : ∀ y ∈ ks, 0 ≤ y ∧ y < 256 := fun y hy => KBw.ints_in (hks ▸ hy)
    have hts : vs.length = ts.length := strs_len e3
    have e42 := e4.2
    have e41 := e4.1
    have e : (0 + (j : Int) * 3) = 3 * j := by omega
    dsimp only at *
    rw [e] at F2
    have base : ∀ (g : List Str), encL (ks.drop (3 * j)) = g ++ encL (ks.drop (3 * (j + 1))) → g.length ≤ 4 → encQ ks (j + 1) (ts ++ g) := fun g hg h4 => ⟨by rw [List.append_assoc, ← hg]; exact e41, by rw [List.length_append]; omega⟩
    have hdrop : ks.drop (3 * (j + 1)) = (ks.drop (3 * j)).drop 3 := by rw [List.drop_drop]; congr 1
    have hnat : (3 * (j : Int)).toNat = 3 * j := by omega
    have hsub : ∀ y ∈ ks.drop (3 * j), 0 ≤ y ∧ y < 256 := fun y hy => hin y (List.mem_of_mem_drop hy)
    have hne : ks.drop (3 * j) ≠ [] := by intro h; rw [List.drop_eq_nil_iff] at h; omega
    rw [hdrop] at base
    have go := fun (g : List Str) (l : List Int) (h1 : (ks.drop (3 * j)).take 3 = l) h2 h3 => turn vs ts g n j (3 * j) l t u h tk own rfl (by omega) (by omega) (apart_own hlo e2) e3 (by omega) (by rw [hnat]; exact h1)
       (fun y hy => hsub y (List.mem_of_mem_take (h1 ▸ hy))) h2 h3 F2 N2
    generalize ks.drop (3 * j) = rest at go base hsub hne
    match rest, hne with
    | [a], _ => exact go _ [a] rfl (.inr (.inr ⟨a, rfl, rfl⟩)) (base _ (enc_1 (hsub a (.head _))) (by simp))
    | [a, b'], _ => exact go _ [a, b'] rfl (.inr (.inl ⟨a, b', rfl, rfl⟩)) (base _ (enc_2 (hsub a (.head _)) (hsub b' (.tail _ (.head _)))) (by simp))
    | a :: b' :: c :: r, _ => exact go _ [a, b', c] rfl (.inl ⟨a, b', c, rfl, rfl⟩) (base _ (enc_3 (hsub a (.head _)) (hsub b' (.tail _ (.head _))) (hsub c (.tail _ (.tail _ (.head _))))) (by simp))
  case done =>
    rintro ⟨vs, ts, n⟩ u h tk e3 e4 F2 N2
    have e5 : ts = encL ks := by
      have := e4.1
      dsimp only at this
      rw [List.drop_eq_nil_of_le (by omega)] at this
      simpa [encL, encC] using this
    have e6 := e4.2
    dsimp only at *
    subst e5
    have e7 : (encL ks).length = (encC ks).length := List.length_map _
    exact done vs n u h tk e3 (by omega) (encC_lt ks (fun y hy => KBw.ints_in (hks ▸ hy))) F2 N2

local macro_rules | `(tactic| k_room) => `(tactic| ((simp only [depth_under_make, depth_under_kw, depth_in1, depth_deeper, depth_caller, ktrTop, recLim] at *); omega))
local macro_rules | `(tactic| k_units) => `(tactic| ((have hcL9 := cLine_is); (simp only [units_in1, units_deeper, Around.mark_units, units_caller, ktrTop] at *); omega))
local macro_rules | `(tactic| walk_at "binaryOp RShift int int") => `(tactic| (k_here; first | (with_reducible refine shr_2 ?_) | (with_reducible refine shr_4 ?_) | (with_reducible refine shr_6 ?_) | (with_reducible refine shr_12 ?_) | (with_reducible refine shr_18 ?_)); intro _ _)
local macro_rules | `(tactic| walk_at "binaryOp BitAnd int int") => `(tactic| (k_here; first | (with_reducible refine and_3 ?_) | (with_reducible refine and_15 ?_) | (with_reducible refine and_63 ?_)); intro _ _ _ _)

theorem jn_aux (l : List Nat) : Txt.join (Str.ofString "") (l.map st1) = ⟨l.toArray⟩ := by
  have key : ∀ (l : List Nat) (acc : Array Nat), (l.map st1).foldl (fun acc p => acc ++ (Str.ofString "").cps ++ p.cps) acc = acc ++ l.toArray := by
    intro l
    induction l with
    | nil => intro acc; simp
    | cons c l ih =>
      intro acc
      rw [List.map_cons, List.foldl_cons, ih]
      show acc ++ #[] ++ #[c] ++ l.toArray = _
      simp
  show (Builtin.Str.glued (Str.ofString "") (l.map st1)) = _
  cases l with
  | nil => rfl
  | cons c l =>
    show (⟨(l.map st1).foldl (fun acc p => acc ++ (Str.ofString "").cps ++ p.cps) #[c]⟩ : Str) = _
    rw [key]; simp
theorem news_join {prog : Program} {w : World} {A : Around} {E : Value → Shared → Prop} {s : Shared} {h₀ : Heap} {L lo : Addr} {vs : List Value} {l : List Nat} {n : Nat} {rest : List (Addr × Obj)} {t : Tok} {Q : Value → Shared → Prop}
   (N : News h₀ L s.heap ((lo, W.listOf vs.toArray n) :: rest)) (hi : StrsAre vs (l.map st1)) (hsz : l.length ≤ 100000)
   (h : ∀ t' k, Q (.str ⟨l.toArray⟩ t') { s with toks := k }) :
   wpAny (model prog w) A (call (.builtin "str.join") [.str (Str.ofString "") t, .ref lo]) Q E s := by
  refine join_list (items := vs.toArray) ⟨_, (N _ (.head _)).1, rfl, n, rfl⟩ (by simpa using hi) ?_ (fun t' k => by rw [jn_aux]; exact h t' k)
  have h1 : ∀ l : List Nat, ((l.map st1).map (·.length)).sum = l.length := by
    intro l
    induction l with
    | nil => rfl
    | cons c l ih =>
      simp only [List.map_cons, List.sum_cons, List.length_cons] at ih ⊢
      rw [ih]
      show 1 + l.length = _
      omega
  rw [h1]
  have h2 : (Str.ofString "").length = 0 := by decide
  rw [h2]; omega
theorem slice3 {ks l : List Int} {i : Int} {b : Array UInt8} (e : (ks.drop i.toNat).take 3 = l) (h0 : 0 ≤ i) (h : KBw.bInts b = (ks.drop (clipAt ks.length i)).take (clipAt ks.length (i + 3) - clipAt ks.length i)) : KBw.bInts b = l := by
  rw [h, ← e]
  have h1 : clipAt ks.length i = min i.toNat ks.length := by unfold clipAt; split <;> omega
  have h2 : clipAt ks.length (i + 3) = min (i.toNat + 3) ks.length := by unfold clipAt; split <;> omega
  rw [h1, h2]
  by_cases hc : i.toNat ≤ ks.length
  · rw [Nat.min_eq_left hc]
    by_cases h3 : i.toNat + 3 ≤ ks.length
    · rw [Nat.min_eq_left h3]; congr 1; omega
    · rw [Nat.min_eq_right (by omega), List.take_of_length_le (by rw [List.length_drop]; omega), List.take_of_length_le (by rw [List.length_drop]; omega)]
  · rw [Nat.min_eq_right (by omega : ks.length ≤ i.toNat), List.drop_eq_nil_of_le (Nat.le_refl _), List.drop_eq_nil_of_le (by omega : ks.length ≤ i.toNat)]
    simp
local macro_rules | `(tactic| walk_at "call type:list") => `(tactic| (k_here; (with_reducible show wpAny _ _ (call (Value.type "list") [Value.bytes _ _]) _ _ _); (refine list_bytes_K (slice3 (by assumption) (by assumption) (by assumption)) rfl (by assumption) (by assumption) (by simp only [List.length_cons, List.length_nil]; omega) ?_); intro D' h' tk' vs' c' F' N' l1 hi'; (try k_lt l1)))
local macro_rules | `(tactic| walk_at "call builtin:str.join") => `(tactic| (k_here; (refine news_join (by assumption) (by assumption) (by omega) ?_); intro _ _))
local macro_rules | `(tactic| walk_at "call builtin:str.encode") => `(tactic| (k_here; (refine encode_K (by assumption) (by simp only [List.size_toArray]; omega) ?_); intro _ _))
def triI (pre : List Int) (n : Int) : Prop := n = pre.foldl (fun a x => a * 256 + x) 0 ∧ 0 ≤ n ∧ n < 256 ^ pre.length
theorem triI_nil : triI [] 0 := ⟨rfl, Int.le_refl _, by decide⟩
theorem triI_go {pre : List Int} {n x : Int} (h : triI pre n) (h0 : 0 ≤ x) (h1 : x < 256) : triI (pre ++ [x]) (n * 256 + x) := by
  obtain ⟨e, e0, e1⟩ := h
  refine ⟨by rw [List.foldl_append, ← e]; rfl, by omega, ?_⟩
  rw [List.length_append, List.length_singleton, Int.pow_succ]
  omega
theorem triI_lt {pre : List Int} {n : Int} (h : triI pre n) (hp : pre.length < 3) : 0 ≤ n ∧ n < 65536 := by
  obtain ⟨_, e0, e1⟩ := h
  refine ⟨e0, ?_⟩
  have : (256 : Int) ^ pre.length ≤ 65536 := by
    have : pre.length = 0 ∨ pre.length = 1 ∨ pre.length = 2 := by omega
    rcases this with h | h | h <;> rw [h] <;> decide
  omega
abbrev triPs (c : Int × Tok) : List (Str × Value) := [(Str.ofString "n", .int c.1 c.2)]
theorem tri_end {x : Str} {stored : List Str} {m₀ : Str → Option Value} {pre : List Int} {news : List (Addr × Obj)} {L : Addr} {h₀ h' : Heap} {m' : Str → Option Value} {own : List (Addr × Obj)} {s₁ : Shared} {tk : Nat} {n : Int} {tn : Tok}
   (F : Fr h₀ L h' m') (N : News h₀ L h' (news ++ own)) (hk : ∀ z ∈ [(Str.ofString "n", Value.int n tn)], m' z.1 = some z.2)
   (hr : ∀ z, z ≠ x → (∀ y ∈ [(Str.ofString "n", Value.int n tn)], z ≠ y.1) → stored.contains z = false → m' z = m₀ z) (hp : triI pre n) :
   InvEndN h₀ L (KstS (fun _ => news) triPs (fun _ => True) x stored m₀ (fun pre c => triI pre c.1) pre) own (news.map (·.1)) s₁ { s₁ with heap := h', toks := tk } :=
  kst_end (n, tn) F N (fun _ ha => List.mem_append_left _ ha) (fun _ ha => List.mem_append_right _ ha) rfl trivial hk hr hp
theorem tri_iter {prog : Program} {w : World} {A : Around} {E : Value → Shared → Prop} {s : Shared} {env : Env} {h₀ : Heap} {x : Str} {body : List Stmt} {Q : Flow → Shared → Prop}
   {a b c : Int} {ws : List Value} {D : Addr} {nn : Nat} {t0 : Tok} {news : List (Addr × Obj)} {m₀ : Str → Option Value}
   (hh : A.handled = none) (F : Fr h₀ env.locals s.heap m₀) (N : News h₀ env.locals s.heap news) (hm : (D, W.listOf ws.toArray nn) ∈ news) (hi : IntsAre ws [a, b, c]) (hb : ∀ y ∈ [a, b, c], 0 ≤ y ∧ y < 256)
   (hk : ∀ p ∈ [(Str.ofString "n", Value.int 0 t0)], m₀ p.1 = some p.2)
   (turn : ∀ (n : Int) (tn : Tok) (pre : List Int) (y : Int) t (u : Str → Option Value) h tk own, 0 ≤ n → n < 65536 → 0 ≤ y → y < 256 → triI pre n →
      Fr h₀ env.locals h (fun z => if z = x then some (.int y t) else if z = Str.ofString "n" then some (.int n tn) else m₀ z) → News h₀ env.locals h (news ++ own) →
      wpAny (model prog w) A (execs body env) (InvPostN h₀ env.locals (KstS (fun _ => news) triPs (fun _ => True) x [] m₀ (fun pre c => triI pre c.1) (pre ++ [y])) own (news.map (·.1)) { s with heap := h, toks := tk } Q) E { s with heap := h, toks := tk })
   (done : ∀ (tn : Tok) (u : Str → Option Value) h tk, 0 ≤ tri a b c → tri a b c < 16777216 → Fr h₀ env.locals h (fun z => if z = x then u z else if z = Str.ofString "n" then some (.int (tri a b c) tn) else m₀ z) → News h₀ env.locals h news → Q .next { s with heap := h, toks := tk }) :
   wpAny (model prog w) A (pyIter (.ref D)) (fun it s₂ => LoopAtV prog w A h₀ env x body Q E it s₂) E s := by
  refine kst_listL (σ := Int × Tok) (fun _ => news) triPs (fun _ => True) [] (fun pre c => triI pre c.1) (0, t0) hh (fun _ => hm) hi F N trivial hk triI_nil ?_ ?_
  · rintro ⟨n, tn⟩ pre post y t u h tk own e1 e2 e3 _ e5 F2 N2
    have hy := hb y e2
    have hl := congrArg List.length e1
    simp only [List.length_cons, List.length_nil, List.length_append] at hl
    have hn := triI_lt e5 (by omega)
    exact turn n tn pre y t u h tk own hn.1 hn.2 hy.1 hy.2 e5 (by simpa only [kstB, List.contains_nil, Bool.false_eq_true, if_false] using F2) N2
  · rintro ⟨n, tn⟩ u h tk _ e5 F2 N2
    have e6 : n = tri a b c := by have := e5.1; simp only [List.foldl_cons, List.foldl_nil] at this; unfold tri; omega
    have e7 := e5.2
    dsimp only at e6 e7
    subst e6
    have e8 : (256 : Int) ^ [a, b, c].length = 16777216 := by show (256 : Int) ^ 3 = 16777216; decide
    exact done tn u h tk e7.1 (by omega) (by simpa only [kstB, List.contains_nil, Bool.false_eq_true, if_false] using F2) N2

local macro_rules | `(tactic| walk_at "exec For Name BinOp cons nil") => `(tactic| (k_here; (rename Fr _ _ _ _ => lF'); (with_unfolding_all refine' For_invVF lF' ?k1 ?k2 ?_; (case k1 => exact rfl); (case k2 => exact rfl); k_whole)))
local macro_rules | `(tactic| walk_at "pyIter ref") => `(tactic| (k_here; (with_reducible rename IntsAre _ (_ ++ _) => hI9); (replace hI9 : IntsAre _ [_, _, _] := hI9); k_dflt (refine tri_iter rfl (by assumption) (by assumption) (by k_mem) hI9 (by assumption) (by kst_all) (fun n tn pre y t u h tk own q1 q2 q3 q4 q5 F2 N2 => ?_) (fun tn u h tk q1 q2 F2 N2 => ?_))))
local macro_rules | `(tactic| walk_at "InvEndN") => `(tactic| (refine enc_end (by assumption) (by assumption) (by k_mem) (by (intro p hp; repeat (first | exact List.mem_append_left _ hp | apply List.mem_cons_of_mem))) (by (intro p hp; repeat (first | exact List.mem_append_right _ hp | apply List.mem_cons_of_mem))) (by kst_all) (strs_app (by assumption) (by repeat constructor)) (by kst_same) (by assumption)))
local macro_rules | `(tactic| walk_at "InvEndN") => `(tactic| (refine tri_end (by assumption) (by assumption) (by kst_all) (by kst_same) (triI_go (by assumption) (by assumption) (by assumption))))
local macro_rules | `(tactic| walk_at "subscriptTail") => `(tactic| (k_here; (with_reducible show wpAny _ _ (subscriptTail _ _ (Value.str (Str.ofString "ABCDEFGHIJKLMNOPQRSTUVWXYZabcdefghijklmnopqrstuvwxyz0123456789+/") _) (Value.int _ _)) _ _ _); (refine sub_alph ?_ ?_ ?_); (omega); (omega); intro _ _))
section
variable {prog : Program} {w : World} {A : Around} {E : Value → Shared → Prop} {s : Shared} {h₀ : Heap} {L l : Addr} {news : List (Addr × Obj)} {vs : List Value} {c : Nat} {x y z : Int} {t u : Tok} {Q : Value → Shared → Prop}
theorem len_3 (N : News h₀ L s.heap news) (hm : (l, W.listOf vs.toArray c) ∈ news) (hi : IntsAre vs [x, y, z]) (h : ∀ t' k, Q (.int 3 t') { s with toks := k }) : wpAny (model prog w) A (call (.builtin "len") [.ref l]) Q E s :=
  kst_len N hm hi.length (by simp) (h _ _)
theorem len_2 (N : News h₀ L s.heap news) (hm : (l, W.listOf vs.toArray c) ∈ news) (hi : IntsAre vs [x, y]) (h : ∀ t' k, Q (.int 2 t') { s with toks := k }) : wpAny (model prog w) A (call (.builtin "len") [.ref l]) Q E s :=
  kst_len N hm hi.length (by simp) (h _ _)
theorem len_1 (N : News h₀ L s.heap news) (hm : (l, W.listOf vs.toArray c) ∈ news) (hi : IntsAre vs [x]) (h : ∀ t' k, Q (.int 1 t') { s with toks := k }) : wpAny (model prog w) A (call (.builtin "len") [.ref l]) Q E s :=
  kst_len N hm hi.length (by simp) (h _ _)
theorem sub_num {k : Int} (e : x - y = k) (h : ∀ t' k', Q (.int k t') { s with toks := k' }) : wpAny (model prog w) A (binaryOp .Sub (.int x t) (.int y u)) Q E s :=
  sub_int (by rw [e]; exact h _ _)
end
section
variable {prog : Program} {w : World} {A : Around} {E : Value → Shared → Prop} {s : Shared} {h₀ : Heap} {L l : Addr} {m : Str → Option Value} {news : List (Addr × Obj)} {v : Value} {c : Nat} {u : Tok} {Q : Value → Shared → Prop}
theorem mul_0 (F : Fr h₀ L s.heap m) (N : News h₀ L s.heap news) (hm : (l, W.listOf [v].toArray c) ∈ news) (h : ∀ D h', Fr h₀ L h' m → News h₀ L h' ((D, W.listOf [].toArray 0) :: news) → (∀ p ∈ news, p.1 < D) → Q (.ref D) { s with heap := h' }) :
   wpAny (model prog w) A (binaryOp .Mult (.ref l) (.int 0 u)) Q E s :=
  KMa.mul F N ⟨_, (N _ hm).1, rfl, c, rfl⟩ (by decide) (by decide) (by simp) rfl h
theorem mul_1 (F : Fr h₀ L s.heap m) (N : News h₀ L s.heap news) (hm : (l, W.listOf [v].toArray c) ∈ news) (h : ∀ D h', Fr h₀ L h' m → News h₀ L h' ((D, W.listOf [v].toArray 0) :: news) → (∀ p ∈ news, p.1 < D) → Q (.ref D) { s with heap := h' }) :
   wpAny (model prog w) A (binaryOp .Mult (.ref l) (.int 1 u)) Q E s :=
  KMa.mul F N ⟨_, (N _ hm).1, rfl, c, rfl⟩ (by decide) (by decide) (by simp) rfl h
theorem mul_2 (F : Fr h₀ L s.heap m) (N : News h₀ L s.heap news) (hm : (l, W.listOf [v].toArray c) ∈ news) (h : ∀ D h', Fr h₀ L h' m → News h₀ L h' ((D, W.listOf [v, v].toArray 0) :: news) → (∀ p ∈ news, p.1 < D) → Q (.ref D) { s with heap := h' }) :
   wpAny (model prog w) A (binaryOp .Mult (.ref l) (.int 2 u)) Q E s :=
  KMa.mul F N ⟨_, (N _ hm).1, rfl, c, rfl⟩ (by decide) (by decide) (by simp) rfl h
theorem gm_encode {M : Model} {x : Str} {t : Tok} {pl : Sem Bool} {Q : Value × List Value → Shared → Prop} (h : Q (.builtin "str.encode", [.str x t]) s) : wpAny M A (getMethod (.str x t) "encode" pl) Q E s := by
  with_reducible exact GM.of (.str x t) (typeIs_str _ _ _) F.slot_str_encode F.type_str_encode GM.noRef h
end
theorem news_extend {prog : Program} {w : World} {A : Around} {E : Value → Shared → Prop} {s : Shared} {h₀ : Heap} {L lo b : Addr} {m : Str → Option Value} {news news' : List (Addr × Obj)} {vs ws : List Value} {n n2 : Nat} {Q : Value → Shared → Prop}
   (F : Fr h₀ L s.heap m) (N : News h₀ L s.heap news) (hb : (b, W.listOf ws.toArray n2) ∈ news) (hw : ws.length ≠ 0) (hwl : ws.length ≤ 100) (hvl : vs.length ≤ 100000)
   (U : Upd lo (W.listOf vs.toArray n) (W.listOf (vs ++ ws).toArray (n + 1)) news news') (h : ∀ h', Fr h₀ L h' m → News h₀ L h' news' → Q .none { s with heap := h' }) :
   wpAny (model prog w) A (call (.builtin "list.extend") [.ref lo, .ref b]) Q E s :=
  kl_extend F N hb rfl (by simpa using hw) U (by simp [Builtin.List.listTooLong, sizeLine_eq]; omega) (by simp [sizeLine_eq]; omega) (by simp [sizeLine_eq]; omega) h
local macro_rules | `(tactic| walk_at "call builtin:list.extend") => `(tactic| (k_here; k_dflt (refine' news_extend ?F ?N ?b ?w ?wl ?vl ?U ?_; (case F => k_asm); (case N => k_asm); (case b => k_mem); (case w => simp); (case wl => simp); (case U => k_upd); (case vl => omega)); intro h' F' N'))
local macro_rules | `(tactic| walk_at "getMethod str") => `(tactic| with_reducible refine gm_encode ?_)
local macro_rules | `(tactic| walk_at "binaryOp Mult ref int") => `(tactic| (k_here; k_dflt (first | ((with_reducible show wpAny _ _ (binaryOp _ _ (Value.int 0 _)) _ _ _); refine mul_0 (by assumption) (by assumption) (by k_mem) ?_) | ((with_reducible show wpAny _ _ (binaryOp _ _ (Value.int 1 _)) _ _ _); refine mul_1 (by assumption) (by assumption) (by k_mem) ?_) | ((with_reducible show wpAny _ _ (binaryOp _ _ (Value.int 2 _)) _ _ _); refine mul_2 (by assumption) (by assumption) (by k_mem) ?_)); intro D' h' F' N' l1; (try k_lt l1)))
local macro_rules | `(tactic| k_all) => `(tactic| assumption)
local macro_rules | `(tactic| walk_at "call builtin:len") => `(tactic| (k_here; first | (refine len_3 (by assumption) (by k_mem) (by assumption) ?_) | (refine len_2 (by assumption) (by k_mem) (by assumption) ?_) | (refine len_1 (by assumption) (by k_mem) (by assumption) ?_)); intro _ _)
local macro_rules | `(tactic| walk_at "binaryOp Sub int int") => `(tactic| (k_here; first | (refine sub_num (k := 0) (by decide) ?_) | (refine sub_num (k := 1) (by decide) ?_) | (refine sub_num (k := 2) (by decide) ?_) | (refine sub_num (k := 3) (by decide) ?_) | (refine sub_num (k := 4) (by decide) ?_)); intro _ _)
theorem enc_ct {w : World} {mean : ExcName → Option Value} {mg mb : Str → Option Value}
  {b : Array UInt8} {tb : Tok} {ks : List Int} (hks : KBw.bInts b = ks) (hl : ks.length ≤ 1000)
  {dp un : Nat} {gd : Option (List Code)} {cn : Str} {cs : Scope} {a : Addr} {ccd : Value} {cl : List (Str × Addr)} {outer : List Env} {A₀ : Around} {base h₀ : Heap} {L : Addr} {m : Str → Option Value} {news : List (Addr × Obj)} {s : Shared} {Q E : Value → Shared → Prop}
  (B : Below A₀ base outer h₀) (F : Fr h₀ L s.heap m) (X : (hd.heap_39 w.params).In h₀) (N : News h₀ L s.heap news) (T : Top hd.view_39 (looseW hd.view_39 []) mean mg mb h₀) (hk : cs.kind = .function)
  (hdp : dp ≤ 310)
  (hret : ∀ (t : Tok) (h' : Heap) (tk' : Nat), Fr h₀ L h' m → News h₀ L h' news → Q (.bytes (asc (encC ks)) t) { s with heap := h', toks := tk' }) :
  wpAny (model PG w) (ktrTop dp un gd cn cs L a ccd cl outer) (call (.ref 21) [.bytes b tb]) Q E s := by
  refine wpAny_call ?_
  k_dflt cell_enter
  k_steps
  rename Fr _ _ _ _ => lF'
  rename News _ _ _ _ => N'
  refine enc_iter hks hl rfl (by assumption) (by assumption) (by assumption) (by assumption) (by kst_all) ?turn ?done
  case turn =>
    intro vs ts g n j i l t u h tk own e1 e2 e3 e4 e5 e6 e7 e8 e9 e10 F2 N2
    simp only [kstB] at F2
    rcases e9 with ⟨a, b, c, rfl, rfl⟩ | ⟨a, b, rfl, rfl⟩ | ⟨a, rfl, rfl⟩
    · k_steps
    · have e88 : ∀ y ∈ [a, b, 0], 0 ≤ y ∧ y < 256 := by
        intro y hy
        rcases List.mem_cons.mp hy with rfl | hy
        · exact e8 _ (.head _)
        · rcases List.mem_cons.mp hy with rfl | hy
          · exact e8 _ (.tail _ (.head _))
          · rw [List.mem_singleton.mp hy]; omega
      k_steps
    · have e88 : ∀ y ∈ [a, 0, 0], 0 ≤ y ∧ y < 256 := by
        intro y hy
        rcases List.mem_cons.mp hy with rfl | hy
        · exact e8 _ (.head _)
        · simp only [List.mem_cons, List.not_mem_nil, or_false, or_self] at hy
          rw [hy]; omega
      k_steps
  case done =>
    intro vs n u h tk e3 e4 e5 F2 N2
    simp only [kstB] at F2
    clear lF' N'
    k_steps
    all_goals exact hret _ _ _ (by assumption) (cb_drop (by assumption) (fun _ hp => .tail _ hp))
end Mine
open PyProof.Rows PySem.W in
theorem Mine.flushEn : True := by w_top off; first | walk1 | trivial

/-! part Nu -/
namespace Mine
open PySem PySem.W PySem.Spec PySem.Calls PyProof.Rows
local macro_rules | `(tactic| k_steps) => `(tactic| repeat' (first | (k_unfold; (try dsimp only)) | (k_end; wrow_close) | walk1 | (dsimp only; walk1) | (leave1; walk_say "STEP leave1"; try dsimp only) | fail "no step"))
set_option maxRecDepth 100000
set_option maxHeartbeats 8000000
theorem fill4 : (PySem.Challenge.rw_aa6001_01 = PySem.Challenge.rw_aa6001_01) ∧ (hd.heap_39 = hd.heap_39) := by
  k_fill
  exact ⟨rfl, rfl⟩
local macro_rules | `(tactic| k_room) => `(tactic| ((simp only [depth_under_make, depth_under_kw, depth_in1, depth_deeper, depth_caller, ktrTop, recLim] at *); omega))
def numOf (ns : List Int) (p v : Int) : Prop := ∃ x, (x = 0 ∨ x ∈ ns) ∧ v = x + 7 * p
theorem getD_in {ns : List Int} {p : Int} (h : 0 < ns.length) (_hp : 0 ≤ p) : ns.getD (Int.fmod p (ns.length : Int)).toNat 0 ∈ ns := by
  have h1 : 0 ≤ Int.fmod p (ns.length : Int) := Int.fmod_nonneg_of_pos _ (by omega)
  have h2 : Int.fmod p (ns.length : Int) < ns.length := Int.fmod_lt_of_pos _ (by omega)
  have h3 : (Int.fmod p (ns.length : Int)).toNat < ns.length := by omega
  rw [List.getD_eq_getElem?_getD, List.getElem?_eq_getElem h3]
  exact List.getElem_mem h3
theorem num_ct {w : World} {mean : ExcName → Option Value} {mg mb : Str → Option Value}
  {l : Addr} {vs : List Value} {ns : List Int} {p : Int} {tp : Tok}
  {dp un : Nat} {gd : Option (List Code)} {cn : Str} {cs : Scope} {a : Addr} {ccd : Value} {cl : List (Str × Addr)} {outer : List Env} {A₀ : Around} {base h₀ : Heap} {L : Addr} {m : Str → Option Value} {news : List (Addr × Obj)} {s : Shared} {Q E : Value → Shared → Prop}
  (B : Below A₀ base outer h₀) (F : Fr h₀ L s.heap m) (X : (hd.heap_39 w.params).In h₀) (N : News h₀ L s.heap news) (T : Top hd.view_39 (looseW hd.view_39 []) mean mg mb h₀) (hk : cs.kind = .function)
  (hdp : dp ≤ 310) (hli : base.IsList l vs.toArray) (hi : IntsAre vs ns) (hns : ns.length ≤ 1000) (hp0 : 0 ≤ p) (hp1 : p ≤ 1000)
  (hret : ∀ (v : Int) (t : Tok) (h' : Heap) (tk' : Nat), numOf ns p v → Fr h₀ L h' m → News h₀ L h' news → Q (.int v t) { s with heap := h', toks := tk' }) :
  wpAny (model PG w) (ktrTop dp un gd cn cs L a ccd cl outer) (call (.ref 42) [.ref l, .int p tp]) Q E s := by
  have hfit := hi.length
  refine wpAny_call ?_
  k_dflt cell_enter
  k_steps
  all_goals first
    | exact hret _ _ _ _ ⟨_, .inr (getD_in (by assumption) (by omega)), rfl⟩ (by assumption) (by assumption)
    | exact hret _ _ _ _ ⟨0, .inl rfl, rfl⟩ (by assumption) (by assumption)
theorem plc_ct {w : World} {mean : ExcName → Option Value} {mg mb : Str → Option Value}
  {c : Int} {tp : Tok}
  {dp un : Nat} {gd : Option (List Code)} {cn : Str} {cs : Scope} {a : Addr} {ccd : Value} {cl : List (Str × Addr)} {outer : List Env} {A₀ : Around} {base h₀ : Heap} {L : Addr} {m : Str → Option Value} {news : List (Addr × Obj)} {s : Shared} {Q E : Value → Shared → Prop}
  (B : Below A₀ base outer h₀) (F : Fr h₀ L s.heap m) (X : (hd.heap_39 w.params).In h₀) (N : News h₀ L s.heap news) (T : Top hd.view_39 (looseW hd.view_39 []) mean mg mb h₀) (hk : cs.kind = .function)
  (hdp : dp ≤ 310)
  (hret : ∀ (t : Tok) (h' : Heap) (tk' : Nat), Fr h₀ L h' m → News h₀ L h' news → Q (.int (plc c) t) { s with heap := h', toks := tk' }) :
  wpAny (model PG w) (ktrTop dp un gd cn cs L a ccd cl outer) (call (.ref 49) [.int c tp]) Q E s := by
  refine wpAny_call ?_
  k_dflt cell_enter
  k_steps
  all_goals (refine cb_retI (Q := Q) hret ?_ (by assumption) (by assumption); unfold plc; (repeat' split) <;> omega)
theorem cb_retE {h₀ h' : Heap} {L : Addr} {m : Str → Option Value} {news : List (Addr × Obj)} {s : Shared} {Q : Value → Shared → Prop} {x y : Int} {t : Tok} {tk' : Nat} {H : Heap}
    (hret : ∀ t h' tk', Fr h₀ L h' m → News h₀ L h' news → InElt H h' → Q (.int x t) { s with heap := h', toks := tk' }) (e : y = x) (F : Fr h₀ L h' m) (N : News h₀ L h' news) (I : InElt H h') : Q (.int y t) { s with heap := h', toks := tk' } := by
  subst e
  exact hret t h' tk' F N I
theorem plc_ctE {w : World} {mean : ExcName → Option Value} {mg mb : Str → Option Value}
  {c : Int} {tp : Tok} {H : Heap}
  {dp un : Nat} {gd : Option (List Code)} {cn : Str} {cs : Scope} {a : Addr} {ccd : Value} {cl : List (Str × Addr)} {outer : List Env} {A₀ : Around} {base h₀ : Heap} {L : Addr} {m : Str → Option Value} {news : List (Addr × Obj)} {s : Shared} {Q E : Value → Shared → Prop}
  (B : Below A₀ base outer h₀) (F : Fr h₀ L s.heap m) (X : (hd.heap_39 w.params).In h₀) (N : News h₀ L s.heap news) (T : Top hd.view_39 (looseW hd.view_39 []) mean mg mb h₀) (hk : cs.kind = .function)
  (hdp : dp ≤ 310) (hE : InElt H s.heap)
  (hret : ∀ (t : Tok) (h' : Heap) (tk' : Nat), Fr h₀ L h' m → News h₀ L h' news → InElt H h' → Q (.int (plc c) t) { s with heap := h', toks := tk' }) :
  wpAny (model PG w) (ktrTop dp un gd cn cs L a ccd cl outer) (call (.ref 49) [.int c tp]) Q E s := by
  refine wpAny_call ?_
  k_dflt ((refine' code_defG ?k1 ?k2 ?k3 ?k4 ?k5 ?kA ?kF ?kK ?k6 ?k7 ?k8 ?k9 ?kB ?_ ?c2 ?c3 ?c4 ?c5; (case kA => exact rfl); (case kF => exact rfl); (case kK => assumption); (case k1 => k_asm); (case k2 => k_asm); (case k3 => k_asm); (case k4 => k_asm); (case k5 => k_asm); (case k6 => k_is); (case k7 => k_is); (case k8 => ktr_room); (case k9 => exact BindsTo.of_eq rfl); (case c5 => decide); (case kB => exact locs rfl); (case c2 => exact rfl); (case c3 => exact rfl); (case c4 => exact rfl); k_whole; intro g' L' h' FG' F' N' B' X' T' kG'; (try dsimp only); (try k_lift B'); (try k_fold)))
  k_steps
  all_goals (refine cb_retE (Q := Q) hret ?_ (by assumption) (by assumption) (by assumption); unfold plc; (repeat' split) <;> omega)
end Mine
open PyProof.Rows PySem.W in
theorem Mine.flushNu : True := by w_top off; first | walk1 | trivial

/-! part Sg -/
namespace Mine
open PySem PySem.W PySem.Spec PySem.Calls PyProof.Rows
local macro_rules | `(tactic| k_steps) => `(tactic| repeat' (first | (k_unfold; (try dsimp only)) | (k_end; wrow_close) | walk1 | (dsimp only; walk1) | (leave1; walk_say "STEP leave1"; try dsimp only) | fail "no step"))
set_option maxRecDepth 100000
set_option maxHeartbeats 8000000
theorem fill5 : (PySem.Challenge.rw_aa6001_01 = PySem.Challenge.rw_aa6001_01) ∧ (hd.heap_39 = hd.heap_39) := by
  k_fill
  exact ⟨rfl, rfl⟩

abbrev SgT := List Value × List Int × Nat
abbrev sgLed (lo : Addr) (news : List (Addr × Obj)) (c : SgT) : List (Addr × Obj) := (lo, W.listOf c.1.toArray c.2.2) :: news
abbrev sgPs (lo : Addr) (ls : Addr) (_ : SgT) : List (Str × Value) := [(Str.ofString "signs", .ref lo), (Str.ofString "script", .ref ls)]
abbrev sgFa (c : SgT) : Prop := IntsAre c.1 c.2.1
def sgQ (j : Nat) (ns : List Int) : Prop := ns.length = j ∧ KBa.In ns
theorem sgQ_nil : sgQ 0 [] := ⟨rfl, fun _ h => (nomatch h)⟩
theorem sgQ_go {j : Nat} {ns : List Int} {x : Int} (h : sgQ j ns) (h0 : 0 ≤ x) (h1 : x < 256) : sgQ (j + 1) (ns ++ [x]) := by
  refine ⟨by rw [List.length_append, h.1]; rfl, fun y hy => ?_⟩
  rcases List.mem_append.mp hy with hy | hy
  · exact h.2 y hy
  · rw [List.mem_singleton.mp hy]; exact ⟨h0, h1⟩

theorem sg_end {x : Str} {stored : List Str} {m₀ : Str → Option Value} {pre : List Int} {lo ls : Addr} {news : List (Addr × Obj)} {L : Addr} {h₀ h' : Heap} {m' : Str → Option Value} {own news' : List (Addr × Obj)} {s₁ : Shared} {tk : Nat}
   {vs : List Value} {ns : List Int} {n j : Nat}
   (F : Fr h₀ L h' m') (N : News h₀ L h' news') (hn : (lo, W.listOf vs.toArray n) ∈ news') (hn2 : ∀ p ∈ news, p ∈ news') (ho : ∀ p ∈ own, p ∈ news')
   (hk : ∀ z ∈ [(Str.ofString "signs", Value.ref lo), (Str.ofString "script", .ref ls)], m' z.1 = some z.2)
   (hi : IntsAre vs ns) (hr : ∀ z, z ≠ x → (∀ y ∈ [(Str.ofString "signs", Value.ref lo), (Str.ofString "script", .ref ls)], z ≠ y.1) → stored.contains z = false → m' z = m₀ z)
   (hp : sgQ j ns) :
   InvEndN h₀ L (KstS (sgLed lo news) (sgPs lo ls) sgFa x stored m₀ (fun _ c => sgQ j c.2.1) pre) own (lo :: news.map (·.1)) s₁ { s₁ with heap := h', toks := tk } :=
  kst_end (vs, ns, n) F N (fun a ha => by
    rcases List.mem_cons.mp ha with rfl | ha
    · exact hn
    · exact hn2 a ha) ho rfl hi hk hr hp

theorem sg_iter {prog : Program} {w : World} {A : Around} {E : Value → Shared → Prop} {s : Shared} {env : Env} {h₀ : Heap} {x : Str} {body : List Stmt} {Q : Flow → Shared → Prop}
   {r : Addr} {e : Int} {t₀ u₀ v₀ : Tok} {lo ls : Addr} {news : List (Addr × Obj)} {m₀ : Str → Option Value}
   (hh : A.handled = none) (hr : IsRange s.heap r 0 e 1 t₀ u₀ v₀) (he0 : 0 ≤ e) (he1 : e ≤ 40) (F : Fr h₀ env.locals s.heap m₀) (N : News h₀ env.locals s.heap ((lo, W.listOf [].toArray 0) :: news)) (hlo : ∀ p ∈ news, p.1 < lo)
   (hk : ∀ p ∈ [(Str.ofString "signs", Value.ref lo), (Str.ofString "script", .ref ls)], m₀ p.1 = some p.2)
   (turn : ∀ (vs : List Value) (ns : List Int) (n j : Nat) (i : Int) t (u : Str → Option Value) h tk own, 0 ≤ i → i < 40 → (∀ p ∈ news ++ own, p.1 ≠ lo) → IntsAre vs ns → vs.length ≤ 40 → sgQ j ns →
      Fr h₀ env.locals h (fun y => if y = x then some (.int i t) else kstB (fun z => if ([Str.ofString "drawn", Str.ofString "kind"] : List Str).contains z then u z else m₀ z) [(Str.ofString "signs", .ref lo), (Str.ofString "script", .ref ls)] y) →
      News h₀ env.locals h ((lo, W.listOf vs.toArray n) :: (news ++ own)) →
      wpAny (model prog w) A (execs body env) (InvPostN h₀ env.locals (KstS (sgLed lo news) (sgPs lo ls) sgFa x [Str.ofString "drawn", Str.ofString "kind"] m₀ (fun _ c => sgQ (j + 1) c.2.1) []) own (lo :: news.map (·.1)) { s with heap := h, toks := tk } Q) E { s with heap := h, toks := tk })
   (done : ∀ (vs : List Value) (ns : List Int) (n : Nat) (u : Str → Option Value) h tk, IntsAre vs ns → ns.length ≤ 40 → KBa.In ns →
      Fr h₀ env.locals h (fun y => if y = x then u y else kstB (fun z => if ([Str.ofString "drawn", Str.ofString "kind"] : List Str).contains z then u z else m₀ z) [(Str.ofString "signs", .ref lo), (Str.ofString "script", .ref ls)] y) →
      News h₀ env.locals h ((lo, W.listOf vs.toArray n) :: news) → Q .next { s with heap := h, toks := tk }) :
   wpAny (model prog w) A (pyIter (.ref r)) (fun it s₂ => LoopAtV prog w A h₀ env x body Q E it s₂) E s := by
  obtain ⟨k, rfl⟩ : ∃ k : Nat, e = k := ⟨e.toNat, by omega⟩
  have hsm : ∀ n : Nat, n < 41 → Builtin.Range.small 0 (n : Int) 1 = true := by decide +kernel
  have hrs : Builtin.Range.rangeSize 0 (k : Int) 1 = (k : Int) := by
    unfold Builtin.Range.rangeSize; rw [if_pos (by decide)]; split <;> omega
  refine rng_iter (σ := SgT) (sgLed lo news) (sgPs lo ls) sgFa [Str.ofString "drawn", Str.ofString "kind"] (fun j c => sgQ j c.2.1) ([], [], 0) hh hr (hsm k (by omega)) hrs F N IntsAre.nil hk sgQ_nil ?_ ?_
  · rintro ⟨vs, ns, n⟩ j t u h tk own e1 e2 e3 e4 F2 N2
    have e5 := e3.length
    have e6 := e4.1
    dsimp only at e3 e4 e5 e6
    exact turn vs ns n j _ t u h tk own (by omega) (by omega) (apart_own hlo e2) e3 (by omega) e4 F2 N2
  · rintro ⟨vs, ns, n⟩ u h tk e3 e4 F2 N2
    have e6 := e4.1
    dsimp only at e3 e4 e6
    exact done vs ns n u h tk e3 (by omega) e4.2 F2 N2

local macro_rules | `(tactic| k_room) => `(tactic| ((simp only [depth_under_make, depth_under_kw, depth_in1, depth_deeper, depth_caller, ktrTop, recLim] at *); omega))
local macro_rules | `(tactic| k_units) => `(tactic| ((have hcL9 := cLine_is); (simp only [units_in1, units_deeper, Around.mark_units, units_caller, ktrTop] at *); omega))
local macro_rules | `(tactic| walk_at "call ref") => `(tactic| (k_here; (with_reducible show wpAny _ _ (call (Value.ref 42) [Value.ref _, Value.int _ _]) _ _ _); k_dflt (refine num_ct (by k_asm) (by k_asm) (by k_asm) (by k_asm) (by k_asm) (by exact rfl) (by dsimp only; omega) (by k_asm) (by assumption) (by omega) (by omega) (by omega) ?_); intro v' t' h' tk' hv' F' N'; (try k_fold)))
local macro_rules | `(tactic| walk_at "call ref") => `(tactic| (k_here; (with_reducible show wpAny _ _ (call (Value.ref 49) [Value.int _ _]) _ _ _); k_dflt (refine plc_ct (by k_asm) (by k_asm) (by k_asm) (by k_asm) (by k_asm) (by exact rfl) (by dsimp only; omega) ?_); intro t' h' tk' F' N'; (try k_fold)))
local macro_rules | `(tactic| walk_at "call ref") => `(tactic| (k_here; (with_reducible show wpAny _ _ (call (Value.ref 49) [Value.int _ _]) _ _ _); k_dflt ((rename InElt _ _ => kE9); (refine plc_ctE (by k_asm) (by k_asm) (by k_asm) (by k_asm) (by k_asm) (by exact rfl) (by dsimp only; omega) kE9 ?_); clear kE9); intro t' h' tk' F' N' kE'; (try k_fold)))
local macro_rules | `(tactic| walk_at "eval Call") => `(tactic| (k_here; (with_reducible show wpAny _ _ (eval (Expr.Call (Expr.Name _ _) _ [] _) _) _ _ _); k_dflt (refine Call_ ?_)))
local macro_rules | `(tactic| walk_at "call type:range") => `(tactic| (k_here; (with_reducible show wpAny _ _ (call _ [_]) _ _ _); (rename Fr _ _ _ _ => F'); (rename News _ _ _ _ => N'); (with_unfolding_all refine range1_rows F' N' ?_); intro _ _ _ _ _ _ _ _ _))
theorem ints_app {vs : List Value} {ns : List Int} (h : IntsAre vs ns) (x : Int) (t : Tok) : IntsAre (vs ++ [.int x t]) (ns ++ [x]) := h.append (.cons x t .nil)
theorem len_car {prog : Program} {w : World} {A : Around} {E : Value → Shared → Prop} {s : Shared} {D : Addr} {ys : List Value} {f : Int → Bool} {ns : List Int} {Q : Value → Shared → Prop} (hl : s.heap.IsList D ys.toArray) (hc : CarriedAll ys ((ns.filter f).map PyData.int)) (hn : ns.length ≤ 1000)
   (h : ∀ k : Int, 0 ≤ k → k ≤ ns.length → ∀ t tk, Q (.int k t) { s with toks := tk }) : wpAny (model prog w) A (call (.builtin "len") [.ref D]) Q E s := by
  have h1 := hc.length_eq
  rw [List.length_map] at h1
  have h2 := List.length_filter_le f ns
  exact kun_lenL hl rfl (by simp only [List.size_toArray]; omega) (h _ (by simp only [List.size_toArray]; omega) (by simp only [List.size_toArray]; omega) _ _)
theorem inplace_ic {M : Model} {A : Around} {E : Value → Shared → Prop} {s : Shared} {a b : Value} {T id : String} {Q : Value → Shared → Prop} (ha : s.TypeIs a T) (hb : s.TypeIs b T)
    (hi : typeLookup (.type T) (dunderI "add") = pure (some (.builtin id))) (hq : isSeqSlot (some (.builtin id)) = true) (hfill : fillsNumberSlot (.type T) "add" = pure false)
    (hc : wpAny M A (call (.builtin id) [a, b]) Q E s) : wpAny M A (inplaceOp .Add a b) Q E s := by
  unfold inplaceOp
  refine wpAny_holding ?_
  have hfi : fillsInplaceSlot (.type T) "add" (Operator.Add == .Add) = pure false := by
    unfold fillsInplaceSlot
    show (typeLookup (.type T) (dunderI "add") >>= fun fi => pure (fi.isSome && !isSeqSlot fi)) = pure false
    rw [hi, pure_bind, hq]; rfl
  have hsi : seqSlot? (.type T) (dunderI "add") = pure (some (.builtin id)) := PySem.seqSlot_of hi hq
  refine wpAny_bind (wpAny_typeOf ha (wpAny_bind (wpAny_of_eq hfi ?_)))
  show wpAny M A (if false = true then _ else _) Q E s
  rw [if_neg Bool.false_ne_true]
  refine wpAny_bind (wpAny_binaryOp1_none (nm := "add") ha hb hfill ?_)
  refine wpAny_bind (wpAny_of_eq hsi ?_)
  exact wpAny_bind (wpAny_rule hc)
theorem news_iadd {prog : Program} {w : World} {A : Around} {E : Value → Shared → Prop} {s : Shared} {h₀ : Heap} {L lo b : Addr} {m : Str → Option Value} {news : List (Addr × Obj)} {news' : Nat → List (Addr × Obj)} {its : Array Value} {ws : List Value} {n n2 : Nat} {Q : Value → Shared → Prop}
   (F : Fr h₀ L s.heap m) (N : News h₀ L s.heap news) (hb : (b, W.listOf ws.toArray n2) ∈ news) (hwl : ws.length ≤ 100)
   (U : ∀ n', Upd lo (W.listOf its n) (W.listOf (its.toList ++ ws).toArray n') news (news' n')) (hvl : its.size ≤ 100000) (h : ∀ n' h', Fr h₀ L h' m → News h₀ L h' (news' n') → Q (.ref lo) { s with heap := h' }) :
   wpAny (model prog w) A (inplaceOp .Add (.ref lo) (.ref b)) Q E s := by
  have ee : its ++ ws.toArray = (its.toList ++ ws).toArray := by apply Array.toList_inj.mp; simp
  have key : ∀ n', (n' = if ((its ++ ws.toArray).size == its.size) = true then n else n + 1) → wpAny (model prog w) A (inplaceOp .Add (.ref lo) (.ref b)) Q E s := by
    intro n' hn'
    obtain ⟨pre, post, rfl, e2, a, c⟩ := (U n').split
    have z := N (lo, W.listOf its n) (List.mem_append.mpr (.inr (.head _)))
    refine inplace_ic ⟨_, z.1, rfl⟩ ⟨_, (N _ hb).1, rfl⟩ PySem.F.slot_list_iadd.lookup (by decide +kernel) noFill_list_add ?_
    refine call_meets PySem.F.slot_list_iadd ⟨_, z.1, rfl⟩ PySem.F.entry_list_iadd (PySem.F.args_list_iadd_2 _ _) (PySem.AutoSeq1.list___iadd___list_list_0 lo its n b ws.toArray n2 (by simp [Builtin.List.listTooLong, sizeLine_eq]; omega) (by simp [sizeLine_eq]; omega) (by simp [sizeLine_eq]; omega)) ⟨z.1, (N _ hb).1, ?_⟩
    refine h n' _ (F.change (Heap.SameBut.update ..) z.2.1 z.2.2) ?_
    rw [e2]
    refine news_set N a c (Heap.SameBut.update ..) ?_
    have q := PySem.IsL.update z.1 (fun x => x ++ ws.toArray)
    rw [← hn'] at q
    rw [← ee]
    exact q
  exact key _ rfl
theorem ints_rep (t : Tok) : ∀ k : Nat, IntsAre (List.replicate k [Value.int 61 t]).flatten (List.replicate k 61)
  | 0 => .nil
  | k + 1 => by
    rw [List.replicate_succ, List.replicate_succ, List.flatten_cons]
    exact .cons 61 t (ints_rep t k)
theorem rep_len (t : Tok) (k : Int) : (List.replicate (Int.fmod k 4).toNat [Value.int 61 t]).flatten.length ≤ 100 := by
  have h1 := Int.fmod_lt_of_pos k (by decide : (0:Int) < 4)
  rw [(ints_rep t _).length, List.length_replicate]
  omega
theorem in_rep {ns : List Int} (h : KBa.In ns) (k : Nat) : KBa.In (ns ++ List.replicate k 61) := by
  intro x hx
  rcases List.mem_append.mp hx with hx | hx
  · exact h x hx
  · rw [(List.mem_replicate.mp hx).2]; omega
theorem in_one {ns : List Int} (h : KBa.In ns) {y : Int} (h0 : 0 ≤ y) (h1 : y < 256) : KBa.In (ns ++ [y]) := by
  intro x hx
  rcases List.mem_append.mp hx with hx | hx
  · exact h x hx
  · rw [List.mem_singleton.mp hx]; exact ⟨h0, h1⟩
theorem len_rep {ns : List Int} {k n : Int} (hk : ns.length ≤ 41) : (ns ++ List.replicate (Int.fmod k 4).toNat n).length ≤ 100 := by
  have h1 := Int.fmod_lt_of_pos k (by decide : (0:Int) < 4)
  rw [List.length_append, List.length_replicate]; omega
theorem neq_of_lt {lo : Addr} {news : List (Addr × Obj)} (h : ∀ p ∈ news, p.1 < lo) : ∀ p ∈ news, p.1 ≠ lo := fun p hp => Nat.ne_of_lt (h p hp)
theorem r0 (a : Int) : 0 ≤ 4 + Int.fmod a 30 := by have := Int.fmod_nonneg_of_pos a (by decide : (0:Int) < 30); omega
theorem r1 (a : Int) : 4 + Int.fmod a 30 ≤ 40 := by have := Int.fmod_lt_of_pos a (by decide : (0:Int) < 30); omega
theorem ord_st1 {prog : Program} {w : World} {A : Around} {E : Value → Shared → Prop} {s : Shared} {c : Nat} {t : Tok} {Q : Value → Shared → Prop} (h : ∀ t' k, Q (.int c t') { s with toks := k }) : wpAny (model prog w) A (call (.builtin "ord") [.str (st1 c) t]) Q E s :=
  P.ord_of_char (h _ _)
theorem oth_lt (a : Int) : 0 ≤ [32, 10, 45, 46, 33, 95, 44, 200].getD (Int.fmod a 8).toNat (0 : Int) ∧ [32, 10, 45, 46, 33, 95, 44, 200].getD (Int.fmod a 8).toNat (0 : Int) < 256 := by
  have h0 := Int.fmod_nonneg_of_pos a (by decide : (0:Int) < 8)
  have h1 := Int.fmod_lt_of_pos a (by decide : (0:Int) < 8)
  have h2 : (Int.fmod a 8).toNat < 8 := by omega
  revert h2
  generalize (Int.fmod a 8).toNat = n
  revert n
  decide
local macro_rules | `(tactic| walk_at "subscriptTail Name BinOp str int") => `(tactic| (k_here; (with_reducible show wpAny _ _ (subscriptTail _ _ (Value.str (Str.ofString "ABCDEFGHIJKLMNOPQRSTUVWXYZabcdefghijklmnopqrstuvwxyz0123456789+/") _) (Value.int (Int.fmod _ 64) _)) _ _ _); (refine sub_alph (Int.fmod_nonneg_of_pos _ (by decide)) (Int.fmod_lt_of_pos _ (by decide)) ?_); intro _ _))
local macro_rules | `(tactic| walk_at "call builtin:ord") => `(tactic| (k_here; (with_reducible show wpAny _ _ (call (Value.builtin "ord") [Value.str (st1 _) _]) _ _ _); (refine ord_st1 ?_); intro _ _))
local macro_rules | `(tactic| walk_at "call builtin:len") => `(tactic| (k_here; (refine len_car (by assumption) (by assumption) (by omega) ?_); intro k9 h90 h91 t9 tk9))
local macro_rules | `(tactic| walk_at "inplaceOp Add ref") => `(tactic| (k_here; k_dflt (refine news_iadd (by k_asm) (by k_asm) (by k_mem) (rep_len _ _) (by intro n'; k_upd) (by simp only [List.size_toArray, Array.size_push]; omega) ?_); intro n' h' F' N'))
local macro_rules | `(tactic| k_all) => `(tactic| first | assumption | exact neq_of_lt (by assumption))

theorem sg_b' (k : Int) (h : k < 64) : (0 : Int) ≤ (sg k : Int) ∧ ((sg k : Nat) : Int) < 256 := by
  have := sg_lt k h; omega
local macro_rules | `(tactic| walk_at "InvEndN") => `(tactic| ((with_reducible rename News _ _ _ _ => zN9); (simp only [List.push_toArray] at zN9); refine sg_end (by assumption) (by assumption) (by k_dflt k_mem) (by (intro p hp; repeat (first | exact List.mem_append_left _ hp | apply List.mem_cons_of_mem))) (by (intro p hp; repeat (first | exact List.mem_append_right _ hp | apply List.mem_cons_of_mem))) (by kst_all) (ints_app (by assumption) _ _) (by kst_same) ?_; first | exact sgQ_go (by assumption) (by decide) (by decide) | exact sgQ_go (by assumption) (oth_lt _).1 (oth_lt _).2 | exact sgQ_go (by assumption) (sg_b' _ (Int.fmod_lt_of_pos _ (by decide))).1 (sg_b' _ (Int.fmod_lt_of_pos _ (by decide))).2))

theorem sgn_ct {w : World} {mean : ExcName → Option Value} {mg mb : Str → Option Value}
  {l : Addr} {vs : List Value} {ns : List Int} (hi : IntsAre vs ns) (hns : ns.length ≤ 1000)
  {dp un : Nat} {gd : Option (List Code)} {cn : Str} {cs : Scope} {a : Addr} {ccd : Value} {cl : List (Str × Addr)} {outer : List Env} {A₀ : Around} {base h₀ : Heap} {L : Addr} {m : Str → Option Value} {news : List (Addr × Obj)} {s : Shared} {Q E : Value → Shared → Prop}
  (B : Below A₀ base outer h₀) (F : Fr h₀ L s.heap m) (X : (hd.heap_39 w.params).In h₀) (N : News h₀ L s.heap news) (T : Top hd.view_39 (looseW hd.view_39 []) mean mg mb h₀) (hk : cs.kind = .function)
  (hdp : dp ≤ 305) (hli : base.IsList l vs.toArray)
  (hret : ∀ D us zs c h' tk', Fr h₀ L h' m → News h₀ L h' ((D, W.listOf us.toArray c) :: news) → (∀ p ∈ news, p.1 < D) → IntsAre us zs → zs.length ≤ 100 → KBa.In zs → Q (.ref D) { s with heap := h', toks := tk' }) :
  wpAny (model PG w) (ktrTop dp un gd cn cs L a ccd cl outer) (call (.ref 54) [.ref l]) Q E s := by
  have hfit := hi.length
  refine wpAny_call ?_
  k_dflt cell_enter
  repeat' ((fail_if_success (with_reducible show wpAny _ _ (pyIter (Value.ref _)) _ _ _)); (first | (k_unfold; (try dsimp only)) | (k_end; wrow_close) | walk1 | (dsimp only; walk1) | (leave1; walk_say "STEP leave1"; try dsimp only) | fail "no step"))
  rename Fr _ _ _ _ => lF'
  rename News _ _ _ _ => N'
  refine sg_iter rfl (by assumption) (r0 _) (r1 _) (by assumption) (cb_drop N' ?mm) (by assumption) (by kst_all) ?turn ?done
  case mm => exact fun p hp => hp
  case turn =>
    intro vs2 ns2 n j i t u h tk own q1 q2 q3 q4 q5 q6 F2 N2
    simp only [kstB] at F2
    clear lF' N'
    k_steps
  case done =>
    intro vs2 ns2 n u h tk e3 e4 e5 F2 N2
    have e6 := e3.length
    simp only [kstB] at F2
    clear lF' N'
    k_steps
    all_goals (with_reducible rename News _ _ _ _ => zN9)
    all_goals (try simp only [List.push_toArray] at zN9)
    all_goals first
      | exact hret _ _ _ _ _ _ (by assumption) (cb_drop (by assumption) (fun _ hp => hp)) (by assumption) (by assumption) (by omega) (by assumption)
      | exact hret _ _ _ _ _ _ (by assumption) (cb_drop (by assumption) (fun _ hp => .tail _ (.tail _ hp))) (by assumption) (IntsAre.append (by assumption) (ints_rep _ _)) (len_rep (by omega)) (in_rep (by assumption) _)
      | exact hret _ _ _ _ _ _ (by assumption) (cb_drop (by assumption) (fun _ hp => .tail _ (.tail _ hp))) (by assumption) (IntsAre.append (ints_app (by assumption) _ _) (ints_rep _ _)) (len_rep (by rw [List.length_append, List.length_singleton]; omega)) (in_rep (in_one (by assumption) (by decide) (by decide)) _)
      | skip
end Mine
open PyProof.Rows PySem.W in
theorem Mine.flushSg : True := by w_top off; first | walk1 | trivial

/-! part Ib -/
namespace Mine
open PySem PySem.W PySem.Spec PySem.Calls PyProof.Rows PySem.NumText
set_option maxRecDepth 100000
set_option maxHeartbeats 8000000
theorem typeCall_int_2 (a b : Value) : checkTypeCall "int" ⟨[a, b], []⟩ = pure () := by kernel_rfl
theorem newCall_int_2 (a b : Value) : checkBuiltinCall "int.__new__" ⟨[.type "int", a, b], []⟩ = pure () := by kernel_rfl
noncomputable def rd2 (t : List Nat) : Option Int := (int_private% "Numeral.casesOn") (motive := fun _ => Option Int) ((int_private% "readNumeral") 0 2 t) none (fun _ => none) none (fun i => some i)
theorem rd2_of {t : List Nat} {n : Int} (h : rd2 t = some n) : (int_private% "readNumeral") 0 2 t = (int_private% "Numeral.value") n := by
  unfold rd2 at h
  revert h
  generalize (int_private% "readNumeral") 0 2 t = z
  intro h
  cases z
  · cases h
  · cases h
  · cases h
  · cases h; rfl
noncomputable def bitsN (n : Nat) : Nat → List Nat
  | 0 => []
  | k + 1 => n / 2 ^ k % 2 :: bitsN n k
theorem rd2_8 : ∀ n : Nat, n < 256 → rd2 ((bitsN n 8).map (· + 48)) = some (n : Int) := by decide +kernel
theorem rd2_6 : ∀ n : Nat, n < 64 → rd2 ((bitsN n 6).map (· + 48)) = some (n : Int) := by decide +kernel
theorem wp_text2 {M : Model} {A : Around} {E : Value → Shared → Prop} {s : Shared} {Q : Value → Shared → Prop} {v : Value} {text : List Nat} {n : Int}
    (hs : (text.takeWhile (· != 0)).length ≤ 640) (hr : (int_private% "readNumeral") 0 2 (text.takeWhile (· != 0)) = (int_private% "Numeral.value") n)
    (ha : ((text.takeWhile (· != 0)).length == text.length) = true) (h : Q (.int n s.toks) { s with toks := s.toks + 1 }) :
    wpAny M A ((int_private% "intFromText") v text 2) Q E s := by
  obtain ⟨hp, g, d, tk, os⟩ := s
  repeat (any_goals (first
    | assumption
    | (with_reducible refine wpAny_ite_true (decide_eq_true hs) ?_)
    | (with_reducible refine wpAny_ite_true (decide_eq_true ha) ?_)
    | wp_step))
  all_goals (try rw [hr])
  all_goals (try dsimp only)
  repeat (any_goals (first
    | assumption
    | (with_reducible refine wpAny_ite_true (decide_eq_true hs) ?_)
    | (with_reducible refine wpAny_ite_true (decide_eq_true ha) ?_)
    | wp_step))
theorem gives_text2 {x : PySem.Str} {u u2 : Tok} {n : Int} (hk : W.KIN.Hid ((numSeenOf x).length ≤ 640 ∧ (int_private% "readNumeral") 0 2 (numSeenOf x) = (int_private% "Numeral.value") n ∧ ((numSeenOf x).length == (numTextOf x).length) = true)) :
    Gives (Builtin.«int.__new__» ⟨[.type "int", .str x u, .int 2 u2], []⟩) (.int n) :=
  .of_wp fun M A E s Q h => by
    obtain ⟨hp, g, d, tk, os⟩ := s
    have f1 := F.conv_sub_int
    have f2 := F.madeHere_int
    have f3 := KIN.str_int
    have f4 := KIN.str_idx
    have f5 := KIN.str_trunc
    have f6 : typeOf (.str x u) = pure (.type "str") := rfl
    have f7 := AutoSeq1.idx_int
    repeat (any_goals (first
      | assumption
      | ((with_reducible show wpAny _ _ ((int_private% "intFromText") _ _ _) _ _ _); refine wp_text2 hk.out.1 hk.out.2.1 hk.out.2.2 ?_)
      | wp_step))
    all_goals exact ⟨_, rfl, h⟩
def bstr (bl : List Nat) : Str := ⟨(bl.map (· + 48)).toArray⟩
theorem bits_lt (n : Nat) : ∀ k, ∀ b ∈ bitsN n k, b < 2
  | 0, _, h => nomatch h
  | k + 1, b, h => by
    rcases List.mem_cons.mp h with rfl | h
    · omega
    · exact bits_lt n k b h
theorem bits_len (n : Nat) : ∀ k, (bitsN n k).length = k
  | 0 => rfl
  | k + 1 => congrArg Nat.succ (bits_len n k)
theorem hid_bits {bl : List Nat} {n : Int} (hb : ∀ b ∈ bl, b < 2) (hl : bl.length ≤ 640) (hr : rd2 (bl.map (· + 48)) = some n) :
    W.KIN.Hid ((numSeenOf (bstr bl)).length ≤ 640 ∧ (int_private% "readNumeral") 0 2 (numSeenOf (bstr bl)) = (int_private% "Numeral.value") n ∧ ((numSeenOf (bstr bl)).length == (numTextOf (bstr bl)).length) = true) := by
  have h1 : ∀ c ∈ (bstr bl).cps.toList, c = 45 ∨ (48 ≤ c ∧ c ≤ 57) := by
    intro c hc
    obtain ⟨b, hb', rfl⟩ := List.mem_map.mp hc
    have := hb b hb'
    omega
  obtain ⟨e1, e2⟩ := numText_signs h1
  have e3 : (bstr bl).cps.toList = bl.map (· + 48) := rfl
  refine ⟨?_, ?_, ?_⟩
  · rw [e2, e3, List.length_map]; exact hl
  · rw [e2, e3]; exact rd2_of hr
  · rw [e1, e2]; exact beq_self_eq_true _
theorem call_int2 {prog : Program} {w : World} {A : Around} {E : Value → Shared → Prop} {s : Shared} {Q : Value → Shared → Prop} {bl : List Nat} {t u : Tok} {n : Int} (hb : ∀ b ∈ bl, b < 2) (hl : bl.length ≤ 640) (hr : rd2 (bl.map (· + 48)) = some n)
    (h : ∀ t' k, Q (.int n t') { s with toks := k }) : wpAny (model prog w) A (call (.type "int") [.str (bstr bl) t, .int 2 u]) Q E s :=
  callType_new F.called_int F.newNe_int (typeCall_int_2 _ _) (newCall_int_2 _ _) (fun obj => F.args_object_init_3 obj _ _) F.entry_int_new (gives_text2 (hid_bits hb hl hr)).meets (show (Made.int n).post _ s from ⟨rfl, h _ _⟩)
def valN (l : List Nat) : Nat := l.foldl (fun a b => a * 2 + b) 0
theorem valN_foldl (l : List Nat) : ∀ a, l.foldl (fun a b => a * 2 + b) a = a * 2 ^ l.length + valN l := by
  induction l with
  | nil => intro a; simp [valN]
  | cons b l ih =>
    intro a
    show l.foldl _ (a * 2 + b) = _
    rw [ih]
    have e : valN (b :: l) = b * 2 ^ l.length + valN l := by
      show l.foldl _ (0 * 2 + b) = _
      rw [ih, Nat.zero_mul, Nat.zero_add]
    rw [e, List.length_cons, Nat.pow_succ, Nat.add_mul, Nat.mul_assoc, Nat.mul_comm 2, Nat.add_assoc]
theorem valN_cons (b : Nat) (l : List Nat) : valN (b :: l) = b * 2 ^ l.length + valN l := by
  show l.foldl (fun a b => a * 2 + b) (0 * 2 + b) = _
  rw [valN_foldl, Nat.zero_mul, Nat.zero_add]
theorem valN_lt : ∀ l : List Nat, (∀ b ∈ l, b < 2) → valN l < 2 ^ l.length
  | [], _ => by decide
  | b :: l, h => by
    have h1 := valN_lt l fun c hc => h c (.tail _ hc)
    have h2 := h b (.head _)
    rw [valN_cons, List.length_cons, Nat.pow_succ]
    have : b = 0 ∨ b = 1 := by omega
    rcases this with rfl | rfl <;> omega
theorem bitsN_add (b v : Nat) : ∀ k j : Nat, k ≤ j → bitsN (b * 2 ^ j + v) k = bitsN v k
  | 0, _, _ => rfl
  | k + 1, j, h => by
    show (b * 2 ^ j + v) / 2 ^ k % 2 :: bitsN (b * 2 ^ j + v) k = v / 2 ^ k % 2 :: bitsN v k
    rw [bitsN_add b v k j (by omega)]
    obtain ⟨d, rfl⟩ : ∃ d, j = k + 1 + d := ⟨j - (k + 1), by omega⟩
    have e : b * 2 ^ (k + 1 + d) + v = v + (b * 2 ^ d * 2) * 2 ^ k := by
      rw [Nat.pow_add, Nat.pow_succ, Nat.mul_comm (2 ^ k * 2), ← Nat.mul_assoc, Nat.mul_comm (2 ^ k) 2, ← Nat.mul_assoc]
      omega
    rw [e, Nat.add_mul_div_right _ _ (Nat.pow_pos (by decide)), Nat.add_mul_mod_self_right]
theorem bits_val : ∀ l : List Nat, (∀ b ∈ l, b < 2) → bitsN (valN l) l.length = l
  | [], _ => rfl
  | b :: l, h => by
    have h2 := h b (.head _)
    have h0 : ∀ c ∈ l, c < 2 := fun c hc => h c (.tail _ hc)
    have h1 := valN_lt l h0
    show valN (b :: l) / 2 ^ l.length % 2 :: bitsN (valN (b :: l)) l.length = b :: l
    rw [valN_cons, bitsN_add b _ _ _ (Nat.le_refl _), bits_val l h0]
    rw [Nat.add_comm, Nat.add_mul_div_right _ _ (Nat.pow_pos (by decide)), Nat.div_eq_of_lt h1, Nat.zero_add, Nat.mod_eq_of_lt h2]
theorem call_int8 {prog : Program} {w : World} {A : Around} {E : Value → Shared → Prop} {s : Shared} {Q : Value → Shared → Prop} {bl : List Nat} {t u : Tok} (hb : ∀ b ∈ bl, b < 2) (hl : bl.length = 8)
    (h : ∀ t' k, Q (.int (valN bl : Nat) t') { s with toks := k }) : wpAny (model prog w) A (call (.type "int") [.str (bstr bl) t, .int 2 u]) Q E s := by
  have h1 := valN_lt bl hb
  have h2 := bits_val bl hb
  rw [hl] at h1 h2
  have h3 := rd2_8 (valN bl) h1
  rw [h2] at h3
  exact call_int2 hb (by omega) h3 h
theorem call_int6 {prog : Program} {w : World} {A : Around} {E : Value → Shared → Prop} {s : Shared} {Q : Value → Shared → Prop} {bl : List Nat} {t u : Tok} (hb : ∀ b ∈ bl, b < 2) (hl : bl.length = 6)
    (h : ∀ t' k, Q (.int (valN bl : Nat) t') { s with toks := k }) : wpAny (model prog w) A (call (.type "int") [.str (bstr bl) t, .int 2 u]) Q E s := by
  have h1 := valN_lt bl hb
  have h2 := bits_val bl hb
  rw [hl] at h1 h2
  have h3 := rd2_6 (valN bl) h1
  rw [h2] at h3
  exact call_int2 hb (by omega) h3 h
end Mine
open PyProof.Rows PySem.W in
theorem Mine.flushIb : True := by w_top off; first | walk1 | trivial

/-! part Rd -/
namespace Mine
open PySem PySem.W PySem.Spec PySem.Calls PyProof.Rows
local macro_rules | `(tactic| k_steps) => `(tactic| repeat' (first | (k_unfold; (try dsimp only)) | (k_end; wrow_close) | walk1 | (dsimp only; walk1) | (leave1; walk_say "STEP leave1"; try dsimp only) | fail "no step"))
set_option maxRecDepth 100000
set_option maxHeartbeats 1600000
theorem fill6 : (PySem.Challenge.rw_aa6001_01 = PySem.Challenge.rw_aa6001_01) ∧ (hd.heap_39 = hd.heap_39) := by
  k_fill
  exact ⟨rfl, rfl⟩
abbrev RSt := List Nat × Int × Int
noncomputable def rdStep (c : RSt) (x : Int) : RSt := if x = 61 then (c.1, c.2.1 + 1, c.2.2) else if 0 ≤ plc x then (c.1 ++ bitsN (plc x).toNat 6, 0, c.2.2 + 1) else c
noncomputable def rdRun (zs : List Int) : RSt := zs.foldl rdStep ([], 0, 0)
theorem rdRun_snoc (zs : List Int) (x : Int) : rdRun (zs ++ [x]) = rdStep (rdRun zs) x := by unfold rdRun; rw [List.foldl_append]; rfl
theorem rdRun_len : ∀ zs : List Int, (rdRun zs).1.length ≤ 6 * zs.length := by
  intro zs
  have key : ∀ (zs : List Int) (c : RSt), (zs.foldl rdStep c).1.length ≤ c.1.length + 6 * zs.length := by
    intro zs
    induction zs with
    | nil => intro c; simp
    | cons x zs ih =>
      intro c
      have h1 := ih (rdStep c x)
      have h2 : (rdStep c x).1.length ≤ c.1.length + 6 := by
        unfold rdStep
        split
        · simp
        · split
          · simp [bits_len]
          · simp
      rw [List.foldl_cons, List.length_cons]
      omega
  have := key zs ([], 0, 0)
  rw [List.length_nil, Nat.zero_add] at this
  exact this
def TPost (h₀ : Heap) (L : Addr) (J : (Str → Option Value) → List (Addr × Obj) → Prop) (own : List (Addr × Obj)) (adr : List Addr) (s₁ : Shared) (f : Flow) (s₂ : Shared) : Prop := f = .next ∧ InvEndN h₀ L J own adr s₁ s₂
theorem iter_T {prog : Program} {w : World} {A : Around} {E : Value → Shared → Prop} {s : Shared} {env : Env} {h₀ : Heap} {target : PySem.Expr} {body : List Stmt} {Q : Flow → Shared → Prop} {l : Addr} {vs : List Value} {ns : List Int} {nn : Nat} {m₀ : Str → Option Value} {news : List (Addr × Obj)} (J : Nat → (Str → Option Value) → List (Addr × Obj) → Prop)
    (hh : A.handled = none) (hl : (l, W.listOf vs.toArray nn) ∈ news) (hi : IntsAre vs ns) (F : Fr h₀ env.locals s.heap m₀) (N : News h₀ env.locals s.heap news) (hj : J 0 m₀ news)
    (turn : ∀ i n t m₁ news₁ s₁ own, ns[i]? = some n → news₁.map (·.1) = news.map (·.1) → OwnOff own (news.map (·.1)) → (l, W.listOf vs.toArray nn) ∈ news₁ → J i m₁ news₁ → Fr h₀ env.locals s₁.heap m₁ → News h₀ env.locals s₁.heap (news₁ ++ own) →
      wpAny (model prog w) A (assign target env (.int n t)) (fun _ s₃ => wpAny (model prog w) A (execs body env) (TPost h₀ env.locals (fun m' nx => (l, W.listOf vs.toArray nn) ∈ nx ∧ J (i + 1) m' nx) own (news.map (·.1)) s₁) E s₃) E s₁)
    (done : ∀ m₁ news₁ h tk, (l, W.listOf vs.toArray nn) ∈ news₁ → J ns.length m₁ news₁ → Fr h₀ env.locals h m₁ → News h₀ env.locals h news₁ → Q .next { s with heap := h, toks := tk }) :
    wpAny (model prog w) A (pyIter (.ref l)) (fun it s₂ => LoopAtT prog w A h₀ env target body Q E it s₂) E s := by
  have hol : s.heap.get? l = some (W.listOf vs.toArray nn) := (N _ hl).1
  have hls : s.heap.IsList l vs.toArray := ⟨_, hol, rfl, nn, rfl⟩
  have hne : l ≠ s.heap.objs.size := Nat.ne_of_lt (Heap.lt_size hol)
  refine wpAny_pyIter_list hls ?_
  have Wk := Walks.list (prog := prog) (w := w) hh s.heap.objs.size l hne vs.toArray
  have hlen : vs.toArray.size = ns.length := by simp [hi.length]
  rw [hlen] at Wk
  refine ⟨_, _, _, ns.length, _, _, m₀, news, (fun i m nx => nx.map (·.1) = news.map (·.1) ∧ (l, W.listOf vs.toArray nn) ∈ nx ∧ J i m nx), rfl, Wk, ?_, ?_, ?_, ⟨⟨_, Heap.get?_push_size _ rfl, rfl, rfl⟩, hls.at fun o e => Heap.get?_push_of_some _ e⟩, F.push _, (fun p hp => ⟨Heap.get?_push_of_some _ (N p hp).1, (N p hp).2⟩), (fun i s' v Q' st hQ' => letGo_listiter st.1 hQ'), ⟨rfl, hl, hj⟩, ?_, ?_⟩
  · intro hm
    rcases List.mem_cons.mp hm with e | hm
    · exact absurd F.ns.lt (e ▸ Nat.lt_irrefl _)
    · exact (N _ hl).2.1 ((List.mem_singleton.mp hm).symm)
  · intro b hb
    rw [List.mem_singleton.mp hb]
    exact next_is_new F
  · intro p hp hI
    exact absurd (Heap.lt_size (N p hp).1) ((List.mem_singleton.mp hI) ▸ Nat.lt_irrefl _)
  · rintro i v m₁ news₁ s₁ own hin hP ⟨hadr, hl₁, hJ⟩ hoff hown hget hfp _ F₁ N₁
    have hsep : OwnOff (own.filter fun p => decide (p.1 = s.heap.objs.size)) (news.map (·.1)) := by
      intro p hp b hb e
      obtain ⟨q, hq, rfl⟩ := List.mem_map.mp hb
      have h1 : p.1 = s.heap.objs.size := by simpa using (List.mem_filter.mp hp).2
      exact absurd (Heap.lt_size (N q hq).1) (by rw [← e, h1]; exact Nat.lt_irrefl _)
    have hlt' : i < ns.length := hin
    obtain ⟨t, hx⟩ := hi.get i ns[i] (by simp [hlt'])
    have hv : v = .int ns[i] t := by
      have hP' : vs[i]? = some v := by simpa using hP
      rw [hx] at hP'; exact (Option.some.inj hP').symm
    subst hv
    have N₂ : News h₀ env.locals s₁.heap (news₁ ++ own.filter fun p => decide (p.1 = s.heap.objs.size)) := fun p hp => N₁ p ((List.mem_append.mp hp).elim (fun h => List.mem_append.mpr (.inr h)) fun h => List.mem_append.mpr (.inl ((List.mem_filter.mp h).1)))
    have hlo : s₁.heap.get? l = some (W.listOf vs.toArray nn) := (N₁ _ (List.mem_append.mpr (.inr hl₁))).1
    refine wpAny_mono (turn i ns[i] t m₁ news₁ s₁ _ (by simp [hlt']) hadr hsep hl₁ hJ F₁ N₂) (fun _ s₃ hw => wpAny_mono hw (fun f s₂ p => ?_) fun _ _ e => e) fun _ _ e => e
    obtain ⟨rfl, h', tk, m', news', nx, e, F', N', hn, ho, ha, hm⟩ := p
    refine ⟨rfl, h', tk, m', nx, e, F', fun p hp => ?_, fun p hp => ?_, ha, hm⟩
    · rcases List.mem_append.mp hp with h | h
      · by_cases hI : p.1 = s.heap.objs.size
        · exact N' p (ho p (List.mem_filter.mpr ⟨h, by simpa using hI⟩))
        · have h1 : p.1 = l := by
            rcases List.mem_cons.mp (hown p h) with h2 | h2
            · exact absurd h2 hI
            · exact List.mem_singleton.mp h2
          have h2 : s₁.heap.get? p.1 = some p.2 := hget p h
          rw [h1, hlo] at h2
          have h3 : p = (l, W.listOf vs.toArray nn) := Prod.ext h1 (Option.some.inj h2).symm
          rw [h3]
          exact N' _ (hn _ hm.1)
      · exact N' p (hn p h)
    · have h1 : p.1 ∈ nx.map (·.1) := List.mem_map.mpr ⟨p, hp, rfl⟩
      rw [ha] at h1
      obtain ⟨q, hq, e⟩ := List.mem_map.mp h1
      intro hI
      exact absurd (Heap.lt_size (N q hq).1) (by rw [e, List.mem_singleton.mp hI]; exact Nat.lt_irrefl _)
  · rintro h' tk m' news' F' N' _ ⟨_, hl', hJ⟩
    exact done m' news' h' tk hl' hJ F' N'
theorem kst_T {prog : Program} {w : World} {A : Around} {E : Value → Shared → Prop} {s : Shared} {env : Env} {h₀ : Heap} {x : Str} {target : PySem.Expr} {body : List Stmt} {Q : Flow → Shared → Prop} {σ : Type} {l : Addr} {vs : List Value} {ns : List Int} {nn : Nat} {m₀ : Str → Option Value} (Led : σ → List (Addr × Obj)) (ps : σ → List (Str × Value)) (Facts : σ → Prop) (stored : List Str) (P : List Int → σ → Prop) (c₀ : σ)
    (hh : A.handled = none) (hl : ∀ c : σ, (l, W.listOf vs.toArray nn) ∈ Led c) (hi : IntsAre vs ns) (F : Fr h₀ env.locals s.heap m₀) (N : News h₀ env.locals s.heap (Led c₀)) (hf : Facts c₀) (hk : ∀ p ∈ ps c₀, m₀ p.1 = some p.2) (hp : P [] c₀)
    (turn : ∀ (c : σ) pre post n t (u : Str → Option Value) s₁ own, ns = pre ++ n :: post → n ∈ ns → OwnOff own ((Led c₀).map (·.1)) → Facts c → P pre c →
      Fr h₀ env.locals s₁.heap (fun y => if y = x then u y else kstB (fun z => if stored.contains z then u z else m₀ z) (ps c) y) → News h₀ env.locals s₁.heap (Led c ++ own) →
      wpAny (model prog w) A (assign target env (.int n t)) (fun _ s₃ => wpAny (model prog w) A (execs body env) (TPost h₀ env.locals (KstS Led ps Facts x stored m₀ P (pre ++ [n])) own ((Led c₀).map (·.1)) s₁) E s₃) E s₁)
    (done : ∀ (c : σ) (u : Str → Option Value) h tk, Facts c → P ns c → Fr h₀ env.locals h (fun y => if y = x then u y else kstB (fun z => if stored.contains z then u z else m₀ z) (ps c) y) → News h₀ env.locals h (Led c) → Q .next { s with heap := h, toks := tk }) :
    wpAny (model prog w) A (pyIter (.ref l)) (fun it s₂ => LoopAtT prog w A h₀ env target body Q E it s₂) E s := by
  refine iter_T (fun i m nx => KstS Led ps Facts x stored m₀ P (ns.take i) m nx) hh (hl c₀) hi F N ⟨c₀, rfl, hf, hk, fun _ _ _ _ => rfl, by simpa using hp⟩ ?_ ?_
  · rintro i n t m₁ nx s₁ own hn _ hoff _ ⟨c, rfl, hf', h1, h2, hp'⟩ F₁ N₁
    have hs : ns.take (i + 1) = ns.take i ++ [n] := by simp [List.take_add_one, hn]
    have e : ns = ns.take i ++ n :: ns.drop (i + 1) := by
      have ht := List.take_append_drop (i + 1) ns
      rw [hs, List.append_assoc] at ht
      exact ht.symm
    rw [hs]
    refine wpAny_mono (turn c _ _ n t m₁ s₁ own e (List.mem_of_getElem? hn) hoff hf' hp' (kst_frOut h1 h2 F₁) N₁) (fun _ s₃ hw => wpAny_mono hw (fun f s₂ p => ?_) fun _ _ x => x) fun _ _ x => x
    obtain ⟨e1, h', tk', m', news', nx', e', F', N', hn', ho', ha, hS⟩ := p
    refine ⟨e1, h', tk', m', news', nx', e', F', N', hn', ho', ha, ?_, hS⟩
    obtain ⟨c', rfl, _⟩ := hS
    exact hl c'
  · rintro m₁ nx h tk _ ⟨c, rfl, hf', h1, h2, hp'⟩ F₁ N₁
    rw [List.take_length] at hp'
    exact done c m₁ h tk hf' hp' (kst_frOut h1 h2 F₁) N₁

theorem bstr_nil : bstr [] = Str.ofString "" := by decide +kernel
abbrev RdT := (List Nat × Int × Int) × (Tok × Tok × Tok) × (Obj × Obj × Option Value)
abbrev rdPs (ls : Addr) (c : RdT) : List (Str × Value) := [(Str.ofString "pads", .int c.1.2.1 c.2.1.2.1), (Str.ofString "count", .int c.1.2.2 c.2.1.2.2), (Str.ofString "signs", .ref ls)]
abbrev rdLed (co cb : Addr) (news : List (Addr × Obj)) (c : RdT) : List (Addr × Obj) := (co, c.2.2.1) :: (cb, c.2.2.2.1) :: news
abbrev rdFa (c : RdT) : Prop := c.2.2.2.1.data = .cell (some (.str (bstr c.1.1) c.2.1.1)) ∧ c.2.2.1.data = .cell c.2.2.2.2
abbrev rdP (pre : List Int) (c : RdT) : Prop := c.1 = rdRun pre
theorem rd_end {x : Str} {stored : List Str} {m₀ : Str → Option Value} {pre : List Int} {co cb ls : Addr} {news : List (Addr × Obj)} {L : Addr} {h₀ h' : Heap} {m' : Str → Option Value} {own news' : List (Addr × Obj)} {s₁ : Shared} {tk : Nat} {bl : List Nat} {p c : Int} {tb tp tc : Tok} {oo ob : Obj} {v : Option Value}
   (F : Fr h₀ L h' m') (N : News h₀ L h' news') (ho1 : (co, oo) ∈ news') (ho2 : (cb, ob) ∈ news') (hn : ∀ q ∈ news, q ∈ news') (ho : ∀ q ∈ own, q ∈ news')
   (hd1 : ob.data = .cell (some (.str (bstr bl) tb))) (hd2 : oo.data = .cell v)
   (hk : ∀ z ∈ [(Str.ofString "pads", Value.int p tp), (Str.ofString "count", .int c tc), (Str.ofString "signs", .ref ls)], m' z.1 = some z.2)
   (hr : ∀ z, z ≠ x → (∀ y ∈ [(Str.ofString "pads", Value.int p tp), (Str.ofString "count", .int c tc), (Str.ofString "signs", .ref ls)], z ≠ y.1) → stored.contains z = false → m' z = m₀ z) (hp : (bl, p, c) = rdRun pre) :
   InvEndN h₀ L (KstS (rdLed co cb news) (rdPs ls) rdFa x stored m₀ rdP pre) own (co :: cb :: news.map (·.1)) s₁ { s₁ with heap := h', toks := tk } :=
  kst_end (σ := RdT) ((bl, p, c), (tb, tp, tc), (oo, ob, v)) F N (fun a ha => by
    rcases List.mem_cons.mp ha with rfl | ha
    · exact ho1
    · rcases List.mem_cons.mp ha with rfl | ha
      · exact ho2
      · exact hn a ha) ho rfl ⟨hd1, hd2⟩ hk hr hp
theorem rd_iter {prog : Program} {w : World} {A : Around} {E : Value → Shared → Prop} {s : Shared} {env : Env} {h₀ : Heap} {target : PySem.Expr} {body : List Stmt} {Q : Flow → Shared → Prop}
   {co cb ls : Addr} {us : List Value} {zs : List Int} {nn : Nat} {tb tp tc : Tok} {oo ob : Obj} {v : Option Value} {news : List (Addr × Obj)} {m₀ : Str → Option Value}
   (hh : A.handled = none) (F : Fr h₀ env.locals s.heap m₀) (N : News h₀ env.locals s.heap ((co, oo) :: (cb, ob) :: news)) (hm : (ls, W.listOf us.toArray nn) ∈ news) (hi : IntsAre us zs)
   (hd1 : ob.data = .cell (some (.str (Str.ofString "") tb))) (hd2 : oo.data = .cell v) (hco : ∀ p ∈ news, p.1 ≠ co) (hcb : ∀ p ∈ news, p.1 ≠ cb)
   (hk : ∀ q ∈ [(Str.ofString "pads", Value.int 0 tp), (Str.ofString "count", .int 0 tc), (Str.ofString "signs", .ref ls)], m₀ q.1 = some q.2)
   (turn : ∀ (bl : List Nat) (p c : Int) (tb tp tc : Tok) (oo ob : Obj) (v : Option Value) (pre : List Int) (y : Int) t (u : Str → Option Value) s₁ own, y ∈ zs → pre.length < zs.length → bl.length ≤ 6 * pre.length → (bl, p, c) = rdRun pre →
      ob.data = .cell (some (.str (bstr bl) tb)) → oo.data = .cell v → (∀ p ∈ news ++ own, p.1 ≠ co) → (∀ p ∈ news ++ own, p.1 ≠ cb) →
      Fr h₀ env.locals s₁.heap (fun z => if z = Str.ofString "one" then u z else kstB (fun z => if ([] : List Str).contains z then u z else m₀ z) [(Str.ofString "pads", Value.int p tp), (Str.ofString "count", .int c tc), (Str.ofString "signs", .ref ls)] z) → News h₀ env.locals s₁.heap ((co, oo) :: (cb, ob) :: (news ++ own)) →
      wpAny (model prog w) A (assign target env (.int y t)) (fun _ s₃ => wpAny (model prog w) A (execs body env) (TPost h₀ env.locals (KstS (rdLed co cb news) (rdPs ls) rdFa (Str.ofString "one") [] m₀ rdP (pre ++ [y])) own (co :: cb :: news.map (·.1)) s₁) E s₃) E s₁)
   (done : ∀ (bl : List Nat) (p c : Int) (tb tp tc : Tok) (oo ob : Obj) (v : Option Value) (u : Str → Option Value) h tk, bl.length ≤ 6 * zs.length → (bl, p, c) = rdRun zs → ob.data = .cell (some (.str (bstr bl) tb)) → oo.data = .cell v →
      Fr h₀ env.locals h (fun z => if z = Str.ofString "one" then u z else kstB (fun z => if ([] : List Str).contains z then u z else m₀ z) [(Str.ofString "pads", Value.int p tp), (Str.ofString "count", .int c tc), (Str.ofString "signs", .ref ls)] z) →
      News h₀ env.locals h ((co, oo) :: (cb, ob) :: news) → Q .next { s with heap := h, toks := tk }) :
   wpAny (model prog w) A (pyIter (.ref ls)) (fun it s₂ => LoopAtT prog w A h₀ env target body Q E it s₂) E s := by
  refine kst_T (σ := RdT) (x := Str.ofString "one") (rdLed co cb news) (rdPs ls) rdFa [] rdP (([], 0, 0), (tb, tp, tc), (oo, ob, v)) hh (fun _ => .tail _ (.tail _ hm)) hi F N ⟨hd1.trans (by rw [bstr_nil]), hd2⟩ hk rfl ?_ ?_
  · rintro ⟨⟨bl, p, c⟩, ⟨tb, tp, tc⟩, ⟨oo, ob, v⟩⟩ pre post y t u s₁ own e1 e2 e3 ⟨e4, e6⟩ e5 F2 N2
    have hl := congrArg List.length e1
    simp only [List.length_append, List.length_cons] at hl
    have h3 := rdRun_len pre
    rw [← e5] at h3
    refine turn bl p c tb tp tc oo ob v pre y t u s₁ own e2 (by omega) h3 e5 e4 e6 ?_ ?_ F2 N2
    · intro q hq
      rcases List.mem_append.mp hq with hq | hq
      · exact hco q hq
      · exact e3 q hq _ (.head _)
    · intro q hq
      rcases List.mem_append.mp hq with hq | hq
      · exact hcb q hq
      · exact e3 q hq _ (.tail _ (.head _))
  · rintro ⟨⟨bl, p, c⟩, ⟨tb, tp, tc⟩, ⟨oo, ob, v⟩⟩ u h tk ⟨e4, e6⟩ e5 F2 N2
    have h3 := rdRun_len zs
    rw [← e5] at h3
    exact done bl p c tb tp tc oo ob v u h tk h3 e5 e4 e6 F2 N2

local macro_rules | `(tactic| k_room) => `(tactic| ((simp only [depth_under_make, depth_under_kw, depth_in1, depth_deeper, depth_caller, ktrTop, recLim] at *); omega))
local macro_rules | `(tactic| k_units) => `(tactic| ((have hcL9 := cLine_is); (simp only [units_in1, units_deeper, Around.mark_units, units_caller, ktrTop] at *); omega))
local macro_rules | `(tactic| walk_at "call ref") => `(tactic| (k_here; (with_reducible show wpAny _ _ (call (Value.ref 49) [Value.int _ _]) _ _ _); k_dflt (refine plc_ct (by k_asm) (by k_asm) (by k_asm) (by k_asm) (by k_asm) (by exact rfl) (by dsimp only; omega) ?_); intro t' h' tk' F' N'; (try k_fold)))
local macro_rules | `(tactic| walk_at "call ref") => `(tactic| (k_here; (with_reducible show wpAny _ _ (call (Value.ref 49) [Value.int _ _]) _ _ _); k_dflt ((rename InElt _ _ => kE9); (refine plc_ctE (by k_asm) (by k_asm) (by k_asm) (by k_asm) (by k_asm) (by exact rfl) (by dsimp only; omega) kE9 ?_); clear kE9); intro t' h' tk' F' N' kE'; (try k_fold)))
local macro_rules | `(tactic| walk_at "eval Call") => `(tactic| (k_here; (with_reducible show wpAny _ _ (eval (Expr.Call (Expr.Name _ _) _ [] _) _) _ _ _); k_dflt (refine Call_ ?_)))
local macro_rules | `(tactic| walk_at "exec For Name Name cons nil") => `(tactic| (k_here; (rename Fr _ _ _ _ => lF'); (with_unfolding_all refine For_invTF lF' ?_ (fun _ => rfl)); k_whole))
local macro_rules | `(tactic| walk_at "TPost") => `(tactic| (refine ⟨rfl, ?_⟩))

theorem ne_up1 {L : Addr} {news : List (Addr × Obj)} (h : ∀ p ∈ news, p.1 < L) : ∀ p ∈ news, p.1 ≠ L + 1 := fun p hp => by have := h p hp; show p.1 ≠ (L : Nat) + 1; exact Nat.ne_of_lt (Nat.lt_succ_of_lt this)
theorem ne_up2 {L : Addr} {news : List (Addr × Obj)} (h : ∀ p ∈ news, p.1 < L) : ∀ p ∈ news, p.1 ≠ L + 1 + 1 := fun p hp => by have := h p hp; exact Nat.ne_of_lt (Nat.lt_succ_of_lt (Nat.lt_succ_of_lt this))
local macro_rules | `(tactic| k_all) => `(tactic| first | assumption | exact ne_up1 (by assumption) | exact ne_up2 (by assumption))
theorem bstr_zero : Str.ofString "0" = bstr [0] := by decide +kernel
theorem bstr_one : Str.ofString "1" = bstr [1] := by decide +kernel
theorem str_bit {prog : Program} {w : World} {A : Around} {E : Value → Shared → Prop} {s : Shared} {Q : Value → Shared → Prop} {a : Int} {t : Tok} (h : ∀ t' k, Q (.str (bstr [(Int.fmod a 2).toNat]) t') { s with toks := k }) : wpAny (model prog w) A (call (.type "str") [.int (Int.fmod a 2) t]) Q E s := by
  have h0 := Int.fmod_nonneg_of_pos a (by decide : (0:Int) < 2)
  have h1 := Int.fmod_lt_of_pos a (by decide : (0:Int) < 2)
  have h2 : Int.fmod a 2 = 0 ∨ Int.fmod a 2 = 1 := by omega
  rcases h2 with e | e
  · rw [e] at h ⊢
    refine P.str_of_int (by decide) ?_
    have := h s.toks (s.toks + 1)
    rwa [show bstr [(0 : Int).toNat] = Str.ofString "0" from bstr_zero.symm] at this
  · rw [e] at h ⊢
    refine P.str_of_int (by decide) ?_
    have := h s.toks (s.toks + 1)
    rwa [show bstr [(1 : Int).toNat] = Str.ofString "1" from bstr_one.symm] at this
theorem bstr_app (a b : List Nat) : bstr a ++ bstr b = bstr (a ++ b) := by
  show (⟨(a.map (· + 48)).toArray ++ (b.map (· + 48)).toArray⟩ : Str) = ⟨((a ++ b).map (· + 48)).toArray⟩
  rw [List.map_append, List.append_toArray]
theorem bstr_len (a : List Nat) : (bstr a).length = a.length := by show (a.map (· + 48)).toArray.size = _; rw [List.size_toArray, List.length_map]
theorem iadd_bits {prog : Program} {w : World} {A : Around} {E : Value → Shared → Prop} {s : Shared} {Q : Value → Shared → Prop} {bl cs : List Nat} {x : Str} {t u : Tok} (hx : x = bstr cs) (hl : bl.length + cs.length ≤ 100000)
    (h : ∀ t' k, Q (.str (bstr (bl ++ cs)) t') { s with toks := k }) : wpAny (model prog w) A (inplaceOp .Add (.str (bstr bl) t) (.str x u)) Q E s := by
  subst hx
  refine iadd_str (fun t' k => ?_) (by rw [bstr_len, bstr_len, sizeLine_eq]; omega)
  rw [bstr_app]
  exact h t' k
theorem join6N : ∀ n : Nat, n < 64 → Txt.join (Str.ofString "") (List.map (fun k : Int => bstr [(Int.fmod (Int.fdiv (n : Int) (2 ^ (5 - k).toNat)) 2).toNat]) (rangeKs 0 (Int.toNat (6 - 0)))) = bstr (bitsN n 6) := by decide +kernel
theorem join6 {v : Int} (h0 : 0 ≤ v) (h1 : v < 64) : Txt.join (Str.ofString "") (List.map (fun k : Int => bstr [(Int.fmod (Int.fdiv v (2 ^ (5 - k).toNat)) 2).toNat]) (rangeKs 0 (Int.toNat (6 - 0)))) = bstr (bitsN v.toNat 6) := by
  obtain ⟨n, rfl⟩ := Int.eq_ofNat_of_zero_le h0
  exact join6N n (by omega)
theorem rd_pad {pre bl p c y} (h : (bl, p, c) = rdRun pre) (hy : y = 61) : (bl, p + 1, c) = rdRun (pre ++ [y]) := by
  rw [rdRun_snoc, ← h]; unfold rdStep; rw [if_pos hy]
theorem rd_plc {pre bl p c y} (h : (bl, p, c) = rdRun pre) (hy : y ≠ 61) (h0 : 0 ≤ plc y) : (bl ++ bitsN (plc y).toNat 6, 0, c + 1) = rdRun (pre ++ [y]) := by
  rw [rdRun_snoc, ← h]; unfold rdStep; rw [if_neg hy, if_pos h0]
theorem rd_skip {pre bl p c y} (h : (bl, p, c) = rdRun pre) (hy : y ≠ 61) (h0 : ¬ 0 ≤ plc y) : (bl, p, c) = rdRun (pre ++ [y]) := by
  rw [rdRun_snoc, ← h]; unfold rdStep; rw [if_neg hy, if_neg h0]
local macro_rules | `(tactic| walk_at "call type:str") => `(tactic| (k_here; (with_reducible show wpAny _ _ (call (Value.type "str") [Value.int (Int.fmod _ 2) _]) _ _ _); (refine str_bit ?_); intro _ _))
local macro_rules | `(tactic| walk_at "inplaceOp Add str str") => `(tactic| (k_here; (with_reducible show wpAny _ _ (inplaceOp _ (Value.str (bstr _) _) (Value.str _ _)) _ _ _); k_dflt (refine iadd_bits (join6 (by assumption) (plc_hi _)) (by rw [bits_len]; omega) ?_); intro _ _))
local macro_rules | `(tactic| walk_at "InvEndN") => `(tactic| (refine rd_end (by assumption) (by assumption) (by k_mem) (by k_mem) (by (intro p hp; repeat (first | exact List.mem_append_left _ hp | apply List.mem_cons_of_mem))) (by (intro p hp; repeat (first | exact List.mem_append_right _ hp | apply List.mem_cons_of_mem))) (by assumption) (by assumption) (by kst_all) (by kst_same) ?_; first | exact rd_pad (by assumption) (by assumption) | exact rd_plc (by assumption) (by assumption) (by assumption) | exact rd_skip (by assumption) (by assumption) (by omega)))

theorem kct_CompEnd {h₀ : Heap} {L I C D : Addr} {m : Str → Option Value} {s₁ : Shared} {oI oC oD : Obj} {h' : Heap} {tk : Nat} {all news : List (Addr × Obj)} {r r' : Str} {t : Tok}
   (F : Fr h₀ L h' m) (N : News h₀ L h' all) (sub : ∀ p ∈ (I, oI) :: (C, oC) :: (D, oD) :: news, p ∈ all) (off : LCg.Off3 I C D news) (e : r = r') :
   LCg.CompEnd h₀ L m s₁ I oI C oC D oD (fun _ => True) (fun y news' => KCtEl news r y news') (.str r' t) { s₁ with heap := h', toks := tk } :=
  LCg.CompEnd.intro F N news sub off trivial (kct_el e rfl rfl)
local macro_rules | `(tactic| walk_at "CompEnd") => `(tactic| (k_dflt (refine kct_CompEnd (by assumption) (by assumption) (by kcf_all) (by first | assumption | (simp only [LCg.Off3, and_true]; done) | (simp only [LCg.Off3, and_true]; assumption)) ?_); kpf_tidy; kpf_eq))
local macro_rules | `(tactic| walk_at "execs cons") => `(tactic| ((with_reducible refine wpAny_execs_cons ?_); try dsimp only))
local macro_rules | `(tactic| walk_at "execs nil") => `(tactic| (with_reducible refine wpAny_execs_nil ?_))
theorem rangeS_walks {prog : Program} {w : World} {A : Around} {I : Addr} (hh : A.handled = none) (a st : Int) (n : Nat) : Walks prog w A I [I] [I] n (fun i v => i < n ∧ ∃ t, v = .int (a + (i : Int) * st) t) (fun i h => IsRangeIter h I (a + (i : Nat) * st) ((n : Int) - (i : Nat)) st) := (Walks.range hh I a st n).bound
theorem rangeS_st {h₀ : Heap} {L I : Addr} {a st : Int} {n : Nat} : ∀ i (h h' : Heap) (o : Obj) (nw : List (Addr × Obj)), IsRangeIter h I (a + (i : Nat) * st) ((n : Int) - (i : Nat)) st → h.get? I = some o → h'.get? I = some o → (∀ b o, h₀.get? b = some o → h'.get? b = some o) → News h₀ L h' nw → True → IsRangeIter h' I (a + (i : Nat) * st) ((n : Int) - (i : Nat)) st :=
  fun _ _ _ _ _ it was now _ _ _ => now.trans (was.symm.trans it)
def SrcS (prog : Program) (w : World) (A : Around) (h₀ : Heap) (L : Addr) (m : Str → Option Value) (env : Env) (elt : PySem.Expr) (x : Str) (scope : Scope) (cl : List (Str × Addr)) (Fin : Shared → List Value → List (Addr × Obj) → Prop) (xv : Value) (s₁ : Shared) : Prop :=
  ∃ r a b st t u v n news, xv = .ref r ∧ A.handled = none ∧ Fr h₀ L s₁.heap m ∧ News h₀ L s₁.heap news ∧ IsRange s₁.heap r a b st t u v ∧ Builtin.Range.small a b st = true ∧ Builtin.Range.rangeSize a b st = ((n : Nat) : Int) ∧ n ≤ sizeLine ∧
    ∀ s₂ : Shared, (∃ h, s₂ = { s₁ with heap := h }) → LCg.CompRest prog w A h₀ L m env elt x scope cl s₂ (fun _ => True) (fun i v => i < n ∧ ∃ t, v = .int (a + (i : Int) * st) t) (Fin s₂) n 0 [] news
theorem ListComp_S {prog : Program} {w : World} {A : Around} {E : Value → Shared → Prop} {s : Shared} {h₀ : Heap} {L : Addr} {m : Str → Option Value} {env : Env} {elt iter : PySem.Expr} {x : Str} {px : Pos} {scope : Scope} {cl : List (Str × Addr)} {pos : Pos} {Q : Value → Shared → Prop} (F₀ : Fr h₀ L s.heap m)
    (hclos : closureFor scope env = pure cl) (hcell : ∀ y ∈ scope.names, y.2 ≠ .cell) (hkind : scope.kind = .function)
    (hnames : ∀ y ∈ scope.names, y.2 = .local → scope.names.lookup y.1 = some .local) (hx : scope.names.lookup x = some .local)
    (h : wpAny (model prog w) A (eval iter env) (SrcS prog w A h₀ L m env elt x scope cl (fun s₂ => LCg.FinE h₀ L m s₂ Q)) E s)
    (hs : ∀ x, foldedSetIterable iter env x = pure x := by intro _; rfl) :
    wpAny (model prog w) A (eval (.ListComp elt [⟨.Name x px, iter, [], 0⟩] scope pos) env) Q E s := by
  rw [eval_ListComp]
  refine wpAny_comprehension_free (use := none) rfl hs hclos hkind hnames (wpAny_mono h (fun xv s₁ h₁ => ?_) fun _ _ e => e)
  rcases h₁ with ⟨r, a, b, st, t, u, v, n, news, rfl, hh, F, N, hr, hsm, hn, hsz, R⟩
  refine wpAny_pyIter_range hr hsm ?_
  refine LCg.block_U (rangeS_walks hh a st n) hsz (fun i h st => ⟨_, st⟩) rangeS_st hcell hkind hx (by show IsRangeIter _ _ _ _ _; rw [hn]; simpa using Heap.get?_push_size _ rfl) (fun b hb => ?_)
      (F.keeps fun _ _ e => Heap.get?_push_of_some _ e) (N.grown fun _ _ e => Heap.get?_push_of_some _ e) (Nat.ne_of_lt F.ns.lt) (next_is_new F) (fun p hp => Nat.ne_of_lt (Heap.lt_size (N p hp).1)) trivial (R _ ⟨_, rfl⟩) ?_
  · rw [List.mem_singleton.mp hb]
    show s₁.heap.objs.size < (s₁.heap.push _).objs.size
    rw [Heap.size_push]; exact Nat.lt_succ_self _
  · intro D C h tk m' ys news' F' N' o1 hn hC₀ hD₀ hCL hDL hCD offC fin
    refine ⟨m', hn, fun h'' hs'' => fin D h'' tk (F'.change hs'' hCL hC₀) (fun p hp => ?_) o1⟩
    refine ⟨hs''.extBut _ _ ?_ (N' p hp).1, (N' p hp).2⟩
    rcases List.mem_cons.mp hp with rfl | hp
    · exact Ne.symm hCD
    · exact offC p hp
def octs (bl : List Nat) : List Int := (List.range (bl.length / 8)).map fun i => ((valN ((bl.drop (8 * i)).take 8) : Nat) : Int)
theorem oct_src {prog : Program} {w : World} {A : Around} {h₀ : Heap} {L : Addr} {m : Str → Option Value} {env : Env} {elt : PySem.Expr} {x : Str} {scope : Scope} {cl : List (Str × Addr)} {Fin : Shared → List Value → List (Addr × Obj) → Prop} {r : Addr} {s₁ : Shared} {bl : List Nat} {ob : Obj} {tb t u v : Tok} {news : List (Addr × Obj)}
   (hb : ob.data = .cell (some (.str (bstr bl) tb))) (hh : A.handled = none) (F : Fr h₀ L s₁.heap m) (N : News h₀ L s₁.heap news) (hr : IsRange s₁.heap r 0 ((bl.length : Int) - 7) 8 t u v) (hl : bl.length ≤ 600)
   (turn : ∀ (k : Int) t I oI C oC D m₂ ys h tk (E' : Value → Shared → Prop), 0 ≤ k → k + 8 ≤ bl.length → LCg.NsObj oC m₂ → m₂ x = some (.int k t) → Fr h₀ L h m → News h₀ L h ((I, oI) :: (C, oC) :: (D, LCg.lst ys) :: news) → LCg.Off3 I C D news → ((@Ne Nat I C) ∧ (@Ne Nat I D) ∧ (@Ne Nat C D)) → KPfMark →
      wpAny (model prog w) A (eval elt (compEnvC scope cl C env)) (LCg.CompEnd h₀ L m { s₁ with heap := h, toks := tk } I oI C oC D (LCg.lst ys) (fun _ => True) (fun y news' => KCfEl news ((valN ((bl.drop k.toNat).take 8) : Nat) : Int) y news')) E' { s₁ with heap := h, toks := tk })
   (fin : ∀ g ys, IntsAre ys (octs bl) → Fin { s₁ with heap := g } ys news) : SrcS prog w A h₀ L m env elt x scope cl Fin (.ref r) s₁ := by
  have hsz : Builtin.Range.rangeSize 0 ((bl.length : Int) - 7) 8 = ((bl.length / 8 : Nat) : Int) := by
    unfold Builtin.Range.rangeSize
    rw [if_pos (by decide)]
    split <;> omega
  have hsm : ∀ n : Nat, n ≤ 600 → Builtin.Range.small 0 ((n : Int) - 7) 8 = true := by decide +kernel
  refine ⟨r, 0, (bl.length : Int) - 7, 8, t, u, v, bl.length / 8, news, rfl, hh, F, N, hr, hsm _ hl, hsz, by rw [sizeLine_eq]; omega, ?_⟩
  rintro s₂ ⟨g, rfl⟩
  refine kcf_rest (ks := (List.range (bl.length / 8)).map fun (i : Nat) => (8 : Int) * (i : Int)) (fun k => ((valN ((bl.drop k.toNat).take 8) : Nat) : Int)) (by simp) (fun i v hi hv => ?_) ?_ ?_
  · obtain ⟨_, t, rfl⟩ := hv
    refine ⟨8 * (i : Int), t, by simp [hi], ?_⟩
    rw [Int.zero_add, Int.mul_comm]
  · intro k t I oI C oC D m₂ ys h tk E' hk hC hx F N off ne mk
    obtain ⟨i, hi, rfl⟩ := List.mem_map.mp hk
    have hi' := List.mem_range.mp hi
    exact turn _ t I oI C oC D m₂ ys h tk E' (by omega) (by omega) hC hx F N off ne mk
  · show ∀ ys, _ → _
    intro ys hy
    refine fin g ys ?_
    unfold octs
    rw [List.map_map] at hy
    exact hy
theorem len_bits {prog : Program} {w : World} {A : Around} {E : Value → Shared → Prop} {s : Shared} {Q : Value → Shared → Prop} {bl : List Nat} {t : Tok} (hl : bl.length ≤ 100000) (h : ∀ t' k, Q (.int (bl.length : Nat) t') { s with toks := k }) : wpAny (model prog w) A (call (.builtin "len") [.str (bstr bl) t]) Q E s := by
  have e := bstr_len bl
  refine P.len_str (by rw [e]; omega) ?_
  rw [e]
  exact h _ _
local macro_rules | `(tactic| walk_at "call builtin:len") => `(tactic| (k_here; (with_reducible show wpAny _ _ (call (Value.builtin "len") [Value.str (bstr _) _]) _ _ _); (refine len_bits (by omega) ?_); intro _ _))
local macro_rules | `(tactic| walk_at "call type:range") => `(tactic| (k_here; (with_reducible show wpAny _ _ (call _ [_, _, _]) _ _ _); (rename Fr _ _ _ _ => F'); (rename News _ _ _ _ => N'); (with_unfolding_all refine range3_rows F' N' (by decide) ?_); intro _ _ _ _ _ _ _ _ _))

local macro_rules | `(tactic| walk_at "eval ListComp Call") => `(tactic| (k_here; (with_reducible show wpAny _ _ (eval (Expr.ListComp _ [Comprehension.mk _ (Expr.Call _ [_, _, _] _ _) _ _] _ _) _) _ _ _); k_dflt (refine ListComp_S (F₀ := by k_asm) (by rfl) (by decide) (by rfl) (by decide) (by rfl) ?_)))
local macro_rules | `(tactic| walk_at "SrcS") => `(tactic| (k_dflt (refine oct_src (by assumption) (by rfl) (by k_asm) (by k_asm) (by assumption) (by omega) (fun k9 t9 I9 oI9 C9 oC9 D9 m9 ys9 h9 tk9 E9 b1 b2 hC9 hx9 F9 N9 off9 ne9 mk9 => ?_) (fun g9 ys9 hy9 => ?_))))
theorem slice_bits {prog : Program} {w : World} {A : Around} {E : Value → Shared → Prop} {s : Shared} {h₀ : Heap} {L : Addr} {m : Str → Option Value} {news : List (Addr × Obj)} {Q : Value → Shared → Prop} {value slice : PySem.Expr} {bl : List Nat} {t : Tok} {i j : Int} {ui uj : Tok} (c : Nat) (hj : j = i + c) (h0 : 0 ≤ i) (hc : i + c ≤ bl.length) (hl : bl.length ≤ 100000)
    (hF : Fr h₀ L s.heap m) (hN : News h₀ L s.heap news) (h : ∀ h' t' k, Fr h₀ L h' m → News h₀ L h' news → Q (.str (bstr ((bl.drop i.toNat).take c)) t') { s with heap := h', toks := k })
    (hs : subscripted slice false (.str (bstr bl) t) (.ref s.heap.objs.size) = operate [.ref s.heap.objs.size, .str (bstr bl) t] (getItem (.str (bstr bl) t) (.ref s.heap.objs.size)) := by with_unfolding_all rfl)
    (ht : ∀ r, letTemporaryGo value (.str (bstr bl) t) r = pure () := by intro _; with_unfolding_all rfl) :
    wpAny (model prog w) A (subscriptTail value slice (.str (bstr bl) t) (.ref s.heap.objs.size)) Q E { s with heap := s.heap.push { cls := .type "slice", data := .fields #[.int i ui, .int j uj, .none] } } := by
  subst hj
  have e := StrLaws.sliceText_nat (bstr bl) (a := i.toNat) (b := i.toNat + c) (by omega) (by rw [bstr_len]; omega)
  have e2 : Txt.slice (bstr bl) (some i) (some (i + c)) = bstr ((bl.drop i.toNat).take c) := by
    show StrLaws.sliceText (bstr bl) (some i) (some (i + c)) = _
    rw [Nat.add_sub_cancel_left, Int.natCast_add, Int.toNat_of_nonneg h0] at e
    rw [e]
    show (⟨(((bl.map (· + 48)).drop i.toNat).take c).toArray⟩ : Str) = ⟨(((bl.drop i.toNat).take c).map (· + 48)).toArray⟩
    rw [List.map_take, List.map_drop]
  refine slice_strN_ss hF hN (fun h' t' k a b => ?_) hs ht (by rw [bstr_len, sizeLine_eq]; omega)
  rw [e2]
  exact h h' t' k a b
theorem cut_bits {bl : List Nat} (h : ∀ b ∈ bl, b < 2) (i c : Nat) : ∀ b ∈ (bl.drop i).take c, b < 2 := fun b hb => h b (List.mem_of_mem_drop (List.mem_of_mem_take hb))
theorem cut_len {bl : List Nat} {i : Int} {c : Nat} (h0 : 0 ≤ i) (h : i + c ≤ bl.length) : ((bl.drop i.toNat).take c).length = c := by
  rw [List.length_take, List.length_drop]; omega
theorem octs_in (bl : List Nat) (h : ∀ b ∈ bl, b < 2) : KBa.In (octs bl) := by
  intro x hx
  obtain ⟨i, hi, rfl⟩ := List.mem_map.mp hx
  have h1 := valN_lt _ (cut_bits h (8 * i) 8)
  have h2 : ((bl.drop (8 * i)).take 8).length ≤ 8 := by rw [List.length_take]; omega
  have h3 : 2 ^ ((bl.drop (8 * i)).take 8).length ≤ 2 ^ 8 := Nat.pow_le_pow_right (by decide) h2
  exact ⟨by omega, by omega⟩
theorem octs_len (bl : List Nat) : (octs bl).length = bl.length / 8 := by unfold octs; simp
theorem rdRun_bits (zs : List Int) : ∀ b ∈ (rdRun zs).1, b < 2 := by
  have key : ∀ (zs : List Int) (c : RSt), (∀ b ∈ c.1, b < 2) → ∀ b ∈ (zs.foldl rdStep c).1, b < 2 := by
    intro zs
    induction zs with
    | nil => intro c h; exact h
    | cons x zs ih =>
      intro c h
      rw [List.foldl_cons]
      refine ih _ ?_
      unfold rdStep
      split
      · exact h
      · split
        · intro b hb
          rcases List.mem_append.mp hb with hb | hb
          · exact h b hb
          · exact bits_lt _ _ b hb
        · exact h
  exact key zs ([], 0, 0) (fun _ h => nomatch h)
local macro_rules | `(tactic| walk_at "subscriptTail Name Slice str ref") => `(tactic| (k_here; (with_reducible show wpAny _ _ (subscriptTail _ (Expr.Slice (some _) (some _) none _) (Value.str (bstr _) _) _) _ _ _); (with_reducible rename Fr _ _ _ _ => F'); (with_reducible rename News _ _ _ _ => N'); k_dflt (refine slice_bits (s := ⟨_, _, _, _, _⟩) 8 rfl (by assumption) (by assumption) (by omega) F' N' ?_); intro _ _ _ _ _))
local macro_rules | `(tactic| walk_at "call type:int") => `(tactic| (k_here; (with_reducible show wpAny _ _ (call (Value.type "int") [Value.str (bstr _) _, Value.int 2 _]) _ _ _); k_dflt (refine call_int8 (cut_bits (by assumption) _ _) (cut_len (by assumption) (by assumption)) ?_); intro _ _))
local macro_rules | `(tactic| walk_at "call type:bytes") => `(tactic| (k_here; k_dflt (refine news_bytes (by assumption) (by assumption) rfl (by assumption) (octs_in _ (by assumption)) (by rw [octs_len]; omega) ?_); intro h' t' tk' F' N'))
def rdBad (zs : List Int) : Prop := Int.fmod (rdRun zs).2.2 4 = 1 ∨ (1 < Int.fmod (rdRun zs).2.2 4 ∧ Int.fmod (rdRun zs).2.2 4 + (rdRun zs).2.1 < 4)
theorem rdBad_1 {zs : List Int} {bl : List Nat} {p c : Int} (h : (bl, p, c) = rdRun zs) (h1 : Int.fmod c 4 = 1) : rdBad zs := by unfold rdBad; rw [← h]; exact .inl h1
theorem rdBad_2 {zs : List Int} {bl : List Nat} {p c : Int} (h : (bl, p, c) = rdRun zs) (h1 : 1 < Int.fmod c 4) (h2 : Int.fmod c 4 + p < 4) : rdBad zs := by unfold rdBad; rw [← h]; exact .inr ⟨h1, h2⟩
theorem rdBad_n1 {zs : List Int} {bl : List Nat} {p c : Int} (h : (bl, p, c) = rdRun zs) (h0 : Int.fmod c 4 ≠ 1) (h2 : ¬ Int.fmod c 4 + p < 4) : ¬ rdBad zs := by unfold rdBad; rw [← h]; rintro (e | e); exact h0 e; exact h2 e.2
theorem rdBad_n2 {zs : List Int} {bl : List Nat} {p c : Int} (h : (bl, p, c) = rdRun zs) (h0 : Int.fmod c 4 ≠ 1) (h2 : ¬ 1 < Int.fmod c 4) : ¬ rdBad zs := by unfold rdBad; rw [← h]; rintro (e | e); exact h0 e; exact h2 e.1
theorem rd_q {zs : List Int} {bl : List Nat} {p c : Int} {Q : Value → Shared → Prop} {t : Tok} {s : Shared} (h : (bl, p, c) = rdRun zs) (hq : Q (.bytes (byteArr (octs (rdRun zs).1)) t) s) : Q (.bytes (byteArr (octs bl)) t) s := by rw [← h] at hq; exact hq

theorem read_ct {w : World} {mean : ExcName → Option Value} {mg mb : Str → Option Value}
  {D : Addr} {us : List Value} {zs : List Int} {nn : Nat}
  {dp un : Nat} {gd : Option (List Code)} {cn : Str} {cs : Scope} {a : Addr} {ccd : Value} {cl : List (Str × Addr)} {outer : List Env} {A₀ : Around} {base h₀ : Heap} {L : Addr} {m : Str → Option Value} {news : List (Addr × Obj)} {s : Shared} {Q E : Value → Shared → Prop}
  (B : Below A₀ base outer h₀) (F : Fr h₀ L s.heap m) (X : (hd.heap_39 w.params).In h₀) (N : News h₀ L s.heap news) (T : Top hd.view_39 (looseW hd.view_39 []) mean mg mb h₀) (hk : cs.kind = .function)
  (hdp : dp ≤ 305) (hm : (D, W.listOf us.toArray nn) ∈ news) (hi : IntsAre us zs) (hz : zs.length ≤ 100)
  (hnone : rdBad zs → ∀ (h' : Heap) (tk' : Nat), Fr h₀ L h' m → News h₀ L h' news → Q .none { s with heap := h', toks := tk' })
  (hret : ¬ rdBad zs → ∀ (t : Tok) (h' : Heap) (tk' : Nat), Fr h₀ L h' m → News h₀ L h' news → Q (.bytes (byteArr (octs (rdRun zs).1)) t) { s with heap := h', toks := tk' }) :
  wpAny (model PG w) (ktrTop dp un gd cn cs L a ccd cl outer) (call (.ref 59) [.ref D]) Q E s := by
  have hfit := hi.length
  refine wpAny_call ?_
  k_dflt ((refine' code_defC ?k1 ?k2 ?k3 ?k4 ?k5 ?kA ?kF ?kK ?k6 ?k7 ?k8 ?k9 ?kB ?kD ?_ ?c2 ?c3 ?c4; (case kA => exact rfl); (case kF => exact rfl); (case kK => assumption); (case k1 => k_asm); (case k2 => k_asm); (case k3 => k_asm); (case k4 => k_asm); (case k5 => k_asm); (case k6 => k_is); (case k7 => k_is); (case k8 => ktr_room); (case k9 => exact BindsTo.of_eq rfl); (case kB => exact rfl); (case kD => decide +kernel); (case c2 => exact rfl); (case c3 => exact rfl); (case c4 => exact rfl); k_whole; intro g' L' h' tk' cells' FG' F' N' Y' B' X' T' l1; (try k_lt l1); k_cells Y'; (try simp only [List.cons_append, List.nil_append] at N'); (try dsimp only); (try k_lift B'); (try k_fold)))
  repeat' ((fail_if_success (with_reducible show wpAny _ _ (pyIter (Value.ref _)) _ _ _)); (first | (k_unfold; (try dsimp only)) | (k_end; wrow_close) | walk1 | (dsimp only; walk1) | (leave1; walk_say "STEP leave1"; try dsimp only) | fail "no step"))
  rename Fr _ _ _ _ => lF'
  rename News _ _ _ _ => N'
  refine rd_iter rfl (by assumption) (cb_drop N' (fun _ hp => List.mem_cons_of_mem _ hp)) hm hi (by assumption) (by assumption) (by k_all) (by k_all) (by kst_all) ?turn ?done
  case turn =>
    intro bl p c tb tp tc oo ob v pre y t u s₁ own q1 q2 q3 q4 q5 q6 q7 q8 F2 N2
    simp only [kstB] at F2
    clear lF' N'
    k_steps
  case done =>
    intro bl p c tb tp tc oo ob v u h tk q3 q4 q5 q6 F2 N2
    simp only [kstB] at F2
    clear lF' N'
    have hbl : ∀ b ∈ bl, b < 2 := by
      have h9 := rdRun_bits zs
      rw [← q4] at h9
      exact h9
    k_steps
    all_goals first
      | exact hnone (rdBad_1 (by assumption) (by assumption)) _ _ (by assumption) (cb_drop (by assumption) (by intro p hp; repeat (first | exact hp | apply List.mem_cons_of_mem)))
      | exact hnone (rdBad_2 (by assumption) (by assumption) (by assumption)) _ _ (by assumption) (cb_drop (by assumption) (by intro p hp; repeat (first | exact hp | apply List.mem_cons_of_mem)))
      | exact rd_q (Q := Q) q4 (hret (rdBad_n1 (by assumption) (by assumption) (by assumption)) _ _ _ (by assumption) (cb_drop (by assumption) (by intro p hp; repeat (first | exact hp | apply List.mem_cons_of_mem))))
      | exact rd_q (Q := Q) q4 (hret (rdBad_n2 (by assumption) (by assumption) (by assumption)) _ _ _ (by assumption) (cb_drop (by assumption) (by intro p hp; repeat (first | exact hp | apply List.mem_cons_of_mem))))
      | skip
end Mine
open PyProof.Rows PySem.W in
theorem Mine.flushRd : True := by w_top off; first | walk1 | trivial

/-! part C2 -/
namespace Mine
open PySem PySem.W PySem.Spec PySem.Calls PyProof.Rows
set_option maxRecDepth 100000
set_option maxHeartbeats 1600000
abbrev comp2 (elt iter iter2 : PySem.Expr) (x x2 : Str) (px px2 : Pos) (scope : Scope) (pos : Pos) : PySem.Expr := .ListComp elt [⟨.Name x px, iter, [], 0⟩, ⟨.Name x2 px2, iter2, [], 0⟩] scope pos
theorem comp2_turn0 (elt iter iter2 : PySem.Expr) (x x2 : Str) (px px2 : Pos) (scope : Scope) (pos : Pos) (it acc : Value) (env : Env) :
    compTurn (comp2 elt iter iter2 x x2 px px2 scope pos) 0 it acc env = (standAt iter.pos >>= fun _ => pyNext it >>= fun r => match r with
      | none => pure (.done .next)
      | some v => letOwnedTupleGo (.Name x px) it v >>= fun _ => assign (.Name x px) env v >>= fun _ =>
        (eval iter2 env >>= fun xx => standAt iter2.pos >>= fun _ => foldedSetIterable iter2 env xx >>= fun xx => holding [xx] (pyIter xx) >>= fun it2 =>
          runOwn (.compStart (comp2 elt iter iter2 x x2 px px2 scope pos) 1 it2 acc env) env >>= fun _ =>
          again (.compLoop (comp2 elt iter iter2 x x2 px px2 scope pos) 0 it acc env))) := by rfl
theorem comp2_turn1 (elt iter iter2 : PySem.Expr) (x x2 : Str) (px px2 : Pos) (scope : Scope) (pos : Pos) (it acc : Value) (env : Env) :
    compTurn (comp2 elt iter iter2 x x2 px px2 scope pos) 1 it acc env = (standAt iter2.pos >>= fun _ => pyNext it >>= fun r => match r with
      | none => pure (.done .next)
      | some v => letOwnedTupleGo (.Name x2 px2) it v >>= fun _ => assign (.Name x2 px2) env v >>= fun _ =>
        (eval elt env >>= fun y => call (.builtin "list.append") [acc, y] >>= fun _ => pure ()) >>= fun _ =>
          again (.compLoop (comp2 elt iter iter2 x x2 px px2 scope pos) 1 it acc env)) := by rfl
section
variable {prog : Program} {w : World} {A : Around} {R : Result → Shared → Prop} {s : Shared}
theorem comp2_start1 {elt iter iter2 : PySem.Expr} {x x2 : Str} {px px2 : Pos} {scope : Scope} {pos : Pos} {it acc : Value} {env : Env}
    (h0 : codeAny (model prog w) A (.compLoop (comp2 elt iter iter2 x x2 px px2 scope pos) 1 it acc env) R s)
    (h : wpAny (model prog w) A (pyIter it) (fun it' s' => codeAny (model prog w) A (.compLoop (comp2 elt iter iter2 x x2 px px2 scope pos) 1 it' acc env) R s')
      (notedBy (model prog w) A env fun x s' => R (.error x) s') s) :
    codeAny (model prog w) A (.compStart (comp2 elt iter iter2 x x2 px px2 scope pos) 1 it acc env) R s := by
  refine codeAny_of_tree ?_
  show wpAny _ _ ((compStart (comp2 elt iter iter2 x x2 px px2 scope pos) 1 it acc env).onRaise (fun x => do noteFrame x env; standAt theWindowsPlace)) _ _ s
  refine wpAny_notedAt ?_
  unfold compStart
  show wpAny _ _ (ask >>= _) _ _ s
  refine wpAny_bind (wpAny_askSetting (wpAny_ite ?_))
  split
  · first
      | exact wpAny_bind (wpAny_pure (wpAny_pure (And.intro rfl h0)))
      | exact wpAny_pure (And.intro rfl h0)
  · first
      | exact wpAny_bind (wpAny_rule (wpAny_bind (wpAny_standAt (wpAny_bind (wpAny_mono h (fun it' s' h' => wpAny_pure (And.intro rfl h')) fun _ _ x => x)))))
      | (refine wpAny_bind (wpAny_rule ?_); show wpAny _ _ (standAt iter2.pos >>= _) _ _ s; exact wpAny_bind (wpAny_standAt (wpAny_bind (wpAny_mono h (fun it' s' h' => wpAny_pure (And.intro rfl h')) fun _ _ x => x))))
theorem comp2_loop1 {elt iter iter2 : PySem.Expr} {x x2 : Str} {px px2 : Pos} {scope : Scope} {pos : Pos} {it acc : Value} {env : Env} (I : Nat → Shared → Prop)
    (turn : ∀ n s, I n s → wpAny (model prog w) A (pyNext it) (fun r s₁ => match r with
      | none => R (.ok .next) s₁
      | some v => wpAny (model prog w) A (assign (.Name x2 px2) env v) (fun _ s₂ => wpAny (model prog w) A (eval elt env) (fun y s₃ =>
          wpAny (model prog w) A (call (.builtin "list.append") [acc, y]) (fun _ s₄ => ∃ m, m < n ∧ I m s₄) (notedBy (model prog w) A env fun e s' => R (.error e) s') s₃)
          (notedBy (model prog w) A env fun e s' => R (.error e) s') s₂) (notedBy (model prog w) A env fun e s' => R (.error e) s') s₁) (notedBy (model prog w) A env fun e s' => R (.error e) s') s)
    (n : Nat) (h : I n s) :
    codeAny (model prog w) A (.compLoop (comp2 elt iter iter2 x x2 px px2 scope pos) 1 it acc env) R s := by
  refine codeAny_loop rfl I (fun n s hI => ?_) n h
  show wpAny _ _ ((compTurn (comp2 elt iter iter2 x x2 px px2 scope pos) 1 it acc env).onRaise (fun x => do noteFrame x env; theTreesLotGoes x)) _ _ s
  refine wpAny_noted ?_
  rw [comp2_turn1]
  refine wpAny_bind (wpAny_standAt (wpAny_bind (wpAny_mono (turn n s hI) (fun r s₁ h₁ => ?_) fun _ _ h' => h')))
  cases r with
  | none => exact wpAny_pure h₁
  | some v =>
    refine wpAny_bind (wpAny_of_eq rfl ?_)
    exact wpAny_bind (wpAny_mono h₁ (fun _ s₂ h₂ => wpAny_bind (wpAny_bind (wpAny_mono h₂ (fun x s₃ h₃ => wpAny_bind (wpAny_mono h₃
      (fun _ s₄ h₄ => wpAny_pure (wpAny_pure ⟨rfl, h₄⟩)) fun _ _ h' => h')) fun _ _ h' => h'))) fun _ _ h' => h')
theorem comp2_loop0 {elt iter iter2 : PySem.Expr} {x x2 : Str} {px px2 : Pos} {scope : Scope} {pos : Pos} {it acc : Value} {env : Env} (I : Nat → Shared → Prop) (hs : ∀ xx, foldedSetIterable iter2 env xx = pure xx)
    (turn : ∀ n s, I n s → wpAny (model prog w) A (pyNext it) (fun r s₁ => match r with
      | none => R (.ok .next) s₁
      | some v => wpAny (model prog w) A (assign (.Name x px) env v) (fun _ s₂ => wpAny (model prog w) A (eval iter2 env) (fun xx s₃ =>
          wpAny (model prog w) A (pyIter xx) (fun it2 s₄ =>
            codeAny (model prog w) A (.compStart (comp2 elt iter iter2 x x2 px px2 scope pos) 1 it2 acc env) (fun r s₅ => r = .ok .next ∧ ∃ m, m < n ∧ I m s₅) s₄)
          (notedBy (model prog w) A env fun e s' => R (.error e) s') s₃)
          (notedBy (model prog w) A env fun e s' => R (.error e) s') s₂) (notedBy (model prog w) A env fun e s' => R (.error e) s') s₁) (notedBy (model prog w) A env fun e s' => R (.error e) s') s)
    (n : Nat) (h : I n s) :
    codeAny (model prog w) A (.compLoop (comp2 elt iter iter2 x x2 px px2 scope pos) 0 it acc env) R s := by
  refine codeAny_loop rfl I (fun n s hI => ?_) n h
  show wpAny _ _ ((compTurn (comp2 elt iter iter2 x x2 px px2 scope pos) 0 it acc env).onRaise (fun x => do noteFrame x env; theTreesLotGoes x)) _ _ s
  refine wpAny_noted ?_
  rw [comp2_turn0]
  refine wpAny_bind (wpAny_standAt (wpAny_bind (wpAny_mono (turn n s hI) (fun r s₁ h₁ => ?_) fun _ _ h' => h')))
  cases r with
  | none => exact wpAny_pure h₁
  | some v =>
    refine wpAny_bind (wpAny_of_eq rfl ?_)
    refine wpAny_bind (wpAny_mono h₁ (fun _ s₂ h₂ => wpAny_bind (wpAny_mono h₂ (fun xx s₃ h₃ => ?_) fun _ _ h' => h')) fun _ _ h' => h')
    refine wpAny_bind (wpAny_standAt (wpAny_bind (wpAny_of_eq (hs xx) (wpAny_bind (wpAny_holding (wpAny_mono h₃ (fun it2 s₄ h₄ => ?_) fun _ _ h' => h'))))))
    refine wpAny_bind (wpAny_runOwn (codeAny_mono h₄ fun r s₅ hr => ?_))
    obtain ⟨rfl, hm⟩ := hr
    exact wpAny_pure ⟨rfl, hm⟩
end
def RP (n : Nat) (s : Shared) (xv : Value) (s' : Shared) : Prop := ∃ r h tk t u v, xv = .ref r ∧ s' = { s with heap := h, toks := tk } ∧ IsRange h r 0 (n : Int) 1 t u v ∧ ∀ b o, s.heap.get? b = some o → h.get? b = some o
def EP (P : Value → Prop) (s : Shared) (y : Value) (s' : Shared) : Prop := ∃ tk, s' = { s with toks := tk } ∧ P y
def SrcB (prog : Program) (w : World) (A : Around) (h₀ : Heap) (L : Addr) (m : Str → Option Value) (env : Env) (elt iter2 : PySem.Expr) (x x2 : Str) (scope : Scope) (cl : List (Str × Addr)) (n2 : Nat) (Q : Value → Shared → Prop) (xv : Value) (s₁ : Shared) : Prop :=
  ∃ (b : Array UInt8) (tb : Tok) (news : List (Addr × Obj)) (G : Nat → Nat → List Value → Prop), xv = .bytes b tb ∧ A.handled = none ∧ Fr h₀ L s₁.heap m ∧ News h₀ L s₁.heap news ∧ (∀ i j ys, G i j ys → ys.length ≤ sizeLine) ∧ G 0 0 [] ∧
    (∀ (s' : Shared) C oC m₂ (E' : Value → Shared → Prop), LCg.NsObj oC m₂ → Fr h₀ L s'.heap m → News h₀ L s'.heap [(C, oC)] → wpAny (model prog w) A (eval iter2 (compEnvC scope cl C env)) (RP n2 s') E' s') ∧
    (∀ i j (c : UInt8) u t C oC m₂ ys (s' : Shared) (E' : Value → Shared → Prop), b[i]? = some c → j < n2 → LCg.NsObj oC m₂ → m₂ x = some (.int (c.toNat : Int) u) → m₂ x2 = some (.int (j : Int) t) → Fr h₀ L s'.heap m → News h₀ L s'.heap [(C, oC)] → G i j ys →
      wpAny (model prog w) A (eval elt (compEnvC scope cl C env)) (EP (fun y => G i (j + 1) (ys ++ [y])) s') E' s') ∧
    (∀ i ys, i < b.size → G i n2 ys → G (i + 1) 0 ys) ∧
    (∀ D h tk ys, G b.size 0 ys → Fr h₀ L h m → News h₀ L h ((D, LCg.lst ys) :: news) → LCg.Off1 D news → Q (.ref D) { s₁ with heap := h, toks := tk })
theorem ListComp_B2 {prog : Program} {w : World} {A : Around} {E : Value → Shared → Prop} {s : Shared} {h₀ : Heap} {L : Addr} {m : Str → Option Value} {env : Env} {elt iter iter2 : PySem.Expr} {x x2 : Str} {px px2 : Pos} {scope : Scope} {cl : List (Str × Addr)} {pos : Pos} {Q : Value → Shared → Prop} (n2 : Nat) (hn2 : n2 ≤ 100) (_F₀ : Fr h₀ L s.heap m)
    (hclos : closureFor scope env = pure cl) (hcell : ∀ y ∈ scope.names, y.2 ≠ .cell) (hkind : scope.kind = .function)
    (hnames : ∀ y ∈ scope.names, y.2 = .local → scope.names.lookup y.1 = some .local) (hx : scope.names.lookup x = some .local) (hx2 : scope.names.lookup x2 = some .local) (hne : x ≠ x2)
    (h : wpAny (model prog w) A (eval iter env) (SrcB prog w A h₀ L m env elt iter2 x x2 scope cl n2 Q) E s)
    (hs : ∀ x, foldedSetIterable iter env x = pure x := by intro _; rfl) (hs2 : ∀ e x, foldedSetIterable iter2 e x = pure x := by intro _ _; rfl) :
    wpAny (model prog w) A (eval (comp2 elt iter iter2 x x2 px px2 scope pos) env) Q E s := by
  rw [eval_ListComp]
  refine wpAny_comprehension_free (use := none) rfl hs hclos hkind hnames (wpAny_mono h (fun xv s₁ h₁ => ?_) fun _ _ e => e)
  obtain ⟨b, tb, news, G, rfl, hh, F, N, hGl, hG0, hit, hel, hGs, hfin⟩ := h₁
  refine KBw.pyIter_bytes ?_
  generalize hs2e : ({ s₁ with heap := s₁.heap.push { cls := .type "bytes_iterator", data := .fields #[.bytes b tb, .int 0 0] } } : Shared) = s₂
  have hI : KBw.IsBytesIter s₂.heap s₁.heap.objs.size b tb 0 := by subst hs2e; exact ⟨_, Heap.get?_push_size _ rfl, rfl, rfl⟩
  have F2 : Fr h₀ L s₂.heap m := by subst hs2e; exact F.push _
  have N2 : News h₀ L s₂.heap news := by subst hs2e; exact fun p hp => ⟨Heap.get?_push_of_some _ (N p hp).1, (N p hp).2⟩
  have hIL : L ≠ s₁.heap.objs.size := Nat.ne_of_lt F.ns.lt
  have hI0 : h₀.get? s₁.heap.objs.size = none := next_is_new F
  have hIoff : ∀ p ∈ news, p.1 ≠ s₁.heap.objs.size := fun p hp => Nat.ne_of_lt (Heap.lt_size (N p hp).1)
  have hIlt : s₁.heap.objs.size < s₂.heap.objs.size := by subst hs2e; show _ < (s₁.heap.push _).objs.size; rw [Heap.size_push]; exact Nat.lt_succ_self _
  have hs2g : s₂.gens = s₁.gens ∧ s₂.drawn = s₁.drawn ∧ s₂.os = s₁.os := by subst hs2e; exact ⟨rfl, rfl, rfl⟩
  have hfin' : ∀ D h tk ys, G b.size 0 ys → Fr h₀ L h m → News h₀ L h ((D, LCg.lst ys) :: news) → LCg.Off1 D news → Q (.ref D) { s₂ with heap := h, toks := tk } := by subst hs2e; exact hfin
  generalize s₁.heap.objs.size = I at hI hIL hI0 hIoff hIlt
  clear hs2e hfin hs2g F N
  refine wpAny_newObj_type (wpAny_newFunctionEnv hcell (by intro y hy; simp at hy) (fun h₁ hns₁ hsb₁ => ?_) hkind)
  dsimp only at hns₁ hsb₁ ⊢
  generalize hH2 : s₂.heap.push { cls := .type "list", dict := none, data := .seq ([] : List Value).toArray } = H2 at hns₁ hsb₁ ⊢
  have hC : H2.objs.size = s₂.heap.objs.size + 1 := by rw [← hH2, Heap.size_push]
  have hDC : s₂.heap.objs.size ≠ H2.objs.size := by rw [hC]; exact Nat.ne_of_lt (Nat.lt_succ_self _)
  have below : ∀ b, b < s₂.heap.objs.size → b ≠ H2.objs.size ∧ b ≠ s₂.heap.objs.size := fun b hb => ⟨by rw [hC]; exact Nat.ne_of_lt (Nat.lt_succ_of_lt hb), Nat.ne_of_lt hb⟩
  have old : ∀ b o, s₂.heap.get? b = some o → h₁.get? b = some o := fun b o e => hsb₁.extBut b o (below b (Heap.lt_size e)).1 (Heap.get?_push_of_some _ (hH2 ▸ Heap.get?_push_of_some _ e))
  have hacc : h₁.get? s₂.heap.objs.size = some (LCg.lst []) := hsb₁.extBut _ _ hDC (Heap.get?_push_of_some _ (hH2 ▸ Heap.get?_push_size _ rfl))
  have fresh : ∀ a, s₂.heap.objs.size ≤ a → s₂.heap.get? a = none := fun a ha => by
    cases e : s₂.heap.get? a with
    | none => rfl
    | some o' => exact absurd (Heap.lt_size e) (Nat.not_lt.mpr ha)
  have fresh₀ : ∀ a, s₂.heap.objs.size ≤ a → h₀.get? a = none := fun a ha => by
    cases e : h₀.get? a with
    | none => rfl
    | some o' => have := F2.keep a o' e; rw [fresh a ha] at this; cases this
  have hD₀ : h₀.get? s₂.heap.objs.size = none := fresh₀ _ (Nat.le_refl _)
  have hC₀ : h₀.get? H2.objs.size = none := fresh₀ _ (by rw [hC]; exact Nat.le_succ _)
  have hLlt : L < s₂.heap.objs.size := F2.ns.lt
  have hDL : s₂.heap.objs.size ≠ L := Ne.symm (below L hLlt).2
  have hCL : H2.objs.size ≠ L := Ne.symm (below L hLlt).1
  have hCI : I ≠ H2.objs.size := (below I hIlt).1
  have hDI : I ≠ s₂.heap.objs.size := (below I hIlt).2
  have hst₁ : KBw.IsBytesIter h₁ I b tb 0 := let ⟨o, ho, r⟩ := hI; ⟨o, old I o ho, r⟩
  have F₁ : Fr h₀ L h₁ m := F2.keeps old
  have N₁ : News h₀ L h₁ news := fun p hp => ⟨old _ _ (N2 p hp).1, (N2 p hp).2⟩
  have hnewslt : ∀ p ∈ news, p.1 < s₂.heap.objs.size := fun p hp => Heap.lt_size (N2 p hp).1
  generalize s₂.heap.objs.size = D at *
  generalize H2.objs.size = C at *
  clear fresh fresh₀ old hH2 hC N2 F2 hI hsb₁ hIlt hLlt
  have FrOf : ∀ h', (∀ b o, b ≠ I → b ≠ C → b ≠ D → h₁.get? b = some o → h'.get? b = some o) → Fr h₀ L h' m := fun h' kp =>
    ⟨F₁.ns.at' fun o e => kp L o hIL (Ne.symm hCL) (Ne.symm hDL) e, fun b o e => kp b o (fun q => by rw [q, hI0] at e; cases e) (fun q => by rw [q, hC₀] at e; cases e) (fun q => by rw [q, hD₀] at e; cases e) (F₁.keep b o e), F₁.above⟩
  have W1 := KBw.walks (prog := prog) (w := w) hh I b tb
  have loop : ∀ s₃ : Shared, s₃ = { s₂ with heap := h₁, toks := s₂.toks + ([] : List (Str × Value)).length } →
      codeAny (model prog w) A (.compLoop (comp2 elt iter iter2 x x2 px px2 scope pos) 0 (.ref I) (.ref D) (compEnvC scope cl C env))
        (compPost (model prog w) A E none Q (.ref D) C) s₃ := by
    rintro s₃ rfl
    refine comp2_loop0
      (fun k s' => ∃ h' tk i ys m', s' = { s₂ with heap := h', toks := tk } ∧ i ≤ b.size ∧ k = b.size + 1 - i ∧ KBw.IsBytesIter h' I b tb i ∧ (∀ b o, b ≠ I → b ≠ C → b ≠ D → h₁.get? b = some o → h'.get? b = some o) ∧ h'.Ns C m' ∧ h'.get? D = some (LCg.lst ys) ∧ G i 0 ys)
      (fun xx => hs2 _ xx) ?_ (b.size + 1) ⟨h₁, _, 0, [], _, rfl, Nat.zero_le _, rfl, hst₁, fun _ _ _ _ _ e => e, hns₁, hacc, hG0⟩
    rintro k s' ⟨h', tk, i, ys, m', rfl, hi, rfl, hst', kp, hn', hD', hG⟩
    by_cases hlt : i < b.size
    · refine W1.item i _ _ _ hlt hst' fun v h₂ tk₂ hPv hst₂ hk₂ => ?_
      obtain ⟨c, u, hc, rfl⟩ := hPv
      have hk₂' : ∀ b o, b ≠ I → h'.get? b = some o → h₂.get? b = some o := fun b o hb e => hk₂ b o (by simpa using hb) e
      refine wpAny_assign_Name (wpAny_storeName_local (lookup_relabel_local hx) (hn'.at' fun o e => hk₂' _ o (Ne.symm hCI) e) (fun h₃ hn₃ hs₃ => ?_) (by simp [compEnvC, relabel, hkind]))
      obtain ⟨oC, heC, hoC⟩ := LCg.ns_obj hn₃
      have kp₃ : ∀ b o, b ≠ I → b ≠ C → b ≠ D → h₁.get? b = some o → h₃.get? b = some o := fun b o q1 q2 q3 e => hs₃.extBut b o q2 (hk₂' b o q1 (kp b o q1 q2 q3 e))
      have hst₃ : KBw.IsBytesIter h₃ I b tb (i + 1) := W1.frame _ _ _ hst₂ fun b' hb o e => hs₃.extBut b' o (by rw [List.mem_singleton.mp hb]; exact hCI) e
      have hD₃ : h₃.get? D = some (LCg.lst ys) := hs₃.extBut _ _ hDC (hk₂' _ _ (Ne.symm hDI) hD')
      refine wpAny_mono (hit _ C oC _ _ hoC (FrOf _ kp₃) (fun p hp => by rw [List.mem_singleton.mp hp]; exact ⟨heC, hCL, hC₀⟩)) (fun xx s₄ h₄ => ?_) fun _ _ e => e
      obtain ⟨r, h₄, tk₄, t₀, u₀, v₀, rfl, rfl, hr, hk₄⟩ := h₄
      have hsm : ∀ n : Nat, n ≤ 100 → Builtin.Range.small 0 (n : Int) 1 = true := by decide +kernel
      have hrs : Builtin.Range.rangeSize 0 (n2 : Int) 1 = (n2 : Int) := by unfold Builtin.Range.rangeSize; rw [if_pos (by decide)]; split <;> omega
      refine wpAny_pyIter_range hr (hsm _ hn2) ?_
      dsimp only
      generalize hh5 : h₄.push { cls := .type "range_iterator", data := .fields #[rawInt 0, rawInt (Builtin.Range.rangeSize 0 (n2 : Int) 1), rawInt 1] } = h₅
      have hk₅ : ∀ b o, h₃.get? b = some o → h₅.get? b = some o := fun b o e => hh5 ▸ Heap.get?_push_of_some _ (hk₄ b o e)
      have hst2 : IsRangeIter h₅ h₄.objs.size (0 + ((0 : Nat) : Int) * 1) ((n2 : Int) - ((0 : Nat) : Int)) 1 := by
        subst hh5
        rw [hrs]
        simpa using Heap.get?_push_size h₄ rfl
      have hlt4 : ∀ b o, h₃.get? b = some o → b ≠ h₄.objs.size := fun b o e => Nat.ne_of_lt (Heap.lt_size (hk₄ b o e))
      have hI2I : I ≠ h₄.objs.size := by obtain ⟨o, ho, _⟩ := hst₃; exact hlt4 _ _ ho
      have hI2C : C ≠ h₄.objs.size := hlt4 _ _ heC
      have hI2D : D ≠ h₄.objs.size := hlt4 _ _ hD₃
      have hI2K : ∀ b o, b ≠ I → b ≠ C → b ≠ D → h₁.get? b = some o → b ≠ h₄.objs.size := fun b o q1 q2 q3 e => hlt4 _ _ (kp₃ b o q1 q2 q3 e)
      generalize h₄.objs.size = I2 at hst2 hlt4 hI2I hI2C hI2D hI2K
      have W2 := LCg.range_walks (prog := prog) (w := w) (I := I2) hh 0 n2
      have loop1 : codeAny (model prog w) A (.compLoop (comp2 elt iter iter2 x x2 px px2 scope pos) 1 (.ref I2) (.ref D) (compEnvC scope cl C env))
          (fun r s₅ => r = .ok .next ∧ ∃ k', k' < b.size + 1 - i ∧ ∃ h' tk i ys m', s₅ = { s₂ with heap := h', toks := tk } ∧ i ≤ b.size ∧ k' = b.size + 1 - i ∧ KBw.IsBytesIter h' I b tb i ∧ (∀ b o, b ≠ I → b ≠ C → b ≠ D → h₁.get? b = some o → h'.get? b = some o) ∧ h'.Ns C m' ∧ h'.get? D = some (LCg.lst ys) ∧ G i 0 ys)
          { s₂ with heap := h₅, toks := tk₄ } := by
        refine comp2_loop1
          (fun k s' => ∃ h' tk j ys m', s' = { s₂ with heap := h', toks := tk } ∧ j ≤ n2 ∧ k = n2 + 1 - j ∧ IsRangeIter h' I2 (0 + (j : Int) * 1) ((n2 : Int) - (j : Int)) 1 ∧ KBw.IsBytesIter h' I b tb (i + 1) ∧ (∀ b o, b ≠ I → b ≠ C → b ≠ D → h₁.get? b = some o → h'.get? b = some o) ∧ h'.Ns C m' ∧ m' x = some (.int (c.toNat : Int) u) ∧ h'.get? D = some (LCg.lst ys) ∧ G i j ys)
          ?_ (n2 + 1) ⟨h₅, _, 0, ys, _, rfl, Nat.zero_le _, rfl, hst2, ?_, fun b o q1 q2 q3 e => hk₅ b o (kp₃ b o q1 q2 q3 e), hn₃.at' fun o e => hk₅ _ o e, by simp, hk₅ _ _ hD₃, hG⟩
        · rintro k s' ⟨h', tk, j, ys, m', rfl, hj, rfl, hstj, hstI, kp, hn', hmx, hD', hG⟩
          by_cases hlj : j < n2
          · refine W2.item j _ _ _ hlj hstj fun v h₆ tk₆ hPv hst₆ hk₆ => ?_
            obtain ⟨t, rfl⟩ := hPv
            have hk₆' : ∀ b o, b ≠ I2 → h'.get? b = some o → h₆.get? b = some o := fun b o hb e => hk₆ b o (by simpa using hb) e
            refine wpAny_assign_Name (wpAny_storeName_local (lookup_relabel_local hx2) (hn'.at' fun o e => hk₆' _ o hI2C e) (fun h₇ hn₇ hs₇ => ?_) (by simp [compEnvC, relabel, hkind]))
            obtain ⟨oC7, heC7, hoC7⟩ := LCg.ns_obj hn₇
            have kp₇ : ∀ b o, b ≠ I → b ≠ C → b ≠ D → h₁.get? b = some o → h₇.get? b = some o := fun b o q1 q2 q3 e => hs₇.extBut b o q2 (hk₆' b o (hI2K b o q1 q2 q3 e) (kp b o q1 q2 q3 e))
            have hst₇ : IsRangeIter h₇ I2 (0 + ((j + 1 : Nat) : Int) * 1) ((n2 : Int) - ((j + 1 : Nat) : Int)) 1 := W2.frame _ _ _ hst₆ fun b' hb o e => hs₇.extBut b' o (by rw [List.mem_singleton.mp hb]; exact Ne.symm hI2C) e
            have hstI₇ : KBw.IsBytesIter h₇ I b tb (i + 1) := W1.frame _ _ _ hstI fun b' hb o e => hs₇.extBut b' o (by rw [List.mem_singleton.mp hb]; exact hCI) (hk₆' b' o (by rw [List.mem_singleton.mp hb]; exact hI2I) e)
            have hD₇ : h₇.get? D = some (LCg.lst ys) := hs₇.extBut _ _ hDC (hk₆' _ _ hI2D hD')
            refine wpAny_mono (hel i j c u t C oC7 _ ys _ _ hc hlj hoC7 (by rw [if_neg hne]; exact hmx) (by simp) (FrOf _ kp₇) (fun p hp => by rw [List.mem_singleton.mp hp]; exact ⟨heC7, hCL, hC₀⟩) hG) (fun y s₈ h₈ => ?_) fun _ _ e => e
            obtain ⟨tk₈, rfl, hG'⟩ := h₈
            refine append_at (hsz := by show ys.toArray.size ≤ sizeLine; rw [List.size_toArray]; exact hGl _ _ _ hG) hD₇ fun h₉ hs₉ hD₉ => ?_
            refine ⟨n2 + 1 - (j + 1), by omega, h₉, tk₈, j + 1, ys ++ [y], _, rfl, hlj, rfl, W2.frame _ _ _ hst₇ fun b' hb o e => hs₉.extBut b' o (by rw [List.mem_singleton.mp hb]; exact Ne.symm hI2D) e,
              W1.frame _ _ _ hstI₇ fun b' hb o e => hs₉.extBut b' o (by rw [List.mem_singleton.mp hb]; exact hDI) e, fun b o q1 q2 q3 e => hs₉.extBut b o q3 (kp₇ b o q1 q2 q3 e), hn₇.sameBut hs₉ (Ne.symm hDC), by rw [if_neg hne]; exact hmx, hD₉.trans (congrArg some (LCg.lst_snoc ys y)), hG'⟩
          · obtain rfl : j = n2 := Nat.le_antisymm hj (Nat.not_lt.mp hlj)
            refine W2.done _ _ _ hstj fun h₆ tk₆ hk₆ => ?_
            have hk₆' : ∀ b o, b ≠ I2 → h'.get? b = some o → h₆.get? b = some o := fun b o hb e => hk₆ b o (by simpa using hb) e
            exact ⟨rfl, b.size + 1 - (i + 1), by omega, h₆, tk₆, i + 1, ys, m', rfl, hlt, rfl, W1.frame _ _ _ hstI fun b' hb o e => hk₆' b' o (by rw [List.mem_singleton.mp hb]; exact hI2I) e,
              fun b o q1 q2 q3 e => hk₆' b o (hI2K b o q1 q2 q3 e) (kp b o q1 q2 q3 e), hn'.at' fun o e => hk₆' _ o hI2C e, hk₆' _ _ hI2D hD', hGs i ys hlt hG⟩
        · exact W1.frame _ _ _ hst₃ fun b' _ o e => hk₅ b' o e
      exact comp2_start1 loop1 (W2.self 0 _ _ _ hst2 loop1)
    · obtain rfl : i = b.size := Nat.le_antisymm hi (Nat.not_lt.mp hlt)
      refine W1.done _ _ _ hst' fun h₂ tk₂ hk₂ => ?_
      have hk₂' : ∀ b o, b ≠ I → h'.get? b = some o → h₂.get? b = some o := fun b o hb e => hk₂ b o (by simpa using hb) e
      have kp₂ : ∀ b o, b ≠ I → b ≠ C → b ≠ D → h₁.get? b = some o → h₂.get? b = some o := fun b o q1 q2 q3 e => hk₂' b o q1 (kp b o q1 q2 q3 e)
      refine ⟨m', hn'.at' fun o e => hk₂' _ o (Ne.symm hCI) e, fun h'' hs'' => hfin' D h'' tk₂ ys hG ((FrOf _ kp₂).change hs'' hCL hC₀) (fun p hp => ?_) (LCg.Off3.one (LCg.Off3.of fun p hp => ⟨hIoff p hp, (below _ (hnewslt p hp)).1, (below _ (hnewslt p hp)).2⟩ : LCg.Off3 I C D news))⟩
      rcases List.mem_cons.mp hp with rfl | hp
      · exact ⟨hs''.extBut _ _ hDC (hk₂' _ _ (Ne.symm hDI) hD'), hDL, hD₀⟩
      · exact ⟨hs''.extBut _ _ (below _ (hnewslt p hp)).1 (kp₂ _ _ (hIoff p hp) (below _ (hnewslt p hp)).1 (below _ (hnewslt p hp)).2 (N₁ p hp).1), (N₁ p hp).2⟩
  exact codeAny_compStart_list (loop _ rfl) (W1.self 0 _ _ _ hst₁ (loop _ rfl))
end Mine
open PyProof.Rows PySem.W in
theorem Mine.flushC2 : True := by w_top off; first | walk1 | trivial

/-! part Ba -/
namespace Mine
open PySem PySem.W PySem.Spec PySem.Calls PyProof.Rows
local macro_rules | `(tactic| k_steps) => `(tactic| repeat' (first | (k_unfold; (try dsimp only)) | (k_end; wrow_close) | walk1 | (dsimp only; walk1) | (leave1; walk_say "STEP leave1"; try dsimp only) | fail "no step"))
set_option maxRecDepth 100000
set_option maxHeartbeats 1600000
theorem fill7 : (PySem.Challenge.rw_aa6001_01 = PySem.Challenge.rw_aa6001_01) ∧ (hd.heap_39 = hd.heap_39) := by
  k_fill
  exact ⟨rfl, rfl⟩
noncomputable def bitsOf (ks : List Int) : List Nat := ks.flatMap fun k => bitsN k.toNat 8
def G2 (ks : List Int) (i j : Nat) (ys : List Value) : Prop := i ≤ ks.length ∧ j ≤ 8 ∧ StrsAre ys (((bitsOf (ks.take i) ++ (bitsN (ks.getD i 0).toNat 8).take j).map (· + 48)).map st1)
theorem bitsOf_len : ∀ ks : List Int, (bitsOf ks).length = 8 * ks.length
  | [] => rfl
  | k :: r => by
    show (bitsN k.toNat 8 ++ bitsOf r).length = _
    rw [List.length_append, bits_len, bitsOf_len r, List.length_cons]; omega
theorem G2_len {ks : List Int} (hl : ks.length ≤ 1000) {i j : Nat} {ys : List Value} (h : G2 ks i j ys) : ys.length ≤ sizeLine := by
  obtain ⟨h1, h2, h3⟩ := h
  have := strs_len h3
  rw [List.length_map, List.length_map, List.length_append, bitsOf_len, List.length_take, List.length_take, bits_len] at this
  rw [sizeLine_eq]; omega
theorem G2_nil (ks : List Int) : G2 ks 0 0 [] := ⟨Nat.zero_le _, Nat.zero_le _, by simpa [bitsOf] using StrsAre.nil⟩
theorem G2_row {ks : List Int} {i : Nat} {ys : List Value} (hi : i < ks.length) (h : G2 ks i 8 ys) : G2 ks (i + 1) 0 ys := by
  obtain ⟨h1, h2, h3⟩ := h
  refine ⟨hi, Nat.zero_le _, ?_⟩
  have e : bitsOf (ks.take (i + 1)) = bitsOf (ks.take i) ++ (bitsN (ks.getD i 0).toNat 8).take 8 := by
    rw [List.take_add_one, List.getElem?_eq_getElem hi]
    unfold bitsOf
    rw [List.flatMap_append, List.take_of_length_le (l := bitsN (ks.getD i 0).toNat 8) (by rw [bits_len]; omega)]
    simp [List.getD_eq_getElem?_getD, List.getElem?_eq_getElem hi]
  rw [e, List.take_zero, List.append_nil]
  exact h3
theorem bit_at : ∀ c : Nat, c < 256 → ∀ j : Nat, j < 8 → (Int.fmod (Int.fdiv (c : Int) (2 ^ (7 - (j : Int)).toNat)) 2).toNat = (bitsN c 8).getD j 0 := by decide +kernel
theorem G2_go {ks : List Int} {b : Array UInt8} {i j : Nat} {c : UInt8} {ys : List Value} {t : Tok} (hks : KBw.bInts b = ks) (hc : b[i]? = some c) (hj : j < 8) (h : G2 ks i j ys) :
    G2 ks i (j + 1) (ys ++ [.str (bstr [(Int.fmod (Int.fdiv (c.toNat : Int) (2 ^ (7 - (j : Int)).toNat)) 2).toNat]) t]) := by
  obtain ⟨h1, h2, h3⟩ := h
  have hg := KBw.ints_get hc
  rw [hks] at hg
  have e : ks.getD i 0 = (c.toNat : Int) := by rw [List.getD_eq_getElem?_getD, hg]; rfl
  have hcl : c.toNat < 256 := c.toNat_lt
  refine ⟨h1, hj, ?_⟩
  rw [bit_at _ hcl _ hj, e, Int.toNat_natCast]
  rw [e, Int.toNat_natCast] at h3
  have e2 : (bitsN c.toNat 8).take (j + 1) = (bitsN c.toNat 8).take j ++ [(bitsN c.toNat 8).getD j 0] := by
    rw [List.take_add_one, List.getD_eq_getElem?_getD, List.getElem?_eq_getElem (by rw [bits_len]; exact hj)]
    rfl
  rw [e2, ← List.append_assoc, List.map_append, List.map_append]
  exact strs_app h3 (.cons _ t .nil)
theorem mul0N : ∀ n : Nat, n < 6 → Txt.mul (Str.ofString "0") (n : Int) = bstr (List.replicate n 0) := by decide +kernel
theorem mul61N : ∀ n : Nat, n < 4 → Txt.mul (Str.ofString "=") (n : Int) = (⟨(List.replicate n 61).toArray⟩ : Str) := by decide +kernel
section
variable {prog : Program} {w : World} {A : Around} {E : Value → Shared → Prop} {s : Shared} {Q : Value → Shared → Prop} {t u : Tok} {a : Int}
theorem mul_zeros (h : ∀ t' k, Q (.str (bstr (List.replicate (Int.fmod a 6).toNat 0)) t') { s with toks := k }) : wpAny (model prog w) A (binaryOp .Mult (.str (Str.ofString "0") t) (.int (Int.fmod a 6) u)) Q E s := by
  have h0 := Int.fmod_nonneg_of_pos a (by decide : (0:Int) < 6)
  have h1 := Int.fmod_lt_of_pos a (by decide : (0:Int) < 6)
  refine SB.mul (mulOk_of 1 6 (by decide) (by omega) (by omega) (by decide) (by decide)) (fun t' k => ?_)
  have e := mul0N (Int.fmod a 6).toNat (by omega)
  rw [Int.toNat_of_nonneg h0] at e
  rw [e]
  exact h t' k
theorem mul_pads (h : ∀ t' k, Q (.str (⟨(List.replicate (Int.fmod a 4).toNat 61).toArray⟩ : Str) t') { s with toks := k }) : wpAny (model prog w) A (binaryOp .Mult (.str (Str.ofString "=") t) (.int (Int.fmod a 4) u)) Q E s := by
  have h0 := Int.fmod_nonneg_of_pos a (by decide : (0:Int) < 4)
  have h1 := Int.fmod_lt_of_pos a (by decide : (0:Int) < 4)
  refine SB.mul (mulOk_of 1 4 (by decide) (by omega) (by omega) (by decide) (by decide)) (fun t' k => ?_)
  have e := mul61N (Int.fmod a 4).toNat (by omega)
  rw [Int.toNat_of_nonneg h0] at e
  rw [e]
  exact h t' k
end
def sixs (bl : List Nat) : List Int := (List.range (bl.length / 6)).map fun i => ((valN ((bl.drop (6 * i)).take 6) : Nat) : Int)
theorem six_src {prog : Program} {w : World} {A : Around} {h₀ : Heap} {L : Addr} {m : Str → Option Value} {env : Env} {elt : PySem.Expr} {x : Str} {scope : Scope} {cl : List (Str × Addr)} {Fin : Shared → List Value → List (Addr × Obj) → Prop} {r : Addr} {s₁ : Shared} {bl : List Nat} {ob : Obj} {tb t u v : Tok} {news : List (Addr × Obj)}
   (_hb : ob.data = .cell (some (.str (bstr bl) tb))) (hh : A.handled = none) (F : Fr h₀ L s₁.heap m) (N : News h₀ L s₁.heap news) (hr : IsRange s₁.heap r 0 (bl.length : Int) 6 t u v) (hl : bl.length ≤ 600) (h6 : bl.length % 6 = 0)
   (turn : ∀ (k : Int) t I oI C oC D m₂ ys h tk (E' : Value → Shared → Prop), 0 ≤ k → k + 6 ≤ bl.length → LCg.NsObj oC m₂ → m₂ x = some (.int k t) → Fr h₀ L h m → News h₀ L h ((I, oI) :: (C, oC) :: (D, LCg.lst ys) :: news) → LCg.Off3 I C D news → ((@Ne Nat I C) ∧ (@Ne Nat I D) ∧ (@Ne Nat C D)) → KPfMark →
      wpAny (model prog w) A (eval elt (compEnvC scope cl C env)) (LCg.CompEnd h₀ L m { s₁ with heap := h, toks := tk } I oI C oC D (LCg.lst ys) (fun _ => True) (fun y news' => KCtEl news (st1 (sg ((valN ((bl.drop k.toNat).take 6) : Nat) : Int))) y news')) E' { s₁ with heap := h, toks := tk })
   (fin : ∀ g ys, StrsAre ys (((sixs bl).map sg).map st1) → Fin { s₁ with heap := g } ys news) : SrcS prog w A h₀ L m env elt x scope cl Fin (.ref r) s₁ := by
  have hsz : Builtin.Range.rangeSize 0 (bl.length : Int) 6 = ((bl.length / 6 : Nat) : Int) := by
    unfold Builtin.Range.rangeSize
    rw [if_pos (by decide)]
    split <;> omega
  have hsm : ∀ n : Nat, n ≤ 600 → Builtin.Range.small 0 (n : Int) 6 = true := by decide +kernel
  refine ⟨r, 0, (bl.length : Int), 6, t, u, v, bl.length / 6, news, rfl, hh, F, N, hr, hsm _ hl, hsz, by rw [sizeLine_eq]; omega, ?_⟩
  rintro s₂ ⟨g, rfl⟩
  refine kct_rest (ks := (List.range (bl.length / 6)).map fun (i : Nat) => (6 : Int) * (i : Int)) (fun k => st1 (sg ((valN ((bl.drop k.toNat).take 6) : Nat) : Int))) (by simp) (fun i v hi hv => ?_) ?_ ?_
  · obtain ⟨_, t, rfl⟩ := hv
    refine ⟨6 * (i : Int), t, by simp [hi], ?_⟩
    rw [Int.zero_add, Int.mul_comm]
  · intro k t I oI C oC D m₂ ys h tk E' hk hC hx F N off ne mk
    obtain ⟨i, hi, rfl⟩ := List.mem_map.mp hk
    have hi' := List.mem_range.mp hi
    exact turn _ t I oI C oC D m₂ ys h tk E' (by omega) (by omega) hC hx F N off ne mk
  · show ∀ ys, _ → _ → _
    intro ys hy _
    refine fin g ys ?_
    have hy' := CarriedAll.strsOf hy
    unfold sixs
    rw [List.map_map] at hy' ⊢
    rw [List.map_map]
    exact hy'
def cstr (l : List Nat) : Str := ⟨l.toArray⟩
theorem cstr_len (l : List Nat) : (cstr l).length = l.length := by show l.toArray.size = _; rw [List.size_toArray]
theorem pad6 (n : Nat) (x : Nat) (bl : List Nat) (h : bl.length = n) : (bl ++ List.replicate (Int.fmod (-(n : Int)) 6).toNat x).length % 6 = 0 := by
  have h0 := Int.fmod_nonneg_of_pos (-(n : Int)) (by decide : (0:Int) < 6)
  have h1 := Int.fmod_lt_of_pos (-(n : Int)) (by decide : (0:Int) < 6)
  have h2 := Int.fmod_eq_emod_of_nonneg (-(n : Int)) (by decide : (0:Int) ≤ 6)
  rw [List.length_append, List.length_replicate, h]
  omega
theorem pad6_le (n : Nat) (x : Nat) (bl : List Nat) (h : bl.length = n) : (bl ++ List.replicate (Int.fmod (-(n : Int)) 6).toNat x).length ≤ n + 6 := by
  have h1 := Int.fmod_lt_of_pos (-(n : Int)) (by decide : (0:Int) < 6)
  rw [List.length_append, List.length_replicate, h]
  omega
theorem bitsOf_lt (ks : List Int) : ∀ b ∈ bitsOf ks, b < 2 := by
  intro b hb
  obtain ⟨k, _, h⟩ := List.mem_flatMap.mp hb
  exact bits_lt _ _ b h
theorem pad_lt {bl : List Nat} (h : ∀ b ∈ bl, b < 2) (n : Nat) : ∀ b ∈ bl ++ List.replicate n 0, b < 2 := by
  intro b hb
  rcases List.mem_append.mp hb with hb | hb
  · exact h b hb
  · rw [(List.mem_replicate.mp hb).2]; decide
theorem sixs_len (bl : List Nat) : (sixs bl).length = bl.length / 6 := by unfold sixs; simp
section
variable {prog : Program} {w : World} {A : Around} {E : Value → Shared → Prop} {s : Shared} {h₀ : Heap} {L lo : Addr} {vs : List Value} {news : List (Addr × Obj)} {n : Nat} {t u : Tok} {Q : Value → Shared → Prop}
theorem join_bits {bl : List Nat} (N : News h₀ L s.heap ((lo, W.listOf vs.toArray n) :: news)) (hi : StrsAre vs ((bl.map (· + 48)).map st1)) (hsz : bl.length ≤ 100000) (h : ∀ t' k, Q (.str (bstr bl) t') { s with toks := k }) :
   wpAny (model prog w) A (call (.builtin "str.join") [.str (Str.ofString "") t, .ref lo]) Q E s :=
  news_join N hi (by rw [List.length_map]; exact hsz) h
theorem join_chars {l : List Int} (N : News h₀ L s.heap ((lo, W.listOf vs.toArray n) :: news)) (hi : StrsAre vs ((l.map sg).map st1)) (hsz : l.length ≤ 100000) (h : ∀ t' k, Q (.str (cstr (l.map sg)) t') { s with toks := k }) :
   wpAny (model prog w) A (call (.builtin "str.join") [.str (Str.ofString "") t, .ref lo]) Q E s :=
  news_join N hi (by rw [List.length_map]; exact hsz) h
theorem len_cstr {l : List Nat} (hl : l.length ≤ 100000) (h : ∀ t' k, Q (.int (l.length : Nat) t') { s with toks := k }) : wpAny (model prog w) A (call (.builtin "len") [.str (cstr l) t]) Q E s := by
  have e := cstr_len l
  refine P.len_str (by rw [e]; omega) ?_
  rw [e]
  exact h _ _
theorem add_pads {l : List Nat} {p : List Nat} (hl : l.length + p.length ≤ 100000) (h : ∀ t' k, Q (.str (cstr (l ++ p)) t') { s with toks := k }) : wpAny (model prog w) A (binaryOp .Add (.str (cstr l) t) (.str (⟨p.toArray⟩ : Str) u)) Q E s := by
  have e : cstr l ++ (⟨p.toArray⟩ : Str) = cstr (l ++ p) := by
    show (⟨l.toArray ++ p.toArray⟩ : Str) = ⟨(l ++ p).toArray⟩
    rw [List.append_toArray]
  refine add_str (fun t' k => ?_) (by rw [cstr_len, show (⟨p.toArray⟩ : Str).length = p.length from cstr_len p, sizeLine_eq]; omega)
  rw [e]
  exact h t' k
end
theorem base_src {prog : Program} {w : World} {A : Around} {h₀ : Heap} {L : Addr} {m : Str → Option Value} {env : Env} {elt iter2 : PySem.Expr} {x x2 : Str} {scope : Scope} {cl : List (Str × Addr)} {Q : Value → Shared → Prop} {s₁ : Shared} {b : Array UInt8} {tb : Tok} {news : List (Addr × Obj)} {ks : List Int}
   (hks : KBw.bInts b = ks) (hl : ks.length ≤ 1000) (hh : A.handled = none) (F : Fr h₀ L s₁.heap m) (N : News h₀ L s₁.heap news)
   (it : ∀ (s' : Shared) C oC m₂ (E' : Value → Shared → Prop), LCg.NsObj oC m₂ → Fr h₀ L s'.heap m → News h₀ L s'.heap [(C, oC)] → wpAny (model prog w) A (eval iter2 (compEnvC scope cl C env)) (RP 8 s') E' s')
   (el : ∀ (i j : Nat) (c : UInt8) u t C oC m₂ ys (s' : Shared) (E' : Value → Shared → Prop), b[i]? = some c → j < 8 → LCg.NsObj oC m₂ → m₂ x = some (.int (c.toNat : Int) u) → m₂ x2 = some (.int (j : Int) t) → Fr h₀ L s'.heap m → News h₀ L s'.heap [(C, oC)] → G2 ks i j ys →
      wpAny (model prog w) A (eval elt (compEnvC scope cl C env)) (EP (fun y => G2 ks i (j + 1) (ys ++ [y])) s') E' s')
   (fin : ∀ D h tk ys, StrsAre ys (((bitsOf ks).map (· + 48)).map st1) → Fr h₀ L h m → News h₀ L h ((D, LCg.lst ys) :: news) → LCg.Off1 D news → Q (.ref D) { s₁ with heap := h, toks := tk }) :
   SrcB prog w A h₀ L m env elt iter2 x x2 scope cl 8 Q (.bytes b tb) s₁ := by
  have hsz : b.size = ks.length := by rw [← hks]; unfold KBw.bInts; simp
  refine ⟨b, tb, news, G2 ks, rfl, hh, F, N, fun i j ys h => G2_len hl h, G2_nil ks, it, el, fun i ys hi h => G2_row (by omega) h, fun D h tk ys hG F' N' o => fin D h tk ys ?_ F' N' o⟩
  obtain ⟨_, _, h3⟩ := hG
  rw [List.take_zero, List.append_nil, List.take_of_length_le (by omega)] at h3
  exact h3
local macro_rules | `(tactic| k_room) => `(tactic| ((simp only [depth_under_make, depth_under_kw, depth_in1, depth_deeper, depth_caller, ktrTop, recLim] at *); omega))
local macro_rules | `(tactic| k_units) => `(tactic| ((have hcL9 := cLine_is); (simp only [units_in1, units_deeper, Around.mark_units, units_caller, ktrTop] at *); omega))
local macro_rules | `(tactic| k_all) => `(tactic| first | assumption | exact ne_up1 (by assumption) | exact ne_up2 (by assumption))
theorem iadd_zeros {prog : Program} {w : World} {A : Around} {E : Value → Shared → Prop} {s : Shared} {Q : Value → Shared → Prop} {bl : List Nat} {a : Int} {t u : Tok} (hl : bl.length ≤ 1000)
    (h : ∀ t' k, Q (.str (bstr (bl ++ List.replicate (Int.fmod a 6).toNat 0)) t') { s with toks := k }) : wpAny (model prog w) A (inplaceOp .Add (.str (bstr bl) t) (.str (bstr (List.replicate (Int.fmod a 6).toNat 0)) u)) Q E s := by
  have h1 := Int.fmod_lt_of_pos a (by decide : (0:Int) < 6)
  exact iadd_bits rfl (by rw [List.length_replicate]; omega) h
theorem add_pads4 {prog : Program} {w : World} {A : Around} {E : Value → Shared → Prop} {s : Shared} {Q : Value → Shared → Prop} {l : List Nat} {a : Int} {t u : Tok} (hl : l.length ≤ 1000)
    (h : ∀ t' k, Q (.str (cstr (l ++ List.replicate (Int.fmod a 4).toNat 61)) t') { s with toks := k }) : wpAny (model prog w) A (binaryOp .Add (.str (cstr l) t) (.str (⟨(List.replicate (Int.fmod a 4).toNat 61).toArray⟩ : Str) u)) Q E s := by
  have h1 := Int.fmod_lt_of_pos a (by decide : (0:Int) < 4)
  exact add_pads (by rw [List.length_replicate]; omega) h
theorem cut6_lt {bl : List Nat} (h : ∀ b ∈ bl, b < 2) (i : Nat) : ((valN ((bl.drop i).take 6) : Nat) : Int) < 64 := by
  have h1 := valN_lt _ (cut_bits h i 6)
  have h2 : ((bl.drop i).take 6).length ≤ 6 := by rw [List.length_take]; omega
  have h3 : 2 ^ ((bl.drop i).take 6).length ≤ 2 ^ 6 := Nat.pow_le_pow_right (by decide) h2
  omega
theorem off1_open {D : Addr} {p : Addr × Obj} {r : List (Addr × Obj)} {G : Prop} (h : LCg.Off1 D (p :: r)) (k : (@Ne Nat p.1 D) → G) : G := k h.1
local macro_rules | `(tactic| walk_at "eval ListComp Call") => `(tactic| (k_here; (with_reducible show wpAny _ _ (eval (Expr.ListComp _ [_, _] _ _) _) _ _ _); k_dflt (refine ListComp_B2 8 (by decide) (by k_asm) (by rfl) (by decide) (by rfl) (by decide) (by rfl) (by rfl) (by decide) ?_)))
local macro_rules | `(tactic| walk_at "eval ListComp Subscript") => `(tactic| (k_here; (with_reducible show wpAny _ _ (eval (Expr.ListComp _ [Comprehension.mk _ (Expr.Call _ [_, _, _] _ _) _ _] _ _) _) _ _ _); k_dflt (refine ListComp_S (F₀ := by k_asm) (by rfl) (by decide) (by rfl) (by decide) (by rfl) ?_)))
local macro_rules | `(tactic| walk_at "SrcB") => `(tactic| (k_dflt (refine base_src (by assumption) (by assumption) (by rfl) (by k_asm) (by k_asm) (fun s9 C9 oC9 m9 E9 hC9 F9 N9 => ?_) (fun i9 j9 c9 u9 t9 C9 oC9 m9 ys9 s9 E9 hc9 hj9 hC9 hx9 hy9 F9 N9 hG9 => ?_) (fun D9 h9 tk9 ys9 hS9 F9 N9 o9 => off1_open o9 fun o9' => ?_))))
local macro_rules | `(tactic| walk_at "RP") => `(tactic| exact ⟨_, _, _, _, _, _, rfl, rfl, by assumption, by assumption⟩)
local macro_rules | `(tactic| walk_at "EP") => `(tactic| exact ⟨_, rfl, G2_go (by assumption) (by assumption) (by assumption) (by assumption)⟩)
local macro_rules | `(tactic| walk_at "call type:str") => `(tactic| (k_here; (with_reducible show wpAny _ _ (call (Value.type "str") [Value.int (Int.fmod _ 2) _]) _ _ _); (refine str_bit ?_); intro _ _))
local macro_rules | `(tactic| walk_at "call builtin:str.join") => `(tactic| (k_here; k_dflt (first | (refine join_bits (by assumption) (by assumption) (by rw [bitsOf_len]; omega) ?_) | (refine join_chars (by assumption) (by assumption) (by rw [sixs_len]; omega) ?_)); intro _ _))
local macro_rules | `(tactic| walk_at "call builtin:len") => `(tactic| (k_here; (with_reducible show wpAny _ _ (call (Value.builtin "len") [Value.str (bstr _) _]) _ _ _); (refine len_bits (by omega) ?_); intro _ _))
local macro_rules | `(tactic| walk_at "call builtin:len") => `(tactic| (k_here; (with_reducible show wpAny _ _ (call (Value.builtin "len") [Value.str (cstr _) _]) _ _ _); (refine len_cstr (by rw [List.length_map, sixs_len]; omega) ?_); intro _ _))
local macro_rules | `(tactic| walk_at "binaryOp Mult str int") => `(tactic| (k_here; first | (with_reducible refine mul_zeros ?_) | (with_reducible refine mul_pads ?_); intro _ _))
local macro_rules | `(tactic| walk_at "inplaceOp Add str str") => `(tactic| (k_here; (with_reducible show wpAny _ _ (inplaceOp _ (Value.str (bstr _) _) (Value.str (bstr _) _)) _ _ _); (refine iadd_zeros (by omega) ?_); intro _ _))
local macro_rules | `(tactic| walk_at "binaryOp Add str str") => `(tactic| (k_here; (with_reducible show wpAny _ _ (binaryOp _ (Value.str (cstr _) _) (Value.str _ _)) _ _ _); k_dflt (refine add_pads4 (by rw [List.length_map, sixs_len]; omega) ?_); intro _ _))
local macro_rules | `(tactic| walk_at "call type:range") => `(tactic| (k_here; (with_reducible show wpAny _ _ (call _ [_, _, _]) _ _ _); (rename Fr _ _ _ _ => F'); (rename News _ _ _ _ => N'); (with_unfolding_all refine range3_rows F' N' (by decide) ?_); intro _ _ _ _ _ _ _ _ _))
local macro_rules | `(tactic| walk_at "SrcS") => `(tactic| (k_dflt (refine six_src (by assumption) (by rfl) (by k_asm) (by k_asm) (by assumption) (by assumption) (by assumption) (fun k9 t9 I9 oI9 C9 oC9 D9 m9 ys9 h9 tk9 E9 b1 b2 hC9 hx9 F9 N9 off9 ne9 mk9 => ?_) (fun g9 ys9 hy9 => ?_))))
local macro_rules | `(tactic| walk_at "subscriptTail Name Slice str ref") => `(tactic| (k_here; (with_reducible show wpAny _ _ (subscriptTail _ (Expr.Slice (some _) (some _) none _) (Value.str (bstr _) _) _) _ _ _); (with_reducible rename Fr _ _ _ _ => F'); (with_reducible rename News _ _ _ _ => N'); k_dflt (refine slice_bits (s := ⟨_, _, _, _, _⟩) 6 rfl (by assumption) (by assumption) (by omega) F' N' ?_); intro _ _ _ _ _))
local macro_rules | `(tactic| walk_at "call type:int") => `(tactic| (k_here; (with_reducible show wpAny _ _ (call (Value.type "int") [Value.str (bstr _) _, Value.int 2 _]) _ _ _); k_dflt (refine call_int6 (cut_bits (by assumption) _ _) (cut_len (by assumption) (by assumption)) ?_); intro _ _))
local macro_rules | `(tactic| walk_at "subscriptTail Name Call") => `(tactic| (k_here; (with_reducible show wpAny _ _ (subscriptTail _ _ (Value.str (Str.ofString "ABCDEFGHIJKLMNOPQRSTUVWXYZabcdefghijklmnopqrstuvwxyz0123456789+/") _) (Value.int _ _)) _ _ _); k_dflt (refine sub_alph (Int.natCast_nonneg _) (cut6_lt (by assumption) _) ?_); intro _ _))
local macro_rules | `(tactic| walk_at "CompEnd") => `(tactic| (k_dflt (refine kct_CompEnd (by assumption) (by assumption) (by kcf_all) (by first | assumption | (simp only [LCg.Off3, and_true]; done) | (simp only [LCg.Off3, and_true]; assumption)) ?_); kpf_tidy; kpf_eq))
noncomputable def padB (ks : List Int) : List Nat := bitsOf ks ++ List.replicate (Int.fmod (-((bitsOf ks).length : Int)) 6).toNat 0
noncomputable def baseC (ks : List Int) : List Nat := (sixs (padB ks)).map sg ++ List.replicate (Int.fmod (-(((sixs (padB ks)).map sg).length : Int)) 4).toNat 61
theorem base_ct {w : World} {mean : ExcName → Option Value} {mg mb : Str → Option Value}
  {b : Array UInt8} {tb : Tok} {ks : List Int} (hks : KBw.bInts b = ks) (hl : ks.length ≤ 50)
  {dp un : Nat} {gd : Option (List Code)} {cn : Str} {cs : Scope} {a : Addr} {ccd : Value} {cl : List (Str × Addr)} {outer : List Env} {A₀ : Around} {base h₀ : Heap} {L : Addr} {m : Str → Option Value} {news : List (Addr × Obj)} {s : Shared} {Q E : Value → Shared → Prop}
  (B : Below A₀ base outer h₀) (F : Fr h₀ L s.heap m) (X : (hd.heap_39 w.params).In h₀) (N : News h₀ L s.heap news) (T : Top hd.view_39 (looseW hd.view_39 []) mean mg mb h₀) (hk : cs.kind = .function)
  (hdp : dp ≤ 305)
  (hret : ∀ (t : Tok) (h' : Heap) (tk' : Nat), Fr h₀ L h' m → News h₀ L h' news → Q (.str (cstr (baseC ks)) t) { s with heap := h', toks := tk' }) :
  wpAny (model PG w) (ktrTop dp un gd cn cs L a ccd cl outer) (call (.ref 64) [.bytes b tb]) Q E s := by
  have hl2 : ks.length ≤ 1000 := by omega
  have hbo := bitsOf_len ks
  have hp1 : (bitsOf ks ++ List.replicate (Int.fmod (-((bitsOf ks).length : Int)) 6).toNat 0).length ≤ 600 := by
    have := pad6_le _ 0 (bitsOf ks) rfl
    omega
  have hp2 := pad6 _ 0 (bitsOf ks) rfl
  have hp3 := pad_lt (bitsOf_lt ks) (Int.fmod (-((bitsOf ks).length : Int)) 6).toNat
  refine wpAny_call ?_
  k_dflt ((refine' code_defC ?k1 ?k2 ?k3 ?k4 ?k5 ?kA ?kF ?kK ?k6 ?k7 ?k8 ?k9 ?kB ?kD ?_ ?c2 ?c3 ?c4; (case kA => exact rfl); (case kF => exact rfl); (case kK => assumption); (case k1 => k_asm); (case k2 => k_asm); (case k3 => k_asm); (case k4 => k_asm); (case k5 => k_asm); (case k6 => k_is); (case k7 => k_is); (case k8 => ktr_room); (case k9 => exact BindsTo.of_eq rfl); (case kB => exact rfl); (case kD => decide +kernel); (case c2 => exact rfl); (case c3 => exact rfl); (case c4 => exact rfl); k_whole; intro g' L' h' tk' cells' FG' F' N' Y' B' X' T' l1; (try k_lt l1); k_cells Y'; (try simp only [List.cons_append, List.nil_append] at N'); (try dsimp only); (try k_lift B'); (try k_fold)))
  k_steps
  all_goals exact hret _ _ _ (by assumption) (cb_drop (by assumption) (by intro p hp; repeat (first | exact hp | apply List.mem_cons_of_mem)))
end Mine
open PyProof.Rows PySem.W in
theorem Mine.flushBa : True := by w_top off; first | walk1 | trivial

/-! part Pl -/
namespace Mine
open PySem PySem.W PySem.Spec PySem.Calls PyProof.Rows
set_option maxRecDepth 100000
set_option maxHeartbeats 1600000
def rl (q : Int) : Nat := if q = 1 then 6 else if q = 2 then 4 else if q = 3 then 2 else 0
theorem bit_1 : ∀ l : Nat, l < 64 → ∀ n : Nat, n < 64 → bitsN l 6 ++ bitsN n 6 = bitsN (l * 4 + n / 16) 8 ++ bitsN n 4 := by
  intro l hl n hn
  simp only [bitsN, List.cons_append, List.nil_append, List.cons.injEq, and_true]
  and_intros <;> omega
theorem bit_2 : ∀ l : Nat, l < 64 → ∀ n : Nat, n < 64 → bitsN l 4 ++ bitsN n 6 = bitsN (l % 16 * 16 + n / 4) 8 ++ bitsN n 2 := by
  intro l hl n hn
  simp only [bitsN, List.cons_append, List.nil_append, List.cons.injEq, and_true]
  and_intros <;> omega
theorem bit_3 : ∀ l : Nat, l < 64 → ∀ n : Nat, n < 64 → bitsN l 2 ++ bitsN n 6 = bitsN (l % 4 * 64 + n) 8 ++ bitsN n 0 := by
  intro l hl n hn
  simp only [bitsN, List.cons_append, List.nil_append, List.cons.injEq, and_true]
  and_intros <;> omega
structure Both (d : DSt) (r : RSt) : Prop where
  q : d.quad = r.2.2 % 4
  p : d.pads = r.2.1
  c : 0 ≤ r.2.2
  l0 : 0 ≤ d.left
  l1 : d.left < 64
  o : KBa.In d.out
  b : r.1 = bitsOf d.out ++ bitsN d.left.toNat (rl d.quad)
theorem bitsOf_app (a b : List Int) : bitsOf (a ++ b) = bitsOf a ++ bitsOf b := by unfold bitsOf; rw [List.flatMap_append]
theorem bitsOf_one (x : Int) : bitsOf [x] = bitsN x.toNat 8 := by unfold bitsOf; simp
theorem Both.nil : Both ⟨[], 0, 0, 0⟩ ([], 0, 0) := ⟨rfl, rfl, Int.le_refl _, Int.le_refl _, by decide, (fun _ h => nomatch h), rfl⟩
theorem Both.step {d : DSt} {r : RSt} (h : Both d r) (x : Int) : Both (decStep d x) (rdStep r x) := by
  obtain ⟨hq, hp, hc, h0, h1, ho, hb⟩ := h
  unfold decStep rdStep
  by_cases hx : x = 61
  · rw [if_pos hx, if_pos hx]
    exact ⟨hq, by show d.pads + 1 = r.2.1 + 1; rw [hp], hc, h0, h1, ho, hb⟩
  · rw [if_neg hx, if_neg hx]
    by_cases hn : plc x < 0
    · rw [if_pos hn, if_neg (show ¬ 0 ≤ plc x by omega)]
      exact ⟨hq, hp, hc, h0, h1, ho, hb⟩
    · rw [if_neg hn, if_pos (show 0 ≤ plc x by omega)]
      have hh := plc_hi x
      obtain ⟨n, hn'⟩ := Int.eq_ofNat_of_zero_le (show 0 ≤ plc x by omega)
      obtain ⟨l, hl'⟩ := Int.eq_ofNat_of_zero_le h0
      have hnl : n < 64 := by omega
      have hll : l < 64 := by omega
      have hq4 : d.quad = 0 ∨ d.quad = 1 ∨ d.quad = 2 ∨ d.quad = 3 := by omega
      rw [hl', Int.toNat_natCast] at hb
      refine ⟨by show (d.quad + 1) % 4 = (r.2.2 + 1) % 4; omega, rfl, by show 0 ≤ r.2.2 + 1; omega, by show 0 ≤ plc x; omega, hh, ?_, ?_⟩
      · show KBa.In (d.out ++ _)
        intro y hy
        rcases List.mem_append.mp hy with hy | hy
        · exact ho y hy
        · rw [hl', hn'] at hy
          rcases hq4 with e | e | e | e <;> rw [e] at hy <;> simp at hy <;> (subst hy; omega)
      · show r.1 ++ bitsN (plc x).toNat 6 = bitsOf (d.out ++ _) ++ bitsN (plc x).toNat (rl ((d.quad + 1) % 4))
        rw [hb, hl', hn', Int.toNat_natCast, bitsOf_app]
        rcases hq4 with e | e | e | e
        · rw [e]
          simp [rl, bitsOf, bitsN]
        · rw [e]
          have := bit_1 l hll n hnl
          have e2 : ((l : Int) * 4 + (n : Int) / 16).toNat = l * 4 + n / 16 := by omega
          show (bitsOf d.out ++ bitsN l 6) ++ bitsN n 6 = (bitsOf d.out ++ bitsOf [(l : Int) * 4 + (n : Int) / 16]) ++ bitsN n 4
          rw [bitsOf_one, e2, List.append_assoc, List.append_assoc, this]
        · rw [e]
          have := bit_2 l hll n hnl
          have e2 : ((l : Int) % 16 * 16 + (n : Int) / 4).toNat = l % 16 * 16 + n / 4 := by omega
          show (bitsOf d.out ++ bitsN l 4) ++ bitsN n 6 = (bitsOf d.out ++ bitsOf [(l : Int) % 16 * 16 + (n : Int) / 4]) ++ bitsN n 2
          rw [bitsOf_one, e2, List.append_assoc, List.append_assoc, this]
        · rw [e]
          have := bit_3 l hll n hnl
          have e2 : ((l : Int) % 4 * 64 + (n : Int)).toNat = l % 4 * 64 + n := by omega
          show (bitsOf d.out ++ bitsN l 2) ++ bitsN n 6 = (bitsOf d.out ++ bitsOf [(l : Int) % 4 * 64 + (n : Int)]) ++ bitsN n 0
          rw [bitsOf_one, e2, List.append_assoc, List.append_assoc, this]
theorem Both.run : ∀ (zs : List Int) (d : DSt) (r : RSt), Both d r → Both (zs.foldl decStep d) (zs.foldl rdStep r)
  | [], _, _, h => h
  | x :: zs, _, _, h => Both.run zs _ _ (h.step x)
theorem both_run (zs : List Int) : Both (decRun zs) (rdRun zs) := Both.run zs _ _ Both.nil
theorem rdBad_iff (zs : List Int) : rdBad zs ↔ decBad zs = true := by
  obtain ⟨hq, hp, hc, h0, h1, ho, hb⟩ := both_run zs
  unfold rdBad decBad
  have e := Int.fmod_eq_emod_of_nonneg (rdRun zs).2.2 (by decide : (0:Int) ≤ 4)
  rw [e, ← hq, ← hp, Bool.or_eq_true, Bool.and_eq_true, decide_eq_true_eq, decide_eq_true_eq, decide_eq_true_eq]
  omega
theorem val8 : ∀ n : Nat, n < 256 → valN (bitsN n 8) = n := by decide +kernel
theorem octs_cons {a bl : List Nat} (h : a.length = 8) : octs (a ++ bl) = ((valN a : Nat) : Int) :: octs bl := by
  unfold octs
  rw [List.length_append, h, show (8 + bl.length) / 8 = bl.length / 8 + 1 by omega, List.range_succ_eq_map, List.map_cons, List.map_map]
  congr 1
  · rw [Nat.mul_zero, List.drop_zero, ← h, List.take_left]
  · refine List.map_congr_left fun i _ => ?_
    show ((valN (((a ++ bl).drop (8 * (i + 1))).take 8) : Nat) : Int) = _
    rw [show 8 * (i + 1) = a.length + 8 * i by omega, List.drop_append, List.drop_eq_nil_of_le (by omega), List.nil_append, Nat.add_sub_cancel_left]
theorem octs_out : ∀ (out : List Int) (rest : List Nat), KBa.In out → rest.length < 8 → octs (bitsOf out ++ rest) = out
  | [], rest, _, h => by
    unfold octs bitsOf
    rw [List.flatMap_nil, List.nil_append, show rest.length / 8 = 0 by omega]
    rfl
  | x :: out, rest, ho, h => by
    have hx := ho x (.head _)
    have ih := octs_out out rest (fun y hy => ho y (.tail _ hy)) h
    show octs ((bitsN x.toNat 8 ++ bitsOf out) ++ rest) = _
    rw [List.append_assoc, octs_cons (bits_len _ _), ih, val8 _ (by omega), Int.toNat_of_nonneg hx.1]
theorem rdBad_dec {zs : List Int} (h : rdBad zs) : decBad zs = true := (rdBad_iff zs).mp h
theorem rl_lt (q : Int) : rl q < 8 := by unfold rl; split <;> (try split) <;> (try split) <;> decide
theorem rdOk_dec {zs : List Int} (h : ¬ rdBad zs) : decBad zs = false ∧ (decRun zs).out = octs (rdRun zs).1 := by
  refine ⟨by cases e : decBad zs with
    | false => rfl
    | true => exact absurd ((rdBad_iff zs).mpr e) h, ?_⟩
  have hb := both_run zs
  rw [hb.b, octs_out _ _ hb.o (by rw [bits_len]; exact rl_lt _)]
theorem plc_sgN : ∀ n : Nat, n < 64 → plc ((sg (n : Int) : Nat) : Int) = n ∧ ((sg (n : Int) : Nat) : Int) ≠ 61 := by decide +kernel
theorem plc_sg {k : Int} (h0 : 0 ≤ k) (h1 : k < 64) : plc ((sg k : Nat) : Int) = k ∧ ((sg k : Nat) : Int) ≠ 61 := by
  obtain ⟨n, rfl⟩ := Int.eq_ofNat_of_zero_le h0
  exact plc_sgN n (by omega)
def nats (l : List Nat) : List Int := l.map fun c : Nat => (c : Int)
def decOk (l : List Nat) (ks : List Int) : Prop := decBad (nats l) = false ∧ (decRun (nats l)).out = ks
theorem step_sg (d : DSt) {k : Int} (h0 : 0 ≤ k) (h1 : k < 64) : decStep d ((sg k : Nat) : Int) = { out := d.out ++ (if d.quad = 1 then [d.left * 4 + k / 16] else if d.quad = 2 then [d.left % 16 * 16 + k / 4] else if d.quad = 3 then [d.left % 4 * 64 + k] else []), quad := (d.quad + 1) % 4, pads := 0, left := k } := by
  obtain ⟨e1, e2⟩ := plc_sg h0 h1
  unfold decStep
  rw [if_neg e2, e1, if_neg (by omega)]
/-- the state after the signs of whole groups -/
theorem run_enc : ∀ (ks : List Int), KBa.In ks → ∀ (d : DSt), d.quad = 0 → ((nats (encC ks)).foldl decStep d).out = d.out ++ ks ∧
    (((nats (encC ks)).foldl decStep d).quad = 0 ∨ (((nats (encC ks)).foldl decStep d).quad ≠ 1 ∧ ((nats (encC ks)).foldl decStep d).quad + ((nats (encC ks)).foldl decStep d).pads = 4))
  | [], _, d, hq => by simp [nats, encC, hq]
  | [a], h, d, hq => by
    have ha := h a (.head _)
    show ((([(sg (a / 4) : Int), (sg (a % 4 * 16) : Int), 61, 61] : List Int)).foldl decStep d).out = _ ∧ _
    simp only [nats, encC, List.map_cons, List.map_nil, List.foldl_cons, List.foldl_nil]
    rw [step_sg d (k := a / 4) (by omega) (by omega), step_sg _ (k := a % 4 * 16) (by omega) (by omega)]
    simp [decStep, hq]
    omega
  | [a, b], h, d, hq => by
    have ha := h a (.head _)
    have hb := h b (.tail _ (.head _))
    simp only [nats, encC, List.map_cons, List.map_nil, List.foldl_cons, List.foldl_nil]
    rw [step_sg d (k := a / 4) (by omega) (by omega), step_sg _ (k := a % 4 * 16 + b / 16) (by omega) (by omega), step_sg _ (k := b % 16 * 4) (by omega) (by omega)]
    simp [decStep, hq]
    omega
  | a :: b :: c :: r, h, d, hq => by
    have ha := h a (.head _)
    have hb := h b (.tail _ (.head _))
    have hc := h c (.tail _ (.tail _ (.head _)))
    have hr : KBa.In r := fun y hy => h y (.tail _ (.tail _ (.tail _ hy)))
    simp only [nats, encC, List.map_cons, List.foldl_cons]
    rw [step_sg d (k := a / 4) (by omega) (by omega), step_sg _ (k := a % 4 * 16 + b / 16) (by omega) (by omega), step_sg _ (k := b % 16 * 4 + c / 64) (by omega) (by omega), step_sg _ (k := c % 64) (by omega) (by omega)]
    have ih := run_enc r hr { out := d.out ++ [a, b, c], quad := 0, pads := 0, left := c % 64 } rfl
    have e1 : a / 4 * 4 + (a % 4 * 16 + b / 16) / 16 = a := by omega
    have e2 : b / 16 % 16 * 16 + (b % 16 * 4 + c / 64) / 4 = b := by omega
    have e3 : c / 64 % 4 * 64 + c % 64 = c := by omega
    simp only [nats] at ih
    simp [hq, e1, e2, e3]
    simpa using ih
theorem decOk_enc {ks : List Int} (h : KBa.In ks) : decOk (encC ks) ks := by
  obtain ⟨h1, h2⟩ := run_enc ks h ⟨[], 0, 0, 0⟩ rfl
  refine ⟨?_, by simpa [decRun] using h1⟩
  show (decide ((decRun (nats (encC ks))).quad = 1) || (decide ((decRun (nats (encC ks))).quad ≠ 0) && decide ((decRun (nats (encC ks))).quad + (decRun (nats (encC ks))).pads < 4))) = false
  unfold decRun
  rcases h2 with h2 | ⟨h2, h3⟩
  · simp [h2]
  · simp [h2, h3]
theorem step_ws (d : DSt) : decStep (decStep d 32) 10 = d := rfl
theorem decOk_ins {ks : List Int} (h : KBa.In ks) (p : Nat) : decOk ((encC ks).take p ++ [32, 10] ++ (encC ks).drop p) ks := by
  have e : decRun (nats ((encC ks).take p ++ [32, 10] ++ (encC ks).drop p)) = decRun (nats (encC ks)) := by
    have e1 : nats (encC ks) = nats ((encC ks).take p) ++ nats ((encC ks).drop p) := by
      unfold nats
      rw [← List.map_append, List.take_append_drop]
    have e2 : nats ((encC ks).take p ++ [32, 10] ++ (encC ks).drop p) = nats ((encC ks).take p) ++ ([32, 10] ++ nats ((encC ks).drop p)) := by
      unfold nats
      simp
    rw [e1, e2]
    unfold decRun
    rw [List.foldl_append, List.foldl_append, List.foldl_append]
    rw [show List.foldl decStep (List.foldl decStep ⟨[], 0, 0, 0⟩ (nats ((encC ks).take p))) [32, 10] = List.foldl decStep ⟨[], 0, 0, 0⟩ (nats ((encC ks).take p)) from step_ws _]
  obtain ⟨h1, h2⟩ := decOk_enc h
  refine ⟨?_, by rw [e]; exact h2⟩
  unfold decBad at h1 ⊢
  rw [e]
  exact h1
theorem encC_ne {r : List Int} (h : r ≠ []) : encC r ≠ [] := by
  match r, h with
  | [_], _ => simp [encC]
  | [_, _], _ => simp [encC]
  | _ :: _ :: _ :: _, _ => simp [encC]
theorem run_cut : ∀ (ks : List Int), KBa.In ks → ks.length % 3 ≠ 0 → ∀ (d : DSt), d.quad = 0 →
    ((nats (encC ks).dropLast).foldl decStep d).quad ≠ 0 ∧ ((nats (encC ks).dropLast).foldl decStep d).quad + ((nats (encC ks).dropLast).foldl decStep d).pads < 4
  | [], _, h3, _, _ => absurd rfl h3
  | [a], h, _, d, hq => by
    have ha := h a (.head _)
    simp only [nats, encC, List.dropLast, List.map_cons, List.map_nil, List.foldl_cons, List.foldl_nil]
    rw [step_sg d (k := a / 4) (by omega) (by omega), step_sg _ (k := a % 4 * 16) (by omega) (by omega)]
    simp [decStep, hq]
  | [a, b], h, _, d, hq => by
    have ha := h a (.head _)
    have hb := h b (.tail _ (.head _))
    simp only [nats, encC, List.dropLast, List.map_cons, List.map_nil, List.foldl_cons, List.foldl_nil]
    rw [step_sg d (k := a / 4) (by omega) (by omega), step_sg _ (k := a % 4 * 16 + b / 16) (by omega) (by omega), step_sg _ (k := b % 16 * 4) (by omega) (by omega)]
    simp [hq]
  | a :: b :: c :: r, h, h3, d, hq => by
    have ha := h a (.head _)
    have hb := h b (.tail _ (.head _))
    have hc := h c (.tail _ (.tail _ (.head _)))
    have hr : KBa.In r := fun y hy => h y (.tail _ (.tail _ (.tail _ hy)))
    have h3' : r.length % 3 ≠ 0 := by simp only [List.length_cons] at h3; omega
    have hne : encC r ≠ [] := encC_ne (by rintro rfl; exact h3' rfl)
    have e : (encC (a :: b :: c :: r)).dropLast = sg (a / 4) :: sg (a % 4 * 16 + b / 16) :: sg (b % 16 * 4 + c / 64) :: sg (c % 64) :: (encC r).dropLast := by
      simp [encC, List.dropLast_cons_of_ne_nil, hne]
    rw [e]
    simp only [nats, List.map_cons, List.foldl_cons]
    rw [step_sg d (k := a / 4) (by omega) (by omega), step_sg _ (k := a % 4 * 16 + b / 16) (by omega) (by omega), step_sg _ (k := b % 16 * 4 + c / 64) (by omega) (by omega), step_sg _ (k := c % 64) (by omega) (by omega)]
    exact run_cut r hr h3' _ (by simp [hq])
theorem dec_cut {ks : List Int} (h : KBa.In ks) (h3 : ks.length % 3 ≠ 0) : decBad (nats (encC ks).dropLast) = true := by
  obtain ⟨h1, h2⟩ := run_cut ks h h3 ⟨[], 0, 0, 0⟩ rfl
  show (decide ((decRun (nats (encC ks).dropLast)).quad = 1) || (decide ((decRun (nats (encC ks).dropLast)).quad ≠ 0) && decide ((decRun (nats (encC ks).dropLast)).quad + (decRun (nats (encC ks).dropLast)).pads < 4))) = true
  unfold decRun
  simp [h1, h2]
theorem sixs_cons {a bl : List Nat} (h : a.length = 6) : sixs (a ++ bl) = ((valN a : Nat) : Int) :: sixs bl := by
  unfold sixs
  rw [List.length_append, h, show (6 + bl.length) / 6 = bl.length / 6 + 1 by omega, List.range_succ_eq_map, List.map_cons, List.map_map]
  congr 1
  · rw [Nat.mul_zero, List.drop_zero, ← h, List.take_left]
  · refine List.map_congr_left fun i _ => ?_
    show ((valN (((a ++ bl).drop (6 * (i + 1))).take 6) : Nat) : Int) = _
    rw [show 6 * (i + 1) = a.length + 6 * i by omega, List.drop_append, List.drop_eq_nil_of_le (by omega), List.nil_append, Nat.add_sub_cancel_left]
theorem val6 : ∀ n : Nat, n < 64 → valN (bitsN n 6) = n := by decide +kernel
theorem sixs_bits (n : Nat) (hn : n < 64) (bl : List Nat) : sixs (bitsN n 6 ++ bl) = (n : Int) :: sixs bl := by rw [sixs_cons (bits_len _ _), val6 n hn]
theorem bits3' {a b c : Nat} (ha : a < 256) (hb : b < 256) (hc : c < 256) : bitsN a 8 ++ (bitsN b 8 ++ bitsN c 8) = bitsN (a / 4) 6 ++ (bitsN (a % 4 * 16 + b / 16) 6 ++ (bitsN (b % 16 * 4 + c / 64) 6 ++ bitsN (c % 64) 6)) := by
  simp only [bitsN, List.cons_append, List.nil_append, List.cons.injEq, and_true]
  refine ⟨?_, ?_, ?_, ?_, ?_, ?_, ?_, ?_, ?_, ?_, ?_, ?_, ?_, ?_, ?_, ?_, ?_, ?_, ?_, ?_, ?_, ?_, ?_, ?_⟩ <;> omega
theorem bits2' {a b : Nat} (ha : a < 256) (hb : b < 256) : bitsN a 8 ++ (bitsN b 8 ++ [0, 0]) = bitsN (a / 4) 6 ++ (bitsN (a % 4 * 16 + b / 16) 6 ++ (bitsN (b % 16 * 4) 6 ++ [])) := by
  simp only [bitsN, List.cons_append, List.nil_append, List.cons.injEq, and_true]
  refine ⟨?_, ?_, ?_, ?_, ?_, ?_, ?_, ?_, ?_, ?_, ?_, ?_, ?_, ?_, ?_, ?_, ?_, ?_⟩ <;> omega
theorem bits1' {a : Nat} (ha : a < 256) : bitsN a 8 ++ [0, 0, 0, 0] = bitsN (a / 4) 6 ++ (bitsN (a % 4 * 16) 6 ++ []) := by
  simp only [bitsN, List.cons_append, List.nil_append, List.cons.injEq, and_true]
  refine ⟨?_, ?_, ?_, ?_, ?_, ?_, ?_, ?_, ?_, ?_, ?_, ?_⟩ <;> omega
theorem sixs_nil : sixs [] = [] := rfl
theorem pad_of (n p : Nat) (h : (n + p) % 6 = 0) (hp : p < 6) : (Int.fmod (-(n : Int)) 6).toNat = p := by
  have h2 := Int.fmod_eq_emod_of_nonneg (-(n : Int)) (by decide : (0:Int) ≤ 6)
  omega
theorem pads_of (n p : Nat) (h : (n + p) % 4 = 0) (hp : p < 4) : (Int.fmod (-(n : Int)) 4).toNat = p := by
  have h2 := Int.fmod_eq_emod_of_nonneg (-(n : Int)) (by decide : (0:Int) ≤ 4)
  omega
/-- the signs without the closing ones, then the closing ones -/
theorem enc_six : ∀ (ks : List Int), KBa.In ks → ∃ p, p < 4 ∧ ((sixs (padB ks)).map sg).length % 4 = (4 - p) % 4 ∧ encC ks = (sixs (padB ks)).map sg ++ List.replicate p 61
  | [], _ => ⟨0, by decide, by decide, by decide⟩
  | [a], h => by
    have ha := h a (.head _)
    obtain ⟨x, rfl⟩ := Int.eq_ofNat_of_zero_le ha.1
    have hx : x < 256 := by omega
    have e : padB [(x : Int)] = bitsN (x / 4) 6 ++ (bitsN (x % 4 * 16) 6 ++ []) := by
      unfold padB
      rw [pad_of _ 4 (by rw [bitsOf_len, List.length_cons, List.length_nil]) (by decide), bitsOf_one, Int.toNat_natCast]
      exact bits1' hx
    rw [e, sixs_bits _ (by omega), sixs_bits _ (by omega), sixs_nil]
    exact ⟨2, by decide, by simp, by simp [encC]⟩
  | [a, b], h => by
    have ha := h a (.head _)
    have hb := h b (.tail _ (.head _))
    obtain ⟨x, rfl⟩ := Int.eq_ofNat_of_zero_le ha.1
    obtain ⟨y, rfl⟩ := Int.eq_ofNat_of_zero_le hb.1
    have e : padB [(x : Int), (y : Int)] = bitsN (x / 4) 6 ++ (bitsN (x % 4 * 16 + y / 16) 6 ++ (bitsN (y % 16 * 4) 6 ++ [])) := by
      unfold padB
      rw [pad_of _ 2 (by rw [bitsOf_len, List.length_cons, List.length_cons, List.length_nil]) (by decide), ← bits2' (show x < 256 by omega) (show y < 256 by omega)]
      simp [bitsOf]
    rw [e, sixs_bits _ (by omega), sixs_bits _ (by omega), sixs_bits _ (by omega), sixs_nil]
    exact ⟨1, by decide, by simp, by simp [encC]⟩
  | a :: b :: c :: r, h => by
    have ha := h a (.head _)
    have hb := h b (.tail _ (.head _))
    have hc := h c (.tail _ (.tail _ (.head _)))
    have hr : KBa.In r := fun y hy => h y (.tail _ (.tail _ (.tail _ hy)))
    obtain ⟨p, h1, h2, h3⟩ := enc_six r hr
    obtain ⟨x, rfl⟩ := Int.eq_ofNat_of_zero_le ha.1
    obtain ⟨y, rfl⟩ := Int.eq_ofNat_of_zero_le hb.1
    obtain ⟨z, rfl⟩ := Int.eq_ofNat_of_zero_le hc.1
    have e : padB ((x : Int) :: (y : Int) :: (z : Int) :: r) = bitsN (x / 4) 6 ++ (bitsN (x % 4 * 16 + y / 16) 6 ++ (bitsN (y % 16 * 4 + z / 64) 6 ++ (bitsN (z % 64) 6 ++ padB r))) := by
      have hq : (Int.fmod (-((bitsOf ((x : Int) :: (y : Int) :: (z : Int) :: r)).length : Int)) 6).toNat = (Int.fmod (-((bitsOf r).length : Int)) 6).toNat := by
        have q1 := Int.fmod_eq_emod_of_nonneg (-((bitsOf r).length : Int)) (by decide : (0:Int) ≤ 6)
        have q2 := Int.fmod_eq_emod_of_nonneg (-((bitsOf ((x : Int) :: (y : Int) :: (z : Int) :: r)).length : Int)) (by decide : (0:Int) ≤ 6)
        rw [q1, q2, bitsOf_len, bitsOf_len]
        simp only [List.length_cons]
        omega
      have hbb : bitsOf ((x : Int) :: (y : Int) :: (z : Int) :: r) = bitsN x 8 ++ (bitsN y 8 ++ bitsN z 8) ++ bitsOf r := by simp [bitsOf]
      unfold padB
      rw [hq, hbb, bits3' (show x < 256 by omega) (show y < 256 by omega) (show z < 256 by omega)]
      simp only [List.append_assoc]
    rw [e, sixs_bits _ (by omega), sixs_bits _ (by omega), sixs_bits _ (by omega), sixs_bits _ (by omega)]
    refine ⟨p, h1, ?_, ?_⟩
    · simp only [List.map_cons, List.length_cons]; omega
    · show sg ((x : Int) / 4) :: sg ((x : Int) % 4 * 16 + (y : Int) / 16) :: sg ((y : Int) % 16 * 4 + (z : Int) / 64) :: sg ((z : Int) % 64) :: encC r = _
      rw [h3]
      simp
theorem base_enc {ks : List Int} (h : KBa.In ks) : baseC ks = encC ks := by
  obtain ⟨p, h1, h2, h3⟩ := enc_six ks h
  unfold baseC
  rw [h3, pads_of _ p (by omega) h1]
end Mine
open PyProof.Rows PySem.W in
theorem Mine.flushPl : True := by w_top off; first | walk1 | trivial

/-! part E4 -/
namespace Mine
open PySem PySem.W PySem.Spec PySem.Calls PyProof.Rows
set_option maxRecDepth 100000
set_option maxHeartbeats 1600000
theorem ne_list4 {prog : Program} {w : World} {A : Around} {E : Value → Shared → Prop} {s : Shared} {Q : Value → Shared → Prop} {l b : Addr} {x1 x2 x3 x4 : Array UInt8} {t1 t2 t3 t4 u1 u2 u3 u4 : Tok}
   (hl : s.heap.IsList l [Value.bytes x1 t1, .bytes x2 t2, .bytes x3 t3, .bytes x4 t4].toArray) (hb : s.heap.IsList b [Value.bytes x1 u1, .bytes x2 u2, .bytes x3 u3, .bytes x4 u4].toArray) (hu : A.units < cLine) (h : Q (.bool false) s) :
   wpAny (model prog w) A (compareOp .NotEq (.ref l) (.ref b)) Q E s := by
  refine cmp_ofNotEq ?_
  refine PySem.SeqAt.RcNeAt.lists hl hb rfl hu (e := fun _ => true) (fun j h1 h2 => ?_) prog w E Q h
  intro prog w E Q hq
  have h3 : j < 4 := h1
  match j, h3 with
  | 0, _ => exact eqBool_bytes (by simpa using hq)
  | 1, _ => exact eqBool_bytes (by simpa using hq)
  | 2, _ => exact eqBool_bytes (by simpa using hq)
  | 3, _ => exact eqBool_bytes (by simpa using hq)
end Mine
open PyProof.Rows PySem.W in
theorem Mine.flushE4 : True := by w_top off; first | walk1 | trivial

/-! part Lw -/
namespace Mine
open PySem PySem.W PySem.Spec PySem.Calls PyProof.Rows
local macro_rules | `(tactic| k_steps) => `(tactic| repeat' (first | (k_unfold; (try dsimp only)) | (k_end; wrow_close) | walk1 | (dsimp only; walk1) | (leave1; walk_say "STEP leave1"; try dsimp only) | fail "no step"))
set_option maxRecDepth 100000
set_option maxHeartbeats 4000000
theorem fill8 : (PySem.Challenge.rw_aa6001_01 = PySem.Challenge.rw_aa6001_01) ∧ (hd.heap_39 = hd.heap_39) := by
  k_fill
  exact ⟨rfl, rfl⟩
local macro_rules | `(tactic| k_room) => `(tactic| ((simp only [depth_under_make, depth_under_kw, depth_in1, depth_deeper, depth_caller, ktrTop, recLim] at *); omega))
local macro_rules | `(tactic| k_units) => `(tactic| ((have hcL9 := cLine_is); (simp only [units_in1, units_deeper, Around.mark_units, units_caller, ktrTop] at *); omega))
local macro_rules | `(tactic| walk_at "eval Call") => `(tactic| (k_here; (with_reducible show wpAny _ _ (eval (Expr.Call (Expr.Name _ _) _ [] _) _) _ _ _); k_dflt (refine Call_ ?_)))
theorem sgn_L {w : World} {mean : ExcName → Option Value} {mg mb : Str → Option Value} {l : Addr} {vs : List Value} {ns : List Int}
  {dp un : Nat} {gd : Option (List Code)} {cn : Str} {cs : Scope} {a : Addr} {ccd : Value} {cl : List (Str × Addr)} {A₀ : Around} {h₀ : Heap} {L : Addr} {m : Str → Option Value} {news : List (Addr × Obj)} {s : Shared} {Q E : Value → Shared → Prop}
  (B : Below A₀ h₀ [] h₀) (F : Fr h₀ L s.heap m) (X : (hd.heap_39 w.params).In h₀) (N : News h₀ L s.heap news) (T : Top hd.view_39 (looseW hd.view_39 []) mean mg mb h₀) (hk : cs.kind = .function)
  (hdp : dp ≤ 305) (hli : h₀.IsList l vs.toArray) (hi : IntsAre vs ns) (hns : ns.length ≤ 1000)
  (hret : ∀ D us zs c h' tk', Fr h₀ L h' m → News h₀ L h' ((D, W.listOf us.toArray c) :: news) → (∀ p ∈ news, p.1 < D) → IntsAre us zs → zs.length ≤ 100 → KBa.In zs → Q (.ref D) { s with heap := h', toks := tk' }) :
  wpAny (model PG w) (ktrTop dp un gd cn cs L a ccd cl []) (call (.ref 54) [.ref l]) Q E s := sgn_ct hi hns B F X N T hk hdp hli hret
theorem read_L {w : World} {mean : ExcName → Option Value} {mg mb : Str → Option Value} {D : Addr} {us : List Value} {zs : List Int} {nn : Nat}
  {dp un : Nat} {gd : Option (List Code)} {cn : Str} {cs : Scope} {a : Addr} {ccd : Value} {cl : List (Str × Addr)} {A₀ : Around} {h₀ : Heap} {L : Addr} {m : Str → Option Value} {news : List (Addr × Obj)} {s : Shared} {Q E : Value → Shared → Prop}
  (B : Below A₀ h₀ [] h₀) (F : Fr h₀ L s.heap m) (X : (hd.heap_39 w.params).In h₀) (N : News h₀ L s.heap news) (T : Top hd.view_39 (looseW hd.view_39 []) mean mg mb h₀) (hk : cs.kind = .function)
  (hdp : dp ≤ 305) (hm : (D, W.listOf us.toArray nn) ∈ news) (hi : IntsAre us zs) (hz : zs.length ≤ 100)
  (hnone : rdBad zs → ∀ (h' : Heap) (tk' : Nat), Fr h₀ L h' m → News h₀ L h' news → Q .none { s with heap := h', toks := tk' })
  (hret : ¬ rdBad zs → ∀ (t : Tok) (h' : Heap) (tk' : Nat), Fr h₀ L h' m → News h₀ L h' news → Q (.bytes (byteArr (octs (rdRun zs).1)) t) { s with heap := h', toks := tk' }) :
  wpAny (model PG w) (ktrTop dp un gd cn cs L a ccd cl []) (call (.ref 59) [.ref D]) Q E s := read_ct B F X N T hk hdp hm hi hz hnone hret
theorem dec_L {w : World} {mean : ExcName → Option Value} {mg mb : Str → Option Value} {b : Array UInt8} {tb : Tok} {ks : List Int}
  {dp un : Nat} {gd : Option (List Code)} {cn : Str} {cs : Scope} {a : Addr} {ccd : Value} {cl : List (Str × Addr)} {A₀ : Around} {h₀ : Heap} {L : Addr} {m : Str → Option Value} {news : List (Addr × Obj)} {s : Shared} {Q E : Value → Shared → Prop}
  (B : Below A₀ h₀ [] h₀) (F : Fr h₀ L s.heap m) (X : (hd.heap_39 w.params).In h₀) (N : News h₀ L s.heap news) (T : Top hd.view_39 (looseW hd.view_39 []) mean mg mb h₀) (hk : cs.kind = .function)
  (hdp : dp ≤ 305) (hks : KBw.bInts b = ks) (hl : ks.length ≤ 1000) (hok : decBad ks = false)
  (hret : ∀ t h' tk', Fr h₀ L h' m → News h₀ L h' news → Q (.bytes (byteArr (decRun ks).out) t) { s with heap := h', toks := tk' }) :
  wpAny (model PG w) (ktrTop dp un gd cn cs L a ccd cl []) (call (.ref 28) [.bytes b tb]) Q E s := dec_ct hks hl B F X N T hk (by omega) (fun _ _ t h' tk' F' N' => hret t h' tk' F' N') (fun hb => by rw [hok] at hb; cases hb)
theorem ref_L {w : World} {mean : ExcName → Option Value} {mg mb : Str → Option Value} {b : Array UInt8} {tb : Tok} {ks : List Int}
  {dp un : Nat} {gd : Option (List Code)} {cn : Str} {cs : Scope} {a : Addr} {ccd : Value} {cl : List (Str × Addr)} {A₀ : Around} {h₀ : Heap} {L : Addr} {m : Str → Option Value} {news : List (Addr × Obj)} {s : Shared} {Q E : Value → Shared → Prop}
  (B : Below A₀ h₀ [] h₀) (F : Fr h₀ L s.heap m) (X : (hd.heap_39 w.params).In h₀) (N : News h₀ L s.heap news) (T : Top hd.view_39 (looseW hd.view_39 []) mean mg mb h₀) (hk : cs.kind = .function)
  (hdp : dp ≤ 305) (hks : KBw.bInts b = ks) (hl : ks.length ≤ 1000) (hbad : decBad ks = true)
  (hret : ∀ (h' : Heap) (tk' : Nat), Fr h₀ L h' m → News h₀ L h' news → Q (.bool true) { s with heap := h', toks := tk' }) :
  wpAny (model PG w) (ktrTop dp un gd cn cs L a ccd cl []) (call (.ref 71) [.bytes b tb]) Q E s := ref_ct hks hl B F X N T hk hdp (by rw [hbad]; exact hret)
theorem enc_L {w : World} {mean : ExcName → Option Value} {mg mb : Str → Option Value} {b : Array UInt8} {tb : Tok} {ks : List Int}
  {dp un : Nat} {gd : Option (List Code)} {cn : Str} {cs : Scope} {a : Addr} {ccd : Value} {cl : List (Str × Addr)} {A₀ : Around} {h₀ : Heap} {L : Addr} {m : Str → Option Value} {news : List (Addr × Obj)} {s : Shared} {Q E : Value → Shared → Prop}
  (B : Below A₀ h₀ [] h₀) (F : Fr h₀ L s.heap m) (X : (hd.heap_39 w.params).In h₀) (N : News h₀ L s.heap news) (T : Top hd.view_39 (looseW hd.view_39 []) mean mg mb h₀) (hk : cs.kind = .function)
  (hdp : dp ≤ 305) (hks : KBw.bInts b = ks) (hl : ks.length ≤ 1000)
  (hret : ∀ (t : Tok) (h' : Heap) (tk' : Nat), Fr h₀ L h' m → News h₀ L h' news → Q (.bytes (asc (encC ks)) t) { s with heap := h', toks := tk' }) :
  wpAny (model PG w) (ktrTop dp un gd cn cs L a ccd cl []) (call (.ref 21) [.bytes b tb]) Q E s := enc_ct hks hl B F X N T hk (by omega) hret
theorem base_L {w : World} {mean : ExcName → Option Value} {mg mb : Str → Option Value} {b : Array UInt8} {tb : Tok} {ks : List Int}
  {dp un : Nat} {gd : Option (List Code)} {cn : Str} {cs : Scope} {a : Addr} {ccd : Value} {cl : List (Str × Addr)} {A₀ : Around} {h₀ : Heap} {L : Addr} {m : Str → Option Value} {news : List (Addr × Obj)} {s : Shared} {Q E : Value → Shared → Prop}
  (B : Below A₀ h₀ [] h₀) (F : Fr h₀ L s.heap m) (X : (hd.heap_39 w.params).In h₀) (N : News h₀ L s.heap news) (T : Top hd.view_39 (looseW hd.view_39 []) mean mg mb h₀) (hk : cs.kind = .function)
  (hdp : dp ≤ 305) (hks : KBw.bInts b = ks) (hl : ks.length ≤ 50)
  (hret : ∀ (t : Tok) (h' : Heap) (tk' : Nat), Fr h₀ L h' m → News h₀ L h' news → Q (.str (cstr (baseC ks)) t) { s with heap := h', toks := tk' }) :
  wpAny (model PG w) (ktrTop dp un gd cn cs L a ccd cl []) (call (.ref 64) [.bytes b tb]) Q E s := base_ct hks hl B F X N T hk hdp hret
theorem decZ_L {w : World} {mean : ExcName → Option Value} {mg mb : Str → Option Value} {tb : Tok} {zs : List Int}
  {dp un : Nat} {gd : Option (List Code)} {cn : Str} {cs : Scope} {a : Addr} {ccd : Value} {cl : List (Str × Addr)} {A₀ : Around} {h₀ : Heap} {L : Addr} {m : Str → Option Value} {news : List (Addr × Obj)} {s : Shared} {Q E : Value → Shared → Prop}
  (B : Below A₀ h₀ [] h₀) (F : Fr h₀ L s.heap m) (X : (hd.heap_39 w.params).In h₀) (N : News h₀ L s.heap news) (T : Top hd.view_39 (looseW hd.view_39 []) mean mg mb h₀) (hk : cs.kind = .function)
  (hdp : dp ≤ 305) (hin : KBa.In zs) (hz : zs.length ≤ 100) (hb : ¬ rdBad zs)
  (hret : ∀ t h' tk', Fr h₀ L h' m → News h₀ L h' news → Q (.bytes (byteArr (octs (rdRun zs).1)) t) { s with heap := h', toks := tk' }) :
  wpAny (model PG w) (ktrTop dp un gd cn cs L a ccd cl []) (call (.ref 28) [.bytes (byteArr zs) tb]) Q E s :=
  dec_L B F X N T hk hdp (KBa.ints_make hin) (by omega) (rdOk_dec hb).1 (by rw [(rdOk_dec hb).2]; exact hret)
theorem refZ_L {w : World} {mean : ExcName → Option Value} {mg mb : Str → Option Value} {tb : Tok} {zs : List Int}
  {dp un : Nat} {gd : Option (List Code)} {cn : Str} {cs : Scope} {a : Addr} {ccd : Value} {cl : List (Str × Addr)} {A₀ : Around} {h₀ : Heap} {L : Addr} {m : Str → Option Value} {news : List (Addr × Obj)} {s : Shared} {Q E : Value → Shared → Prop}
  (B : Below A₀ h₀ [] h₀) (F : Fr h₀ L s.heap m) (X : (hd.heap_39 w.params).In h₀) (N : News h₀ L s.heap news) (T : Top hd.view_39 (looseW hd.view_39 []) mean mg mb h₀) (hk : cs.kind = .function)
  (hdp : dp ≤ 305) (hin : KBa.In zs) (hz : zs.length ≤ 100) (hb : rdBad zs)
  (hret : ∀ (h' : Heap) (tk' : Nat), Fr h₀ L h' m → News h₀ L h' news → Q (.bool true) { s with heap := h', toks := tk' }) :
  wpAny (model PG w) (ktrTop dp un gd cn cs L a ccd cl []) (call (.ref 71) [.bytes (byteArr zs) tb]) Q E s :=
  ref_L B F X N T hk hdp (KBa.ints_make hin) (by omega) (rdBad_dec hb) hret
theorem baseK_L {w : World} {mean : ExcName → Option Value} {mg mb : Str → Option Value} {tb : Tok} {ks : List Int}
  {dp un : Nat} {gd : Option (List Code)} {cn : Str} {cs : Scope} {a : Addr} {ccd : Value} {cl : List (Str × Addr)} {A₀ : Around} {h₀ : Heap} {L : Addr} {m : Str → Option Value} {news : List (Addr × Obj)} {s : Shared} {Q E : Value → Shared → Prop}
  (B : Below A₀ h₀ [] h₀) (F : Fr h₀ L s.heap m) (X : (hd.heap_39 w.params).In h₀) (N : News h₀ L s.heap news) (T : Top hd.view_39 (looseW hd.view_39 []) mean mg mb h₀) (hk : cs.kind = .function)
  (hdp : dp ≤ 305) (hin : KBa.In ks) (hl : ks.length ≤ 50)
  (hret : ∀ (t : Tok) (h' : Heap) (tk' : Nat), Fr h₀ L h' m → News h₀ L h' news → Q (.str (cstr (encC ks)) t) { s with heap := h', toks := tk' }) :
  wpAny (model PG w) (ktrTop dp un gd cn cs L a ccd cl []) (call (.ref 64) [.bytes (byteArr ks) tb]) Q E s :=
  base_L B F X N T hk hdp (KBa.ints_make hin) hl (by rw [base_enc hin]; exact hret)
theorem encK_L {w : World} {mean : ExcName → Option Value} {mg mb : Str → Option Value} {tb : Tok} {ks : List Int}
  {dp un : Nat} {gd : Option (List Code)} {cn : Str} {cs : Scope} {a : Addr} {ccd : Value} {cl : List (Str × Addr)} {A₀ : Around} {h₀ : Heap} {L : Addr} {m : Str → Option Value} {news : List (Addr × Obj)} {s : Shared} {Q E : Value → Shared → Prop}
  (B : Below A₀ h₀ [] h₀) (F : Fr h₀ L s.heap m) (X : (hd.heap_39 w.params).In h₀) (N : News h₀ L s.heap news) (T : Top hd.view_39 (looseW hd.view_39 []) mean mg mb h₀) (hk : cs.kind = .function)
  (hdp : dp ≤ 305) (hin : KBa.In ks) (hl : ks.length ≤ 50)
  (hret : ∀ (t : Tok) (h' : Heap) (tk' : Nat), Fr h₀ L h' m → News h₀ L h' news → Q (.bytes (asc (encC ks)) t) { s with heap := h', toks := tk' }) :
  wpAny (model PG w) (ktrTop dp un gd cn cs L a ccd cl []) (call (.ref 21) [.bytes (byteArr ks) tb]) Q E s :=
  enc_L B F X N T hk hdp (KBa.ints_make hin) (by omega) hret
theorem decA_L {w : World} {mean : ExcName → Option Value} {mg mb : Str → Option Value} {tb : Tok} {l : List Nat} {ks : List Int}
  {dp un : Nat} {gd : Option (List Code)} {cn : Str} {cs : Scope} {a : Addr} {ccd : Value} {cl : List (Str × Addr)} {A₀ : Around} {h₀ : Heap} {L : Addr} {m : Str → Option Value} {news : List (Addr × Obj)} {s : Shared} {Q E : Value → Shared → Prop}
  (B : Below A₀ h₀ [] h₀) (F : Fr h₀ L s.heap m) (X : (hd.heap_39 w.params).In h₀) (N : News h₀ L s.heap news) (T : Top hd.view_39 (looseW hd.view_39 []) mean mg mb h₀) (hk : cs.kind = .function)
  (hdp : dp ≤ 305) (hin : ∀ c ∈ l, c < 128) (hl : l.length ≤ 1000) (hok : decOk l ks)
  (hret : ∀ t h' tk', Fr h₀ L h' m → News h₀ L h' news → Q (.bytes (byteArr ks) t) { s with heap := h', toks := tk' }) :
  wpAny (model PG w) (ktrTop dp un gd cn cs L a ccd cl []) (call (.ref 28) [.bytes (asc l) tb]) Q E s :=
  dec_L B F X N T hk hdp (asc_ints l hin) (by rw [List.length_map]; exact hl) hok.1 (by have := hok.2; unfold nats at this; rw [this]; exact hret)
theorem refA_L {w : World} {mean : ExcName → Option Value} {mg mb : Str → Option Value} {tb : Tok} {l : List Nat}
  {dp un : Nat} {gd : Option (List Code)} {cn : Str} {cs : Scope} {a : Addr} {ccd : Value} {cl : List (Str × Addr)} {A₀ : Around} {h₀ : Heap} {L : Addr} {m : Str → Option Value} {news : List (Addr × Obj)} {s : Shared} {Q E : Value → Shared → Prop}
  (B : Below A₀ h₀ [] h₀) (F : Fr h₀ L s.heap m) (X : (hd.heap_39 w.params).In h₀) (N : News h₀ L s.heap news) (T : Top hd.view_39 (looseW hd.view_39 []) mean mg mb h₀) (hk : cs.kind = .function)
  (hdp : dp ≤ 305) (hin : ∀ c ∈ l, c < 128) (hl : l.length ≤ 1000) (hbad : decBad (nats l) = true)
  (hret : ∀ (h' : Heap) (tk' : Nat), Fr h₀ L h' m → News h₀ L h' news → Q (.bool true) { s with heap := h', toks := tk' }) :
  wpAny (model PG w) (ktrTop dp un gd cn cs L a ccd cl []) (call (.ref 71) [.bytes (asc l) tb]) Q E s :=
  ref_L B F X N T hk hdp (asc_ints l hin) (by rw [List.length_map]; exact hl) hbad hret
theorem ne_same {prog : Program} {w : World} {A : Around} {E : Value → Shared → Prop} {s : Shared} {b c : Array UInt8} {t u : Tok} {Q : Value → Shared → Prop} (e : b = c) (h : Q (.bool false) s) : wpAny (model prog w) A (compareOp .NotEq (.bytes b t) (.bytes c u)) Q E s := by
  subst e
  refine ne_bytes ?_
  rw [show (b.toList != b.toList) = false from by simp]
  exact h
theorem num_L {w : World} {mean : ExcName → Option Value} {mg mb : Str → Option Value} {l : Addr} {vs : List Value} {ns : List Int} {p : Int} {tp : Tok}
  {dp un : Nat} {gd : Option (List Code)} {cn : Str} {cs : Scope} {a : Addr} {ccd : Value} {cl : List (Str × Addr)} {A₀ : Around} {h₀ : Heap} {L : Addr} {m : Str → Option Value} {news : List (Addr × Obj)} {s : Shared} {Q E : Value → Shared → Prop}
  (B : Below A₀ h₀ [] h₀) (F : Fr h₀ L s.heap m) (X : (hd.heap_39 w.params).In h₀) (N : News h₀ L s.heap news) (T : Top hd.view_39 (looseW hd.view_39 []) mean mg mb h₀) (hk : cs.kind = .function)
  (hdp : dp ≤ 305) (hli : h₀.IsList l vs.toArray) (hi : IntsAre vs ns) (hns : ns.length ≤ 1000) (hp0 : 0 ≤ p) (hp1 : p ≤ 1000)
  (hret : ∀ (v : Int) (t : Tok) (h' : Heap) (tk' : Nat), numOf ns p v → Fr h₀ L h' m → News h₀ L h' news → Q (.int v t) { s with heap := h', toks := tk' }) :
  wpAny (model PG w) (ktrTop dp un gd cn cs L a ccd cl []) (call (.ref 42) [.ref l, .int p tp]) Q E s := num_ct B F X N T hk (by omega) hli hi hns hp0 hp1 hret
local macro_rules | `(tactic| walk_at "call ref") => `(tactic| (k_here; (with_reducible show wpAny _ _ (call (Value.ref 28) [Value.bytes (byteArr _) _]) _ _ _); k_dflt (refine decZ_L (by k_asm) (by k_asm) (by k_asm) (by k_asm) (by k_asm) (by exact rfl) (by exact Nat.le_of_ble_eq_true rfl) (by assumption) (by assumption) (by assumption) ?_); intro t9 h9 tk9 F9 N9; (try k_fold)))
local macro_rules | `(tactic| walk_at "call ref") => `(tactic| (k_here; (with_reducible show wpAny _ _ (call (Value.ref 71) [Value.bytes (byteArr _) _]) _ _ _); k_dflt (refine refZ_L (by k_asm) (by k_asm) (by k_asm) (by k_asm) (by k_asm) (by exact rfl) (by exact Nat.le_of_ble_eq_true rfl) (by assumption) (by assumption) (by assumption) ?_); intro h9 tk9 F9 N9; (try k_fold)))
local macro_rules | `(tactic| walk_at "call ref") => `(tactic| (k_here; (with_reducible show wpAny _ _ (call (Value.ref 64) [Value.bytes _ _]) _ _ _); k_dflt (refine baseK_L (by k_asm) (by k_asm) (by k_asm) (by k_asm) (by k_asm) (by exact rfl) (by exact Nat.le_of_ble_eq_true rfl) (by assumption) (by first | omega | (rw [List.length_map, rangeKs_length]; omega)) ?_); intro t9 h9 tk9 F9 N9; (try k_fold)))
local macro_rules | `(tactic| walk_at "call ref") => `(tactic| (k_here; (with_reducible show wpAny _ _ (call (Value.ref 21) [Value.bytes _ _]) _ _ _); k_dflt (refine encK_L (by k_asm) (by k_asm) (by k_asm) (by k_asm) (by k_asm) (by exact rfl) (by exact Nat.le_of_ble_eq_true rfl) (by assumption) (by first | omega | (rw [List.length_map, rangeKs_length]; omega)) ?_); intro t9 h9 tk9 F9 N9; (try k_fold)))
local macro_rules | `(tactic| walk_at "call ref") => `(tactic| (k_here; (with_reducible show wpAny _ _ (call (Value.ref 42) [Value.ref _, Value.int _ _]) _ _ _); k_dflt (refine num_L (by k_asm) (by k_asm) (by k_asm) (by k_asm) (by k_asm) (by exact rfl) (by exact Nat.le_of_ble_eq_true rfl) (by k_asm) (by assumption) (by omega) (by omega) (by omega) ?_); intro v9 t9 h9 tk9 hv9 F9 N9; (try k_fold)))
local macro_rules | `(tactic| walk_at "compareOp NotEq bytes bytes") => `(tactic| (k_here; (refine ne_same rfl ?_)))
local macro_rules | `(tactic| walk_at "call ref") => `(tactic| (k_here; (with_reducible show wpAny _ _ (call (Value.ref 54) [Value.ref _]) _ _ _); k_dflt (refine sgn_L (by k_asm) (by k_asm) (by k_asm) (by k_asm) (by k_asm) (by exact rfl) (by exact Nat.le_of_ble_eq_true rfl) (by k_asm) (by assumption) (by omega) ?_); intro D9 us9 zs9 c9 h9 tk9 F9 N9 l9 hi9 hz9 hq9; (try k_fold)))
local macro_rules | `(tactic| walk_at "call ref") => `(tactic| (k_here; (with_reducible show wpAny _ _ (call (Value.ref 59) [Value.ref _]) _ _ _); k_dflt (refine read_L (by k_asm) (by k_asm) (by k_asm) (by k_asm) (by k_asm) (by exact rfl) (by exact Nat.le_of_ble_eq_true rfl) (by k_mem) (by assumption) (by assumption) (fun hb9 h9 tk9 F9 N9 => ?_) (fun hb9 t9 h9 tk9 F9 N9 => ?_)); (try k_fold)))
theorem slice_to {h₀ : Heap} {L : Addr} {m : Str → Option Value} {news : List (Addr × Obj)} {prog : Program} {w : World} {A : Around} {E : Value → Shared → Prop} {s : Shared} {Q : Value → Shared → Prop} {value slice : PySem.Expr} {l : List Nat} {t : Tok} {j : Int} {uj : Tok} (h0 : 0 ≤ j) (hj : j ≤ l.length) (hl : l.length ≤ 100000)
    (hF : Fr h₀ L s.heap m) (hN : News h₀ L s.heap news) (h : ∀ h' t' k, Fr h₀ L h' m → News h₀ L h' news → Q (.str (cstr (l.take j.toNat)) t') { s with heap := h', toks := k })
    (hs : subscripted slice false (.str (cstr l) t) (.ref s.heap.objs.size) = operate [.ref s.heap.objs.size, .str (cstr l) t] (getItem (.str (cstr l) t) (.ref s.heap.objs.size)) := by with_unfolding_all rfl)
    (ht : ∀ r, letTemporaryGo value (.str (cstr l) t) r = pure () := by intro _; with_unfolding_all rfl) :
    wpAny (model prog w) A (subscriptTail value slice (.str (cstr l) t) (.ref s.heap.objs.size)) Q E { s with heap := s.heap.push { cls := .type "slice", data := .fields #[.none, .int j uj, .none] } } := by
  have e := StrLaws.sliceText_nat (cstr l) (a := 0) (b := j.toNat) (Nat.zero_le _) (by rw [cstr_len]; omega)
  have e2 : Txt.slice (cstr l) none (some j) = cstr (l.take j.toNat) := by
    show StrLaws.sliceText (cstr l) none (some j) = _
    have e3 : StrLaws.sliceText (cstr l) none (some j) = StrLaws.sliceText (cstr l) (some 0) (some j) := by
      unfold StrLaws.sliceText
      rw [StrLaws.sliceIdx_none_lo]
    rw [Int.toNat_of_nonneg h0] at e
    rw [e3]
    exact e
  refine slice_strN_ns hF hN (fun h' t' k a b => ?_) hs ht (by rw [cstr_len, sizeLine_eq]; omega)
  rw [e2]
  exact h h' t' k a b
theorem slice_from {h₀ : Heap} {L : Addr} {m : Str → Option Value} {news : List (Addr × Obj)} {prog : Program} {w : World} {A : Around} {E : Value → Shared → Prop} {s : Shared} {Q : Value → Shared → Prop} {value slice : PySem.Expr} {l : List Nat} {t : Tok} {j : Int} {uj : Tok} (h0 : 0 ≤ j) (hj : j ≤ l.length) (hl : l.length ≤ 100000)
    (hF : Fr h₀ L s.heap m) (hN : News h₀ L s.heap news) (h : ∀ h' t' k, Fr h₀ L h' m → News h₀ L h' news → Q (.str (cstr (l.drop j.toNat)) t') { s with heap := h', toks := k })
    (hs : subscripted slice false (.str (cstr l) t) (.ref s.heap.objs.size) = operate [.ref s.heap.objs.size, .str (cstr l) t] (getItem (.str (cstr l) t) (.ref s.heap.objs.size)) := by with_unfolding_all rfl)
    (ht : ∀ r, letTemporaryGo value (.str (cstr l) t) r = pure () := by intro _; with_unfolding_all rfl) :
    wpAny (model prog w) A (subscriptTail value slice (.str (cstr l) t) (.ref s.heap.objs.size)) Q E { s with heap := s.heap.push { cls := .type "slice", data := .fields #[.int j uj, .none, .none] } } := by
  have e := StrLaws.sliceText_nat (cstr l) (a := j.toNat) (b := l.length) (by omega) (by rw [cstr_len]; exact Nat.le_refl _)
  have e2 : Txt.slice (cstr l) (some j) none = cstr (l.drop j.toNat) := by
    show StrLaws.sliceText (cstr l) (some j) none = _
    have e3 : StrLaws.sliceText (cstr l) (some j) none = StrLaws.sliceText (cstr l) (some j) (some (l.length : Int)) := by
      unfold StrLaws.sliceText
      rw [StrLaws.sliceIdx_none_hi, cstr_len]
    rw [Int.toNat_of_nonneg h0] at e
    rw [e3, e]
    show (⟨((l.drop j.toNat).take (l.length - j.toNat)).toArray⟩ : Str) = _
    rw [List.take_of_length_le (by rw [List.length_drop]; exact Nat.le_refl _)]
    rfl
  refine slice_strN_sn hF hN (fun h' t' k a b => ?_) hs ht (by rw [cstr_len, sizeLine_eq]; omega)
  rw [e2]
  exact h h' t' k a b
theorem sliceIdx_neg (n : Nat) (h : 1 ≤ n) : Builtin.Str.strSliceIndices (some 0) (some (-1)) 1 n = Builtin.Str.strSliceIndices (some 0) (some ((n - 1 : Nat) : Int)) 1 n := by
  have a : ((-1 : Int) < 0) := by decide
  have b : ¬ (((n - 1 : Nat) : Int) < 0) := by omega
  have c : (-1 : Int) + (n : Int) = ((n - 1 : Nat) : Int) := by omega
  simp [Builtin.Str.strSliceIndices, a, b, c]
theorem slice_last {h₀ : Heap} {L : Addr} {m : Str → Option Value} {news : List (Addr × Obj)} {prog : Program} {w : World} {A : Around} {E : Value → Shared → Prop} {s : Shared} {Q : Value → Shared → Prop} {value slice : PySem.Expr} {l : List Nat} {t : Tok} {uj : Tok} (h1 : 1 ≤ l.length) (hl : l.length ≤ 100000)
    (hF : Fr h₀ L s.heap m) (hN : News h₀ L s.heap news) (h : ∀ h' t' k, Fr h₀ L h' m → News h₀ L h' news → Q (.str (cstr l.dropLast) t') { s with heap := h', toks := k })
    (hs : subscripted slice false (.str (cstr l) t) (.ref s.heap.objs.size) = operate [.ref s.heap.objs.size, .str (cstr l) t] (getItem (.str (cstr l) t) (.ref s.heap.objs.size)) := by with_unfolding_all rfl)
    (ht : ∀ r, letTemporaryGo value (.str (cstr l) t) r = pure () := by intro _; with_unfolding_all rfl) :
    wpAny (model prog w) A (subscriptTail value slice (.str (cstr l) t) (.ref s.heap.objs.size)) Q E { s with heap := s.heap.push { cls := .type "slice", data := .fields #[.none, .int (-1) uj, .none] } } := by
  have e := StrLaws.sliceText_nat (cstr l) (a := 0) (b := l.length - 1) (Nat.zero_le _) (by rw [cstr_len]; omega)
  have e2 : Txt.slice (cstr l) none (some (-1)) = cstr l.dropLast := by
    show StrLaws.sliceText (cstr l) none (some (-1)) = _
    have e3 : StrLaws.sliceText (cstr l) none (some (-1)) = StrLaws.sliceText (cstr l) (some 0) (some ((l.length - 1 : Nat) : Int)) := by
      unfold StrLaws.sliceText
      rw [StrLaws.sliceIdx_none_lo, cstr_len, sliceIdx_neg _ h1]
    rw [e3]
    refine Eq.trans e ?_
    show (⟨(l.take (l.length - 1)).toArray⟩ : Str) = _
    rw [← List.dropLast_eq_take]
    rfl
  refine slice_strN_ns hF hN (fun h' t' k a b => ?_) hs ht (by rw [cstr_len, sizeLine_eq]; omega)
  rw [e2]
  exact h h' t' k a b
theorem add_ws {prog : Program} {w : World} {A : Around} {E : Value → Shared → Prop} {s : Shared} {Q : Value → Shared → Prop} {l : List Nat} {t u : Tok} (hl : l.length ≤ 1000) (h : ∀ t' k, Q (.str (cstr (l ++ [32, 10])) t') { s with toks := k }) :
    wpAny (model prog w) A (binaryOp .Add (.str (cstr l) t) (.str (Str.ofString " \n") u)) Q E s := by
  rw [show Str.ofString " \n" = (⟨[32, 10].toArray⟩ : Str) from by decide +kernel]
  exact add_pads (by simp only [List.length_cons, List.length_nil]; omega) h
theorem encC_le : ∀ ks : List Int, (encC ks).length ≤ 4 * ks.length + 4
  | [] => by simp [encC]
  | [_] => by simp [encC]
  | [_, _] => by simp [encC]
  | a :: b :: c :: r => by
    have := encC_le r
    simp only [encC, List.length_cons]
    omega
theorem lt_enc {ks : List Int} (h : KBa.In ks) : ∀ c ∈ encC ks, c < 128 := encC_lt ks fun y hy => h y hy
theorem lt_cut {l : List Nat} (h : ∀ c ∈ l, c < 128) : ∀ c ∈ l.dropLast, c < 128 := fun c hc => h c (List.dropLast_subset _ hc)
theorem lt_ins {l : List Nat} (h : ∀ c ∈ l, c < 128) (p q : Nat) : ∀ c ∈ l.take p ++ [32, 10] ++ l.drop q, c < 128 := by
  intro c hc
  rcases List.mem_append.mp hc with hc | hc
  · rcases List.mem_append.mp hc with hc | hc
    · exact h c (List.mem_of_mem_take hc)
    · simp only [List.mem_cons, List.not_mem_nil, or_false] at hc
      omega
  · exact h c (List.mem_of_mem_drop hc)
theorem len_cut {l : List Nat} (h : l.length ≤ 500) : l.dropLast.length ≤ 1000 := by rw [List.length_dropLast]; omega
theorem len_ins {l : List Nat} (h : l.length ≤ 490) (p q : Nat) : (l.take p ++ [32, 10] ++ l.drop q).length ≤ 1000 := by
  simp only [List.length_append, List.length_take, List.length_drop, List.length_cons, List.length_nil]
  omega
theorem pl0 (v : Int) (n : Nat) : 0 ≤ Int.fmod v ((n : Int) + 1) := Int.fmod_nonneg_of_pos _ (by omega)
theorem pl1 (v : Int) (n : Nat) : Int.fmod v ((n : Int) + 1) ≤ n := by have := Int.fmod_lt_of_pos v (show (0 : Int) < (n : Int) + 1 by omega); omega
theorem cut_of {ks : List Int} (h : KBa.In ks) (h3 : 0 < Int.fmod (ks.length : Int) 3) : decBad (nats (encC ks).dropLast) = true :=
  dec_cut h (by have := Int.fmod_eq_emod_of_nonneg (ks.length : Int) (by decide : (0:Int) ≤ 3); omega)
theorem enc_pos {ks : List Int} (h3 : 0 < Int.fmod (ks.length : Int) 3) : 1 ≤ (encC ks).length := by
  match ks with
  | [] => exact absurd h3 (by decide)
  | [_] => simp [encC]
  | [_, _] => simp [encC]
  | _ :: _ :: _ :: _ => simp [encC]
theorem encode_c {prog : Program} {w : World} {A : Around} {E : Value → Shared → Prop} {s : Shared} {Q : Value → Shared → Prop} {l : List Nat} {t : Tok} (hx : ∀ c ∈ l, c < 128) (hl : l.length ≤ 1000) (h : ∀ t' k, Q (.bytes (asc l) t') { s with toks := k }) :
    wpAny (model prog w) A (call (.builtin "str.encode") [.str (cstr l) t]) Q E s :=
  encode_K (x := cstr l) hx (by show l.toArray.size ≤ _; rw [List.size_toArray]; omega) h
theorem add_c {prog : Program} {w : World} {A : Around} {E : Value → Shared → Prop} {s : Shared} {Q : Value → Shared → Prop} {l p : List Nat} {t u : Tok} (hl : (l ++ p).length ≤ 1000) (h : ∀ t' k, Q (.str (cstr (l ++ p)) t') { s with toks := k }) :
    wpAny (model prog w) A (binaryOp .Add (.str (cstr l) t) (.str (cstr p) u)) Q E s :=
  add_pads (by rw [List.length_append] at hl; omega) h
theorem take_le {l : List Nat} (h : l.length ≤ 500) (p : Nat) : (l.take p).length ≤ 1000 := by rw [List.length_take]; omega
theorem decL_L {w : World} {mean : ExcName → Option Value} {mg mb : Str → Option Value} {tb : Tok} {b : Array UInt8} (o : Array UInt8)
  {dp un : Nat} {gd : Option (List Code)} {cn : Str} {cs : Scope} {a : Addr} {ccd : Value} {cl : List (Str × Addr)} {A₀ : Around} {h₀ : Heap} {L : Addr} {m : Str → Option Value} {news : List (Addr × Obj)} {s : Shared} {Q E : Value → Shared → Prop}
  (B : Below A₀ h₀ [] h₀) (F : Fr h₀ L s.heap m) (X : (hd.heap_39 w.params).In h₀) (N : News h₀ L s.heap news) (T : Top hd.view_39 (looseW hd.view_39 []) mean mg mb h₀) (hk : cs.kind = .function)
  (hdp : dp ≤ 305) (hl : (KBw.bInts b).length ≤ 1000) (hok : decBad (KBw.bInts b) = false) (ho : byteArr (decRun (KBw.bInts b)).out = o)
  (hret : ∀ t h' tk', Fr h₀ L h' m → News h₀ L h' news → Q (.bytes o t) { s with heap := h', toks := tk' }) :
  wpAny (model PG w) (ktrTop dp un gd cn cs L a ccd cl []) (call (.ref 28) [.bytes b tb]) Q E s :=
  dec_L B F X N T hk hdp rfl hl hok (by rw [ho]; exact hret)
theorem refL_L {w : World} {mean : ExcName → Option Value} {mg mb : Str → Option Value} {tb : Tok} {b : Array UInt8}
  {dp un : Nat} {gd : Option (List Code)} {cn : Str} {cs : Scope} {a : Addr} {ccd : Value} {cl : List (Str × Addr)} {A₀ : Around} {h₀ : Heap} {L : Addr} {m : Str → Option Value} {news : List (Addr × Obj)} {s : Shared} {Q E : Value → Shared → Prop}
  (B : Below A₀ h₀ [] h₀) (F : Fr h₀ L s.heap m) (X : (hd.heap_39 w.params).In h₀) (N : News h₀ L s.heap news) (T : Top hd.view_39 (looseW hd.view_39 []) mean mg mb h₀) (hk : cs.kind = .function)
  (hdp : dp ≤ 305) (hl : (KBw.bInts b).length ≤ 1000) (hbad : decBad (KBw.bInts b) = true)
  (hret : ∀ (h' : Heap) (tk' : Nat), Fr h₀ L h' m → News h₀ L h' news → Q (.bool true) { s with heap := h', toks := tk' }) :
  wpAny (model PG w) (ktrTop dp un gd cn cs L a ccd cl []) (call (.ref 71) [.bytes b tb]) Q E s :=
  ref_L B F X N T hk hdp rfl hl hbad hret
local macro_rules | `(tactic| walk_at "getMethod str") => `(tactic| with_reducible refine gm_encode ?_)
local macro_rules | `(tactic| walk_at "call builtin:str.encode") => `(tactic| (k_here; k_dflt (first
  | (refine encode_c (lt_enc (by assumption)) (by (exact Nat.le_trans (encC_le _) (by (first | omega | (simp only [List.length_map, rangeKs_length]; omega))))) ?_)
  | (refine encode_c (lt_ins (lt_enc (by assumption)) _ _) (len_ins (by (exact Nat.le_trans (encC_le _) (by (first | omega | (simp only [List.length_map, rangeKs_length]; omega))))) _ _) ?_)
  | (refine encode_c (lt_cut (lt_enc (by assumption))) (len_cut (by (exact Nat.le_trans (encC_le _) (by (first | omega | (simp only [List.length_map, rangeKs_length]; omega)))))) ?_)); intro _ _))
local macro_rules | `(tactic| walk_at "call ref") => `(tactic| (k_here; (with_reducible show wpAny _ _ (call (Value.ref 28) [Value.bytes (asc (encC _)) _]) _ _ _); k_dflt (refine decA_L (by k_asm) (by k_asm) (by k_asm) (by k_asm) (by k_asm) (by exact rfl) (by exact Nat.le_of_ble_eq_true rfl) (lt_enc (by assumption)) (by (exact Nat.le_trans (encC_le _) (by (first | omega | (simp only [List.length_map, rangeKs_length]; omega))))) (decOk_enc (by assumption)) ?_); intro t9 h9 tk9 F9 N9; (try k_fold)))
local macro_rules | `(tactic| walk_at "call ref") => `(tactic| (k_here; (with_reducible show wpAny _ _ (call (Value.ref 28) [Value.bytes (asc (_ ++ _)) _]) _ _ _); k_dflt (refine decA_L (by k_asm) (by k_asm) (by k_asm) (by k_asm) (by k_asm) (by exact rfl) (by exact Nat.le_of_ble_eq_true rfl) (lt_ins (lt_enc (by assumption)) _ _) (len_ins (by (exact Nat.le_trans (encC_le _) (by (first | omega | (simp only [List.length_map, rangeKs_length]; omega))))) _ _) (decOk_ins (by assumption) _) ?_); intro t9 h9 tk9 F9 N9; (try k_fold)))
local macro_rules | `(tactic| walk_at "call ref") => `(tactic| (k_here; (with_reducible show wpAny _ _ (call (Value.ref 71) [Value.bytes (asc (List.dropLast _)) _]) _ _ _); k_dflt (refine refA_L (by k_asm) (by k_asm) (by k_asm) (by k_asm) (by k_asm) (by exact rfl) (by exact Nat.le_of_ble_eq_true rfl) (lt_cut (lt_enc (by assumption))) (len_cut (by (exact Nat.le_trans (encC_le _) (by (first | omega | (simp only [List.length_map, rangeKs_length]; omega)))))) (cut_of (by assumption) (by rw [List.length_map, rangeKs_length]; assumption)) ?_); intro h9 tk9 F9 N9; (try k_fold)))
local macro_rules | `(tactic| walk_at "call builtin:len") => `(tactic| (k_here; (with_reducible show wpAny _ _ (call (Value.builtin "len") [Value.str (cstr _) _]) _ _ _); k_dflt (refine len_cstr (Nat.le_trans (encC_le _) (by (first | omega | (simp only [List.length_map, rangeKs_length]; omega)))) ?_); intro _ _))
local macro_rules | `(tactic| walk_at "binaryOp Add str str") => `(tactic| (k_here; k_dflt (first | ((with_reducible show wpAny _ _ (binaryOp _ (Value.str (cstr _) _) (Value.str (cstr _) _)) _ _ _); (refine add_c (len_ins (by (exact Nat.le_trans (encC_le _) (by (first | omega | (simp only [List.length_map, rangeKs_length]; omega))))) _ _) ?_)) | ((with_reducible show wpAny _ _ (binaryOp _ (Value.str (cstr _) _) (Value.str (Str.ofString _) _)) _ _ _); (refine add_ws (take_le (by (exact Nat.le_trans (encC_le _) (by (first | omega | (simp only [List.length_map, rangeKs_length]; omega))))) _) ?_))); intro _ _))
local macro_rules | `(tactic| walk_at "subscriptTail Name Slice str ref") => `(tactic| (k_here; (with_reducible rename Fr _ _ _ _ => F'); (with_reducible rename News _ _ _ _ => N'); k_dflt (first
  | ((with_reducible show wpAny _ _ (subscriptTail _ (Expr.Slice none (some (Expr.Name _ _)) none _) (Value.str (cstr _) _) _) _ _ _); refine slice_to (s := ⟨_, _, _, _, _⟩) (pl0 _ _) (pl1 _ _) (Nat.le_trans (encC_le _) (by (first | omega | (simp only [List.length_map, rangeKs_length]; omega)))) F' N' ?_)
  | ((with_reducible show wpAny _ _ (subscriptTail _ (Expr.Slice (some _) none none _) (Value.str (cstr _) _) _) _ _ _); refine slice_from (s := ⟨_, _, _, _, _⟩) (pl0 _ _) (pl1 _ _) (Nat.le_trans (encC_le _) (by (first | omega | (simp only [List.length_map, rangeKs_length]; omega)))) F' N' ?_)
  | ((with_reducible show wpAny _ _ (subscriptTail _ (Expr.Slice none (some _) none _) (Value.str (cstr _) _) _) _ _ _); refine slice_last (s := ⟨_, _, _, _, _⟩) (enc_pos (by rw [List.length_map, rangeKs_length]; assumption)) (Nat.le_trans (encC_le _) (by (first | omega | (simp only [List.length_map, rangeKs_length]; omega)))) F' N' ?_)); intro _ _ _ _ _))
local macro_rules | `(tactic| walk_at "call ref") => `(tactic| (k_here; (fail_if_success (with_reducible show wpAny _ _ (call (Value.ref 28) [Value.bytes (asc _) _]) _ _ _)); (fail_if_success (with_reducible show wpAny _ _ (call (Value.ref 28) [Value.bytes (byteArr _) _]) _ _ _)); (with_reducible show wpAny _ _ (call (Value.ref 28) [Value.bytes _ _]) _ _ _); k_dflt (first | (refine decL_L #[65] (by k_asm) (by k_asm) (by k_asm) (by k_asm) (by k_asm) (by exact rfl) (by exact Nat.le_of_ble_eq_true rfl) (by decide +kernel) (by decide +kernel) (by decide +kernel) ?_) | (refine decL_L #[] (by k_asm) (by k_asm) (by k_asm) (by k_asm) (by k_asm) (by exact rfl) (by exact Nat.le_of_ble_eq_true rfl) (by decide +kernel) (by decide +kernel) (by decide +kernel) ?_)); intro t9 h9 tk9 F9 N9; (try k_fold)))
local macro_rules | `(tactic| walk_at "call ref") => `(tactic| (k_here; (fail_if_success (with_reducible show wpAny _ _ (call (Value.ref 71) [Value.bytes (asc _) _]) _ _ _)); (fail_if_success (with_reducible show wpAny _ _ (call (Value.ref 71) [Value.bytes (byteArr _) _]) _ _ _)); (with_reducible show wpAny _ _ (call (Value.ref 71) [Value.bytes _ _]) _ _ _); k_dflt (refine refL_L (by k_asm) (by k_asm) (by k_asm) (by k_asm) (by k_asm) (by exact rfl) (by exact Nat.le_of_ble_eq_true rfl) (by decide +kernel) (by decide +kernel) ?_); intro h9 tk9 F9 N9; (try k_fold)))
local macro_rules | `(tactic| walk_at "compareOp NotEq ref ref") => `(tactic| (k_here; (with_reducible show wpAny _ _ (compareOp CmpOp.NotEq (Value.ref _) (Value.ref _)) _ _ _); k_dflt (refine ne_list4 (News.isList (by k_asm) (by k_mem)) (News.isList (by k_asm) (by k_mem)) (by first | k_units | exact Nat.le_of_ble_eq_true rfl | ke_room) ?_)))
set_option Elab.async false
theorem law_w : PySem.Challenge.rw_aa6001_01.Holds := hd (by
  k_go0
  k_steps
  done)
end Mine
open PyProof.Rows PySem.W in
theorem Mine.flushLw : True := by w_top off; first | walk1 | trivial

theorem PySem.Challenge.cw_aa6001_01_holds : PySem.Challenge.rw_aa6001_01.Holds :=
  Mine.law_w
