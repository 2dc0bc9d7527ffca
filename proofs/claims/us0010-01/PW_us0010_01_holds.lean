import PyProof.Rows.All
import Wide.All
import OpenK.AllK
import Wide.FinOn
import PySem.Challenge.RW_us0010_01
open PySem PySem.W PyProof.Rows
set_option Elab.async false
set_option maxRecDepth 100000
set_option maxHeartbeats 8000000
namespace Mine
/- The head in one kernel run. open_top cuts a top of more than 1,500 steps (here 1,599) into pieces, and the pieces' objects alone pass the lid for a compiled file.
   vw: the program's view, by the places of the statements kept. fragOnce: it bears no claim of its own; k_head writes the fragment of the heap as its aid (heap_1), that alone is used.
   leftOnce: what the run of the top leaves, by one kernel check over the library's fast forms. hd: rw.row.Holds from the walk, by holds_open. -/
def vw : Program := PySem.W.view PySem.Challenge.pw_us0010_01 [0, 1, 5, 7, 8, 9, 10, 12, 13, 14, 16, 18, 19, 20, 21, 22, 23, 24, 25, 26]
section
local macro_rules | `(tactic| o_head $_) => `(tactic| assumption)
theorem fragOnce (h : PySem.Challenge.rw_us0010_01.row.Holds) : PySem.Challenge.rw_us0010_01.row.Holds := by k_head
end
theorem hkeq : ∀ P, [2, 3, 32, 34, 35, 37, 38, 39, 40, 41, 43, 44, 46, 47, 48, 50, 51, 53, 54, 58, 59, 63, 64, 65, 67, 68, 70, 71, 75, 76, 80, 81, 85, 86, 87, 88, 90, 91, 93, 94, 102, 103, 105, 106, 108, 109, 110, 112, 113, 115, 116, 117, 119, 120, 122, 123, 124, 126, 127, 129, 130, 131, 134, 135, 136, 138, 139, 141, 142, 143, 145, 146, 148, 149, 150, 153, 154, 155, 156, 158, 159, 161, 162, 163, 166, 167, 168, 171, 172, 173, 175, 176, 178, 179, 180, 182, 183, 185, 186, 187, 190, 191, 192, 194, 195, 197, 198, 199, 201, 202, 204, 205, 206, 208, 209, 211, 212, 213, 214, 215, 216, 217, 220, 222, 223, 225, 226, 227, 229, 230, 232, 233, 234, 237, 238, 239, 241, 242, 244, 245, 246, 249, 250, 251, 253, 254, 256, 257, 258, 260, 261, 263, 264, 265, 267, 268, 270, 271, 272, 275, 276] = (fragOnce.heap_1 P).map (·.1) := fun _ => by kernel_rfl
theorem leftOnce : LeftO PySem.Challenge.rw_us0010_01.row.toRowW.prog vw ["bisect_left", "_twin_re_1", "_twin_re_2", "tspecials", "_name_disallowed_re", "_value_disallowed_re", "_formatparam"] (fun s => xlAt vw [] s && recOk (RowW.records PySem.Challenge.rw_us0010_01.row.toRowW) s) (Hook.obs (kHook fragOnce.heap_1 [2, 3, 32, 34, 35, 37, 38, 39, 40, 41, 43, 44, 46, 47, 48, 50, 51, 53, 54, 58, 59, 63, 64, 65, 67, 68, 70, 71, 75, 76, 80, 81, 85, 86, 87, 88, 90, 91, 93, 94, 102, 103, 105, 106, 108, 109, 110, 112, 113, 115, 116, 117, 119, 120, 122, 123, 124, 126, 127, 129, 130, 131, 134, 135, 136, 138, 139, 141, 142, 143, 145, 146, 148, 149, 150, 153, 154, 155, 156, 158, 159, 161, 162, 163, 166, 167, 168, 171, 172, 173, 175, 176, 178, 179, 180, 182, 183, 185, 186, 187, 190, 191, 192, 194, 195, 197, 198, 199, 201, 202, 204, 205, 206, 208, 209, 211, 212, 213, 214, 215, 216, 217, 220, 222, 223, 225, 226, 227, 229, 230, 232, 233, 234, 237, 238, 239, 241, 242, 244, 245, 246, 249, 250, 251, 253, 254, 256, 257, 258, 260, 261, 263, 264, 265, 267, 268, 270, 271, 272, 275, 276] hkeq)) (Hook.val (kHook fragOnce.heap_1 [2, 3, 32, 34, 35, 37, 38, 39, 40, 41, 43, 44, 46, 47, 48, 50, 51, 53, 54, 58, 59, 63, 64, 65, 67, 68, 70, 71, 75, 76, 80, 81, 85, 86, 87, 88, 90, 91, 93, 94, 102, 103, 105, 106, 108, 109, 110, 112, 113, 115, 116, 117, 119, 120, 122, 123, 124, 126, 127, 129, 130, 131, 134, 135, 136, 138, 139, 141, 142, 143, 145, 146, 148, 149, 150, 153, 154, 155, 156, 158, 159, 161, 162, 163, 166, 167, 168, 171, 172, 173, 175, 176, 178, 179, 180, 182, 183, 185, 186, 187, 190, 191, 192, 194, 195, 197, 198, 199, 201, 202, 204, 205, 206, 208, 209, 211, 212, 213, 214, 215, 216, 217, 220, 222, 223, 225, 226, 227, 229, 230, 232, 233, 234, 237, 238, 239, 241, 242, 244, 245, 246, 249, 250, 251, 253, 254, 256, 257, 258, 260, 261, 263, 264, 265, 267, 268, 270, 271, 272, 275, 276] hkeq)) 3298 := by
  intro w
  unfold openEnds fencedOpening topFrom
  rw [Fast.te10274390034422433532, Fast.te14289696077712309145, Fast.te14082659384304107361, Fast.te4187177175401517315, Fast.te1435165496053646825, Fast.te14364793385576792824]
  kernel_rfl!
section
local macro_rules | `(tactic| k_head) => `(tactic| refine PySem.W.holds_open (q := vw) (loose := ["bisect_left", "_twin_re_1", "_twin_re_2", "tspecials", "_name_disallowed_re", "_value_disallowed_re", "_formatparam"]) (Xt := fun s => xlAt vw [] s && recOk (RowW.records PySem.Challenge.rw_us0010_01.row.toRowW) s) (XP := XL vw []) (Yf := Hook.obs (kHook fragOnce.heap_1 [2, 3, 32, 34, 35, 37, 38, 39, 40, 41, 43, 44, 46, 47, 48, 50, 51, 53, 54, 58, 59, 63, 64, 65, 67, 68, 70, 71, 75, 76, 80, 81, 85, 86, 87, 88, 90, 91, 93, 94, 102, 103, 105, 106, 108, 109, 110, 112, 113, 115, 116, 117, 119, 120, 122, 123, 124, 126, 127, 129, 130, 131, 134, 135, 136, 138, 139, 141, 142, 143, 145, 146, 148, 149, 150, 153, 154, 155, 156, 158, 159, 161, 162, 163, 166, 167, 168, 171, 172, 173, 175, 176, 178, 179, 180, 182, 183, 185, 186, 187, 190, 191, 192, 194, 195, 197, 198, 199, 201, 202, 204, 205, 206, 208, 209, 211, 212, 213, 214, 215, 216, 217, 220, 222, 223, 225, 226, 227, 229, 230, 232, 233, 234, 237, 238, 239, 241, 242, 244, 245, 246, 249, 250, 251, 253, 254, 256, 257, 258, 260, 261, 263, 264, 265, 267, 268, 270, 271, 272, 275, 276] hkeq)) (Ya := Hook.val (kHook fragOnce.heap_1 [2, 3, 32, 34, 35, 37, 38, 39, 40, 41, 43, 44, 46, 47, 48, 50, 51, 53, 54, 58, 59, 63, 64, 65, 67, 68, 70, 71, 75, 76, 80, 81, 85, 86, 87, 88, 90, 91, 93, 94, 102, 103, 105, 106, 108, 109, 110, 112, 113, 115, 116, 117, 119, 120, 122, 123, 124, 126, 127, 129, 130, 131, 134, 135, 136, 138, 139, 141, 142, 143, 145, 146, 148, 149, 150, 153, 154, 155, 156, 158, 159, 161, 162, 163, 166, 167, 168, 171, 172, 173, 175, 176, 178, 179, 180, 182, 183, 185, 186, 187, 190, 191, 192, 194, 195, 197, 198, 199, 201, 202, 204, 205, 206, 208, 209, 211, 212, 213, 214, 215, 216, 217, 220, 222, 223, 225, 226, 227, 229, 230, 232, 233, 234, 237, 238, 239, 241, 242, 244, 245, 246, 249, 250, 251, 253, 254, 256, 257, 258, 260, 261, 263, 264, 265, 267, 268, 270, 271, 272, 275, 276] hkeq)) (YP := Hook.says (kHook fragOnce.heap_1 [2, 3, 32, 34, 35, 37, 38, 39, 40, 41, 43, 44, 46, 47, 48, 50, 51, 53, 54, 58, 59, 63, 64, 65, 67, 68, 70, 71, 75, 76, 80, 81, 85, 86, 87, 88, 90, 91, 93, 94, 102, 103, 105, 106, 108, 109, 110, 112, 113, 115, 116, 117, 119, 120, 122, 123, 124, 126, 127, 129, 130, 131, 134, 135, 136, 138, 139, 141, 142, 143, 145, 146, 148, 149, 150, 153, 154, 155, 156, 158, 159, 161, 162, 163, 166, 167, 168, 171, 172, 173, 175, 176, 178, 179, 180, 182, 183, 185, 186, 187, 190, 191, 192, 194, 195, 197, 198, 199, 201, 202, 204, 205, 206, 208, 209, 211, 212, 213, 214, 215, 216, 217, 220, 222, 223, 225, 226, 227, 229, 230, 232, 233, 234, 237, 238, 239, 241, 242, 244, 245, 246, 249, 250, 251, 253, 254, 256, 257, 258, 260, 261, 263, 264, 265, 267, 268, 270, 271, 272, 275, 276] hkeq)) (N := 3298) leftOnce (Hook.of (kHook fragOnce.heap_1 [2, 3, 32, 34, 35, 37, 38, 39, 40, 41, 43, 44, 46, 47, 48, 50, 51, 53, 54, 58, 59, 63, 64, 65, 67, 68, 70, 71, 75, 76, 80, 81, 85, 86, 87, 88, 90, 91, 93, 94, 102, 103, 105, 106, 108, 109, 110, 112, 113, 115, 116, 117, 119, 120, 122, 123, 124, 126, 127, 129, 130, 131, 134, 135, 136, 138, 139, 141, 142, 143, 145, 146, 148, 149, 150, 153, 154, 155, 156, 158, 159, 161, 162, 163, 166, 167, 168, 171, 172, 173, 175, 176, 178, 179, 180, 182, 183, 185, 186, 187, 190, 191, 192, 194, 195, 197, 198, 199, 201, 202, 204, 205, 206, 208, 209, 211, 212, 213, 214, 215, 216, 217, 220, 222, 223, 225, 226, 227, 229, 230, 232, 233, 234, 237, 238, 239, 241, 242, 244, 245, 246, 249, 250, 251, 253, 254, 256, 257, 258, 260, 261, 263, 264, 265, 267, 268, 270, 271, 272, 275, 276] hkeq)) (Hook.keeps (kHook fragOnce.heap_1 [2, 3, 32, 34, 35, 37, 38, 39, 40, 41, 43, 44, 46, 47, 48, 50, 51, 53, 54, 58, 59, 63, 64, 65, 67, 68, 70, 71, 75, 76, 80, 81, 85, 86, 87, 88, 90, 91, 93, 94, 102, 103, 105, 106, 108, 109, 110, 112, 113, 115, 116, 117, 119, 120, 122, 123, 124, 126, 127, 129, 130, 131, 134, 135, 136, 138, 139, 141, 142, 143, 145, 146, 148, 149, 150, 153, 154, 155, 156, 158, 159, 161, 162, 163, 166, 167, 168, 171, 172, 173, 175, 176, 178, 179, 180, 182, 183, 185, 186, 187, 190, 191, 192, 194, 195, 197, 198, 199, 201, 202, 204, 205, 206, 208, 209, 211, 212, 213, 214, 215, 216, 217, 220, 222, 223, 225, 226, 227, 229, 230, 232, 233, 234, 237, 238, 239, 241, 242, 244, 245, 246, 249, 250, 251, 253, 254, 256, 257, 258, 260, 261, 263, 264, 265, 267, 268, 270, 271, 272, 275, 276] hkeq)) (fun s e => xl_of s (Bool.and_eq_true_iff.mp e).1) XL.keeps (by rfl) (by rfl) (by rfl) (fun s e => recFacts_of (Bool.and_eq_true_iff.mp e).2) (by rfl) (by assumption) (by decide +kernel) ⟨rfl, rfl, rfl, rfl, rfl, by decide +kernel⟩ ?hw ?hc)
open_top hd for PySem.Challenge.rw_us0010_01
end
end Mine
namespace Mine
open PySem PySem.W PySem.Calls PySem.Spec PyProof.Rows PyProof.V
/-- a text by its signs' numbers -/
def S (l : List Nat) : Str := ⟨l.toArray⟩
theorem S_cps (l : List Nat) : (S l).cps = l.toArray := rfl
theorem S_toList (l : List Nat) : (S l).cps.toList = l := rfl
theorem S_len (l : List Nat) : (S l).length = l.length := by simp [S, Str.length]
theorem S_app (a b : List Nat) : S a ++ S b = S (a ++ b) := by
  refine Str.ext' ?_
  rw [Str.cps_append]
  simp [S]
theorem S_one (c : Nat) : (⟨#[c]⟩ : Str) = S [c] := rfl
theorem S_inj {a b : List Nat} (h : S a = S b) : a = b := by
  have := congrArg (fun x : Str => x.cps.toList) h
  simpa [S] using this
theorem S_of (x : Str) : x = S x.cps.toList := by cases x; rfl
theorem cnt_count (c : Nat) : ∀ l : List Nat, PyProof.Rows.cnt c l = (l.count c : Int)
  | [] => rfl
  | n :: r => by
    rw [PyProof.Rows.cnt_cons, cnt_count c r, List.count_cons]
    by_cases h : n = c <;> simp [h] <;> omega
theorem count_S (l : List Nat) (c : Nat) : Txt.count (S l) ⟨#[c]⟩ = (l.count c : Int) := by
  rw [PyProof.Rows.count_cnt]
  exact cnt_count c l
theorem slice_S (l : List Nat) (j : Int) (h0 : 0 ≤ j) (h : j ≤ l.length) : Txt.slice (S l) none (some j) = S (l.take j.toNat) := by
  have := PyProof.Rows.slice_closes_to (x := S l) (j := j) ⟨h0, h⟩
  rw [beq_iff_eq] at this
  rw [this]
  simp [S]
theorem seqIndex_in {k n : Nat} (h : k < n) : seqIndex? (k : Int) n = some k := by
  unfold seqIndex?
  have h0 : ¬ (k : Int) < 0 := by omega
  simp only [if_neg h0]
  rw [if_pos (by simp; omega)]
  rfl
theorem item_S (l : List Nat) (i : Int) (h0 : 0 ≤ i) (h : i < l.length) : Txt.item (S l) i = ⟨#[l.getD i.toNat 0]⟩ := by
  obtain ⟨k, rfl⟩ := Int.eq_ofNat_of_zero_le h0
  have hk : k < l.length := by omega
  unfold Txt.item Txt.charAt
  rw [S_len, seqIndex_in hk]
  simp [S, hk]
/-- the places of a sign -/
def posN (l : List Nat) (c : Nat) : List Nat := (List.range l.length).filter (fun i => l.getD i 0 == c)
def posOf (l : List Nat) (c : Nat) : List Int := (posN l c).map (fun i : Nat => (i : Int))
theorem posN_snoc (l : List Nat) (a c : Nat) : posN (l ++ [a]) c = posN l c ++ (if a = c then [l.length] else []) := by
  unfold posN
  rw [List.length_append, List.length_singleton, List.range_succ, List.filter_append]
  congr 1
  · refine List.filter_congr fun i hi => ?_
    have hi := List.mem_range.mp hi
    rw [List.getD_eq_getElem?_getD, List.getD_eq_getElem?_getD, List.getElem?_append_left hi]
  · by_cases h : a = c <;> simp [h]
theorem snoc_induct {P : List Nat → Prop} (h0 : P []) (h1 : ∀ l a, P l → P (l ++ [a])) (l : List Nat) : P l := by
  have : ∀ r : List Nat, P r.reverse := by
    intro r
    induction r with
    | nil => exact h0
    | cons a r ih => rw [List.reverse_cons]; exact h1 _ _ ih
  have := this l.reverse
  rwa [List.reverse_reverse] at this
theorem posN_length (c : Nat) (l : List Nat) : (posN l c).length = l.count c := by
  induction l using snoc_induct with
  | h0 => rfl
  | h1 l a ih =>
    rw [posN_snoc, List.length_append, ih, List.count_append]
    by_cases h : a = c <;> simp [h]
theorem posN_lt (c : Nat) (l : List Nat) : ∀ i ∈ posN l c, i < l.length := fun i hi => by
  unfold posN at hi
  exact List.mem_range.mp (List.mem_filter.mp hi).1
theorem posN_at (c : Nat) (l : List Nat) : ∀ i ∈ posN l c, l.getD i 0 = c := fun i hi => by
  unfold posN at hi
  exact beq_iff_eq.mp (List.mem_filter.mp hi).2
theorem posN_countP (c : Nat) (l : List Nat) (m : Nat) : (posN l c).countP (· < m) = (l.take m).count c := by
  induction l using snoc_induct with
  | h0 => simp [posN]
  | h1 l a ih =>
    rw [posN_snoc, List.countP_append, ih]
    by_cases hm : m ≤ l.length
    · rw [List.take_append_of_le_length hm]
      by_cases h : a = c
      · simp [h]; omega
      · simp [h]
    · have e : (l ++ [a]).take m = l ++ [a] := List.take_of_length_le (by simp; omega)
      have e2 : l.take m = l := List.take_of_length_le (by omega)
      rw [e, e2, List.count_append]
      by_cases h : a = c
      · simp [h]; omega
      · simp [h]
theorem posN_sorted (c : Nat) (l : List Nat) : (posN l c).Pairwise (· < ·) := List.Pairwise.filter _ List.pairwise_lt_range
theorem posOf_length (c : Nat) (l : List Nat) : (posOf l c).length = l.count c := by
  unfold posOf; rw [List.length_map, posN_length]
theorem posOf_sorted (c : Nat) (l : List Nat) : (posOf l c).Pairwise (· ≤ ·) := by
  unfold posOf
  exact List.Pairwise.map _ (fun a b (h : a < b) => by omega) (posN_sorted c l)
theorem posOf_countP (c : Nat) (l : List Nat) (m : Nat) : (posOf l c).countP (· < (m : Int)) = (l.take m).count c := by
  unfold posOf
  rw [List.countP_map, ← posN_countP]
  congr 1
  funext i
  simp
abbrev AR (k : Nat) (outer : List Env) : Around := { handled := none, depth := 501 + k, frames := some outer, guards := some [], units := 100 + 3 * k }

structure Std (w : World) (outer : List Env) (h : Heap) : Prop where
  fr : ∃ base, base.StaysIn h ∧ h.FunFrames base outer ∧ (fragOnce.heap_1 w.params).In base ∧ ∃ loose mean mg mb, Top vw loose mean mg mb base
  k : (fragOnce.heap_1 w.params).In h
  t : ∃ loose mean mg mb, Top vw loose mean mg mb h

theorem ar_le {α : Type} {M : Model} {A A' : Around} {t : Sem α} {Q : α → Shared → Prop} {E : Value → Shared → Prop} {s : Shared}
    (h : wpAny M A' t Q E s) (hh : A.handled = A'.handled) (hd : A.depth ≤ A'.depth) (hf : A.frames = A'.frames) (hg : A.guards = A'.guards) (hu : A.units ≤ A'.units) : wpAny M A t Q E s :=
  fun Γ p hΓ => h Γ p ⟨hΓ.1.trans hh, Nat.le_trans hΓ.2.1 hd, fun l hl => hΓ.2.2.1 l (hf.trans hl), fun g q => hΓ.2.2.2.1 g (hg.trans q), Nat.le_trans hΓ.2.2.2.2 hu⟩

theorem std_of {w : World} {outer : List Env} {h₀ h : Heap} {L : Addr} {m : Str → Option Value} {env : Env} (S : Std w outer h₀) (F : Fr h₀ L h m) (hf : env.frame = some L) (hk : env.scope.kind = .function) : Std w (env :: outer) h := by
  obtain ⟨⟨base, hb, hfr, hK, hT⟩, k, loose, mean, mg, mb, t⟩ := S
  have hnew : base.get? L = none := by
    cases hq : base.get? L with
    | none => rfl
    | some o => exact absurd (Nat.lt_of_lt_of_le (Heap.lt_size (hb L o hq)) F.above) (Nat.lt_irrefl _)
  exact ⟨⟨base, fun b o e => F.keep b o (hb b o e), .cons (by rw [hk]; decide) hf F.ns hnew (hfr.of_keeps fun b o e _ => ⟨o, F.keep b o e, rfl⟩), hK, hT⟩, Frag.In.keeps k F.keep, loose, mean, mg, mb, t.keeps F.keep⟩

theorem fr_ext {h₀ h h' : Heap} {L : Addr} {m : Str → Option Value} (F : Fr h₀ L h m) (k : ∀ b o, h.get? b = some o → h'.get? b = some o) : Fr h₀ L h' m :=
  ⟨F.ns.keeps k, fun b o e => k b o (F.keep b o e), F.above⟩
theorem news_ext {h₀ h h' : Heap} {L : Addr} {news : List (Addr × Obj)} (N : News h₀ L h news) (k : ∀ b o, h.get? b = some o → h'.get? b = some o) : News h₀ L h' news :=
  fun p hp => ⟨k _ _ (N p hp).1, (N p hp).2⟩

/-- entering a def of the text (no cells) -/
theorem enter {prog : Program} {w : World} {dp un : Nat} {gd : Option (List Code)} {outer : List Env} {h₀ : Heap} {gens : Array GenState} {drawn : Drawn} {toks : Nat} {os : OsState} {f : Addr} {pos : List Value} {kw : List (Str × Value)} {E : Value → Shared → Prop} {Q : Value → Shared → Prop} {K : Frag}
    {name qual : Str} {params : Arguments} {body : List Stmt} {scope : Scope} {dV kV doc pm cdv ct oc : Value} {an od : Option Addr} {osl : Array (Option Value)} {binds : List (Str × Value)}
    (hK : K.In h₀) (hT : ∃ p loose mean mg mb, Top p loose mean mg mb h₀)
    (ho : K.lookup f = some ⟨oc, od, .func (fnOf name qual params body scope dV kV doc pm an cdv ct), osl⟩) (hcd : codeIn K cdv qual = true)
    (hroom : dp < recursionLimit)
    (hbind : BindsTo ⟨h₀, gens, drawn, toks, os⟩ (fnOf name qual params body scope dV kV doc pm an cdv ct) ⟨pos, kw⟩ binds) (hloc : ∀ y ∈ binds, scope.names.lookup y.1 = some .local)
    (h : ∀ h₁ tk, Fr h₀ h₀.objs.size h₁ (fun y => binds.reverse.lookup y) → News h₀ h₀.objs.size h₁ [] →
      wpAny (model prog w) { handled := none, depth := dp + 1, frames := some (envOf qual scope h₀.objs.size f cdv :: outer), guards := gd, units := un + 3 } (execs body (envOf qual scope h₀.objs.size f cdv))
        (fun fl s' => Q (match fl with | .ret v => v | _ => .none) s')
        (fun e s' => wpAny (model prog w) { handled := none, depth := dp + 1, frames := some (envOf qual scope h₀.objs.size f cdv :: outer), guards := gd, units := un + 3 } (leaving (envOf qual scope h₀.objs.size f cdv) e) (fun _ s'' => E e s'') (fun e' s'' => E e' s'') s')
        ⟨h₁, gens, drawn, tk, os⟩)
    (hcell : ∀ x ∈ scope.names, x.2 ≠ .cell) (hco : scope.isCoroutine = false) (hgen : scope.isGenerator = false) (hk : scope.kind = .function) :
    wpAny (model prog w) { handled := none, depth := dp, frames := some outer, guards := gd, units := un } (call (.ref f) pos kw) Q E ⟨h₀, gens, drawn, toks, os⟩ := by
  obtain ⟨p, loose, mean, mg, mb, T⟩ := hT
  refine wpAny_call ?_
  refine codeAny_call_def (fd := fnOf name qual params body scope dV kV doc pm an cdv ct) (body := body) (binds := binds) hroom (hK _ _ ho) rfl T.nolimit (codeRec_of hK hcd) rfl hbind hcell hloc (fun h₁ hns hk₁ => ?_) hco hgen hk
  exact h h₁ _ ⟨hns, hk₁, Nat.le_refl _⟩ News.nil


def Stop (P : Prop) : Prop := P
theorem stop_of {P : Prop} (h : Stop P) : P := h
theorem Stop.go {P : Prop} (h : P) : Stop P := h

section loops
variable {prog : Program} {w : World} {A : Around} {E : Value → Shared → Prop} {s : Shared} {env : Env} {h₀ : Heap} {x : Str} {body : List Stmt} {Q : Flow → Shared → Prop}

theorem kstB_self {m : Str → Option Value} : ∀ {ps : List (Str × Value)}, (∀ p ∈ ps, m p.1 = some p.2) → kstB m ps = m := fun {ps} h => by
  funext z
  exact kstB_eq h fun _ => rfl
theorem fr_named {L : Addr} {h : Heap} {m : Str → Option Value} {ps : List (Str × Value)} (F : Fr h₀ L h m) (hp : ∀ p ∈ ps, m p.1 = some p.2) : Fr h₀ L h (kstB m ps) := by
  rw [kstB_self hp]; exact F
theorem fr_named1 {L : Addr} {h : Heap} {m : Str → Option Value} {v : Value} {ps : List (Str × Value)} (F : Fr h₀ L h (fun y => if y = x then some v else m y)) (hp : ∀ p ∈ ps, m p.1 = some p.2) : Fr h₀ L h (kstB m ((x, v) :: ps)) := by
  have e : kstB m ((x, v) :: ps) = fun y => if y = x then some v else m y := by
    show (fun z => if z = x then some v else kstB m ps z) = _
    rw [kstB_self hp]
  rw [e]; exact F

/-- a turn's end: the state by names and ledger again -/
structure TEnd {σ : Type} (h₀ : Heap) (L : Addr) (Led : σ → List (Addr × Obj)) (ps : σ → List (Str × Value)) (P : σ → Prop) (own : List (Addr × Obj)) (s₁ s₂ : Shared) : Prop where
  it : ∃ (c : σ) (h' : Heap) (tk : Nat) (m' : Str → Option Value) (news' : List (Addr × Obj)), s₂ = { s₁ with heap := h', toks := tk } ∧ Fr h₀ L h' m' ∧ News h₀ L h' news' ∧ (∀ p ∈ Led c, p ∈ news') ∧ (∀ p ∈ own, p ∈ news') ∧ (∀ p ∈ ps c, m' p.1 = some p.2) ∧ P c
def TPost {σ : Type} (h₀ : Heap) (L : Addr) (Led : σ → List (Addr × Obj)) (ps : σ → List (Str × Value)) (P : σ → Prop) (own : List (Addr × Obj)) (s₁ : Shared) (Q : Flow → Shared → Prop) (f : Flow) (s₂ : Shared) : Prop :=
  match f with
  | .ret v => Q (.ret v) s₂
  | .brk => Q .next s₂
  | _ => TEnd h₀ L Led ps P own s₁ s₂
theorem tend {σ : Type} {L : Addr} {Led : σ → List (Addr × Obj)} {ps : σ → List (Str × Value)} {P : σ → Prop} {own : List (Addr × Obj)} {s₁ : Shared} {h' : Heap} {tk : Nat} {m' : Str → Option Value} {news' : List (Addr × Obj)} (c : σ)
    (F : Fr h₀ L h' m') (N : News h₀ L h' news') (hn : ∀ p ∈ Led c, p ∈ news') (ho : ∀ p ∈ own, p ∈ news') (hp : ∀ p ∈ ps c, m' p.1 = some p.2) (hP : P c) : TEnd h₀ L Led ps P own s₁ { s₁ with heap := h', toks := tk } :=
  ⟨c, h', tk, m', news', rfl, F, N, hn, ho, hp, hP⟩

theorem my_while {L : Addr} {σ : Type} {test : PySem.Expr} {pos : Pos} {m₀ : Str → Option Value} (Led : σ → List (Addr × Obj)) (ps : σ → List (Str × Value)) (P : σ → Prop) (μ : σ → Nat) (c₀ : σ)
    (F : Fr h₀ L s.heap m₀) (N : News h₀ L s.heap (Led c₀)) (hk : ∀ p ∈ ps c₀, m₀ p.1 = some p.2) (hp : P c₀)
    (turn : ∀ (c : σ) (u : Str → Option Value) h tk, P c → Fr h₀ L h (kstB u (ps c)) → News h₀ L h (Led c) →
      wpAny (model prog w) A (isTrue test env (eval test env)) (fun b s₂ =>
        if b = true then wpAny (model prog w) A (execs body env) (TPost h₀ L Led ps (fun c' => P c' ∧ μ c' < μ c) [] s Q) E s₂ else Q .next s₂) E { s with heap := h, toks := tk })
    (hE : PassesOwn (model prog w) A env E := by passes_own) :
    wpAny (model prog w) A (exec (.While test body [] pos) env) Q E s := by
  refine While_inv2 (fun n m nx => ∃ c : σ, nx = Led c ∧ μ c = n ∧ (∀ p ∈ ps c, m p.1 = some p.2) ∧ P c) F N ⟨c₀, rfl, rfl, hk, hp⟩ ?_ hE
  rintro n m₁ nx h tk F₁ N₁ ⟨c, rfl, rfl, h1, hp'⟩
  refine wpAny_mono (turn c m₁ h tk hp' (fr_named F₁ h1) N₁) (fun b s₂ p => ?_) fun _ _ x => x
  cases b with
  | false => simpa using p
  | true =>
    simp only [if_true] at p ⊢
    refine wpAny_mono p (fun f s₃ q => ?_) fun _ _ x => x
    have fin : TEnd h₀ L Led ps (fun c' => P c' ∧ μ c' < μ c) [] s s₃ → ∃ h' tk m₂ news₂ n', s₃ = { s with heap := h', toks := tk } ∧ Fr h₀ L h' m₂ ∧ News h₀ L h' news₂ ∧ n' < μ c ∧ ∃ c : σ, news₂ = Led c ∧ μ c = n' ∧ (∀ p ∈ ps c, m₂ p.1 = some p.2) ∧ P c := by
      rintro ⟨c', h', tk', m', news', rfl, F', N', hn, _, hk9, hp9, hm9⟩
      exact ⟨h', tk', m', Led c', μ c', rfl, F', fun p hp => N' p (hn p hp), hm9, c', rfl, rfl, hk9, hp9⟩
    cases f with
    | ret v => exact q
    | brk => exact q
    | next => exact fin q
    | cont => exact fin q

theorem my_walk {σ : Type} {I : Addr} {fp wr : List Addr} {n : Nat} {Pv : Nat → Value → Prop} {St : Nat → Heap → Prop} {m₀ : Str → Option Value} (Led : σ → List (Addr × Obj)) (ps : σ → List (Str × Value)) (P : Nat → σ → Prop) (c₀ : σ)
    (W : Walks prog w A I fp wr n Pv St) (hLf : env.locals ∉ fp) (hwr : ∀ b ∈ wr, h₀.get? b = none) (hnw : ∀ p ∈ Led c₀, p.1 ∉ wr) (hfp : ∀ q ∈ Led c₀, q.1 ∉ fp) (hst : St 0 s.heap) (F : Fr h₀ env.locals s.heap m₀) (N : News h₀ env.locals s.heap (Led c₀))
    (hadr : ∀ c, (Led c).map (·.1) = (Led c₀).map (·.1)) (hk : ∀ p ∈ ps c₀, m₀ p.1 = some p.2) (hp : P 0 c₀)
    (turn : ∀ i v (c : σ) (u : Str → Option Value) h tk own, i < n → Pv i v → OwnOff own ((Led c).map (·.1)) → P i c → Fr h₀ env.locals h (kstB u ((x, v) :: ps c)) → News h₀ env.locals h (Led c ++ own) →
      wpAny (model prog w) A (execs body env) (TPost h₀ env.locals Led ps (P (i + 1)) own { s with heap := h, toks := tk } Q) E { s with heap := h, toks := tk })
    (done : ∀ (c : σ) (u : Str → Option Value) h tk, P n c → Fr h₀ env.locals h (kstB u (ps c)) → News h₀ env.locals h (Led c) → Q .next { s with heap := h, toks := tk }) :
    LoopAtV prog w A h₀ env x body Q E (.ref I) s := by
  refine loop_invN (fun i m nx => ∃ c : σ, nx = Led c ∧ (∀ p ∈ ps c, m p.1 = some p.2) ∧ P i c) W hLf hwr hnw hfp hst F N ⟨c₀, rfl, hk, hp⟩ ?_ ?_
  · rintro i v m₁ nx h tk own hi hv _ hoff ⟨c, rfl, h1, hp'⟩ F₁ N₁
    refine wpAny_mono (turn i v c m₁ h tk own hi hv (by rw [hadr c]; exact hoff) hp' (fr_named1 F₁ h1) N₁) (fun f s₃ q => ?_) fun _ _ e => e
    have fin : TEnd h₀ env.locals Led ps (P (i + 1)) own { s with heap := h, toks := tk } s₃ → InvEndN h₀ env.locals (fun m nx => ∃ c : σ, nx = Led c ∧ (∀ p ∈ ps c, m p.1 = some p.2) ∧ P (i + 1) c) own ((Led c₀).map (·.1)) { s with heap := h, toks := tk } s₃ := by
      rintro ⟨c', h', tk', m', news', rfl, F', N', hn, ho, hk9, hp9⟩
      exact ⟨h', tk', m', news', Led c', rfl, F', N', hn, ho, hadr c', c', rfl, hk9, hp9⟩
    cases f with
    | ret v => exact q
    | brk => exact q
    | next => exact fin q
    | cont => exact fin q
  · rintro m₁ nx h tk ⟨c, rfl, h1, hp'⟩ F₁ N₁
    exact done c m₁ h tk hp' (fr_named F₁ h1) N₁

theorem my_iter_str {σ : Type} {xt : Str} {tx : Tok} {m₀ : Str → Option Value} (Led : σ → List (Addr × Obj)) (ps : σ → List (Str × Value)) (P : Nat → σ → Prop) (c₀ : σ)
    (hh : A.handled = none) (F : Fr h₀ env.locals s.heap m₀) (N : News h₀ env.locals s.heap (Led c₀)) (hadr : ∀ c, (Led c).map (·.1) = (Led c₀).map (·.1)) (hk : ∀ p ∈ ps c₀, m₀ p.1 = some p.2) (hp : P 0 c₀)
    (turn : ∀ i ch t (c : σ) (u : Str → Option Value) h tk own, xt.cps[i]? = some ch → OwnOff own ((Led c).map (·.1)) → P i c → Fr h₀ env.locals h (kstB u ((x, .str ⟨#[ch]⟩ t) :: ps c)) → News h₀ env.locals h (Led c ++ own) →
      wpAny (model prog w) A (execs body env) (TPost h₀ env.locals Led ps (P (i + 1)) own { s with heap := h, toks := tk } Q) E { s with heap := h, toks := tk })
    (done : ∀ (c : σ) (u : Str → Option Value) h tk, P xt.cps.size c → Fr h₀ env.locals h (kstB u (ps c)) → News h₀ env.locals h (Led c) → Q .next { s with heap := h, toks := tk }) :
    wpAny (model prog w) A (pyIter (.str xt tx)) (fun it s₂ => LoopAtV prog w A h₀ env x body Q E it s₂) E s := by
  refine wpAny_pyIter_str fun o St hW hst => ?_
  refine my_walk Led ps P c₀ (hW A hh) ?_ ?_ ?_ ?_ hst (F.push _) (fun p hp => ⟨Heap.get?_push_of_some _ (N p hp).1, (N p hp).2⟩) hadr hk hp ?_ ?_
  · intro hm
    exact absurd F.ns.lt ((List.mem_singleton.mp hm) ▸ Nat.lt_irrefl _)
  · intro b' hb
    rw [List.mem_singleton.mp hb]
    exact next_is_new F
  · intro p hp hI
    exact absurd (Heap.lt_size (N p hp).1) ((List.mem_singleton.mp hI) ▸ Nat.lt_irrefl _)
  · intro p hp hI
    exact absurd (Heap.lt_size (N p hp).1) ((List.mem_singleton.mp hI) ▸ Nat.lt_irrefl _)
  · rintro i v c u h tk own hi ⟨n, t, hn, rfl⟩ hoff hp' F₁ N₁
    exact turn i n t c u h tk own hn hoff hp' F₁ N₁
  · exact done

theorem my_iter_list {σ : Type} {l : Addr} {items : List Value} {m₀ : Str → Option Value} (Led : σ → List (Addr × Obj)) (ps : σ → List (Str × Value)) (P : Nat → σ → Prop) (c₀ : σ)
    (hh : A.handled = none) (hl : h₀.IsList l items.toArray) (F : Fr h₀ env.locals s.heap m₀) (N : News h₀ env.locals s.heap (Led c₀)) (hadr : ∀ c, (Led c).map (·.1) = (Led c₀).map (·.1)) (hk : ∀ p ∈ ps c₀, m₀ p.1 = some p.2) (hp : P 0 c₀)
    (turn : ∀ i v (c : σ) (u : Str → Option Value) h tk own, items[i]? = some v → OwnOff own ((Led c).map (·.1)) → P i c → Fr h₀ env.locals h (kstB u ((x, v) :: ps c)) → News h₀ env.locals h (Led c ++ own) →
      wpAny (model prog w) A (execs body env) (TPost h₀ env.locals Led ps (P (i + 1)) own { s with heap := h, toks := tk } Q) E { s with heap := h, toks := tk })
    (done : ∀ (c : σ) (u : Str → Option Value) h tk, P items.length c → Fr h₀ env.locals h (kstB u (ps c)) → News h₀ env.locals h (Led c) → Q .next { s with heap := h, toks := tk }) :
    wpAny (model prog w) A (pyIter (.ref l)) (fun it s₂ => LoopAtV prog w A h₀ env x body Q E it s₂) E s := by
  have hls : s.heap.IsList l items.toArray := hl.at fun o e => F.keep l o e
  obtain ⟨ol, hol, _⟩ := id hl
  have hlt : l < h₀.objs.size := Heap.lt_size hol
  have hne : l ≠ s.heap.objs.size := Nat.ne_of_lt (Nat.lt_trans (Nat.lt_of_lt_of_le hlt F.above) F.ns.lt)
  refine wpAny_pyIter_list hls ?_
  have W := Walks.list (prog := prog) (w := w) hh s.heap.objs.size l hne items.toArray
  refine my_walk Led ps P c₀ W ?_ ?_ ?_ ?_ ⟨⟨_, Heap.get?_push_size _ rfl, rfl, rfl⟩, hls.at fun o e => Heap.get?_push_of_some _ e⟩ (F.push _) (fun p hp => ⟨Heap.get?_push_of_some _ (N p hp).1, (N p hp).2⟩) hadr hk hp ?_ ?_
  · intro hm
    rcases List.mem_cons.mp hm with e | hm
    · exact absurd F.ns.lt (e ▸ Nat.lt_irrefl _)
    · exact absurd (Nat.lt_of_lt_of_le hlt F.above) ((List.mem_singleton.mp hm) ▸ Nat.lt_irrefl _)
  · intro b hb
    rw [List.mem_singleton.mp hb]
    exact next_is_new F
  · intro p hp hI
    exact absurd (Heap.lt_size (N p hp).1) ((List.mem_singleton.mp hI) ▸ Nat.lt_irrefl _)
  · intro p hp hI
    rcases List.mem_cons.mp hI with e | hI
    · exact absurd (Heap.lt_size (N p hp).1) (e ▸ Nat.lt_irrefl _)
    · have h3 := (N p hp).2.2
      rw [List.mem_singleton.mp hI, hol] at h3
      cases h3
  · rintro i v c u h tk own hi hv hoff hp' F₁ N₁
    exact turn i v c u h tk own (by simpa using hv) hoff hp' F₁ N₁
  · intro c u h tk hp' F₁ N₁
    exact done c u h tk (by simpa using hp') F₁ N₁

theorem my_iter_range {σ : Type} {r : Addr} {b₀ : Int} {t₀ u₀ v₀ : Tok} {n : Nat} {m₀ : Str → Option Value} (Led : σ → List (Addr × Obj)) (ps : σ → List (Str × Value)) (P : Nat → σ → Prop) (c₀ : σ)
    (hh : A.handled = none) (hr : IsRange s.heap r 0 b₀ 1 t₀ u₀ v₀) (hsmall : Builtin.Range.small 0 b₀ 1 = true) (hn : Builtin.Range.rangeSize 0 b₀ 1 = (n : Int))
    (F : Fr h₀ env.locals s.heap m₀) (N : News h₀ env.locals s.heap (Led c₀)) (hadr : ∀ c, (Led c).map (·.1) = (Led c₀).map (·.1)) (hk : ∀ p ∈ ps c₀, m₀ p.1 = some p.2) (hp : P 0 c₀)
    (turn : ∀ (i : Nat) t (c : σ) (u : Str → Option Value) h tk own, i < n → OwnOff own ((Led c).map (·.1)) → P i c → Fr h₀ env.locals h (kstB u ((x, .int (i : Int) t) :: ps c)) → News h₀ env.locals h (Led c ++ own) →
      wpAny (model prog w) A (execs body env) (TPost h₀ env.locals Led ps (P (i + 1)) own { s with heap := h, toks := tk } Q) E { s with heap := h, toks := tk })
    (done : ∀ (c : σ) (u : Str → Option Value) h tk, P n c → Fr h₀ env.locals h (kstB u (ps c)) → News h₀ env.locals h (Led c) → Q .next { s with heap := h, toks := tk }) :
    wpAny (model prog w) A (pyIter (.ref r)) (fun it s₂ => LoopAtV prog w A h₀ env x body Q E it s₂) E s := by
  refine wpAny_pyIter_range hr hsmall ?_
  have W : Walks prog w A s.heap.objs.size [s.heap.objs.size] [s.heap.objs.size] n (fun i v => i < n ∧ ∃ t, v = .int (0 + i * 1) t)
      (fun i h => IsRangeIter h s.heap.objs.size (0 + (i : Nat) * 1) ((n : Int) - (i : Nat)) 1) := (Walks.range hh _ 0 1 n).bound
  refine my_walk Led ps P c₀ W ?_ ?_ ?_ ?_ (by show IsRangeIter _ _ _ _ _; rw [hn]; simpa using Heap.get?_push_size _ rfl) (F.push _) (fun p hp => ⟨Heap.get?_push_of_some _ (N p hp).1, (N p hp).2⟩) hadr hk hp ?_ ?_
  · intro hm
    exact absurd F.ns.lt ((List.mem_singleton.mp hm) ▸ Nat.lt_irrefl _)
  · intro b' hb
    rw [List.mem_singleton.mp hb]
    exact next_is_new F
  · intro p hp hI
    exact absurd (Heap.lt_size (N p hp).1) ((List.mem_singleton.mp hI) ▸ Nat.lt_irrefl _)
  · intro p hp hI
    exact absurd (Heap.lt_size (N p hp).1) ((List.mem_singleton.mp hI) ▸ Nat.lt_irrefl _)
  · rintro i v c u h tk own hi ⟨_, t, rfl⟩ hoff hp' F₁ N₁
    rw [Int.mul_one, Int.zero_add] at F₁
    exact turn i t c u h tk own hi hoff hp' F₁ N₁
  · exact done
end loops

theorem item_strS {prog : Program} {w : World} {A : Around} {E : Value → Shared → Prop} {s : Shared} {value slice : Expr} {l : List Nat} {t : Tok} {Q : Value → Shared → Prop} {i : Int} {u : Tok} (h0 : 0 ≤ i) (h1 : i < (l.length : Int)) (hz : l.length < 1000)
    (h : Q (.str (S [l.getD i.toNat 0]) s.toks) { s with toks := s.toks + 1 })
    (hs : subscripted slice false (.str (S l) t) (.int i u) = operate [.str (S l) t, .int i u] (getItem (.str (S l) t) (.int i u)) := by with_unfolding_all rfl)
    (ht : ∀ r, letTemporaryGo value (.str (S l) t) r = pure () := by intro _; with_unfolding_all rfl) :
    wpAny (model prog w) A (subscriptTail value slice (.str (S l) t) (.int i u)) Q E s := by
  refine item_str (by unfold fitsSsize; simp; omega) (by rw [S_len]; omega) (by rw [S_len]; omega) (fun _ => ?_) hs ht
  rw [item_S l i h0 h1]
  exact h

section nats
variable {prog : Program} {w : World} {A : Around} {E : Value → Shared → Prop} {s : Shared} {a b : Nat} {t u : Tok} {Q : Value → Shared → Prop}
theorem modN (hb : 0 < b) (h : Q (.int ((a % b : Nat) : Int) s.toks) { s with toks := s.toks + 1 }) : wpAny (model prog w) A (binaryOp .Mod (.int (a : Int) t) (.int (b : Int) u)) Q E s :=
  PyProof.Rows.mod_int (by omega) (by
    have e : (a : Int).fmod (b : Int) = ((a % b : Nat) : Int) := by rw [Int.fmod_eq_emod_of_nonneg _ (by omega)]; rfl
    rw [e]; exact h)
theorem divN (hb : 0 < b) (hb1 : b < 1000) (h : Q (.int ((a / b : Nat) : Int) s.toks) { s with toks := s.toks + 1 }) : wpAny (model prog w) A (binaryOp .FloorDiv (.int (a : Int) t) (.int (b : Int) u)) Q E s :=
  PyProof.Rows.floordiv_int (by omega) (by
    have e : (a : Int).fdiv (b : Int) = ((a / b : Nat) : Int) := by rw [Int.fdiv_eq_ediv_of_nonneg _ (by omega)]; rfl
    rw [e]; exact h) (.inl (PyProof.noPylong_small (by omega)))
theorem addN (h : Q (.int ((a + b : Nat) : Int) s.toks) { s with toks := s.toks + 1 }) : wpAny (model prog w) A (binaryOp .Add (.int (a : Int) t) (.int (b : Int) u)) Q E s :=
  P.add_int (by rw [show (a : Int) + (b : Int) = ((a + b : Nat) : Int) by omega]; exact h)
theorem mulN (hb : b < 1000) (h : Q (.int ((a * b : Nat) : Int) s.toks) { s with toks := s.toks + 1 }) : wpAny (model prog w) A (binaryOp .Mult (.int (a : Int) t) (.int (b : Int) u)) Q E s :=
  P.mul_int (by rw [show (a : Int) * (b : Int) = ((a * b : Nat) : Int) by simp]; exact h) (IntMulOk.of_right (intBits_le_64 (by omega) (by omega)))
theorem subN (hb : b ≤ a) (h : Q (.int ((a - b : Nat) : Int) s.toks) { s with toks := s.toks + 1 }) : wpAny (model prog w) A (binaryOp .Sub (.int (a : Int) t) (.int (b : Int) u)) Q E s :=
  P.sub_int (by rw [show (a : Int) - (b : Int) = ((a - b : Nat) : Int) by omega]; exact h)
theorem mul64 (h : Q (.int ((a * 64 : Nat) : Int) s.toks) { s with toks := s.toks + 1 }) : wpAny (model prog w) A (binaryOp .Mult (.int (a : Int) t) (.int 64 u)) Q E s := mulN (b := 64) (by decide) h
theorem mod64 (h : Q (.int ((a % 64 : Nat) : Int) s.toks) { s with toks := s.toks + 1 }) : wpAny (model prog w) A (binaryOp .Mod (.int (a : Int) t) (.int 64 u)) Q E s := modN (b := 64) (by decide) h
theorem ordS {c : Nat} (h : Q (.int (c : Int) s.toks) { s with toks := s.toks + 1 }) : wpAny (model prog w) A (call (.builtin "ord") [.str (S [c]) t]) Q E s := P.ord_of_char h
theorem lenS {l : List Nat} (hl : l.length < 1000) (h : Q (.int (l.length : Int) (s.toks + 1)) { s with toks := s.toks + 1 + 1 }) : wpAny (model prog w) A (call (.builtin "len") [.str (S l) t]) Q E s :=
  P.len_str (by rw [S_len]; omega) (by rw [S_len]; exact h)
theorem countS {l : List Nat} {c : Nat} (h : Q (.int (l.count c : Int) s.toks) { s with toks := s.toks + 1 }) : wpAny (model prog w) A (call (.builtin "str.count") [.str (S l) t, .str (S [c]) u]) Q E s :=
  SC.count (by show Q (.int (Txt.count (S l) ⟨#[c]⟩) s.toks) _; rw [count_S]; exact h)
theorem itemN {value slice : PySem.Expr} {l : List Nat} (h1 : a < l.length) (hz : l.length < 1000)
    (h : Q (.str (S [l.getD a 0]) s.toks) { s with toks := s.toks + 1 })
    (hs : subscripted slice false (.str (S l) t) (.int (a : Int) u) = operate [.str (S l) t, .int (a : Int) u] (getItem (.str (S l) t) (.int (a : Int) u)) := by with_unfolding_all rfl)
    (ht : ∀ r, letTemporaryGo value (.str (S l) t) r = pure () := by intro _; with_unfolding_all rfl) :
    wpAny (model prog w) A (subscriptTail value slice (.str (S l) t) (.int (a : Int) u)) Q E s :=
  item_strS (by omega) (by omega) hz (by rw [Int.toNat_natCast]; exact h) hs ht
theorem sliceToN {value slice : PySem.Expr} {l : List Nat} {h₀ : Heap} {L : Addr} {m : Str → Option Value} {news : List (Addr × Obj)} {uj : Tok} (hF : Fr h₀ L s.heap m) (hN : News h₀ L s.heap news) (h1 : a ≤ l.length) (hz : l.length < 1000)
    (h : ∀ h' t' k, Fr h₀ L h' m → News h₀ L h' news → Q (.str (S (l.take a)) t') { s with heap := h', toks := k })
    (hs : subscripted slice false (.str (S l) t) (.ref s.heap.objs.size) = operate [.ref s.heap.objs.size, .str (S l) t] (getItem (.str (S l) t) (.ref s.heap.objs.size)) := by with_unfolding_all rfl)
    (ht : ∀ r, letTemporaryGo value (.str (S l) t) r = pure () := by intro _; with_unfolding_all rfl) :
    wpAny (model prog w) A (subscriptTail value slice (.str (S l) t) (.ref s.heap.objs.size)) Q E { s with heap := s.heap.push { cls := .type "slice", data := .fields #[.none, .int (a : Int) uj, .none] } } :=
  slice_strN_ns hF hN (fun h' t' k F' N' => by rw [slice_S l (a : Int) (by omega) (by omega), Int.toNat_natCast]; exact h h' t' k F' N') hs ht (by rw [S_len, sizeLine_eq]; omega)
theorem addS {l r : List Nat} (hz : l.length + r.length < 1000) (h : ∀ t' k, Q (.str (S (l ++ r)) t') { s with toks := k }) : wpAny (model prog w) A (binaryOp .Add (.str (S l) t) (.str (S r) u)) Q E s := by
  exact SB.add (fun t' k => by rw [S_app]; exact h t' k) (by rw [S_len, S_len, sizeLine_eq]; omega)
theorem eqS {l r : List Nat} (h : Q (.bool (l == r)) s) : wpAny (model prog w) A (compareOp .Eq (.str (S l) t) (.str (S r) u)) Q E s :=
  P.eq_str (by show Q (.bool ((S l).cps.toList == (S r).cps.toList)) s; exact h)
theorem neS {l r : List Nat} (h : Q (.bool (l != r)) s) : wpAny (model prog w) A (compareOp .NotEq (.str (S l) t) (.str (S r) u)) Q E s :=
  P.ne_str (by show Q (.bool ((S l).cps.toList != (S r).cps.toList)) s; exact h)
end nats

theorem lit_empty : Str.ofString "" = S [] := by decide +kernel
theorem lit_r : Str.ofString "\r" = S [13] := by decide +kernel
theorem lit_n : Str.ofString "\n" = S [10] := by decide +kernel
theorem lit_crlf : Str.ofString "\r\n" = S [13, 10] := by decide +kernel
theorem lit_dot : Str.ofString "." = S [46] := by decide +kernel
theorem lit_dots : Str.ofString ".." = S [46, 46] := by decide +kernel
theorem lit_a : Str.ofString "a" = S [97] := by decide +kernel
theorem lit_b : Str.ofString "b" = S [98] := by decide +kernel
theorem lit_five : Str.ofString ".\r\nab" = S [46, 13, 10, 97, 98] := by decide +kernel
theorem lit_tail : Str.ofString "a.\n..\rb.\r\n." = S [97, 46, 10, 46, 46, 13, 98, 46, 13, 10, 46] := by decide +kernel
theorem evalLit {M : Model} {A : Around} {E : Value → Shared → Prop} {s : Shared} {Q : Value → Shared → Prop} {x : Str} {l : List Nat} {k : Nat} {pos : Pos} {env : Env} (e : x = S l) (h : wpAny M A (eval (.Constant (.str (S l)) k pos) env) Q E s) : wpAny M A (eval (.Constant (.str x) k pos) env) Q E s := by
  rw [e]; exact h
theorem one_beq (c d : Nat) : ([c] == [d]) = decide (c = d) := by
  by_cases h : c = d <;> simp [h]
theorem eqS1 {prog : Program} {w : World} {A : Around} {E : Value → Shared → Prop} {s : Shared} {Q : Value → Shared → Prop} {c d : Nat} {t u : Tok} (h : Q (.bool (decide (c = d))) s) : wpAny (model prog w) A (compareOp .Eq (.str (S [c]) t) (.str (S [d]) u)) Q E s :=
  eqS (by rw [one_beq]; exact h)
theorem neS1 {prog : Program} {w : World} {A : Around} {E : Value → Shared → Prop} {s : Shared} {Q : Value → Shared → Prop} {c d : Nat} {t u : Tok} (h : Q (.bool (!decide (c = d))) s) : wpAny (model prog w) A (compareOp .NotEq (.str (S [c]) t) (.str (S [d]) u)) Q E s :=
  neS (by unfold bne; rw [one_beq]; exact h)

theorem posOf_getD (l : List Nat) (c i : Nat) : (posOf l c).getD i 0 = ((posN l c).getD i 0 : Nat) := by
  unfold posOf
  rw [List.getD_eq_getElem?_getD, List.getD_eq_getElem?_getD, List.getElem?_map]
  cases (posN l c)[i]? <;> rfl
theorem itemPos {prog : Program} {w : World} {A : Around} {E : Value → Shared → Prop} {s : Shared} {value slice : PySem.Expr} {h₀ : Heap} {L : Addr} {m : Str → Option Value} {sent : List Nat} {c a : Nat} {l : Addr} {vs : List Value} {u : Tok} {Q : Value → Shared → Prop}
    (hl : h₀.IsList l vs.toArray) (F : Fr h₀ L s.heap m) (hi : IntsAre vs (posOf sent c)) (h1 : a < (posOf sent c).length) (hz : (posOf sent c).length < 1000) (h : ∀ t, Q (.int ((posN sent c).getD a 0 : Nat) t) s)
    (hs : subscripted slice false (.ref l) (.int (a : Int) u) = operate [.ref l, .int (a : Int) u] (getItem (.ref l) (.int (a : Int) u)) := by with_unfolding_all rfl) (hg : ∀ r, letTemporaryGo value (.ref l) r = pure () := by intro _; with_unfolding_all rfl) :
    wpAny (model prog w) A (subscriptTail value slice (.ref l) (.int (a : Int) u)) Q E s :=
  item_list_ints (stays_list F.keep hl) hi (by omega) (by omega) (by omega) (fun t => by rw [Int.toNat_natCast, posOf_getD]; exact h t) hs hg

theorem binds_load2 {s : Shared} {K : Frag} {fd : FuncData} {args : Args} {binds : List (Str × Value)} {T d : Addr} {o1 o2 : Obj} {p1 p2 : Option Value} {k1 k2 : Obj → Sem (List (Str × Value))}
    (X : K.In s.heap) (h1 : bindArgs fd args = .load T p1 k1) (ho1 : K.lookup T = some o1) (h2 : k1 o1 = .load d p2 k2) (ho2 : K.lookup d = some o2) (h3 : k2 o2 = .pure binds) : BindsTo s fd args binds :=
  fun _ _ _ _ hq => by
    rw [h1]
    intro Γ p hΓ
    rw [Sem.wp_load]
    refine ⟨o1, X _ _ ho1, ?_⟩
    rw [h2, Sem.wp_load]
    refine ⟨o2, X _ _ ho2, ?_⟩
    rw [h3, Sem.wp_pure]
    exact hq
theorem binds_load1 {s : Shared} {K : Frag} {fd : FuncData} {args : Args} {binds : List (Str × Value)} {T : Addr} {o1 : Obj} {p1 : Option Value} {k1 : Obj → Sem (List (Str × Value))}
    (X : K.In s.heap) (h1 : bindArgs fd args = .load T p1 k1) (ho1 : K.lookup T = some o1) (h3 : k1 o1 = .pure binds) : BindsTo s fd args binds :=
  fun _ _ _ _ hq => by
    rw [h1]
    intro Γ p hΓ
    rw [Sem.wp_load]
    refine ⟨o1, X _ _ ho1, ?_⟩
    rw [h3, Sem.wp_pure]
    exact hq

def alphabet : List Nat := [46, 13, 10, 97, 98]
/-- the dict of places, as it lies in a heap -/
def Places (prog : Program) (w : World) (h : Heap) (D : Addr) (sent : List Nat) : Prop :=
  ∃ f, h.MapOf (strKind prog w) D f ∧ ∀ c ∈ alphabet, ∃ l vs, f (S [c]) = some (.ref l) ∧ h.IsList l vs.toArray ∧ IntsAre vs (posOf sent c)
theorem Places.keeps {prog : Program} {w : World} {h h' : Heap} {D : Addr} {sent : List Nat} (P : Places prog w h D sent) (k : ∀ b o, h.get? b = some o → h'.get? b = some o) : Places prog w h' D sent := by
  obtain ⟨f, ⟨o, es, ep, ho, r⟩, hc⟩ := P
  exact ⟨f, ⟨o, es, ep, k _ _ ho, r⟩, fun c q => let ⟨l, vs, a, b, e⟩ := hc c q; ⟨l, vs, a, stays_list k b, e⟩⟩
theorem place_item {prog : Program} {w : World} {A : Around} {E : Value → Shared → Prop} {s : Shared} {value slice : PySem.Expr} {h₀ : Heap} {L : Addr} {m : Str → Option Value} {D : Addr} {sent : List Nat} {c : Nat} {t : Tok} {Q : Value → Shared → Prop}
    (P : Places prog w h₀ D sent) (F : Fr h₀ L s.heap m) (hc : c ∈ alphabet)
    (h : ∀ l vs, h₀.IsList l vs.toArray → IntsAre vs (posOf sent c) → Q (.ref l) { s with toks := s.toks + 1 })
    (hs : subscripted slice false (.ref D) (.str (S [c]) t) = operate [.ref D, .str (S [c]) t] (getItem (.ref D) (.str (S [c]) t)) := by with_unfolding_all rfl) :
    wpAny (model prog w) A (subscriptTail value slice (.ref D) (.str (S [c]) t)) Q E s := by
  obtain ⟨f, hm, hf⟩ := P
  obtain ⟨l, vs, e, hl, hi⟩ := hf c hc
  have hm' : s.heap.MapOf (strKind prog w) D f := by
    obtain ⟨o, es, ep, ho, r⟩ := hm
    exact ⟨o, es, ep, F.keep _ _ ho, r⟩
  exact tail_any hm'.typeIs slot_dict_getitem.lookup (wpAny_getItem_of (strKind_is prog w (S [c]) t) hm' e (h l vs hl hi)) hs

theorem fill0 : (fun (_ : PySem.W.OpenLaw) (_ : Params → Frag) => True) PySem.Challenge.rw_us0010_01 Mine.fragOnce.heap_1 := by k_fill; trivial
local macro_rules | `(tactic| walk_at "my_enter") => `(tactic| (k_dflt ((case hX => assumption); (case hT => exact ⟨_, _, _, _, _, by assumption⟩); (case ho => k_is); (case hcd => k_is); (case hroom => decide); (case hbind => first | exact BindsTo.of_eq rfl | (refine' binds_load1 ?X ?h1 ?ho1 ?h3; (case X => assumption); (case h1 => exact rfl); (case ho1 => k_is); (case h3 => exact rfl)) | (refine' binds_load2 ?X ?h1 ?ho1 ?h2 ?ho2 ?h3; (case X => assumption); (case h1 => exact rfl); (case ho1 => k_is); (case h2 => exact rfl); (case ho2 => k_is); (case h3 => exact rfl))); (case hloc => exact locs rfl); (case c1 => decide); (case c2 => exact rfl); (case c3 => exact rfl); (case c4 => exact rfl))))

local macro_rules | `(tactic| walk_at "exec While Compare cons nil") => `(tactic| (k_here; refine stop_of ?_))
local macro_rules | `(tactic| walk_at "exec For Name Call cons nil") => `(tactic| (k_here; (rename Fr _ _ _ _ => lF'); (with_unfolding_all refine' For_invVF lF' ?k1 ?k2 ?_; (case k1 => exact rfl); (case k2 => exact rfl); k_whole)))
local macro_rules | `(tactic| walk_at "exec For Name Name cons nil") => `(tactic| (k_here; (rename Fr _ _ _ _ => lF'); (with_unfolding_all refine' For_invVF lF' ?k1 ?k2 ?_; (case k1 => exact rfl); (case k2 => exact rfl); k_whole)))
local macro_rules | `(tactic| walk_at "pyIter ref") => `(tactic| ((with_reducible show wpAny _ _ (pyIter (Value.ref _)) (fun it s₂ => LoopAtV _ _ _ _ _ _ _ _ _ it s₂) _ _); refine stop_of ?_))
local macro_rules | `(tactic| walk_at "pyIter str") => `(tactic| ((with_reducible show wpAny _ _ (pyIter (Value.str _ _)) (fun it s₂ => LoopAtV _ _ _ _ _ _ _ _ _ it s₂) _ _); refine stop_of ?_))
local macro_rules | `(tactic| walk_at "my_bnd") => `(tactic| first | assumption | omega | (simp only [List.length_append, List.length_cons, List.length_nil, List.length_take] at *; omega))
local macro_rules | `(tactic| walk_at "subscriptTail") => `(tactic| (k_here; (with_reducible show wpAny _ _ (subscriptTail _ _ (Value.str (S _) _) (Value.int (Nat.cast _) _)) _ _ _); (refine' itemN ?k1 ?k2 ?_); (case k1 => walk_at "my_bnd"); (case k2 => walk_at "my_bnd")))
local macro_rules | `(tactic| walk_at "subscriptTail Name Slice str ref") => `(tactic| (k_here; (with_reducible show wpAny _ _ (subscriptTail _ (PySem.Expr.Slice none (some _) none _) (Value.str (S _) _) _) _ _ _); (with_reducible rename Fr _ _ _ _ => F'); (with_reducible rename News _ _ _ _ => N'); (refine' sliceToN (s := ⟨_, _, _, _, _⟩) F' N' ?k1 ?k2 ?_); (case k1 => walk_at "my_bnd"); (case k2 => walk_at "my_bnd"); clear F' N'; intro h' t' k' F' N'))
local macro_rules | `(tactic| walk_at "binaryOp Mod int int") => `(tactic| ((with_reducible show wpAny _ _ (binaryOp _ (Value.int (Nat.cast _) _) (Value.int (Nat.cast _) _)) _ _ _); (refine' modN ?k1 ?_); (case k1 => walk_at "my_bnd")))
local macro_rules | `(tactic| walk_at "binaryOp FloorDiv int int") => `(tactic| ((with_reducible show wpAny _ _ (binaryOp _ (Value.int (Nat.cast _) _) (Value.int (Nat.cast _) _)) _ _ _); (refine' divN ?k1 ?k2 ?_); (case k1 => walk_at "my_bnd"); (case k2 => walk_at "my_bnd")))
local macro_rules | `(tactic| walk_at "binaryOp Mult int int") => `(tactic| ((with_reducible show wpAny _ _ (binaryOp _ (Value.int (Nat.cast _) _) (Value.int (Nat.cast _) _)) _ _ _); (refine' mulN ?k1 ?_); (case k1 => walk_at "my_bnd")))
local macro_rules | `(tactic| walk_at "binaryOp Add int int") => `(tactic| ((with_reducible show wpAny _ _ (binaryOp _ (Value.int (Nat.cast _) _) (Value.int (Nat.cast _) _)) _ _ _); (refine addN ?_)))
local macro_rules | `(tactic| walk_at "binaryOp Add str str") => `(tactic| ((with_reducible show wpAny _ _ (binaryOp _ (Value.str (S _) _) (Value.str (S _) _)) _ _ _); (refine' addS ?k1 ?_); (case k1 => walk_at "my_bnd"); intro t' k'))
local macro_rules | `(tactic| walk_at "call builtin:len") => `(tactic| ((with_reducible show wpAny _ _ (call (Value.builtin "len") [Value.str (S _) _]) _ _ _); (refine' lenS ?k1 ?_); (case k1 => walk_at "my_bnd")))
local macro_rules | `(tactic| walk_at "call builtin:str.count") => `(tactic| ((with_reducible show wpAny _ _ (call _ [Value.str (S _) _, Value.str (S [_]) _]) _ _ _); (refine countS ?_)))
local macro_rules | `(tactic| walk_at "subscriptTail Name Name ref str") => `(tactic| (k_here; (with_reducible show wpAny _ _ (subscriptTail _ _ (Value.ref _) (Value.str (S [_]) _)) _ _ _); (refine' place_item (by assumption) (by assumption) (by assumption) ?_); intro l' vs' hl' hi'))
local macro_rules | `(tactic| walk_at "eval Constant str") => `(tactic| (with_reducible (first | refine evalLit lit_r ?_ | refine evalLit lit_n ?_ | refine evalLit lit_dot ?_ | refine evalLit lit_crlf ?_ | refine evalLit lit_empty ?_ | refine evalLit lit_a ?_ | refine evalLit lit_b ?_ | refine evalLit lit_five ?_ | refine evalLit lit_tail ?_ | refine evalLit lit_dots ?_)))
local macro_rules | `(tactic| walk_at "compareOp Eq str str") => `(tactic| (with_reducible (first | refine eqS1 ?_ | refine eqS ?_)))
local macro_rules | `(tactic| walk_at "compareOp NotEq str str") => `(tactic| (with_reducible (first | refine neS1 ?_ | refine neS ?_)))
local macro_rules | `(tactic| walk_at "binaryOp Mult int int") => `(tactic| (with_reducible refine mul64 ?_))
local macro_rules | `(tactic| walk_at "binaryOp Mod int int") => `(tactic| (with_reducible refine mod64 ?_))
local macro_rules | `(tactic| walk_at "call builtin:ord") => `(tactic| (with_reducible refine ordS ?_))
local macro_rules | `(tactic| walk_at "exec While BinOp cons nil") => `(tactic| (k_here; refine stop_of ?_))
local macro_rules | `(tactic| walk_at "exec While Constant cons nil") => `(tactic| (k_here; refine stop_of ?_))
section
theorem walk_off_c_bisect : True := by
  w_top off
  trivial
theorem getD_mono {ns : List Int} (hs : ns.Pairwise (· ≤ ·)) {i j : Nat} (h : i ≤ j) (hj : j < ns.length) : ns.getD i 0 ≤ ns.getD j 0 := by
  rw [List.getD_eq_getElem?_getD, List.getD_eq_getElem?_getD, List.getElem?_eq_getElem hj, List.getElem?_eq_getElem (Nat.lt_of_le_of_lt h hj)]
  show ns[i] ≤ ns[j]
  rcases Nat.lt_or_eq_of_le h with h | h
  · exact List.pairwise_iff_getElem.mp hs i j _ hj h
  · subst h; exact Int.le_refl _
theorem countP_split {ns : List Int} {x : Int} {k : Nat} (hk : k ≤ ns.length) (h1 : ∀ i, i < k → ns.getD i 0 < x) (h2 : ∀ i, k ≤ i → i < ns.length → ¬ ns.getD i 0 < x) : ns.countP (· < x) = k := by
  have e : ns = ns.take k ++ ns.drop k := (List.take_append_drop k ns).symm
  have g : ∀ i (hi : i < ns.length), ns.getD i 0 = ns[i] := fun i hi => by
    rw [List.getD_eq_getElem?_getD, List.getElem?_eq_getElem hi]; rfl
  have a1 : (ns.take k).countP (· < x) = (ns.take k).length := by
    refine List.countP_eq_length.mpr fun a ha => ?_
    obtain ⟨i, hi, rfl⟩ := List.mem_iff_getElem.mp ha
    rw [List.length_take] at hi
    have := h1 i (by omega)
    rw [g i (by omega)] at this
    simpa using this
  have a2 : (ns.drop k).countP (· < x) = 0 := by
    refine List.countP_eq_zero.mpr fun a ha => ?_
    obtain ⟨i, hi, rfl⟩ := List.mem_iff_getElem.mp ha
    rw [List.length_drop] at hi
    have := h2 (k + i) (by omega) (by omega)
    rw [g (k + i) (by omega)] at this
    simpa using this
  rw [e, List.countP_append, a1, a2, List.length_take]
  omega

theorem bisect_spec {prog : Program} {w : World} {outer : List Env} {h₀ : Heap} {gens : Array GenState} {drawn : Drawn} {toks : Nat} {os : OsState} {E : Value → Shared → Prop} {Q : Value → Shared → Prop} {l : Addr} {vs : List Value} {ns : List Int} {x : Int} {t : Tok}
    (S : Std w outer h₀) (hl : h₀.IsList l vs.toArray) (hi : IntsAre vs ns) (hlen : ns.length < 1000) (hs : ns.Pairwise (· ≤ ·))
    (hQ : ∀ h' t' tk', (∀ b o, h₀.get? b = some o → h'.get? b = some o) → Q (.int (ns.countP (· < x)) t') ⟨h', gens, drawn, tk', os⟩) :
    wpAny (model prog w) (AR 10 outer) (call (.ref 47) [.ref l, .int x t]) Q E ⟨h₀, gens, drawn, toks, os⟩ := by
  have X := S.k
  obtain ⟨loose, mean, mg, mb, T⟩ := S.t
  refine' enter (binds := [(Str.ofString "a", .ref l), (Str.ofString "x", .int x t), (Str.ofString "lo", .int 0 291), (Str.ofString "hi", .none), (Str.ofString "key", .none)]) ?hX ?hT ?ho ?hcd ?hroom ?hbind ?hloc ?_ ?c1 ?c2 ?c3 ?c4
  walk_at "my_enter"
  intro h₁ tk F N
  clear S
  k_fold
  k_steps
  rename Fr _ _ _ _ => F1
  rename News _ _ _ _ => N1
  unfold Stop
  refine' my_while (σ := Int × Int × Tok × Tok) (fun _ => []) (fun c => [(Str.ofString "a", .ref l), (Str.ofString "x", .int x t), (Str.ofString "lo", .int c.1 c.2.2.1), (Str.ofString "hi", .int c.2.1 c.2.2.2)])
    (fun c => (0 ≤ c.1 ∧ c.1 ≤ c.2.1 ∧ c.2.1 ≤ (ns.length : Int)) ∧ (∀ i : Nat, (i : Int) < c.1 → ns.getD i 0 < x) ∧ (∀ i : Nat, c.2.1 ≤ (i : Int) → i < ns.length → ¬ ns.getD i 0 < x)) (fun c => (c.2.1 - c.1).toNat) (0, (ns.length : Int), 291, _) F1 N1 ?hk ?hp ?turn ?hE
  case hk => kst_all
  case hp => dsimp only; exact ⟨⟨by omega, by omega, by omega⟩, fun i h => absurd h (by omega), fun i h1 h2 => absurd h1 (by omega)⟩
  case hE => with_unfolding_all passes_own
  case turn =>
    clear F1 N1
    rintro ⟨lo, hi', t1, t2⟩ u h tk' ⟨⟨h0, h1, h2⟩, h3, h4⟩ F N
    dsimp only at h0 h1 h2 h3 h4 F N ⊢
    k_fold
    k_steps
    · rename Fr _ _ _ _ => F2
      rename News _ _ _ _ => N2
      rename (lo < hi') => hlt
      rename (_ < x) => hx
      have hm : (lo + hi').fdiv 2 = (lo + hi') / 2 := Int.fdiv_eq_ediv_of_nonneg _ (by decide)
      rw [hm] at hx
      show TEnd _ _ _ _ _ _ _ _
      refine' tend ((lo + hi').fdiv 2 + 1, hi', _, t2) F2 N2 (fun _ h => nomatch h) (fun _ h => nomatch h) (by kst_all) ?_
      rw [hm]
      refine ⟨⟨⟨by dsimp only; omega, by dsimp only; omega, h2⟩, fun i hi => ?_, h4⟩, by dsimp only; omega⟩
      dsimp only at hi
      exact Int.lt_of_le_of_lt (getD_mono hs (by omega) (by omega)) hx
    · rename Fr _ _ _ _ => F2
      rename News _ _ _ _ => N2
      rename (lo < hi') => hlt
      rename (¬ _ < x) => hx
      have hm : (lo + hi').fdiv 2 = (lo + hi') / 2 := Int.fdiv_eq_ediv_of_nonneg _ (by decide)
      rw [hm] at hx
      show TEnd _ _ _ _ _ _ _ _
      refine' tend (lo, (lo + hi').fdiv 2, t1, _) F2 N2 (fun _ h => nomatch h) (fun _ h => nomatch h) (by kst_all) ?_
      rw [hm]
      refine ⟨⟨⟨h0, by dsimp only; omega, by dsimp only; omega⟩, h3, fun i hi hi2 hc => hx ?_⟩, by dsimp only; omega⟩
      dsimp only at hi
      exact Int.lt_of_le_of_lt (getD_mono hs (by omega) (by omega)) hc
    · rename Fr _ _ _ _ => F2
      rename (¬ lo < hi') => hlt
      have e : (ns.countP (· < x) : Int) = lo := by
        have := countP_split (ns := ns) (x := x) (k := lo.toNat) (by omega) (fun i hi => h3 i (by omega)) (fun i hi hi2 => h4 i (by omega) hi2)
        rw [this]; omega
      have r := hQ _ t1 tk' F2.keep
      rw [e] at r
      exact r
end
section
theorem walk_off_d_counted : True := by
  w_top off
  trivial
def cstep (d : List Nat) (p : List Nat × Nat) : List Nat × Nat :=
  (p.1 ++ [d.getD (p.2 % d.length) 0], p.2 / d.length * d.count (d.getD (p.2 % d.length) 0) + (d.take (p.2 % d.length)).count (d.getD (p.2 % d.length) 0))

def counted (d : List Nat) (x : Nat) : List Nat × Nat := Nat.repeat (cstep d) 3 ([], x)
abbrev tupO (l : List Value) : Obj := { cls := .type "tuple", data := .seq l.toArray }

theorem counted_spec {prog : Program} {w : World} {outer : List Env} {h₀ : Heap} {gens : Array GenState} {drawn : Drawn} {toks : Nat} {os : OsState} {E : Value → Shared → Prop} {Q : Value → Shared → Prop} {d : List Nat} {t0 : Tok} {x : Nat} {t : Tok}
    (S₀ : Std w outer h₀) (hd0 : 0 < d.length) (hd1 : d.length < 1000) 
    (hQ : ∀ D h' t1 t2 tk', (∀ b o, h₀.get? b = some o → h'.get? b = some o) → h₀.get? D = none → h'.get? D = some (tupO [.str (S (counted d x).1) t1, .int ((counted d x).2 : Int) t2]) → Q (.ref D) ⟨h', gens, drawn, tk', os⟩) :
    wpAny (model prog w) (AR 4 outer) (call (.ref 264) [.str (S d) t0, .int (x : Int) t]) Q E ⟨h₀, gens, drawn, toks, os⟩ := by
  have X := S₀.k
  obtain ⟨loose, mean, mg, mb, T⟩ := S₀.t
  refine' enter (binds := [(Str.ofString "due", .str (S d) t0), (Str.ofString "number", .int (x : Int) t)]) ?hX ?hT ?ho ?hcd ?hroom ?hbind ?hloc ?_ ?c1 ?c2 ?c3 ?c4
  walk_at "my_enter"
  intro h₁ tk F N
  clear S₀
  k_fold
  k_steps
  rename IsRange _ _ _ _ _ _ _ _ => R1
  rename Fr _ _ _ _ => F1
  rename News _ _ _ _ => N1
  unfold Stop
  refine' my_iter_range (σ := List Nat × Nat × Tok × Tok) (n := 3) (fun _ => []) (fun c => [(Str.ofString "due", .str (S d) t0), (Str.ofString "word", .str (S c.1) c.2.2.1), (Str.ofString "number", .int (c.2.1 : Int) c.2.2.2)])
    (fun k c => (c.1, c.2.1) = Nat.repeat (cstep d) k ([], x) ∧ c.1.length = k) ([], x, _, _) rfl R1 (by decide) (by decide) F1 N1 (fun _ => rfl) ?hk ?hp ?turn ?done
  case hk => kst_all
  case hp => exact ⟨rfl, rfl⟩
  case turn =>
    clear F1 N1 R1
    rintro i tt ⟨wd, n, t1, t2⟩ u h tk' own hi hoff ⟨hc, hl⟩ F N
    dsimp only at hc hl F N ⊢
    k_fold
    have hr : n % d.length < d.length := Nat.mod_lt _ hd0
    have hcn : d.count (d.getD (n % d.length) 0) ≤ d.length := List.count_le_length
    k_steps
    rename Fr _ _ _ _ => F2
    rename News _ _ _ _ => N2
    show TEnd _ _ _ _ _ _ _ _
    refine' tend ((cstep d (wd, n)).1, (cstep d (wd, n)).2, _, _) F2 N2 (fun _ h => nomatch h) (fun _ h => h) (by kst_all) ?_
    refine ⟨?_, by simp [cstep, hl]⟩
    show cstep d (wd, n) = cstep d (Nat.repeat (cstep d) i ([], x))
    rw [← hc]
  case done =>
    clear F1 N1 R1
    rintro ⟨wd, n, t1, t2⟩ u h tk' ⟨hc, hl⟩ F N
    dsimp only at hc hl F N ⊢
    k_steps
    rename Fr _ _ _ _ => F2
    rename News _ _ _ _ => N2
    have e : counted d x = (wd, n) := hc.symm
    have r := hQ _ _ t1 t2 tk' F2.keep (N2 _ (.head _)).2.2 (by rw [e]; exact (N2 _ (.head _)).1)
    exact r
end
section
theorem walk_off_e_ranked : True := by
  w_top off
  trivial
def rstep (sent : List Nat) (n c : Nat) : Nat := n / sent.length * sent.count c + (sent.take (n % sent.length)).count c
def ranked (sent : List Nat) (word : List Nat) (n : Nat) : Nat := word.foldl (rstep sent) n

local macro_rules | `(tactic| walk_at "call ref") => `(tactic| (k_here; (with_reducible show wpAny _ _ (call (Value.ref 47) [Value.ref _, Value.int _ _]) _ _ _); (refine' ar_le (A' := AR 10 _) (bisect_spec (std_of (by assumption) (by assumption) rfl rfl) (stays_list (Fr.keep (by assumption)) (by assumption)) (by assumption) (by assumption) (posOf_sorted _ _) ?_) rfl (Nat.le_of_ble_eq_true rfl) rfl rfl (Nat.le_of_ble_eq_true rfl)); intro h' t' k' kp; (rename Fr _ _ _ _ => F'); (rename News _ _ _ _ => N'); (replace F' := fr_ext F' kp); (replace N' := news_ext N' kp); clear kp; try rw [posOf_countP]))

theorem ranked_spec {prog : Program} {w : World} {outer : List Env} {h₀ : Heap} {gens : Array GenState} {drawn : Drawn} {toks : Nat} {os : OsState} {E : Value → Shared → Prop} {Q : Value → Shared → Prop} {sent word : List Nat} {D : Addr} {t0 t1 t : Tok} {x : Nat}
    (S₀ : Std w outer h₀) (P : Places prog w h₀ D sent) (hd0 : 0 < sent.length) (hd1 : sent.length < 1000) (hw : ∀ c ∈ word, c ∈ alphabet)
    (hQ : ∀ h' t' tk', (∀ b o, h₀.get? b = some o → h'.get? b = some o) → Q (.int (ranked sent word x : Int) t') ⟨h', gens, drawn, tk', os⟩) :
    wpAny (model prog w) (AR 4 outer) (call (.ref 257) [.str (S sent) t0, .ref D, .str (S word) t1, .int (x : Int) t]) Q E ⟨h₀, gens, drawn, toks, os⟩ := by
  have X := S₀.k
  obtain ⟨loose, mean, mg, mb, T⟩ := S₀.t
  refine' enter (binds := [(Str.ofString "sent", .str (S sent) t0), (Str.ofString "places", .ref D), (Str.ofString "word", .str (S word) t1), (Str.ofString "number", .int (x : Int) t)]) ?hX ?hT ?ho ?hcd ?hroom ?hbind ?hloc ?_ ?c1 ?c2 ?c3 ?c4
  walk_at "my_enter"
  intro h₁ tk F N
  k_fold
  k_steps
  rename Fr _ _ _ _ => F1
  rename News _ _ _ _ => N1
  unfold Stop
  refine' my_iter_str (σ := Nat × Tok) (fun _ => []) (fun c => [(Str.ofString "sent", .str (S sent) t0), (Str.ofString "places", .ref D), (Str.ofString "number", .int (c.1 : Int) c.2)])
    (fun k c => c.1 = ranked sent (word.take k) x) (x, t) rfl F1 N1 (fun _ => rfl) ?hk ?hp ?turn ?done
  case hk => kst_all
  case hp => rfl
  case turn =>
    clear F1 N1
    rintro i ch tt ⟨n, t1⟩ u h tk' own hi hoff hc F N
    dsimp only at hc F N ⊢
    rw [S_one] at F
    k_fold
    have hch : ch ∈ alphabet := hw ch (List.mem_of_getElem? (by simpa [S] using hi))
    have hpl : (posOf sent ch).length < 1000 := by
      rw [posOf_length]
      exact Nat.lt_of_le_of_lt List.count_le_length hd1
    k_steps
    rename Fr _ _ _ _ => F2
    rename News _ _ _ _ => N2
    show TEnd _ _ _ _ _ _ _ _
    refine' tend (n / sent.length * (posOf sent ch).length + (sent.take (n % sent.length)).count ch, _) F2 N2 (fun _ h => nomatch h) (fun _ h => h) (by kst_all) ?_
    have hi' : word[i]? = some ch := by simpa [S] using hi
    dsimp only
    rw [posOf_length, hc, List.take_add_one, hi']
    unfold ranked
    rw [Option.toList_some, List.foldl_append]
    rfl
  case done =>
    clear F1 N1
    rintro ⟨n, t1⟩ u h tk' hc F N
    dsimp only at hc F N ⊢
    k_steps
    have e : ranked sent word x = n := by rw [hc]; simp [S]
    have r := hQ _ t1 tk' F.keep
    rw [e] at r
    exact r
end
section
theorem walk_off_f_back : True := by
  w_top off
  trivial
def bstep (sent : List Nat) (n c : Nat) : Nat := n / (posN sent c).length * sent.length + (posN sent c).getD (n % (posN sent c).length) 0
def back (sent : List Nat) (word : List Nat) (n : Nat) : Nat := word.reverse.foldl (bstep sent) n

local macro_rules | `(tactic| walk_at "subscriptTail Name Subscript ref str") => `(tactic| (k_here; (with_reducible show wpAny _ _ (subscriptTail _ _ (Value.ref _) (Value.str (S [_]) _)) _ _ _); (refine' place_item (by assumption) (by assumption) (by assumption) ?_); intro l' vs' hl' hi'))
local macro_rules | `(tactic| walk_at "subscriptTail Name BinOp ref int") => `(tactic| (k_here; (with_reducible show wpAny _ _ (subscriptTail _ _ (Value.ref _) (Value.int (Nat.cast _) _)) _ _ _); (refine' itemPos (by assumption) (by assumption) (by assumption) ?k1 ?k2 ?_); (case k1 => walk_at "my_bnd"); (case k2 => assumption); intro t'))

theorem back_spec {prog : Program} {w : World} {outer : List Env} {h₀ : Heap} {gens : Array GenState} {drawn : Drawn} {toks : Nat} {os : OsState} {E : Value → Shared → Prop} {Q : Value → Shared → Prop} {sent word : List Nat} {D : Addr} {t0 t1 t : Tok} {x : Nat}
    (S₀ : Std w outer h₀) (P : Places prog w h₀ D sent) (hd0 : 0 < sent.length) (hd1 : sent.length < 1000) (hw : ∀ c ∈ word, c ∈ alphabet) (hw2 : ∀ c ∈ word, c ∈ sent) (hwl : word.length < 1000)
    (hQ : ∀ h' t' tk', (∀ b o, h₀.get? b = some o → h'.get? b = some o) → Q (.int (back sent word x : Int) t') ⟨h', gens, drawn, tk', os⟩) :
    wpAny (model prog w) (AR 4 outer) (call (.ref 271) [.str (S sent) t0, .ref D, .str (S word) t1, .int (x : Int) t]) Q E ⟨h₀, gens, drawn, toks, os⟩ := by
  have X := S₀.k
  obtain ⟨loose, mean, mg, mb, T⟩ := S₀.t
  refine' enter (binds := [(Str.ofString "sent", .str (S sent) t0), (Str.ofString "places", .ref D), (Str.ofString "word", .str (S word) t1), (Str.ofString "number", .int (x : Int) t)]) ?hX ?hT ?ho ?hcd ?hroom ?hbind ?hloc ?_ ?c1 ?c2 ?c3 ?c4
  walk_at "my_enter"
  intro h₁ tk F N
  k_fold
  k_steps
  rename IsRange _ _ _ _ _ _ _ _ => R1
  rename Fr _ _ _ _ => F1
  rename News _ _ _ _ => N1
  unfold Stop
  refine' my_iter_range (σ := Nat × Tok) (n := word.length) (fun _ => []) (fun c => [(Str.ofString "sent", .str (S sent) t0), (Str.ofString "places", .ref D), (Str.ofString "word", .str (S word) t1), (Str.ofString "number", .int (c.1 : Int) c.2)])
    (fun k c => c.1 = back sent (word.drop (word.length - k)) x) (x, t) rfl R1 ?hs ?hn F1 N1 (fun _ => rfl) ?hk ?hp ?turn ?done
  case hs => exact small_one (by omega) (by omega) (by omega) (by omega)
  case hn => exact rangeSize_nat _ _
  case hk => kst_all
  case hp => simp [back]
  case turn =>
    clear F1 N1 R1
    rintro i tt ⟨n, t1⟩ u h tk' own hi hoff hc F N
    dsimp only at hc F N ⊢
    k_fold
    have hj : word.length - 1 - i < word.length := by omega
    have hch : word.getD (word.length - 1 - i) 0 ∈ word := by
      rw [List.getD_eq_getElem?_getD, List.getElem?_eq_getElem hj]; exact List.getElem_mem hj
    obtain ⟨ch, hce⟩ : ∃ ch, word.getD (word.length - 1 - i) 0 = ch := ⟨_, rfl⟩
    rw [hce] at hch
    have hca := hw _ hch
    have hpl : (posOf sent ch).length < 1000 := by
      rw [posOf_length]
      exact Nat.lt_of_le_of_lt List.count_le_length hd1
    have hpp : 0 < (posOf sent ch).length := by
      rw [posOf_length]
      exact List.count_pos_iff.mpr (hw2 _ hch)
    have hmod : n % (posOf sent ch).length < (posOf sent ch).length := Nat.mod_lt _ hpp
    k_steps
    rw [show ((word.length : Int) - 1 - (i : Int)) = ((word.length - 1 - i : Nat) : Int) by omega]
    refine' itemN hj hwl ?_
    rw [hce]
    k_steps
    rename Fr _ _ _ _ => F2
    rename News _ _ _ _ => N2
    show TEnd _ _ _ _ _ _ _ _
    refine' tend (n / (posOf sent ch).length * sent.length + (posN sent ch).getD (n % (posOf sent ch).length) 0, _) F2 N2 (fun _ h => nomatch h) (fun _ h => h) (by kst_all) ?_
    have hd : word.drop (word.length - (i + 1)) = ch :: word.drop (word.length - i) := by
      have e : word.length - (i + 1) = word.length - 1 - i := by omega
      rw [e, List.drop_eq_getElem_cons hj]
      have e2 : word.length - 1 - i + 1 = word.length - i := by omega
      rw [e2]
      congr 1
      rw [← hce, List.getD_eq_getElem?_getD, List.getElem?_eq_getElem hj]
      rfl
    dsimp only
    rw [hd, hc, show (posOf sent ch).length = (posN sent ch).length by simp [posOf]]
    unfold back
    rw [List.reverse_cons, List.foldl_append]
    rfl
  case done =>
    clear F1 N1 R1
    rintro ⟨n, t1⟩ u h tk' hc F N
    dsimp only at hc F N ⊢
    k_steps
    have e : back sent word x = n := by rw [hc]; simp
    have r := hQ _ t1 tk' F.keep
    rw [e] at r
    exact r
end
section
theorem walk_off_g_sent : True := by
  w_top off
  trivial
def sstep (p : List Nat × Bool × List Nat) (c : Nat) : List Nat × Bool × List Nat :=
  if c = 13 ∨ c = 10 then (if c = 13 ∨ p.2.2 ≠ [13] then p.1 ++ [13, 10] else p.1, true, [c])
  else ((if c = 46 ∧ p.2.1 = true then p.1 ++ [46] else p.1) ++ [c], false, [c])
def sentAll (mail : List Nat) : List Nat × Bool × List Nat := mail.foldl sstep ([], true, [])

theorem sent_spec {prog : Program} {w : World} {outer : List Env} {h₀ : Heap} {gens : Array GenState} {drawn : Drawn} {toks : Nat} {os : OsState} {E : Value → Shared → Prop} {Q : Value → Shared → Prop} {mail : List Nat} {t0 : Tok}
    (S₀ : Std w outer h₀) (hl : mail.length < 100)
    (hQ : ∀ h' t' tk', (∀ b o, h₀.get? b = some o → h'.get? b = some o) → Q (.str (S (sentAll mail).1) t') ⟨h', gens, drawn, tk', os⟩) :
    wpAny (model prog w) (AR 4 outer) (call (.ref 226) [.str (S mail) t0]) Q E ⟨h₀, gens, drawn, toks, os⟩ := by
  have X := S₀.k
  obtain ⟨loose, mean, mg, mb, T⟩ := S₀.t
  refine' enter (binds := [(Str.ofString "mail", .str (S mail) t0)]) ?hX ?hT ?ho ?hcd ?hroom ?hbind ?hloc ?_ ?c1 ?c2 ?c3 ?c4
  walk_at "my_enter"
  intro h₁ tk F N
  k_fold
  k_steps
  rename Fr _ _ _ _ => F1
  rename News _ _ _ _ => N1
  unfold Stop
  refine' my_iter_str (σ := List Nat × Bool × List Nat × Tok × Tok) (fun _ => []) (fun c => [(Str.ofString "sent", .str (S c.1) c.2.2.2.1), (Str.ofString "fresh", .bool c.2.1), (Str.ofString "before", .str (S c.2.2.1) c.2.2.2.2)])
    (fun k c => (c.1, c.2.1, c.2.2.1) = sentAll (mail.take k) ∧ c.1.length ≤ 2 * k ∧ k ≤ mail.length) ([], true, [], _, _) rfl F1 N1 (fun _ => rfl) ?hk ?hp ?turn ?done
  case hk => kst_all
  case hp => exact ⟨rfl, Nat.le_refl _, Nat.zero_le _⟩
  case turn =>
    clear F1 N1
    rintro i ch tt ⟨sent, fresh, before, t1, t2⟩ u h tk' own hi hoff ⟨hc, hl2, hl3⟩ F N
    dsimp only at hc hl2 hl3 F N ⊢
    rw [S_one] at F
    k_fold
    have hi2 : mail[i]? = some ch := by simpa [S] using hi
    have hi3 : i < mail.length := (List.getElem?_eq_some_iff.mp hi2).1
    have e : sentAll (mail.take (i + 1)) = sstep (sent, fresh, before) ch := by
      rw [hc, List.take_add_one, hi2]
      unfold sentAll
      rw [Option.toList_some, List.foldl_append]
      rfl
    k_steps
    all_goals (rename Fr _ _ _ _ => F2; rename News _ _ _ _ => N2; show TEnd _ _ _ _ _ _ _ _)
    · refine' tend (sent ++ [13, 10], true, [ch], _, _) F2 N2 (fun _ h => nomatch h) (fun _ h => h) (by kst_all) ⟨?_, by simp; omega, hi3⟩
      rw [e]; unfold sstep; simp_all
    · refine' tend (sent ++ [13, 10], true, [ch], _, _) F2 N2 (fun _ h => nomatch h) (fun _ h => h) (by kst_all) ⟨?_, by simp; omega, hi3⟩
      rw [e]; unfold sstep; simp_all
    · refine' tend (sent, true, [ch], _, _) F2 N2 (fun _ h => nomatch h) (fun _ h => h) (by kst_all) ⟨?_, by dsimp only; omega, hi3⟩
      rw [e]; unfold sstep; simp_all
    · refine' tend (sent ++ [46] ++ [ch], false, [ch], _, _) F2 N2 (fun _ h => nomatch h) (fun _ h => h) (by kst_all) ⟨?_, by simp; omega, hi3⟩
      rw [e]; unfold sstep; simp_all
    · refine' tend (sent ++ [ch], false, [ch], _, _) F2 N2 (fun _ h => nomatch h) (fun _ h => h) (by kst_all) ⟨?_, by simp; omega, hi3⟩
      rw [e]; unfold sstep; simp_all
    · refine' tend (sent ++ [ch], false, [ch], _, _) F2 N2 (fun _ h => nomatch h) (fun _ h => h) (by kst_all) ⟨?_, by simp; omega, hi3⟩
      rw [e]; unfold sstep; simp_all
  case done =>
    clear F1 N1
    rintro ⟨sent, fresh, before, t1, t2⟩ u h tk' ⟨hc, hl2, hl3⟩ F N
    dsimp only at hc F N ⊢
    k_steps
    have e : (sentAll mail).1 = sent := by
      have : mail.take (S mail).cps.size = mail := by simp [S]
      rw [this] at hc
      rw [← hc]
    have r := hQ _ t1 tk' F.keep
    rw [e] at r
    exact r
end
section
theorem walk_off_h_numbers : True := by
  w_top off
  trivial
def nstep (p : List Nat × Nat) (c : Nat) : List Nat × Nat :=
  if c ≠ 97 ∧ c ≠ 98 then (p.1 ++ [p.2 * 64 + c % 64], 0) else (p.1, p.2 * 64 + c % 64)
def numbersAll (sent : List Nat) : List Nat × Nat := sent.foldl nstep ([], 0)
def zs (l : List Nat) : List Int := l.map fun n : Nat => (n : Int)

theorem numbers_spec {prog : Program} {w : World} {outer : List Env} {h₀ : Heap} {gens : Array GenState} {drawn : Drawn} {toks : Nat} {os : OsState} {E : Value → Shared → Prop} {Q : Value → Shared → Prop} {sent : List Nat} {t0 : Tok}
    (S₀ : Std w outer h₀) (hl : sent.length < 1000)
    (hQ : ∀ D vs n h' tk', (∀ b o, h₀.get? b = some o → h'.get? b = some o) → h₀.get? D = none → h'.get? D = some (listOf (List.toArray vs) n) → IntsAre vs (zs (numbersAll sent).1) → Q (.ref D) ⟨h', gens, drawn, tk', os⟩) :
    wpAny (model prog w) (AR 4 outer) (call (.ref 233) [.str (S sent) t0]) Q E ⟨h₀, gens, drawn, toks, os⟩ := by
  have X := S₀.k
  obtain ⟨loose, mean, mg, mb, T⟩ := S₀.t
  refine' enter (binds := [(Str.ofString "sent", .str (S sent) t0)]) ?hX ?hT ?ho ?hcd ?hroom ?hbind ?hloc ?_ ?c1 ?c2 ?c3 ?c4
  walk_at "my_enter"
  intro h₁ tk F N
  k_fold
  k_steps
  rename Fr _ _ _ _ => F1
  rename News _ _ _ [(_, _)] => N1
  unfold Stop
  rename_i D hA l1 hB hC
  refine' my_iter_str (σ := List Nat × Nat × List Value × Nat × Tok) (fun c => [(D, listOf (List.toArray c.2.2.1) c.2.2.2.1)]) (fun c => [(Str.ofString "sent", .str (S sent) t0), (Str.ofString "numbers", .ref D), (Str.ofString "number", .int (c.2.1 : Int) c.2.2.2.2)])
    (fun k c => (c.1, c.2.1) = numbersAll (sent.take k) ∧ IntsAre c.2.2.1 (zs c.1) ∧ c.1.length ≤ k ∧ k ≤ sent.length) ([], 0, [], 0, _) rfl F1 N1 (fun _ => rfl) ?hk ?hp ?turn ?done
  case hk => kst_all
  case hp => exact ⟨rfl, .nil, Nat.le_refl _, Nat.zero_le _⟩
  case turn =>
    clear F1 N1
    rintro i ch tt ⟨nums, n, vs, ep, t2⟩ u h tk' own hi hoff ⟨hc, hv, hl2, hl3⟩ F N
    dsimp only at hc hv hl2 hl3 F N ⊢
    simp only [List.map, List.cons_append, List.nil_append] at hoff N
    rw [S_one] at F
    k_fold
    have hi2 : sent[i]? = some ch := by simpa [S] using hi
    have hi3 : i < sent.length := (List.getElem?_eq_some_iff.mp hi2).1
    have hvl : vs.length = nums.length := by rw [hv.length]; simp [zs]
    have e : numbersAll (sent.take (i + 1)) = nstep (nums, n) ch := by
      rw [hc, List.take_add_one, hi2]
      unfold numbersAll
      rw [Option.toList_some, List.foldl_append]
      rfl
    k_steps
    all_goals (rename Fr _ _ _ _ => F2; rename News _ _ _ _ => N2; try simp only [List.push_toArray] at N2)
    all_goals (show TEnd _ _ _ _ _ _ _ _)
    · refine' tend (nums, n * 64 + ch % 64, vs, ep, _) F2 N2 (by kst_in) (fun p h => .tail _ h) (by kst_all) ⟨?_, hv, by dsimp only; omega, hi3⟩
      rw [e]; unfold nstep; simp_all
    · refine' tend (nums, n * 64 + ch % 64, vs, ep, _) F2 N2 (by kst_in) (fun p h => .tail _ h) (by kst_all) ⟨?_, hv, by dsimp only; omega, hi3⟩
      rw [e]; unfold nstep; simp_all
    · refine' tend (nums ++ [n * 64 + ch % 64], 0, vs ++ [_], ep + 1, _) F2 N2 (by kst_in) (fun p h => .tail _ h) (by kst_all) ⟨?_, ?_, by simp; omega, hi3⟩
      · rw [e]; unfold nstep; simp_all
      · show IntsAre _ (zs (nums ++ [n * 64 + ch % 64]))
        unfold zs
        rw [List.map_append]
        exact hv.append (.cons _ _ .nil)
  case done =>
    clear F1 N1
    rintro ⟨nums, n, vs, ep, t2⟩ u h tk' ⟨hc, hv, hl2, hl3⟩ F N
    dsimp only at hc hv F N ⊢
    k_steps
    have e : (numbersAll sent).1 = nums := by
      have : sent.take (S sent).cps.size = sent := by simp [S]
      rw [this] at hc
      rw [← hc]
    have r := hQ D vs ep h tk' F.keep (N _ (.head _)).2.2 (N _ (.head _)).1 (by rw [e]; exact hv)
    exact r
end
section
theorem walk_off_i_iter : True := by
  w_top off
  trivial
abbrev iterO (l : Addr) (i : Nat) : Obj := { cls := .type "list_iterator", data := .fields #[.ref l, .int i 0] }

theorem std_hide {w : World} {outer : List Env} {h₀ h : Heap} {L : Addr} {m : Str → Option Value} {env : Env} {news : List (Addr × Obj)} (S : Std w outer h₀) (F : Fr h₀ L h m) (N : News h₀ L h news) (hf : env.frame = some L) (hk : env.scope.kind = .function) : Std w (env :: outer) (hideAll h (news.map (·.1))) := by
  obtain ⟨⟨base, hb, hfr, hK, hT⟩, k, loose, mean, mg, mb, t⟩ := S
  have nm : ∀ b o, h₀.get? b = some o → b ∉ news.map (·.1) := fun b o e q => by
    obtain ⟨p, hp, rfl⟩ := List.mem_map.mp q
    rw [(N p hp).2.2] at e; cases e
  have st : h₀.StaysIn (hideAll h (news.map (·.1))) := fun b o e => hideAll_get _ (F.keep b o e) (nm b o e)
  obtain ⟨oL, es, ep, hL, hLd, hLk, hLf⟩ := F.ns
  have nL : L ∉ news.map (·.1) := fun q => by
    obtain ⟨p, hp, e⟩ := List.mem_map.mp q
    exact (N p hp).2.1 e
  have hLg := hideAll_get (news.map (·.1)) hL nL
  have hnew : base.get? L = none := by
    cases hq : base.get? L with
    | none => rfl
    | some o => exact absurd (Nat.lt_of_lt_of_le (Heap.lt_size (hb L o hq)) F.above) (Nat.lt_irrefl _)
  exact ⟨⟨base, fun b o e => st b o (hb b o e), .cons (by rw [hk]; decide) hf ⟨oL, es, ep, hLg, hLd, hLk, hLf⟩ hnew (hfr.of_keeps fun b o e _ => ⟨o, st b o e, rfl⟩), hK, hT⟩, Frag.In.keeps k st, loose, mean, mg, mb, t.keeps st⟩

/-- entering a def, some objects of the caller's hidden from the ground (the def may turn them) -/
theorem enterH {prog : Program} {w : World} {dp un : Nat} {gd : Option (List Code)} {outer : List Env} {h₀ : Heap} {gens : Array GenState} {drawn : Drawn} {toks : Nat} {os : OsState} {f : Addr} {pos : List Value} {kw : List (Str × Value)} {E : Value → Shared → Prop} {Q : Value → Shared → Prop} {K : Frag}
    {name qual : Str} {params : Arguments} {body : List Stmt} {scope : Scope} {dV kV doc pm cdv ct oc : Value} {an od : Option Addr} {osl : Array (Option Value)} {binds : List (Str × Value)} (hid : List (Addr × Obj))
    (hhid : ∀ p ∈ hid, h₀.get? p.1 = some p.2)
    (hK : K.In (hideAll h₀ (hid.map (·.1)))) (hT : ∃ p loose mean mg mb, Top p loose mean mg mb (hideAll h₀ (hid.map (·.1))))
    (ho : K.lookup f = some ⟨oc, od, .func (fnOf name qual params body scope dV kV doc pm an cdv ct), osl⟩) (hcd : codeIn K cdv qual = true)
    (hroom : dp < recursionLimit)
    (hbind : BindsTo ⟨h₀, gens, drawn, toks, os⟩ (fnOf name qual params body scope dV kV doc pm an cdv ct) ⟨pos, kw⟩ binds) (hloc : ∀ y ∈ binds, scope.names.lookup y.1 = some .local)
    (h : ∀ h₁ tk, Fr (hideAll h₀ (hid.map (·.1))) h₀.objs.size h₁ (fun y => binds.reverse.lookup y) → News (hideAll h₀ (hid.map (·.1))) h₀.objs.size h₁ hid →
      wpAny (model prog w) { handled := none, depth := dp + 1, frames := some (envOf qual scope h₀.objs.size f cdv :: outer), guards := gd, units := un + 3 } (execs body (envOf qual scope h₀.objs.size f cdv))
        (fun fl s' => Q (match fl with | .ret v => v | _ => .none) s')
        (fun e s' => wpAny (model prog w) { handled := none, depth := dp + 1, frames := some (envOf qual scope h₀.objs.size f cdv :: outer), guards := gd, units := un + 3 } (leaving (envOf qual scope h₀.objs.size f cdv) e) (fun _ s'' => E e s'') (fun e' s'' => E e' s'') s')
        ⟨h₁, gens, drawn, tk, os⟩)
    (hcell : ∀ x ∈ scope.names, x.2 ≠ .cell) (hco : scope.isCoroutine = false) (hgen : scope.isGenerator = false) (hk : scope.kind = .function) :
    wpAny (model prog w) { handled := none, depth := dp, frames := some outer, guards := gd, units := un } (call (.ref f) pos kw) Q E ⟨h₀, gens, drawn, toks, os⟩ := by
  obtain ⟨p, loose, mean, mg, mb, T⟩ := hT
  have up : ∀ b o, (hideAll h₀ (hid.map (·.1))).get? b = some o → h₀.get? b = some o := fun b o e => of_hideAll _ e
  have hK' : K.In h₀ := fun a o e => up _ _ (hK a o e)
  have T' := T.keeps up
  refine wpAny_call ?_
  refine codeAny_call_def (fd := fnOf name qual params body scope dV kV doc pm an cdv ct) (body := body) (binds := binds) hroom (hK' _ _ ho) rfl T'.nolimit (codeRec_of hK' hcd) rfl hbind hcell hloc (fun h₁ hns hk₁ => ?_) hco hgen hk
  exact h h₁ _ ⟨hns, fun b o e => hk₁ b o (up b o e), Nat.le_of_eq (hideAll_size _ _)⟩
    (fun q hq => ⟨hk₁ _ _ (hhid q hq), Nat.ne_of_lt (Heap.lt_size (hhid q hq)), hideAll_none _ (List.mem_map_of_mem hq)⟩)

section iters
variable {prog : Program} {w : World} {A : Around} {E : Value → Shared → Prop} {s : Shared} {h₀ : Heap} {L it l : Addr} {m : Str → Option Value} {news news' : List (Addr × Obj)} {i : Nat} {vs : List Value}
theorem next_item {x : Value} {Q : Value → Shared → Prop} (F : Fr h₀ L s.heap m) (N : News h₀ L s.heap news) (U : Upd it (iterO l i) (iterO l (i + 1)) news news') (hl : h₀.IsList l vs.toArray) (hx : vs[i]? = some x)
    (h : ∀ h', Fr h₀ L h' m → News h₀ L h' news' → Q x { s with heap := h' }) :
    wpAny (model prog w) A (call (.builtin "next") [.ref it]) Q E s := by
  obtain ⟨pre, post, rfl, rfl, a, b⟩ := U.split
  have hm := N (it, iterO l i) (List.mem_append_right _ (.head _))
  have ho := hm.1
  have hls := stays_list F.keep hl
  obtain ⟨ol, hol, _, nl, hdl⟩ := hls
  have hT : s.TypeIs (.ref it) "list_iterator" := ⟨_, ho, rfl⟩
  refine call_function_entry (by decide +kernel) (by decide +kernel) kdk_entry_next (kdk_args_next _) ?_
  unfold Builtin.«next»
  refine wpAny_bind (m := someArgs "next" 1 2 _) (wpAny_of_eq (a := [Value.ref it]) (by first | rfl | kernel_rfl!) ?_)
  dsimp only
  refine wpAny_bind (wpAny_specialOf (name := Str.ofString "__next__") hT slot_listiter_next.lookup ?_)
  refine wpAny_ite_split (fun hab => absurd hab (by decide)) (fun _ => ?_)
  refine wpAny_bind (wpAny_callSpecial?_slot (name := Str.ofString "__next__") hT slot_listiter_next
    (wpAny_call_entry slot_listiter_next hT entry_listiter_next ?_ (args_listiter_next _)))
  show wpAny _ _ (field (.ref it) 0 >>= _) _ _ s
  refine wpAny_bind (wpAny_field ho rfl (x := .ref l) rfl ?_)
  show wpAny _ _ (if (Value.ref l == Value.none) = true then _ else _) _ _ s
  rw [if_neg (show ¬ ((Value.ref l == Value.none) = true) from Bool.false_ne_true)]
  show wpAny _ _ (field (.ref it) 1 >>= _) _ _ s
  refine wpAny_bind (wpAny_field ho rfl (x := .int i 0) rfl ?_)
  show wpAny _ _ (seqItems? (.ref l) >>= _) _ _ s
  refine wpAny_bind (wpAny_seqItems hol hdl ?_)
  have hx' : vs.toArray[i]? = some x := by simpa using hx
  simp only [Int.toNat_natCast, hx']
  have hs : Heap.SameBut it s.heap (s.heap.update it (Obj.mapFields (·.setIfInBounds 1 (rawInt ((i : Int) + 1))))) := Heap.SameBut.update ..
  have hg : (s.heap.update it (Obj.mapFields (·.setIfInBounds 1 (rawInt ((i : Int) + 1))))).get? it = some (iterO l (i + 1)) :=
    Heap.get?_update_self _ ho rfl
  refine wpAny_bind (wpAny_setField ho rfl (by simp) (wpAny_pure ⟨x, rfl, wpAny_pure ⟨_, rfl, h _ (F.change hs hm.2.1 hm.2.2) (news_set N a b hs hg)⟩⟩))

theorem next_end {Q : Value → Shared → Prop} (hh : A.handled = none) (ho : s.heap.get? it = some (iterO l i)) (hl : s.heap.IsList l vs.toArray) (hx : vs[i]? = none)
    (hE : ∀ h' e, (∀ b o, b ≠ it → s.heap.get? b = some o → h'.get? b = some o) → s.heap.get? e = none → (∃ o ws, h'.get? e = some o ∧ o.cls = .type "StopIteration" ∧ o.data = .fields ws ∧ ws[1]? = some .none) → E (.ref e) { s with heap := h' }) :
    wpAny (model prog w) A (call (.builtin "next") [.ref it]) Q E s := by
  obtain ⟨ol, hol, _, nl, hdl⟩ := hl
  have hT : s.TypeIs (.ref it) "list_iterator" := ⟨_, ho, rfl⟩
  refine call_function_entry (by decide +kernel) (by decide +kernel) kdk_entry_next (kdk_args_next _) ?_
  unfold Builtin.«next»
  refine wpAny_bind (m := someArgs "next" 1 2 _) (wpAny_of_eq (a := [Value.ref it]) (by first | rfl | kernel_rfl!) ?_)
  dsimp only
  refine wpAny_bind (wpAny_specialOf (name := Str.ofString "__next__") hT slot_listiter_next.lookup ?_)
  refine wpAny_ite_split (fun hab => absurd hab (by decide)) (fun _ => ?_)
  refine wpAny_bind (wpAny_callSpecial?_slot (name := Str.ofString "__next__") hT slot_listiter_next
    (wpAny_call_entry slot_listiter_next hT entry_listiter_next ?_ (args_listiter_next _)))
  show wpAny _ _ (field (.ref it) 0 >>= _) _ _ s
  refine wpAny_bind (wpAny_field ho rfl (x := .ref l) rfl ?_)
  show wpAny _ _ (if (Value.ref l == Value.none) = true then _ else _) _ _ s
  rw [if_neg (show ¬ ((Value.ref l == Value.none) = true) from Bool.false_ne_true)]
  show wpAny _ _ (field (.ref it) 1 >>= _) _ _ s
  refine wpAny_bind (wpAny_field ho rfl (x := .int i 0) rfl ?_)
  show wpAny _ _ (seqItems? (.ref l) >>= _) _ _ s
  refine wpAny_bind (wpAny_seqItems hol hdl ?_)
  have hx' : vs.toArray[i]? = none := by simpa using hx
  simp only [Int.toNat_natCast, hx']
  refine wpAny_bind (wpAny_rule (wpAny_bind (wpAny_setField ho rfl (by simp) ?_)))
  show wpAny _ _ (newExc (.type "StopIteration") [] >>= _) _ _ _
  refine wpAny_bind ?_
  simp only [newExc, newTuple]
  refine wpAny_bind (wpAny_newObj_type ?_ (by size_fits))
  refine wpAny_bind (m := firstArgMember _ _) (wpAny_of_eq (a := Value.none) (by first | rfl | (simp only [firstArgMember]; rfl)) ?_)
  refine wpAny_newObj_type ?_ (by size_fits)
  simp only [raiseNew]
  refine wpAny_bind (wpAny_handled ?_)
  first | rw [show A.in1.in1.handled = none from hh] | rw [show A.in1.handled = none from hh] | rw [hh]
  refine wpAny_bind (wpAny_pure (wpAny_throw ?_))
  refine hE _ _ (fun b o hb e => ?_) ?_ ⟨_, _, Heap.get?_push_size _ rfl, rfl, rfl, rfl⟩
  · refine Heap.get?_push_of_some _ (Heap.get?_push_of_some _ ?_)
    exact (Heap.get?_update_other _ _ (Ne.symm hb)).trans e
  · refine Heap.get?_none_of_le ?_
    simp
end iters

section bits
variable {prog : Program} {w : World} {A : Around} {E : Value → Shared → Prop} {s : Shared} {a b : Nat} {t u : Tok} {Q : Value → Shared → Prop}
theorem and63 (h : Q (.int ((a % 64 : Nat) : Int) s.toks) { s with toks := s.toks + 1 }) : wpAny (model prog w) A (binaryOp .BitAnd (.int (a : Int) t) (.int 63 u)) Q E s :=
  PyProof.Rows.and_int (by
    have e : Builtin.bitAnd (a : Int) 63 = ((a % 64 : Nat) : Int) := by
      rw [bitAnd_pp (by omega) (by decide)]
      show (((a : Int).toNat &&& 63 : Nat) : Int) = _
      rw [Int.toNat_natCast, show (63 : Nat) = 2 ^ 6 - 1 by decide, Nat.and_two_pow_sub_one_eq_mod]
    rw [e]; exact h)
theorem and64 (h : Q (.int ((a &&& 64 : Nat) : Int) s.toks) { s with toks := s.toks + 1 }) : wpAny (model prog w) A (binaryOp .BitAnd (.int (a : Int) t) (.int 64 u)) Q E s :=
  PyProof.Rows.and_int (by
    have e : Builtin.bitAnd (a : Int) 64 = ((a &&& 64 : Nat) : Int) := by
      rw [bitAnd_pp (by omega) (by decide)]
      show (((a : Int).toNat &&& 64 : Nat) : Int) = _
      rw [Int.toNat_natCast]
    rw [e]; exact h)
theorem intBits_nat (ha : a < 2 ^ 10000) : (Builtin.Int.intBits (a : Int) : Int) ≤ 10001 := by
  unfold Builtin.Int.intBits
  split
  · omega
  · rename_i h
    have h0 : a ≠ 0 := by rintro rfl; simp at h
    have : a.log2 < 10000 := (Nat.log2_lt h0).mpr ha
    simp only [Int.natAbs_natCast]
    omega
theorem shl6 (ha : a < 2 ^ 10000) (h : Q (.int ((a * 64 : Nat) : Int) s.toks) { s with toks := s.toks + 1 }) : wpAny (model prog w) A (inplaceOp .LShift (.int (a : Int) t) (.int 6 u)) Q E s :=
  PyProof.Rows.ilshift_int (by decide) (by have := intBits_nat ha; omega) (by
    have e : (a : Int) * 2 ^ (6 : Int).toNat = ((a * 64 : Nat) : Int) := by
      show (a : Int) * 2 ^ 6 = _
      omega
    rw [e]; exact h)
theorem or64 (hb : b < 64) (h : Q (.int ((a * 64 + b : Nat) : Int) s.toks) { s with toks := s.toks + 1 }) : wpAny (model prog w) A (inplaceOp .BitOr (.int ((a * 64 : Nat) : Int) t) (.int (b : Int) u)) Q E s :=
  PyProof.Rows.ior_int (by
    have e0 : (a * 64) &&& b = 0 := by
      have e1 : a * 64 = a <<< 6 := by rw [Nat.shiftLeft_eq]
      rw [e1]
      apply Nat.eq_of_testBit_eq
      intro j
      rw [Nat.testBit_and, Nat.testBit_shiftLeft, Nat.zero_testBit]
      by_cases hj : j ≥ 6
      · have : b.testBit j = false := Nat.testBit_lt_two_pow (Nat.lt_of_lt_of_le hb (by
          have : 2 ^ 6 ≤ 2 ^ j := Nat.pow_le_pow_right (by decide) hj
          simpa using this))
        rw [this, Bool.and_false]
      · simp [hj]
    have e : Builtin.bitOr ((a * 64 : Nat) : Int) (b : Int) = ((a * 64 + b : Nat) : Int) := by
      rw [bitOr_and, bitAnd_pp (by omega) (by omega)]
      show _ - (((((a * 64 : Nat) : Int)).toNat &&& ((b : Int)).toNat : Nat) : Int) = _
      rw [Int.toNat_natCast, Int.toNat_natCast, e0]
      omega
    rw [e]; exact h)
end bits
section iters2
variable {prog : Program} {w : World} {A : Around} {E : Value → Shared → Prop} {s : Shared} {h₀ : Heap} {L l : Addr} {m : Str → Option Value} {news : List (Addr × Obj)} {vs : List Value}
theorem iter_list {n : Nat} {Q : Value → Shared → Prop} (F : Fr h₀ L s.heap m) (N : News h₀ L s.heap news) (hm : (l, listOf vs.toArray n) ∈ news)
    (h : ∀ it h', Fr h₀ L h' m → News h₀ L h' ((it, iterO l 0) :: news) → (∀ p ∈ news, p.1 ≠ it) → Q (.ref it) { s with heap := h' }) :
    wpAny (model prog w) A (call (.builtin "iter") [.ref l]) Q E s := by
  refine call_function_entry (by decide +kernel) (by decide +kernel) kdk_entry_iter (kdk_args_iter _) ?_
  unfold Builtin.«iter»
  refine wpAny_bind (m := someArgs "iter" 1 2 _) (wpAny_of_eq (a := [Value.ref l]) (by first | rfl | kernel_rfl!) ?_)
  dsimp only
  refine wpAny_bind (wpAny_pyIter_list (items := vs.toArray) ⟨_, (N _ hm).1, rfl, _, rfl⟩ (wpAny_pure ⟨_, rfl, ?_⟩))
  have k := fun b o (e : s.heap.get? b = some o) => Heap.get?_push_of_some (h := s.heap) { cls := .type "list_iterator", data := .fields #[.ref l, .int 0 0] } e
  refine h _ _ (fr_ext F k) ?_ ?_
  · intro p hp
    rcases List.mem_cons.mp hp with rfl | hp
    · exact ⟨Heap.get?_push_size _ rfl, Ne.symm (Nat.ne_of_lt F.ns.lt), next_is_new F⟩
    · exact news_ext N k p hp
  · intro p hp
    exact Nat.ne_of_lt (Heap.lt_size (N p hp).1)
end iters2
section hid
variable {h₀ h h' : Heap} {L it : Addr} {m : Str → Option Value} {news news' : List (Addr × Obj)} {o o' : Obj}
theorem fr_hid (F : Fr h₀ L h m) (hL : it ≠ L) (h0 : h₀.get? it = none) (k : ∀ b o, (hideAll h [it]).get? b = some o → h'.get? b = some o) : Fr h₀ L h' m := by
  have k' : ∀ b o, b ≠ it → h.get? b = some o → h'.get? b = some o := fun b o hb e => k b o (hideAll_get [it] e (by simpa using hb))
  exact ⟨F.ns.at' fun o e => k' L o (Ne.symm hL) e, fun b o e => k' b o (fun q => by rw [q, h0] at e; cases e) (F.keep b o e), F.above⟩
theorem news_hid (N : News h₀ L h news) (U : Upd it o o' news news') (hit : h'.get? it = some o') (k : ∀ b o, (hideAll h [it]).get? b = some o → h'.get? b = some o) : News h₀ L h' news' := by
  have k' : ∀ b o, b ≠ it → h.get? b = some o → h'.get? b = some o := fun b o hb e => k b o (hideAll_get [it] e (by simpa using hb))
  obtain ⟨pre, post, rfl, rfl, a, b⟩ := U.split
  intro p hp
  rcases List.mem_append.mp hp with hp | hp
  · have z := N p (List.mem_append.mpr (.inl hp))
    exact ⟨k' _ _ (a p hp) z.1, z.2⟩
  · rcases List.mem_cons.mp hp with rfl | hp
    · exact ⟨hit, (N (it, o) (List.mem_append.mpr (.inr (.head _)))).2⟩
    · have z := N p (List.mem_append.mpr (.inr (.tail _ hp)))
      exact ⟨k' _ _ (b p hp) z.1, z.2⟩
theorem rebase {h base base' : Heap} : ∀ {l : List Env}, h.FunFrames base l → (∀ b ∈ l.filterMap (·.frame), base'.get? b = none) → h.FunFrames base' l
  | [], _, _ => trivial
  | env :: r, ⟨hk, ⟨L, o, hf, _, ho, hd⟩, hr⟩, hn => ⟨hk, ⟨L, o, hf, hn L (by rw [List.filterMap_cons, hf]; exact .head _), ho, hd⟩, rebase hr fun b hb => hn b (by rw [List.filterMap_cons, hf]; exact .tail _ hb)⟩
/-- the ground without the frames of those who wait -/
theorem std_ground {w : World} {outer : List Env} {h : Heap} (S : Std w outer h) : (fragOnce.heap_1 w.params).In (hideAll h (outer.filterMap (·.frame))) ∧ ∃ loose mean mg mb, Top vw loose mean mg mb (hideAll h (outer.filterMap (·.frame))) := by
  obtain ⟨base, hb, hfr, hK, loose, mean, mg, mb, hT⟩ := S.fr
  have st : base.StaysIn (hideAll h (outer.filterMap (·.frame))) := fun b o e => hideAll_get _ (hb b o e) fun q => by
    rw [(hfr.mem q).1] at e; cases e
  exact ⟨Frag.In.keeps hK st, loose, mean, mg, mb, hT.keeps st⟩
end hid
end
section
theorem walk_off_i2_comp : True := by
  w_top off
  trivial
section comp
open LCg
variable {prog : Program} {w : World} {A : Around} {E : Value → Shared → Prop} {s : Shared} {h₀ : Heap} {L : Addr} {m : Str → Option Value} {env : Env} {elt : PySem.Expr} {x : Str} {scope : Scope} {cl : List (Str × Addr)}

/-- an element's end: the ledger of the turn still lies there -/
def CEnd (h₀ : Heap) (L : Addr) (m : Str → Option Value) (s₁ : Shared) (led : List (Addr × Obj)) (R : Value → Prop) (y : Value) (s₂ : Shared) : Prop :=
  ∃ h' tk all, s₂ = { s₁ with heap := h', toks := tk } ∧ Fr h₀ L h' m ∧ News h₀ L h' all ∧ (∀ p ∈ led, p ∈ all) ∧ R y
theorem cend {s₁ : Shared} {led : List (Addr × Obj)} {R : Value → Prop} {y : Value} {h' : Heap} {tk : Nat} {all : List (Addr × Obj)} (F : Fr h₀ L h' m) (N : News h₀ L h' all) (sub : ∀ p ∈ led, p ∈ all) (r : R y) :
    CEnd h₀ L m s₁ led R y { s₁ with heap := h', toks := tk } := ⟨h', tk, all, rfl, F, N, sub, r⟩

theorem comp_all {S : List (Addr × Obj) → Prop} {P : Nat → Value → Prop} {Fin : List Value → List (Addr × Obj) → Prop} {n : Nat} {news : List (Addr × Obj)} (R : Nat → Value → Value → Prop) (hS : S news)
    (turn : ∀ i v ys I oI C oC D m₂ h tk (E' : Value → Shared → Prop), i < n → P i v → NsObj oC m₂ → m₂ x = some v → Fr h₀ L h m → News h₀ L h ((I, oI) :: (C, oC) :: (D, lst ys) :: news) → Off3 I C D news → ((@Ne Nat I C) ∧ (@Ne Nat I D) ∧ (@Ne Nat C D)) →
      wpAny (model prog w) A (eval elt (compEnvC scope cl C env)) (CEnd h₀ L m { s with heap := h, toks := tk } ((I, oI) :: (C, oC) :: (D, lst ys) :: news) (R i v)) E' { s with heap := h, toks := tk })
    (fin : ∀ ys, ys.length = n → (∀ i y, ys[i]? = some y → ∃ v, P i v ∧ R i v y) → Fin ys news) : CompRest prog w A h₀ L m env elt x scope cl s S P Fin n 0 [] news := by
  have key : ∀ (j i : Nat) (ys : List Value), i + j = n → ys.length = i → (∀ i y, ys[i]? = some y → ∃ v, P i v ∧ R i v y) → CompRest prog w A h₀ L m env elt x scope cl s S P Fin j i ys news := by
    intro j
    induction j with
    | zero =>
      intro i ys hi hl hy
      exact CompRest.zero (fin ys (by omega) hy)
    | succ j ih =>
      intro i ys hi hl hy
      refine CompRest.succ ?_
      intro v I oI C oC D m₂ h tk E' hv hC hx F N off ne
      refine wpAny_mono (turn i v ys I oI C oC D m₂ h tk E' (by omega) hv hC hx F N off ne) (fun y s₂ hq => ?_) fun _ _ e => e
      obtain ⟨h', tk', all, e, F', N', sub, r⟩ := hq
      refine ⟨h', tk', news, e, F', fun p hp => N' p (sub p hp), off, hS, ?_⟩
      refine ih (i + 1) _ (by omega) (by simp [hl]) ?_
      intro k z hz
      rcases Nat.lt_or_ge k ys.length with hk | hk
      · rw [List.getElem?_append_left hk] at hz
        exact hy k z hz
      · rw [List.getElem?_append_right hk] at hz
        have hk0 : k - ys.length = 0 := by
          rcases Nat.eq_zero_or_pos (k - ys.length) with h0 | h0
          · exact h0
          · rw [List.getElem?_eq_none (by simp only [List.length_cons, List.length_nil]; omega)] at hz; cases hz
        rw [hk0] at hz
        simp at hz
        subst hz
        have : k = i := by omega
        rw [this]
        exact ⟨v, hv, r⟩
  exact key n 0 [] (by omega) rfl (by intro i y h; simp at h)

def SrcS (prog : Program) (w : World) (A : Around) (h₀ : Heap) (L : Addr) (m : Str → Option Value) (env : Env) (elt : PySem.Expr) (x : Str) (scope : Scope) (cl : List (Str × Addr)) (Fin : Shared → List Value → List (Addr × Obj) → Prop) (xv : Value) (s₁ : Shared) : Prop :=
  ∃ l t news, xv = .str (S l) t ∧ A.handled = none ∧ Fr h₀ L s₁.heap m ∧ News h₀ L s₁.heap news ∧ l.length ≤ sizeLine ∧
    ∀ s₂ : Shared, (∃ h, s₂ = { s₁ with heap := h }) → CompRest prog w A h₀ L m env elt x scope cl s₂ (fun _ => True) (SignAt (S l)) (Fin s₂) l.length 0 [] news

theorem strit_st {ty : String} {xt : Str} {t : Tok} {I : Addr} : ∀ i (h h' : Heap) (o : Obj) (nw : List (Addr × Obj)), h.IsStrIter I ty xt t i → h.get? I = some o → h'.get? I = some o → (∀ b o, h₀.get? b = some o → h'.get? b = some o) → News h₀ L h' nw → True → h'.IsStrIter I ty xt t i :=
  fun i h h' o nw st e e' _ _ _ => by
    obtain ⟨o', q, r⟩ := st
    rw [e] at q; cases q
    exact ⟨o, e', r⟩

theorem ListComp_S {iter : PySem.Expr} {px : Pos} {pos : Pos} {Q : Value → Shared → Prop} (F₀ : Fr h₀ L s.heap m)
    (hclos : closureFor scope env = pure cl) (hcell : ∀ y ∈ scope.names, y.2 ≠ .cell) (hkind : scope.kind = .function)
    (hnames : ∀ y ∈ scope.names, y.2 = .local → scope.names.lookup y.1 = some .local) (hx : scope.names.lookup x = some .local)
    (h : wpAny (model prog w) A (eval iter env) (SrcS prog w A h₀ L m env elt x scope cl (fun s₂ => FinE h₀ L m s₂ Q)) E s)
    (hs : ∀ x, foldedSetIterable iter env x = pure x := by intro _; rfl) :
    wpAny (model prog w) A (eval (.ListComp elt [⟨.Name x px, iter, [], 0⟩] scope pos) env) Q E s := by
  rw [eval_ListComp]
  refine wpAny_comprehension_free (use := none) rfl hs hclos hkind hnames (wpAny_mono h (fun xv s₁ h₁ => ?_) fun _ _ e => e)
  rcases h₁ with ⟨l, t, news, rfl, hh, F, N, hsz, R⟩
  have fin : ∀ g, ∀ D C h tk m' ys news', Fr h₀ L h m → News h₀ L h ((D, lst ys) :: news') → Off1 D news' → h.Ns C m' → h₀.get? C = none → h₀.get? D = none → C ≠ L → D ≠ L → C ≠ D → (∀ p ∈ news', p.1 ≠ C) → FinE h₀ L m { s₁ with heap := g } Q ys news' →
      ∃ m', h.Ns C m' ∧ ∀ h'', Heap.SameBut C h h'' → Q (.ref D) { s₁ with heap := h'', toks := tk } := by
    intro g D C h tk m' ys news' F' N' o1 hn hC₀ hD₀ hCL hDL hCD offC fin
    refine ⟨m', hn, fun h'' hs'' => fin D h'' tk (F'.change hs'' hCL hC₀) (fun p hp => ?_) o1⟩
    refine ⟨hs''.extBut _ _ ?_ (N' p hp).1, (N' p hp).2⟩
    rcases List.mem_cons.mp hp with rfl | hp
    · exact Ne.symm hCD
    · exact offC p hp
  have lt : ∀ o b, b ∈ [s₁.heap.objs.size] → b < (s₁.heap.push o).objs.size := fun o b hb => by
    rw [List.mem_singleton.mp hb, Heap.size_push]; exact Nat.lt_succ_self _
  cases ha : (S l).cps.all (· < 128)
  · refine wpAny_pyIter_wide ha ?_
    exact block_U (Walks.strWide hh s₁.heap.objs.size (S l) t) hsz (fun i h st => by obtain ⟨o, e, _⟩ := st; exact ⟨o, e⟩) strit_st hcell hkind hx ⟨_, Heap.get?_push_size _ rfl, rfl, rfl⟩ (lt _)
      (F.push _) (N.grown fun _ _ e => Heap.get?_push_of_some _ e) (Nat.ne_of_lt F.ns.lt) (next_is_new F) (fun p hp => Nat.ne_of_lt (Heap.lt_size (N p hp).1)) trivial (R _ ⟨_, rfl⟩) (fin _)
  · refine wpAny_pyIter_ascii ha ?_
    exact block_U (Walks.strAscii hh s₁.heap.objs.size (S l) t) hsz (fun i h st => by obtain ⟨o, e, _⟩ := st; exact ⟨o, e⟩) strit_st hcell hkind hx ⟨_, Heap.get?_push_size _ rfl, rfl, rfl⟩ (lt _)
      (F.push _) (N.grown fun _ _ e => Heap.get?_push_of_some _ e) (Nat.ne_of_lt F.ns.lt) (next_is_new F) (fun p hp => Nat.ne_of_lt (Heap.lt_size (N p hp).1)) trivial (R _ ⟨_, rfl⟩) (fin _)
end comp
theorem ints_at : ∀ {vs : List Value} {ns : List Int}, vs.length = ns.length → (∀ (i : Nat) (y : Value), vs[i]? = some y → ∃ n t, ns[i]? = some n ∧ y = Value.int n t) → IntsAre vs ns
  | [], [], _, _ => .nil
  | [], _ :: _, h, _ => nomatch h
  | _ :: _, [], h, _ => nomatch h
  | v :: vs, n :: ns, h, hp => by
    obtain ⟨n', t, e, rfl⟩ := hp 0 v rfl
    obtain rfl : n = n' := Option.some.inj e
    exact .cons n t (ints_at (Nat.succ.inj h) fun i y hy => hp (i + 1) y hy)
end
section
theorem walk_off_i3_compif : True := by
  w_top off
  trivial
inductive All2 (R : Nat → Value → Prop) : List Nat → List Value → Prop
  | nil : All2 R [] []
  | cons {i : Nat} {y : Value} {is : List Nat} {ys : List Value} : R i y → All2 R is ys → All2 R (i :: is) (y :: ys)
theorem All2.snoc {R : Nat → Value → Prop} : ∀ {is : List Nat} {ys : List Value} {i : Nat} {y : Value}, All2 R is ys → R i y → All2 R (is ++ [i]) (ys ++ [y])
  | _, _, _, _, .nil, r => .cons r .nil
  | _, _, _, _, .cons a h, r => .cons a (h.snoc r)
section compif
open LCg LCt
variable {prog : Program} {w : World} {A : Around} {E : Value → Shared → Prop} {s : Shared} {h₀ : Heap} {L : Addr} {m : Str → Option Value} {env : Env} {ct elt : PySem.Expr} {x : Str} {scope : Scope} {cl : List (Str × Addr)}
theorem comp_if {S : List (Addr × Obj) → Prop} {P : Nat → Value → Prop} {Fin : List Value → List (Addr × Obj) → Prop} {n : Nat} {news : List (Addr × Obj)} (sel : Nat → Bool) (R : Nat → Value → Prop) (hS : S news)
    (turn : ∀ i v ys I oI C oC D m₂ h tk (E' : Value → Shared → Prop), i < n → P i v → NsObj oC m₂ → m₂ x = some v → Fr h₀ L h m → News h₀ L h ((I, oI) :: (C, oC) :: (D, lst ys) :: news) → Off3 I C D news → ((@Ne Nat I C) ∧ (@Ne Nat I D) ∧ (@Ne Nat C D)) →
      wpAny (model prog w) A (isTrue ct (compEnvC scope cl C env) (eval ct (compEnvC scope cl C env))) (fun ok s' => if ok = true then
        wpAny (model prog w) A (eval elt (compEnvC scope cl C env)) (CEnd h₀ L m { s with heap := h, toks := tk } ((I, oI) :: (C, oC) :: (D, lst ys) :: news) (fun y => sel i = true ∧ R i y)) E' s'
        else CEnd h₀ L m { s with heap := h, toks := tk } ((I, oI) :: (C, oC) :: (D, lst ys) :: news) (fun _ => sel i = false) Value.none s') E' { s with heap := h, toks := tk })
    (fin : ∀ ys, All2 R ((List.range n).filter sel) ys → Fin ys news) : CompRestT prog w A h₀ L m env ct elt x scope cl s S P Fin n 0 [] news := by
  have key : ∀ (j i : Nat) (ys : List Value), i + j = n → All2 R ((List.range i).filter sel) ys → CompRestT prog w A h₀ L m env ct elt x scope cl s S P Fin j i ys news := by
    intro j
    induction j with
    | zero =>
      intro i ys hi hy
      rw [show i = n by omega] at hy
      exact CompRestT.zero (fin ys hy)
    | succ j ih =>
      intro i ys hi hy
      refine CompRestT.succ ?_
      intro v I oI C oC D m₂ h tk E' hv hC hx F N off ne
      refine wpAny_mono (turn i v ys I oI C oC D m₂ h tk E' (by omega) hv hC hx F N off ne) (fun ok s₂ hq => ?_) fun _ _ e => e
      cases ok with
      | true =>
        rw [if_pos rfl] at hq ⊢
        refine wpAny_mono hq (fun y s₃ hr => ?_) fun _ _ e => e
        obtain ⟨h', tk', all, e, F', N', sub, r1, r2⟩ := hr
        refine ⟨h', tk', news, e, F', fun p hp => N' p (sub p hp), off, hS, ?_⟩
        refine ih (i + 1) _ (by omega) ?_
        rw [List.range_succ, List.filter_append, List.filter_cons_of_pos r1, List.filter_nil]
        exact hy.snoc r2
      | false =>
        rw [if_neg (by decide)] at hq ⊢
        obtain ⟨h', tk', all, e, F', N', sub, r1⟩ := hq
        refine ⟨h', tk', news, e, F', fun p hp => N' p (sub p hp), off, hS, ?_⟩
        refine ih (i + 1) _ (by omega) ?_
        rw [List.range_succ, List.filter_append, List.filter_cons_of_neg (by rw [r1]; decide), List.filter_nil, List.append_nil]
        exact hy
  exact key n 0 [] (by omega) .nil
end compif
end
section
theorem walk_off_j_parse : True := by
  w_top off
  trivial
local macro_rules | `(tactic| walk_at "call builtin:next") => `(tactic| (k_here; (with_reducible show wpAny _ _ (call (Value.builtin "next") [Value.ref _]) _ _ _); (refine' next_item (by assumption) (by assumption) ?U (by assumption) (by assumption) ?_); (case U => k_upd); intro h' F' N'; (try k_sweep)))
local macro_rules | `(tactic| walk_at "binaryOp BitAnd int int") => `(tactic| (with_reducible (first | refine and63 ?_ | refine and64 ?_)))
local macro_rules | `(tactic| walk_at "inplaceOp LShift int int") => `(tactic| ((try dsimp only); (with_reducible refine' shl6 ?k1 ?_); (case k1 => assumption)))
local macro_rules | `(tactic| walk_at "inplaceOp BitOr int int") => `(tactic| ((try dsimp only); (with_reducible refine' or64 ?k1 ?_); (case k1 => assumption)))

theorem parse_ret {prog : Program} {w : World} {outer : List Env} {h₀ : Heap} {gens : Array GenState} {drawn : Drawn} {toks : Nat} {os : OsState} {E : Value → Shared → Prop} {Q : Value → Shared → Prop} {sent nums : List Nat} {it l : Addr} {i : Nat} {vs : List Value}
    (S₀ : Std w outer (hideAll h₀ [it])) (hit : h₀.get? it = some (iterO l i)) (hl : (hideAll h₀ [it]).IsList l vs.toArray) (hi : IntsAre vs (zs sent)) (hal : ∀ c ∈ sent, c ∈ alphabet) (hlast : sent.getD (sent.length - 1) 0 = 46) (hlen : sent.length < 1000)
    (hlt : i < sent.length) (hc : numbersAll (sent.take i) = (nums, 0))
    (hQ : ∀ h' (v j : Nat) t' tk', (∀ b o, (hideAll h₀ [it]).get? b = some o → h'.get? b = some o) → h'.get? it = some (iterO l j) → i < j → j ≤ sent.length → numbersAll (sent.take j) = (nums ++ [v], 0) → Q (.int (v : Int) t') ⟨h', gens, drawn, tk', os⟩) :
    wpAny (model prog w) (AR 10 outer) (call (.ref 54) [.ref it]) Q E ⟨h₀, gens, drawn, toks, os⟩ := by
  have X := S₀.k
  obtain ⟨loose, mean, mg, mb, T⟩ := S₀.t
  refine' enterH (binds := [(Str.ofString "iterator", .ref it)]) [(it, iterO l i)] ?hhid ?hX ?hT ?ho ?hcd ?hroom ?hbind ?hloc ?_ ?c1 ?c2 ?c3 ?c4
  case hhid => intro p hp; rw [List.mem_singleton.mp hp]; exact hit
  walk_at "my_enter"
  intro h₁ tk F N
  dsimp only [List.map] at F N
  k_fold
  have get : ∀ k, k < sent.length → ∃ t, vs[k]? = some (.int (sent.getD k 0 : Nat) t) := fun k hk => by
    refine hi.get k _ ?_
    unfold zs
    rw [List.getElem?_map, List.getElem?_eq_getElem hk, List.getD_eq_getElem?_getD, List.getElem?_eq_getElem hk]
    rfl
  obtain ⟨t0, hx⟩ := get i hlt
  have hb : sent.getD i 0 % 64 < 64 := Nat.mod_lt _ (by decide)
  have nxt : ∀ j n ns, j < sent.length → numbersAll (sent.take j) = (ns, n) → numbersAll (sent.take (j + 1)) = nstep (ns, n) (sent.getD j 0) := fun j n ns hj hc => by
    rw [← hc, List.take_add_one, List.getElem?_eq_getElem hj, List.getD_eq_getElem?_getD, List.getElem?_eq_getElem hj]
    unfold numbersAll
    rw [Option.toList_some, List.foldl_append]
    rfl
  k_steps
  rename Fr _ _ _ _ => F1
  rename News _ _ _ _ => N1
  unfold Stop
  refine' my_while (σ := Nat × Nat × Tok × Tok) (fun c => [(it, iterO l (c.1 + 1))]) (fun c => [(Str.ofString "iterator", .ref it), (Str.ofString "b", .int (sent.getD c.1 0 : Nat) c.2.2.1), (Str.ofString "val", .int (c.2.1 : Nat) c.2.2.2)])
    (fun c => i ≤ c.1 ∧ c.1 < sent.length ∧ c.2.1 < 64 ^ (c.1 + 1) ∧ numbersAll (sent.take (c.1 + 1)) = (if sent.getD c.1 0 ≠ 97 ∧ sent.getD c.1 0 ≠ 98 then (nums ++ [c.2.1], 0) else (nums, c.2.1))) (fun c => sent.length - c.1) (i, sent.getD i 0 % 64, _, _) F1 N1 ?hk ?hp ?turn ?hE
  case hk => kst_all
  case hE => with_unfolding_all passes_own
  case hp =>
    refine ⟨Nat.le_refl _, hlt, Nat.lt_of_lt_of_le hb (by rw [Nat.pow_succ]; exact Nat.le_mul_of_pos_left _ (Nat.pow_pos (by decide))), ?_⟩
    dsimp only
    rw [nxt i 0 nums hlt hc]
    unfold nstep
    simp
  case turn =>
    clear F1 N1
    rintro ⟨j, v, t1, t2⟩ u h tk' ⟨h1, h2, h3, h4⟩ F N
    dsimp only at h1 h2 h3 h4 F N ⊢
    k_fold
    have hal' : sent.getD j 0 ∈ alphabet := hal _ (by rw [List.getD_eq_getElem?_getD, List.getElem?_eq_getElem h2]; exact List.getElem_mem h2)
    have hv : v < 2 ^ 10000 := Nat.lt_of_lt_of_le h3 (by
      rw [show (64 : Nat) = 2 ^ 6 by decide, ← Nat.pow_mul]
      exact Nat.pow_le_pow_right (by decide) (by omega))
    by_cases hb : sent.getD j 0 = 97 ∨ sent.getD j 0 = 98
    · have hj : j + 1 < sent.length := by
        rcases Nat.lt_or_ge (j + 1) sent.length with h | h
        · exact h
        · have e : j = sent.length - 1 := by omega
          rw [← e] at hlast
          omega
      obtain ⟨t3, hx'⟩ := get (j + 1) hj
      have hb' : sent.getD (j + 1) 0 % 64 < 64 := Nat.mod_lt _ (by decide)
      have hand : (sent.getD j 0 &&& 64) = 64 := by rcases hb with e | e <;> rw [e] <;> rfl
      k_steps
      · rename Fr _ _ _ _ => F2
        rename News _ _ _ _ => N2
        show TEnd _ _ _ _ _ _ _ _
        refine' tend (j + 1, v * 64 + sent.getD (j + 1) 0 % 64, _, _) F2 N2 (by kst_in) (fun _ h => nomatch h) (by kst_all) ⟨⟨by dsimp only; omega, hj, ?_, ?_⟩, by dsimp only; omega⟩
        · dsimp only
          have : 64 ^ (j + 1 + 1) = 64 ^ (j + 1) * 64 := Nat.pow_succ ..
          omega
        · dsimp only
          have hn := nxt (j + 1) v nums hj (by rw [h4, if_neg (by omega)])
          rw [hn]
          unfold nstep
          rfl
      · exfalso
        rename (_ = (0 : Int)) => hz
        rw [hand] at hz
        exact absurd hz (by decide)
    · have hand : (sent.getD j 0 &&& 64) = 0 := by
        simp only [alphabet, List.mem_cons, List.not_mem_nil, or_false] at hal'
        rcases hal' with e | e | e | e | e <;> first | (rw [e]; rfl) | exact absurd (by omega) hb
      k_steps
      · exfalso
        rename (_ ≠ (0 : Int)) => hz
        rw [hand] at hz
        exact hz rfl
      · rw [if_pos (by omega)] at h4
        exact hQ h v (j + 1) t2 _ F.keep (N _ (.head _)).1 (by omega) (by omega) h4
end
section
theorem walk_off_k_stop : True := by
  w_top off
  trivial
theorem parse_stop {prog : Program} {w : World} {outer : List Env} {h₀ base : Heap} {gens : Array GenState} {drawn : Drawn} {toks : Nat} {os : OsState} {E : Value → Shared → Prop} {Q : Value → Shared → Prop} {it l : Addr} {i : Nat} {vs : List Value}
    (S₀ : Std w outer (hideAll h₀ [it])) (hit : h₀.get? it = some (iterO l i)) (hl : (hideAll h₀ [it]).IsList l vs.toArray) (hx : vs[i]? = none)
    (hb : base.StaysIn (hideAll h₀ [it])) (hfr : (hideAll h₀ [it]).FunFrames base outer)
    (hE : ∀ e h' tk', base.StaysIn h' → h'.FunFrames base outer → h'.Traced base e (.type "StopIteration") → base.get? e = none → (hideAll h₀ [it]).UpToSlots h' → E (.ref e) ⟨h', gens, drawn, tk', os⟩) :
    wpAny (model prog w) (AR 10 outer) (call (.ref 54) [.ref it]) Q E ⟨h₀, gens, drawn, toks, os⟩ := by
  have X := S₀.k
  obtain ⟨loose, mean, mg, mb, T⟩ := S₀.t
  refine' enterH (binds := [(Str.ofString "iterator", .ref it)]) [(it, iterO l i)] ?hhid ?hX ?hT ?ho ?hcd ?hroom ?hbind ?hloc ?_ ?c1 ?c2 ?c3 ?c4
  case hhid => intro p hp; rw [List.mem_singleton.mp hp]; exact hit
  walk_at "my_enter"
  intro h₁ tk F N
  dsimp only [List.map] at F N
  k_fold
  k_steps
  with_reducible show wpAny _ _ (call (Value.builtin "next") [Value.ref _]) _ _ _
  have ho := (N _ (.head _)).1
  refine next_end rfl ho (stays_list F.keep hl) hx fun h2 e k1 k2 ⟨oe, ws, k3, k4, k5, k6⟩ => ?_
  have hLit : h₀.objs.size ≠ it := fun q => (N _ (.head _)).2.1 q.symm
  have keepg : ∀ b o, (hideAll h₀ [it]).get? b = some o → h2.get? b = some o := fun b o q => by
    refine k1 b o (fun q' => ?_) (F.keep b o q)
    have := hideAll_none (h := h₀) [it] (List.mem_singleton.mpr q')
    rw [q] at this; cases this
  have hLn : h2.Ns h₀.objs.size (fun y => List.lookup y [(Str.ofString "iterator", Value.ref it)].reverse) := by
    obtain ⟨o, es, ep, q, r⟩ := F.ns
    exact ⟨o, es, ep, k1 _ _ hLit q, r⟩
  have hbL : base.get? h₀.objs.size = none := by
    cases hq : base.get? h₀.objs.size with
    | none => rfl
    | some o => exact absurd (Nat.lt_of_lt_of_le (Heap.lt_size (hb _ o hq)) F.above) (Nat.lt_irrefl _)
  have hbe : base.get? e = none := by
    cases hq : base.get? e with
    | none => rfl
    | some o => have := F.keep _ _ (hb _ o hq); rw [k2] at this; cases this
  show wpAny _ _ (leaving _ (.ref e)) _ _ _
  refine wpAny_leaving_first (base := base) rfl (.cons (by intro q; cases q) rfl hLn hbL (hfr.of_keeps fun b o q _ => ⟨o, keepg b o q, rfl⟩)) rfl k3 (fun b o q => keepg b o (hb b o q)) hbe k5 k6 fun h3 hLf => ?_
  obtain ⟨x1, ⟨_, _, x2⟩, x3, x4⟩ := hLf
  rw [k4] at x3
  exact hE e h3 _ x1 x2 x3 hbe fun b o q hn => x4 b o (keepg b o q) hn
end
section
theorem walk_off_l_read : True := by
  w_top off
  trivial
local macro_rules | `(tactic| walk_at "exec Try") => `(tactic| (k_here; refine stop_of ?_))
local macro_rules | `(tactic| walk_at "exec Try") => `(tactic| (k_here; refine stop_of ?_))
local macro_rules | `(tactic| walk_at "eval ListComp") => `(tactic| (refine stop_of ?_))
local macro_rules | `(tactic| walk_at "SrcS") => `(tactic| (refine stop_of ?_))
local macro_rules | `(tactic| walk_at "CEnd") => `(tactic| (refine stop_of ?_))
local macro_rules | `(tactic| walk_at "call ref") => `(tactic| (refine stop_of ?_))
local macro_rules | `(tactic| walk_at "call builtin:iter") => `(tactic| (refine stop_of ?_))
theorem my_reb {w : World} {env : Env} {outer : List Env} {h base' : Heap} (S : Std w (env :: outer) h) (hn : ∀ b ∈ (env :: outer).filterMap (·.frame), base'.get? b = none) : h.FunFrames base' (env :: outer) := by
  obtain ⟨base, _, hfr, _⟩ := S.fr
  exact rebase hfr hn
theorem caught {prog : Program} {w : World} {dp un : Nat} {gd : Option (List Code)} {outer : List Env} {s : Shared} {base base' : Heap} {L a e : Addr} {m : Str → Option Value} {name : Str} {scope : Scope} {cd : Value} {X : String} {x : Str} {np pos : Pos} {b₀ : Stmt} {suite : List Stmt} {rest : List ExceptHandler} {Q : Flow → Shared → Prop} {E : Value → Shared → Prop}
    (F : Fr base' L s.heap m) (hbb : base'.StaysIn base) (hkb : base.StaysIn s.heap) (hl : s.heap.FunFrames base (envOf name scope L a cd :: outer)) (ht : s.heap.Traced base e (.type X)) (hen : base.get? e = none)
    (hcls : ∀ (h' : Heap) (Q' E' : Value → Shared → Prop), Fr base' L h' m → Q' (.type X) { s with heap := h' } → wpAny (model prog w) { handled := some (.ref e), depth := dp, frames := some (envOf name scope L a cd :: outer), guards := gd, units := un } (eval (.Name x np) (envOf name scope L a cd)) Q' E' { s with heap := h' })
    (k : ∀ h', Fr base' L h' m → base.StaysIn h' → s.heap.UpToSlots h' → wpAny (model prog w) { handled := some (.ref e), depth := dp, frames := some (envOf name scope L a cd :: outer), guards := gd, units := un } (execs (b₀ :: suite) (envOf name scope L a cd)) Q E { s with heap := h' })
    (h3 : subB X (.type X) = some true) (h1 : subB X (.type "BaseException") = some true)
    (h2 : subB ((Manifest.find? X).elim "type" fun y => y.metatype) (.type "tuple") = some false)
    (hE : PassesOwnAt (model prog w) { handled := some (.ref e), depth := dp, frames := some (envOf name scope L a cd :: outer), guards := gd, units := un } { handled := none, depth := dp, frames := some (envOf name scope L a cd :: outer), guards := gd, units := un } (envOf name scope L a cd) E) :
    wpAny (model prog w) { handled := none, depth := dp, frames := some (envOf name scope L a cd :: outer), guards := gd, units := un } (noteFrame (.ref e) (envOf name scope L a cd)) (fun _ s₂ => wpAny (model prog w) { handled := none, depth := dp, frames := some (envOf name scope L a cd :: outer), guards := gd, units := un } (setFlight (.ref e) none) (fun _ s₃ =>
      wpAny (model prog w) { handled := none, depth := dp, frames := some (envOf name scope L a cd :: outer), guards := gd, units := un } (handleBy (.ref e) (envOf name scope L a cd) (.ExceptHandler (some (.Name x np)) none (b₀ :: suite) pos :: rest)) Q E s₃) E s₂) E s := by
  obtain ⟨oe, vs, T', oT, ts, he, hcl, hd, q1, hnT, hTe, hT, hdT, q3⟩ := ht
  have hsz : 0 < vs.size := Nat.lt_of_le_of_lt (Nat.zero_le _) (Array.getElem?_eq_some_iff.mp q1).1
  have ht : s.heap.TracedW base e (.type X) vs[0] := ⟨oe, vs, T', oT, ts, he, ⟨hcl, Array.getElem?_eq_getElem hsz⟩, hd, q1, hnT, hTe, hT, hdT, q3⟩
  refine wpAny_noteFrame_onW rfl hl rfl ht hkb hen fun h6 hN => ?_
  obtain ⟨n1, n2, n3, n4⟩ := hN
  refine wpAny_setFlight_noneW n1 n2 n3 fun h7 m1 m2 m3 m4 => ?_
  have u7 : s.heap.UpToSlots h7 := fun b o q hq => by
    obtain ⟨sl, r⟩ := n4 b o q hq
    exact ⟨sl, m4 _ _ r hq⟩
  have F7 : Fr base' L h7 m := ⟨u7.ns F.ns, fun b o q => m1 b o (hbb b o q), F.above⟩
  obtain ⟨ob, hob, hoc⟩ := m3.at.there
  refine wpAny_handleBy_builtin (X := X) (T := X) (b := true) (isSubtype_of_subB h1) (isSubtype_of_subB h2) (isSubtype_of_subB h3) (wpAny_passesOwnAt hE (hcls h7 _ _ F7 ⟨rfl, ⟨ob, hob, hoc⟩, ?_⟩))
  rw [if_pos rfl]
  refine wpAny_setFlight_noneW m1 m2 m3.at fun h8 o1 o2 o3 o4 => wpAny_passesOwnAt hE ?_
  have u8 : s.heap.UpToSlots h8 := fun b o q hq => by
    obtain ⟨sl, r⟩ := u7 b o q hq
    exact ⟨sl, o4 _ _ r hq⟩
  exact k h8 ⟨u8.ns F.ns, fun b o q => o1 b o (hbb b o q), F.above⟩ o1 u8
theorem read_spec {prog : Program} {w : World} {outer : List Env} {h₀ : Heap} {gens : Array GenState} {drawn : Drawn} {toks : Nat} {os : OsState} {E : Value → Shared → Prop} {Q : Value → Shared → Prop} {sent : List Nat} {t0 : Tok}
    (S₀ : Std w outer h₀) (hl : sent.length < 1000) (hal : ∀ c ∈ sent, c ∈ alphabet) (hlast : sent.getD (sent.length - 1) 0 = 46)
    (hQ : ∀ h' D vs n tk', (∀ b o, h₀.get? b = some o → b ∉ outer.filterMap (·.frame) → h'.get? b = some o) → h₀.UpToSlots h' → h₀.get? D = none → h'.get? D = some (listOf (List.toArray vs) n) → IntsAre vs (zs (numbersAll sent).1) → Q (.ref D) ⟨h', gens, drawn, tk', os⟩) :
    wpAny (model prog w) (AR 4 outer) (call (.ref 238) [.str (S sent) t0]) Q E ⟨h₀, gens, drawn, toks, os⟩ := by
  have X := S₀.k
  obtain ⟨loose, mean, mg, mb, T⟩ := S₀.t
  refine' enter (binds := [(Str.ofString "sent", .str (S sent) t0)]) ?hX ?hT ?ho ?hcd ?hroom ?hbind ?hloc ?_ ?c1 ?c2 ?c3 ?c4
  walk_at "my_enter"
  intro h₁ tk F N
  k_fold
  k_steps
  unfold Stop
  refine ListComp_S (by assumption) (by with_unfolding_all rfl) (by decide) (by rfl) (by decide) (by rfl) ?_
  k_steps
  unfold Stop
  rename Fr _ _ _ _ => F1
  rename News _ _ _ _ => N1
  refine ⟨sent, _, _, rfl, rfl, F1, N1, by rw [sizeLine_eq]; omega, ?_⟩
  rintro s₂ ⟨g, rfl⟩
  refine' comp_all (fun i v y => ∃ c t, sent[i]? = some c ∧ y = .int (c : Nat) t) trivial ?turn ?fin
  case turn =>
    rintro i v ys I oI C oC D m₂ h tk E' hi ⟨c, u, hc, rfl⟩ hC hx F N off ne
    k_steps
    rename Fr _ _ _ _ => F2
    rename News _ _ _ _ => N2
    exact cend F2 N2 (fun _ hp => hp) ⟨c, _, by simpa [S] using hc, rfl⟩
  case fin =>
    intro cs hcl hcs
    have hci : IntsAre cs (zs sent) := by
      refine ints_at ?_ ?_
      · rw [hcl, zs, List.length_map]
      · intro i y hy
        obtain ⟨_, _, c, t, hc, rfl⟩ := hcs i y hy
        exact ⟨_, t, by rw [zs, List.getElem?_map, hc]; rfl, rfl⟩
    intro D h tk F2 N2 off1
    clear F1 N1
    k_steps
    rename Fr _ _ _ _ => F1
    rename News _ _ _ _ => N1
    refine iter_list F1 N1 (.head _) fun it h' F N hne => ?_
    have hne := hne _ (.head _)
    clear F1 N1
    k_steps
    rename Fr _ _ _ _ => F1
    rename News _ _ _ _ => N1
    rename_i l' _ hlt _
    unfold Stop
    refine wpAny_Try_except ?_
    k_steps
    unfold Stop
    refine' my_while (σ := Nat × List Nat × List Value × Nat) (fun c => [(l', listOf (List.toArray c.2.2.1) c.2.2.2), (it, iterO D c.1), (D, LCg.lst cs)]) (fun c => [(Str.ofString "sent", .str (S sent) t0), (Str.ofString "codes", .ref it), (Str.ofString "numbers", .ref l')])
      (fun c => c.1 ≤ sent.length ∧ numbersAll (sent.take c.1) = (c.2.1, 0) ∧ IntsAre c.2.2.1 (zs c.2.1) ∧ c.2.1.length ≤ c.1) (fun c => sent.length - c.1) (0, [], [], 0) F1 N1 ?hk ?hp ?turn ?hE
    case hk => kst_all
    case hE => with_unfolding_all passes_own
    case hp => exact ⟨Nat.zero_le _, rfl, .nil, Nat.zero_le _⟩
    case turn =>
      clear F1 N1
      rintro ⟨j, nums, vs, n⟩ u h tk' ⟨h1, h2, h3, h4⟩ F N
      dsimp only at h1 h2 h3 h4 F N ⊢
      k_fold
      k_steps
      rename Fr _ _ _ _ => F1
      rename News _ _ _ _ => N1
      unfold Stop
      have nit := N1 (it, iterO D j) (.tail _ (.head _))
      have nD := N1 (D, LCg.lst cs) (.tail _ (.tail _ (.head _)))
      have nl := N1 (l', listOf vs.toArray n) (.head _)
      have N3 : News h₀ h₀.objs.size h [(it, iterO D j)] := fun p hp => N1 p (by rw [List.mem_singleton.mp hp]; exact .tail _ (.head _))
      have S1 := fun env hf hk => std_hide (env := env) S₀ F1 N3 hf hk
      have hDl : Heap.IsList (hideAll h [it]) D cs.toArray := ⟨_, hideAll_get [it] nD.1 (by simpa using hne), rfl, _, rfl⟩
      rcases Nat.lt_or_ge j sent.length with hj | hj
      · refine' ar_le (A' := AR 10 _) (parse_ret (S1 _ rfl rfl) nit.1 hDl hci hal hlast hl hj h2 ?_) rfl (Nat.le_of_ble_eq_true rfl) rfl rfl (Nat.le_of_ble_eq_true rfl)
        intro h' v j' t' tk2 k1 k2 k3 k4 k5
        replace F1 := fr_hid F1 nit.2.1 nit.2.2 k1
        have N2 := news_hid N1 (.tail (by dsimp only; exact Nat.ne_of_gt hlt.1) (.head (fun p hp => by rw [List.mem_singleton.mp hp]; exact hne)) : Upd it (iterO D j) (iterO D j') _ [(l', listOf vs.toArray n), (it, iterO D j'), (D, LCg.lst cs)]) k2 k1
        clear N1 N3 S1

        have hvl : vs.length = nums.length := by rw [h3.length]; simp [zs]
        k_steps
        rename Fr _ _ _ _ => F2
        rename News _ _ _ _ => N3
        simp only [List.push_toArray] at N3
        show TEnd _ _ _ _ _ _ _ _
        refine' tend (j', nums ++ [v], vs ++ [_], n + 1) F2 N3 (by kst_in) (fun _ h => nomatch h) (by kst_all) ⟨⟨k4, k5, ?_, by simp; omega⟩, by dsimp only; omega⟩
        show IntsAre _ (zs (nums ++ [v]))
        unfold zs
        rw [List.map_append]
        exact h3.append (.cons _ _ .nil)
      · have hjl : j = sent.length := Nat.le_antisymm h1 hj
        refine' ar_le (A' := AR 10 _) (parse_stop (base := hideAll h (it :: h₀.objs.size :: outer.filterMap (·.frame))) (S1 _ rfl rfl) nit.1 hDl (by rw [hjl, ← hcl]; exact List.getElem?_eq_none (Nat.le_refl _)) ?hb ?hfr ?_) rfl (Nat.le_of_ble_eq_true rfl) rfl rfl (Nat.le_of_ble_eq_true rfl)
        case hb =>
          intro b o e
          refine hideAll_get _ (of_hideAll _ e) ?_
          intro q
          rw [hideAll_none _ (by rw [List.mem_singleton.mp q]; exact .head _)] at e
          cases e
        case hfr =>
          refine my_reb (S1 _ (by exact rfl) (by exact rfl)) fun b hb => hideAll_none _ (.tail _ hb)
        intro e h5 tk5 k1 k2 k3 k4 k5
        obtain ⟨hKg, loose', mean', mg', mb', Tg⟩ := std_ground S₀
        have up : (hideAll h₀ (outer.filterMap (·.frame))).StaysIn (hideAll h (it :: h₀.objs.size :: outer.filterMap (·.frame))) := fun b o q => by
          have q0 := of_hideAll _ q
          refine hideAll_get _ (F1.keep _ _ q0) fun z => ?_
          rcases List.mem_cons.mp z with z | z
          · have := nit.2.2; dsimp only at this; rw [← z, q0] at this; cases this
          rcases List.mem_cons.mp z with z | z
          · exact absurd (Heap.lt_size q0) (by rw [z]; exact Nat.lt_irrefl _)
          · rw [hideAll_none _ z] at q; cases q
        have hL1 : (hideAll h [it]).Ns h₀.objs.size _ := F1.ns.at' fun o q => hideAll_get _ q (by intro z; exact nit.2.1 (List.mem_singleton.mp z).symm)
        refine' caught (base' := hideAll h₀ (outer.filterMap (·.frame))) ⟨k5.ns hL1, fun b o q => k1 b o (up b o q), Nat.le_of_eq (hideAll_size _ _)⟩ up k1 k2 k3 k4 ?hcls ?k (by decide +kernel) (by decide +kernel) (by decide +kernel) ?hE
        case hE => exact PassesOwnAt.leaving (hd := some (.ref e))
        case hcls =>
          clear F1 N1 N3 S1 X T
          intro h' Q' E' F hq
          k_steps
          exact hq
        case k =>
          intro h8 F8 w1 w2
          have N8 : News (hideAll h₀ (outer.filterMap (·.frame))) h₀.objs.size h8 [(l', listOf vs.toArray n)] := fun p hp => by
            rw [List.mem_singleton.mp hp]
            have hfree : (hideAll h₀ (outer.filterMap (·.frame))).get? l' = none := by
              cases hq : (hideAll h₀ (outer.filterMap (·.frame))).get? l' with
              | none => rfl
              | some o => have := nl.2.2; dsimp only at this; rw [of_hideAll _ hq] at this; cases this
            refine ⟨w1 _ _ (hideAll_get _ nl.1 fun z => ?_), nl.2.1, hfree⟩
            rcases List.mem_cons.mp z with z | z
            · exact absurd z (Nat.ne_of_gt hlt.1)
            rcases List.mem_cons.mp z with z | z
            · exact nl.2.1 z
            · obtain ⟨base, hbs, hfr, _⟩ := S₀.fr
              obtain ⟨_, o, ho, _⟩ := hfr.mem z
              have := nl.2.2; dsimp only at this; rw [ho] at this; cases this
          have U : h₀.UpToSlots h8 := fun b o q hq => by
            obtain ⟨sl, r⟩ := k5 b o (hideAll_get [it] (F1.keep b o q) fun z => by have := nit.2.2; dsimp only at this; rw [← List.mem_singleton.mp z, q] at this; cases this) hq
            obtain ⟨sl', r'⟩ := w2 b _ r hq
            exact ⟨sl', r'⟩
          have U2 : ∀ b o, h₀.get? b = some o → b ∉ outer.filterMap (·.frame) → h8.get? b = some o := fun b o q hb => F8.keep b o (hideAll_get _ q hb)
          clear F1 N1 N3 S1 X T
          k_steps
          rw [hjl, List.take_length] at h2
          have r := hQ h8 l' vs n tk5 U2 U nl.2.2 (N8 _ (.head _)).1 (by rw [h2]; exact h3)
          exact r
end
namespace RX
open PySem.Sre
abbrev code1 : Array Nat := #[14, 4, 0, 1, 1, 6, 1, 16, 46, 1]
abbrev code2 : Array Nat := #[14, 9, 4, 1, 2, 16, 10, 16, 13, 0, 7, 7, 16, 13, 16, 10, 15, 18, 5, 16, 10, 15, 13, 11, 16, 13, 5, 5, 0, 16, 10, 1, 15, 2, 0, 1]
variable {text : Array Nat} {lim s p h : Nat} {om must : Bool} {seen : Sre.Seen} {ans : Option Bool} {frames : List Sre.Frame} {weight : Nat}
/-- the machine, without groups and loops -/
abbrev mm (code text : Array Nat) (lim s : Nat) (must om : Bool) (seen : Sre.Seen) (pc pos handed weight : Nat) (ans : Option Bool) (frames : List Sre.Frame) : Sre.M :=
  { code, text, lim, start := s, lastStart := lim, mustAdvance := must, pc, pos, handed, outermost := om, marks := #[], frames, weight, answer := ans, seen }
abbrev fr1 (s : Nat) (om : Bool) : Sre.Frame := { wait := .nextStart, pc := 5, pos := s, outermost := om }
theorem a1 : (mm code1 text lim s must om seen 5 p h 1 none frames).step =
    if (p == 0 || text.getD (p - 1) 0 == 10) then mm code1 text lim s must om ((seen.add 6).add 44) 7 p h 1 none frames else mm code1 text lim s must om ((seen.add 6).add 44) 5 p h 1 (some false) frames := rfl
theorem a2 : (mm code1 text lim s must om seen 7 p h 1 none frames).step =
    if p ≥ lim then mm code1 text lim s must om (seen.add 16) 7 p h 1 (some false) frames else
    if (text.getD p 0 == 46) then mm code1 text lim s must om (seen.add 16) 9 (p + 1) h 1 none frames else mm code1 text lim s must om (seen.add 16) 7 p h 1 (some false) frames := by
  by_cases h1 : p ≥ lim
  · rw [if_pos h1]
    show (if p ≥ lim then _ else _) = _
    rw [if_pos h1]
    rfl
  · rw [if_neg h1]
    show (if p ≥ lim then _ else match (Except.ok (text.getD p 0 == 46, seen.add 16) : Except String (Bool × Sre.Seen)) with | .error why => _ | .ok (false, seen) => _ | .ok (true, seen) => _) = _
    rw [if_neg h1]
    cases text.getD p 0 == 46 <;> rfl
theorem a3 (hp : p ≠ s) : (mm code1 text lim s must om seen 9 p h 1 none frames).step = mm code1 text lim s must om (seen.add 1) 9 p p 1 (some true) frames := by
  show (if (om && ((false && p != lim) || (must && p == s))) = true then _ else _) = _
  rw [if_neg (by simp [hp])]
  rfl
theorem a4 : (mm code1 text lim s must om seen 9 p h 1 (some true) [fr1 s om]).step = mm code1 text lim s must om seen 5 s h 0 (some true) [] := rfl
theorem a5 : (mm code1 text lim s must om seen 5 p h 0 (some true) []).step = { mm code1 text lim s must om seen 5 p h 0 (some true) [] with outcome := some .matched } := rfl
theorem a6 (pc : Nat) : (mm code1 text lim s must om seen pc p h 1 (some false) [fr1 s om]).step = if s < lim then mm code1 text lim (s + 1) false false seen 5 (s + 1) (s + 1) 1 none [fr1 (s + 1) false] else mm code1 text lim s must om seen 5 s h 0 (some false) [] := by
  by_cases h1 : s < lim
  · rw [if_pos h1]
    show (if s < lim then _ else _) = _
    rw [if_pos h1]
    rfl
  · rw [if_neg h1]
    show (if s < lim then _ else _) = _
    rw [if_neg h1]
    rfl
theorem a7 (pc : Nat) : (mm code1 text lim s must om seen pc p h 0 (some false) []).step = { mm code1 text lim s must om seen pc p h 0 (some false) [] with outcome := some .failed } := rfl

theorem run_succ (n : Nat) (m : Sre.M) (h : m.outcome.isSome = false) : Sre.M.runFor (n + 1) m = Sre.M.runFor n m.step := by
  show (if m.outcome.isSome then _ else _) = _
  rw [h]; rfl
theorem run_done : ∀ (n : Nat) (m : Sre.M), m.outcome.isSome = true → Sre.M.runFor n m = m
  | 0, _, _ => rfl
  | n + 1, m, h => by
    show (if m.outcome.isSome then _ else _) = _
    rw [h]; rfl
theorem run_add : ∀ (a b : Nat) (m : Sre.M), Sre.M.runFor (a + b) m = Sre.M.runFor b (Sre.M.runFor a m)
  | 0, b, m => by rw [Nat.zero_add]; rfl
  | a + 1, b, m => by
    cases ho : m.outcome.isSome with
    | true => rw [run_done _ m ho, run_done _ m ho, run_done _ m ho]
    | false =>
      rw [show a + 1 + b = (a + b) + 1 by omega, run_succ _ _ ho, run_succ _ _ ho]
      exact run_add a b _

/-- what a search ends as -/
structure Ends (m : Sre.M) (r : Option (Nat × Nat)) : Prop where
  it : ∃ k m', k ≤ 100000 ∧ Sre.M.runFor k m = m' ∧ (match r with | some (a, b) => m'.outcome = some .matched ∧ m'.start = a ∧ m'.handed = b | none => m'.outcome = some .failed)
def EndsIn (n : Nat) (m : Sre.M) (r : Option (Nat × Nat)) : Prop := ∃ m', Sre.M.runFor n m = m' ∧ (match r with | some (a, b) => m'.outcome = some .matched ∧ m'.start = a ∧ m'.handed = b | none => m'.outcome = some .failed)
theorem EndsIn.more {n k : Nat} {m : Sre.M} {r : Option (Nat × Nat)} (e : EndsIn n m r) (h : n ≤ k) : EndsIn k m r := by
  obtain ⟨m', e1, e2⟩ := e
  have hs : m'.outcome.isSome = true := by
    cases r with
    | none => dsimp only at e2; rw [e2]; rfl
    | some ab => dsimp only at e2; rw [e2.1]; rfl
  refine ⟨m', ?_, e2⟩
  rw [show k = n + (k - n) by omega, run_add, e1, run_done _ _ hs]
theorem EndsIn.step {n : Nat} {m : Sre.M} {r : Option (Nat × Nat)} (e : EndsIn n m.step r) (h : m.outcome = none := by rfl) : EndsIn (n + 1) m r := by
  obtain ⟨m', e1, e2⟩ := e
  exact ⟨m', by rw [run_succ _ _ (by rw [h]; rfl)]; exact e1, e2⟩
theorem EndsIn.now {m : Sre.M} {r : Option (Nat × Nat)} (e : match r with | some (a, b) => m.outcome = some .matched ∧ m.start = a ∧ m.handed = b | none => m.outcome = some .failed) : EndsIn 0 m r := ⟨m, rfl, e⟩

/-- the first place from s on where the first pattern fits -/
def fits1 (text : Array Nat) (lim s : Nat) : Bool := (s == 0 || text.getD (s - 1) 0 == 10) && decide (s < lim) && text.getD s 0 == 46
def find1 (text : Array Nat) (lim : Nat) : Nat → Nat → Option (Nat × Nat)
  | 0, _ => none
  | n + 1, s => if fits1 text lim s then some (s, s + 1) else find1 text lim n (s + 1)
theorem run1 : ∀ (n : Nat) (s : Nat) (must om : Bool) (seen : Sre.Seen), s + n = lim + 1 → 0 < n → EndsIn (4 * n + 2) (mm code1 text lim s must om seen 5 s s 1 none [fr1 s om]) (find1 text lim n s)
  | 0, _, _, _, _, _, h => absurd h (Nat.lt_irrefl _)
  | n + 1, s, must, om, seen, hs, _ => by
    have miss : ∀ (sn : Sre.Seen) (pc p h : Nat), EndsIn (4 * n + 4) (mm code1 text lim s must om sn pc p h 1 (some false) [fr1 s om]) (find1 text lim n (s + 1)) := by
      intro sn pc p h
      refine EndsIn.step (n := 4 * n + 3) ?_
      rw [a6]
      by_cases h1 : s < lim
      · rw [if_pos h1]
        exact (run1 n (s + 1) false false sn (by omega) (by omega)).more (by omega)
      · rw [if_neg h1]
        have : n = 0 := by omega
        subst this
        refine EndsIn.step (n := 2) ?_
        rw [a7]
        exact (EndsIn.now rfl).more (by omega)
    unfold find1 fits1
    refine EndsIn.step (n := 4 * n + 5) ?_
    rw [a1]
    cases h1 : (s == 0 || text.getD (s - 1) 0 == 10) with
    | false =>
      simp only [Bool.false_and, Bool.false_eq_true, if_false]
      exact (miss _ _ _ _).more (by omega)
    | true =>
      simp only [Bool.true_and, if_true]
      refine EndsIn.step (n := 4 * n + 4) ?_
      rw [a2]
      by_cases h2 : s < lim
      · rw [if_neg (by omega)]
        cases h3 : (text.getD s 0 == 46) with
        | false =>
          simp only [Bool.and_false, Bool.false_eq_true, if_false]
          exact miss _ _ _ _
        | true =>
          simp only [h2, decide_true, Bool.and_true, if_true]
          refine EndsIn.more (n := 3) ?_ (by omega)
          refine EndsIn.step (n := 2) ?_
          rw [a3 (by omega)]
          refine EndsIn.step (n := 1) ?_
          rw [a4]
          refine EndsIn.step (n := 0) ?_
          rw [a5]
          exact EndsIn.now ⟨rfl, rfl, rfl⟩
      · rw [if_pos (by omega)]
        simp only [h2, decide_false, Bool.false_and, Bool.false_eq_true, if_false]
        exact miss _ _ _ _
abbrev fresh' (code text : Array Nat) (pos : Nat) : Sre.M :=
  { code, text, lim := text.size, start := pos, pc := (header code).2, pos, handed := pos, marks := Array.replicate (2 * 0) none, mustAdvance := false, seen := if (header code).2 == 0 then {} else ({} : Sre.Seen).add 14 }
theorem search1 (pos : Nat) (hp : pos ≤ text.size) : EndsIn (4 * text.size + 6) (forSearch code1 text 0 pos text.size false) (if pos < text.size then find1 text text.size (text.size + 1 - pos) pos else none) := by
  by_cases hlt : pos < text.size
  · have e : forSearch code1 text 0 pos text.size false = mm code1 text text.size pos false true (({} : Sre.Seen).add 14) 5 pos pos 1 none [fr1 pos true] := by
      show (if (decide (pos > text.size) || decide (text.size - pos < 1)) = true then _ else _) = _
      rw [if_neg (by simp; omega)]
      rfl
    rw [e, if_pos hlt]
    exact (run1 (text.size + 1 - pos) pos false true _ (by omega) (by omega)).more (by omega)
  · rw [if_neg hlt]
    have e : EndsIn 1 (if (decide (pos > text.size) || decide (text.size - pos < 1)) = true then (fresh' code1 text pos).say false else ({ fresh' code1 text pos with lastStart := text.size } : Sre.M).attemptFrom pos true) none := by
      rw [if_pos (by simp; omega)]
      exact EndsIn.step (n := 0) (EndsIn.now rfl)
    exact EndsIn.more e (by omega)

/-! the second pattern -/
abbrev fr2 (s : Nat) (om : Bool) : Sre.Frame := { wait := .nextStart, pc := 10, pos := s, outermost := om }
abbrev kp : Sre.Kept := { lastmark := -1, lastindex := -1, whole := false, marks := #[] }
abbrev fb (pc s : Nat) (om : Bool) : Sre.Frame := { wait := .nextBranch, pc, pos := s, outermost := om, kept := kp }
abbrev fl (s : Nat) (om : Bool) : Sre.Frame := { wait := .lookNot, pc := 26, pos := s, outermost := om, kept := kp }
theorem b1 : (mm code2 text lim s must om seen 10 p h 1 none frames).step = mm code2 text lim s must om (seen.add 7) 12 p p 2 none (fb 11 p om :: frames) := rfl
theorem l12 : (mm code2 text lim s must om seen 12 p h weight none frames).step =
    if p ≥ lim then mm code2 text lim s must om (seen.add 16) 12 p h weight (some false) frames else
    if (text.getD p 0 == 13) then mm code2 text lim s must om (seen.add 16) 14 (p + 1) h weight none frames else mm code2 text lim s must om (seen.add 16) 12 p h weight (some false) frames := by
  by_cases h1 : p ≥ lim
  · rw [if_pos h1]
    show (if p ≥ lim then _ else _) = _
    rw [if_pos h1]
    rfl
  · rw [if_neg h1]
    show (if p ≥ lim then _ else match (Except.ok (text.getD p 0 == 13, seen.add 16) : Except String (Bool × Sre.Seen)) with | .error why => _ | .ok (false, seen) => _ | .ok (true, seen) => _) = _
    rw [if_neg h1]
    cases text.getD p 0 == 13 <;> rfl
theorem l14 : (mm code2 text lim s must om seen 14 p h weight none frames).step =
    if p ≥ lim then mm code2 text lim s must om (seen.add 16) 14 p h weight (some false) frames else
    if (text.getD p 0 == 10) then mm code2 text lim s must om (seen.add 16) 16 (p + 1) h weight none frames else mm code2 text lim s must om (seen.add 16) 14 p h weight (some false) frames := by
  by_cases h1 : p ≥ lim
  · rw [if_pos h1]
    show (if p ≥ lim then _ else _) = _
    rw [if_pos h1]
    rfl
  · rw [if_neg h1]
    show (if p ≥ lim then _ else match (Except.ok (text.getD p 0 == 10, seen.add 16) : Except String (Bool × Sre.Seen)) with | .error why => _ | .ok (false, seen) => _ | .ok (true, seen) => _) = _
    rw [if_neg h1]
    cases text.getD p 0 == 10 <;> rfl
theorem l19 : (mm code2 text lim s must om seen 19 p h weight none frames).step =
    if p ≥ lim then mm code2 text lim s must om (seen.add 16) 19 p h weight (some false) frames else
    if (text.getD p 0 == 10) then mm code2 text lim s must om (seen.add 16) 21 (p + 1) h weight none frames else mm code2 text lim s must om (seen.add 16) 19 p h weight (some false) frames := by
  by_cases h1 : p ≥ lim
  · rw [if_pos h1]
    show (if p ≥ lim then _ else _) = _
    rw [if_pos h1]
    rfl
  · rw [if_neg h1]
    show (if p ≥ lim then _ else match (Except.ok (text.getD p 0 == 10, seen.add 16) : Except String (Bool × Sre.Seen)) with | .error why => _ | .ok (false, seen) => _ | .ok (true, seen) => _) = _
    rw [if_neg h1]
    cases text.getD p 0 == 10 <;> rfl
theorem l24 : (mm code2 text lim s must om seen 24 p h weight none frames).step =
    if p ≥ lim then mm code2 text lim s must om (seen.add 16) 24 p h weight (some false) frames else
    if (text.getD p 0 == 13) then mm code2 text lim s must om (seen.add 16) 26 (p + 1) h weight none frames else mm code2 text lim s must om (seen.add 16) 24 p h weight (some false) frames := by
  by_cases h1 : p ≥ lim
  · rw [if_pos h1]
    show (if p ≥ lim then _ else _) = _
    rw [if_pos h1]
    rfl
  · rw [if_neg h1]
    show (if p ≥ lim then _ else match (Except.ok (text.getD p 0 == 13, seen.add 16) : Except String (Bool × Sre.Seen)) with | .error why => _ | .ok (false, seen) => _ | .ok (true, seen) => _) = _
    rw [if_neg h1]
    cases text.getD p 0 == 13 <;> rfl
theorem l29 : (mm code2 text lim s must om seen 29 p h weight none frames).step =
    if p ≥ lim then mm code2 text lim s must om (seen.add 16) 29 p h weight (some false) frames else
    if (text.getD p 0 == 10) then mm code2 text lim s must om (seen.add 16) 31 (p + 1) h weight none frames else mm code2 text lim s must om (seen.add 16) 29 p h weight (some false) frames := by
  by_cases h1 : p ≥ lim
  · rw [if_pos h1]
    show (if p ≥ lim then _ else _) = _
    rw [if_pos h1]
    rfl
  · rw [if_neg h1]
    show (if p ≥ lim then _ else match (Except.ok (text.getD p 0 == 10, seen.add 16) : Except String (Bool × Sre.Seen)) with | .error why => _ | .ok (false, seen) => _ | .ok (true, seen) => _) = _
    rw [if_neg h1]
    cases text.getD p 0 == 10 <;> rfl
theorem j16 : (mm code2 text lim s must om seen 16 p h weight none frames).step = mm code2 text lim s must om (seen.add 15) 35 p h weight none frames := rfl
theorem j21 : (mm code2 text lim s must om seen 21 p h weight none frames).step = mm code2 text lim s must om (seen.add 15) 35 p h weight none frames := rfl
theorem j32 : (mm code2 text lim s must om seen 32 p h weight none frames).step = mm code2 text lim s must om (seen.add 15) 35 p h weight none frames := rfl
theorem s35 : (mm code2 text lim s false om seen 35 p h weight none frames).step = mm code2 text lim s false om (seen.add 1) 35 p p weight (some true) frames := by
  cases om <;> rfl
theorem s31 : (mm code2 text lim s must false seen 31 p h weight none frames).step = mm code2 text lim s must false (seen.add 1) 31 p p weight (some true) frames := rfl
theorem r_branch_yes (pc pc' q : Nat) (om' : Bool) : (mm code2 text lim s must om seen pc p h 2 (some true) (fb pc' q om' :: frames)).step = mm code2 text lim s must om' seen pc' q h 1 (some true) frames := rfl
theorem r_branch_11 (pc q : Nat) (om' : Bool) : (mm code2 text lim s must om seen pc p h 2 (some false) (fb 11 q om' :: frames)).step = mm code2 text lim s must om' seen 19 q q 2 none (fb 18 q om' :: frames) := rfl
theorem r_branch_18 (pc q : Nat) (om' : Bool) : (mm code2 text lim s must om seen pc p h 2 (some false) (fb 18 q om' :: frames)).step = mm code2 text lim s must om' seen 24 q q 2 none (fb 23 q om' :: frames) := rfl
theorem n26 : (mm code2 text lim s must om seen 26 p h 2 none frames).step = mm code2 text lim s must false (seen.add 5) 29 p p 3 none (fl p om :: frames) := rfl
theorem r_look_no (pc q : Nat) (om' : Bool) : (mm code2 text lim s must om seen pc p h 3 (some false) (fl q om' :: frames)).step = mm code2 text lim s must om' seen 32 q h 2 none frames := rfl
theorem r_start_yes (pc q : Nat) (om' : Bool) : (mm code2 text lim s must om seen pc p h 1 (some true) [fr2 q om']).step = mm code2 text lim s must om' seen 10 q h 0 (some true) [] := rfl
theorem e_yes (pc : Nat) : (mm code2 text lim s must om seen pc p h 0 (some true) []).step = { mm code2 text lim s must om seen pc p h 0 (some true) [] with outcome := some .matched } := rfl
/-- what fits at a sign of an end -/
def len2 (text : Array Nat) (lim s : Nat) : Nat := if s + 1 < lim ∧ text.getD s 0 = 13 ∧ text.getD (s + 1) 0 = 10 then 2 else 1
theorem run2 (hs : s < lim) (hc : text.getD s 0 = 13 ∨ text.getD s 0 = 10) : EndsIn 20 (mm code2 text lim s false om seen 10 s s 1 none [fr2 s om]) (some (s, s + len2 text lim s)) := by
  have fin : ∀ (sn : Sre.Seen) (q pc' : Nat) (h : Nat), EndsIn 4 (mm code2 text lim s false om sn 35 q h 2 none [fb pc' s om, fr2 s om]) (some (s, q)) := by
    intro sn q pc' h
    refine EndsIn.step (n := 3) ?_
    rw [s35]
    refine EndsIn.step (n := 2) ?_
    rw [r_branch_yes]
    refine EndsIn.step (n := 1) ?_
    rw [r_start_yes]
    refine EndsIn.step (n := 0) ?_
    rw [e_yes]
    exact EndsIn.now ⟨rfl, rfl, rfl⟩
  refine EndsIn.step (n := 19) ?_
  rw [b1]
  refine EndsIn.step (n := 18) ?_
  rw [l12, if_neg (by omega)]
  rcases hc with hc | hc
  · rw [hc]
    rw [if_pos (by decide)]
    refine EndsIn.step (n := 17) ?_
    rw [l14]
    by_cases h2 : s + 1 < lim ∧ text.getD (s + 1) 0 = 10
    · rw [if_neg (by omega), h2.2, if_pos (by decide)]
      refine EndsIn.step (n := 16) ?_
      rw [j16]
      have : len2 text lim s = 2 := if_pos ⟨h2.1, hc, h2.2⟩
      rw [this]
      exact (fin _ _ _ _).more (by omega)
    · have : len2 text lim s = 1 := if_neg (fun q => h2 ⟨q.1, q.2.2⟩)
      rw [this]
      have third : ∀ (sn : Sre.Seen) (pc p h : Nat), EndsIn 17 (mm code2 text lim s false om sn pc p h 2 (some false) [fb 11 s om, fr2 s om]) (some (s, s + 1)) := by
        intro sn pc p h
        refine EndsIn.step (n := 16) ?_
        rw [r_branch_11]
        refine EndsIn.step (n := 15) ?_
        rw [l19, if_neg (by omega), hc, if_neg (by decide)]
        refine EndsIn.step (n := 14) ?_
        rw [r_branch_18]
        refine EndsIn.step (n := 13) ?_
        rw [l24, if_neg (by omega), hc, if_pos (by decide)]
        refine EndsIn.step (n := 12) ?_
        rw [n26]
        refine EndsIn.step (n := 11) ?_
        rw [l29]
        have look : ∀ (sn : Sre.Seen) (pc p h : Nat), EndsIn 11 (mm code2 text lim s false false sn pc p h 3 (some false) [fl (s + 1) om, fb 23 s om, fr2 s om]) (some (s, s + 1)) := by
          intro sn pc p h
          refine EndsIn.step (n := 10) ?_
          rw [r_look_no]
          refine EndsIn.step (n := 9) ?_
          rw [j32]
          exact (fin _ _ _ _).more (by omega)
        by_cases h3 : s + 1 ≥ lim
        · rw [if_pos h3]
          exact look _ _ _ _
        · rw [if_neg h3, if_neg (by intro q; exact h2 ⟨by omega, by simpa using q⟩)]
          exact look _ _ _ _
      by_cases h3 : s + 1 ≥ lim
      · rw [if_pos h3]
        exact third _ _ _ _
      · rw [if_neg h3, if_neg (by intro q; exact h2 ⟨by omega, by simpa using q⟩)]
        exact third _ _ _ _
  · rw [hc]
    rw [if_neg (by decide)]
    refine EndsIn.step (n := 17) ?_
    rw [r_branch_11]
    refine EndsIn.step (n := 16) ?_
    rw [l19, if_neg (by omega), hc, if_pos (by decide)]
    refine EndsIn.step (n := 15) ?_
    rw [j21]
    have : len2 text lim s = 1 := if_neg (fun q => by have := q.2.1; omega)
    rw [this]
    exact (fin _ _ _ _).more (by omega)
def find2 (text : Array Nat) (lim : Nat) : Nat → Nat → Option (Nat × Nat)
  | 0, _ => none
  | n + 1, s => if s ≥ lim then none else if text.getD s 0 = 13 ∨ text.getD s 0 = 10 then some (s, s + len2 text lim s) else find2 text lim n (s + 1)
theorem set2 (c : Nat) (seen : Sre.Seen) : ∃ seen', inSet code2 c code2.size 5 true seen = .ok (decide (c = 13 ∨ c = 10), seen') := by
  by_cases h1 : c = 10
  · subst h1; exact ⟨_, rfl⟩
  by_cases h2 : c = 13
  · subst h2; exact ⟨_, rfl⟩
  refine ⟨((seen.add 16).add 16).add 0, ?_⟩
  show (if (c == 10) = true then _ else (if (c == 13) = true then _ else _)) = _
  rw [if_neg (by simpa using h1), if_neg (by simpa using h2)]
  rw [decide_eq_false (by omega)]
  rfl
theorem adm2 (m : Sre.M) (hm : m.code = code2) : ∀ (n s : Nat) (seen : Sre.Seen), ∃ seen', Sre.M.admitted m n s seen = .ok ((find2 m.text m.lim n s).map (·.1), seen')
  | 0, s, seen => ⟨seen, rfl⟩
  | n + 1, s, seen => by
    unfold Sre.M.admitted find2
    by_cases h1 : s ≥ m.lim
    · rw [if_pos h1, if_pos h1]; exact ⟨_, rfl⟩
    rw [if_neg h1, if_neg h1, hm]
    obtain ⟨sn, e⟩ := set2 (m.text.getD s 0) seen
    rw [e]
    by_cases h2 : m.text.getD s 0 = 13 ∨ m.text.getD s 0 = 10
    · rw [decide_eq_true h2, if_pos h2]; exact ⟨_, rfl⟩
    · rw [decide_eq_false h2, if_neg h2]
      exact adm2 m hm n (s + 1) sn
theorem find2_spec : ∀ (n s a b : Nat), find2 text lim n s = some (a, b) → a < lim ∧ (text.getD a 0 = 13 ∨ text.getD a 0 = 10) ∧ b = a + len2 text lim a
  | 0, _, _, _, h => nomatch h
  | n + 1, s, a, b, h => by
    unfold find2 at h
    by_cases h1 : s ≥ lim
    · rw [if_pos h1] at h; cases h
    rw [if_neg h1] at h
    by_cases h2 : text.getD s 0 = 13 ∨ text.getD s 0 = 10
    · rw [if_pos h2] at h
      cases h
      exact ⟨by omega, h2, rfl⟩
    · rw [if_neg h2] at h
      exact find2_spec n (s + 1) a b h
theorem search2 (pos : Nat) (hp : pos ≤ text.size) : EndsIn 20 (forSearch code2 text 0 pos text.size false) (if pos < text.size then find2 text text.size (text.size + 1 - pos) pos else none) := by
  have key : EndsIn 20 (if (decide (pos > text.size) || decide (text.size - pos < 1)) = true then (fresh' code2 text pos).say false else ({ fresh' code2 text pos with lastStart := text.size } : Sre.M).attemptFrom pos true) (if pos < text.size then find2 text text.size (text.size + 1 - pos) pos else none) := by
    by_cases hlt : pos < text.size
    · rw [if_neg (by simp; omega), if_pos hlt]
      obtain ⟨sn, e⟩ := adm2 ({ fresh' code2 text pos with lastStart := text.size } : Sre.M) rfl (text.size + 1 - pos) pos (({} : Sre.Seen).add 14)
      show EndsIn 20 (match Sre.M.admitted ({ fresh' code2 text pos with lastStart := text.size } : Sre.M) (text.size + 1 - pos) pos (({} : Sre.Seen).add 14) with | .ok (some s, seen) => _ | .ok (none, seen) => _ | .error why => _) _
      rw [e]
      have e2 := find2_spec (text := text) (lim := text.size) (text.size + 1 - pos) pos
      show EndsIn 20 (match (Except.ok ((find2 text text.size (text.size + 1 - pos) pos).map (·.1), sn) : Except String (Option Nat × Sre.Seen)) with | .ok (some s, seen) => _ | .ok (none, seen) => _ | .error why => _) _
      cases hf : find2 text text.size (text.size + 1 - pos) pos with
      | none =>
        refine EndsIn.more (n := 1) ?_ (by omega)
        exact EndsIn.step (n := 0) (EndsIn.now rfl)
      | some ab =>
        obtain ⟨a, b⟩ := ab
        obtain ⟨q1, q2, q3⟩ := e2 a b hf
        rw [q3]
        exact run2 (text := text) (lim := text.size) (s := a) (om := true) (seen := sn) q1 q2
    · rw [if_pos (by simp; omega), if_neg hlt]
      exact (EndsIn.step (n := 0) (EndsIn.now rfl)).more (by omega)
  exact key
end RX
section
theorem walk_off_m_facts : True := by
  w_top off
  trivial
namespace PF
theorem plainAttrs_pat : PlainAttrs "re.Pattern" :=
  ⟨⟨"object.__getattribute__", by rw [typeLookup_type, builtinLookup_eq_fast]; kernel_rfl, by decide +kernel⟩, by rw [typeLookup_type, builtinLookup_eq_fast]; kernel_rfl⟩
theorem slot_sub : Slot "re.Pattern" "sub" "re.Pattern.sub" :=
  .of (owner := "re.Pattern") (n := "sub") (by rw [typeLookup_type, builtinLookup_eq_fast]; kernel_rfl) (by decide +kernel) (by decide +kernel) (by decide +kernel)
    (by first | exact .inl (by decide +kernel) | exact .inr (by decide +kernel)) (by rw [isSubtype_type]; kernel_rfl)
theorem type_sub : typeOf (.builtin "re.Pattern.sub") = pure (.type "method_descriptor") := by show builtinType _ = _; rw [builtinType_eq_fast]; kernel_rfl
theorem entry_sub : entryFor table "re.Pattern.sub" = some Builtin.«re.Pattern.sub» := entryFor_of_tree (by kernel_rfl)
theorem entry_loop : entryFor table "re.Pattern.sub.loop" = some Builtin.«re.Pattern.sub.loop» := entryFor_of_tree (by kernel_rfl)
theorem plain_loop : plainId "re.Pattern.sub.loop" = true := by decide +kernel
theorem owner_pat : Manifest.owners.lookup (String.ofList ['n', 'r', 'e', 't', 't', 'a', 'P', '.', 'e', 'r'].reverse) = some Manifest.sig_re_Pattern := by kernel_rfl
theorem args_sub (a b c : Value) : argsOk "re.Pattern.sub" ⟨[a, b, c], []⟩ := by
  unfold argsOk; rw [signature?_of (id := "re.Pattern.sub") (n := ['b', 'u', 's']) (o := ['n', 'r', 'e', 't', 't', 'a', 'P', '.', 'e', 'r']) (by kernel_rfl) owner_pat]; kernel_rfl
theorem slot_search : Slot "re.Pattern" "search" "re.Pattern.search" :=
  .of (owner := "re.Pattern") (n := "search") (by rw [typeLookup_type, builtinLookup_eq_fast]; kernel_rfl) (by decide +kernel) (by decide +kernel) (by decide +kernel)
    (by first | exact .inl (by decide +kernel) | exact .inr (by decide +kernel)) (by rw [isSubtype_type]; kernel_rfl)
theorem type_search : typeOf (.builtin "re.Pattern.search") = pure (.type "method_descriptor") := by show builtinType _ = _; rw [builtinType_eq_fast]; kernel_rfl
theorem entry_search : entryFor table "re.Pattern.search" = some Builtin.«re.Pattern.search» := entryFor_of_tree (by kernel_rfl)
theorem args_search (a b : Value) : argsOk "re.Pattern.search" ⟨[a, b], []⟩ := by
  unfold argsOk; rw [signature?_of (id := "re.Pattern.search") (n := ['h', 'c', 'r', 'a', 'e', 's']) (o := ['n', 'r', 'e', 't', 't', 'a', 'P', '.', 'e', 'r']) (by kernel_rfl) owner_pat]; kernel_rfl
end PF
end
section
theorem walk_off_m_sub : True := by
  w_top off
  trivial
section rx
open PySem.Builtin PySem.Builtin.Re
variable {prog : Program} {w : World} {A : Around} {E : Value → Shared → Prop} {s : Shared}
theorem rx_drive {Q : Sre.M → Shared → Prop} : ∀ (turns k : Nat) (m m' : Sre.M), Sre.M.runFor k m = m' → m'.outcome.isSome = true → k ≤ 4 * turns → 0 < turns → Q m' s → wpAny (model prog w) A (reDrive turns m) Q E s
  | 0, _, _, _, _, _, _, h, _ => absurd h (Nat.lt_irrefl _)
  | t + 1, k, m, m', hr, ho, hk, _, hQ => by
    show wpAny (model prog w) A (if (Sre.M.runFor 4 m).outcome.isSome = true then pure (Sre.M.runFor 4 m) else (do rule "sre.turn"; reDrive t (Sre.M.runFor 4 m))) Q E s
    by_cases h4 : k ≤ 4
    · have e : Sre.M.runFor 4 m = m' := by
        rw [show 4 = k + (4 - k) by omega, RX.run_add, hr, RX.run_done _ _ ho]
      rw [e, if_pos ho]
      exact wpAny_pure hQ
    · have e : Sre.M.runFor (k - 4) (Sre.M.runFor 4 m) = m' := by
        rw [← RX.run_add, show 4 + (k - 4) = k by omega, hr]
      cases h5 : (Sre.M.runFor 4 m).outcome.isSome with
      | true =>
        rw [if_pos rfl]
        rw [RX.run_done _ _ h5] at e
        rw [e]
        exact wpAny_pure hQ
      | false =>
        rw [if_neg (by decide)]
        refine wpAny_bind (wpAny_rule ?_)
        exact rx_drive t (k - 4) _ m' e ho (by omega) (by omega) hQ
theorem rx_run {k : Nat} {m m' : Sre.M} {Q : Option Sre.M → Shared → Prop} (e1 : Sre.M.runFor k m = m') (ho : m'.outcome.isSome = true) (hk : k ≤ 1000000)
    (h : wpAny (model prog w) A (match m'.outcome with | some .matched => pure (some m') | some .failed => pure none | some (.stuck why) => unsupported s!"_sre:{why}" | none => unsupported "internal:sre:no-outcome") Q E s) : wpAny (model prog w) A (reRunToEnd m) Q E s := by
  unfold reRunToEnd
  refine wpAny_bind (rx_drive (2 ^ 64) k m m' e1 ho (by omega) (by omega) ?_)
  refine wpAny_bind ?_
  refine wpAny_forIn_list _ (fun _ _ s' => s' = s) _ ?_ ?_ _ _ rfl
  · rintro i rest b s' rfl
    split
    · exact wpAny_bind (wpAny_rule (wpAny_pure rfl))
    · exact wpAny_pure rfl
  · rintro b s' rfl
    exact h
theorem rx_none {k : Nat} {m : Sre.M} {Q : Option Sre.M → Shared → Prop} (he : RX.EndsIn k m none) (hk : k ≤ 1000000) (h : Q none s) : wpAny (model prog w) A (reRunToEnd m) Q E s := by
  obtain ⟨m', e1, e2⟩ := he
  dsimp only at e2
  refine rx_run e1 (by rw [e2]; rfl) hk ?_
  rw [e2]
  exact wpAny_pure h
theorem rx_some {k a b : Nat} {m : Sre.M} {Q : Option Sre.M → Shared → Prop} (he : RX.EndsIn k m (some (a, b))) (hk : k ≤ 1000000) (h : ∀ m' : Sre.M, m'.start = a → m'.handed = b → Q (some m') s) : wpAny (model prog w) A (reRunToEnd m) Q E s := by
  obtain ⟨m', e1, e2⟩ := he
  dsimp only at e2
  refine rx_run e1 (by rw [e2.1]; rfl) hk ?_
  rw [e2.1]
  exact wpAny_pure (h m' e2.2.1 e2.2.2)
/-- a compiled pattern for texts, without groups -/
def IsPat (h : Heap) (p : Addr) (code : Array Nat) : Prop :=
  ∃ o f0 f1 t f3 f4 c oc items n u, h.get? p = some o ∧ o.cls = .type "re.Pattern" ∧ o.dict = none ∧ o.data = .fields #[f0, f1, .int 0 t, f3, f4, .ref c, .int 0 u] ∧ h.get? c = some oc ∧ oc.data = .seq items n ∧ (items.map reRawOf).map (·.toNat) = code
theorem IsPat.keeps {h h' : Heap} {p : Addr} {code : Array Nat} (P : IsPat h p code) (k : ∀ b o, h.get? b = some o → h'.get? b = some o) : IsPat h' p code := by
  obtain ⟨o, f0, f1, t, f3, f4, c, oc, items, n, u, h1, h2, h3, h4, h5, h6⟩ := P
  exact ⟨o, f0, f1, t, f3, f4, c, oc, items, n, u, k _ _ h1, h2, h3, h4, k _ _ h5, h6⟩
theorem rx_fields {a : Addr} {o : Obj} {vs : Array Value} {Q : Array Value → Shared → Prop} (ho : s.heap.get? a = some o) (hd : o.data = .fields vs) (h : Q vs s) : wpAny (model prog w) A (fieldsOf (.ref a)) Q E s := by
  unfold fieldsOf
  dsimp only
  refine wpAny_bind (wpAny_load ho ?_)
  rw [hd]
  exact wpAny_pure h
theorem rx_items {a : Addr} {o : Obj} {items : Array Value} {n : Nat} {Q : Array Int → Shared → Prop} (ho : s.heap.get? a = some o) (hd : o.data = .seq items n) (h : Q (items.map reRawOf) s) : wpAny (model prog w) A (reRawItems (.ref a)) Q E s := by
  unfold reRawItems
  exact wpAny_bind (wpAny_seqItems ho hd (wpAny_pure h))
theorem rx_whole {p : Addr} {code : Array Nat} {xt : Str} {t : Tok} {Q : ReTarget → Shared → Prop} (P : IsPat s.heap p code) (h : Q ⟨.ref p, .str xt t, code, xt.cps, 0, 0, 0, xt.cps.size⟩ s) : wpAny (model prog w) A (reWholeTarget (.ref p) (.str xt t)) Q E s := by
  obtain ⟨o, f0, f1, t', f3, f4, c, oc, items, n, u, h1, h2, h3, h4, h5, h6, h7⟩ := P
  unfold reWholeTarget
  refine wpAny_bind (rx_fields h1 h4 ?_)
  refine wpAny_bind (m := reTextOf _) (wpAny_bind (m := asStr? _) (wpAny_pure (wpAny_pure ?_)))
  dsimp only
  rw [if_neg (by intro q; exact Bool.false_ne_true (Bool.and_eq_true _ _ ▸ q).2)]
  rw [if_neg (by intro q; exact Bool.false_ne_true (Bool.and_eq_true _ _ ▸ q).1)]
  refine wpAny_bind (m := reNoCollectionInside _ _) (wpAny_pure ?_)
  refine wpAny_bind (rx_items h5 h6 ?_)
  refine wpAny_pure ?_
  rw [h7]
  exact h

/-- the pieces that a substitution lays -/
def pieces (find : Nat → Option (Nat × Nat)) (repl text : List Nat) : Nat → Nat → List (List Nat)
  | 0, _ => []
  | n + 1, i => match find i with
    | none => if i < text.length then [(text.take text.length).drop i] else []
    | some (a, b) => (if i < a then [(text.take a).drop i] else []) ++ [repl] ++ pieces find repl text n b
theorem S_extract (l : List Nat) (b e : Nat) : (⟨(S l).cps.extract b e⟩ : Str) = S ((l.take e).drop b) := by
  refine Str.ext' ?_
  simp [S, List.extract_toArray, List.drop_take]
theorem strs_len : ∀ {vs : List Value} {ys : List Str}, StrsAre vs ys → vs.length = ys.length
  | _, _, .nil => rfl
  | _, _, .cons _ _ h => congrArg Nat.succ (strs_len h)
theorem strs_app : ∀ {vs ws : List Value} {ys zs : List Str}, StrsAre vs ys → StrsAre ws zs → StrsAre (vs ++ ws) (ys ++ zs)
  | _, _, _, _, .nil, h => h
  | _, _, _, _, .cons y t h, h' => .cons y t (strs_app h h')
theorem rx_push {D : Addr} {ys : List Value} {n : Nat} {v : Value} {Q : Unit → Shared → Prop} (hD : s.heap.get? D = some (listOf ys.toArray n)) (hz : ys.length ≤ 5000)
    (h : ∀ h', Heap.SameBut D s.heap h' → h'.get? D = some (listOf (ys ++ [v]).toArray (n + 1)) → Q () { s with heap := h' }) : wpAny (model prog w) A (updateSeq D (·.push v)) Q E s := by
  refine wpAny_updateSeq hD rfl (h _ (Heap.SameBut.update ..) ?_) (by rw [sizeLine_eq, List.size_toArray]; omega) (by rw [sizeLine_eq, Array.size_push, List.size_toArray]; omega)
  rw [Heap.get?_update_self _ hD (by rw [mapSeq_push]; rfl), mapSeq_push, List.push_toArray]
theorem rx_slice {l : List Nat} {b e : Nat} {Q : Value → Shared → Prop} (hz : l.length < 1000) (h : Q (.str (S ((l.take e).drop b)) s.toks) { s with toks := s.toks + 1 }) : wpAny (model prog w) A (reSlice (S l).cps 0 b e) Q E s := by
  unfold reSlice
  rw [if_pos (by decide), S_extract]
  exact wpAny_mkStr h (by rw [S_len, sizeLine_eq]; simp; omega)
theorem join_S (ls : List (List Nat)) : Txt.join (S []) (ls.map S) = S ls.flatten := by
  have e := join_plain_closes (S []) (ls.map S)
  rw [beq_iff_eq] at e
  rw [e]
  induction ls with
  | nil => rfl
  | cons a r ih =>
    cases r with
    | nil => simp [Str.join]
    | cons b r =>
      have e2 := join_plain_closes (S []) ((b :: r).map S)
      rw [beq_iff_eq] at e2
      show S a ++ S [] ++ Str.join (S []) ((b :: r).map S) = _
      rw [ih e2, S_app, S_app, List.append_nil]
      rfl
theorem rx_loop {hb : Heap} {p D : Addr} {code : Array Nat} {text repl : List Nat} {t u : Tok} {R : Result → Shared → Prop} {find : Nat → Option (Nat × Nat)}
    (P : IsPat hb p code) (hbD : hb.get? D = none) (hfind : ∀ i, i ≤ text.length → ∃ k, k ≤ 1000000 ∧ RX.EndsIn k (Sre.forSearch code (S text).cps 0 i text.length false) (find i)) (hf2 : ∀ i a b, find i = some (a, b) → i ≤ a ∧ a < b ∧ b ≤ text.length) (hlen : text.length < 1000) (hrep : repl.length < 10) :
    ∀ (fuel i : Nat) (s : Shared) (ys : List Value) (ls : List (List Nat)) (n : Nat) (k : Int), text.length + 1 - i ≤ fuel → i ≤ text.length → (∀ b o, hb.get? b = some o → s.heap.get? b = some o) → s.heap.get? D = some (listOf ys.toArray n) → StrsAre ys (ls.map S) → ls.length ≤ 2 * i → (ls.map List.length).sum ≤ 10 * i →
      (∀ h' t' tk, (∀ b, b ≠ D → h'.get? b = s.heap.get? b) → R (.ok (.ret (.str (S (ls ++ pieces find repl text fuel i).flatten) t'))) { s with heap := h', toks := tk }) →
      codeAny (model prog w) A (.builtin "re.Pattern.sub.loop" ⟨[.ref p, .str (S text) t, .str (S repl) u, rawInt 0, rawInt 0, rawInt k, rawInt i, rawInt i, .bool false, .ref D, .bool false], []⟩) R s
  | 0, i, s, ys, ls, n, k, hfu, hi, _, _, _, _, _, _ => by omega
  | fuel + 1, i, s, ys, ls, n, k, hfu, hi, hk, hD, hys, hb1, hb2, hR => by
    have hyl : ys.length = ls.length := by rw [strs_len hys, List.length_map]
    refine codeAny_builtin PF.entry_loop ?_
    rw [Around.under_plainId PF.plain_loop]
    unfold «re.Pattern.sub.loop»
    dsimp only
    refine wpAny_bind (rx_whole (P.keeps hk) ?_)
    rw [if_pos (by decide)]
    refine wpAny_bind (m := reLiteralCannotBeTurned _) (wpAny_pure ?_)
    dsimp only
    refine wpAny_bind ?_
    rw [if_neg (by simp)]
    have hti : (i : Int).toNat = i := Int.toNat_natCast i
    have hsz : (S text).cps.size = text.length := by simp [S]
    unfold reNextFound
    dsimp only
    rw [hti, hsz]
    obtain ⟨st, hst, he⟩ := hfind i hi
    cases hf : find i with
    | none =>
      rw [hf] at he
      refine rx_none he hst ?_
      dsimp only
      have hp : pieces find repl text (fuel + 1) i = if i < text.length then [(text.take text.length).drop i] else [] := by
        show (match find i with | none => _ | some (a, b) => _) = _
        rw [hf]
      rw [hp] at hR
      have fin : ∀ (s' : Shared) (ys' : List Value) (ls' : List (List Nat)) (n' : Nat), (∀ t' tk, R (.ok (.ret (.str (S ls'.flatten) t'))) { s' with toks := tk }) → s'.heap.get? D = some (listOf ys'.toArray n') → StrsAre ys' (ls'.map S) → ls'.length ≤ 3000 → (ls'.map List.length).sum ≤ 20000 →
          wpAny (model prog w) A.in1 (do
            let joiner ← reSlice (S text).cps 0 0 0
            let __do_lift ← seqItems? (.ref D)
            if (__do_lift.getD #[]).isEmpty = true then do
              let text ← pure joiner
              if false = true then do
                let __do_lift ← holding [text] do
                  let __do_lift ← mkInt k
                  newTuple [text, __do_lift]
                ret __do_lift
              else ret text
            else do
              let text ← call (.builtin (if ((0 : Nat) == 0) = true then "str.join" else "bytes.join")) [joiner, .ref D]
              if false = true then do
                let __do_lift ← holding [text] do
                  let __do_lift ← mkInt k
                  newTuple [text, __do_lift]
                ret __do_lift
              else ret text)
            (fun fin s' => match fin with | .done f => R (.ok f) s' | .again c' => c'.quiet = true ∧ codeAny (model prog w) A c' R s') (fun e s' => R (.error e) s') s' := by
        intro s' ys' ls' n' hR' hD' hys' q1 q2
        refine wpAny_bind (rx_slice hlen ?_)
        refine wpAny_bind (wpAny_seqItems hD' rfl ?_)
        cases ys' with
        | nil =>
          rw [if_pos (by rfl)]
          refine wpAny_bind (wpAny_pure ?_)
          rw [if_neg (by decide)]
          refine wpAny_pure ?_
          have : ls' = [] := by
            cases ls' with
            | nil => rfl
            | cons a r => cases hys'
          subst this
          exact hR' _ _
        | cons y r =>
          rw [if_neg (by simp)]
          refine wpAny_bind ?_
          rw [if_pos (by decide)]
          refine join_listW ⟨_, hD', rfl, _, rfl⟩ (by simpa using hys') (by rw [S_len]; simp) ?_ ?_
          · have e : (ls'.map S).map (·.length) = ls'.map List.length := by
              rw [List.map_map]
              exact List.map_congr_left fun a _ => S_len a
            rw [e, List.length_map]
            omega
          · intro t' tk
            rw [if_neg (by decide)]
            refine wpAny_pure ?_
            have := hR' t' tk
            rw [show S ((text.take 0).drop 0) = S [] by simp, join_S]
            exact this
      by_cases hlt : i < text.length
      · rw [if_pos hlt]
        rw [if_pos hlt] at hR
        refine wpAny_bind (rx_slice hlen ?_)
        refine wpAny_bind (rx_push hD (by omega) fun h' hs hD' => ?_)
        refine fin _ _ (ls ++ [(text.take text.length).drop i]) _ ?_ hD' ?_ (by simp; omega) (by simp; omega)
        · intro t' tk
          exact hR h' t' tk fun b hb => hs.2 b hb
        · rw [List.map_append]
          exact strs_app hys (.cons _ _ .nil)
      · rw [if_neg hlt]
        rw [if_neg hlt, List.append_nil] at hR
        exact fin s ys ls n (fun t' tk => hR s.heap t' tk fun _ _ => rfl) hD hys (by omega) (by omega)
    | some ab =>
      obtain ⟨a, b⟩ := ab
      rw [hf] at he
      refine rx_some he hst fun m' e1 e2 => ?_
      dsimp only
      rw [e1, e2]
      obtain ⟨f1, f2, f3⟩ := hf2 i a b hf
      have hp : pieces find repl text (fuel + 1) i = (if i < a then [(text.take a).drop i] else []) ++ [repl] ++ pieces find repl text fuel b := by
        show (match find i with | none => _ | some (a, b) => _) = _
        rw [hf]
      rw [hp] at hR
      have hba : (b == a) = false := by simp; omega
      rw [hba]
      have fin : ∀ (s' : Shared) (ys' : List Value) (ls' : List (List Nat)) (n' : Nat), (∀ b, b ≠ D → s'.heap.get? b = s.heap.get? b) → s'.heap.get? D = some (listOf ys'.toArray n') → StrsAre ys' (ls'.map S) → ls'.length ≤ 2 * i + 1 → (ls'.map List.length).sum ≤ 10 * i + (a - i) →
          (∀ h' t' tk, (∀ b, b ≠ D → h'.get? b = s.heap.get? b) → R (.ok (.ret (.str (S (ls' ++ [repl] ++ pieces find repl text fuel b).flatten) t'))) { s' with heap := h', toks := tk }) →
          wpAny (model prog w) A.in1 (do
            updateSeq D (·.push (.str (S repl) u))
            again (.builtin "re.Pattern.sub.loop" ⟨[.ref p, .str (S text) t, .str (S repl) u, rawInt 0, rawInt 0, rawInt (k + 1), rawInt b, rawInt b, .bool false, .ref D, .bool false], []⟩))
            (fun fin s' => match fin with | .done f => R (.ok f) s' | .again c' => c'.quiet = true ∧ codeAny (model prog w) A c' R s') (fun e s' => R (.error e) s') s' := by
        intro s' ys' ls' n' q0 hD' hys' q1 q2 hR'
        have hyl' : ys'.length = ls'.length := by rw [strs_len hys', List.length_map]
        refine wpAny_bind (rx_push hD' (by omega) fun h' hs hD2 => ?_)
        refine wpAny_pure ⟨plainId_quiet PF.plain_loop _, ?_⟩
        refine rx_loop P hbD hfind hf2 hlen hrep fuel b _ _ (ls' ++ [repl]) _ _ (by omega) f3 (fun c o e => ?_) hD2 ?_ (by simp; omega) (by simp; omega) ?_
        · have hc : c ≠ D := fun q => by rw [q, hbD] at e; cases e
          exact (hs.2 c hc).trans ((q0 c hc).trans (hk c o e))
        · rw [List.map_append]
          exact strs_app hys' (.cons _ _ .nil)
        · intro h2 t' tk hh
          exact hR' h2 t' tk fun c hc => (hh c hc).trans ((hs.2 c hc).trans (q0 c hc))
      by_cases hlt : i < a
      · rw [if_pos hlt]
        rw [if_pos hlt] at hR
        refine wpAny_bind (rx_slice hlen ?_)
        refine wpAny_bind (rx_push hD (by omega) fun h' hs hD' => ?_)
        rw [if_pos (by decide)]
        refine wpAny_bind (wpAny_pure ?_)
        rw [if_pos (by rfl)]
        refine fin _ _ (ls ++ [(text.take a).drop i]) _ (fun c hc => hs.2 c hc) hD' ?_ (by simp; omega) (by simp; omega) ?_
        · rw [List.map_append]
          exact strs_app hys (.cons _ _ .nil)
        · intro h2 t' tk hh
          have := hR h2 t' tk hh
          simpa [List.append_assoc] using this
      · rw [if_neg hlt]
        rw [if_neg hlt] at hR
        rw [if_pos (by decide)]
        refine wpAny_bind (wpAny_pure ?_)
        rw [if_pos (by rfl)]
        refine fin s ys ls n (fun _ _ => rfl) hD hys (by omega) (by omega) ?_
        intro h2 t' tk hh
        have := hR h2 t' tk hh
        simpa [List.append_assoc] using this
theorem look_call : typeLookup (.type "str") "__call__" = pure none := by rw [typeLookup_type, builtinLookup_eq_fast]; kernel_rfl
theorem rx_sub {p : Addr} {code : Array Nat} {text repl : List Nat} {t u : Tok} {find : Nat → Option (Nat × Nat)} {Q : Value → Shared → Prop} (P : IsPat s.heap p code)
    (hfind : ∀ i, i ≤ text.length → ∃ k, k ≤ 1000000 ∧ RX.EndsIn k (Sre.forSearch code (S text).cps 0 i text.length false) (find i)) (hf2 : ∀ i a b, find i = some (a, b) → i ≤ a ∧ a < b ∧ b ≤ text.length) (hlen : text.length < 1000) (hrep : repl.length < 10) (hesc : repl.contains 92 = false)
    (h : ∀ h' t' tk, (∀ b o, s.heap.get? b = some o → h'.get? b = some o) → Q (.str (S (pieces find repl text (text.length + 1) 0).flatten) t') { s with heap := h', toks := tk }) :
    wpAny (model prog w) A (call (.builtin "re.Pattern.sub") [.ref p, .str (S repl) u, .str (S text) t]) Q E s := by
  obtain ⟨o, f0, f1, t', f3, f4, c, oc, items, n, u', h1, h2, h3⟩ := id P
  refine wpAny_call (codeAny_call_builtin PF.slot_sub.plain PF.entry_sub (PF.slot_sub.check _ _ _ _ _ _ _ _ ⟨o, h1, h2⟩ (PF.args_sub _ _ _) ?_))
  unfold «re.Pattern.sub» reSubstitute
  dsimp only
  refine wpAny_bind (m := reNamed _ _ _ _ _ _) (wpAny_of_eq (a := [some (Value.str (S repl) u), some (Value.str (S text) t), none]) (by first | rfl | kernel_rfl!) ?_)
  dsimp only
  refine wpAny_bind (m := (pure 0 : Sem Int)) (wpAny_pure ?_)
  refine wpAny_bind (wpAny_specialOf_val (T := "str") rfl look_call ?_)
  rw [if_neg (by decide)]
  refine wpAny_bind (m := asStr? _) (wpAny_pure ?_)
  dsimp only
  refine wpAny_bind (wpAny_pure ?_)
  have hc : (!(S repl).cps.contains 92) = true := by
    have : (S repl).cps.contains 92 = repl.contains 92 := by simp [S]
    rw [this, hesc]; rfl
  rw [hc, if_neg (by decide), if_pos rfl]
  refine wpAny_bind (wpAny_pure ?_)
  dsimp only
  refine wpAny_bind (wpAny_holding (rx_whole P ?_))
  rw [if_neg (by decide)]
  refine wpAny_bind (wpAny_newList ?_)
  refine wpAny_pure ⟨plainId_quiet PF.plain_loop _, ?_⟩
  refine rx_loop P (Heap.get?_none_of_le (Nat.le_refl _)) hfind hf2 hlen hrep (text.length + 1) 0 _ [] [] 0 0 (by omega) (Nat.zero_le _) (fun b o e => Heap.get?_push_of_some _ e) (Heap.get?_push_size _ rfl) .nil (Nat.le_refl _) (Nat.le_refl _) ?_
  intro h' t' tk hk
  refine h h' t' tk fun b o e => (hk b (fun q => ?_)).trans (Heap.get?_push_of_some _ e)
  have := Heap.lt_size e
  rw [q] at this
  exact Nat.lt_irrefl _ this
theorem rx_method_sub {p : Addr} {code : Array Nat} {pl : Sem Bool} {Q : Value × List Value → Shared → Prop} (P : IsPat s.heap p code) (h : Q (.builtin "re.Pattern.sub", [.ref p]) s) : wpAny (model prog w) A (getMethod (.ref p) "sub" pl) Q E s := by
  obtain ⟨o, f0, f1, t', f3, f4, c, oc, items, n, u', h1, h2, h3, _⟩ := P
  exact getMethod_builtin ⟨o, h1, h2⟩ PF.plainAttrs_pat PF.slot_sub PF.type_sub (fun a e => by cases e; exact ⟨o, h1, h3⟩) h
theorem rx_method_search {p : Addr} {code : Array Nat} {pl : Sem Bool} {Q : Value × List Value → Shared → Prop} (P : IsPat s.heap p code) (h : Q (.builtin "re.Pattern.search", [.ref p]) s) : wpAny (model prog w) A (getMethod (.ref p) "search" pl) Q E s := by
  obtain ⟨o, f0, f1, t', f3, f4, c, oc, items, n, u', h1, h2, h3, _⟩ := P
  exact getMethod_builtin ⟨o, h1, h2⟩ PF.plainAttrs_pat PF.slot_search PF.type_search (fun a e => by cases e; exact ⟨o, h1, h3⟩) h
end rx
end
section
theorem walk_off_m_quote : True := by
  w_top off
  trivial
theorem IsPat.of {h : Heap} {p c : Addr} {code : Array Nat} {f0 f1 f3 f4 cls2 : Value} {t u : Tok} {d2 : Option Addr} {sl sl2 : Array (Option Value)} {items : Array Value} {n : Nat}
    (h1 : h.get? p = some ⟨.type "re.Pattern", none, .fields #[f0, f1, .int 0 t, f3, f4, .ref c, .int 0 u], sl⟩) (h2 : h.get? c = some ⟨cls2, d2, .seq items n, sl2⟩) (e : (items.map Builtin.Re.reRawOf).map (·.toNat) = code) : IsPat h p code :=
  ⟨_, f0, f1, t, f3, f4, c, _, items, n, u, h1, rfl, rfl, rfl, h2, rfl, e⟩
theorem pat_1 {w : World} {h : Heap} (X : (fragOnce.heap_1 w.params).In h) : IsPat h 59 RX.code1 := by
  refine' IsPat.of (X 59 _ ?a) (X 58 _ ?b) ?c
  case a => k_dflt k_is
  case b => k_dflt k_is
  case c => simp [Builtin.Re.reRawOf]
theorem pat_2 {w : World} {h : Heap} (X : (fragOnce.heap_1 w.params).In h) : IsPat h 64 RX.code2 := by
  refine' IsPat.of (X 64 _ ?a) (X 63 _ ?b) ?c
  case a => k_dflt k_is
  case b => k_dflt k_is
  case c => simp [Builtin.Re.reRawOf]
local macro_rules | `(tactic| walk_at "getMethod ref") => `(tactic| (with_reducible show wpAny _ _ (getMethod (Value.ref _) _ _) _ _ _; (first | refine rx_method_sub (IsPat.keeps (pat_1 (by assumption)) (Fr.keep (by assumption))) ?_ | refine rx_method_sub (IsPat.keeps (pat_2 (by assumption)) (Fr.keep (by assumption))) ?_)))
local macro_rules | `(tactic| walk_at "call builtin:re.Pattern.sub") => `(tactic| (refine stop_of ?_))
def find1F (text : List Nat) (i : Nat) : Option (Nat × Nat) := if i < text.length then RX.find1 (S text).cps text.length (text.length + 1 - i) i else none
def find2F (text : List Nat) (i : Nat) : Option (Nat × Nat) := if i < text.length then RX.find2 (S text).cps text.length (text.length + 1 - i) i else none
def quoted (mail : List Nat) : List Nat :=
  let l := (pieces (find2F mail) [13, 10] mail (mail.length + 1) 0).flatten
  (pieces (find1F l) [46, 46] l (l.length + 1) 0).flatten
theorem find1_in {text : Array Nat} {lim : Nat} : ∀ (n s a b : Nat), RX.find1 text lim n s = some (a, b) → s ≤ a ∧ a < lim ∧ b = a + 1
  | 0, _, _, _, h => nomatch h
  | n + 1, s, a, b, h => by
    unfold RX.find1 at h
    split at h
    · rename_i hf
      cases h
      unfold RX.fits1 at hf
      simp only [Bool.and_eq_true, decide_eq_true_eq] at hf
      exact ⟨Nat.le_refl _, hf.1.2, rfl⟩
    · have := find1_in n (s + 1) a b h
      omega
theorem find2_in {text : Array Nat} {lim : Nat} : ∀ (n s a b : Nat), RX.find2 text lim n s = some (a, b) → s ≤ a ∧ a < b ∧ b ≤ lim
  | 0, _, _, _, h => nomatch h
  | n + 1, s, a, b, h => by
    unfold RX.find2 at h
    split at h
    · cases h
    split at h
    · cases h
      unfold RX.len2
      split <;> omega
    · have := find2_in n (s + 1) a b h
      omega
theorem quote_spec {prog : Program} {w : World} {outer : List Env} {h₀ : Heap} {gens : Array GenState} {drawn : Drawn} {toks : Nat} {os : OsState} {E : Value → Shared → Prop} {Q : Value → Shared → Prop} {mail : List Nat} {t0 : Tok}
    (S₀ : Std w outer h₀) (hl : mail.length < 100) (hl2 : (pieces (find2F mail) [13, 10] mail (mail.length + 1) 0).flatten.length < 1000)
    (hQ : ∀ h' t' tk', (∀ b o, h₀.get? b = some o → h'.get? b = some o) → Q (.str (S (quoted mail)) t') ⟨h', gens, drawn, tk', os⟩) :
    wpAny (model prog w) (AR 4 outer) (call (.ref 71) [.str (S mail) t0]) Q E ⟨h₀, gens, drawn, toks, os⟩ := by
  have X := S₀.k
  obtain ⟨loose, mean, mg, mb, T⟩ := S₀.t
  refine' enter (binds := [(Str.ofString "data", .str (S mail) t0)]) ?hX ?hT ?ho ?hcd ?hroom ?hbind ?hloc ?_ ?c1 ?c2 ?c3 ?c4
  walk_at "my_enter"
  intro h₁ tk F N
  k_fold
  k_steps
  unfold Stop
  refine rx_sub (repl := [13, 10]) (find := find2F mail) (IsPat.keeps (pat_2 X) F.keep) ?_ ?_ (by omega) (by decide) (by decide) ?_
  · intro i hi
    refine ⟨20, by omega, ?_⟩
    have hsz : (S mail).cps.size = mail.length := by simp [S]
    have := RX.search2 (text := (S mail).cps) i (by omega)
    rw [hsz] at this
    exact this
  · intro i a b h
    unfold find2F at h
    split at h
    · exact find2_in _ _ _ _ h
    · cases h
  intro h2 t2 tk2 k2
  have F2 := fr_ext F k2
  have N2 := news_ext N k2
  clear F N
  k_steps
  unfold Stop
  generalize hlw : (pieces (find2F mail) [13, 10] mail (mail.length + 1) 0).flatten = l at hl2 ⊢
  refine rx_sub (repl := [46, 46]) (find := find1F l) (IsPat.keeps (pat_1 X) F2.keep) ?_ ?_ hl2 (by decide) (by decide) ?_
  · intro i hi
    refine ⟨4 * l.length + 6, by omega, ?_⟩
    have hsz : (S l).cps.size = l.length := by simp [S]
    have := RX.search1 (text := (S l).cps) i (by omega)
    rw [hsz] at this
    exact this
  · intro i a b h
    unfold find1F at h
    split at h
    · have := find1_in _ _ _ _ h
      omega
    · cases h
  intro h3 t3 tk3 k3
  k_steps
  have r := hQ h3 t3 tk3 fun b o e => k3 b o (F2.keep b o e)
  unfold quoted at r
  rw [hlw] at r
  exact r
end
section
theorem walk_off_m_quoted : True := by
  w_top off
  trivial
theorem pieces_none {find : Nat → Option (Nat × Nat)} {repl text : List Nat} {n i : Nat} (h : find i = none) : pieces find repl text (n + 1) i = if i < text.length then [(text.take text.length).drop i] else [] := by
  simp only [pieces, h]
theorem pieces_some {find : Nat → Option (Nat × Nat)} {repl text : List Nat} {n i a b : Nat} (h : find i = some (a, b)) : pieces find repl text (n + 1) i = (if i < a then [(text.take a).drop i] else []) ++ [repl] ++ pieces find repl text n b := by
  simp only [pieces, h]
theorem pieces_at {find : Nat → Option (Nat × Nat)} {repl text : List Nat} {fuel i b : Nat} (h : find i = some (i, b)) : (pieces find repl text (fuel + 1) i).flatten = repl ++ (pieces find repl text fuel b).flatten := by
  rw [pieces_some h]
  simp
theorem drop_cons {text : List Nat} {i : Nat} (h : i < text.length) : text.drop i = text.getD i 0 :: text.drop (i + 1) := by
  rw [List.drop_eq_getElem_cons h, List.getD_eq_getElem?_getD, List.getElem?_eq_getElem h]
  rfl
theorem pieces_next {find : Nat → Option (Nat × Nat)} {repl text : List Nat} {fuel i : Nat} (h : find i = find (i + 1)) (hi : i < text.length) (ha : ∀ a b, find (i + 1) = some (a, b) → i + 1 ≤ a ∧ a ≤ text.length) :
    (pieces find repl text (fuel + 1) i).flatten = text.getD i 0 :: (pieces find repl text (fuel + 1) (i + 1)).flatten := by
  have key : ∀ a, i + 1 ≤ a → a ≤ text.length → (if i < a then [(text.take a).drop i] else []).flatten = text.getD i 0 :: (if i + 1 < a then [(text.take a).drop (i + 1)] else []).flatten := by
    intro a h1 h2
    have hd : (text.take a).drop i = text.getD i 0 :: (text.take a).drop (i + 1) := by
      rw [drop_cons (by rw [List.length_take]; omega)]
      congr 1
      rw [List.getD_eq_getElem?_getD, List.getD_eq_getElem?_getD, List.getElem?_take_of_lt (by omega)]
    rw [if_pos (by omega), List.flatten_singleton, hd]
    by_cases h3 : i + 1 < a
    · rw [if_pos h3, List.flatten_singleton]
    · rw [if_neg h3, List.drop_eq_nil_of_le (by rw [List.length_take]; omega)]
      rfl
  cases hf : find (i + 1) with
  | none =>
    rw [pieces_none hf, pieces_none (h.trans hf)]
    exact key text.length (by omega) (Nat.le_refl _)
  | some ab =>
    obtain ⟨a, b⟩ := ab
    obtain ⟨h1, h2⟩ := ha a b hf
    rw [pieces_some hf, pieces_some (h.trans hf)]
    rw [List.append_assoc, List.append_assoc, List.flatten_append, key a h1 h2, List.flatten_append, List.flatten_append, List.flatten_append]
    rfl
def normS : Bool → List Nat → List Nat
  | _, [] => []
  | b, c :: r => if c = 13 then 13 :: 10 :: normS true r else if c = 10 then (if b = true then [] else [13, 10]) ++ normS false r else c :: normS false r
def dots : Bool → List Nat → List Nat
  | _, [] => []
  | f, c :: r => (if c = 46 ∧ f = true then [46] else []) ++ c :: dots (decide (c = 10)) r
theorem S_getD (l : List Nat) (i : Nat) : (S l).cps.getD i 0 = l.getD i 0 := by simp [S]
theorem find2_next {text : List Nat} {i : Nat} (hi : i < text.length) (h : ¬ (text.getD i 0 = 13 ∨ text.getD i 0 = 10)) : find2F text i = find2F text (i + 1) := by
  unfold find2F
  rw [if_pos hi, show text.length + 1 - i = (text.length - i) + 1 by omega]
  show (if i ≥ text.length then none else if (S text).cps.getD i 0 = 13 ∨ (S text).cps.getD i 0 = 10 then _ else RX.find2 (S text).cps text.length (text.length - i) (i + 1)) = _
  rw [if_neg (by omega), S_getD, if_neg h]
  by_cases h2 : i + 1 < text.length
  · rw [if_pos h2, show text.length + 1 - (i + 1) = text.length - i by omega]
  · rw [if_neg h2, show text.length - i = 0 + 1 by omega]
    show (if i + 1 ≥ text.length then none else _) = none
    rw [if_pos (by omega)]
theorem find2_at {text : List Nat} {i : Nat} (hi : i < text.length) (h : text.getD i 0 = 13 ∨ text.getD i 0 = 10) : find2F text i = some (i, i + RX.len2 (S text).cps text.length i) := by
  unfold find2F
  rw [if_pos hi, show text.length + 1 - i = (text.length - i) + 1 by omega]
  show (if i ≥ text.length then none else if (S text).cps.getD i 0 = 13 ∨ (S text).cps.getD i 0 = 10 then _ else _) = _
  rw [if_neg (by omega), S_getD, if_pos h]
theorem normS_true {r : List Nat} (h : r.getD 0 0 ≠ 10) : normS true r = normS false r := by
  cases r with
  | nil => rfl
  | cons c r =>
    have : c ≠ 10 := h
    simp [normS, this]
theorem norm_eq (text : List Nat) : ∀ (k i fuel : Nat), text.length - i = k → i ≤ text.length → text.length + 1 - i ≤ fuel → (pieces (find2F text) [13, 10] text fuel i).flatten = normS false (text.drop i) := by
  intro k
  induction k using Nat.strongRecOn with
  | ind k ih =>
  intro i fuel hk hi hfu
  obtain ⟨fuel, rfl⟩ : ∃ f, fuel = f + 1 := ⟨fuel - 1, by omega⟩
  by_cases hlt : i < text.length
  · by_cases hc : text.getD i 0 = 13 ∨ text.getD i 0 = 10
    · rw [pieces_at (find2_at hlt hc), drop_cons hlt]
      unfold RX.len2
      rw [S_getD, S_getD]
      by_cases h2 : i + 1 < text.length ∧ text.getD i 0 = 13 ∧ text.getD (i + 1) 0 = 10
      · rw [if_pos h2, ih (text.length - (i + 2)) (by omega) (i + 2) fuel rfl (by omega) (by omega), drop_cons h2.1, h2.2.1, h2.2.2]
        rfl
      · rw [if_neg h2, ih (text.length - (i + 1)) (by omega) (i + 1) fuel rfl (by omega) (by omega)]
        rcases hc with hc | hc
        · rw [hc]
          have : normS true (text.drop (i + 1)) = normS false (text.drop (i + 1)) := by
            refine normS_true ?_
            rw [List.getD_eq_getElem?_getD, List.getElem?_drop, Nat.add_zero]
            intro q
            refine h2 ⟨?_, hc, by rw [List.getD_eq_getElem?_getD]; exact q⟩
            rcases Nat.lt_or_ge (i + 1) text.length with h | h
            · exact h
            · rw [List.getElem?_eq_none h] at q
              cases q
          show _ = 13 :: 10 :: normS true _
          rw [this]
          rfl
        · rw [hc]
          rfl
    · rw [pieces_next (find2_next hlt hc) hlt, ih (text.length - (i + 1)) (by omega) (i + 1) (fuel + 1) rfl (by omega) (by omega), drop_cons hlt]
      · have h1 : text.getD i 0 ≠ 13 := fun q => hc (.inl q)
        have h2 : text.getD i 0 ≠ 10 := fun q => hc (.inr q)
        simp only [normS, h1, h2, if_false]
      · intro a b h
        unfold find2F at h
        split at h
        · have := find2_in _ _ _ _ h
          omega
        · cases h
  · have : i = text.length := by omega
    subst this
    rw [List.drop_length]
    rw [pieces_none (by unfold find2F; rw [if_neg (Nat.lt_irrefl _)]), if_neg (Nat.lt_irrefl _)]
    rfl
def freshAt (text : List Nat) (i : Nat) : Bool := i == 0 || text.getD (i - 1) 0 == 10
theorem find1_next {text : List Nat} {i : Nat} (hi : i < text.length) (h : ¬ (text.getD i 0 = 46 ∧ freshAt text i = true)) : find1F text i = find1F text (i + 1) := by
  unfold find1F
  rw [if_pos hi, show text.length + 1 - i = (text.length - i) + 1 by omega]
  show (if RX.fits1 (S text).cps text.length i = true then _ else RX.find1 (S text).cps text.length (text.length - i) (i + 1)) = _
  have : RX.fits1 (S text).cps text.length i = false := by
    unfold RX.fits1
    rw [S_getD, S_getD]
    unfold freshAt at h
    cases h1 : (i == 0 || text.getD (i - 1) 0 == 10) with
    | false => rfl
    | true =>
      have : text.getD i 0 ≠ 46 := fun q => h ⟨q, h1⟩
      rw [show (text.getD i 0 == 46) = false by simpa using this, Bool.and_false]
  rw [this, if_neg (by decide)]
  by_cases h2 : i + 1 < text.length
  · rw [if_pos h2, show text.length + 1 - (i + 1) = text.length - i by omega]
  · rw [if_neg h2, show text.length - i = 0 + 1 by omega]
    show (if RX.fits1 (S text).cps text.length (i + 1) = true then _ else none) = none
    rw [if_neg]
    unfold RX.fits1
    simp [h2]
theorem find1_at {text : List Nat} {i : Nat} (hi : i < text.length) (h : text.getD i 0 = 46 ∧ freshAt text i = true) : find1F text i = some (i, i + 1) := by
  unfold find1F
  rw [if_pos hi, show text.length + 1 - i = (text.length - i) + 1 by omega]
  show (if RX.fits1 (S text).cps text.length i = true then _ else _) = _
  have : RX.fits1 (S text).cps text.length i = true := by
    unfold RX.fits1
    rw [S_getD, S_getD]
    unfold freshAt at h
    rw [h.2, h.1]
    simp [hi]
  rw [if_pos this]
theorem dots_eq (text : List Nat) : ∀ (k i fuel : Nat), text.length - i = k → i ≤ text.length → text.length + 1 - i ≤ fuel → (pieces (find1F text) [46, 46] text fuel i).flatten = dots (freshAt text i) (text.drop i) := by
  intro k
  induction k with
  | zero =>
    intro i fuel hk hi hfu
    obtain ⟨fuel, rfl⟩ : ∃ f, fuel = f + 1 := ⟨fuel - 1, by omega⟩
    have : i = text.length := by omega
    subst this
    rw [List.drop_length]
    rw [pieces_none (by unfold find1F; rw [if_neg (Nat.lt_irrefl _)]), if_neg (Nat.lt_irrefl _)]
    rfl
  | succ k ih =>
    intro i fuel hk hi hfu
    obtain ⟨fuel, rfl⟩ : ∃ f, fuel = f + 1 := ⟨fuel - 1, by omega⟩
    have hlt : i < text.length := by omega
    have hfr : freshAt text (i + 1) = decide (text.getD i 0 = 10) := by
      unfold freshAt
      rw [show (i + 1 == 0) = false by simp, Bool.false_or, Nat.add_sub_cancel]
      rfl
    by_cases hc : text.getD i 0 = 46 ∧ freshAt text i = true
    · rw [pieces_at (find1_at hlt hc), ih (i + 1) fuel (by omega) (by omega) (by omega), drop_cons hlt, hfr]
      show _ = (if _ then _ else _) ++ _
      rw [if_pos hc, hc.1]
      rfl
    · rw [pieces_next (find1_next hlt hc) hlt, ih (i + 1) (fuel + 1) (by omega) (by omega) (by omega), drop_cons hlt, hfr]
      · show _ = (if _ then _ else _) ++ _
        rw [if_neg hc]
        rfl
      · intro a b h
        unfold find1F at h
        split at h
        · have := find1_in _ _ _ _ h
          omega
        · cases h
theorem sent_dots : ∀ (m acc : List Nat) (f : Bool) (bf : List Nat), (bf = [13] → f = true) → (m.foldl sstep (acc, f, bf)).1 = acc ++ dots f (normS (decide (bf = [13])) m)
  | [], acc, f, bf, _ => by simp [normS, dots]
  | c :: r, acc, f, bf, h => by
    rw [List.foldl_cons]
    by_cases h1 : c = 13
    · have e : sstep (acc, f, bf) c = (acc ++ [13, 10], true, [c]) := by simp [sstep, h1]
      rw [e, sent_dots r _ _ _ (fun _ => rfl), h1]
      simp [normS, dots]
    · by_cases h2 : c = 10
      · by_cases h3 : bf = [13]
        · have e : sstep (acc, f, bf) c = (acc, true, [c]) := by simp [sstep, h2, h3]
          rw [e, sent_dots r _ _ _ (fun _ => rfl), h3, h h3, h2]
          simp [normS]
        · have e : sstep (acc, f, bf) c = (acc ++ [13, 10], true, [c]) := by simp [sstep, h2, h3]
          rw [e, sent_dots r _ _ _ (fun _ => rfl), h2]
          simp [normS, dots, h3]
      · have e : sstep (acc, f, bf) c = ((if c = 46 ∧ f = true then acc ++ [46] else acc) ++ [c], false, [c]) := by simp [sstep, h1, h2]
        rw [e, sent_dots r _ _ _ (fun q => by simp [h1] at q)]
        by_cases h3 : c = 46 ∧ f = true
        · simp [normS, dots, h1, h2, h3]
        · simp [normS, dots, h1, h2, h3]
theorem norm_len : ∀ (b : Bool) (m : List Nat), (normS b m).length ≤ 2 * m.length
  | _, [] => Nat.le_refl _
  | b, c :: r => by
    have h1 := norm_len true r
    have h2 := norm_len false r
    unfold normS
    split
    · simp only [List.length_cons]; omega
    split
    · split <;> simp only [List.length_append, List.length_cons, List.length_nil] <;> omega
    · simp only [List.length_cons]; omega
theorem norm_all (mail : List Nat) : (pieces (find2F mail) [13, 10] mail (mail.length + 1) 0).flatten = normS false mail := by
  have := norm_eq mail (mail.length - 0) 0 (mail.length + 1) rfl (Nat.zero_le _) (by omega)
  rwa [List.drop_zero] at this
theorem quoted_eq (mail : List Nat) : quoted mail = (sentAll mail).1 := by
  unfold quoted
  rw [norm_all]
  dsimp only
  have := dots_eq (normS false mail) ((normS false mail).length - 0) 0 ((normS false mail).length + 1) rfl (Nat.zero_le _) (by omega)
  rw [this, List.drop_zero]
  unfold sentAll
  rw [sent_dots mail [] true [] (fun q => by cases q)]
  simp [freshAt]
end
section
theorem walk_off_n_name : True := by
  w_top off
  trivial
def lowN (c : Nat) : List Nat := if c = 46 then [120] else if c = 13 then [120, 121] else if c = 10 then [120, 121, 122] else if c = 97 then [121] else [121, 122]
def nameOf (c k : Nat) : List Nat := if k % 2 = 1 then (lowN c).map (· - 32) else lowN c
theorem to_str {P : Value → Prop} {x : Str} {l : List Nat} {t : Tok} (e : x = S l) (h : P (.str (S l) t)) : P (.str x t) := by rw [e]; exact h
theorem odd_of {k : Nat} (h : (k : Int).fmod 2 = 1) : k % 2 = 1 := by
  rw [Int.fmod_eq_emod_of_nonneg _ (by decide)] at h
  omega
theorem name_spec {prog : Program} {w : World} {outer : List Env} {h₀ : Heap} {gens : Array GenState} {drawn : Drawn} {toks : Nat} {os : OsState} {E : Value → Shared → Prop} {Q : Value → Shared → Prop} {c k : Nat} {t0 t1 : Tok}
    (S₀ : Std w outer h₀) (hc : c ∈ alphabet)
    (hQ : ∀ h' t' tk', (∀ b o, h₀.get? b = some o → h'.get? b = some o) → Q (.str (S (nameOf c k)) t') ⟨h', gens, drawn, tk', os⟩) :
    wpAny (model prog w) (AR 10 outer) (call (.ref 245) [.str (S [c]) t0, .int (k : Int) t1]) Q E ⟨h₀, gens, drawn, toks, os⟩ := by
  have X := S₀.k
  obtain ⟨loose, mean, mg, mb, T⟩ := S₀.t
  refine' enter (binds := [(Str.ofString "sign", .str (S [c]) t0), (Str.ofString "k", .int (k : Int) t1)]) ?hX ?hT ?ho ?hcd ?hroom ?hbind ?hloc ?_ ?c1 ?c2 ?c3 ?c4
  walk_at "my_enter"
  intro h₁ tk F N
  k_fold
  simp only [alphabet, List.mem_cons, List.not_mem_nil, or_false] at hc
  rcases hc with rfl | rfl | rfl | rfl | rfl
  all_goals k_steps
  all_goals (rename Fr _ _ _ _ => F2)
  all_goals first
    | (rename ((_ : Int) = 1) => hz
       have hk := odd_of hz
       refine to_str (P := fun v => Q v _) (l := nameOf _ k) ?_ (hQ _ _ _ F2.keep)
       unfold nameOf
       rw [if_pos hk]
       decide +kernel)
    | (rename (¬ (_ : Int) = 1) => hz
       have hk : ¬ k % 2 = 1 := fun q => hz (by rw [Int.fmod_eq_emod_of_nonneg _ (by decide)]; omega)
       refine to_str (P := fun v => Q v _) (l := nameOf _ k) ?_ (hQ _ _ _ F2.keep)
       unfold nameOf
       rw [if_neg hk]
       decide +kernel)
end
section
theorem walk_off_n_init : True := by
  w_top off
  trivial
theorem code_le {M : Model} {A A' : Around} {c : Code} {R : Result → Shared → Prop} {s : Shared}
    (h : codeAny M A' c R s) (hh : A.handled = A'.handled) (hd : A.depth ≤ A'.depth) (hf : A.frames = A'.frames) (hg : A.guards = A'.guards) (hu : A.units ≤ A'.units) : codeAny M A c R s :=
  fun Γ p hc hΓ => h Γ p hc ⟨hΓ.1.trans hh, Nat.le_trans hΓ.2.1 hd, fun l hl => hΓ.2.2.1 l (hf.trans hl), fun g q => hΓ.2.2.2.1 g (hg.trans q), Nat.le_trans hΓ.2.2.2.2 hu⟩
/-- entering a def, as a code -/
theorem enterC {prog : Program} {w : World} {dp un : Nat} {gd : Option (List Code)} {outer : List Env} {h₀ : Heap} {gens : Array GenState} {drawn : Drawn} {toks : Nat} {os : OsState} {f : Addr} {pos : List Value} {kw : List (Str × Value)} {R : Result → Shared → Prop} {K : Frag}
    {name qual : Str} {params : Arguments} {body : List Stmt} {scope : Scope} {dV kV doc pm cdv ct oc : Value} {an od : Option Addr} {osl : Array (Option Value)} {binds : List (Str × Value)} (hid : List (Addr × Obj))
    (hhid : ∀ p ∈ hid, h₀.get? p.1 = some p.2)
    (hK : K.In (hideAll h₀ (hid.map (·.1)))) (hT : ∃ p loose mean mg mb, Top p loose mean mg mb (hideAll h₀ (hid.map (·.1))))
    (ho : K.lookup f = some ⟨oc, od, .func (fnOf name qual params body scope dV kV doc pm an cdv ct), osl⟩) (hcd : codeIn K cdv qual = true)
    (hroom : dp < recursionLimit)
    (hbind : BindsTo ⟨h₀, gens, drawn, toks, os⟩ (fnOf name qual params body scope dV kV doc pm an cdv ct) ⟨pos, kw⟩ binds) (hloc : ∀ y ∈ binds, scope.names.lookup y.1 = some .local)
    (h : ∀ h₁ tk, Fr (hideAll h₀ (hid.map (·.1))) h₀.objs.size h₁ (fun y => binds.reverse.lookup y) → News (hideAll h₀ (hid.map (·.1))) h₀.objs.size h₁ hid →
      wpAny (model prog w) { handled := none, depth := dp + 1, frames := some (envOf qual scope h₀.objs.size f cdv :: outer), guards := gd, units := un + 3 } (execs body (envOf qual scope h₀.objs.size f cdv))
        (fun fl s' => R (.ok (.ret (match fl with | .ret v => v | _ => .none))) s')
        (fun e s' => wpAny (model prog w) { handled := none, depth := dp + 1, frames := some (envOf qual scope h₀.objs.size f cdv :: outer), guards := gd, units := un + 3 } (leaving (envOf qual scope h₀.objs.size f cdv) e) (fun _ s'' => R (.error e) s'') (fun e' s'' => R (.error e') s'') s')
        ⟨h₁, gens, drawn, tk, os⟩)
    (hcell : ∀ x ∈ scope.names, x.2 ≠ .cell) (hco : scope.isCoroutine = false) (hgen : scope.isGenerator = false) (hk : scope.kind = .function) :
    codeAny (model prog w) { handled := none, depth := dp, frames := some outer, guards := gd, units := un } (.call (.ref f) ⟨pos, kw⟩) R ⟨h₀, gens, drawn, toks, os⟩ := by
  obtain ⟨p, loose, mean, mg, mb, T⟩ := hT
  have up : ∀ b o, (hideAll h₀ (hid.map (·.1))).get? b = some o → h₀.get? b = some o := fun b o e => of_hideAll _ e
  have hK' : K.In h₀ := fun a o e => up _ _ (hK a o e)
  have T' := T.keeps up
  refine codeAny_call_def (fd := fnOf name qual params body scope dV kV doc pm an cdv ct) (body := body) (binds := binds) hroom (hK' _ _ ho) rfl T'.nolimit (codeRec_of hK' hcd) rfl hbind hcell hloc (fun h₁ hns hk₁ => ?_) hco hgen hk
  exact h h₁ _ ⟨hns, fun b o e => hk₁ b o (up b o e), Nat.le_of_eq (hideAll_size _ _)⟩
    (fun q hq => ⟨hk₁ _ _ (hhid q hq), Nat.ne_of_lt (Heap.lt_size (hhid q hq)), hideAll_none _ (List.mem_map_of_mem hq)⟩)
theorem hide_keeps {h h' : Heap} {l : List Addr} (k : ∀ b o, h.get? b = some o → h'.get? b = some o) (hn : ∀ b ∈ l, h.get? b = none) : h.StaysIn (hideAll h' l) := fun b o e =>
  hideAll_get _ (k b o e) fun q => by rw [hn b q] at e; cases e
abbrev tableO (w : World) (t : Tok) (l : Addr) : Obj := dictOf [DictEntry.mk (PyData.keyHash w.params (Str.ofString "_headers")) (.str (Str.ofString "_headers") t) (.ref l)] 1
theorem free_of {h₀ h : Heap} {l : Addr} (st : h₀.StaysIn h) (n : h.get? l = none) : h₀.get? l = none := by
  cases hq : h₀.get? l with
  | none => rfl
  | some o => have := st _ _ hq; rw [n] at this; cases this
theorem headers_spec {prog : Program} {w : World} {outer : List Env} {h₀ : Heap} {gens : Array GenState} {drawn : Drawn} {toks : Nat} {os : OsState} {E : Value → Shared → Prop} {Q : Value → Shared → Prop}
    (S₀ : Std w outer h₀)
    (hQ : ∀ h' tk' t x dx l, (∀ b o, h₀.get? b = some o → h'.get? b = some o) → h₀.get? x = none → h₀.get? dx = none → h₀.get? l = none → dx < x → x < l → h'.get? x = some (instObj 215 dx) → h'.get? dx = some (tableO w t l) → h'.get? l = some (listOf #[] 0) → Q (.ref x) ⟨h', gens, drawn, tk', os⟩) :
    wpAny (model prog w) (AR 10 outer) (call (.ref 215) []) Q E ⟨h₀, gens, drawn, toks, os⟩ := by
  have X := S₀.k
  refine wpAny_call ?_
  refine' make_core (init := .ref 109) (makes_of X ?hm) (looks_findIn X ?hi) (fun self => bind_fn X self ?hf) (.inl rfl) ?_
  case hm => k_dflt k_is
  case hi => k_dflt k_is
  case hf => k_dflt k_is
  have k : ∀ b o, h₀.get? b = some o → ((h₀.push emptyDict).push (instObj 215 h₀.objs.size)).get? b = some o := fun b o e => Heap.get?_push_of_some _ (Heap.get?_push_of_some _ e)
  have n0 : h₀.get? h₀.objs.size = none := Heap.get?_none_of_le (Nat.le_refl _)
  have n1 : h₀.get? (h₀.objs.size + 1) = none := Heap.get?_none_of_le (Nat.le_succ _)
  have g0 : ((h₀.push emptyDict).push (instObj 215 h₀.objs.size)).get? h₀.objs.size = some emptyDict := by heap_get
  have g1 : ((h₀.push emptyDict).push (instObj 215 h₀.objs.size)).get? (h₀.objs.size + 1) = some (instObj 215 h₀.objs.size) := by heap_get
  generalize hh : (h₀.push emptyDict).push (instObj 215 h₀.objs.size) = h1 at k g0 g1 ⊢
  have st : h₀.StaysIn (hideAll h1 [h₀.objs.size + 1, h₀.objs.size]) := hide_keeps k fun b hb => by
    rcases List.mem_cons.mp hb with rfl | hb
    · exact n1
    · rw [List.mem_singleton.mp hb]; exact n0
  have X1 := Frag.In.keeps X st
  have X2 := Frag.In.keeps X k
  obtain ⟨loose, mean, mg, mb, T⟩ := S₀.t
  have T1 := T.keeps st
  refine' code_le (A' := AR 12 outer) ?_ rfl (Nat.le_of_ble_eq_true rfl) rfl rfl (Nat.le_of_ble_eq_true rfl)
  refine' enterC (binds := [(Str.ofString "self", .ref (h₀.objs.size + 1)), (Str.ofString "headers", .none)]) [(h₀.objs.size + 1, instObj 215 h₀.objs.size), (h₀.objs.size, emptyDict)] ?hhid ?hX ?hT ?ho ?hcd ?hroom ?hbind ?hloc ?_ ?c1 ?c2 ?c3 ?c4
  case hhid =>
    intro p hp
    rcases List.mem_cons.mp hp with rfl | hp
    · exact g1
    · rw [List.mem_singleton.mp hp]; exact g0
  walk_at "my_enter"
  intro h₁ tk F N
  dsimp only [List.map] at F N
  clear X T X2
  k_fold
  k_steps
  rename Fr _ _ _ _ => F2
  rename News _ _ _ _ => N2
  rename ((h₀.objs.size + 1 : Nat) < _ ∧ _) => hlt
  have nl := N2 _ (.head _)
  have hl0 := free_of st nl.2.2
  refine ⟨rfl, ?_⟩
  exact hQ _ _ _ _ _ _ (fun b o e => F2.keep b o (st b o e)) n1 n0 hl0 (Nat.lt_succ_self _) hlt.1 (N2 _ (.tail _ (.head _))).1 (N2 _ (.tail _ (.tail _ (.head _)))).1 nl.1
end
section
theorem walk_off_n_search : True := by
  w_top off
  trivial
namespace RX
open PySem.Sre
abbrev code3 : Array Nat := #[14, 10, 4, 1, 1, 22, 0, 31, 16, 127, 0, 13, 7, 22, 0, 31, 16, 127, 0, 1]
abbrev code4 : Array Nat := #[14, 14, 4, 1, 1, 9, 4294966783, 0, 0, 2147483648, 0, 0, 0, 0, 0, 13, 11, 9, 4294966783, 0, 0, 2147483648, 0, 0, 0, 0, 0, 1]
/-- figures, x y z, X Y Z -/
def plain : List Nat := [48, 49, 50, 51, 52, 53, 54, 55, 56, 57, 120, 121, 122, 88, 89, 90]
theorem set3 (c : Nat) (hc : c ∈ plain) (seen : Sre.Seen) : ∃ seen', inSet code3 c code3.size 5 true seen = .ok (false, seen') := by
  simp only [plain, List.mem_cons, List.not_mem_nil, or_false] at hc
  rcases hc with rfl | rfl | rfl | rfl | rfl | rfl | rfl | rfl | rfl | rfl | rfl | rfl | rfl | rfl | rfl | rfl <;> exact ⟨_, rfl⟩
theorem set4 (c : Nat) (hc : c ∈ plain) (seen : Sre.Seen) : ∃ seen', inSet code4 c code4.size 5 true seen = .ok (false, seen') := by
  simp only [plain, List.mem_cons, List.not_mem_nil, or_false] at hc
  rcases hc with rfl | rfl | rfl | rfl | rfl | rfl | rfl | rfl | rfl | rfl | rfl | rfl | rfl | rfl | rfl | rfl <;> exact ⟨_, rfl⟩
theorem adm_none {code text : Array Nat} {lim : Nat} (hset : ∀ c ∈ plain, ∀ seen, ∃ seen', inSet code c code.size 5 true seen = .ok (false, seen')) (ht : ∀ i, i < lim → text.getD i 0 ∈ plain) (m : Sre.M) (hm : m.code = code) (htx : m.text = text) (hl : m.lim = lim) : ∀ (n s : Nat) (seen : Sre.Seen), ∃ seen', Sre.M.admitted m n s seen = .ok (none, seen')
  | 0, s, seen => ⟨seen, rfl⟩
  | n + 1, s, seen => by
    unfold Sre.M.admitted
    by_cases h1 : s ≥ m.lim
    · rw [if_pos h1]; exact ⟨_, rfl⟩
    rw [if_neg h1, hm, htx]
    obtain ⟨sn, e⟩ := hset _ (ht s (by omega)) seen
    rw [e]
    exact adm_none hset ht m hm htx hl n (s + 1) sn
theorem search3 {text : Array Nat} (ht : ∀ i, i < text.size → text.getD i 0 ∈ plain) : EndsIn 20 (forSearch code3 text 0 0 text.size false) none := by
  have key : EndsIn 20 (if (decide (0 > text.size) || decide (text.size - 0 < 1)) = true then (fresh' code3 text 0).say false else ({ fresh' code3 text 0 with lastStart := text.size } : Sre.M).attemptFrom 0 true) none := by
    split
    · exact (EndsIn.step (n := 0) (EndsIn.now rfl)).more (by omega)
    · obtain ⟨sn, e⟩ := adm_none set3 ht ({ fresh' code3 text 0 with lastStart := text.size } : Sre.M) rfl rfl rfl (text.size + 1 - 0) 0 (({} : Sre.Seen).add 14)
      show EndsIn 20 (match Sre.M.admitted ({ fresh' code3 text 0 with lastStart := text.size } : Sre.M) (text.size + 1 - 0) 0 (({} : Sre.Seen).add 14) with | .ok (some s, seen) => _ | .ok (none, seen) => _ | .error why => _) _
      rw [e]
      exact (EndsIn.step (n := 0) (EndsIn.now rfl)).more (by omega)
  exact key
theorem search4 {text : Array Nat} (ht : ∀ i, i < text.size → text.getD i 0 ∈ plain) : EndsIn 20 (forSearch code4 text 0 0 text.size false) none := by
  have key : EndsIn 20 (if (decide (0 > text.size) || decide (text.size - 0 < 1)) = true then (fresh' code4 text 0).say false else ({ fresh' code4 text 0 with lastStart := text.size } : Sre.M).attemptFrom 0 true) none := by
    split
    · exact (EndsIn.step (n := 0) (EndsIn.now rfl)).more (by omega)
    · obtain ⟨sn, e⟩ := adm_none set4 ht ({ fresh' code4 text 0 with lastStart := text.size } : Sre.M) rfl rfl rfl (text.size + 1 - 0) 0 (({} : Sre.Seen).add 14)
      show EndsIn 20 (match Sre.M.admitted ({ fresh' code4 text 0 with lastStart := text.size } : Sre.M) (text.size + 1 - 0) 0 (({} : Sre.Seen).add 14) with | .ok (some s, seen) => _ | .ok (none, seen) => _ | .error why => _) _
      rw [e]
      exact (EndsIn.step (n := 0) (EndsIn.now rfl)).more (by omega)
  exact key
end RX
section rx
open PySem.Builtin PySem.Builtin.Re
variable {prog : Program} {w : World} {A : Around} {E : Value → Shared → Prop} {s : Shared}
theorem rx_search {p : Addr} {code : Array Nat} {text : List Nat} {t : Tok} {k : Nat} {Q : Value → Shared → Prop} (P : IsPat s.heap p code) (hlen : text.length < 1000)
    (he : RX.EndsIn k (Sre.forSearch code (S text).cps 0 0 (S text).cps.size false) none) (hk : k ≤ 1000000) (h : Q .none s) :
    wpAny (model prog w) A (call (.builtin "re.Pattern.search") [.ref p, .str (S text) t]) Q E s := by
  obtain ⟨o, f0, f1, t', f3, f4, c, oc, items, n, u', h1, h2, h3, h4, h5, h6, h7⟩ := id P
  refine wpAny_call (codeAny_call_builtin PF.slot_search.plain PF.entry_search (PF.slot_search.check _ _ _ _ _ _ _ _ ⟨o, h1, h2⟩ (PF.args_search _ _) ?_))
  unfold «re.Pattern.search» reTarget
  dsimp only
  refine wpAny_bind ?_
  refine wpAny_bind (m := reNamed _ _ _ _ _ _) (wpAny_of_eq (a := [some (Value.str (S text) t), none, none]) (by first | rfl | kernel_rfl!) ?_)
  dsimp only
  refine wpAny_bind (m := (pure 0 : Sem Int)) (wpAny_pure ?_)
  refine wpAny_bind (m := (pure (2 ^ 63 - 1) : Sem Int)) (wpAny_pure ?_)
  refine wpAny_bind (rx_fields h1 h4 ?_)
  refine wpAny_bind (m := reTextOf _) (wpAny_bind (m := asStr? _) (wpAny_pure (wpAny_pure ?_)))
  dsimp only
  rw [if_neg (by intro q; exact Bool.false_ne_true (Bool.and_eq_true _ _ ▸ q).2)]
  rw [if_neg (by intro q; exact Bool.false_ne_true (Bool.and_eq_true _ _ ▸ q).1)]
  refine wpAny_bind (m := reNoCollectionInside _ _) (wpAny_pure ?_)
  refine wpAny_bind (rx_items h5 h6 ?_)
  refine wpAny_pure ?_
  rw [h7]
  unfold reAnswer
  have e1 : min (0 : Int).toNat (S text).cps.size = 0 := by simp
  have e2 : min (2 ^ 63 - 1 : Int).toNat (S text).cps.size = (S text).cps.size := by
    have : (S text).cps.size = text.length := by simp [S]
    rw [this]
    have : (2 ^ 63 - 1 : Int).toNat = 9223372036854775807 := rfl
    omega
  refine wpAny_bind ?_
  dsimp only
  rw [e1, e2]
  refine rx_none he hk ?_
  exact wpAny_pure h
end rx
end
section
theorem walk_off_n_conv : True := by
  w_top off
  trivial
theorem pat_3 {w : World} {h : Heap} (X : (fragOnce.heap_1 w.params).In h) : IsPat h 81 RX.code3 := by
  refine' IsPat.of (X 81 _ ?a) (X 80 _ ?b) ?c
  case a => k_dflt k_is
  case b => k_dflt k_is
  case c => simp [Builtin.Re.reRawOf]
theorem pat_4 {w : World} {h : Heap} (X : (fragOnce.heap_1 w.params).In h) : IsPat h 86 RX.code4 := by
  refine' IsPat.of (X 86 _ ?a) (X 85 _ ?b) ?c
  case a => k_dflt k_is
  case b => k_dflt k_is
  case c => simp [Builtin.Re.reRawOf]
theorem plain_at {v : List Nat} (hv : ∀ c ∈ v, c ∈ RX.plain) : ∀ i, i < (S v).cps.size → (S v).cps.getD i 0 ∈ RX.plain := fun i hi => by
  rw [S_getD, List.getD_eq_getElem?_getD]
  have hi' : i < v.length := by simpa [S] using hi
  rw [List.getElem?_eq_getElem hi']
  exact hv _ (List.getElem_mem hi')
local macro_rules | `(tactic| walk_at "getMethod ref") => `(tactic| (with_reducible show wpAny _ _ (getMethod (Value.ref _) _ _) _ _ _; (first | refine rx_method_search (IsPat.keeps (pat_3 (by assumption)) (Fr.keep (by assumption))) ?_ | refine rx_method_search (IsPat.keeps (pat_4 (by assumption)) (Fr.keep (by assumption))) ?_)))
local macro_rules | `(tactic| walk_at "call builtin:re.Pattern.search") => `(tactic| (first | refine rx_search (k := 20) (IsPat.keeps (pat_3 (by assumption)) (Fr.keep (by assumption))) (by assumption) (RX.search3 (plain_at (by assumption))) (by decide) ?_ | refine rx_search (k := 20) (IsPat.keeps (pat_4 (by assumption)) (Fr.keep (by assumption))) (by assumption) (RX.search4 (plain_at (by assumption))) (by decide) ?_))
theorem conv_spec {prog : Program} {w : World} {outer : List Env} {h₀ : Heap} {gens : Array GenState} {drawn : Drawn} {toks : Nat} {os : OsState} {E : Value → Shared → Prop} {Q : Value → Shared → Prop} {v : List Nat} {t0 : Tok} {b : Bool} {x : Addr}
    (S₀ : Std w outer h₀) (hl : v.length < 1000) (hv : ∀ c ∈ v, c ∈ RX.plain)
    (hQ : ∀ h' tk', (∀ b o, h₀.get? b = some o → h'.get? b = some o) → Q (.str (S v) t0) ⟨h', gens, drawn, tk', os⟩) :
    wpAny (model prog w) (AR 20 outer) (call (.ref 116) [.ref x, .str (S v) t0] [(Str.ofString "name", .bool b)]) Q E ⟨h₀, gens, drawn, toks, os⟩ := by
  have X := S₀.k
  obtain ⟨loose, mean, mg, mb, T⟩ := S₀.t
  refine' enter (binds := [(Str.ofString "self", .ref x), (Str.ofString "value", .str (S v) t0), (Str.ofString "name", .bool b)]) ?hX ?hT ?ho ?hcd ?hroom ?hbind ?hloc ?_ ?c1 ?c2 ?c3 ?c4
  walk_at "my_enter"
  intro h₁ tk F N
  k_fold
  cases b
  all_goals k_steps
  all_goals (rename Fr _ _ _ _ => F2)
  all_goals (have r := hQ _ tk F2.keep)
  all_goals exact r
end
section
theorem walk_off_n_add : True := by
  w_top off
  trivial
/-- entering a def that takes **more, none given -/
theorem enterK {prog : Program} {w : World} {dp un : Nat} {gd : Option (List Code)} {outer : List Env} {h₀ : Heap} {gens : Array GenState} {drawn : Drawn} {toks : Nat} {os : OsState} {f : Addr} {pos : List Value} {kw : List (Str × Value)} {E : Value → Shared → Prop} {Q : Value → Shared → Prop} {K : Frag}
    {name qual : Str} {params : Arguments} {body : List Stmt} {scope : Scope} {dV kV doc pm cdv ct oc : Value} {an od : Option Addr} {osl : Array (Option Value)} {binds : Addr → List (Str × Value)} (hid : List (Addr × Obj))
    (hhid : ∀ p ∈ hid, h₀.get? p.1 = some p.2)
    (hK : K.In (hideAll h₀ (hid.map (·.1)))) (hT : ∃ p loose mean mg mb, Top p loose mean mg mb (hideAll h₀ (hid.map (·.1))))
    (ho : K.lookup f = some ⟨oc, od, .func (fnOf name qual params body scope dV kV doc pm an cdv ct), osl⟩) (hcd : codeIn K cdv qual = true)
    (hroom : dp < recursionLimit)
    (hbind : bindArgs (fnOf name qual params body scope dV kV doc pm an cdv ct) ⟨pos, kw⟩ = .alloc (dictOf [] 0) (fun D => .pure (binds D))) (hloc : ∀ D, ∀ y ∈ binds D, scope.names.lookup y.1 = some .local)
    (h : ∀ h₁ tk, Fr (hideAll h₀ (hid.map (·.1))) (h₀.objs.size + 1) h₁ (fun y => (binds h₀.objs.size).reverse.lookup y) → News (hideAll h₀ (hid.map (·.1))) (h₀.objs.size + 1) h₁ ((h₀.objs.size, dictOf [] 0) :: hid) →
      wpAny (model prog w) { handled := none, depth := dp + 1, frames := some (envOf qual scope (h₀.objs.size + 1) f cdv :: outer), guards := gd, units := un + 3 } (execs body (envOf qual scope (h₀.objs.size + 1) f cdv))
        (fun fl s' => Q (match fl with | .ret v => v | _ => .none) s')
        (fun e s' => wpAny (model prog w) { handled := none, depth := dp + 1, frames := some (envOf qual scope (h₀.objs.size + 1) f cdv :: outer), guards := gd, units := un + 3 } (leaving (envOf qual scope (h₀.objs.size + 1) f cdv) e) (fun _ s'' => E e s'') (fun e' s'' => E e' s'') s')
        ⟨h₁, gens, drawn, tk, os⟩)
    (hcell : ∀ x ∈ scope.names, x.2 ≠ .cell) (hco : scope.isCoroutine = false) (hgen : scope.isGenerator = false) (hk : scope.kind = .function) :
    wpAny (model prog w) { handled := none, depth := dp, frames := some outer, guards := gd, units := un } (call (.ref f) pos kw) Q E ⟨h₀, gens, drawn, toks, os⟩ := by
  obtain ⟨p, loose, mean, mg, mb, T⟩ := hT
  have up : ∀ b o, (hideAll h₀ (hid.map (·.1))).get? b = some o → h₀.get? b = some o := fun b o e => of_hideAll _ e
  have hK' : K.In h₀ := fun a o e => up _ _ (hK a o e)
  have T' := T.keeps up
  have up2 : ∀ b o, h₀.get? b = some o → (h₀.push (dictOf [] 0)).get? b = some o := fun b o e => Heap.get?_push_of_some _ e
  have T2 := T'.keeps up2
  refine wpAny_call ?_
  refine codeAny_call_function (fd := fnOf name qual params body scope dV kV doc pm an cdv ct) (body := body) hroom (hK' _ _ ho) rfl hco hgen rfl (codeRec_of hK' hcd) ?_
  rw [hbind]
  show wpAny _ _ (alloc (dictOf [] 0) >>= fun D => pure (binds D)) _ _ _
  refine wpAny_bind (wpAny_alloc (wpAny_pure ?_))
  refine wpAny_newFunctionEnv hcell (hloc _) (fun h₁ hns hsb => ⟨T2.nolimit.fresh _ hsb, codeAny_func ?_⟩) hk
  have hsz : (h₀.push (dictOf [] 0)).objs.size = h₀.objs.size + 1 := Heap.size_push ..
  have hns' := hns
  dsimp only at hns hsb ⊢
  rw [hsz] at hns hsb
  have hk₁ : ∀ b o, (h₀.push (dictOf [] 0)).get? b = some o → h₁.get? b = some o := fun b o e => hsb.extBut b o (by
    have := Heap.lt_size e
    rw [hsz] at this
    exact Nat.ne_of_lt this) (Heap.get?_push_of_some _ e)
  have r := h h₁ (toks + (binds h₀.objs.size).length) ⟨hns, fun b o e => hk₁ _ _ (up2 _ _ (up b o e)), Nat.le_succ_of_le (Nat.le_of_eq (hideAll_size _ _))⟩ (fun q hq => by
    rcases List.mem_cons.mp hq with rfl | hq
    · refine ⟨hk₁ _ _ (Heap.get?_push_size _ rfl), Nat.ne_of_lt (Nat.lt_succ_self _), ?_⟩
      exact Heap.get?_none_of_le (Nat.le_of_eq (hideAll_size _ _))
    · exact ⟨hk₁ _ _ (up2 _ _ (hhid q hq)), Nat.ne_of_lt (Nat.lt_succ_of_lt (Heap.lt_size (hhid q hq))), hideAll_none _ (List.mem_map_of_mem hq)⟩)
  rw [hsz]
  exact r
end
section
theorem walk_off_n_add2 : True := by
  w_top off
  trivial
theorem join1 {prog : Program} {w : World} {A : Around} {E : Value → Shared → Prop} {s : Shared} {D : Addr} {its : Array Value} {n : Nat} {v : List Nat} {t1 t : Tok} {sep : Str} {Q : Value → Shared → Prop} (hD : s.heap.get? D = some (listOf its n)) (hi : its = #[.str (S v) t1]) (hs : sep.length ≤ 16) (hv : v.length < 1000)
    (h : ∀ t' k, Q (.str (S v) t') { s with toks := k }) : wpAny (model prog w) A (call (.builtin "str.join") [.str sep t, .ref D]) Q E s := by
  subst hi
  refine join_listW (ys := [S v]) ⟨_, hD, rfl, _, rfl⟩ (.cons _ _ .nil) hs ?_ ?_
  · simp only [List.map_cons, List.map_nil, List.sum_cons, List.sum_nil, List.length_cons, List.length_nil]
    rw [S_len]
    omega
  · intro t' k
    have e := join_plain_closes sep [S v]
    rw [beq_iff_eq] at e
    rw [e]
    exact h t' k
local macro_rules | `(tactic| walk_at "call builtin:str.join") => `(tactic| (refine join1 (News.get (by assumption) (.head _)) rfl (by decide +kernel) (by assumption) ?_; intro t' k'))
local macro_rules | `(tactic| walk_at "call ref") => `(tactic| (k_here; (with_reducible show wpAny _ _ (call (Value.ref 116) [Value.ref _, Value.str (S _) _] _) _ _ _); (refine' ar_le (A' := AR 20 _) (conv_spec (std_of (by assumption) (by assumption) rfl rfl) (by assumption) (by assumption) ?_) rfl (Nat.le_of_ble_eq_true rfl) rfl rfl (Nat.le_of_ble_eq_true rfl)); intro h' k' kp; (rename Fr _ _ _ _ => F'); (rename News _ _ _ _ => N'); (replace F' := fr_ext F' kp); (replace N' := news_ext N' kp); clear kp))
theorem add_spec {prog : Program} {w : World} {outer : List Env} {h₀ : Heap} {gens : Array GenState} {drawn : Drawn} {toks : Nat} {os : OsState} {E : Value → Shared → Prop} {Q : Value → Shared → Prop} {nm v : List Nat} {t0 t1 tt : Tok} {x dx l : Addr} {ys : List Value} {n : Nat}
    (S₀ : Std w outer (hideAll h₀ [x, dx, l])) (hx : h₀.get? x = some (instObj 215 dx)) (hd : h₀.get? dx = some (tableO w tt l)) (hl : h₀.get? l = some (listOf ys.toArray n)) (o1 : @LT.lt Nat _ dx x) (o2 : @LT.lt Nat _ x l)
    (hn : nm.length < 1000) (hv : v.length < 1000) (pn : ∀ c ∈ nm, c ∈ RX.plain) (pv : ∀ c ∈ v, c ∈ RX.plain) (hys : ys.length < 1000)
    (hQ : ∀ h' T t' tk', (∀ b o, b ≠ l → b ≠ x → b ≠ dx → h₀.get? b = some o → h'.get? b = some o) → h'.get? x = some (instObj 215 dx) → h'.get? dx = some (tableO w tt l) → h₀.get? T = none → h'.get? T = some (tupO [.str (S nm) t0, .str (S v) t']) → h'.get? l = some (listOf (ys ++ [Value.ref T]).toArray (n + 1)) → Q .none ⟨h', gens, drawn, tk', os⟩) :
    wpAny (model prog w) (AR 10 outer) (call (.ref 212) [.ref x, .str (S nm) t0, .str (S v) t1]) Q E ⟨h₀, gens, drawn, toks, os⟩ := by
  have X := S₀.k
  obtain ⟨loose, mean, mg, mb, T⟩ := S₀.t
  refine' enterK (binds := fun D => [(Str.ofString "self", .ref x), (Str.ofString "_name", .str (S nm) t0), (Str.ofString "_value", .str (S v) t1), (Str.ofString "_params", .ref D)]) [(x, instObj 215 dx), (dx, tableO w tt l), (l, listOf ys.toArray n)] ?hhid ?hX ?hT ?ho ?hcd ?hroom ?hbind ?hloc ?_ ?c1 ?c2 ?c3 ?c4
  case hhid =>
    intro p hp
    rcases List.mem_cons.mp hp with rfl | hp
    · exact hx
    rcases List.mem_cons.mp hp with rfl | hp
    · exact hd
    · rw [List.mem_singleton.mp hp]; exact hl
  case hX => assumption
  case hT => exact ⟨_, _, _, _, _, T⟩
  case ho => k_dflt k_is
  case hcd => k_dflt k_is
  case hroom => decide
  case hbind => exact rfl
  case hloc => exact fun _ => locs rfl
  case c1 => decide
  case c2 => exact rfl
  case c3 => exact rfl
  case c4 => exact rfl
  intro h₁ tk F N
  dsimp only [List.map] at F N
  k_fold
  have hI : (dictOf [] 0).IsDictOf (strKind prog w) [] := kp_isDict (ex := []) 0 0 List.nodup_nil
  have hP : FlatPairs PyData.str [] [] := .nil
  have hS : (h₀.objs.size == sysModules) = false := by
    have := modules_low T.nolimit
    rw [hideAll_size] at this
    exact beq_eq_false_iff_ne.mpr (Nat.ne_of_gt this)
  have o3 : @LT.lt Nat _ l h₀.objs.size := Heap.lt_size hl
  have o4 : @LT.lt Nat _ x h₀.objs.size := Heap.lt_size hx
  have o5 : @LT.lt Nat _ dx h₀.objs.size := Heap.lt_size hd
  have o6 : @LT.lt Nat _ dx l := Nat.lt_trans o1 o2
  obtain ⟨od, hod⟩ : ∃ od, od = dictOf [] 0 := ⟨_, rfl⟩
  rw [← hod] at hI N
  clear hod
  k_steps
  rename Fr _ _ _ _ => F2
  rename News _ _ _ _ => N2
  simp only [List.push_toArray] at N2
  have nT := N2 _ (.head _)
  rename (_ ∧ @LT.lt Nat _ h₀.objs.size _ ∧ _) => hlt
  have r := hQ _ _ _ tk (fun b o hb hx0 hd0 e => F2.keep b o (hideAll_get _ e (by simp [hb, hx0, hd0]))) (N2 _ (.tail _ (.tail _ (.tail _ (.head _))))).1 (N2 _ (.tail _ (.tail _ (.tail _ (.tail _ (.head _)))))).1 (Heap.get?_none_of_le (Nat.le_of_lt hlt.2.1)) nT.1 (N2 _ (.tail _ (.tail _ (.tail _ (.tail _ (.tail _ (.head _))))))).1
  exact r
end
section
theorem walk_off_n_cells : True := by
  w_top off
  trivial
/-- entering a def that has names its blocks close over -/
theorem enterX {prog : Program} {w : World} {dp un : Nat} {gd : Option (List Code)} {outer : List Env} {h₀ : Heap} {gens : Array GenState} {drawn : Drawn} {toks : Nat} {os : OsState} {f : Addr} {pos : List Value} {kw : List (Str × Value)} {E : Value → Shared → Prop} {Q : Value → Shared → Prop} {K : Frag}
    {name qual : Str} {params : Arguments} {body : List Stmt} {scope : Scope} {dV kV doc pm cdv ct oc : Value} {an od : Option Addr} {osl : Array (Option Value)} {binds : List (Str × Value)} (hid : List (Addr × Obj))
    (hhid : ∀ p ∈ hid, h₀.get? p.1 = some p.2)
    (hK : K.In (hideAll h₀ (hid.map (·.1)))) (hT : ∃ p loose mean mg mb, Top p loose mean mg mb (hideAll h₀ (hid.map (·.1))))
    (ho : K.lookup f = some ⟨oc, od, .func (fnOf name qual params body scope dV kV doc pm an cdv ct), osl⟩) (hcd : codeIn K cdv qual = true)
    (hroom : dp < recursionLimit)
    (hbind : BindsTo ⟨h₀, gens, drawn, toks, os⟩ (fnOf name qual params body scope dV kV doc pm an cdv ct) ⟨pos, kw⟩ binds)
    (hkind : (binds.all fun y => scope.names.lookup y.1 == some .local || scope.names.lookup y.1 == some .cell) = true) (hnd : ((cellsFrom 0 scope.names []).map (·.1)).Nodup)
    (h : ∀ h₁ tk cells, Fr (hideAll h₀ (hid.map (·.1))) h₀.objs.size h₁ (bindL (envOfC qual scope h₀.objs.size f cdv).kindOf binds fun _ => none) → News (hideAll h₀ (hid.map (·.1))) h₀.objs.size h₁ (cells ++ hid) →
      CellsAre (bindC (envOfC qual scope h₀.objs.size f cdv).kindOf binds fun _ => none) (cellsFrom (h₀.objs.size + 1) scope.names []) cells → (∀ p ∈ hid, @LT.lt Nat _ p.1 h₀.objs.size) →
      wpAny (model prog w) { handled := none, depth := dp + 1, frames := some (envOfC qual scope h₀.objs.size f cdv :: outer), guards := gd, units := un + 3 } (execs body (envOfC qual scope h₀.objs.size f cdv))
        (fun fl s' => Q (match fl with | .ret v => v | _ => .none) s')
        (fun e s' => wpAny (model prog w) { handled := none, depth := dp + 1, frames := some (envOfC qual scope h₀.objs.size f cdv :: outer), guards := gd, units := un + 3 } (leaving (envOfC qual scope h₀.objs.size f cdv) e) (fun _ s'' => E e s'') (fun e' s'' => E e' s'') s')
        ⟨h₁, gens, drawn, tk, os⟩)
    (hco : scope.isCoroutine = false) (hgen : scope.isGenerator = false) (hk : scope.kind = .function) :
    wpAny (model prog w) { handled := none, depth := dp, frames := some outer, guards := gd, units := un } (call (.ref f) pos kw) Q E ⟨h₀, gens, drawn, toks, os⟩ := by
  obtain ⟨p, loose, mean, mg, mb, T⟩ := hT
  have up : ∀ b o, (hideAll h₀ (hid.map (·.1))).get? b = some o → h₀.get? b = some o := fun b o e => of_hideAll _ e
  have hK' : K.In h₀ := fun a o e => up _ _ (hK a o e)
  have T' := T.keeps up
  refine wpAny_call ?_
  refine codeAny_call_function (fd := fnOf name qual params body scope dV kV doc pm an cdv ct) (body := body) hroom (hK' _ _ ho) rfl hco hgen rfl (codeRec_of hK' hcd) (hbind _ _ _ _ ?_)
  refine wpAny_newFunctionEnv_cells hk (kindsX hkind _) fun env' he s' x => ?_
  subst he
  refine ⟨T'.nolimit.keeps x.toInCall.keep, codeAny_func ?_⟩
  obtain ⟨h₁, tk, rfl, _⟩ := x.done
  have hk₁ := x.toInCall.keep
  obtain ⟨cells, NC, Y⟩ := Cl.news (h₀ := h₀) (Nat.le_refl _) fun n c hm => ⟨x.cell n c (lookup_of_mem_nodup (cellsFrom_names scope.names 0 (h₀.objs.size + 1) [] [] rfl ▸ hnd) hm), x.above n c hm⟩
  have r := h h₁ tk cells ⟨x.toInCall.ns, fun b o e => hk₁ b o (up b o e), Nat.le_of_eq (hideAll_size _ _)⟩ (fun p hp => ?_) Y (fun p hp => Heap.lt_size (hhid p hp))
  · exact r
  rcases List.mem_append.mp hp with hp | hp
  · refine ⟨(NC p hp).1, (NC p hp).2.1, ?_⟩
    cases q : (hideAll h₀ (hid.map (·.1))).get? p.1 with
    | none => rfl
    | some o => have := up _ _ q; rw [(NC p hp).2.2] at this; cases this
  · exact ⟨hk₁ _ _ (hhid p hp), Nat.ne_of_lt (Heap.lt_size (hhid p hp)), hideAll_none _ (List.mem_map_of_mem hp)⟩
end
section
theorem walk_off_n_get : True := by
  w_top off
  trivial
theorem lower_name {c k : Nat} (hc : c ∈ alphabet) : Txt.lower (S (nameOf c k)) = S (lowN c) := by
  simp only [alphabet, List.mem_cons, List.not_mem_nil, or_false] at hc
  unfold nameOf
  split <;> rcases hc with rfl | rfl | rfl | rfl | rfl <;> decide +kernel
theorem name_len {c k : Nat} (hc : c ∈ alphabet) : (nameOf c k).length ≤ 3 := by
  simp only [alphabet, List.mem_cons, List.not_mem_nil, or_false] at hc
  unfold nameOf
  split <;> rcases hc with rfl | rfl | rfl | rfl | rfl <;> decide
theorem name_plain {c k : Nat} (hc : c ∈ alphabet) : ∀ d ∈ nameOf c k, d ∈ RX.plain := by
  simp only [alphabet, List.mem_cons, List.not_mem_nil, or_false] at hc
  unfold nameOf
  split <;> rcases hc with rfl | rfl | rfl | rfl | rfl <;> decide
theorem low_plain {c : Nat} (hc : c ∈ alphabet) : ∀ d ∈ lowN c, d ∈ RX.plain := by
  simp only [alphabet, List.mem_cons, List.not_mem_nil, or_false] at hc
  rcases hc with rfl | rfl | rfl | rfl | rfl <;> decide
theorem low_len {c : Nat} (hc : c ∈ alphabet) : (lowN c).length < 1000 := by
  simp only [alphabet, List.mem_cons, List.not_mem_nil, or_false] at hc
  rcases hc with rfl | rfl | rfl | rfl | rfl <;> decide
theorem low_inj {c d : Nat} (hc : c ∈ alphabet) (hd : d ∈ alphabet) : (lowN c == lowN d) = (c == d) := by
  simp only [alphabet, List.mem_cons, List.not_mem_nil, or_false] at hc hd
  rcases hc with rfl | rfl | rfl | rfl | rfl <;> rcases hd with rfl | rfl | rfl | rfl | rfl <;> decide
theorem lowerS {prog : Program} {w : World} {A : Around} {E : Value → Shared → Prop} {s : Shared} {c k : Nat} {t : Tok} {Q : Value → Shared → Prop} (hc : c ∈ alphabet) (h : Q (.str (S (lowN c)) s.toks) { s with toks := s.toks + 1 }) :
    wpAny (model prog w) A (call (.builtin "str.lower") [.str (S (nameOf c k)) t]) Q E s := by
  refine SCL.lower (by rw [S_len]; have := name_len (k := k) hc; omega) fun _ => ?_
  rw [lower_name hc]
  exact h
/-- the table's rows, as they lie in a heap -/
def Rows (h : Heap) (sent : List Nat) (ds : Nat → List Nat) (n : Nat) (ys : List Value) : Prop :=
  ys.length = n ∧ ∀ i, i < n → ∃ T t t', ys[i]? = some (.ref T) ∧ h.get? T = some (tupO [.str (S (nameOf (sent.getD i 0) i)) t, .str (S (ds i)) t'])
theorem Rows.keeps {h h' : Heap} {sent : List Nat} {ds : Nat → List Nat} {n : Nat} {ys : List Value} (r : Rows h sent ds n ys) (k : ∀ b o, h.get? b = some o → h'.get? b = some o) : Rows h' sent ds n ys :=
  ⟨r.1, fun i hi => let ⟨T, t, t', a, b⟩ := r.2 i hi; ⟨T, t, t', a, k _ _ b⟩⟩
local macro_rules | `(tactic| walk_at "call builtin:str.lower") => `(tactic| (refine lowerS (by assumption) ?_))
local macro_rules | `(tactic| walk_at "call ref") => `(tactic| (k_here; (with_reducible show wpAny _ _ (call (Value.ref 116) [Value.ref _, Value.str (S _) _] _) _ _ _); (refine' ar_le (A' := AR 20 _) (conv_spec (std_of (by assumption) (by assumption) rfl rfl) (by assumption) (by assumption) ?_) rfl (Nat.le_of_ble_eq_true rfl) rfl rfl (Nat.le_of_ble_eq_true rfl)); intro h' k' kp; (rename Fr _ _ _ _ => F'); (rename News _ _ _ _ => N'); (replace F' := fr_ext F' kp); (replace N' := news_ext N' kp); clear kp))
local macro_rules | `(tactic| walk_at "eval ListComp") => `(tactic| (refine stop_of ?_))
local macro_rules | `(tactic| walk_at "CompSrcT") => `(tactic| (refine stop_of ?_))
local macro_rules | `(tactic| walk_at "CEnd") => `(tactic| (refine stop_of ?_))
local macro_rules | `(tactic| walk_at "subscriptTail") => `(tactic| ((with_reducible show wpAny _ _ (subscriptTail _ _ (Value.ref _) (Value.int _ _)) _ _ _); (rename (Heap.get? _ _ = some (tupO _)) => hT'); (refine item_tupleL (l := [_, _]) ⟨_, Fr.keep (by assumption) _ _ hT', rfl, _, rfl⟩ (by decide) (by decide) rfl rfl ?_)))
theorem get_spec {prog : Program} {w : World} {outer : List Env} {h₀ : Heap} {gens : Array GenState} {drawn : Drawn} {toks : Nat} {os : OsState} {E : Value → Shared → Prop} {Q : Value → Shared → Prop} {sent : List Nat} {ds : Nat → List Nat} {c : Nat} {t0 tt : Tok} {x dx l : Addr} {ys : List Value} {n : Nat}
    (S₀ : Std w outer (hideAll h₀ [x, dx, l])) (hx : h₀.get? x = some (instObj 215 dx)) (hd : h₀.get? dx = some (tableO w tt l)) (hl : h₀.get? l = some (listOf ys.toArray n)) (o1 : @LT.lt Nat _ dx x) (o2 : @LT.lt Nat _ x l)
    (hc : c ∈ alphabet) (hal : ∀ c ∈ sent, c ∈ alphabet) (hs : sent.length < 1000) (hr : Rows (hideAll h₀ [x, dx, l]) sent ds sent.length ys)
    (hQ : ∀ h' D vs n' tk', (∀ b o, h₀.get? b = some o → h'.get? b = some o) → h₀.get? D = none → h'.get? D = some (listOf (List.toArray vs) n') → All2 (fun i y => ∃ t, y = Value.str (S (ds i)) t) (posN sent c) vs → Q (.ref D) ⟨h', gens, drawn, tk', os⟩) :
    wpAny (model prog w) (AR 10 outer) (call (.ref 154) [.ref x, .str (S (nameOf c 0)) t0]) Q E ⟨h₀, gens, drawn, toks, os⟩ := by
  have X := S₀.k
  obtain ⟨loose, mean, mg, mb, T⟩ := S₀.t
  have l1 := low_len hc
  have l2 := low_plain hc
  refine' enterX (binds := [(Str.ofString "self", .ref x), (Str.ofString "name", .str (S (nameOf c 0)) t0)]) [(x, instObj 215 dx), (dx, tableO w tt l), (l, listOf ys.toArray n)] ?hhid ?hX ?hT ?ho ?hcd ?hroom ?hbind ?hkind ?hnd ?_ ?c2 ?c3 ?c4
  case hhid =>
    intro p hp
    rcases List.mem_cons.mp hp with rfl | hp
    · exact hx
    rcases List.mem_cons.mp hp with rfl | hp
    · exact hd
    · rw [List.mem_singleton.mp hp]; exact hl
  case hX => assumption
  case hT => exact ⟨_, _, _, _, _, T⟩
  case ho => k_dflt k_is
  case hcd => k_dflt k_is
  case hroom => decide
  case hbind => exact BindsTo.of_eq rfl
  case hkind => exact rfl
  case hnd => decide +kernel
  case c2 => exact rfl
  case c3 => exact rfl
  case c4 => exact rfl
  intro h₁ tk cells F N Y lt
  dsimp only [List.map] at F N
  k_fold
  k_cells Y
  simp only [List.cons_append, List.nil_append] at N
  have o3 : @LT.lt Nat _ l h₀.objs.size := Heap.lt_size hl
  have o4 : @LT.lt Nat _ x h₀.objs.size := Heap.lt_size hx
  have o5 : @LT.lt Nat _ dx h₀.objs.size := Heap.lt_size hd
  have o6 : @LT.lt Nat _ dx l := Nat.lt_trans o1 o2
  k_steps
  unfold Stop
  refine LCt.ListComp_T (F₀ := by assumption) (by with_unfolding_all rfl) (by decide) (by rfl) (by decide) (by rfl) ?_
  k_steps
  unfold Stop
  rename Fr _ _ _ _ => F1
  rename News _ _ _ _ => N1
  refine' LCt.CompSrcT.ledger (its := ys.toArray) (k := n) rfl F1 N1 ?hm ?sz fun g => ?_
  case hm => k_mem
  case sz => rw [List.size_toArray, hr.1, sizeLine_eq]; omega
  refine' comp_if (fun i => sent.getD i 0 == c) (fun i y => ∃ t, y = .str (S (ds i)) t) (.inr ⟨listOf ys.toArray n, ?hm2, rfl, _, rfl⟩) ?turn ?fin
  case hm2 => k_mem
  case turn =>
    clear F1 N1
    rintro i v zs I oI C oC D m₂ h tk E' hi hv hC hx F N off ne
    have hi' : i < sent.length := by rw [← hr.1]; simpa using hi
    obtain ⟨T0, t1, t2, e1, e2⟩ := hr.2 i hi'
    rw [List.getElem?_toArray, e1] at hv
    obtain rfl := Option.some.inj hv
    have hci : sent.getD i 0 ∈ alphabet := hal _ (by rw [List.getD_eq_getElem?_getD, List.getElem?_eq_getElem hi']; exact List.getElem_mem hi')
    k_steps
    · rename Fr _ _ _ _ => F2
      rename News _ _ _ _ => N2
      rename ((lowN _ == lowN _) = true) => hq
      rw [low_inj hci hc] at hq
      exact cend F2 N2 (fun _ hp => hp) ⟨hq, _, rfl⟩
    · rename Fr _ _ _ _ => F2
      rename News _ _ _ _ => N2
      rename ((lowN _ == lowN _) = false) => hq
      rw [low_inj hci hc] at hq
      exact cend F2 N2 (fun _ hp => hp) hq
  case fin =>
    intro vs hvs
    rw [List.size_toArray, hr.1] at hvs
    intro D h tk F2 N2 off1
    clear F1 N1
    k_steps
    have nD := N2 _ (.head _)
    have nx := (N2 _ (.tail _ (.tail _ (.head _)))).1
    have nd := (N2 _ (.tail _ (.tail _ (.tail _ (.head _))))).1
    have nl := (N2 _ (.tail _ (.tail _ (.tail _ (.tail _ (.head _)))))).1
    dsimp only at nD nx nd nl
    obtain ⟨_, u1, u2, u3, _⟩ := off1
    have r := hQ h D vs vs.length tk (fun b o e => by
      by_cases q1 : b = x
      · rw [q1, hx] at e; rw [q1, nx]; exact e
      by_cases q2 : b = dx
      · rw [q2, hd] at e; rw [q2, nd]; exact e
      by_cases q3 : b = l
      · rw [q3, hl] at e; rw [q3, nl]; exact e
      exact F2.keep b o (hideAll_get _ e (by simp [q1, q2, q3]))) (by
      cases q : h₀.get? D with
      | none => rfl
      | some o =>
        have := hideAll_get [x, dx, l] q (by
          intro z
          rcases List.mem_cons.mp z with z | z
          · exact u1 z.symm
          rcases List.mem_cons.mp z with z | z
          · exact u2 z.symm
          · exact u3 (List.mem_singleton.mp z).symm)
        rw [nD.2.2] at this; cases this) nD.1 hvs
    exact r
end
section
theorem walk_off_n_loop : True := by
  w_top off
  trivial
section loopG
variable {prog : Program} {w : World} {A : Around} {E : Value → Shared → Prop} {s : Shared} {env : Env} {h₀ : Heap} {x : Str} {body : List Stmt} {Q : Flow → Shared → Prop}
/-- a turn's end, the ledger may have grown -/
structure TEndG {σ : Type} (h₀ : Heap) (L : Addr) (Led : σ → List (Addr × Obj)) (ps : σ → List (Str × Value)) (P : σ → Prop) (I : Addr) (oI : Obj) (s₁ s₂ : Shared) : Prop where
  it : ∃ (c : σ) (h' : Heap) (tk : Nat) (m' : Str → Option Value) (news' : List (Addr × Obj)), s₂ = { s₁ with heap := h', toks := tk } ∧ Fr h₀ L h' m' ∧ News h₀ L h' news' ∧ (∀ p ∈ Led c, p ∈ news') ∧ (I, oI) ∈ news' ∧ (∀ p ∈ Led c, p.1 ≠ I) ∧ (∀ p ∈ ps c, m' p.1 = some p.2) ∧ P c
def TPostG {σ : Type} (h₀ : Heap) (L : Addr) (Led : σ → List (Addr × Obj)) (ps : σ → List (Str × Value)) (P : σ → Prop) (I : Addr) (oI : Obj) (s₁ : Shared) (Q : Flow → Shared → Prop) (f : Flow) (s₂ : Shared) : Prop :=
  match f with
  | .ret v => Q (.ret v) s₂
  | .brk => Q .next s₂
  | _ => TEndG h₀ L Led ps P I oI s₁ s₂
theorem tendG {σ : Type} {L : Addr} {Led : σ → List (Addr × Obj)} {ps : σ → List (Str × Value)} {P : σ → Prop} {I : Addr} {oI : Obj} {s₁ : Shared} {h' : Heap} {tk : Nat} {m' : Str → Option Value} {news' : List (Addr × Obj)} (c : σ)
    (F : Fr h₀ L h' m') (N : News h₀ L h' news') (hn : ∀ p ∈ Led c, p ∈ news') (ho : (I, oI) ∈ news') (hI : ∀ p ∈ Led c, p.1 ≠ I) (hp : ∀ p ∈ ps c, m' p.1 = some p.2) (hP : P c) : TEndG h₀ L Led ps P I oI s₁ { s₁ with heap := h', toks := tk } :=
  ⟨c, h', tk, m', news', rfl, F, N, hn, ho, hI, hp, hP⟩
theorem my_walkG {σ : Type} {I : Addr} {n : Nat} {Pv : Nat → Value → Prop} {St : Nat → Heap → Prop} {m₀ : Str → Option Value} (Led : σ → List (Addr × Obj)) (ps : σ → List (Str × Value)) (P : Nat → σ → Prop) (c₀ : σ)
    (W : Walks prog w A I [I] [I] n Pv St) (hLf : env.locals ≠ I) (hwr : h₀.get? I = none) (hnw : ∀ p ∈ Led c₀, p.1 ≠ I) (hst : St 0 s.heap) (hSt : ∀ i h, St i h → ∃ o, h.get? I = some o) (F : Fr h₀ env.locals s.heap m₀) (N : News h₀ env.locals s.heap (Led c₀))
    (hk : ∀ p ∈ ps c₀, m₀ p.1 = some p.2) (hp : P 0 c₀)
    (turn : ∀ i v (c : σ) (u : Str → Option Value) h tk oI, i < n → Pv i v → (∀ p ∈ Led c, p.1 ≠ I) → P i c → Fr h₀ env.locals h (kstB u ((x, v) :: ps c)) → News h₀ env.locals h (Led c ++ [(I, oI)]) →
      wpAny (model prog w) A (execs body env) (TPostG h₀ env.locals Led ps (P (i + 1)) I oI { s with heap := h, toks := tk } Q) E { s with heap := h, toks := tk })
    (done : ∀ (c : σ) (u : Str → Option Value) h tk, P n c → Fr h₀ env.locals h (kstB u (ps c)) → News h₀ env.locals h (Led c) → Q .next { s with heap := h, toks := tk }) :
    LoopAtV prog w A h₀ env x body Q E (.ref I) s := by
  refine ⟨I, [I], [I], n, Pv, St, m₀, Led c₀, fun i m nx => ∃ c : σ, nx = Led c ∧ (∀ p ∈ ps c, m p.1 = some p.2) ∧ P i c, rfl, W, by simpa using hLf, by simpa using hwr, fun p hp => by simpa using hnw p hp, hst, F, N, ⟨c₀, rfl, hk, hp⟩, ?_, ?_⟩
  · rintro i v m₁ news₁ s₁ own ⟨h, tk, rfl⟩ hin hP ⟨c, rfl, hps, hPc⟩ hoff hown1 hown2 hown3 hst' F₁ N₁
    obtain ⟨oI, hI⟩ := hSt _ _ hst'
    have hin' : (I, oI) ∈ own := hown3 I (.head _) hwr oI hI
    have hown : ∀ p ∈ own, p = (I, oI) := fun p hp => by
      have e1 : p.1 = I := by simpa using hown1 p hp
      have e2 := hown2 p hp
      rw [e1] at e2
      have e3 : some p.2 = some oI := e2.symm.trans hI
      obtain ⟨a, b⟩ := p
      cases e1; cases e3; rfl
    have hoff' : ∀ p ∈ Led c, p.1 ≠ I := fun p hp => by simpa using hoff p hp
    refine wpAny_mono (turn i v c m₁ h tk oI hin hP hoff' hPc (fr_named1 F₁ hps) (fun p hp => ?_)) (fun f s₃ q => ?_) fun _ _ e => e
    · rcases List.mem_append.mp hp with hp | hp
      · exact N₁ p (List.mem_append_right _ hp)
      · rw [List.mem_singleton.mp hp]
        exact N₁ _ (List.mem_append_left _ hin')
    · have fin : TEndG h₀ env.locals Led ps (P (i + 1)) I oI { s with heap := h, toks := tk } s₃ → LoopStepU h₀ env.locals [I] own (fun m nx => ∃ c : σ, nx = Led c ∧ (∀ p ∈ ps c, m p.1 = some p.2) ∧ P (i + 1) c) { s with heap := h, toks := tk } .next s₃ := by
        rintro ⟨c', h', tk', m', news', rfl, F', N', hn, ho, hI', hk9, hp9⟩
        refine ⟨rfl, h', tk', m', Led c', rfl, F', fun p hp => ?_, fun p hp => by simpa using hI' p hp, c', rfl, hk9, hp9⟩
        rcases List.mem_append.mp hp with hp | hp
        · rw [hown p hp]; exact N' _ ho
        · exact N' _ (hn p hp)
      cases f with
      | ret v => exact .ret q
      | brk => exact .brk q
      | next => exact .next (fin q)
      | cont => exact .cont (fin q)
  · rintro h' tk m' news' F' N' _ ⟨c, rfl, hps, hPc⟩
    exact done c m' h' tk hPc (fr_named F' hps) N'
theorem my_iter_rangeG {σ : Type} {r : Addr} {b₀ : Int} {t₀ u₀ v₀ : Tok} {n : Nat} {m₀ : Str → Option Value} (Led : σ → List (Addr × Obj)) (ps : σ → List (Str × Value)) (P : Nat → σ → Prop) (c₀ : σ)
    (hh : A.handled = none) (hr : IsRange s.heap r 0 b₀ 1 t₀ u₀ v₀) (hsmall : Builtin.Range.small 0 b₀ 1 = true) (hn : Builtin.Range.rangeSize 0 b₀ 1 = (n : Int))
    (F : Fr h₀ env.locals s.heap m₀) (N : News h₀ env.locals s.heap (Led c₀)) (hk : ∀ p ∈ ps c₀, m₀ p.1 = some p.2) (hp : P 0 c₀)
    (turn : ∀ (i : Nat) t (c : σ) (u : Str → Option Value) h tk I oI, i < n → (∀ p ∈ Led c, p.1 ≠ I) → P i c → Fr h₀ env.locals h (kstB u ((x, .int (i : Int) t) :: ps c)) → News h₀ env.locals h (Led c ++ [(I, oI)]) →
      wpAny (model prog w) A (execs body env) (TPostG h₀ env.locals Led ps (P (i + 1)) I oI { s with heap := h, toks := tk } Q) E { s with heap := h, toks := tk })
    (done : ∀ (c : σ) (u : Str → Option Value) h tk, P n c → Fr h₀ env.locals h (kstB u (ps c)) → News h₀ env.locals h (Led c) → Q .next { s with heap := h, toks := tk }) :
    wpAny (model prog w) A (pyIter (.ref r)) (fun it s₂ => LoopAtV prog w A h₀ env x body Q E it s₂) E s := by
  refine wpAny_pyIter_range hr hsmall ?_
  have W : Walks prog w A s.heap.objs.size [s.heap.objs.size] [s.heap.objs.size] n (fun i v => i < n ∧ ∃ t, v = .int (0 + i * 1) t)
      (fun i h => IsRangeIter h s.heap.objs.size (0 + (i : Nat) * 1) ((n : Int) - (i : Nat)) 1) := (Walks.range hh _ 0 1 n).bound
  refine my_walkG Led ps P c₀ W (Nat.ne_of_lt F.ns.lt) (next_is_new F) (fun p hp => Nat.ne_of_lt (Heap.lt_size (N p hp).1)) (by show IsRangeIter _ _ _ _ _; rw [hn]; simpa using Heap.get?_push_size _ rfl) (fun i h st => ⟨_, st⟩) (F.push _) (fun p hp => ⟨Heap.get?_push_of_some _ (N p hp).1, (N p hp).2⟩) hk hp ?_ ?_
  · rintro i v c u h tk oI hi ⟨_, t, rfl⟩ hoff hp' F₁ N₁
    rw [Int.mul_one, Int.zero_add] at F₁
    exact turn i t c u h tk _ oI hi hoff hp' F₁ N₁
  · exact done
theorem my_iter_strG {σ : Type} {xl : List Nat} {tx : Tok} {m₀ : Str → Option Value} (Led : σ → List (Addr × Obj)) (ps : σ → List (Str × Value)) (P : Nat → σ → Prop) (c₀ : σ)
    (hh : A.handled = none) (hasc : (S xl).cps.all (· < 128) = true) (F : Fr h₀ env.locals s.heap m₀) (N : News h₀ env.locals s.heap (Led c₀)) (hk : ∀ p ∈ ps c₀, m₀ p.1 = some p.2) (hp : P 0 c₀)
    (turn : ∀ (i : Nat) ch t (c : σ) (u : Str → Option Value) h tk I oI, xl[i]? = some ch → (∀ p ∈ Led c, p.1 ≠ I) → P i c → Fr h₀ env.locals h (kstB u ((x, .str (S [ch]) t) :: ps c)) → News h₀ env.locals h (Led c ++ [(I, oI)]) →
      wpAny (model prog w) A (execs body env) (TPostG h₀ env.locals Led ps (P (i + 1)) I oI { s with heap := h, toks := tk } Q) E { s with heap := h, toks := tk })
    (done : ∀ (c : σ) (u : Str → Option Value) h tk, P xl.length c → Fr h₀ env.locals h (kstB u (ps c)) → News h₀ env.locals h (Led c) → Q .next { s with heap := h, toks := tk }) :
    wpAny (model prog w) A (pyIter (.str (S xl) tx)) (fun it s₂ => LoopAtV prog w A h₀ env x body Q E it s₂) E s := by
  refine wpAny_pyIter_ascii hasc ?_
  have hsz : (S xl).cps.size = xl.length := by simp [S]
  have W := Walks.strAscii (prog := prog) (w := w) hh s.heap.objs.size (S xl) tx
  rw [hsz] at W
  refine my_walkG Led ps P c₀ W (Nat.ne_of_lt F.ns.lt) (next_is_new F) (fun p hp => Nat.ne_of_lt (Heap.lt_size (N p hp).1)) ⟨_, Heap.get?_push_size _ rfl, rfl, rfl⟩ (fun i h st => by obtain ⟨o, e, _⟩ := st; exact ⟨o, e⟩) (F.push _) (fun p hp => ⟨Heap.get?_push_of_some _ (N p hp).1, (N p hp).2⟩) hk hp ?_ ?_
  · rintro i v c u h tk oI hi ⟨ch, t, hv, rfl⟩ hoff hp' F₁ N₁
    exact turn i ch t c u h tk _ oI (by simpa [S] using hv) hoff hp' F₁ N₁
  · exact done
end loopG
end
section
theorem walk_off_n_places : True := by
  w_top off
  trivial
def digs (k : Nat) : List Nat := (Str.ofString (toString ((k : Nat) : Int))).cps.toList
theorem digs_S (k : Nat) : Str.ofString (toString ((k : Nat) : Int)) = S (digs k) := S_of _
theorem digs_plain (k : Nat) : ∀ d ∈ digs k, d ∈ RX.plain := by
  intro d hd
  unfold digs at hd
  rw [KIN.signs_num] at hd
  obtain ⟨ch, hch, e⟩ := List.mem_map.mp hd
  have r := digit_range (Nat.isDigit_of_mem_toDigits (by decide) (by decide) hch)
  rw [e] at r
  have : d = 48 ∨ d = 49 ∨ d = 50 ∨ d = 51 ∨ d = 52 ∨ d = 53 ∨ d = 54 ∨ d = 55 ∨ d = 56 ∨ d = 57 := by omega
  rcases this with rfl | rfl | rfl | rfl | rfl | rfl | rfl | rfl | rfl | rfl <;> decide
theorem digs_len {k : Nat} (h : k < 1000) : (digs k).length < 1000 := by
  have := KT.len_num (n := (k : Int)) (by omega) (by omega)
  rw [digs_S, S_len] at this
  omega
theorem int_digs {prog : Program} {w : World} {A : Around} {E : Value → Shared → Prop} {s : Shared} {Q : Value → Shared → Prop} {t : Tok} {k : Nat} (h1 : k < 1000) (h : Q (.int (k : Int) s.toks) { s with toks := s.toks + 1 }) : wpAny (model prog w) A (call (.type "int") [.str (S (digs k)) t]) Q E s := by
  rw [← digs_S]
  exact KIN.call_num (by omega) (by omega) h
theorem std_of' {w : World} {outer : List Env} {h₀ h : Heap} {L : Addr} {m : Str → Option Value} {env : Env} (F : Fr h₀ L h m) (S : Std w outer h₀) (hf : env.frame = some L) (hk : env.scope.kind = .function) : Std w (env :: outer) h := std_of S F hf hk
local macro_rules | `(tactic| walk_at "call ref") => `(tactic| (k_here; refine stop_of ?_))
local macro_rules | `(tactic| walk_at "eval ListComp") => `(tactic| (refine stop_of ?_))
local macro_rules | `(tactic| walk_at "CompSrc") => `(tactic| (refine stop_of ?_))
local macro_rules | `(tactic| walk_at "setItem ref str") => `(tactic| (refine stop_of ?_))
local macro_rules | `(tactic| walk_at "call type:int") => `(tactic| (refine int_digs (by assumption) ?_))
local macro_rules | `(tactic| walk_at "CEnd") => `(tactic| (refine stop_of ?_))
theorem All2.length {R : Nat → Value → Prop} : ∀ {is : List Nat} {ys : List Value}, All2 R is ys → ys.length = is.length
  | _, _, .nil => rfl
  | _, _, .cons _ h => congrArg Nat.succ h.length
theorem All2.get {R : Nat → Value → Prop} : ∀ {is : List Nat} {ys : List Value} {j : Nat} {y : Value}, All2 R is ys → ys[j]? = some y → ∃ k, is[j]? = some k ∧ R k y
  | _, _, j, _, .nil, h => by simp at h
  | _, _, 0, _, .cons r _, h => ⟨_, rfl, by cases h; exact r⟩
  | _, _, j + 1, _, .cons _ t, h => t.get (j := j) (by simpa using h)
theorem valueAt_stored {K : Type} [DecidableEq K] (kvs : List (K × Value)) (k k' : K) (v : Value) : valueAt (stored kvs k v) k' = if k' = k then some v else valueAt kvs k' := by
  have hmap : ∀ l : List (K × Value), valueAt (l.map fun kv => if kv.1 = k then (kv.1, v) else kv) k' = if k' = k ∧ (l.any fun kv => kv.1 = k) = true then some v else valueAt l k' := by
    intro l
    induction l with
    | nil => simp [valueAt]
    | cons a r ih =>
      unfold valueAt at ih ⊢
      rw [List.map_cons, List.find?_cons, List.find?_cons]
      by_cases h1 : a.1 = k
      · rw [if_pos h1]
        by_cases h2 : a.1 = k'
        · have : k' = k := h2.symm.trans h1
          simp [h2, this, h1]
        · have : k' ≠ k := fun q => h2 (h1.trans q.symm)
          simp [h2, this] at ih ⊢
          exact ih
      · rw [if_neg h1]
        by_cases h2 : a.1 = k'
        · have : k' ≠ k := fun q => h1 (h2.trans q)
          simp [h2, this]
        · rw [List.any_cons, decide_eq_false h1, Bool.false_or]
          simp [h2] at ih ⊢
          exact ih
  unfold stored
  by_cases h : (kvs.any fun kv => kv.1 = k) = true
  · rw [if_pos h, hmap]
    simp [h]
  · rw [if_neg h]
    by_cases h2 : k' = k
    · rw [if_pos h2, h2]
      unfold valueAt
      rw [List.find?_append, List.find?_eq_none.mpr]
      · simp
      · intro a ha q
        exact h (List.any_eq_true.mpr ⟨a, ha, q⟩)
    · rw [if_neg h2]
      unfold valueAt
      rw [List.find?_append]
      have : (List.find? (fun kv => decide (kv.1 = k')) [(k, v)]) = none := by simp [Ne.symm h2]
      rw [this, Option.or_none]
theorem off1_ne {D : Addr} {p : Addr × Obj} : ∀ {l : List (Addr × Obj)}, p ∈ l → LCg.Off1 D l → p.1 ≠ D
  | _ :: _, .head _, h => h.1
  | _ :: _, .tail _ hp, h => off1_ne hp h.2
/-- the rows of the table, on the ledger -/
def RowsIn (sent : List Nat) (ys : List Value) (rows : List (Addr × Obj)) (n : Nat) : Prop :=
  ys.length = n ∧ (∀ i, i < n → ∃ T t t', ys[i]? = some (.ref T) ∧ (T, tupO [.str (S (nameOf (sent.getD i 0) i)) t, .str (S (digs i)) t']) ∈ rows) ∧ ∀ p ∈ rows, p.2.cls = .type "tuple"
local macro_rules | `(tactic| walk_at "subscriptTail Name Name str int") => `(tactic| (k_here; (with_reducible show wpAny _ _ (subscriptTail _ _ (Value.str (S _) _) (Value.int (Nat.cast _) _)) _ _ _); (refine' itemN ?k1 ?k2 ?_); (case k1 => walk_at "my_bnd"); (case k2 => walk_at "my_bnd")))
theorem places_spec {prog : Program} {w : World} {outer : List Env} {h₀ : Heap} {gens : Array GenState} {drawn : Drawn} {toks : Nat} {os : OsState} {E : Value → Shared → Prop} {Q : Value → Shared → Prop} {sent : List Nat} {t0 : Tok}
    (S₀ : Std w outer h₀) (hl : sent.length < 400) (hal : ∀ c ∈ sent, c ∈ alphabet)
    (hQ : ∀ h' D (led : List (Addr × Obj)) tk', (∀ b o, h₀.get? b = some o → h'.get? b = some o) → (∀ p ∈ led, h'.get? p.1 = some p.2 ∧ h₀.get? p.1 = none) → (∀ h'', (∀ p ∈ led, Heap.get? h'' p.1 = some p.2) → Places prog w h'' D sent) → Q (.ref D) ⟨h', gens, drawn, tk', os⟩) :
    wpAny (model prog w) (AR 4 outer) (call (.ref 250) [.str (S sent) t0]) Q E ⟨h₀, gens, drawn, toks, os⟩ := by
  have X := S₀.k
  obtain ⟨loose, mean, mg, mb, T⟩ := S₀.t
  have hl1 : sent.length < 1000 := by omega
  refine' enter (binds := [(Str.ofString "sent", .str (S sent) t0)]) ?hX ?hT ?ho ?hcd ?hroom ?hbind ?hloc ?_ ?c1 ?c2 ?c3 ?c4
  walk_at "my_enter"
  intro h₁ tk F N
  k_fold
  k_steps
  unfold Stop
  rename Fr _ _ _ _ => F1
  rename News _ _ _ _ => N1
  refine' ar_le (A' := AR 10 _) (headers_spec (std_of S₀ F1 rfl rfl) ?_) rfl (Nat.le_of_ble_eq_true rfl) rfl rfl (Nat.le_of_ble_eq_true rfl)
  intro h2 tk2 tt x dx l k1 f1 f2 f3 o1 o2 g1 g2 g3
  have F2 := fr_ext F1 k1
  have nL : ∀ b, h₁.get? b = none → b ≠ h₀.objs.size ∧ h₀.get? b = none := fun b hb => by
    refine ⟨fun q => ?_, free_of F1.keep hb⟩
    obtain ⟨o, _, _, ho, _⟩ := F1.ns
    rw [← q, hb] at ho
    cases ho
  have N2 : News h₀ h₀.objs.size h2 [(x, instObj 215 dx), (dx, tableO w tt l), (l, listOf #[] 0)] := fun p hp => by
    rcases List.mem_cons.mp hp with rfl | hp
    · exact ⟨g1, nL _ f1⟩
    rcases List.mem_cons.mp hp with rfl | hp
    · exact ⟨g2, nL _ f2⟩
    · rw [List.mem_singleton.mp hp]; exact ⟨g3, nL _ f3⟩
  clear N1 F1 nL k1
  k_steps
  rename Fr _ _ _ _ => F1
  rename News _ _ _ _ => N1
  rename IsRange _ _ _ _ _ _ _ _ => hrg
  unfold Stop
  refine' my_iter_rangeG (n := sent.length) (σ := List Value × Nat × List (Addr × Obj)) (fun c => (x, instObj 215 dx) :: (dx, tableO w tt l) :: (l, listOf (List.toArray c.1) c.2.1) :: c.2.2) (fun c => [(Str.ofString "sent", .str (S sent) t0), (Str.ofString "table", .ref x)])
    (fun k c => RowsIn sent c.1 c.2.2 k) ([], 0, []) rfl hrg ?hsm ?hn F1 N1 ?hk ?hp ?turn ?done
  case hsm => exact small_one (by omega) (by omega) (by omega) (by omega)
  case hn => exact rangeSize_nat _ _
  case hk => kst_all
  case hp => exact ⟨rfl, fun i hi => absurd hi (Nat.not_lt_zero _), fun p hp => nomatch hp⟩
  case turn =>
    clear F1 N1
    rintro i t ⟨ys, cap, rows⟩ u h tk' I oI hi hI hP F N
    dsimp only at hI hP F N ⊢
    simp only [List.cons_append] at N
    k_fold
    have hci : sent.getD i 0 ∈ alphabet := hal _ (by rw [List.getD_eq_getElem?_getD, List.getElem?_eq_getElem hi]; exact List.getElem_mem hi)
    k_steps
    rename Fr _ _ _ _ => F1
    rename News _ _ _ _ => N1
    unfold Stop
    refine' ar_le (A' := AR 10 _) (name_spec (std_of S₀ F1 rfl rfl) hci ?_) rfl (Nat.le_of_ble_eq_true rfl) rfl rfl (Nat.le_of_ble_eq_true rfl)
    intro h3 t3 tk3 k3
    replace F1 := fr_ext F1 k3
    replace N1 := news_ext N1 k3
    clear k3
    k_steps
    unfold Stop
    rw [digs_S]
    obtain ⟨q1, q2, q3⟩ := hP
    have nx := N1 _ (.head _)
    have nd := N1 _ (.tail _ (.head _))
    have nl := N1 _ (.tail _ (.tail _ (.head _)))
    have N3 : News h₀ h₀.objs.size h3 [(x, instObj 215 dx), (dx, tableO w tt l), (l, listOf ys.toArray cap)] := fun p hp => by
      rcases List.mem_cons.mp hp with rfl | hp
      · exact nx
      rcases List.mem_cons.mp hp with rfl | hp
      · exact nd
      · rw [List.mem_singleton.mp hp]; exact nl
    have S3 := fun env hf hk => std_hide (env := env) S₀ F1 N3 hf hk
    refine' ar_le (A' := AR 10 _) (add_spec (S3 _ rfl rfl) nx.1 nd.1 nl.1 o1 o2 (by have := name_len (k := i) hci; omega) (digs_len (by omega)) (name_plain hci) (digs_plain i) (by omega) ?_) rfl (Nat.le_of_ble_eq_true rfl) rfl rfl (Nat.le_of_ble_eq_true rfl)
    intro h4 T4 t4 tk4 k4 m1 m2 m3 m4 m5
    have hT0 : ∀ b o, h3.get? b = some o → b ≠ T4 := fun b o e q => by rw [q, m3] at e; cases e
    have nI := N1 (I, oI) (by simp)
    have nI := nI.1
    dsimp only at nI nx nd nl
    have keep : ∀ p ∈ rows ++ [(I, oI)], h4.get? p.1 = some p.2 := fun p hp => by
      have e := (N1 p (.tail _ (.tail _ (.tail _ hp)))).1
      have hc : p.2.cls = .type "tuple" ∨ p = (I, oI) := by
        rcases List.mem_append.mp hp with hp | hp
        · exact .inl (q3 p hp)
        · exact .inr (List.mem_singleton.mp hp)
      rcases hc with hc | hc
      · refine k4 _ _ (fun q => ?_) (fun q => ?_) (fun q => ?_) e
        · rw [q, nl.1] at e; rw [← Option.some.inj e] at hc; exact absurd (Value.type.inj hc) (by decide)
        · rw [q, nx.1] at e; rw [← Option.some.inj e] at hc; cases hc
        · rw [q, nd.1] at e; rw [← Option.some.inj e] at hc; exact absurd (Value.type.inj hc) (by decide)
      · subst hc
        exact k4 _ _ (fun q => hI _ (.tail _ (.tail _ (.head _))) q.symm) (fun q => hI _ (.head _) q.symm) (fun q => hI _ (.tail _ (.head _)) q.symm) e
    have keepB : ∀ b o, h₀.get? b = some o → h4.get? b = some o := fun b o e => by
      have e3 := F1.keep b o e
      refine k4 b o (fun q => ?_) (fun q => ?_) (fun q => ?_) e3
      · rw [q, nl.2.2] at e; cases e
      · rw [q, nx.2.2] at e; cases e
      · rw [q, nd.2.2] at e; cases e
    have F4 : Fr h₀ h₀.objs.size h4 _ := ⟨F1.ns.at' fun o e => k4 _ o nl.2.1.symm nx.2.1.symm nd.2.1.symm e, keepB, F1.above⟩
    have hTL : T4 ≠ h₀.objs.size := fun q => by
      obtain ⟨oL, _, _, hoL, _⟩ := F1.ns
      exact hT0 _ oL hoL q.symm
    have N4 : News h₀ h₀.objs.size h4 ((x, instObj 215 dx) :: (dx, tableO w tt l) :: (l, listOf (List.toArray (ys ++ [.ref T4])) (cap + 1)) :: (T4, tupO [.str (S (nameOf (sent.getD i 0) i)) t3, .str (S (digs i)) t4]) :: (rows ++ [(I, oI)])) := fun p hp => by
      rcases List.mem_cons.mp hp with rfl | hp
      · exact ⟨m1, nx.2⟩
      rcases List.mem_cons.mp hp with rfl | hp
      · exact ⟨m2, nd.2⟩
      rcases List.mem_cons.mp hp with rfl | hp
      · exact ⟨m5, nl.2⟩
      rcases List.mem_cons.mp hp with rfl | hp
      · exact ⟨m4, hTL, free_of F1.keep m3⟩
      · exact ⟨keep p hp, (N1 p (.tail _ (.tail _ (.tail _ hp)))).2⟩
    clear F1 N1 N3 S3 k4
    k_steps
    show TEndG _ _ _ _ _ _ _ _ _
    refine' tendG (ys ++ [.ref T4], cap + 1, (T4, tupO [.str (S (nameOf (sent.getD i 0) i)) t3, .str (S (digs i)) t4]) :: rows) F4 N4 ?_ ?_ ?_ (by kst_all) ⟨by simp [q1], ?_, ?_⟩
    · intro p hp
      rcases List.mem_cons.mp hp with rfl | hp
      · exact .head _
      rcases List.mem_cons.mp hp with rfl | hp
      · exact .tail _ (.head _)
      rcases List.mem_cons.mp hp with rfl | hp
      · exact .tail _ (.tail _ (.head _))
      rcases List.mem_cons.mp hp with rfl | hp
      · exact .tail _ (.tail _ (.tail _ (.head _)))
      · exact .tail _ (.tail _ (.tail _ (.tail _ (List.mem_append_left _ hp))))
    · simp
    · intro p hp
      rcases List.mem_cons.mp hp with rfl | hp
      · exact hI _ (.head _)
      rcases List.mem_cons.mp hp with rfl | hp
      · exact hI _ (.tail _ (.head _))
      rcases List.mem_cons.mp hp with rfl | hp
      · exact hI (l, listOf (List.toArray ys) cap) (.tail _ (.tail _ (.head _)))
      rcases List.mem_cons.mp hp with rfl | hp
      · exact (hT0 I oI nI).symm
      · exact hI _ (.tail _ (.tail _ (.tail _ hp)))
    · intro j hj
      rcases Nat.lt_or_ge j i with h | h
      · obtain ⟨T, ta, tb, e1, e2⟩ := q2 j h
        exact ⟨T, ta, tb, by dsimp only; rw [List.getElem?_append_left (by omega)]; exact e1, .tail _ e2⟩
      · have : j = i := by omega
        subst this
        exact ⟨T4, t3, t4, by dsimp only; rw [List.getElem?_append_right (by omega), q1, Nat.sub_self]; rfl, .head _⟩
    · intro p hp
      rcases List.mem_cons.mp hp with rfl | hp
      · rfl
      · exact q3 p hp
  case done =>
    clear F1 N1 hrg
    rintro ⟨ys, cap, rows⟩ u h tk' hP F N
    dsimp only at hP F N ⊢
    obtain ⟨q1, q2, q3⟩ := hP
    k_steps
    rename Fr _ _ _ _ => F1
    rename News _ _ _ _ => N1
    rename (Obj.IsDictOf (strKind prog w) _ []) => hdict
    rename ((@LT.lt Nat _ x _) ∧ _) => hlt
    rename_i D _ o0 _ _ _ _ _ _ _
    unfold Stop
    refine' my_iter_strG (xl := [46, 13, 10, 97, 98]) (σ := Obj × List (Nat × Addr × List Value × Nat)) (fun c => (D, c.1) :: (x, instObj 215 dx) :: (dx, tableO w tt l) :: (l, listOf (List.toArray ys) cap) :: (rows ++ c.2.map fun m => (m.2.1, listOf (List.toArray m.2.2.1) m.2.2.2))) (fun c => [(Str.ofString "sent", .str (S sent) t0), (Str.ofString "table", .ref x), (Str.ofString "places", .ref D)])
      (fun k c => ∃ kvs, c.1.IsDictOf (strKind prog w) kvs ∧ kvs.length ≤ k ∧ ∀ j, j < k → ∃ m, m ∈ c.2 ∧ m.1 = [46, 13, 10, 97, 98].getD j 0 ∧ valueAt kvs (S [m.1]) = some (.ref m.2.1) ∧ IntsAre m.2.2.1 (posOf sent m.1)) (o0, []) rfl ?hasc F1 ?hN ?hk ?hp ?turn ?done
    case hasc => decide +kernel
    case hN =>
      simp only [List.map_nil, List.append_nil]
      exact N1
    case hk => kst_all
    case hp => exact ⟨[], hdict, Nat.le_refl _, fun j hj => absurd hj (Nat.not_lt_zero _)⟩
    case turn =>
      clear F1 N1 hdict
      rintro i c t ⟨o, ms⟩ u h tk' I oI hi hI ⟨kvs, hkv, hkl, hms⟩ F N
      dsimp only at hI hkv hms F N ⊢
      simp only [List.cons_append] at N
      k_fold
      have hc : c ∈ alphabet := List.mem_of_getElem? hi
      k_steps
      rename Fr _ _ _ _ => F1
      rename News _ _ _ _ => N1
      unfold Stop
      refine LCg.ListComp_U (by assumption) (by with_unfolding_all rfl) (by decide) (by rfl) (by decide) (by rfl) ?_
      k_steps
      unfold Stop
      refine' ar_le (A' := AR 10 _) (name_spec (k := 0) (std_of S₀ F1 rfl rfl) hc ?_) rfl (Nat.le_of_ble_eq_true rfl) rfl rfl (Nat.le_of_ble_eq_true rfl)
      intro h3 t3 tk3 k3
      replace F1 := fr_ext F1 k3
      replace N1 := news_ext N1 k3
      clear k3
      k_steps
      unfold Stop
      have nx := N1 _ (.tail _ (.head _))
      have nd := N1 _ (.tail _ (.tail _ (.head _)))
      have nl := N1 _ (.tail _ (.tail _ (.tail _ (.head _))))
      have N3 : News h₀ h₀.objs.size h3 [(x, instObj 215 dx), (dx, tableO w tt l), (l, listOf ys.toArray cap)] := fun p hp => by
        rcases List.mem_cons.mp hp with rfl | hp
        · exact nx
        rcases List.mem_cons.mp hp with rfl | hp
        · exact nd
        · rw [List.mem_singleton.mp hp]; exact nl
      have S3 := fun env hf hk => std_hide (env := env) S₀ F1 N3 hf hk
      dsimp only at nx nd nl
      have hrows : Rows (hideAll h3 [x, dx, l]) sent digs sent.length ys := by
        refine ⟨q1, fun j hj => ?_⟩
        obtain ⟨T, ta, tb, e1, e2⟩ := q2 j hj
        refine ⟨T, ta, tb, e1, ?_⟩
        have e3 := (N1 _ (.tail _ (.tail _ (.tail _ (.tail _ (List.mem_append_left _ (List.mem_append_left _ e2))))))).1
        refine hideAll_get _ e3 fun z => ?_
        dsimp only at e3
        rcases List.mem_cons.mp z with z | z
        · rw [z, nx.1] at e3; cases e3
        rcases List.mem_cons.mp z with z | z
        · rw [z, nd.1] at e3; exact absurd (Value.type.inj (congrArg Obj.cls (Option.some.inj e3))) (by decide)
        · rw [List.mem_singleton.mp z, nl.1] at e3; exact absurd (Value.type.inj (congrArg Obj.cls (Option.some.inj e3))) (by decide)
      refine' ar_le (A' := AR 10 _) (get_spec (S3 _ rfl rfl) nx.1 nd.1 nl.1 o1 o2 hc hal hl1 hrows ?_) rfl (Nat.le_of_ble_eq_true rfl) rfl rfl (Nat.le_of_ble_eq_true rfl)
      intro h4 D1 vs n4 tk4 k4 m1 m2 m3
      have hL1 : D1 ≠ h₀.objs.size := fun q => by
        obtain ⟨oL, _, _, hoL, _⟩ := F1.ns
        have hoL' : h3.get? h₀.objs.size = some oL := hoL
        rw [← q, m1] at hoL'; cases hoL'
      have hD1 : h₀.get? D1 = none := free_of F1.keep m1
      have hne1 : ∀ p ∈ (D, o) :: (x, instObj 215 dx) :: (dx, tableO w tt l) :: (l, listOf (List.toArray ys) cap) :: (rows ++ ms.map (fun m => (m.2.1, listOf (List.toArray m.2.2.1) m.2.2.2)) ++ [(I, oI)]), p.1 ≠ D1 := fun p hp q => by
        have e := (N1 p hp).1
        rw [q, m1] at e; cases e
      replace F1 := fr_ext F1 k4
      replace N1 := news_ext N1 k4
      have N5 : News h₀ h₀.objs.size h4 ((D1, listOf (List.toArray vs) n4) :: (D, o) :: (x, instObj 215 dx) :: (dx, tableO w tt l) :: (l, listOf (List.toArray ys) cap) :: (rows ++ ms.map (fun m => (m.2.1, listOf (List.toArray m.2.2.1) m.2.2.2)) ++ [(I, oI)])) := fun p hp => by
        rcases List.mem_cons.mp hp with rfl | hp
        · exact ⟨m2, hL1, hD1⟩
        · exact N1 p hp
      clear N1 N3 S3 k4 hrows
      have hvl : vs.length = (posN sent c).length := m3.length
      have hpl : (posN sent c).length ≤ sent.length := by rw [posN_length]; exact List.count_le_length
      refine' LCg.CompSrc.ledger (its := vs.toArray) (k := n4) rfl F1 N5 (.head _) ?sz fun g => ?_
      case sz => rw [List.size_toArray, sizeLine_eq]; omega
      refine' comp_all (fun j v y => ∃ (k : Nat) (t : Tok), (posN sent c)[j]? = some k ∧ y = Value.int (k : Int) t) (.inr ⟨_, .head _, rfl, _, rfl⟩) ?turn2 ?fin2
      case turn2 =>
        rintro j v zs I2 oI2 C2 oC2 D2 m₂ h tk E' hj hv hC hx F N off ne
        obtain ⟨k, hk1, t5, rfl⟩ := m3.get (by simpa using hv)
        have hk2 : k < 1000 := Nat.lt_trans (posN_lt c sent k (List.mem_of_getElem? hk1)) hl1
        k_steps
        rename Fr _ _ _ _ => F2
        rename News _ _ _ _ => N2
        exact cend F2 N2 (fun _ hp => hp) ⟨k, _, hk1, rfl⟩
      case fin2 =>
        intro is hil hiy
        rw [List.size_toArray, hvl] at hil
        have hint : IntsAre is (posOf sent c) := by
          refine ints_at (by rw [hil]; simp [posOf]) fun j y hy => ?_
          obtain ⟨_, _, k, t5, e1, e2⟩ := hiy j y hy
          exact ⟨(k : Int), t5, by unfold posOf; rw [List.getElem?_map, e1]; rfl, e2⟩
        intro M h5 tk5 F5 N6 off5
        clear F1 N5
        k_steps
        rename Fr _ _ _ _ => F7
        rename News _ _ _ _ => N7
        unfold Stop
        have nM := N7 _ (.head _)
        have nD := N7 _ (.tail _ (.tail _ (.head _)))
        dsimp only at nM nD
        have hod : o.cls = .type "dict" := by obtain ⟨_, _, hex, _⟩ := hkv; exact hex.1
        have hMD : D ≠ M := off5.2.1
        refine wpAny_setItem_pairs (knd := strKind prog w) (k := S [c]) (strKind_is _ _ _ _) (Heap.dictOf_iff.mpr ⟨o, nD.1, hkv⟩) (hsz := by rw [sizeLine_eq]; have := (List.getElem?_eq_some_iff.mp hi).1; simp at this; omega) fun h8 hmm hs => ?_
        obtain ⟨o', ho', hd'⟩ := Heap.dictOf_iff.mp hmm
        have F8 := F7.change hs nD.2.1 nD.2.2
        have oth : ∀ p ∈ (M, LCg.lst is) :: (x, instObj 215 dx) :: (dx, tableO w tt l) :: (l, listOf (List.toArray ys) cap) :: (rows ++ ms.map (fun m => (m.2.1, listOf (List.toArray m.2.2.1) m.2.2.2)) ++ [(I, oI)]), p.1 ≠ D ∧ p ∈ (M, LCg.lst is) :: (D1, listOf (List.toArray vs) n4) :: (D, o) :: (x, instObj 215 dx) :: (dx, tableO w tt l) :: (l, listOf (List.toArray ys) cap) :: (rows ++ ms.map (fun m => (m.2.1, listOf (List.toArray m.2.2.1) m.2.2.2)) ++ [(I, oI)]) := by
          intro p hp
          rcases List.mem_cons.mp hp with rfl | hp
          · exact ⟨hMD.symm, .head _⟩
          rcases List.mem_cons.mp hp with rfl | hp
          · exact ⟨Nat.ne_of_lt hlt.1, .tail _ (.tail _ (.tail _ (.head _)))⟩
          rcases List.mem_cons.mp hp with rfl | hp
          · exact ⟨Nat.ne_of_lt hlt.2.1, .tail _ (.tail _ (.tail _ (.tail _ (.head _))))⟩
          rcases List.mem_cons.mp hp with rfl | hp
          · exact ⟨Nat.ne_of_lt hlt.2.2.1, .tail _ (.tail _ (.tail _ (.tail _ (.tail _ (.head _)))))⟩
          have hp' : p ∈ (M, LCg.lst is) :: (D1, listOf (List.toArray vs) n4) :: (D, o) :: (x, instObj 215 dx) :: (dx, tableO w tt l) :: (l, listOf (List.toArray ys) cap) :: (rows ++ ms.map (fun m => (m.2.1, listOf (List.toArray m.2.2.1) m.2.2.2)) ++ [(I, oI)]) := .tail _ (.tail _ (.tail _ (.tail _ (.tail _ (.tail _ hp)))))
          refine ⟨fun q => ?_, hp'⟩
          have e := (N7 p hp').1
          rw [q, nD.1] at e
          have e := Option.some.inj e
          rcases List.mem_append.mp hp with hp | hp
          · rcases List.mem_append.mp hp with hp | hp
            · have := q3 p hp
              rw [← e, hod] at this
              exact absurd (Value.type.inj this) (by decide)
            · obtain ⟨m, _, rfl⟩ := List.mem_map.mp hp
              rw [e] at hod
              exact absurd (Value.type.inj hod) (by decide)
          · rw [List.mem_singleton.mp hp] at q
            exact hI _ (.head _) q.symm
        have N8 : News h₀ h₀.objs.size h8 ((D, o') :: (M, LCg.lst is) :: (x, instObj 215 dx) :: (dx, tableO w tt l) :: (l, listOf (List.toArray ys) cap) :: (rows ++ ms.map (fun m => (m.2.1, listOf (List.toArray m.2.2.1) m.2.2.2)) ++ [(I, oI)])) := fun p hp => by
          rcases List.mem_cons.mp hp with rfl | hp
          · exact ⟨ho', nD.2⟩
          · obtain ⟨a1, a2⟩ := oth p hp
            have z := N7 p a2
            exact ⟨(hs.2 _ a1).trans z.1, z.2⟩
        k_steps
        show TEndG _ _ _ _ _ _ _ _ _
        have hfc : c = [46, 13, 10, 97, 98].getD i 0 := by rw [List.getD_eq_getElem?_getD, hi]; rfl
        refine' tendG (o', (c, M, is, is.length) :: ms) F8 N8 ?_ ?_ ?_ (by kst_all) ⟨stored kvs (S [c]) (.ref M), hd', ?_, ?_⟩
        · intro p hp
          rcases List.mem_cons.mp hp with rfl | hp
          · exact .head _
          rcases List.mem_cons.mp hp with rfl | hp
          · exact .tail _ (.tail _ (.head _))
          rcases List.mem_cons.mp hp with rfl | hp
          · exact .tail _ (.tail _ (.tail _ (.head _)))
          rcases List.mem_cons.mp hp with rfl | hp
          · exact .tail _ (.tail _ (.tail _ (.tail _ (.head _))))
          rcases List.mem_append.mp hp with hp | hp
          · exact .tail _ (.tail _ (.tail _ (.tail _ (.tail _ (List.mem_append_left _ (List.mem_append_left _ hp))))))
          rcases List.mem_cons.mp hp with rfl | hp
          · exact .tail _ (.head _)
          · exact .tail _ (.tail _ (.tail _ (.tail _ (.tail _ (List.mem_append_left _ (List.mem_append_right _ hp))))))
        · simp
        · intro p hp
          rcases List.mem_cons.mp hp with rfl | hp
          · exact hI (D, o) (.head _)
          rcases List.mem_cons.mp hp with rfl | hp
          · exact hI _ (.tail _ (.head _))
          rcases List.mem_cons.mp hp with rfl | hp
          · exact hI _ (.tail _ (.tail _ (.head _)))
          rcases List.mem_cons.mp hp with rfl | hp
          · exact hI (l, listOf (List.toArray ys) cap) (.tail _ (.tail _ (.tail _ (.head _))))
          rcases List.mem_append.mp hp with hp | hp
          · exact hI p (.tail _ (.tail _ (.tail _ (.tail _ (List.mem_append_left _ hp)))))
          rcases List.mem_cons.mp hp with rfl | hp
          · exact fun q => off1_ne (show ((I, oI) : Addr × Obj) ∈ _ from .tail _ (.tail _ (.tail _ (.tail _ (.tail _ (List.mem_append_right _ (.head _))))))) off5 q.symm
          · exact hI p (.tail _ (.tail _ (.tail _ (.tail _ (List.mem_append_right _ hp)))))
        · exact Nat.le_trans (stored_length_le _ _ _) (Nat.succ_le_succ hkl)
        · intro j hj
          rcases Nat.lt_or_ge j i with h9 | h9
          · obtain ⟨m, hm1, hm2, hm3, hm4⟩ := hms j h9
            refine ⟨m, .tail _ hm1, hm2, ?_, hm4⟩
            rw [valueAt_stored, if_neg, hm3]
            intro q
            have q := S_inj q
            have hi5 := (List.getElem?_eq_some_iff.mp hi).1
            simp only [List.length_cons, List.length_nil] at hi5
            rw [hm2, hfc] at q
            have hi6 : i = 0 ∨ i = 1 ∨ i = 2 ∨ i = 3 ∨ i = 4 := by omega
            have hj6 : j = 0 ∨ j = 1 ∨ j = 2 ∨ j = 3 := by omega
            rcases hi6 with rfl | rfl | rfl | rfl | rfl <;> rcases hj6 with rfl | rfl | rfl | rfl <;> first | omega | exact absurd q (by decide)
          · have : j = i := by omega
            subst this
            exact ⟨(c, M, is, is.length), .head _, hfc, by rw [valueAt_stored, if_pos rfl], hint⟩
    case done =>
      clear F1 N1 hdict
      rintro ⟨o, ms⟩ u h tk' ⟨kvs, hkv, _, hms⟩ F N
      dsimp only at hkv hms F N ⊢
      k_steps
      have r := hQ h D ((D, o) :: ms.map fun m => (m.2.1, listOf (List.toArray m.2.2.1) m.2.2.2)) tk' F.keep (fun p hp => by
        rcases List.mem_cons.mp hp with rfl | hp
        · have z := N _ (.head _)
          exact ⟨z.1, z.2.2⟩
        · have z := N p (.tail _ (.tail _ (.tail _ (.tail _ (List.mem_append_right _ hp)))))
          exact ⟨z.1, z.2.2⟩) (fun h' hh => ⟨valueAt kvs, (Heap.dictOf_iff.mpr ⟨o, hh _ (.head _), hkv⟩).mapOf, fun c hc => by
        have : ∃ j, j < 5 ∧ [46, 13, 10, 97, 98].getD j 0 = c := by
          simp only [alphabet, List.mem_cons, List.not_mem_nil, or_false] at hc
          rcases hc with rfl | rfl | rfl | rfl | rfl
          · exact ⟨0, by decide, rfl⟩
          · exact ⟨1, by decide, rfl⟩
          · exact ⟨2, by decide, rfl⟩
          · exact ⟨3, by decide, rfl⟩
          · exact ⟨4, by decide, rfl⟩
        obtain ⟨j, hj, hjc⟩ := this
        obtain ⟨m, hm1, hm2, hm3, hm4⟩ := hms j hj
        have hmc : m.1 = c := hm2.trans hjc
        rw [hmc] at hm3 hm4
        exact ⟨m.2.1, m.2.2.1, hm3, ⟨_, hh (m.2.1, listOf (List.toArray m.2.2.1) m.2.2.2) (.tail _ (List.mem_map_of_mem (f := fun m : Nat × Addr × List Value × Nat => (m.2.1, listOf (List.toArray m.2.2.1) m.2.2.2)) hm1)), rfl, _, rfl⟩, hm4⟩⟩)
      exact r
end
section
theorem walk_off_y_plain : True := by
  w_top off
  trivial
section law
variable {d : List Nat}
theorem rank_zero (c : Nat) : rstep d 0 c = 0 := by simp [rstep]
theorem rank_succ (h0 : 0 < d.length) (x c : Nat) : rstep d (x + 1) c = rstep d x c + (if d.getD (x % d.length) 0 = c then 1 else 0) := by
  unfold rstep
  have hr : x % d.length < d.length := Nat.mod_lt _ h0
  have hx := Nat.div_add_mod x d.length
  have ht : (d.take (x % d.length + 1)).count c = (d.take (x % d.length)).count c + (if d.getD (x % d.length) 0 = c then 1 else 0) := by
    rw [List.take_add_one, List.getElem?_eq_getElem hr, List.getD_eq_getElem?_getD, List.getElem?_eq_getElem hr, List.count_append]
    by_cases h : d[x % d.length] = c <;> simp [h]
  by_cases h : x % d.length + 1 < d.length
  · have e1 : (x + 1) / d.length = x / d.length := by
      have : x + 1 = (x % d.length + 1) + d.length * (x / d.length) := by omega
      rw [this, Nat.add_mul_div_left _ _ h0, Nat.div_eq_of_lt h, Nat.zero_add]
    have e2 : (x + 1) % d.length = x % d.length + 1 := by
      have : x + 1 = (x % d.length + 1) + d.length * (x / d.length) := by omega
      rw [this, Nat.add_mul_mod_self_left, Nat.mod_eq_of_lt h]
    rw [e1, e2, ht]
    omega
  · have hn : x % d.length + 1 = d.length := by omega
    have e0 : x + 1 = d.length * (x / d.length + 1) := by
      rw [Nat.mul_add, Nat.mul_one]; omega
    have e1 : (x + 1) / d.length = x / d.length + 1 := by
      rw [e0, Nat.mul_div_cancel_left _ h0]
    have e2 : (x + 1) % d.length = 0 := by
      rw [e0]; exact Nat.mul_mod_right _ _
    rw [hn, List.take_length] at ht
    rw [e1, e2, List.take_zero, List.count_nil, Nat.add_mul, Nat.one_mul, ht]
    omega
theorem rank_mono (h0 : 0 < d.length) (c x : Nat) : ∀ k, rstep d x c ≤ rstep d (x + k) c
  | 0 => Nat.le_refl _
  | k + 1 => by
    have := rank_succ h0 (x + k) c
    have := rank_mono h0 c x k
    rw [show x + (k + 1) = (x + k) + 1 by omega]
    omega
theorem bstep_facts (c m : Nat) (hc : 0 < d.count c) : d.getD (bstep d m c % d.length) 0 = c ∧ rstep d (bstep d m c) c = m := by
  have hk : 0 < (posN d c).length := by rw [posN_length]; exact hc
  have hj : m % (posN d c).length < (posN d c).length := Nat.mod_lt _ hk
  have hp : (posN d c).getD (m % (posN d c).length) 0 = (posN d c)[m % (posN d c).length] := by
    rw [List.getD_eq_getElem?_getD, List.getElem?_eq_getElem hj]; rfl
  have hmem : (posN d c).getD (m % (posN d c).length) 0 ∈ posN d c := by rw [hp]; exact List.getElem_mem hj
  have hlt := posN_lt c d _ hmem
  have hat := posN_at c d _ hmem
  have h0 : 0 < d.length := Nat.lt_of_le_of_lt (Nat.zero_le _) hlt
  have e1 : bstep d m c % d.length = (posN d c).getD (m % (posN d c).length) 0 := by
    unfold bstep
    rw [Nat.mul_comm, Nat.mul_add_mod, Nat.mod_eq_of_lt hlt]
  have e2 : bstep d m c / d.length = m / (posN d c).length := by
    unfold bstep
    rw [Nat.mul_comm, Nat.mul_add_div h0, Nat.div_eq_of_lt hlt, Nat.add_zero]
  refine ⟨by rw [e1]; exact hat, ?_⟩
  unfold rstep
  rw [e1, e2]
  have e3 : (d.take ((posN d c).getD (m % (posN d c).length) 0)).count c = m % (posN d c).length := by
    rw [← posOf_countP]
    have hl : (posOf d c).length = (posN d c).length := by simp [posOf]
    refine countP_split (by omega) ?_ ?_
    · intro i hi
      rw [posOf_getD]
      have : (posN d c).getD i 0 < (posN d c).getD (m % (posN d c).length) 0 := by
        have hi' : i < (posN d c).length := by omega
        rw [List.getD_eq_getElem?_getD, List.getElem?_eq_getElem hi', hp]
        exact List.pairwise_iff_getElem.mp (posN_sorted c d) i _ hi' hj hi
      omega
    · intro i hi hi2 q
      rw [posOf_getD] at q
      have hi3 : i < (posN d c).length := by omega
      have : (posN d c).getD (m % (posN d c).length) 0 ≤ (posN d c).getD i 0 := by
        rcases Nat.lt_or_eq_of_le hi with h | h
        · rw [hp, List.getD_eq_getElem?_getD, List.getElem?_eq_getElem hi3]
          exact Nat.le_of_lt (List.pairwise_iff_getElem.mp (posN_sorted c d) _ i hj hi3 h)
        · rw [h]; exact Nat.le_refl _
      omega
  rw [e3, ← posN_length, Nat.mul_comm]
  exact Nat.div_add_mod m _
theorem galois (h0 : 0 < d.length) (c m x : Nat) (hc : 0 < d.count c) : bstep d m c < x ↔ m < rstep d x c := by
  obtain ⟨f1, f2⟩ := bstep_facts c m hc
  have f3 := rank_succ h0 (bstep d m c) c
  rw [if_pos f1, f2] at f3
  constructor
  · intro h
    have := rank_mono h0 c (bstep d m c + 1) (x - (bstep d m c + 1))
    rw [show bstep d m c + 1 + (x - (bstep d m c + 1)) = x by omega] at this
    omega
  · intro h
    rcases Nat.lt_or_ge (bstep d m c) x with q | q
    · exact q
    · have := rank_mono h0 c x (bstep d m c - x)
      rw [show x + (bstep d m c - x) = bstep d m c by omega, f2] at this
      omega
theorem back_cons (c m : Nat) (w : List Nat) : back d (c :: w) m = bstep d (back d w m) c := by
  unfold back
  rw [List.reverse_cons, List.foldl_append]
  rfl
theorem ranked_cons (c x : Nat) (w : List Nat) : ranked d (c :: w) x = ranked d w (rstep d x c) := rfl
theorem back_lt (h0 : 0 < d.length) : ∀ (w : List Nat) (m x : Nat), (∀ c ∈ w, 0 < d.count c) → (back d w m < x ↔ m < ranked d w x)
  | [], _, _, _ => Iff.rfl
  | c :: w, m, x, h => by
    rw [back_cons, ranked_cons, galois h0 c _ x (h c (.head _))]
    exact back_lt h0 w m _ fun a ha => h a (.tail _ ha)
def spell (d : List Nat) : Nat → Nat → List Nat × Nat
  | 0, x => ([], x)
  | k + 1, x => (d.getD (x % d.length) 0 :: (spell d k (rstep d x (d.getD (x % d.length) 0))).1, (spell d k (rstep d x (d.getD (x % d.length) 0))).2)
theorem counted_spell (x : Nat) : counted d x = spell d 3 x := by
  simp only [counted, Nat.repeat, cstep, spell, rstep, List.nil_append, List.cons_append]
theorem spell_back : ∀ (w : List Nat) (m : Nat), (∀ c ∈ w, 0 < d.count c) → spell d w.length (back d w m) = (w, m)
  | [], _, _ => rfl
  | c :: w, m, h => by
    obtain ⟨f1, f2⟩ := bstep_facts c (back d w m) (h c (.head _))
    have ih := spell_back w m fun a ha => h a (.tail _ ha)
    rw [back_cons]
    show (_ :: (spell d w.length _).1, (spell d w.length _).2) = _
    rw [f1, f2, ih]
theorem ranked_zero : ∀ w : List Nat, ranked d w 0 = 0
  | [] => rfl
  | c :: w => by rw [ranked_cons, rank_zero, ranked_zero w]
theorem ranked_succ (h0 : 0 < d.length) : ∀ (w : List Nat) (x : Nat), ranked d w (x + 1) = ranked d w x + (if (spell d w.length x).1 = w then 1 else 0)
  | [], x => by simp [ranked, spell]
  | c :: w, x => by
    rw [ranked_cons, ranked_cons, rank_succ h0]
    show _ = _ + (if (d.getD (x % d.length) 0 :: (spell d w.length (rstep d x (d.getD (x % d.length) 0))).1) = c :: w then 1 else 0)
    by_cases h : d.getD (x % d.length) 0 = c
    · rw [if_pos h, h, ranked_succ h0 w]
      by_cases h2 : (spell d w.length (rstep d x c)).1 = w
      · rw [if_pos h2, if_pos (by rw [h2])]
      · rw [if_neg h2, if_neg (fun q => h2 (List.cons.inj q).2)]
    · rw [if_neg h, if_neg (fun q => h (List.cons.inj q).1), Nat.add_zero, Nat.add_zero]
theorem ranked_count (h0 : 0 < d.length) (w : List Nat) : ∀ x : Nat, ((List.range x).map fun y => (spell d w.length y).1).count w = ranked d w x
  | 0 => (ranked_zero w).symm
  | x + 1 => by
    rw [List.range_succ, List.map_append, List.count_append, ranked_count h0 w x, ranked_succ h0]
    by_cases h : (spell d w.length x).1 = w <;> simp [h]
theorem spell_len : ∀ (k x : Nat), (spell d k x).1.length = k
  | 0, _ => rfl
  | k + 1, x => congrArg Nat.succ (spell_len k _)
theorem spell_in (h0 : 0 < d.length) : ∀ (k x : Nat), ∀ c ∈ (spell d k x).1, c ∈ d
  | 0, _, c, h => nomatch h
  | k + 1, x, c, h => by
    rcases List.mem_cons.mp h with rfl | h
    · have hr : x % d.length < d.length := Nat.mod_lt _ h0
      rw [List.getD_eq_getElem?_getD, List.getElem?_eq_getElem hr]
      exact List.getElem_mem hr
    · exact spell_in h0 k _ c h
/-- what the law asks of a word and a bound -/
theorem law_word (h0 : 0 < d.length) (w : List Nat) (hl : w.length = 3) (hw : ∀ c ∈ w, c ∈ d) (x : Nat) :
    ((List.range x).map fun y => (counted d y).1).count w = ranked d w x ∧ ¬ back d w (ranked d w x) < x ∧ counted d (back d w (ranked d w x)) = (w, ranked d w x) ∧
      (0 < ranked d w x → back d w (ranked d w x - 1) < x ∧ counted d (back d w (ranked d w x - 1)) = (w, ranked d w x - 1)) := by
  have hc : ∀ c ∈ w, 0 < d.count c := fun c h => List.count_pos_iff.mpr (hw c h)
  have hs : ∀ m, counted d (back d w m) = (w, m) := fun m => by
    have := spell_back w m hc
    rw [hl] at this
    rw [counted_spell]; exact this
  refine ⟨?_, ?_, hs _, fun hp => ⟨(back_lt h0 w _ x hc).mpr (by omega), hs _⟩⟩
  · have := ranked_count h0 w x
    rw [hl] at this
    rw [← this]
    exact congrArg (List.count w) (List.map_congr_left fun y _ => by rw [counted_spell])
  · rw [back_lt h0 w _ x hc]
    exact Nat.lt_irrefl _
theorem counted_len (x : Nat) : (counted d x).1.length = 3 := by rw [counted_spell]; exact spell_len 3 x
theorem counted_in (h0 : 0 < d.length) (x : Nat) : ∀ c ∈ (counted d x).1, c ∈ d := by rw [counted_spell]; exact spell_in h0 3 x
end law
def tailL : List Nat := [97, 46, 10, 46, 46, 13, 98, 46, 13, 10, 46]
def fiveL : List Nat := [46, 13, 10, 97, 98]
theorem sent_grows : ∀ (cs acc : List Nat) (f : Bool) (bf : List Nat), (∀ c ∈ cs, c ∈ alphabet) → (∀ c ∈ acc, c ∈ alphabet) →
    ∃ acc' f' bf', cs.foldl sstep (acc, f, bf) = (acc', f', bf') ∧ (∀ c ∈ acc', c ∈ alphabet) ∧ acc'.length ≤ acc.length + 2 * cs.length
  | [], acc, f, bf, _, h => ⟨acc, f, bf, rfl, h, by simp⟩
  | c :: cs, acc, f, bf, hc, h => by
    have hc0 := hc c (.head _)
    have key : ∃ acc1 f1 bf1, sstep (acc, f, bf) c = (acc1, f1, bf1) ∧ (∀ a ∈ acc1, a ∈ alphabet) ∧ acc1.length ≤ acc.length + 2 := by
      refine ⟨(sstep (acc, f, bf) c).1, (sstep (acc, f, bf) c).2.1, (sstep (acc, f, bf) c).2.2, rfl, ?_, ?_⟩
      · intro a ha
        unfold sstep at ha
        split at ha
        · dsimp only at ha
          split at ha
          · rcases List.mem_append.mp ha with ha | ha
            · exact h a ha
            · simp only [List.mem_cons, List.not_mem_nil, or_false] at ha
              rcases ha with rfl | rfl <;> decide
          · exact h a ha
        · dsimp only at ha
          rcases List.mem_append.mp ha with ha | ha
          · split at ha
            · rcases List.mem_append.mp ha with ha | ha
              · exact h a ha
              · rw [List.mem_singleton.mp ha]; decide
            · exact h a ha
          · rw [List.mem_singleton.mp ha]; exact hc0
      · unfold sstep
        split
        · dsimp only
          split <;> simp
        · dsimp only
          split <;> simp
    obtain ⟨acc1, f1, bf1, e1, e2, e3⟩ := key
    obtain ⟨acc', f', bf', g1, g2, g3⟩ := sent_grows cs acc1 f1 bf1 (fun a ha => hc a (.tail _ ha)) e2
    refine ⟨acc', f', bf', ?_, g2, by simp only [List.length_cons]; omega⟩
    rw [List.foldl_cons, e1]; exact g1
theorem sent_tail (acc : List Nat) (f : Bool) (bf : List Nat) : (tailL.foldl sstep (acc, f, bf)).1 = acc ++ [97, 46, 13, 10, 46, 46, 46, 13, 10, 98, 46, 13, 10, 46, 46] := by
  simp [tailL, sstep, List.append_assoc]
/-- what is sent of a mail of the law -/
theorem sent_facts (cs : List Nat) (hc : ∀ c ∈ cs, c ∈ alphabet) (hl : cs.length ≤ 7) :
    ∃ d, (sentAll (cs ++ tailL)).1 = d ∧ (∀ c ∈ d, c ∈ alphabet) ∧ (∀ c ∈ alphabet, c ∈ d) ∧ d.length ≤ 40 ∧ d.getD (d.length - 1) 0 = 46 ∧ 0 < d.length := by
  obtain ⟨acc, f, bf, e1, e2, e3⟩ := sent_grows cs [] true [] hc (fun _ h => nomatch h)
  refine ⟨_, rfl, ?_⟩
  have e : (sentAll (cs ++ tailL)).1 = acc ++ [97, 46, 13, 10, 46, 46, 46, 13, 10, 98, 46, 13, 10, 46, 46] := by
    unfold sentAll
    rw [List.foldl_append, e1]
    exact sent_tail acc f bf
  rw [e]
  refine ⟨?_, ?_, ?_, ?_, ?_⟩
  · intro c h
    rcases List.mem_append.mp h with h | h
    · exact e2 c h
    · exact (by decide : ∀ c ∈ [97, 46, 13, 10, 46, 46, 46, 13, 10, 98, 46, 13, 10, 46, 46], c ∈ alphabet) c h
  · intro c h
    exact List.mem_append_right _ ((by decide : ∀ c ∈ alphabet, c ∈ [97, 46, 13, 10, 46, 46, 46, 13, 10, 98, 46, 13, 10, 46, 46]) c h)
  · rw [List.length_append]
    simp only [List.length_nil] at e3
    simp only [List.length_cons, List.length_nil]
    omega
  · rw [List.getD_eq_getElem?_getD, List.length_append, List.getElem?_append_right (by simp only [List.length_cons, List.length_nil]; omega)]
    rw [show acc.length + ([97, 46, 13, 10, 46, 46, 46, 13, 10, 98, 46, 13, 10, 46, 46] : List Nat).length - 1 - acc.length = 14 by simp only [List.length_cons, List.length_nil]; omega]
    rfl
  · rw [List.length_append]
    simp only [List.length_cons, List.length_nil]
    omega
theorem numbers_len : ∀ (d : List Nat) (ns : List Nat) (k : Nat), (d.foldl nstep (ns, k)).1.length ≤ ns.length + d.length
  | [], _, _ => by simp
  | c :: d, ns, k => by
    rw [List.foldl_cons]
    unfold nstep
    split
    · have := numbers_len d (ns ++ [k * 64 + c % 64]) 0
      rw [List.length_append, List.length_singleton] at this
      simp only [List.length_cons]
      unfold nstep at this
      omega
    · have := numbers_len d ns (k * 64 + c % 64)
      simp only [List.length_cons]
      unfold nstep at this
      omega
end
section
theorem walk_off_y_rules : True := by
  w_top off
  trivial
section leaf
variable {prog : Program} {w : World} {A : Around} {E : Value → Shared → Prop} {s : Shared} {h₀ : Heap} {L D : Addr} {m : Str → Option Value} {news : List (Addr × Obj)} {vs : List Value} {n : Nat} {Q : Value → Shared → Prop}
theorem lenL (hD : s.heap.get? D = some (listOf vs.toArray n)) (hz : vs.length < 5000) (h : Q (.int (vs.length : Int) (s.toks + 1)) { s with toks := s.toks + 1 + 1 }) : wpAny (model prog w) A (call (.builtin "len") [.ref D]) Q E s :=
  len_list (items := vs.toArray) ⟨_, hD, rfl, _, rfl⟩ (by rw [List.size_toArray]; omega) (by rw [List.size_toArray]; exact h)
theorem itemL {value slice : PySem.Expr} {k : Nat} {u : Tok} {x : Value} (hD : s.heap.get? D = some (listOf vs.toArray n)) (hk : k < 5000) (hx : vs[k]? = some x) (h : Q x s)
    (hs : subscripted slice false (.ref D) (.int (k : Int) u) = operate [.ref D, .int (k : Int) u] (getItem (.ref D) (.int (k : Int) u)) := by with_unfolding_all rfl) (hg : ∀ r, letTemporaryGo value (.ref D) r = pure () := by intro _; with_unfolding_all rfl) :
    wpAny (model prog w) A (subscriptTail value slice (.ref D) (.int (k : Int) u)) Q E s :=
  item_list (items := vs.toArray) ⟨_, hD, rfl, _, rfl⟩ (by omega) (by omega) (by rw [Int.toNat_natCast]; simpa using hx) h hs hg
theorem pick_to (vs : List Value) (k : Nat) : slicePick vs.toArray none (some (k : Int)) none = (vs.take k).toArray := by
  have e : sliceBounds none (some (k : Int)) none vs.toArray.size = (((0 : Nat) : Int), ((min k vs.toArray.size : Nat) : Int), 1) := by
    simp only [sliceBounds, Option.getD_none, show (1 : Int) > 0 by decide, if_true, if_neg (show ¬ ((k : Int) < 0) by omega)]
    congr 1
    congr 1
    omega
  rw [kmk_pick_nat _ e]
  show ((vs.drop 0).take (min k vs.toArray.size - 0)).toArray = _
  rw [List.drop_zero, Nat.sub_zero, List.size_toArray, kmk_take_min]
theorem sliceL {value slice : PySem.Expr} {k : Nat} {u : Tok} (F : Fr h₀ L s.heap m) (N : News h₀ L s.heap news) (hD : s.heap.get? D = some (listOf vs.toArray n)) (hz : vs.length < 5000)
    (h : ∀ D' h', Fr h₀ L h' m → News h₀ L h' ((D', listOf (vs.take k).toArray 0) :: news) → (∀ p ∈ news, p.1 < D') → Q (.ref D') { s with heap := h' })
    (hs : subscripted slice false (.ref D) (.ref s.heap.objs.size) = operate [.ref s.heap.objs.size, .ref D] (getItem (.ref D) (.ref s.heap.objs.size)) := by with_unfolding_all rfl) (ht : ∀ r, letTemporaryGo value (.ref D) r = pure () := by intro _; with_unfolding_all rfl) :
    wpAny (model prog w) A (subscriptTail value slice (.ref D) (.ref s.heap.objs.size)) Q E { s with heap := s.heap.push { cls := .type "slice", data := .fields #[.none, .int (k : Int) u, .none] } } :=
  kmk_slice (its := vs.toArray) F N ⟨_, hD, rfl, _, rfl⟩ .none (.int _ _) (fun D' h' F' N' l => h D' h' F' (by rw [← pick_to]; exact N') l) hs ht (by rw [List.size_toArray, sizeLine_eq]; omega)
theorem ints_eq {k : Int} {t : Tok} : ∀ {l : List Value} {ns : List Int}, IntsAre l ns → ∀ y ∈ l, MeetsSeq.EqGives y (.int k t) (isInt k y)
  | _, _, .nil, _, hy => nomatch hy
  | _, _, .cons a u h, y, hy => by
    rcases List.mem_cons.mp hy with rfl | hy
    · exact MeetsSeq.EqGives.int a k u t
    · exact ints_eq h y hy
theorem notInL {ns : List Int} {k : Int} {t : Tok} (hD : s.heap.get? D = some (listOf vs.toArray n)) (hi : IntsAre vs ns) (h : ∀ b, Q (.bool b) s) : wpAny (model prog w) A (compareOp .NotIn (.int k t) (.ref D)) Q E s :=
  SeqInW.notIn_listW (isInt k) (fun y hy => ints_eq hi y (by simpa using hy)) (items := vs.toArray) ⟨_, hD, rfl, _, rfl⟩ (h _)
end leaf
section leaf2
variable {prog : Program} {w : World} {A : Around} {E : Value → Shared → Prop} {s : Shared} {env : Env} {h₀ : Heap} {x : Str} {body : List Stmt} {Q : Flow → Shared → Prop}
theorem my_iter_listL {σ : Type} {l : Addr} {items : List Value} {cap : Nat} {m₀ : Str → Option Value} (Led : σ → List (Addr × Obj)) (ps : σ → List (Str × Value)) (P : Nat → σ → Prop) (c₀ : σ)
    (hh : A.handled = none) (hl : s.heap.get? l = some (listOf items.toArray cap)) (hll : env.locals ≠ l) (hlL : ∀ p ∈ Led c₀, p.1 ≠ l) (F : Fr h₀ env.locals s.heap m₀) (N : News h₀ env.locals s.heap (Led c₀)) (hadr : ∀ c, (Led c).map (·.1) = (Led c₀).map (·.1)) (hk : ∀ p ∈ ps c₀, m₀ p.1 = some p.2) (hp : P 0 c₀)
    (turn : ∀ (i : Nat) v (c : σ) (u : Str → Option Value) h tk own, items[i]? = some v → OwnOff own ((Led c).map (·.1)) → P i c → Fr h₀ env.locals h (kstB u ((x, v) :: ps c)) → News h₀ env.locals h (Led c ++ own) →
      wpAny (model prog w) A (execs body env) (TPost h₀ env.locals Led ps (P (i + 1)) own { s with heap := h, toks := tk } Q) E { s with heap := h, toks := tk })
    (done : ∀ (c : σ) (u : Str → Option Value) h tk, P items.length c → Fr h₀ env.locals h (kstB u (ps c)) → News h₀ env.locals h (Led c) → Q .next { s with heap := h, toks := tk }) :
    wpAny (model prog w) A (pyIter (.ref l)) (fun it s₂ => LoopAtV prog w A h₀ env x body Q E it s₂) E s := by
  have hls : s.heap.IsList l items.toArray := ⟨_, hl, rfl, _, rfl⟩
  have hne : l ≠ s.heap.objs.size := Nat.ne_of_lt (Heap.lt_size hl)
  refine wpAny_pyIter_list hls ?_
  have W := Walks.list (prog := prog) (w := w) hh s.heap.objs.size l hne items.toArray
  refine my_walk Led ps P c₀ W ?_ ?_ ?_ ?_ ⟨⟨_, Heap.get?_push_size _ rfl, rfl, rfl⟩, hls.at fun o e => Heap.get?_push_of_some _ e⟩ (F.push _) (fun p hp => ⟨Heap.get?_push_of_some _ (N p hp).1, (N p hp).2⟩) hadr hk hp ?_ ?_
  · intro hm
    rcases List.mem_cons.mp hm with e | hm
    · exact absurd F.ns.lt (e ▸ Nat.lt_irrefl _)
    · exact hll (List.mem_singleton.mp hm)
  · intro b hb
    rw [List.mem_singleton.mp hb]
    exact next_is_new F
  · intro p hp hI
    exact absurd (Heap.lt_size (N p hp).1) ((List.mem_singleton.mp hI) ▸ Nat.lt_irrefl _)
  · intro p hp hI
    rcases List.mem_cons.mp hI with e | hI
    · exact absurd (Heap.lt_size (N p hp).1) (e ▸ Nat.lt_irrefl _)
    · exact hlL p hp (List.mem_singleton.mp hI)
  · rintro i v c u h tk own hi hv hoff hp' F₁ N₁
    exact turn i v c u h tk own (by simpa using hv) hoff hp' F₁ N₁
  · intro c u h tk hp' F₁ N₁
    exact done c u h tk (by simpa using hp') F₁ N₁
end leaf2
theorem countIn_S (w : List Nat) : ∀ ls : List (List Nat), PySem.Spec.countIn (.str (S w)) ((ls.map S).map PyData.str) = ((ls.count w : Nat) : Int)
  | [] => rfl
  | l :: r => by
    show (if PySem.Spec.same (.str (S l)) (.str (S w)) then 1 else 0) + PySem.Spec.countIn _ _ = _
    rw [countIn_S w r, List.count_cons]
    have : PySem.Spec.same (.str (S l)) (.str (S w)) = (l == w) := by
      show (S l == S w) = _
      rw [Bool.eq_iff_iff, beq_iff_eq, beq_iff_eq]
      exact ⟨S_inj, congrArg S⟩
    rw [this]
    cases hb : (l == w) with
    | true =>
      rw [if_pos rfl, if_pos rfl]
      omega
    | false =>
      rw [if_neg (by decide), if_neg (by decide)]
      omega
theorem countL {prog : Program} {w : World} {A : Around} {E : Value → Shared → Prop} {s : Shared} {D : Addr} {vs : List Value} {n : Nat} {ls : List (List Nat)} {word : List Nat} {t : Tok} {Q : Value → Shared → Prop} (hD : s.heap.get? D = some (listOf vs.toArray n)) (hi : StrsAre vs (ls.map S))
    (h : Q (.int (ls.count word : Nat) s.toks) { s with toks := s.toks + 1 }) : wpAny (model prog w) A (call (.builtin "list.count") [.ref D, .str (S word) t]) Q E s :=
  count_list_strs ⟨_, hD, rfl, _, rfl⟩ hi (by rw [countIn_S]; exact h)
theorem countR {prog : Program} {w : World} {A : Around} {E : Value → Shared → Prop} {s : Shared} {D : Addr} {vs : List Value} {n r : Nat} {ls : List (List Nat)} {word : List Nat} {t : Tok} {Q : Value → Shared → Prop} (hD : s.heap.get? D = some (listOf vs.toArray n)) (hi : StrsAre vs (ls.map S)) (e : ls.count word = r)
    (h : Q (.int (r : Int) s.toks) { s with toks := s.toks + 1 }) : wpAny (model prog w) A (call (.builtin "list.count") [.ref D, .str (S word) t]) Q E s :=
  countL hD hi (by rw [e]; exact h)
theorem strs_take : ∀ {vs : List Value} {ys : List Str} (k : Nat), StrsAre vs ys → StrsAre (vs.take k) (ys.take k)
  | _, _, 0, _ => .nil
  | _, _, _ + 1, .nil => .nil
  | _, _, k + 1, .cons y t h => .cons y t (strs_take k h)
theorem range_take {x n : Nat} (h : x ≤ n) : (List.range n).take x = List.range x := by
  refine List.ext_getElem? fun i => ?_
  rw [List.getElem?_take]
  split
  · rw [List.getElem?_range (by omega), List.getElem?_range (by omega)]
  · rw [List.getElem?_eq_none (by rw [List.length_range]; omega)]
theorem neTup {prog : Program} {w : World} {A : Around} {E : Value → Shared → Prop} {s : Shared} {a b : Addr} {word : List Nat} {r : Nat} {i : Int} {t u t' u' : Tok} {Q : Value → Shared → Prop} (ha : s.heap.get? a = some (tupO [.str (S word) t, .int (r : Int) u])) (hb : s.heap.get? b = some (tupO [.str (S word) t', .int i u'])) (hi : i = (r : Int)) (hu : A.units < cLine)
    (h : Q (.bool false) s) : wpAny (model prog w) A (compareOp .NotEq (.ref a) (.ref b)) Q E s := by
  subst hi
  have he : ∀ j (h1 : j < #[Value.str (S word) t, Value.int (r : Int) u].size) (h2 : j < #[Value.str (S word) t', Value.int (r : Int) u'].size), SeqAt.EqAt A.in1 s #[Value.str (S word) t, Value.int (r : Int) u][j] #[Value.str (S word) t', Value.int (r : Int) u'][j] true := by
    intro j h1 h2
    have e1 : (S word == S word) = true := beq_self_eq_true _
    have e2 : ((r : Int) == (r : Int)) = true := beq_self_eq_true _
    match j, h1, h2 with
    | 0, _, _ => exact e1 ▸ SeqAt.EqAt.str_str (A := A.in1) (s := s) (S word) t (S word) t'
    | 1, _, _ => exact e2 ▸ SeqAt.EqAt.int_int (A := A.in1) (s := s) (r : Int) u (r : Int) u'
    | j + 2, h1, _ => exact absurd h1 (by simp)
  exact cmp_ofNotEq (SeqAt.RcNeAt.tuples (items := #[Value.str (S word) t, Value.int (r : Int) u]) (items2 := #[Value.str (S word) t', Value.int (r : Int) u']) (e := fun _ => true) ⟨_, ha, rfl, _, rfl⟩ ⟨_, hb, rfl, _, rfl⟩ hu he prog w E Q h)
end
section
theorem walk_off_z_main : True := by
  w_top off
  trivial
local macro_rules | `(tactic| walk_at "call ref") => `(tactic| (k_here; refine stop_of ?_))
local macro_rules | `(tactic| walk_at "eval ListComp") => `(tactic| (refine stop_of ?_))
local macro_rules | `(tactic| walk_at "exec Assign cons ListComp") => `(tactic| (refine stop_of ?_))
local macro_rules | `(tactic| walk_at "CompSrc") => `(tactic| (refine stop_of ?_))
local macro_rules | `(tactic| walk_at "CEnd") => `(tactic| (refine stop_of ?_))
local macro_rules | `(tactic| walk_at "call builtin:str.join") => `(tactic| (refine stop_of ?_))
theorem strs_at : ∀ {vs : List Value} {ys : List Str}, vs.length = ys.length → (∀ (i : Nat) (y : Value), vs[i]? = some y → ∃ (z : Str) (t : Tok), ys[i]? = some z ∧ y = Value.str z t) → StrsAre vs ys
  | [], [], _, _ => .nil
  | [], _ :: _, h, _ => nomatch h
  | _ :: _, [], h, _ => nomatch h
  | v :: vs, n :: ns, h, hp => by
    obtain ⟨n', t, e, rfl⟩ := hp 0 v rfl
    obtain rfl : n = n' := Option.some.inj e
    exact .cons n t (strs_at (Nat.succ.inj h) fun i y hy => hp (i + 1) y hy)
theorem sum_ones : ∀ l : List Nat, (l.map fun _ => 1).sum = l.length
  | [] => rfl
  | a :: r => by rw [List.map_cons, List.sum_cons, sum_ones r, List.length_cons]; omega
theorem flat_ones : ∀ l : List Nat, (l.map fun c => [c]).flatten = l
  | [] => rfl
  | a :: r => by rw [List.map_cons, List.flatten_cons, flat_ones r]; rfl
theorem after_read {base h h' : Heap} {L : Addr} {m : Str → Option Value} {news : List (Addr × Obj)} {env : Env} (F : Fr base L h m) (N : News base L h news) (hf : env.frame = some L) (k : ∀ b o, h.get? b = some o → b ∉ [env].filterMap (·.frame) → h'.get? b = some o) (U : h.UpToSlots h') : Fr base L h' m ∧ News base L h' news := by
  have k' : ∀ b o, b ≠ L → h.get? b = some o → h'.get? b = some o := fun b o hb e => k b o e (by
    rw [List.filterMap_cons, hf]
    simpa using hb)
  refine ⟨⟨U.ns F.ns, fun b o e => k' b o (fun q => ?_) (F.keep b o e), F.above⟩, fun p hp => ⟨k' _ _ (N p hp).2.1 (N p hp).1, (N p hp).2⟩⟩
  exact absurd (Nat.lt_of_lt_of_le (Heap.lt_size e) F.above) (by rw [q]; exact Nat.lt_irrefl _)
theorem new_off {base h : Heap} {L D : Addr} {m : Str → Option Value} (F : Fr base L h m) (hD : h.get? D = none) : D ≠ L ∧ base.get? D = none := by
  refine ⟨fun q => ?_, free_of F.keep hD⟩
  obtain ⟨o, _, _, ho, _⟩ := F.ns
  rw [← q, hD] at ho
  cases ho
theorem News.cons_new {base h : Heap} {L D : Addr} {o : Obj} {news : List (Addr × Obj)} (N : News base L h news) (g : h.get? D = some o) (n : D ≠ L ∧ base.get? D = none) : News base L h ((D, o) :: news) := fun p hp => by
  rcases List.mem_cons.mp hp with rfl | hp
  · exact ⟨g, n⟩
  · exact N p hp
theorem News.snoc_new {base h h' : Heap} {L : Addr} {m : Str → Option Value} {news led : List (Addr × Obj)} (F : Fr base L h m) (N : News base L h' news) (g : ∀ p ∈ led, h'.get? p.1 = some p.2 ∧ h.get? p.1 = none) : News base L h' (news ++ led) := fun p hp => by
  rcases List.mem_append.mp hp with hp | hp
  · exact N p hp
  · exact ⟨(g p hp).1, new_off F (g p hp).2⟩
theorem item_first {prog : Program} {w : World} {A : Around} {E : Value → Shared → Prop} {s : Shared} {value slice : PySem.Expr} {t : Addr} {u : Tok} {a b : Value} {Q : Value → Shared → Prop} (ht : s.heap.get? t = some (tupO [a, b])) (h : Q a s)
    (hs : subscripted slice false (.ref t) (.int 0 u) = operate [.ref t, .int 0 u] (getItem (.ref t) (.int 0 u)) := by with_unfolding_all rfl) :
    wpAny (model prog w) A (subscriptTail value slice (.ref t) (.int 0 u)) Q E s :=
  have hT : IsTup s.heap t [a, b].toArray := ⟨_, ht, rfl, _, rfl⟩
  subscriptTail_builtinR (x := a) hT.typeIs slot_tuple_getitem.lookup (getItem_tuple hT (by decide) (by decide) rfl rfl ⟨rfl, h⟩) hs
local macro_rules | `(tactic| walk_at "subscriptTail") => `(tactic| ((with_reducible show wpAny _ _ (subscriptTail _ _ (Value.ref _) (Value.int 0 _)) _ _ _); (rename (Heap.get? _ _ = some (tupO _)) => hT'); (refine item_first hT' ?_); clear hT'))
local macro_rules | `(tactic| walk_at "call builtin:len") => `(tactic| (k_here; (with_reducible show wpAny _ _ (call (Value.builtin "len") [Value.ref _]) _ _ _); (rename News _ _ _ _ => N'); (refine' lenL (News.get N' ?km) ?kz ?_); (case km => k_mem); (case kz => omega)))
local macro_rules | `(tactic| walk_at "subscriptTail") => `(tactic| (k_here; (with_reducible show wpAny _ _ (subscriptTail _ _ (Value.ref _) (Value.int (Nat.cast _) _)) _ _ _); (rename News _ _ _ _ => N'); (refine' itemL (News.get N' ?km) ?kz ?kx ?_); (case km => k_mem); (case kz => omega); (case kx => assumption)))
local macro_rules | `(tactic| walk_at "subscriptTail Name Slice ref ref") => `(tactic| (k_here; (with_reducible show wpAny _ _ (subscriptTail _ (PySem.Expr.Slice none (some _) none _) (Value.ref _) (Value.ref _)) _ _ _); (with_reducible rename Fr _ _ _ _ => F'); (with_reducible rename News _ _ _ _ => N'); (refine' sliceL (s := ⟨_, _, _, _, _⟩) F' N' (News.get N' ?km) ?kz ?_); (case km => k_mem); (case kz => omega); clear F' N'; intro D' h' F' N' l1))
local macro_rules | `(tactic| walk_at "compareOp NotIn int ref") => `(tactic| (k_here; (rename News _ _ _ _ => N'); (refine' notInL (News.get N' ?km) ?ki ?_); (case km => k_mem); (case ki => assumption); intro b'))
local macro_rules | `(tactic| walk_at "exec For Name List cons nil") => `(tactic| (k_here; (rename Fr _ _ _ _ => lF'); (with_unfolding_all refine' For_invVF lF' ?k1 ?k2 ?_; (case k1 => exact rfl); (case k2 => exact rfl); k_whole)))
local macro_rules | `(tactic| walk_at "newList") => `(tactic| (k_here; refine stop_of ?_))
theorem two_words {d : List Nat} (hd0 : 0 < d.length) {x i j : Nat} {t8 te : Tok} {v : Value} (h : [Value.str (S (counted d x).1) t8, Value.str (S (counted d i).1) te][j]? = some v) : ∃ word tw, v = Value.str (S word) tw ∧ word.length = 3 ∧ ∀ c ∈ word, c ∈ d := by
  match j, h with
  | 0, h => exact ⟨_, _, (Option.some.inj h).symm, counted_len x, counted_in hd0 x⟩
  | 1, h => exact ⟨_, _, (Option.some.inj h).symm, counted_len i, counted_in hd0 i⟩
  | j + 2, h => cases h
local macro_rules | `(tactic| walk_at "call builtin:list.count") => `(tactic| (k_here; (rename News _ _ _ _ => N'); (rename (_ ≤ 46 → _ = _) => hc'); (refine' countR (News.get N' ?km) ?ks (hc' ?hle) ?_); (case km => k_mem); (case ks => assumption); (case hle => omega)))
local macro_rules | `(tactic| walk_at "compareOp NotEq ref ref") => `(tactic| (k_here; (rename News _ _ _ _ => N'); (refine' neTup (News.get N' ?ka) (News.get N' ?kb) ?ki ?ku ?_); (case ka => k_mem); (case kb => k_mem); (case ki => omega); (case ku => exact Nat.le_of_ble_eq_true rfl)))
theorem law_holds : PySem.Challenge.rw_us0010_01.Holds := Mine.hd (by
  k_go0
  (all_goals try k_fold)
  rename Frag.In _ _ => KX
  rename Top _ _ _ _ _ _ => T
  rename IntsAre _ _ => hI
  rename Heap.IsList _ _ _ => hL
  rename Fr _ _ _ _ => F
  rename News _ _ _ _ => N
  rename (_ = #[]) => hg
  rename World => w
  rename List Int => ns
  rename List Value => vs
  rename Shared => s₁
  have S₀ : Std w [] s₁.heap := ⟨⟨s₁.heap, fun b o e => e, trivial, KX, _, _, _, _, T⟩, KX, _, _, _, _, T⟩
  k_steps
  unfold Stop
  refine LCg.ListComp_U (by assumption) (by with_unfolding_all rfl) (by decide) (by rfl) (by decide) (by rfl) ?_
  k_steps
  unfold Stop
  rename Fr _ _ _ _ => F1
  rename News _ _ _ _ => N1
  rename IntsAre _ (List.take 7 ns) => hI7
  rename List Value => ws
  have hwl : ws.length = (ns.take 7).length := hI7.length
  have h7 : (ns.take 7).length ≤ 7 := by rw [List.length_take]; omega
  refine' LCg.CompSrc.ledger (its := ws.toArray) (k := 0) rfl F1 N1 (.head _) ?sz fun g => ?_
  case sz => rw [List.size_toArray, sizeLine_eq]; omega
  refine' comp_all (fun i v y => ∃ (n : Int) (t : Tok), (ns.take 7)[i]? = some n ∧ y = Value.str (S [fiveL.getD (n.fmod 5).toNat 0]) t) (.inr ⟨_, .head _, rfl, _, rfl⟩) ?turn ?fin
  case turn =>
    rintro i v zs I oI C oC D m₂ h tk E' hi hv hC hx F N off ne
    obtain ⟨n, t, rfl, hn⟩ := IntsAre.at hI7 i v (by simpa using hv)
    have hm0 : 0 ≤ n.fmod 5 := Int.fmod_nonneg_of_pos _ (by decide)
    have hm1 : n.fmod 5 < 5 := Int.fmod_lt_of_pos _ (by decide)
    k_steps
    rename Fr _ _ _ _ => F2
    rename News _ _ _ _ => N2
    exact cend F2 N2 (fun _ hp => hp) ⟨n, _, hn, by rw [item_S _ _ hm0 (by simpa using hm1)]; rfl⟩
  case fin =>
    intro ys hyl hys
    obtain ⟨cs, hcs⟩ : ∃ cs : List Nat, cs = (ns.take 7).map fun n => fiveL.getD (n.fmod 5).toNat 0 := ⟨_, rfl⟩
    have hcl : cs.length ≤ 7 := by rw [hcs, List.length_map]; exact h7
    have hca : ∀ c ∈ cs, c ∈ alphabet := by
      intro c hc
      rw [hcs] at hc
      obtain ⟨n, _, rfl⟩ := List.mem_map.mp hc
      have hm0 : 0 ≤ n.fmod 5 := Int.fmod_nonneg_of_pos _ (by decide)
      have hm1 : n.fmod 5 < 5 := Int.fmod_lt_of_pos _ (by decide)
      have hm2 : (n.fmod 5).toNat < 5 := by omega
      have hall : ∀ k, k < 5 → fiveL.getD k 0 ∈ alphabet := by decide
      exact hall _ hm2
    have hstr : StrsAre ys (cs.map fun c => S [c]) := by
      refine strs_at (by rw [hyl, List.size_toArray, hwl, hcs, List.length_map, List.length_map]) fun i y hy => ?_
      obtain ⟨_, _, n, t, e1, e2⟩ := hys i y hy
      exact ⟨_, t, by rw [List.getElem?_map, hcs, List.getElem?_map, e1]; rfl, e2⟩
    intro M h tk F2 N2 off2
    clear F1 N1
    k_steps
    rename Fr _ _ _ _ => F1
    rename News _ _ _ _ => N1
    unfold Stop
    refine join_listW (ys := cs.map fun c => S [c]) ⟨_, (N1 _ (.head _)).1, rfl, _, rfl⟩ hstr (by decide +kernel) ?_ fun t2 k2 => ?_
    · have : ((cs.map fun c => S [c]).map (·.length)) = cs.map fun _ => 1 := by
        rw [List.map_map]
        exact List.map_congr_left fun c _ => S_len [c]
      rw [this, List.length_map]
      have := sum_ones cs
      omega
    have hj : Txt.join (S []) (cs.map fun c => S [c]) = S cs := by
      have e : (cs.map fun c => S [c]) = (cs.map fun c => [c]).map S := by rw [List.map_map]; rfl
      rw [e, join_S, flat_ones]
    rw [hj]
    k_steps
    obtain ⟨d, hd, ha, hb, hdl, hlast, hd0⟩ := sent_facts cs hca hcl
    rename Fr _ _ _ _ => F1
    rename News _ _ _ _ => N1
    unfold Stop
    refine' ar_le (A' := AR 4 _) (sent_spec (mail := cs ++ tailL) (std_of S₀ F1 rfl rfl) (by rw [List.length_append]; show _ + 11 < 100; omega) ?_) rfl (Nat.le_of_ble_eq_true rfl) rfl rfl (Nat.le_of_ble_eq_true rfl)
    intro h2 t3 tk3 k3
    rw [hd]
    replace F1 := fr_ext F1 k3
    replace N1 := news_ext N1 k3
    clear k3
    k_steps
    rename Fr _ _ _ _ => F1
    rename News _ _ _ _ => N1
    simp only [List.cons_append, List.nil_append] at N1
    unfold Stop
    have hnl : (pieces (find2F (cs ++ tailL)) [13, 10] (cs ++ tailL) ((cs ++ tailL).length + 1) 0).flatten.length < 1000 := by
      rw [norm_all]
      have := norm_len false (cs ++ tailL)
      have : (cs ++ tailL).length ≤ 18 := by rw [List.length_append]; show _ + 11 ≤ 18; omega
      omega
    refine' ar_le (A' := AR 4 _) (quote_spec (mail := cs ++ tailL) (std_of S₀ F1 rfl rfl) (by rw [List.length_append]; show _ + 11 < 100; omega) hnl ?_) rfl (Nat.le_of_ble_eq_true rfl) rfl rfl (Nat.le_of_ble_eq_true rfl)
    clear hnl
    intro h4 t4 tk4 k4
    rw [quoted_eq, hd]
    replace F1 := fr_ext F1 k4
    replace N1 := news_ext N1 k4
    clear k4
    k_steps
    rename Fr _ _ _ _ => F1
    rename News _ _ _ _ => N1
    unfold Stop
    refine' ar_le (A' := AR 4 _) (read_spec (std_of S₀ F1 rfl rfl) (by omega) ha hlast ?_) rfl (Nat.le_of_ble_eq_true rfl) rfl rfl (Nat.le_of_ble_eq_true rfl)
    intro h5 R1 rv rn tk5 k5 U5 e5 g5 hri
    have nR := new_off F1 e5
    obtain ⟨F2, N2⟩ := after_read F1 N1 rfl k5 U5
    have N3 := News.cons_new N2 g5 nR
    clear F1 N1 N2 k5 U5
    k_steps
    rename Fr _ _ _ _ => F1
    rename News _ _ _ _ => N1
    unfold Stop
    refine' ar_le (A' := AR 4 _) (numbers_spec (std_of S₀ F1 rfl rfl) (by omega) ?_) rfl (Nat.le_of_ble_eq_true rfl) rfl rfl (Nat.le_of_ble_eq_true rfl)
    intro R2 wv wn h6 tk6 k6 e6 g6 hwi
    have nR2 := new_off F1 e6
    replace F1 := fr_ext F1 k6
    have N2 := News.cons_new (news_ext N1 k6) g6 nR2
    clear N1 k6
    k_steps
    rename Fr _ _ _ _ => F1
    rename News _ _ _ _ => N1
    unfold Stop
    refine' ar_le (A' := AR 4 _) (places_spec (std_of S₀ F1 rfl rfl) (by omega) ha ?_) rfl (Nat.le_of_ble_eq_true rfl) rfl rfl (Nat.le_of_ble_eq_true rfl)
    intro h7 Dp led tk7 k7 hled hpl
    have N2 := News.snoc_new F1 (news_ext N1 k7) hled
    replace F1 := fr_ext F1 k7
    clear N1 k7 hled
    simp only [List.cons_append, List.nil_append] at N2
    k_steps
    unfold Stop
    rename Fr _ _ _ _ => F1
    rename News _ _ _ _ => N1
    refine LCg.Assign_ListComp_U (F₀ := by assumption) (by rfl) (by with_unfolding_all rfl) (by with_unfolding_all rfl) (by decide) (by rfl) (by decide) (by rfl) (by rfl) (by rfl) ?_
    k_steps
    unfold Stop
    rename Fr _ _ _ _ => F1
    rename News _ _ _ _ => N1
    rename IsRange _ _ _ _ _ _ _ _ => hrg
    have hsm : Builtin.Range.small 0 46 1 = true := small_one (by omega) (by omega) (by omega) (by omega)
    have hrs : Builtin.Range.rangeSize 0 46 1 = ((46 : Nat) : Int) := rangeSize_nat 0 46
    refine' LCg.CompSrc.range (n := 46) rfl F1 N1 hrg hsm hrs (by rw [sizeLine_eq]; omega) fun g2 => ?_
    refine' comp_all (fun i v y => ∃ t, y = Value.str (S (counted d i).1) t) trivial ?turn ?fin
    case turn =>
      clear F1 N1 hrg
      rintro i v zs I oI C oC D m₂ h tk E' hi ⟨t, rfl⟩ hC hx F N off ne
      rw [Int.zero_add] at hx
      k_steps
      unfold Stop
      refine' ar_le (A' := AR 4 _) (counted_spec (std_of S₀ F rfl rfl) hd0 (by omega) ?_) rfl (Nat.le_of_ble_eq_true rfl) rfl rfl (Nat.le_of_ble_eq_true rfl)
      intro T8 h8 t8 t9 tk8 k8 e8 g8
      replace F := fr_ext F k8
      replace N := news_ext N k8
      clear k8
      k_steps
      rename Fr _ _ _ _ => F2
      rename News _ _ _ _ => N2
      unfold Stop
      exact cend F2 N2 (fun _ hp => hp) ⟨_, rfl⟩
    case fin =>
      intro ev hel hev
      intro R3 h9 tk9 F3 N3 off3
      clear F1 N1 hrg
      have hnl : (numbersAll d).1.length ≤ 40 := Nat.le_trans (numbers_len d [] 0) (by simpa using hdl)
      have hrl : rv.length = (numbersAll d).1.length := by rw [hri.length]; simp [zs]
      k_steps
      rename Fr _ _ _ _ => F1
      rename News _ _ _ _ => N1
      rename IsRange _ _ _ _ _ _ _ _ => hrg
      rename (_ = Data.cell (some (Value.str (S d) _))) => hcell
      unfold Stop
      refine' my_iter_range (σ := Unit) (n := rv.length) (fun _ => _) (fun _ => [(Str.ofString "sent", .str (S d) t4), (Str.ofString "read", .ref R1), (Str.ofString "places", .ref Dp), (Str.ofString "early", .ref R3)])
        (fun _ _ => True) () rfl hrg ?hsm ?hn F1 N1 (fun _ => rfl) ?hk trivial ?turn ?done
      case hsm => exact small_one (by omega) (by omega) (by omega) (by omega)
      case hn => exact rangeSize_nat _ _
      case hk => kst_all
      case turn =>
        clear F1 N1 hrg
        rintro i t ⟨⟩ u h tk' own hi hoff _ F N
        simp only [List.cons_append] at N
        k_fold
        obtain ⟨x, hx⟩ : ∃ x, (numbersAll d).1[i]? = some x := ⟨_, List.getElem?_eq_getElem (by omega)⟩
        obtain ⟨tx, hrx⟩ := hri.get i (x : Int) (by unfold zs; rw [List.getElem?_map, hx]; rfl)
        have hie : i < 46 := by omega
        obtain ⟨te, hex⟩ : ∃ te, ev[i]? = some (Value.str (S (counted d i).1) te) := by
          obtain ⟨_, _, te, e⟩ := hev i _ (List.getElem?_eq_getElem (by omega))
          exact ⟨te, by rw [List.getElem?_eq_getElem (by omega), e]⟩
        have hrt := hri.take i
        k_steps
        · rename Fr _ _ _ _ => F2
          rename News _ _ _ _ => N2
          show TEnd _ _ _ _ _ _ _ _
          exact tend () F2 N2 (fun p hp => List.mem_cons_of_mem _ (List.mem_append_left own hp)) (fun p hp => by simp [hp]) (by kst_all) trivial
        · rename Fr _ _ _ _ => F1
          rename News _ _ _ _ => N1
          unfold Stop
          refine' ar_le (A' := AR 4 _) (counted_spec (std_of S₀ F1 rfl rfl) hd0 (by omega) ?_) rfl (Nat.le_of_ble_eq_true rfl) rfl rfl (Nat.le_of_ble_eq_true rfl)
          intro T8 h8 t8 t9 tk8 k8 e8 g8
          replace F1 := fr_ext F1 k8
          replace N1 := news_ext N1 k8
          clear k8
          k_steps
          unfold Stop
          rename Fr _ _ _ _ => F1
          rename News _ _ _ _ => N1
          refine wpAny_newList ?_ (by rw [sizeLine_eq]; show 2 ≤ 16777216; omega)
          have hWL : Heap.get? (h8.push (listOf (List.toArray [Value.str (S (counted d x).1) t8, Value.str (S (counted d i).1) te]) 0)) h8.objs.size = some (listOf (List.toArray [Value.str (S (counted d x).1) t8, Value.str (S (counted d i).1) te]) 0) := Heap.get?_push_size _ rfl
          have apart := fun (p : Addr × Obj) hp => Nat.ne_of_lt (Heap.lt_size (N1 p hp).1)
          have hLW := Nat.ne_of_lt F1.ns.lt
          have N2 := N1.grown (fun b o e => Heap.get?_push_of_some (listOf (List.toArray [Value.str (S (counted d x).1) t8, Value.str (S (counted d i).1) te]) 0) e)
          have F2 := F1.push (listOf (List.toArray [Value.str (S (counted d x).1) t8, Value.str (S (counted d i).1) te]) 0)
          clear F1 N1
          refine' my_iter_listL (σ := Unit) (items := [Value.str (S (counted d x).1) t8, Value.str (S (counted d i).1) te]) (cap := 0) (fun _ => _) (fun _ => [(Str.ofString "k", .int (i : Int) t), (Str.ofString "sent", .str (S d) t4), (Str.ofString "read", .ref R1), (Str.ofString "places", .ref Dp), (Str.ofString "early", .ref R3)])
            (fun _ _ => True) () rfl hWL hLW apart F2 N2 (fun _ => rfl) ?hk2 trivial ?turn2 ?done2
          case hk2 => kst_all
          case turn2 =>
            clear F2 N2 apart hLW hWL
            rintro j v ⟨⟩ u h tk' own2 hj hoff2 _ F N
            simp only [List.cons_append] at N
            k_fold
            obtain ⟨word, tw, hv, hw3, hwd⟩ : ∃ word tw, v = Value.str (S word) tw ∧ word.length = 3 ∧ ∀ c ∈ word, c ∈ d := two_words hd0 hj
            subst hv
            obtain ⟨g1, g2, g3, g4⟩ := law_word hd0 word hw3 hwd x
            have hwa : ∀ c ∈ word, c ∈ alphabet := fun c hc => ha c (hwd c hc)
            have hcount : x ≤ 46 → (((List.range 46).map fun y => (counted d y).1).take x).count word = ranked d word x := fun hx46 => by
              rw [← List.map_take, range_take hx46]
              exact g1
            have hevx : StrsAre (ev.take x) ((((List.range 46).map fun y => (counted d y).1).take x).map S) := by
              rw [List.map_take]
              refine strs_take x (strs_at (by rw [hel, List.length_map, List.length_map, List.length_range]) fun i y hy => ?_)
              obtain ⟨_, _, te, e⟩ := hev i y hy
              have hi46 : i < 46 := by have := (List.getElem?_eq_some_iff.mp hy).1; omega
              exact ⟨_, te, by rw [List.getElem?_map, List.getElem?_map, List.getElem?_range hi46]; rfl, e⟩
            k_steps
            unfold Stop
            rename Fr _ _ _ _ => F1
            rename News _ _ _ _ => N1
            refine' ar_le (A' := AR 4 _) (ranked_spec (std_of S₀ F1 rfl rfl) (hpl _ (fun p hp => (N1 p (by simp [hp])).1)) hd0 (by omega) hwa ?_) rfl (Nat.le_of_ble_eq_true rfl) rfl rfl (Nat.le_of_ble_eq_true rfl)
            intro h10 t10 tk10 k10
            replace F1 := fr_ext F1 k10
            replace N1 := news_ext N1 k10
            clear k10
            k_steps
            all_goals (first | (unfold Stop; with_reducible show wpAny _ _ (call _ _) _ _ _) | (exfalso; omega) | (exfalso; rename (_ ≠ _) => hq; exact hq rfl))
            all_goals (rename Fr _ _ _ _ => F1)
            all_goals (rename News _ _ _ _ => N1)
            all_goals (refine' ar_le (A' := AR 4 _) (back_spec (std_of S₀ F1 rfl rfl) (hpl _ (fun p hp => (N1 p (by simp [hp])).1)) hd0 (by omega) hwa hwd (by omega) ?_) rfl (Nat.le_of_ble_eq_true rfl) rfl rfl (Nat.le_of_ble_eq_true rfl))
            all_goals (intro h11 t11 tk11 k11)
            all_goals (replace F1 := fr_ext F1 k11)
            all_goals (replace N1 := news_ext N1 k11)
            all_goals (clear k11)
            all_goals k_steps
            all_goals (unfold Stop)
            all_goals (rename Fr _ _ _ _ => F1)
            all_goals (rename News _ _ _ _ => N1)
            all_goals (refine' ar_le (A' := AR 4 _) (counted_spec (std_of S₀ F1 rfl rfl) hd0 (by omega) ?_) rfl (Nat.le_of_ble_eq_true rfl) rfl rfl (Nat.le_of_ble_eq_true rfl))
            all_goals (intro T9 h12 t12 t13 tk12 k12 e12 g12)
            all_goals (rw [g3] at g12)
            all_goals (replace N1 := News.cons_new (news_ext N1 k12) g12 (new_off F1 e12))
            all_goals (replace F1 := fr_ext F1 k12)
            all_goals (clear k12 g12 e12)
            all_goals k_steps
            rotate_left 1
            · rename Fr _ _ _ _ => F2
              rename News _ _ _ _ => N2
              show TEnd _ _ _ _ _ _ _ _
              refine tend () F2 N2 ?_ ?_ ?_ trivial
              · first
                | exact (fun p hp => List.mem_cons_of_mem _ (List.mem_cons_of_mem _ (List.mem_append_left own2 hp)))
                | exact (fun p hp => List.mem_cons_of_mem _ (List.mem_cons_of_mem _ (List.mem_cons_of_mem _ (List.mem_append_left own2 hp))))
                | exact (fun p hp => List.mem_cons_of_mem _ (List.mem_append_left own2 hp))
               
              · exact (fun p hp => by simp [hp])
              · kst_all
            rotate_left 1
            · rename Fr _ _ _ _ => F2
              rename News _ _ _ _ => N2
              show TEnd _ _ _ _ _ _ _ _
              refine tend () F2 N2 ?_ ?_ ?_ trivial
              · first
                | exact (fun p hp => List.mem_cons_of_mem _ (List.mem_cons_of_mem _ (List.mem_append_left own2 hp)))
                | exact (fun p hp => List.mem_cons_of_mem _ (List.mem_cons_of_mem _ (List.mem_cons_of_mem _ (List.mem_append_left own2 hp))))
                | exact (fun p hp => List.mem_cons_of_mem _ (List.mem_append_left own2 hp))
               
              · exact (fun p hp => by simp [hp])
              · kst_all
            all_goals (unfold Stop)
            all_goals (rename Fr _ _ _ _ => F1)
            all_goals (rename News _ _ _ _ => N1)
            all_goals (obtain ⟨r, hr⟩ : ∃ r, ranked d word x = r + 1 := ⟨ranked d word x - 1, by omega⟩)
            all_goals (obtain ⟨g5, g6⟩ := g4 (by omega))
            all_goals (simp only [hr, Nat.add_sub_cancel] at g5 g6)
            all_goals (rw [hr])
            all_goals (rw [show ((r + 1 : Nat) : Int) - 1 = (r : Int) by omega])
            all_goals (refine' ar_le (A' := AR 4 _) (back_spec (std_of S₀ F1 rfl rfl) (hpl _ (fun p hp => (N1 p (by simp [hp])).1)) hd0 (by omega) hwa hwd (by omega) ?_) rfl (Nat.le_of_ble_eq_true rfl) rfl rfl (Nat.le_of_ble_eq_true rfl))
            all_goals (intro h13 t13 tk13 k13)
            all_goals (replace F1 := fr_ext F1 k13)
            all_goals (replace N1 := news_ext N1 k13)
            all_goals (clear k13)
            all_goals k_steps
            all_goals (first | (unfold Stop; with_reducible show wpAny _ _ (call _ _) _ _ _) | (exfalso; omega))
            all_goals (rename Fr _ _ _ _ => F1)
            all_goals (rename News _ _ _ _ => N1)
            all_goals (refine' ar_le (A' := AR 4 _) (counted_spec (std_of S₀ F1 rfl rfl) hd0 (by omega) ?_) rfl (Nat.le_of_ble_eq_true rfl) rfl rfl (Nat.le_of_ble_eq_true rfl))
            all_goals (intro T10 h14 t14 t15 tk14 k14 e14 g14)
            all_goals (rw [g6] at g14)
            all_goals (replace N1 := News.cons_new (news_ext N1 k14) g14 (new_off F1 e14))
            all_goals (replace F1 := fr_ext F1 k14)
            all_goals (clear k14 g14 e14)
            all_goals k_steps
            all_goals (rename Fr _ _ _ _ => F2)
            all_goals (rename News _ _ _ _ => N2)
            all_goals (show TEnd _ _ _ _ _ _ _ _)
            all_goals (refine tend () F2 N2 ?_ ?_ ?_ trivial)
            rotate_left 2
            · kst_all
            · (intro p hp; repeat (first | exact List.mem_append_left own2 hp | refine List.mem_cons_of_mem _ ?_))
            · intro p hp
              simp [hp]
            · kst_all
            · (intro p hp; repeat (first | exact List.mem_append_left own2 hp | refine List.mem_cons_of_mem _ ?_))
            · intro p hp
              simp [hp]
          case done2 =>
            intro _ u h tk' _ F N
            k_steps
            show TEnd _ _ _ _ _ _ _ _
            exact tend () F N (fun p hp => List.mem_cons_of_mem _ (List.mem_append_left own hp)) (fun p hp => by simp [hp]) (by kst_all) trivial
      case done =>
        intro _ u h tk' _ F N
        k_steps)
end
end Mine
theorem PySem.Challenge.cw_us0010_01_holds : PySem.Challenge.rw_us0010_01.Holds := by
  exact Mine.law_holds
