import PyProof.Rows.All
import Wide.All
import OpenK.AllK
import Wide.FinOn
import PySem.Challenge.RW_rl0061_01
open PySem PySem.W PyProof.Rows
set_option Elab.async false
set_option maxRecDepth 100000
set_option maxHeartbeats 8000000
set_option linter.all false
namespace Mine
theorem nq : @PySem.W.namesOk = @PySem.W.namesOk := rfl
name_quick tw8075568018651887793 for PySem.W.namesOk by Mine.nq
name_quick tw14979626087600564940 for PySem.W.namesOk by Mine.nq
name_quick tw722763727203808317 for PySem.W.namesOk by Mine.nq
name_quick tw15191723694830456177 for PySem.W.namesOk by Mine.nq
name_quick tw3295853379573931458 for PySem.W.namesOk by Mine.nq
name_quick tw7232422423428716515 for PySem.W.namesOk by Mine.nq
name_quick tw14223099787259518943 for PySem.W.namesOk by Mine.nq
name_quick tw8265968502654686089 for PySem.W.namesOk by Mine.nq
name_quick tw14834023430324568649 for PySem.W.namesOk by Mine.nq
name_quick tw7505897509792200422 for PySem.W.namesOk by Mine.nq
name_quick tw4090926877573551719 for PySem.W.namesOk by Mine.nq
name_quick tw11985326045990495214 for PySem.W.namesOk by Mine.nq
name_quick tw17111948838632640456 for PySem.W.namesOk by Mine.nq
name_quick tw16049961110935095269 for PySem.W.namesOk by Mine.nq
name_quick tw14333388528381170442 for PySem.W.namesOk by Mine.nq
name_quick tw14781814936221603388 for PySem.W.namesOk by Mine.nq
name_quick tw8897938508979226211 for PySem.W.namesOk by Mine.nq
name_quick tw14761518105344179592 for PySem.W.namesOk by Mine.nq
name_quick tw15263041282635125899 for PySem.W.namesOk by Mine.nq
name_quick tw7378761846476686904 for PySem.W.namesOk by Mine.nq
name_quick tw13034053981158551246 for PySem.W.namesOk by Mine.nq
name_quick tw15112985482279097393 for PySem.W.namesOk by Mine.nq
name_quick tw13016732220969518872 for PySem.W.namesOk by Mine.nq
name_quick tw16241802466949684156 for PySem.W.namesOk by Mine.nq
name_quick tw5349121933718820234 for PySem.W.namesOk by Mine.nq
name_quick tw8703263022893421829 for PySem.W.namesOk by Mine.nq
name_quick tw5721027456603625697 for PySem.W.namesOk by Mine.nq
name_quick tw16414604833108395602 for PySem.W.namesOk by Mine.nq
name_quick tw10938465397075749097 for PySem.W.namesOk by Mine.nq
name_quick tw9467589175468403638 for PySem.W.namesOk by Mine.nq
name_quick tw151948405760981731 for PySem.W.namesOk by Mine.nq
name_quick tw3891137856419664920 for PySem.W.namesOk by Mine.nq
name_quick tw16916688483869632129 for PySem.W.namesOk by Mine.nq
name_quick tw17476080006546285661 for PySem.W.namesOk by Mine.nq
name_quick tw2862820112641550484 for PySem.W.namesOk by Mine.nq
name_quick tw1702518465993881591 for PySem.W.namesOk by Mine.nq
name_quick tw15475462885187679331 for PySem.W.namesOk by Mine.nq
name_quick tw16817318245366136608 for PySem.W.namesOk by Mine.nq
name_quick tw10833955939284561965 for PySem.W.namesOk by Mine.nq
name_quick tw9862997608875712007 for PySem.W.namesOk by Mine.nq
open_top hd for PySem.Challenge.rw_rl0061_01
theorem top_off : True := by w_top off; trivial
end Mine
open PySem.Calls
namespace Mine
local macro_rules | `(tactic| walk_at $s:str) => `(tactic| first | k_extra $s | fail "none")
theorem cex1.{u0} {α0 : Sort u0} {P : α0 → Prop} {R : Prop} (k : ∀ x0, P x0 → R) : (∃ x0, P x0) → R := fun ⟨x0, h⟩ => k x0 h
theorem cex2.{u0,u1} {α0 : Sort u0} {α1 : Sort u1} {P : α0 → α1 → Prop} {R : Prop} (k : ∀ x0 x1, P x0 x1 → R) : (∃ x0 x1, P x0 x1) → R := fun ⟨x0, x1, h⟩ => k x0 x1 h
theorem cex3.{u0,u1,u2} {α0 : Sort u0} {α1 : Sort u1} {α2 : Sort u2} {P : α0 → α1 → α2 → Prop} {R : Prop} (k : ∀ x0 x1 x2, P x0 x1 x2 → R) : (∃ x0 x1 x2, P x0 x1 x2) → R := fun ⟨x0, x1, x2, h⟩ => k x0 x1 x2 h
theorem cex4.{u0,u1,u2,u3} {α0 : Sort u0} {α1 : Sort u1} {α2 : Sort u2} {α3 : Sort u3} {P : α0 → α1 → α2 → α3 → Prop} {R : Prop} (k : ∀ x0 x1 x2 x3, P x0 x1 x2 x3 → R) : (∃ x0 x1 x2 x3, P x0 x1 x2 x3) → R := fun ⟨x0, x1, x2, x3, h⟩ => k x0 x1 x2 x3 h
theorem cex5.{u0,u1,u2,u3,u4} {α0 : Sort u0} {α1 : Sort u1} {α2 : Sort u2} {α3 : Sort u3} {α4 : Sort u4} {P : α0 → α1 → α2 → α3 → α4 → Prop} {R : Prop} (k : ∀ x0 x1 x2 x3 x4, P x0 x1 x2 x3 x4 → R) : (∃ x0 x1 x2 x3 x4, P x0 x1 x2 x3 x4) → R := fun ⟨x0, x1, x2, x3, x4, h⟩ => k x0 x1 x2 x3 x4 h
theorem cex6.{u0,u1,u2,u3,u4,u5} {α0 : Sort u0} {α1 : Sort u1} {α2 : Sort u2} {α3 : Sort u3} {α4 : Sort u4} {α5 : Sort u5} {P : α0 → α1 → α2 → α3 → α4 → α5 → Prop} {R : Prop} (k : ∀ x0 x1 x2 x3 x4 x5, P x0 x1 x2 x3 x4 x5 → R) : (∃ x0 x1 x2 x3 x4 x5, P x0 x1 x2 x3 x4 x5) → R := fun ⟨x0, x1, x2, x3, x4, x5, h⟩ => k x0 x1 x2 x3 x4 x5 h
theorem cex7.{u0,u1,u2,u3,u4,u5,u6} {α0 : Sort u0} {α1 : Sort u1} {α2 : Sort u2} {α3 : Sort u3} {α4 : Sort u4} {α5 : Sort u5} {α6 : Sort u6} {P : α0 → α1 → α2 → α3 → α4 → α5 → α6 → Prop} {R : Prop} (k : ∀ x0 x1 x2 x3 x4 x5 x6, P x0 x1 x2 x3 x4 x5 x6 → R) : (∃ x0 x1 x2 x3 x4 x5 x6, P x0 x1 x2 x3 x4 x5 x6) → R := fun ⟨x0, x1, x2, x3, x4, x5, x6, h⟩ => k x0 x1 x2 x3 x4 x5 x6 h
theorem cex8.{u0,u1,u2,u3,u4,u5,u6,u7} {α0 : Sort u0} {α1 : Sort u1} {α2 : Sort u2} {α3 : Sort u3} {α4 : Sort u4} {α5 : Sort u5} {α6 : Sort u6} {α7 : Sort u7} {P : α0 → α1 → α2 → α3 → α4 → α5 → α6 → α7 → Prop} {R : Prop} (k : ∀ x0 x1 x2 x3 x4 x5 x6 x7, P x0 x1 x2 x3 x4 x5 x6 x7 → R) : (∃ x0 x1 x2 x3 x4 x5 x6 x7, P x0 x1 x2 x3 x4 x5 x6 x7) → R := fun ⟨x0, x1, x2, x3, x4, x5, x6, x7, h⟩ => k x0 x1 x2 x3 x4 x5 x6 x7 h
theorem cand2 {a0 a1 R : Prop} (k : a0 → a1 → R) : a0 ∧ a1 → R := fun ⟨h0, h1⟩ => k h0 h1
theorem cand3 {a0 a1 a2 R : Prop} (k : a0 → a1 → a2 → R) : a0 ∧ a1 ∧ a2 → R := fun ⟨h0, h1, h2⟩ => k h0 h1 h2
theorem cand4 {a0 a1 a2 a3 R : Prop} (k : a0 → a1 → a2 → a3 → R) : a0 ∧ a1 ∧ a2 ∧ a3 → R := fun ⟨h0, h1, h2, h3⟩ => k h0 h1 h2 h3
theorem cand5 {a0 a1 a2 a3 a4 R : Prop} (k : a0 → a1 → a2 → a3 → a4 → R) : a0 ∧ a1 ∧ a2 ∧ a3 ∧ a4 → R := fun ⟨h0, h1, h2, h3, h4⟩ => k h0 h1 h2 h3 h4
theorem cand6 {a0 a1 a2 a3 a4 a5 R : Prop} (k : a0 → a1 → a2 → a3 → a4 → a5 → R) : a0 ∧ a1 ∧ a2 ∧ a3 ∧ a4 ∧ a5 → R := fun ⟨h0, h1, h2, h3, h4, h5⟩ => k h0 h1 h2 h3 h4 h5
theorem cand7 {a0 a1 a2 a3 a4 a5 a6 R : Prop} (k : a0 → a1 → a2 → a3 → a4 → a5 → a6 → R) : a0 ∧ a1 ∧ a2 ∧ a3 ∧ a4 ∧ a5 ∧ a6 → R := fun ⟨h0, h1, h2, h3, h4, h5, h6⟩ => k h0 h1 h2 h3 h4 h5 h6
theorem cand8 {a0 a1 a2 a3 a4 a5 a6 a7 R : Prop} (k : a0 → a1 → a2 → a3 → a4 → a5 → a6 → a7 → R) : a0 ∧ a1 ∧ a2 ∧ a3 ∧ a4 ∧ a5 ∧ a6 ∧ a7 → R := fun ⟨h0, h1, h2, h3, h4, h5, h6, h7⟩ => k h0 h1 h2 h3 h4 h5 h6 h7
theorem cand9 {a0 a1 a2 a3 a4 a5 a6 a7 a8 R : Prop} (k : a0 → a1 → a2 → a3 → a4 → a5 → a6 → a7 → a8 → R) : a0 ∧ a1 ∧ a2 ∧ a3 ∧ a4 ∧ a5 ∧ a6 ∧ a7 ∧ a8 → R := fun ⟨h0, h1, h2, h3, h4, h5, h6, h7, h8⟩ => k h0 h1 h2 h3 h4 h5 h6 h7 h8
theorem cand10 {a0 a1 a2 a3 a4 a5 a6 a7 a8 a9 R : Prop} (k : a0 → a1 → a2 → a3 → a4 → a5 → a6 → a7 → a8 → a9 → R) : a0 ∧ a1 ∧ a2 ∧ a3 ∧ a4 ∧ a5 ∧ a6 ∧ a7 ∧ a8 ∧ a9 → R := fun ⟨h0, h1, h2, h3, h4, h5, h6, h7, h8, h9⟩ => k h0 h1 h2 h3 h4 h5 h6 h7 h8 h9
theorem cand11 {a0 a1 a2 a3 a4 a5 a6 a7 a8 a9 a10 R : Prop} (k : a0 → a1 → a2 → a3 → a4 → a5 → a6 → a7 → a8 → a9 → a10 → R) : a0 ∧ a1 ∧ a2 ∧ a3 ∧ a4 ∧ a5 ∧ a6 ∧ a7 ∧ a8 ∧ a9 ∧ a10 → R := fun ⟨h0, h1, h2, h3, h4, h5, h6, h7, h8, h9, h10⟩ => k h0 h1 h2 h3 h4 h5 h6 h7 h8 h9 h10
theorem cand12 {a0 a1 a2 a3 a4 a5 a6 a7 a8 a9 a10 a11 R : Prop} (k : a0 → a1 → a2 → a3 → a4 → a5 → a6 → a7 → a8 → a9 → a10 → a11 → R) : a0 ∧ a1 ∧ a2 ∧ a3 ∧ a4 ∧ a5 ∧ a6 ∧ a7 ∧ a8 ∧ a9 ∧ a10 ∧ a11 → R := fun ⟨h0, h1, h2, h3, h4, h5, h6, h7, h8, h9, h10, h11⟩ => k h0 h1 h2 h3 h4 h5 h6 h7 h8 h9 h10 h11
theorem impApp {P R : Prop} (h : P) (k : P → R) : R := k h
/-! part Base -/
abbrev PR : Program := PySem.Challenge.rw_rl0061_01.row.prog

/-! ## ghost heaps: the frozen part of a heap -/
def restr (h : Heap) (P : Addr → Bool) : Heap :=
  ⟨h.objs.mapIdx fun i o => if P i then o else { cls := .none, data := .freed }, h.life⟩
theorem restr_size (h : Heap) (P : Addr → Bool) : (restr h P).objs.size = h.objs.size := by simp [restr]
theorem restr_yes {h : Heap} {P : Addr → Bool} {b : Addr} (hP : P b = true) : (restr h P).get? b = h.get? b := by
  unfold restr Heap.get?
  simp only [Array.getElem?_mapIdx]
  cases h.objs[b]? with
  | none => rfl
  | some o => simp [hP]
theorem restr_no {h : Heap} {P : Addr → Bool} {b : Addr} (hP : P b = false) : (restr h P).get? b = none := by
  unfold restr Heap.get?
  simp only [Array.getElem?_mapIdx]
  cases h.objs[b]? with
  | none => rfl
  | some o => simp [hP]

/-- what G has and B has not, as a list -/
def gl (B G : Heap) : List (Addr × Obj) :=
  (List.range G.objs.size).filterMap fun b => match B.get? b with | none => (G.get? b).map fun o => (b, o) | some _ => none
theorem mem_gl {B G : Heap} {b : Addr} {o : Obj} : (b, o) ∈ gl B G ↔ B.get? b = none ∧ G.get? b = some o := by
  unfold gl
  rw [List.mem_filterMap]
  constructor
  · (refine cex1 ?_; rintro c; refine cand2 ?_; rintro _ h)
    cases hB : B.get? c with
    | some x => rw [hB] at h; cases h
    | none =>
      rw [hB] at h
      (refine impApp (Option.map_eq_some_iff.mp h) ?_; refine cex1 ?_; rintro x; refine cand2 ?_; rintro hx e)
      cases e
      exact ⟨hB, hx⟩
  · rintro ⟨hB, hG⟩
    exact ⟨b, List.mem_range.mpr (Heap.lt_size hG), by rw [hB]; simp [hG]⟩
theorem gl_self {B G : Heap} (h : G.StaysIn B) : gl B G = [] := by
  apply List.eq_nil_iff_forall_not_mem.mpr
  rintro ⟨b, o⟩ hm
  obtain ⟨h1, h2⟩ := mem_gl.mp hm
  rw [h b o h2] at h1; cases h1
theorem gl_ne {B G : Heap} {d : Addr} (h : G.get? d = none) : ∀ p ∈ gl B G, p.1 ≠ d := by
  rintro ⟨b, o⟩ hm rfl
  rw [(mem_gl.mp hm).2] at h; cases h

/-- G' has what G has, and of what is older than h nothing more -/
structure Gx (h G G' : Heap) : Prop where
  stays : G.StaysIn G'
  new : ∀ b o, h.get? b = some o → G.get? b = none → G'.get? b = none
theorem Gx.refl (h G : Heap) : Gx h G G := ⟨fun _ _ e => e, fun _ _ _ e => e⟩
theorem Gx.trans {h h' G G' G'' : Heap} (x : Gx h G G') (y : Gx h' G' G'') (le : h.StaysIn h') : Gx h G G'' :=
  ⟨fun b o e => y.stays b o (x.stays b o e), fun b o hb e => y.new b o (le b o hb) (x.new b o hb e)⟩
theorem stays_size {h h' : Heap} {L : Addr} {m : Str → Option Value} (F : Fr h L h' m) : h.objs.size ≤ h'.objs.size :=
  Nat.le_of_lt (Nat.lt_of_le_of_lt F.above F.ns.lt)
theorem StaysIn.refl (h : Heap) : h.StaysIn h := fun _ _ e => e
theorem StaysIn.trans {a b c : Heap} (x : a.StaysIn b) (y : b.StaysIn c) : a.StaysIn c := fun d o e => y d o (x d o e)

/-- the ghost of a frame with the base B: it began as G₀ -/
structure Gs (B G₀ G : Heap) : Prop where
  base : G₀.StaysIn B
  x : Gx B G₀ G
theorem Gs.init {B G : Heap} (h : G.StaysIn B) : Gs B G G := ⟨h, Gx.refl _ _⟩

section
variable {B G₀ G G' h h' : Heap} {L : Addr} {m : Str → Option Value} {news : List (Addr × Obj)}
theorem Gs.old {b : Addr} {o : Obj} (S : Gs B G₀ G) (e : G.get? b = some o) : B.get? b = some o ∨ B.get? b = none := by
  cases hB : B.get? b with
  | none => exact .inr rfl
  | some o₁ =>
    cases h0 : G₀.get? b with
    | none => rw [S.x.new b o₁ hB h0] at e; cases e
    | some o' =>
      have q := S.x.stays b o' h0
      rw [e] at q; cases q
      exact .inl (hB ▸ S.base b o h0)
theorem Gs.keep (S : Gs B G₀ G) (F : Fr B L h m) (N : News B L h (news ++ gl B G)) : G.StaysIn h := by
  intro b o e
  rcases S.old e with hB | hB
  · exact F.keep b o hB
  · exact (N (b, o) (List.mem_append_right _ (mem_gl.mpr ⟨hB, e⟩))).1
theorem Gs.keepL {l : List (Addr × Obj)} (S : Gs B G₀ G) (F : Fr B L h m) (N : News B L h l) (hs : ∀ p ∈ gl B G, p ∈ l) : G.StaysIn h := by
  intro b o e
  rcases S.old e with hB | hB
  · exact F.keep b o hB
  · exact (N (b, o) (hs _ (mem_gl.mpr ⟨hB, e⟩))).1
theorem Gs.noL (S : Gs B G₀ G) (F : Fr B L h m) (N : News B L h (news ++ gl B G)) : G.get? L = none := by
  cases e : G.get? L with
  | none => rfl
  | some o =>
    rcases S.old e with hB | hB
    · exact absurd (Heap.lt_size hB) (Nat.not_lt.mpr F.above)
    · exact absurd rfl (N (L, o) (List.mem_append_right _ (mem_gl.mpr ⟨hB, e⟩))).2.1
/-- none of the listed is frozen -/
def Off (G : Heap) (news : List (Addr × Obj)) : Prop := ∀ p ∈ news, G.get? p.1 = none
theorem Off.nil : Off G [] := fun _ h => nomatch h
theorem Off.cons {d : Addr} {o : Obj} (h : G.get? d = none) (r : Off G news) : Off G ((d, o) :: news) := fun p hp => by
  rcases List.mem_cons.mp hp with rfl | hp
  · exact h
  · exact r p hp
/-- behind a call that changes nothing old -/
theorem after_call (S : Gs B G₀ G) (F : Fr B L h m) (N : News B L h (news ++ gl B G)) (O : Off G news)
    (X : Gx h G G') (hk : h.StaysIn h') (hG : G'.StaysIn h') :
    Fr B L h' m ∧ News B L h' (news ++ gl B G') ∧ Gs B G₀ G' ∧ Off G' news := by
  refine ⟨F.keeps hk, ?_, ⟨S.base, S.x.trans X F.keep⟩, fun p hp => X.new _ _ (N p (List.mem_append_left _ hp)).1 (O p hp)⟩
  rintro ⟨b, o⟩ hp
  rcases List.mem_append.mp hp with hp | hp
  · have z := N (b, o) (List.mem_append_left _ hp); exact ⟨hk _ _ z.1, z.2⟩
  · obtain ⟨h1, h2⟩ := mem_gl.mp hp
    refine ⟨hG b o h2, ?_, h1⟩
    rintro rfl
    (refine impApp (F.ns) ?_; refine cex3 ?_; rintro oL _ _; refine cand2 ?_; rintro hL _)
    have := X.new b oL hL (S.noL F N)
    rw [h2] at this; cases this
/-- an object of the ledger is frozen -/
theorem freeze {x : Addr} {o : Obj} {pre post : List (Addr × Obj)} (S : Gs B G₀ G) (F : Fr B L h m) (N : News B L h (pre ++ (x, o) :: post ++ gl B G)) :
    ∃ G', Gs B G₀ G' ∧ G.StaysIn G' ∧ G'.get? x = some o ∧ News B L h (pre ++ post ++ gl B G') ∧ ∀ d, d ≠ x → G.get? d = none → G'.get? d = none := by
  have hst : G.StaysIn h := S.keep F N
  have hx := N (x, o) (List.mem_append_left _ (List.mem_append_right _ (.head _)))
  have key : ∀ b, ((G.get? b).isSome || b == x) = false → G.get? b = none ∧ b ≠ x := fun b hb => by
    rw [Bool.or_eq_false_iff] at hb
    exact ⟨by simpa using hb.1, by simpa using hb.2⟩
  have g1 : ∀ b o', G.get? b = some o' → (restr h fun b => (G.get? b).isSome || b == x).get? b = some o' := fun b o' e => by
    rw [restr_yes (by simp [e])]; exact hst b o' e
  have g2 : ∀ d, d ≠ x → G.get? d = none → (restr h fun b => (G.get? b).isSome || b == x).get? d = none := fun d hd e => restr_no (by simp [e, hd])
  refine ⟨restr h fun b => (G.get? b).isSome || b == x, ⟨S.base, fun b o' e => g1 b o' (S.x.stays b o' e), fun b o' hb e => ?_⟩, g1, ?_, ?_, g2⟩
  · refine g2 b ?_ (S.x.new b o' hb e)
    rintro rfl
    have := hx.2.2
    rw [hb] at this; cases this
  · rw [restr_yes (by simp)]; exact hx.1
  · rintro ⟨b, o'⟩ hp
    rcases List.mem_append.mp hp with hp | hp
    · refine N (b, o') (List.mem_append_left _ ?_)
      rcases List.mem_append.mp hp with hp | hp
      · exact List.mem_append_left _ hp
      · exact List.mem_append_right _ (.tail _ hp)
    · obtain ⟨h1, h2⟩ := mem_gl.mp hp
      by_cases hbx : b = x
      · subst hbx
        rw [restr_yes (by simp), hx.1] at h2
        cases h2
        exact hx
      · cases e : G.get? b with
        | none => rw [g2 b hbx e] at h2; cases h2
        | some o'' =>
          rw [g1 b o'' e] at h2; cases h2
          exact N (b, o') (List.mem_append_right _ (mem_gl.mpr ⟨h1, e⟩))
end
/-! part Kon -/
/-- a call that changes nothing old; G is the frozen part that it is told of -/
def Pure (w : World) (G : Heap) (f : Addr) (args : List Value) (dep unt : Nat) (post : Heap → Value → Prop) : Prop :=
  ∀ (p : Program) (loose : List Str) (mean : ExcName → Option Value) (mg mb : Str → Option Value) (A : Around) (s : Shared) (Q E : Value → Shared → Prop),
    A.handled = none → A.depth + dep < recursionLimit → A.units + unt < cLine → (Mine.hd.heap_39 w.params).In s.heap → Top p loose mean mg mb s.heap → G.StaysIn s.heap →
    (∀ v h' tk' G', s.heap.StaysIn h' → Gx s.heap G G' → G'.StaysIn h' → post G' v → Q v { s with heap := h', toks := tk' }) →
    wpAny (model PR w) A (call (.ref f) args) Q E s

section
variable {w : World} {A : Around} {s : Shared} {E : Value → Shared → Prop} {p : Program} {loose : List Str} {mean : ExcName → Option Value} {mg mb : Str → Option Value} {B G₀ G : Heap} {L : Addr} {m : Str → Option Value} {news : List (Addr × Obj)}
theorem Pure.use {f : Addr} {args : List Value} {dep unt : Nat} {post : Heap → Value → Prop} {Q : Value → Shared → Prop} (C : Pure w G f args dep unt post)
    (hh : A.handled = none) (hd : A.depth + dep < recursionLimit) (hu : A.units + unt < cLine) (X : (Mine.hd.heap_39 w.params).In B) (T : Top p loose mean mg mb B)
    (F : Fr B L s.heap m) (N : News B L s.heap (news ++ gl B G)) (S : Gs B G₀ G) (O : Off G news)
    (k : ∀ v h' tk' G', G.StaysIn G' → Gs B G₀ G' → Off G' news → post G' v → Fr B L h' m → News B L h' (news ++ gl B G') → Q v { s with heap := h', toks := tk' }) :
    wpAny (model PR w) A (call (.ref f) args) Q E s :=
  C p loose mean mg mb A s Q E hh hd hu (X.keeps F.keep) (T.keeps F.keep) (S.keep F N) fun v h' tk' G' hk hx hg hp =>
    let ⟨F', N', S', O'⟩ := after_call S F N O hx hk hg
    k v h' tk' G' hx.stays S' O' hp F' N'

theorem enter_own {K : Frag} {R : Result → Shared → Prop} {name qual : Str} {params : Arguments} {body : List Stmt} {scope : Scope} {dV kV doc pm cdv ct oc : Value} {an od : Option Addr} {osl : Array (Option Value)} {f : Addr} {args : Args} (binds : List (Str × Value))
    (X : K.In s.heap) (T : Top p loose mean mg mb s.heap)
    (ho : K.lookup f = some ⟨oc, od, .func (fnOf name qual params body scope dV kV doc pm an cdv ct), osl⟩) (hcd : codeIn K cdv qual = true) (hroom : A.depth < recursionLimit)
    (hbind : BindsTo s (fnOf name qual params body scope dV kV doc pm an cdv ct) args binds) (hloc : ∀ y ∈ binds, scope.names.lookup y.1 = some .local)
    (h : ∀ L h₁ E', Fr s.heap L h₁ (fun y => binds.reverse.lookup y) →
      wpAny (model PR w) (A.deeper (envOf qual scope L f cdv)) (execs body (envOf qual scope L f cdv))
        (fun fl s' => R (.ok (.ret (match fl with | .ret v => v | _ => .none))) s') E'
        { s with heap := h₁, toks := s.toks + binds.length })
    (hco : scope.isCoroutine = false := by rfl) (hgen : scope.isGenerator = false := by rfl) (hk : scope.kind = .function := by rfl)
    (hcell : ∀ x ∈ scope.names, x.2 ≠ .cell := by decide) : codeAny (model PR w) A (.call (.ref f) args) R s := by
  refine codeAny_call_def (fd := fnOf name qual params body scope dV kV doc pm an cdv ct) (body := body) (binds := binds) hroom (X _ _ ho) rfl T.nolimit (codeRec_of X hcd) rfl hbind hcell hloc (fun h₁ hns hk₁ => ?_) hco hgen hk
  exact h _ h₁ _ ⟨hns, hk₁, Nat.le_refl _⟩
end
/-! part Loops -/
/-- the end of a loop's turn: the frame, the ledger (its addresses as they were), the ghost -/
def TurnEnd (s : Shared) (B G₀ : Heap) (L I : Addr) (oI : Obj) (adr : List Addr) (Gi : Heap) (J : Heap → (Str → Option Value) → List (Addr × Obj) → Prop) (s₃ : Shared) : Prop :=
  ∃ h' tk' G' m' n', s₃ = { s with heap := h', toks := tk' } ∧ Gs B G₀ G' ∧ Gi.StaysIn G' ∧ Fr B L h' m' ∧ News B L h' ((I, oI) :: n' ++ gl B G') ∧ Off G' ((I, oI) :: n') ∧ n'.map (·.1) = adr ∧ J G' m' n'
def TurnPost (s : Shared) (B G₀ : Heap) (L I : Addr) (oI : Obj) (adr : List Addr) (Gi : Heap) (J X : Heap → (Str → Option Value) → List (Addr × Obj) → Prop) (Q : Flow → Shared → Prop) (f : Flow) (s₃ : Shared) : Prop :=
  match f with
  | .ret v => Q (.ret v) s₃
  | .brk => TurnEnd s B G₀ L I oI adr Gi X s₃
  | _ => TurnEnd s B G₀ L I oI adr Gi J s₃

section
variable {w : World} {A : Around} {s : Shared} {env : Env} {B G₀ G : Heap} {m : Str → Option Value} {news : List (Addr × Obj)} {E : Value → Shared → Prop}

theorem off_ne {G : Heap} {news : List (Addr × Obj)} {b : Addr} {o : Obj} (O : Off G news) (e : G.get? b = some o) : ∀ p ∈ news, p.1 ≠ b := by
  rintro p hp rfl
  rw [O p hp] at e; cases e
theorem adr_ne {n' : List (Addr × Obj)} {adr : List Addr} {I : Addr} (e : n'.map (·.1) = adr) (h : I ∉ adr) : ∀ p ∈ n', p.1 ≠ I := by
  rintro p hp rfl
  exact h (e ▸ List.mem_map_of_mem hp)

/-- the frame and the ledger behind a step that changes I alone -/
theorem step_I {L I : Addr} {h h' : Heap} (F : Fr B L h m) (N : News B L h (news ++ gl B G)) (hI : B.get? I = none) (hIL : I ≠ L) (hIn : ∀ p ∈ news, p.1 ≠ I) (hIG : G.get? I = none)
    (hk : ∀ b o, b ∉ [I] → h.get? b = some o → h'.get? b = some o) : Fr B L h' m ∧ News B L h' (news ++ gl B G) := by
  have hk' : ∀ b o, b ≠ I → h.get? b = some o → h'.get? b = some o := fun b o hb e => hk b o (by simpa using hb) e
  refine ⟨⟨F.ns.at' fun o e => hk' L o (Ne.symm hIL) e, fun b o e => hk' b o (fun q => by rw [q, hI] at e; cases e) (F.keep b o e), F.above⟩, ?_⟩
  rintro ⟨b, o⟩ hp
  have z := N (b, o) hp
  refine ⟨hk' b o ?_ z.1, z.2⟩
  rintro rfl
  rcases List.mem_append.mp hp with hp | hp
  · exact hIn _ hp rfl
  · rw [(mem_gl.mp hp).2] at hIG; cases hIG

theorem for_walk {I : Addr} {fp : List Addr} {n : Nat} {P : Nat → Value → Prop} {St : Nat → Heap → Prop} {target : Expr} {body : List Stmt} {Q : Flow → Shared → Prop}
    (W : Walks PR w A I fp [I] n P St) (J : Nat → Heap → (Str → Option Value) → List (Addr × Obj) → Prop) (X : Heap → (Str → Option Value) → List (Addr × Obj) → Prop)
    (hlive : ∀ i h, St i h → ∃ o, h.get? I = some o) (hfp : ∀ b ∈ fp, b ≠ I → ∃ o, G.get? b = some o) (hst : St 0 s.heap)
    (S : Gs B G₀ G) (F : Fr B env.locals s.heap m) (N : News B env.locals s.heap (news ++ gl B G)) (O : Off G news)
    (hI : B.get? I = none) (hIL : I ≠ env.locals) (hIn : I ∉ news.map (·.1)) (hIG : G.get? I = none) (hj : J 0 G m news)
    (turn : ∀ i v Gi mi ni h tk oI Q' E', (∀ v s', Q (.ret v) s' → Q' (.ret v) s') → i < n → P i v → J i Gi mi ni → ni.map (·.1) = news.map (·.1) → Gs B G₀ Gi → G.StaysIn Gi → Fr B env.locals h mi → News B env.locals h ((I, oI) :: ni ++ gl B Gi) → Off Gi ((I, oI) :: ni) → (∀ p ∈ ni, p.1 ≠ I) →
      wpAny (model PR w) A (assign target env v) (fun _ s₂ => wpAny (model PR w) A (execs body env) (TurnPost s B G₀ env.locals I oI (news.map (·.1)) Gi (J (i + 1)) X Q') E' s₂) E' { s with heap := h, toks := tk })
    (hX : ∀ Gn mn nn, J n Gn mn nn → X Gn mn nn)
    (done : ∀ Gn mn nn h tk, X Gn mn nn → Gs B G₀ Gn → G.StaysIn Gn → Fr B env.locals h mn → News B env.locals h (nn ++ gl B Gn) → Off Gn nn → nn.map (·.1) = news.map (·.1) → Q .next { s with heap := h, toks := tk })
    (ht' : ∀ v, letOwnedTupleGo target (.ref I) v = pure ()) :
    codeAny (model PR w) A (.forLoop target (.ref I) body [] env) (fun r s' => match r with | .ok f => Q f s' | .error e => cameBackBy (model PR w) A env E e s') s := by
  refine codeAny_forLoop (R := fun r s' => match r with | .ok f => Q f s' | .error e => cameBackBy (model PR w) A env E e s')
    (fun k s' => ∃ h tk i Gi mi ni, s' = { s with heap := h, toks := tk } ∧ k = n + 1 - i ∧ i ≤ n ∧ St i h ∧ J i Gi mi ni ∧ Gs B G₀ Gi ∧ G.StaysIn Gi ∧ Fr B env.locals h mi ∧ News B env.locals h (ni ++ gl B Gi) ∧ Off Gi ni ∧ Gi.get? I = none ∧ ni.map (·.1) = news.map (·.1))
    ?_ (n + 1) ⟨s.heap, s.toks, 0, G, m, news, rfl, rfl, Nat.zero_le _, hst, hj, S, StaysIn.refl _, F, N, O, hIG, rfl⟩ ht'
  (rintro k s'; refine cex6 ?_; rintro h tk i Gi mi ni; refine cand12 ?_; rintro rfl rfl hi hsti hJ Si Gst Fi Ni Oi hIGi hadr)
  have hIni := adr_ne hadr hIn
  by_cases hlt : i < n
  · refine W.item i _ _ _ hlt hsti fun v h₁ tk₁ hP hst₁ hk₁ => ?_
    obtain ⟨F₁, N₁⟩ := step_I Fi Ni hI hIL hIni hIGi hk₁
    obtain ⟨oI, hoI⟩ := hlive _ _ hst₁
    have N₂ : News B env.locals h₁ ((I, oI) :: ni ++ gl B Gi) := by
      intro p hp
      rcases List.mem_cons.mp hp with rfl | hp
      · exact ⟨hoI, hIL, hI⟩
      · exact N₁ p hp
    refine wpAny_mono (turn i v Gi mi ni h₁ tk₁ oI Q _ (fun _ _ q => q) hlt hP hJ hadr Si Gst F₁ N₂ (Off.cons hIGi Oi) hIni) (fun _ s₂ h₂ => wpAny_mono h₂ (fun f s₃ h₃ => ?_) fun _ _ e => e) fun _ _ e => e
    have fin : TurnEnd s B G₀ env.locals I oI (news.map (·.1)) Gi (J (i + 1)) s₃ → ∃ m_1, m_1 < n + 1 - i ∧ ∃ h tk i Gi mi ni, s₃ = { s with heap := h, toks := tk } ∧ m_1 = n + 1 - i ∧ i ≤ n ∧ St i h ∧ J i Gi mi ni ∧ Gs B G₀ Gi ∧ G.StaysIn Gi ∧ Fr B env.locals h mi ∧ News B env.locals h (ni ++ gl B Gi) ∧ Off Gi ni ∧ Gi.get? I = none ∧ ni.map (·.1) = news.map (·.1) := by
      (refine cex5 ?_; rintro h' tk' G' m' n'; refine cand8 ?_; rintro rfl S' G1 F' N' O' ha' hJ')
      refine ⟨n + 1 - (i + 1), by (first | lia | omega), h', tk', i + 1, G', m', n', rfl, rfl, hlt, ?_, hJ', S', StaysIn.trans Gst G1, F', fun p hp => N' p (.tail _ hp), fun p hp => O' p (.tail _ hp), O' _ (.head _), ha'⟩
      refine W.frame _ _ _ hst₁ fun b hb o e => ?_
      by_cases hbI : b = I
      · subst hbI
        rw [hoI] at e; cases e
        exact (N' _ (.head _)).1
      · obtain ⟨o', ho'⟩ := hfp b hb hbI
        have e1 := Si.keep F₁ N₁ b o' (Gst b o' ho')
        rw [e] at e1; cases e1
        exact S'.keep F' N' b o (G1 b o (Gst b o ho'))
    cases f with
    | ret v => exact h₃
    | brk =>
      (revert h₃; refine cex5 ?_; rintro h' tk' G' m' n'; refine cand8 ?_; rintro rfl S' G1 F' N' O' ha' hX')
      exact done G' m' n' h' tk' hX' S' (StaysIn.trans Gst G1) F' (fun p hp => N' p (.tail _ hp)) (fun p hp => O' p (.tail _ hp)) ha'
    | next => exact fin h₃
    | cont => exact fin h₃
  · have hin : i = n := by (first | lia | omega)
    subst hin
    refine W.done _ _ _ hsti fun h₁ tk₁ hk₁ => wpAny_execs_nil ?_
    obtain ⟨F₁, N₁⟩ := step_I Fi Ni hI hIL hIni hIGi hk₁
    exact done Gi mi ni h₁ tk₁ (hX _ _ _ hJ) Si Gst F₁ N₁ Oi hadr

/-- a for over a list of the frozen part -/
theorem for_list {l L : Addr} {vs : List Value} {target : Expr} {body : List Stmt} {Q : Flow → Shared → Prop}
    (hL : env.locals = L) (hh : A.handled = none) (J : Nat → Heap → (Str → Option Value) → List (Addr × Obj) → Prop) (X : Heap → (Str → Option Value) → List (Addr × Obj) → Prop) (hl : G.IsList l vs.toArray)
    (S : Gs B G₀ G) (F : Fr B L s.heap m) (N : News B L s.heap (news ++ gl B G)) (O : Off G news) (hj : J 0 G m news)
    (turn : ∀ i v Gi mi ni h tk I oI Q' E', (∀ v s', Q (.ret v) s' → Q' (.ret v) s') → vs[i]? = some v → J i Gi mi ni → ni.map (·.1) = news.map (·.1) → Gs B G₀ Gi → G.StaysIn Gi → Fr B L h mi → News B L h ((I, oI) :: ni ++ gl B Gi) → Off Gi ((I, oI) :: ni) → (∀ p ∈ ni, p.1 ≠ I) →
      wpAny (model PR w) A (assign target env v) (fun _ s₂ => wpAny (model PR w) A (execs body env) (TurnPost s B G₀ L I oI (news.map (·.1)) Gi (J (i + 1)) X Q') E' s₂) E' { s with heap := h, toks := tk })
    (hX : ∀ Gn mn nn, J vs.length Gn mn nn → X Gn mn nn)
    (done : ∀ Gn mn nn h tk, X Gn mn nn → Gs B G₀ Gn → G.StaysIn Gn → Fr B L h mn → News B L h (nn ++ gl B Gn) → Off Gn nn → nn.map (·.1) = news.map (·.1) → Q .next { s with heap := h, toks := tk })
    (ht : ∀ I v, letOwnedTupleGo target (.ref I) v = pure () := by intro _ _; rfl) :
    wpAny (model PR w) A (pyIter (.ref l)) (fun it s₂ => codeAny (model PR w) A (.forLoop target it body [] env) (fun r s' => match r with | .ok f => Q f s' | .error e => cameBackBy (model PR w) A env E e s') s₂) E s := by
  subst hL
  have hGs := S.keep F N
  have hls : s.heap.IsList l vs.toArray := stays_list hGs hl
  (refine impApp (id hl) ?_; refine cex1 ?_; rintro ol; refine cand2 ?_; rintro hol _)
  have hne : l ≠ s.heap.objs.size := Nat.ne_of_lt (Heap.lt_size (hGs _ _ hol))
  have hfr : ∀ {X : Heap}, X.StaysIn s.heap → X.get? s.heap.objs.size = none := fun k => Heap.StaysIn.fresh k
  refine wpAny_pyIter_list hls ?_
  have W := Walks.list (prog := PR) (w := w) hh s.heap.objs.size l hne vs.toArray
  have hsz : vs.toArray.size = vs.length := by simp
  rw [hsz] at W
  refine for_walk (s := { s with heap := s.heap.push { cls := .type "list_iterator", data := .fields #[.ref l, .int 0 0] } }) (news := news) (G := G) W J X (fun i h st => let ⟨o, ho, _⟩ := st.1; ⟨o, ho⟩) (fun b hb hbI => ?_) ⟨⟨_, Heap.get?_push_size _ rfl, rfl, rfl⟩, hls.push _⟩ S (F.push _)
    (fun p hp => ⟨Heap.get?_push_of_some _ (N p hp).1, (N p hp).2⟩) O (hfr F.keep) (Nat.ne_of_gt F.ns.lt) ?_ (hfr hGs) hj ?_ hX ?_ (ht _)
  · rcases List.mem_cons.mp hb with rfl | hb
    · exact absurd rfl hbI
    · rw [List.mem_singleton.mp hb]; exact ⟨ol, hol⟩
  · intro hm
    (refine impApp (List.mem_map.mp hm) ?_; refine cex1 ?_; rintro p; refine cand2 ?_; rintro hp e)
    have := Heap.lt_size (N p (List.mem_append_left _ hp)).1
    rw [e] at this; exact Nat.lt_irrefl _ this
  · intro i v Gi mi ni h tk oI Q' E' hq _ hP
    exact turn i v Gi mi ni h tk _ oI Q' E' hq (by simpa using hP)
  · exact done

/-- a for over a tuple of the frozen part -/
theorem for_tup {l L : Addr} {vs : List Value} {target : Expr} {body : List Stmt} {Q : Flow → Shared → Prop}
    (hL : env.locals = L) (hh : A.handled = none) (J : Nat → Heap → (Str → Option Value) → List (Addr × Obj) → Prop) (X : Heap → (Str → Option Value) → List (Addr × Obj) → Prop) (hl : IsTup G l vs.toArray)
    (S : Gs B G₀ G) (F : Fr B L s.heap m) (N : News B L s.heap (news ++ gl B G)) (O : Off G news) (hj : J 0 G m news)
    (turn : ∀ i v Gi mi ni h tk I oI Q' E', (∀ v s', Q (.ret v) s' → Q' (.ret v) s') → vs[i]? = some v → J i Gi mi ni → ni.map (·.1) = news.map (·.1) → Gs B G₀ Gi → G.StaysIn Gi → Fr B L h mi → News B L h ((I, oI) :: ni ++ gl B Gi) → Off Gi ((I, oI) :: ni) → (∀ p ∈ ni, p.1 ≠ I) →
      wpAny (model PR w) A (assign target env v) (fun _ s₂ => wpAny (model PR w) A (execs body env) (TurnPost s B G₀ L I oI (news.map (·.1)) Gi (J (i + 1)) X Q') E' s₂) E' { s with heap := h, toks := tk })
    (hX : ∀ Gn mn nn, J vs.length Gn mn nn → X Gn mn nn)
    (done : ∀ Gn mn nn h tk, X Gn mn nn → Gs B G₀ Gn → G.StaysIn Gn → Fr B L h mn → News B L h (nn ++ gl B Gn) → Off Gn nn → nn.map (·.1) = news.map (·.1) → Q .next { s with heap := h, toks := tk })
    (ht : ∀ I v, letOwnedTupleGo target (.ref I) v = pure () := by intro _ _; rfl) :
    wpAny (model PR w) A (pyIter (.ref l)) (fun it s₂ => codeAny (model PR w) A (.forLoop target it body [] env) (fun r s' => match r with | .ok f => Q f s' | .error e => cameBackBy (model PR w) A env E e s') s₂) E s := by
  subst hL
  have hGs := S.keep F N
  have hls : s.heap.IsTuple l vs.toArray := stays_tup hGs hl
  (refine impApp (id hl) ?_; refine cex1 ?_; rintro ol; refine cand2 ?_; rintro hol _)
  have hne : l ≠ s.heap.objs.size := Nat.ne_of_lt (Heap.lt_size (hGs _ _ hol))
  have hfr : ∀ {X : Heap}, X.StaysIn s.heap → X.get? s.heap.objs.size = none := fun k => Heap.StaysIn.fresh k
  refine wpAny_pyIter_tuple hls ?_
  have W := Walks.tuple (prog := PR) (w := w) hh s.heap.objs.size l hne vs.toArray
  have hsz : vs.toArray.size = vs.length := by simp
  rw [hsz] at W
  refine for_walk (s := { s with heap := s.heap.push { cls := .type "tuple_iterator", data := .fields #[.ref l, .int 0 0] } }) (news := news) (G := G) W J X (fun i h st => let ⟨o, ho, _⟩ := st.1; ⟨o, ho⟩) (fun b hb hbI => ?_) ⟨⟨_, Heap.get?_push_size _ rfl, rfl, rfl⟩, hls.push _⟩ S (F.push _)
    (fun p hp => ⟨Heap.get?_push_of_some _ (N p hp).1, (N p hp).2⟩) O (hfr F.keep) (Nat.ne_of_gt F.ns.lt) ?_ (hfr hGs) hj ?_ hX ?_ (ht _)
  · rcases List.mem_cons.mp hb with rfl | hb
    · exact absurd rfl hbI
    · rw [List.mem_singleton.mp hb]; exact ⟨ol, hol⟩
  · intro hm
    (refine impApp (List.mem_map.mp hm) ?_; refine cex1 ?_; rintro p; refine cand2 ?_; rintro hp e)
    have := Heap.lt_size (N p (List.mem_append_left _ hp)).1
    rw [e] at this; exact Nat.lt_irrefl _ this
  · intro i v Gi mi ni h tk oI Q' E' hq _ hP
    exact turn i v Gi mi ni h tk _ oI Q' E' hq (by simpa using hP)
  · exact done
end
/-! part Comps -/
/-- the tests of a comprehension's clause -/
abbrev testsOf (ifs : List Expr) (env : Env) : Sem Bool := forIn ifs true fun c r => if r = true then do let ok ← isTrue c env (eval c env); pure (ForInStep.yield ok) else pure (ForInStep.yield r)

/-- c runs the last clause of a list comprehension -/
def LoopsLast (w : World) (A : Around) (c : Code) (I D : Addr) (target elt : Expr) (ifs : List Expr) (cenv : Env) : Prop :=
  ∀ (R : Result → Shared → Prop) (Inv : Nat → Shared → Prop) (s : Shared),
    (∀ n s, Inv n s → wpAny (model PR w) A (pyNext (.ref I)) (fun r s₁ => match r with
      | none => R (.ok .next) s₁
      | some v => wpAny (model PR w) A (assign target cenv v) (fun _ s₂ => wpAny (model PR w) A (testsOf ifs cenv) (fun ok s₃ =>
            if ok = true then wpAny (model PR w) A (eval elt cenv) (fun x s₄ =>
              wpAny (model PR w) A (call (.builtin "list.append") [.ref D, x]) (fun _ s₅ => ∃ m, m < n ∧ Inv m s₅) (notedBy (model PR w) A cenv fun e s' => R (.error e) s') s₄) (notedBy (model PR w) A cenv fun e s' => R (.error e) s') s₃
            else ∃ m, m < n ∧ Inv m s₃) (notedBy (model PR w) A cenv fun e s' => R (.error e) s') s₂) (notedBy (model PR w) A cenv fun e s' => R (.error e) s') s₁) (notedBy (model PR w) A cenv fun e s' => R (.error e) s') s) →
    ∀ n, Inv n s → codeAny (model PR w) A c R s

theorem loopsLast1 {w : World} {A : Around} {elt target iter : Expr} {ifs : List Expr} {scope : Scope} {pos : Pos} {I D : Addr} {cenv : Env} (ht : ∀ v, letOwnedTupleGo target (.ref I) v = pure ()) :
    LoopsLast w A (.compLoop (.ListComp elt [⟨target, iter, ifs, 0⟩] scope pos) 0 (.ref I) (.ref D) cenv) I D target elt ifs cenv :=
  fun _ Inv _ turn n h => codeAny_compLoop_tests Inv turn n h ht

theorem compTurn_21 (elt t0 i0 t1 i1 : Expr) (scope : Scope) (pos : Pos) (it acc : Value) (env : Env) :
    compTurn (.ListComp elt [⟨t0, i0, [], 0⟩, ⟨t1, i1, [], 0⟩] scope pos) 1 it acc env = (standAt i1.pos >>= fun _ => pyNext it >>= fun r => match r with
      | none => pure (.done .next)
      | some v => letOwnedTupleGo t1 it v >>= fun _ => assign t1 env v >>= fun _ =>
        (eval elt env >>= fun x => call (.builtin "list.append") [acc, x] >>= fun _ => pure ()) >>= fun _ =>
          again (.compLoop (.ListComp elt [⟨t0, i0, [], 0⟩, ⟨t1, i1, [], 0⟩] scope pos) 1 it acc env)) := by rfl
theorem compTurn_20 (elt t0 i0 t1 i1 : Expr) (scope : Scope) (pos : Pos) (it acc : Value) (env : Env) :
    compTurn (.ListComp elt [⟨t0, i0, [], 0⟩, ⟨t1, i1, [], 0⟩] scope pos) 0 it acc env = (standAt i0.pos >>= fun _ => pyNext it >>= fun r => match r with
      | none => pure (.done .next)
      | some v => letOwnedTupleGo t0 it v >>= fun _ => assign t0 env v >>= fun _ =>
        eval i1 env >>= fun x => standAt i1.pos >>= fun _ => foldedSetIterable i1 env x >>= fun x => holding [x] (pyIter x) >>= fun it' =>
          runOwn (.compStart (.ListComp elt [⟨t0, i0, [], 0⟩, ⟨t1, i1, [], 0⟩] scope pos) 1 it' acc env) env >>= fun _ =>
          again (.compLoop (.ListComp elt [⟨t0, i0, [], 0⟩, ⟨t1, i1, [], 0⟩] scope pos) 0 it acc env)) := by rfl

theorem loopsLast2 {w : World} {A : Around} {elt t0 i0 t1 i1 : Expr} {scope : Scope} {pos : Pos} {I D : Addr} {cenv : Env} (ht : ∀ v, letOwnedTupleGo t1 (.ref I) v = pure ()) :
    LoopsLast w A (.compLoop (.ListComp elt [⟨t0, i0, [], 0⟩, ⟨t1, i1, [], 0⟩] scope pos) 1 (.ref I) (.ref D) cenv) I D t1 elt [] cenv := by
  intro R Inv s turn n h
  refine codeAny_loop rfl Inv (fun n s hI => ?_) n h
  show wpAny _ A ((compTurn (.ListComp elt [⟨t0, i0, [], 0⟩, ⟨t1, i1, [], 0⟩] scope pos) 1 (.ref I) (.ref D) cenv).onRaise (fun x => do noteFrame x cenv; theTreesLotGoes x)) _ _ s
  refine wpAny_noted ?_
  rw [compTurn_21]
  refine wpAny_bind (wpAny_standAt (wpAny_bind (wpAny_mono (turn n s hI) (fun r s₁ h₁ => ?_) fun _ _ h' => h')))
  cases r with
  | none => exact wpAny_pure h₁
  | some v =>
    refine wpAny_bind (wpAny_of_eq (ht v) ?_)
    refine wpAny_bind (wpAny_mono h₁ (fun _ s₂ h₂ => ?_) fun _ _ h' => h')
    show wpAny _ A (testsOf [] cenv >>= fun ok => (if ok = true then (eval elt cenv >>= fun x => call (.builtin "list.append") [.ref D, x] >>= fun _ => pure ()) else pure ()) >>= fun _ => again (.compLoop (.ListComp elt [⟨t0, i0, [], 0⟩, ⟨t1, i1, [], 0⟩] scope pos) 1 (.ref I) (.ref D) cenv)) _ _ s₂
    refine wpAny_bind (wpAny_mono h₂ (fun ok s₃ h₃ => ?_) fun _ _ h' => h')
    cases ok with
    | false => exact wpAny_bind (wpAny_pure (wpAny_pure ⟨rfl, h₃⟩))
    | true => exact wpAny_bind (wpAny_bind (wpAny_mono h₃ (fun x s₄ h₄ => wpAny_bind (wpAny_mono h₄ (fun _ s₅ h₅ => wpAny_pure (wpAny_pure ⟨rfl, h₅⟩)) fun _ _ h' => h')) fun _ _ h' => h'))

def ElemEnd (s : Shared) (B G₀ : Heap) (C : Addr) (led : List (Addr × Obj)) (Gi : Heap) (J : Heap → Prop) (s₃ : Shared) : Prop :=
  ∃ h' tk' G' m', s₃ = { s with heap := h', toks := tk' } ∧ Gs B G₀ G' ∧ Gi.StaysIn G' ∧ Fr B C h' m' ∧ News B C h' (led ++ gl B G') ∧ Off G' led ∧ J G'
def ElemEndM (s : Shared) (B G₀ : Heap) (C : Addr) (led : List (Addr × Obj)) (Gi : Heap) (M : (Str → Option Value) → Prop) (J : Heap → Prop) (s₃ : Shared) : Prop :=
  ∃ h' tk' G' m', s₃ = { s with heap := h', toks := tk' } ∧ Gs B G₀ G' ∧ Gi.StaysIn G' ∧ Fr B C h' m' ∧ News B C h' (led ++ gl B G') ∧ Off G' led ∧ M m' ∧ J G'
theorem ElemEnd.toM {s : Shared} {B G₀ : Heap} {C : Addr} {led : List (Addr × Obj)} {Gi : Heap} {J : Heap → Prop} {s₃ : Shared} (x : ElemEnd s B G₀ C led Gi J s₃) : ElemEndM s B G₀ C led Gi (fun _ => True) J s₃ :=
  let ⟨h', tk', G', m', a, b, c, d, e, f, g⟩ := x; ⟨h', tk', G', m', a, b, c, d, e, f, trivial, g⟩

section
variable {w : World} {A : Around} {s : Shared} {cenv env : Env} {B G₀ G : Heap} {m : Str → Option Value} {news ex : List (Addr × Obj)} {E : Value → Shared → Prop}

theorem cl_last {c : Code} {I D : Addr} {fp : List Addr} {n : Nat} {P : Nat → Value → Prop} {St : Nat → Heap → Prop} {target elt : Expr} {ifs : List Expr} {rs₀ : List Value} {k₀ : Nat} {R : Result → Shared → Prop}
    (H : LoopsLast w A c I D target elt ifs cenv) (W : Walks PR w A I fp [I] n P St) (J : Nat → Heap → List Value → Prop) (M : (Str → Option Value) → Prop)
    (hlive : ∀ i h, St i h → ∃ o, h.get? I = some o) (hfp : ∀ b ∈ fp, b ≠ I → ∃ o, G.get? b = some o) (hst : St 0 s.heap)
    (S : Gs B G₀ G) (F : Fr B cenv.locals s.heap m) (N : News B cenv.locals s.heap (ex ++ [(D, listOf rs₀.toArray k₀)] ++ gl B G)) (O : Off G (ex ++ [(D, listOf rs₀.toArray k₀)]))
    (hI : B.get? I = none) (hIL : I ≠ cenv.locals) (hIx : ∀ p ∈ ex, p.1 ≠ I) (hID : D ≠ I) (hIG : G.get? I = none) (hDx : ∀ p ∈ ex, p.1 ≠ D) (hj : J 0 G rs₀) (hM : M m)
    (hlen : ∀ i G rs, J i G rs → rs.length ≤ sizeLine)
    (turn : ∀ i v Gi mi rs k h tk oI E', i < n → P i v → M mi → J i Gi rs → Gs B G₀ Gi → G.StaysIn Gi → Fr B cenv.locals h mi → News B cenv.locals h ((I, oI) :: (ex ++ [(D, listOf rs.toArray k)]) ++ gl B Gi) → Off Gi ((I, oI) :: (ex ++ [(D, listOf rs.toArray k)])) →
      wpAny (model PR w) A (assign target cenv v) (fun _ s₂ => wpAny (model PR w) A (testsOf ifs cenv) (fun ok s₃ =>
        if ok = true then wpAny (model PR w) A (eval elt cenv) (fun y s₄ => ElemEndM s B G₀ cenv.locals ((I, oI) :: (ex ++ [(D, listOf rs.toArray k)])) Gi M (fun G' => J (i + 1) G' (rs ++ [y])) s₄) E' s₃
        else ElemEndM s B G₀ cenv.locals ((I, oI) :: (ex ++ [(D, listOf rs.toArray k)])) Gi M (fun G' => J (i + 1) G' rs) s₃) E' s₂) E' { s with heap := h, toks := tk })
    (done : ∀ Gn mn rs k h tk, M mn → J n Gn rs → Gs B G₀ Gn → G.StaysIn Gn → Fr B cenv.locals h mn → News B cenv.locals h (ex ++ [(D, listOf rs.toArray k)] ++ gl B Gn) → Off Gn (ex ++ [(D, listOf rs.toArray k)]) → R (.ok .next) { s with heap := h, toks := tk }) :
    codeAny (model PR w) A c R s := by
  refine H R (fun q s' => ∃ h tk i Gi mi rs k, s' = { s with heap := h, toks := tk } ∧ q = n + 1 - i ∧ i ≤ n ∧ St i h ∧ M mi ∧ J i Gi rs ∧ Gs B G₀ Gi ∧ G.StaysIn Gi ∧ Fr B cenv.locals h mi ∧ News B cenv.locals h (ex ++ [(D, listOf rs.toArray k)] ++ gl B Gi) ∧ Off Gi (ex ++ [(D, listOf rs.toArray k)]) ∧ Gi.get? I = none)
    s ?_ (n + 1) ⟨s.heap, s.toks, 0, G, m, rs₀, k₀, rfl, rfl, Nat.zero_le _, hst, hM, hj, S, StaysIn.refl _, F, N, O, hIG⟩
  (rintro q s'; refine cex7 ?_; rintro h tk i Gi mi rs k; refine cand12 ?_; rintro rfl rfl hi hsti hMi hJ Si Gst Fi Ni Oi hIGi)
  have hIni : ∀ p ∈ ex ++ [(D, listOf rs.toArray k)], p.1 ≠ I := fun p hp => by
    rcases List.mem_append.mp hp with hp | hp
    · exact hIx p hp
    · rw [List.mem_singleton.mp hp]; exact hID
  by_cases hlt : i < n
  · refine W.item i _ _ _ hlt hsti fun v h₁ tk₁ hP hst₁ hk₁ => ?_
    obtain ⟨F₁, N₁⟩ := step_I Fi Ni hI hIL hIni hIGi hk₁
    obtain ⟨oI, hoI⟩ := hlive _ _ hst₁
    have N₂ : News B cenv.locals h₁ ((I, oI) :: (ex ++ [(D, listOf rs.toArray k)]) ++ gl B Gi) := by
      intro p hp
      rcases List.mem_cons.mp hp with rfl | hp
      · exact ⟨hoI, hIL, hI⟩
      · exact N₁ p hp
    have stNext : ∀ h' G' m', Gs B G₀ G' → Gi.StaysIn G' → Fr B cenv.locals h' m' → News B cenv.locals h' ((I, oI) :: (ex ++ [(D, listOf rs.toArray k)]) ++ gl B G') → St (i + 1) h' := by
      intro h' G' m' S' G1 F' N'
      refine W.frame _ _ _ hst₁ fun b hb o e => ?_
      by_cases hbI : b = I
      · subst hbI
        rw [hoI] at e; cases e
        exact (N' _ (.head _)).1
      · obtain ⟨o', ho'⟩ := hfp b hb hbI
        have e1 := Si.keep F₁ N₁ b o' (Gst b o' ho')
        rw [e] at e1; cases e1
        exact S'.keep F' N' b o (G1 b o (Gst b o ho'))
    refine wpAny_mono (turn i v Gi mi rs k h₁ tk₁ oI _ hlt hP hMi hJ Si Gst F₁ N₂ (Off.cons hIGi Oi)) (fun _ s₂ h₂ => wpAny_mono h₂ (fun ok s₃ h₃ => ?_) fun _ _ e => e) fun _ _ e => e
    cases ok with
    | false =>
      rw [if_neg (by simp)] at h₃ ⊢
      (revert h₃; refine cex4 ?_; rintro h' tk' G' m'; refine cand8 ?_; rintro rfl S' G1 F' N' O' hM' hJ')
      exact ⟨n + 1 - (i + 1), by (first | lia | omega), h', tk', i + 1, G', m', rs, k, rfl, rfl, hlt, stNext h' G' m' S' G1 F' N', hM', hJ', S', StaysIn.trans Gst G1, F', fun p hp => N' p (.tail _ hp), fun p hp => O' p (.tail _ hp), O' _ (.head _)⟩
    | true =>
      rw [if_pos rfl] at h₃ ⊢
      refine wpAny_mono h₃ (fun y s₄ h₄ => ?_) fun _ _ e => e
      (revert h₄; refine cex4 ?_; rintro h' tk' G' m'; refine cand8 ?_; rintro rfl S' G1 F' N' O' hM' hJ')
      have hDm : (D, listOf rs.toArray k) ∈ ex ++ [(D, listOf rs.toArray k)] := List.mem_append_right _ (.head _)
      have zD := N' (D, listOf rs.toArray k) (.tail _ (List.mem_append_left _ hDm))
      have hGD : G'.get? D = none := O' (D, listOf rs.toArray k) (.tail _ hDm)
      refine append_at (hsz := by have := hlen _ _ _ hJ; rw [List.size_toArray]; exact this) zD.1 fun h₅ hs₅ ho₅ => ?_
      have st₅ : St (i + 1) h₅ := by
        refine W.frame _ _ _ (stNext h' G' m' S' G1 F' N') fun b hb o e => ?_
        refine (hs₅.2 b ?_).trans e
        rintro rfl
        by_cases hbI : b = I
        · exact hID hbI
        · obtain ⟨o', ho'⟩ := hfp b hb hbI
          have := G1 b o' (Gst b o' ho')
          rw [hGD] at this; cases this
      refine ⟨n + 1 - (i + 1), by (first | lia | omega), h₅, tk', i + 1, G', m', rs ++ [y], k + 1, rfl, rfl, hlt, st₅, hM', hJ', S', StaysIn.trans Gst G1, F'.change hs₅ zD.2.1 zD.2.2, ?_, ?_, O' _ (.head _)⟩
      · rintro ⟨b, o⟩ hp
        rcases List.mem_append.mp hp with hp | hp
        · rcases List.mem_append.mp hp with hp | hp
          · have z := N' (b, o) (.tail _ (List.mem_append_left _ (List.mem_append_left _ hp)))
            exact ⟨(hs₅.2 b (hDx _ hp)).trans z.1, z.2⟩
          · cases List.mem_singleton.mp hp
            refine ⟨?_, zD.2⟩
            rw [ho₅]; simp
        · have z := N' (b, o) (.tail _ (List.mem_append_right _ hp))
          exact ⟨(hs₅.2 b (gl_ne hGD _ hp)).trans z.1, z.2⟩
      · intro p hp
        rcases List.mem_append.mp hp with hp | hp
        · exact O' p (.tail _ (List.mem_append_left _ hp))
        · rw [List.mem_singleton.mp hp]; exact hGD
  · have hin : i = n := by (first | lia | omega)
    subst hin
    refine W.done _ _ _ hsti fun h₁ tk₁ hk₁ => ?_
    obtain ⟨F₁, N₁⟩ := step_I Fi Ni hI hIL hIni hIGi hk₁
    exact done Gi mi rs k h₁ tk₁ hMi hJ Si Gst F₁ N₁ Oi

/-- the end of a turn of the outer clause: the list has grown -/
def MidEnd (s : Shared) (B G₀ : Heap) (C I D : Addr) (oI : Obj) (Gi : Heap) (J : Heap → List Value → Prop) (s₃ : Shared) : Prop :=
  ∃ h' tk' G' m' rs' k', s₃ = { s with heap := h', toks := tk' } ∧ Gs B G₀ G' ∧ Gi.StaysIn G' ∧ Fr B C h' m' ∧ News B C h' ([(I, oI), (D, listOf rs'.toArray k')] ++ gl B G') ∧ Off G' [(I, oI), (D, listOf rs'.toArray k')] ∧ J G' rs'

theorem cl_mid {I D : Addr} {fp : List Addr} {n : Nat} {P : Nat → Value → Prop} {St : Nat → Heap → Prop} {elt t0 i0 t1 i1 : Expr} {scope : Scope} {pos : Pos} {rs₀ : List Value} {k₀ : Nat} {R : Result → Shared → Prop}
    (ht : ∀ v, letOwnedTupleGo t0 (.ref I) v = pure ()) (hs1 : ∀ x, foldedSetIterable i1 cenv x = pure x) (W : Walks PR w A I fp [I] n P St) (J : Nat → Heap → List Value → Prop)
    (hlive : ∀ i h, St i h → ∃ o, h.get? I = some o) (hfp : ∀ b ∈ fp, b ≠ I → ∃ o, G.get? b = some o) (hst : St 0 s.heap)
    (S : Gs B G₀ G) (F : Fr B cenv.locals s.heap m) (N : News B cenv.locals s.heap ([(D, listOf rs₀.toArray k₀)] ++ gl B G)) (O : Off G [(D, listOf rs₀.toArray k₀)])
    (hI : B.get? I = none) (hIL : I ≠ cenv.locals) (hID : D ≠ I) (hIG : G.get? I = none) (hj : J 0 G rs₀)
    (turn : ∀ i v Gi mi rs k h tk oI E', i < n → P i v → J i Gi rs → Gs B G₀ Gi → G.StaysIn Gi → Fr B cenv.locals h mi → News B cenv.locals h ([(I, oI), (D, listOf rs.toArray k)] ++ gl B Gi) → Off Gi [(I, oI), (D, listOf rs.toArray k)] →
      wpAny (model PR w) A (assign t0 cenv v) (fun _ s₂ => wpAny (model PR w) A (eval i1 cenv) (fun x s₃ => wpAny (model PR w) A (pyIter x) (fun it' s₄ =>
        codeAny (model PR w) A (.compStart (.ListComp elt [⟨t0, i0, [], 0⟩, ⟨t1, i1, [], 0⟩] scope pos) 1 it' (.ref D) cenv) (fun r s' => match r with
          | .ok _ => MidEnd s B G₀ cenv.locals I D oI Gi (J (i + 1)) s'
          | .error e => E' e s') s₄) E' s₃) E' s₂) E' { s with heap := h, toks := tk })
    (done : ∀ Gn mn rs k h tk, J n Gn rs → Gs B G₀ Gn → G.StaysIn Gn → Fr B cenv.locals h mn → News B cenv.locals h ([(D, listOf rs.toArray k)] ++ gl B Gn) → Off Gn [(D, listOf rs.toArray k)] → R (.ok .next) { s with heap := h, toks := tk }) :
    codeAny (model PR w) A (.compLoop (.ListComp elt [⟨t0, i0, [], 0⟩, ⟨t1, i1, [], 0⟩] scope pos) 0 (.ref I) (.ref D) cenv) R s := by
  refine codeAny_loop rfl (fun q s' => ∃ h tk i Gi mi rs k, s' = { s with heap := h, toks := tk } ∧ q = n + 1 - i ∧ i ≤ n ∧ St i h ∧ J i Gi rs ∧ Gs B G₀ Gi ∧ G.StaysIn Gi ∧ Fr B cenv.locals h mi ∧ News B cenv.locals h ([(D, listOf rs.toArray k)] ++ gl B Gi) ∧ Off Gi [(D, listOf rs.toArray k)] ∧ Gi.get? I = none)
    ?_ (n + 1) ⟨s.heap, s.toks, 0, G, m, rs₀, k₀, rfl, rfl, Nat.zero_le _, hst, hj, S, StaysIn.refl _, F, N, O, hIG⟩
  (rintro q s'; refine cex7 ?_; rintro h tk i Gi mi rs k; refine cand11 ?_; rintro rfl rfl hi hsti hJ Si Gst Fi Ni Oi hIGi)
  show wpAny _ A ((compTurn (.ListComp elt [⟨t0, i0, [], 0⟩, ⟨t1, i1, [], 0⟩] scope pos) 0 (.ref I) (.ref D) cenv).onRaise (fun x => do noteFrame x cenv; theTreesLotGoes x)) _ _ _
  refine wpAny_noted ?_
  rw [compTurn_20]
  refine wpAny_bind (wpAny_standAt (wpAny_bind ?_))
  have hIni : ∀ p ∈ [(D, listOf rs.toArray k)], p.1 ≠ I := fun p hp => by rw [List.mem_singleton.mp hp]; exact hID
  by_cases hlt : i < n
  · refine W.item i _ _ _ hlt hsti fun v h₁ tk₁ hP hst₁ hk₁ => ?_
    obtain ⟨F₁, N₁⟩ := step_I Fi Ni hI hIL hIni hIGi hk₁
    obtain ⟨oI, hoI⟩ := hlive _ _ hst₁
    have N₂ : News B cenv.locals h₁ ([(I, oI), (D, listOf rs.toArray k)] ++ gl B Gi) := by
      intro p hp
      rcases List.mem_cons.mp hp with rfl | hp
      · exact ⟨hoI, hIL, hI⟩
      · exact N₁ p hp
    dsimp only
    refine wpAny_bind (wpAny_of_eq (ht v) ?_)
    have tn := turn i v Gi mi rs k h₁ tk₁ oI (fun _ _ => False) hlt hP hJ Si Gst F₁ N₂ (Off.cons hIGi Oi)
    refine wpAny_bind (wpAny_mono tn (fun _ s₂ h₂ => ?_) fun _ _ e => e.elim)
    refine wpAny_bind (wpAny_mono h₂ (fun x s₃ h₃ => ?_) fun _ _ e => e.elim)
    refine wpAny_bind (wpAny_standAt (wpAny_bind (wpAny_of_eq (hs1 x) ?_)))
    refine wpAny_bind (wpAny_holding (wpAny_mono h₃ (fun it' s₄ h₄ => ?_) fun _ _ e => e.elim))
    refine wpAny_bind (wpAny_runOwn (codeAny_mono h₄ fun r s' hr => ?_))
    cases r with
    | error e => exact hr.elim
    | ok f =>
      (revert hr; refine cex6 ?_; rintro h' tk' G' m' rs' k'; refine cand7 ?_; rintro rfl S' G1 F' N' O' hJ')
      refine wpAny_pure ⟨rfl, n + 1 - (i + 1), by (first | lia | omega), h', tk', i + 1, G', m', rs', k', rfl, rfl, hlt, ?_, hJ', S', StaysIn.trans Gst G1, F', fun p hp => N' p (.tail _ hp), fun p hp => O' p (.tail _ hp), O' _ (.head _)⟩
      refine W.frame _ _ _ hst₁ fun b hb o e => ?_
      by_cases hbI : b = I
      · subst hbI
        rw [hoI] at e; cases e
        exact (N' _ (.head _)).1
      · obtain ⟨o', ho'⟩ := hfp b hb hbI
        have e1 := Si.keep F₁ N₁ b o' (Gst b o' ho')
        rw [e] at e1; cases e1
        exact S'.keep F' N' b o (G1 b o (Gst b o ho'))
  · have hin : i = n := by (first | lia | omega)
    subst hin
    refine W.done _ _ _ hsti fun h₁ tk₁ hk₁ => wpAny_pure ?_
    obtain ⟨F₁, N₁⟩ := step_I Fi Ni hI hIL hIni hIGi hk₁
    exact done Gi mi rs k h₁ tk₁ hJ Si Gst F₁ N₁ Oi
end
/-! part Comps2 -/
section
variable {w : World} {A : Around} {s : Shared} {cenv env : Env} {B G₀ G : Heap} {m : Str → Option Value} {news ex : List (Addr × Obj)} {E : Value → Shared → Prop}

theorem compStart_21 {R : Result → Shared → Prop} {elt t0 i0 t1 i1 scope pos it acc env}
    (h0 : codeAny (model PR w) A (.compLoop (.ListComp elt [⟨t0, i0, [], 0⟩, ⟨t1, i1, [], 0⟩] scope pos) 1 it acc env) R s)
    (h : wpAny (model PR w) A (pyIter it) (fun it' s' => codeAny (model PR w) A (.compLoop (.ListComp elt [⟨t0, i0, [], 0⟩, ⟨t1, i1, [], 0⟩] scope pos) 1 it' acc env) R s')
      (notedBy (model PR w) A env fun x s' => R (.error x) s') s) :
    codeAny (model PR w) A (.compStart (.ListComp elt [⟨t0, i0, [], 0⟩, ⟨t1, i1, [], 0⟩] scope pos) 1 it acc env) R s := by
  refine codeAny_of_tree ?_
  show wpAny _ _ ((compStart (.ListComp elt [⟨t0, i0, [], 0⟩, ⟨t1, i1, [], 0⟩] scope pos) 1 it acc env).onRaise (fun x => do noteFrame x env; standAt theWindowsPlace)) _ _ s
  refine wpAny_notedAt ?_
  unfold compStart
  show wpAny _ _ (ask >>= _) _ _ s
  refine wpAny_bind (wpAny_askSetting (wpAny_ite ?_))
  split
  · first
      | exact wpAny_bind (wpAny_pure (wpAny_pure (And.intro rfl h0)))
      | exact wpAny_pure (And.intro rfl h0)
  · refine wpAny_bind (wpAny_rule ?_)
    show wpAny _ _ (standAt i1.pos >>= _) _ _ s
    exact wpAny_bind (wpAny_standAt (wpAny_bind (wpAny_mono h (fun it' s' h' => wpAny_pure (And.intro rfl h')) fun _ _ x => x)))

/-- the heap less one object -/
def less (h : Heap) (I : Addr) : Heap := restr h fun b => b != I
theorem less_get {h : Heap} {I b : Addr} (hb : b ≠ I) : (less h I).get? b = h.get? b := restr_yes (by simpa using hb)
theorem less_self {h : Heap} {I : Addr} : (less h I).get? I = none := restr_no (by simp)
theorem less_size (h : Heap) (I : Addr) : (less h I).objs.size = h.objs.size := restr_size _ _
theorem less_of {h : Heap} {I b : Addr} {o : Obj} (e : (less h I).get? b = some o) : b ≠ I ∧ h.get? b = some o := by
  by_cases hb : b = I
  · subst hb; rw [less_self] at e; cases e
  · rw [less_get hb] at e; exact ⟨hb, e⟩

/-- behind a comprehension: the outer frame's facts -/
theorem comp_fin {L I C D : Addr} {h₀ h h'' Gn : Heap} {mn : Str → Option Value} {o : Obj} (S : Gs B G₀ G) (F : Fr B L h₀ m) (N : News B L h₀ (news ++ gl B G)) (O : Off G news)
    (hI : B.get? I = none) (hIL : I ≠ L) (hIn : ∀ p ∈ news, p.1 ≠ I) (hC : h₀.get? C = none) (hD : h₀.get? D = none) (hDC : D ≠ C)
    (Sn : Gs (less h₀ I) G Gn) (Fn : Fr (less h₀ I) C h mn) (Nn : News (less h₀ I) C h ([(D, o)] ++ gl (less h₀ I) Gn)) (On : Off Gn [(D, o)]) (hs : Heap.SameBut C h h'') :
    ∃ G', Gn.StaysIn G' ∧ G'.get? D = some o ∧ G.StaysIn G' ∧ Gs B G₀ G' ∧ Off G' news ∧ Fr B L h'' m ∧ News B L h'' (news ++ gl B G') ∧ G'.get? C = none := by
  have kB : B.StaysIn (less h₀ I) := fun b o e => by
    rw [less_get (fun q => by rw [q, hI] at e; cases e)]; exact F.keep b o e
  have up : ∀ b o, (less h₀ I).get? b = some o → h''.get? b = some o := fun b o e =>
    hs.extBut b o (fun q => by have := (less_of e).2; rw [q, hC] at this; cases this) (Fn.keep b o e)
  have Gst : Gn.StaysIn h := Sn.keep Fn Nn
  have zD := Nn (D, o) (.head _)
  have hGD : Gn.get? D = none := On (D, o) (.head _)
  have hGC : Gn.get? C = none := Sn.noL Fn Nn
  (refine impApp (F.ns) ?_; refine cex3 ?_; rintro oL es ep; refine cand2 ?_; rintro hL hLr)
  have hLless : (less h₀ I).get? L = some oL := by rw [less_get (Ne.symm hIL)]; exact hL
  have hLD : L ≠ D := fun q => by rw [q, hD] at hL; cases hL
  have g1 : ∀ b o', Gn.get? b = some o' → (restr h fun b => (Gn.get? b).isSome || b == D).get? b = some o' := fun b o' e => by
    rw [restr_yes (by simp [e])]; exact Gst b o' e
  have g2 : ∀ b, b ≠ D → Gn.get? b = none → (restr h fun b => (Gn.get? b).isSome || b == D).get? b = none := fun b hb e => restr_no (by simp [e, hb])
  have g3 : (restr h fun b => (Gn.get? b).isSome || b == D).get? D = some o := by rw [restr_yes (by simp)]; exact zD.1
  have gnew : ∀ b o', h₀.get? b = some o' → b ≠ I → G.get? b = none → (restr h fun b => (Gn.get? b).isSome || b == D).get? b = none := fun b o' e hbI hG => by
    refine g2 b (fun q => by rw [q, hD] at e; cases e) (Sn.x.new b o' (by rw [less_get hbI]; exact e) hG)
  refine ⟨_, g1, g3, fun b o' e => g1 b o' (Sn.x.stays b o' e), ⟨S.base, ⟨fun b o' e => g1 b o' (Sn.x.stays b o' (S.x.stays b o' e)), fun b o' hb e => ?_⟩⟩, ?_, ⟨?_, fun b o' e => up b o' (kB b o' e), F.above⟩, ?_, g2 C (Ne.symm hDC) hGC⟩
  · exact gnew b o' (F.keep b o' hb) (fun q => by rw [q, hI] at hb; cases hb) (S.x.new b o' hb e)
  · intro p hp
    exact gnew p.1 p.2 (N p (List.mem_append_left _ hp)).1 (hIn p hp) (O p hp)
  · exact ⟨oL, es, ep, up L oL hLless, hLr⟩
  · rintro ⟨b, o'⟩ hp
    rcases List.mem_append.mp hp with hp | hp
    · have z := N (b, o') (List.mem_append_left _ hp)
      exact ⟨up b o' (by rw [less_get (hIn _ hp)]; exact z.1), z.2⟩
    · obtain ⟨hB, hG'⟩ := mem_gl.mp hp
      by_cases hbD : b = D
      · subst hbD
        rw [g3] at hG'; cases hG'
        exact ⟨hs.extBut b o hDC zD.1, Ne.symm hLD, hB⟩
      · cases hGn : Gn.get? b with
        | none => rw [g2 b hbD hGn] at hG'; cases hG'
        | some o'' =>
          rw [g1 b o'' hGn] at hG'; cases hG'
          refine ⟨hs.extBut b o' (fun q => by rw [q, hGC] at hGn; cases hGn) (Gst b o' hGn), ?_, hB⟩
          rintro rfl
          have := Sn.x.new _ oL hLless (S.noL F N)
          rw [hGn] at this; cases this

/-- a list comprehension: its own frame made, run, left -/
theorem comp_block {elt target iter : Expr} {ifs : List Expr} {rest : List Comprehension} {scope : Scope} {cl : List (Str × Addr)} {pos : Pos} {I : Addr} {fp : List Addr} {n : Nat} {P : Nat → Value → Prop} {St : Nat → Heap → Prop}
    {RR : Value → Addr → Result → Shared → Prop} (W : Walks PR w A I fp [I] n P St) (hst : St 0 s.heap) (J : Heap → List Value → Prop)
    (hcell : ∀ y ∈ scope.names, y.2 ≠ .cell) (hkind : scope.kind = .function)
    (S : Gs B G₀ G) (F : Fr B env.locals s.heap m) (N : News B env.locals s.heap (news ++ gl B G)) (hI : B.get? I = none) (hIG : G.get? I = none) (hIh : I < s.heap.objs.size)
    (loop : ∀ C D h₁ tk (R : Result → Shared → Prop), Gs (less s.heap I) G G → Fr (less s.heap I) C h₁ (fun _ => none) → News (less s.heap I) C h₁ ([(D, listOf #[] 0)] ++ gl (less s.heap I) G) → Off G [(D, listOf #[] 0)] → St 0 h₁ → I ≠ C → D ≠ I → B.StaysIn (less s.heap I) →
      (∀ Gn mn rs k h tk, J Gn rs → Gs (less s.heap I) G Gn → Fr (less s.heap I) C h mn → News (less s.heap I) C h ([(D, listOf rs.toArray k)] ++ gl (less s.heap I) Gn) → Off Gn [(D, listOf rs.toArray k)] → R (.ok .next) { s with heap := h, toks := tk }) →
      codeAny (model PR w) A (.compLoop (.ListComp elt (⟨target, iter, ifs, 0⟩ :: rest) scope pos) 0 (.ref I) (.ref D) (compEnvC scope cl C env)) R { s with heap := h₁, toks := tk })
    (hRR : ∀ C D Gn mn rs k h tk, s.heap.get? C = none → s.heap.get? D = none → D ≠ C → J Gn rs → Gs (less s.heap I) G Gn → Fr (less s.heap I) C h mn → News (less s.heap I) C h ([(D, listOf rs.toArray k)] ++ gl (less s.heap I) Gn) → Off Gn [(D, listOf rs.toArray k)] →
      RR (.ref D) C (.ok .next) { s with heap := h, toks := tk }) :
    wpAny (model PR w) A (newList []) (fun acc s₃ => wpAny (model PR w) A (newFunctionEnv scope env.globals cl [] env.qual none .none (some env)) (fun cenv s₄ =>
      codeAny (model PR w) A (.compStart (.ListComp elt (⟨target, iter, ifs, 0⟩ :: rest) scope pos) 0 (.ref I) acc { cenv with scope := relabel scope env }) (RR acc cenv.locals) s₄) E s₃) E s := by
  refine wpAny_newObj_type (wpAny_newFunctionEnv hcell (by intro y hy; simp at hy) (fun h₁ hns₁ hsb₁ => ?_) hkind)
  dsimp only at hns₁ hsb₁ ⊢
  generalize hH2 : s.heap.push { cls := .type "list", dict := none, data := .seq ([] : List Value).toArray } = H2 at hns₁ hsb₁ ⊢
  have hC : H2.objs.size = s.heap.objs.size + 1 := by rw [← hH2, Heap.size_push]
  have hDC : s.heap.objs.size ≠ H2.objs.size := by rw [hC]; exact Nat.ne_of_lt (Nat.lt_succ_self _)
  have old : ∀ b o, s.heap.get? b = some o → h₁.get? b = some o := fun b o e => hsb₁.extBut b o (by rw [hC]; exact Nat.ne_of_lt (Nat.lt_succ_of_lt (Heap.lt_size e))) (Heap.get?_push_of_some _ (hH2 ▸ Heap.get?_push_of_some _ e))
  have hDo : h₁.get? s.heap.objs.size = some (listOf #[] 0) := hsb₁.extBut _ _ hDC (Heap.get?_push_of_some _ (hH2 ▸ Heap.get?_push_size _ rfl))
  have hst₁ : St 0 h₁ := W.frame _ _ _ hst fun b _ o e => old b o e
  have fresh : ∀ a, s.heap.objs.size ≤ a → s.heap.get? a = none := fun a ha => by
    cases e : s.heap.get? a with
    | none => rfl
    | some o' => exact absurd (Heap.lt_size e) (Nat.not_lt.mpr ha)
  have hGs : G.StaysIn s.heap := S.keep F N
  have kG : G.StaysIn (less s.heap I) := fun b o e => by rw [less_get (fun q => by rw [q, hIG] at e; cases e)]; exact hGs b o e
  have kB : B.StaysIn (less s.heap I) := fun b o e => by rw [less_get (fun q => by rw [q, hI] at e; cases e)]; exact F.keep b o e
  have hGD : G.get? s.heap.objs.size = none := Heap.StaysIn.fresh hGs
  have F₁ : Fr (less s.heap I) H2.objs.size h₁ (fun _ => none) := ⟨by simpa using hns₁, fun b o e => old b o (less_of e).2, by rw [less_size, hC]; exact Nat.le_succ _⟩
  have N₁ : News (less s.heap I) H2.objs.size h₁ ([(s.heap.objs.size, listOf #[] 0)] ++ gl (less s.heap I) G) := by
    rw [gl_self kG]
    intro p hp
    rw [List.append_nil] at hp
    rw [List.mem_singleton.mp hp]
    exact ⟨hDo, hDC, by rw [less_get (Nat.ne_of_gt hIh)]; exact fresh _ (Nat.le_refl _)⟩
  have LL := fun tk => loop H2.objs.size s.heap.objs.size h₁ tk (RR (.ref s.heap.objs.size) H2.objs.size) (Gs.init kG) F₁ N₁ (Off.cons hGD Off.nil) hst₁ (by rw [hC]; exact Nat.ne_of_lt (Nat.lt_succ_of_lt hIh)) (Nat.ne_of_gt hIh) kB
    fun Gn mn rs k h tk hJ Sn Fn Nn On => hRR _ _ Gn mn rs k h tk (fresh _ (by rw [hC]; exact Nat.le_succ _)) (fresh _ (Nat.le_refl _)) hDC hJ Sn Fn Nn On
  exact codeAny_compStart_list (LL _) (W.self 0 _ _ _ hst₁ (LL _))

/-- a comprehension as a value -/
theorem comp_val {elt target iter : Expr} {ifs : List Expr} {rest : List Comprehension} {scope : Scope} {cl : List (Str × Addr)} {pos : Pos} {I : Addr} {fp : List Addr} {n : Nat} {P : Nat → Value → Prop} {St : Nat → Heap → Prop}
    {Q : Value → Shared → Prop} (W : Walks PR w A I fp [I] n P St) (hst : St 0 s.heap) (J : Heap → List Value → Prop)
    (hcell : ∀ y ∈ scope.names, y.2 ≠ .cell) (hkind : scope.kind = .function)
    (S : Gs B G₀ G) (F : Fr B env.locals s.heap m) (N : News B env.locals s.heap (news ++ gl B G)) (O : Off G news) (hI : B.get? I = none) (hIL : I ≠ env.locals) (hIn : ∀ p ∈ news, p.1 ≠ I) (hIG : G.get? I = none) (hIh : I < s.heap.objs.size)
    (loop : ∀ C D h₁ tk (R : Result → Shared → Prop), Gs (less s.heap I) G G → Fr (less s.heap I) C h₁ (fun _ => none) → News (less s.heap I) C h₁ ([(D, listOf #[] 0)] ++ gl (less s.heap I) G) → Off G [(D, listOf #[] 0)] → St 0 h₁ → I ≠ C → D ≠ I → B.StaysIn (less s.heap I) →
      (∀ Gn mn rs k h tk, J Gn rs → Gs (less s.heap I) G Gn → Fr (less s.heap I) C h mn → News (less s.heap I) C h ([(D, listOf rs.toArray k)] ++ gl (less s.heap I) Gn) → Off Gn [(D, listOf rs.toArray k)] → R (.ok .next) { s with heap := h, toks := tk }) →
      codeAny (model PR w) A (.compLoop (.ListComp elt (⟨target, iter, ifs, 0⟩ :: rest) scope pos) 0 (.ref I) (.ref D) (compEnvC scope cl C env)) R { s with heap := h₁, toks := tk })
    (done : ∀ D Gn G' rs k h tk, J Gn rs → Gn.StaysIn G' → G'.get? D = some (listOf rs.toArray k) → G.StaysIn G' → Gs B G₀ G' → Off G' news → Fr B env.locals h m → News B env.locals h (news ++ gl B G') → Q (.ref D) { s with heap := h, toks := tk }) :
    wpAny (model PR w) A (newList []) (fun acc s₃ => wpAny (model PR w) A (newFunctionEnv scope env.globals cl [] env.qual none .none (some env)) (fun cenv s₄ =>
      codeAny (model PR w) A (.compStart (.ListComp elt (⟨target, iter, ifs, 0⟩ :: rest) scope pos) 0 (.ref I) acc { cenv with scope := relabel scope env }) (compPost (model PR w) A E none Q acc cenv.locals) s₄) E s₃) E s := by
  refine comp_block (RR := fun acc C => compPost (model PR w) A E none Q acc C) W hst J hcell hkind S F N hI hIG hIh loop ?_
  intro C D Gn mn rs k h tk hC hD hDC hJ Sn Fn Nn On
  refine ⟨mn, Fn.ns, fun h'' hs => ?_⟩
  (refine impApp (comp_fin S F N O hI hIL hIn hC hD hDC Sn Fn Nn On hs) ?_; refine cex1 ?_; rintro G'; refine cand8 ?_; rintro h1 h2 h3 h4 h5 h6 h7 _)
  exact done D Gn G' rs k h'' tk hJ h1 h2 h3 h4 h5 h6 h7

/-- a comprehension whose list goes to a local name -/
theorem comp_to {elt target iter : Expr} {ifs : List Expr} {rest : List Comprehension} {scope : Scope} {cl : List (Str × Addr)} {pos py : Pos} {y : Str} {I : Addr} {fp : List Addr} {n : Nat} {P : Nat → Value → Prop} {St : Nat → Heap → Prop}
    {Q : Value → Shared → Prop} (W : Walks PR w A I fp [I] n P St) (hst : St 0 s.heap) (J : Heap → List Value → Prop)
    (hcell : ∀ y ∈ scope.names, y.2 ≠ .cell) (hkind : scope.kind = .function)
    (hy : env.kindOf y = some .local) (hp : (env.scope.kind == .class || (env.scope.kind == .module && env.locals != env.globals)) = false)
    (S : Gs B G₀ G) (F : Fr B env.locals s.heap m) (N : News B env.locals s.heap (news ++ gl B G)) (O : Off G news) (hI : B.get? I = none) (hIL : I ≠ env.locals) (hIn : ∀ p ∈ news, p.1 ≠ I) (hIG : G.get? I = none) (hIh : I < s.heap.objs.size)
    (loop : ∀ C D h₁ tk (R : Result → Shared → Prop), Gs (less s.heap I) G G → Fr (less s.heap I) C h₁ (fun _ => none) → News (less s.heap I) C h₁ ([(D, listOf #[] 0)] ++ gl (less s.heap I) G) → Off G [(D, listOf #[] 0)] → St 0 h₁ → I ≠ C → D ≠ I → B.StaysIn (less s.heap I) →
      (∀ Gn mn rs k h tk, J Gn rs → Gs (less s.heap I) G Gn → Fr (less s.heap I) C h mn → News (less s.heap I) C h ([(D, listOf rs.toArray k)] ++ gl (less s.heap I) Gn) → Off Gn [(D, listOf rs.toArray k)] → R (.ok .next) { s with heap := h, toks := tk }) →
      codeAny (model PR w) A (.compLoop (.ListComp elt (⟨target, iter, ifs, 0⟩ :: rest) scope pos) 0 (.ref I) (.ref D) (compEnvC scope cl C env)) R { s with heap := h₁, toks := tk })
    (done : ∀ D Gn G' rs k h tk, J Gn rs → Gn.StaysIn G' → G'.get? D = some (listOf rs.toArray k) → G.StaysIn G' → Gs B G₀ G' → Off G' news → Fr B env.locals h (fun z => if z = y then some (.ref D) else m z) → News B env.locals h (news ++ gl B G') → Q .none { s with heap := h, toks := tk }) :
    wpAny (model PR w) A (newList []) (fun acc s₃ => wpAny (model PR w) A (newFunctionEnv scope env.globals cl [] env.qual none .none (some env)) (fun cenv s₄ =>
      codeAny (model PR w) A (.compStart (.ListComp elt (⟨target, iter, ifs, 0⟩ :: rest) scope pos) 0 (.ref I) acc { cenv with scope := relabel scope env }) (compPost (model PR w) A E (some (assign (.Name y py) env)) Q acc cenv.locals) s₄) E s₃) E s := by
  refine comp_block (RR := fun acc C => compPost (model PR w) A E (some (assign (.Name y py) env)) Q acc C) W hst J hcell hkind S F N hI hIG hIh loop ?_
  intro C D Gn mn rs k h tk hC hD hDC hJ Sn Fn Nn On
  (refine impApp (comp_fin S F N O hI hIL hIn hC hD hDC Sn Fn Nn On (Heap.SameBut.refl C h)) ?_; refine cex1 ?_; rintro G'; refine cand8 ?_; rintro h1 h2 h3 h4 h5 h6 h7 h8)
  (refine impApp (F.ns) ?_; refine cex3 ?_; rintro oL _ _; refine cand2 ?_; rintro hL _)
  have hLC : env.locals ≠ C := fun q => by rw [q, hC] at hL; cases hL
  show wpAny _ A (assign (.Name y py) env (.ref D)) _ _ _
  refine wpAny_assign_Name (wpAny_storeName_local hy h6.ns (fun h₂ hn₂ hs₂ => ?_) hp)
  refine ⟨mn, Fn.ns.sameBut hs₂ (Ne.symm hLC), fun h₃ hs₃ => ?_⟩
  have F₂ := h6.set hn₂ hs₂
  have N₂ := h7.set hs₂
  have hCnew : ∀ p ∈ news ++ gl B G', p.1 ≠ C := by
    rintro ⟨b, o⟩ hp rfl
    rcases List.mem_append.mp hp with hp | hp
    · have := (N _ (List.mem_append_left _ hp)).1
      rw [hC] at this; cases this
    · rw [(mem_gl.mp hp).2] at h8; cases h8
  refine done D Gn G' rs k h₃ _ hJ h1 h2 h3 h4 h5 ⟨F₂.ns.sameBut hs₃ hLC, fun b o e => (hs₃.2 b fun q => ?_).trans (F₂.keep b o e), F₂.above⟩ fun p hp => ⟨(hs₃.2 _ (hCnew p hp)).trans (N₂ p hp).1, (N₂ p hp).2⟩
  have := F.keep b o e
  rw [q, hC] at this; cases this
end
/-! part Comps3 -/
/-- a comprehension over x, x known -/
def CompIn (w : World) (A : Around) (env : Env) (scope : Scope) (cl : List (Str × Addr)) (e : Expr) (use : Option (Value → Sem Unit)) (Q : Value → Shared → Prop) (E : Value → Shared → Prop) (x : Value) (s : Shared) : Prop :=
  wpAny (model PR w) A (pyIter x) (fun it s₂ => wpAny (model PR w) A (newList []) (fun acc s₃ => wpAny (model PR w) A (newFunctionEnv scope env.globals cl [] env.qual none .none (some env)) (fun cenv s₄ =>
    codeAny (model PR w) A (.compStart e 0 it acc { cenv with scope := relabel scope env }) (compPost (model PR w) A E use Q acc cenv.locals) s₄) E s₃) E s₂) E s

/-- an iterator I that is at its start: what it hands out, and that it is no other's -/
structure Src (w : World) (A : Around) (h B G : Heap) (L : Addr) (news : List (Addr × Obj)) (I : Addr) (n : Nat) (P : Nat → Value → Prop) (fp : List Addr) (St : Nat → Heap → Prop) : Prop where
  W : Walks PR w A I fp [I] n P St
  live : ∀ i h, St i h → ∃ o, h.get? I = some o
  fpG : ∀ b ∈ fp, b ≠ I → ∃ o, G.get? b = some o
  st : St 0 h
  offB : B.get? I = none
  offL : I ≠ L
  offN : ∀ p ∈ news, p.1 ≠ I
  offG : G.get? I = none
  lt : I < h.objs.size

section
variable {w : World} {A : Around} {s : Shared} {cenv env : Env} {B G₀ G : Heap} {m : Str → Option Value} {news ex : List (Addr × Obj)} {E : Value → Shared → Prop}

theorem lc_val {elt target iter : Expr} {ifs : List Expr} {rest : List Comprehension} {scope : Scope} {cl : List (Str × Addr)} {pos : Pos} {Q : Value → Shared → Prop}
    (hclos : closureFor scope env = pure cl) (hkind : scope.kind = .function) (hnames : ∀ y ∈ scope.names, y.2 = .local → scope.names.lookup y.1 = some .local)
    (h : wpAny (model PR w) A (eval iter env) (CompIn w A env scope cl (.ListComp elt (⟨target, iter, ifs, 0⟩ :: rest) scope pos) none Q E) E s)
    (hs : ∀ x, foldedSetIterable iter env x = pure x := by intro _; rfl) :
    wpAny (model PR w) A (eval (.ListComp elt (⟨target, iter, ifs, 0⟩ :: rest) scope pos) env) Q E s := by
  rw [eval_ListComp]
  exact wpAny_comprehension_free (use := none) rfl hs hclos hkind hnames h

theorem lc_to {elt target iter : Expr} {ifs : List Expr} {rest : List Comprehension} {scope : Scope} {cl : List (Str × Addr)} {pos spos py : Pos} {y : Str} {Q : Flow → Shared → Prop}
    (hsw : swapsWith (.ListComp elt (⟨target, iter, ifs, 0⟩ :: rest) scope pos) (some (.Name y py)) spos.line env = pure true)
    (hclos : closureFor scope env = pure cl) (hkind : scope.kind = .function) (hnames : ∀ z ∈ scope.names, z.2 = .local → scope.names.lookup z.1 = some .local)
    (h : wpAny (model PR w) A (eval iter env) (CompIn w A env scope cl (.ListComp elt (⟨target, iter, ifs, 0⟩ :: rest) scope pos) (some (assign (.Name y py) env)) (fun _ s' => Q .next s') E) E s)
    (hs : ∀ x, foldedSetIterable iter env x = pure x := by intro _; rfl) :
    wpAny (model PR w) A (exec (.Assign [.Name y py] (.ListComp elt (⟨target, iter, ifs, 0⟩ :: rest) scope pos) spos) env) Q E s := by
  rw [exec_Assign_Name_used _ _ _ _ hsw]
  refine wpAny_bind (wpAny_standAt (wpAny_bind ?_))
  show wpAny _ A (do let _ ← comprehension (.ListComp elt (⟨target, iter, ifs, 0⟩ :: rest) scope pos) scope env _ (newList []) false (eval iter env) (some (assign (.Name y py) env))) _ _ s
  exact wpAny_bind (wpAny_mono (wpAny_comprehension_free (use := some (assign (.Name y py) env)) (Q := fun _ s' => Q .next s') rfl hs hclos hkind hnames h) (fun _ s' hq => wpAny_pure (wpAny_pure hq)) fun _ _ e => e)

theorem src_list {L l : Addr} {vs : List Value} {X : Value → Shared → Prop} (hh : A.handled = none) (hl : G.IsList l vs.toArray) (S : Gs B G₀ G) (F : Fr B L s.heap m) (N : News B L s.heap (news ++ gl B G))
    (k : ∀ I h fp St, Src w A h B G L news I vs.length (fun i v => vs[i]? = some v) fp St → Fr B L h m → News B L h (news ++ gl B G) → s.heap.StaysIn (less h I) → X (.ref I) { s with heap := h }) :
    wpAny (model PR w) A (pyIter (.ref l)) X E s := by
  have hGs := S.keep F N
  have hls : s.heap.IsList l vs.toArray := stays_list hGs hl
  (refine impApp (id hl) ?_; refine cex1 ?_; rintro ol; refine cand2 ?_; rintro hol _)
  have hne : l ≠ s.heap.objs.size := Nat.ne_of_lt (Heap.lt_size (hGs _ _ hol))
  have hfr : ∀ {X : Heap}, X.StaysIn s.heap → X.get? s.heap.objs.size = none := fun k => Heap.StaysIn.fresh k
  refine wpAny_pyIter_list hls ?_
  have W := Walks.list (prog := PR) (w := w) hh s.heap.objs.size l hne vs.toArray
  have hsz : vs.toArray.size = vs.length := by simp
  rw [hsz] at W
  refine k s.heap.objs.size _ [s.heap.objs.size, l] (fun i h => h.IsListIter s.heap.objs.size l i ∧ h.IsList l vs.toArray) ⟨?_, fun i h st => let ⟨o, ho, _⟩ := st.1; ⟨o, ho⟩, fun b hb hbI => ?_, ⟨⟨_, Heap.get?_push_size _ rfl, rfl, rfl⟩, hls.push _⟩, hfr F.keep, Nat.ne_of_gt F.ns.lt, ?_, hfr hGs, by simp⟩ (F.push _) (fun p hp => ⟨Heap.get?_push_of_some _ (N p hp).1, (N p hp).2⟩) ?_
  · have : (fun (i : Nat) (v : Value) => vs.toArray[i]? = some v) = fun i v => vs[i]? = some v := by funext i v; simp
    rw [this] at W; exact W
  · rcases List.mem_cons.mp hb with rfl | hb
    · exact absurd rfl hbI
    · rw [List.mem_singleton.mp hb]; exact ⟨ol, hol⟩
  · intro p hp e
    have := Heap.lt_size (N p (List.mem_append_left _ hp)).1
    rw [e] at this; exact Nat.lt_irrefl _ this
  · intro b o e
    rw [less_get (Nat.ne_of_lt (Heap.lt_size e))]
    exact Heap.get?_push_of_some _ e

theorem src_range {L r : Addr} {n : Nat} {t u v : Tok} {X : Value → Shared → Prop} (hh : A.handled = none) (hr : IsRange s.heap r 0 (n : Int) 1 t u v) (hn : n < 2 ^ 62) (S : Gs B G₀ G) (F : Fr B L s.heap m) (N : News B L s.heap (news ++ gl B G))
    (k : ∀ I h fp St, Src w A h B G L news I n (fun i v => ∃ t, v = .int (i : Int) t) fp St → Fr B L h m → News B L h (news ++ gl B G) → s.heap.StaysIn (less h I) → X (.ref I) { s with heap := h }) :
    wpAny (model PR w) A (pyIter (.ref r)) X E s := by
  have hGs := S.keep F N
  have hfr : ∀ {X : Heap}, X.StaysIn s.heap → X.get? s.heap.objs.size = none := fun k => Heap.StaysIn.fresh k
  refine wpAny_pyIter_range hr (small_one (by (first | lia | omega)) (by (first | lia | omega)) (by (first | lia | omega)) (by (first | lia | omega))) ?_
  have hrs : Builtin.Range.rangeSize 0 (n : Int) 1 = (n : Int) := by rw [rangeSize_one]; split <;> (first | lia | omega)
  have W := Walks.range (prog := PR) (w := w) hh s.heap.objs.size 0 1 n
  refine k s.heap.objs.size _ [s.heap.objs.size] (fun i h => IsRangeIter h s.heap.objs.size (0 + (i : Nat) * 1) ((n : Int) - (i : Nat)) 1) ⟨?_, fun i h st => ⟨_, st⟩, fun b hb hbI => absurd (List.mem_singleton.mp hb) hbI, ?_, hfr F.keep, Nat.ne_of_gt F.ns.lt, ?_, hfr hGs, by simp⟩ (F.push _) (fun p hp => ⟨Heap.get?_push_of_some _ (N p hp).1, (N p hp).2⟩) ?_
  · have : (fun (i : Nat) (v : Value) => ∃ t, v = Value.int (0 + (i : Int) * 1) t) = fun (i : Nat) v => ∃ t, v = Value.int (i : Int) t := by funext i v; simp
    rw [this] at W; exact W
  · show Heap.get? _ _ = _
    rw [Heap.get?_push_size _ rfl, hrs]
    simp
  · intro p hp e
    have := Heap.lt_size (N p (List.mem_append_left _ hp)).1
    rw [e] at this; exact Nat.lt_irrefl _ this
  · intro b o e
    rw [less_get (Nat.ne_of_lt (Heap.lt_size e))]
    exact Heap.get?_push_of_some _ e

theorem comp1_val {L : Addr} {elt target iter : Expr} {ifs : List Expr} {scope : Scope} {cl : List (Str × Addr)} {pos : Pos} {I : Addr} {n : Nat} {P : Nat → Value → Prop} {fp : List Addr} {St : Nat → Heap → Prop} {Q : Value → Shared → Prop}
    (hL : env.locals = L) (C0 : Src w A s.heap B G L news I n P fp St) (J : Nat → Heap → List Value → Prop)
    (S : Gs B G₀ G) (F : Fr B L s.heap m) (N : News B L s.heap (news ++ gl B G)) (O : Off G news) (hj : J 0 G []) (hlen : ∀ i G rs, J i G rs → rs.length ≤ sizeLine)
    (turn : ∀ i v C D Gi mi rs k h tk oI E', i < n → P i v → J i Gi rs → Gs (less s.heap I) G Gi → G.StaysIn Gi → Fr (less s.heap I) C h mi → News (less s.heap I) C h ([(I, oI), (D, listOf rs.toArray k)] ++ gl (less s.heap I) Gi) → Off Gi [(I, oI), (D, listOf rs.toArray k)] →
      wpAny (model PR w) A (assign target (compEnvC scope cl C env) v) (fun _ s₂ => wpAny (model PR w) A (testsOf ifs (compEnvC scope cl C env)) (fun ok s₃ =>
        if ok = true then wpAny (model PR w) A (eval elt (compEnvC scope cl C env)) (fun y s₄ => ElemEnd s (less s.heap I) G C [(I, oI), (D, listOf rs.toArray k)] Gi (fun G' => J (i + 1) G' (rs ++ [y])) s₄) E' s₃
        else ElemEnd s (less s.heap I) G C [(I, oI), (D, listOf rs.toArray k)] Gi (fun G' => J (i + 1) G' rs) s₃) E' s₂) E' { s with heap := h, toks := tk })
    (done : ∀ D Gn G' rs k h tk, J n Gn rs → Gn.StaysIn G' → G'.get? D = some (listOf rs.toArray k) → G.StaysIn G' → Gs B G₀ G' → Off G' news → Fr B L h m → News B L h (news ++ gl B G') → Q (.ref D) { s with heap := h, toks := tk })
    (hcell : ∀ y ∈ scope.names, y.2 ≠ .cell := by decide) (hkind : scope.kind = .function := by rfl) (ht : ∀ v, letOwnedTupleGo target (.ref I) v = pure () := by intro _; rfl) :
    wpAny (model PR w) A (newList []) (fun acc s₃ => wpAny (model PR w) A (newFunctionEnv scope env.globals cl [] env.qual none .none (some env)) (fun cenv s₄ =>
      codeAny (model PR w) A (.compStart (.ListComp elt [⟨target, iter, ifs, 0⟩] scope pos) 0 (.ref I) acc { cenv with scope := relabel scope env }) (compPost (model PR w) A E none Q acc cenv.locals) s₄) E s₃) E s := by
  subst hL
  refine comp_val C0.W C0.st (J n) hcell hkind S F N O C0.offB C0.offL C0.offN C0.offG C0.lt ?_ done
  intro C D h₁ tk R S₁ F₁ N₁ O₁ st₁ hIC hDI _ fin
  refine cl_last (ex := []) (rs₀ := []) (loopsLast1 ht) C0.W J (fun _ => True) C0.live C0.fpG st₁ S₁ F₁ N₁ O₁ less_self hIC (fun _ h => nomatch h) hDI C0.offG (fun _ h => nomatch h) hj trivial hlen ?_ ?_
  · intro i v Gi mi rs k h tk oI E' hi hP _ hJ Si Gst Fi Ni Oi
    refine wpAny_mono (turn i v C D Gi mi rs k h tk oI E' hi hP hJ Si Gst Fi Ni Oi) (fun _ s₂ h₂ => wpAny_mono h₂ (fun ok s₃ h₃ => ?_) fun _ _ e => e) fun _ _ e => e
    cases ok with
    | false => rw [if_neg (by simp)] at h₃ ⊢; exact h₃.toM
    | true => rw [if_pos rfl] at h₃ ⊢; exact wpAny_mono h₃ (fun _ _ h₄ => ElemEnd.toM h₄) fun _ _ e => e
  · intro Gn mn rs k h tk _ hJ Sn _ Fn Nn On
    exact fin Gn mn rs k h tk hJ Sn Fn Nn On

theorem comp1_to {L : Addr} {elt target iter : Expr} {ifs : List Expr} {scope : Scope} {cl : List (Str × Addr)} {pos py : Pos} {y : Str} {I : Addr} {n : Nat} {P : Nat → Value → Prop} {fp : List Addr} {St : Nat → Heap → Prop} {Q : Value → Shared → Prop}
    (hL : env.locals = L) (C0 : Src w A s.heap B G L news I n P fp St) (J : Nat → Heap → List Value → Prop)
    (S : Gs B G₀ G) (F : Fr B L s.heap m) (N : News B L s.heap (news ++ gl B G)) (O : Off G news) (hj : J 0 G []) (hlen : ∀ i G rs, J i G rs → rs.length ≤ sizeLine)
    (turn : ∀ i v C D Gi mi rs k h tk oI E', i < n → P i v → J i Gi rs → Gs (less s.heap I) G Gi → G.StaysIn Gi → Fr (less s.heap I) C h mi → News (less s.heap I) C h ([(I, oI), (D, listOf rs.toArray k)] ++ gl (less s.heap I) Gi) → Off Gi [(I, oI), (D, listOf rs.toArray k)] →
      wpAny (model PR w) A (assign target (compEnvC scope cl C env) v) (fun _ s₂ => wpAny (model PR w) A (testsOf ifs (compEnvC scope cl C env)) (fun ok s₃ =>
        if ok = true then wpAny (model PR w) A (eval elt (compEnvC scope cl C env)) (fun y s₄ => ElemEnd s (less s.heap I) G C [(I, oI), (D, listOf rs.toArray k)] Gi (fun G' => J (i + 1) G' (rs ++ [y])) s₄) E' s₃
        else ElemEnd s (less s.heap I) G C [(I, oI), (D, listOf rs.toArray k)] Gi (fun G' => J (i + 1) G' rs) s₃) E' s₂) E' { s with heap := h, toks := tk })
    (done : ∀ D Gn G' rs k h tk, J n Gn rs → Gn.StaysIn G' → G'.get? D = some (listOf rs.toArray k) → G.StaysIn G' → Gs B G₀ G' → Off G' news → Fr B L h (fun z => if z = y then some (.ref D) else m z) → News B L h (news ++ gl B G') → Q .none { s with heap := h, toks := tk })
    (hy : env.kindOf y = some .local := by rfl) (hp : (env.scope.kind == .class || (env.scope.kind == .module && env.locals != env.globals)) = false := by rfl)
    (hcell : ∀ y ∈ scope.names, y.2 ≠ .cell := by decide) (hkind : scope.kind = .function := by rfl) (ht : ∀ v, letOwnedTupleGo target (.ref I) v = pure () := by intro _; rfl) :
    wpAny (model PR w) A (newList []) (fun acc s₃ => wpAny (model PR w) A (newFunctionEnv scope env.globals cl [] env.qual none .none (some env)) (fun cenv s₄ =>
      codeAny (model PR w) A (.compStart (.ListComp elt [⟨target, iter, ifs, 0⟩] scope pos) 0 (.ref I) acc { cenv with scope := relabel scope env }) (compPost (model PR w) A E (some (assign (.Name y py) env)) Q acc cenv.locals) s₄) E s₃) E s := by
  subst hL
  refine comp_to C0.W C0.st (J n) hcell hkind hy hp S F N O C0.offB C0.offL C0.offN C0.offG C0.lt ?_ done
  intro C D h₁ tk R S₁ F₁ N₁ O₁ st₁ hIC hDI _ fin
  refine cl_last (ex := []) (rs₀ := []) (loopsLast1 ht) C0.W J (fun _ => True) C0.live C0.fpG st₁ S₁ F₁ N₁ O₁ less_self hIC (fun _ h => nomatch h) hDI C0.offG (fun _ h => nomatch h) hj trivial hlen ?_ ?_
  · intro i v Gi mi rs k h tk oI E' hi hP _ hJ Si Gst Fi Ni Oi
    refine wpAny_mono (turn i v C D Gi mi rs k h tk oI E' hi hP hJ Si Gst Fi Ni Oi) (fun _ s₂ h₂ => wpAny_mono h₂ (fun ok s₃ h₃ => ?_) fun _ _ e => e) fun _ _ e => e
    cases ok with
    | false => rw [if_neg (by simp)] at h₃ ⊢; exact h₃.toM
    | true => rw [if_pos rfl] at h₃ ⊢; exact wpAny_mono h₃ (fun _ _ h₄ => ElemEnd.toM h₄) fun _ _ e => e
  · intro Gn mn rs k h tk _ hJ Sn _ Fn Nn On
    exact fin Gn mn rs k h tk hJ Sn Fn Nn On

theorem comp2_val {L : Addr} {elt t0 i0 t1 i1 : Expr} {scope : Scope} {cl : List (Str × Addr)} {pos : Pos} {I : Addr} {n : Nat} {P : Nat → Value → Prop} {fp : List Addr} {St : Nat → Heap → Prop} {Q : Value → Shared → Prop}
    (hL : env.locals = L) (C0 : Src w A s.heap B G L news I n P fp St) (J : Nat → Heap → List Value → Prop)
    (S : Gs B G₀ G) (F : Fr B L s.heap m) (N : News B L s.heap (news ++ gl B G)) (O : Off G news) (hj : J 0 G [])
    (turn : ∀ i v C D Gi mi rs k h tk oI E', i < n → P i v → J i Gi rs → Gs (less s.heap I) G Gi → G.StaysIn Gi → Fr (less s.heap I) C h mi → News (less s.heap I) C h ([(I, oI), (D, listOf rs.toArray k)] ++ gl (less s.heap I) Gi) → Off Gi [(I, oI), (D, listOf rs.toArray k)] → D ≠ I →
      wpAny (model PR w) A (assign t0 (compEnvC scope cl C env) v) (fun _ s₂ => wpAny (model PR w) A (eval i1 (compEnvC scope cl C env)) (fun x s₃ => wpAny (model PR w) A (pyIter x) (fun it' s₄ =>
        codeAny (model PR w) A (.compStart (.ListComp elt [⟨t0, i0, [], 0⟩, ⟨t1, i1, [], 0⟩] scope pos) 1 it' (.ref D) (compEnvC scope cl C env)) (fun r s' => match r with
          | .ok _ => MidEnd s (less s.heap I) G C I D oI Gi (J (i + 1)) s'
          | .error e => E' e s') s₄) E' s₃) E' s₂) E' { s with heap := h, toks := tk })
    (done : ∀ D Gn G' rs k h tk, J n Gn rs → Gn.StaysIn G' → G'.get? D = some (listOf rs.toArray k) → G.StaysIn G' → Gs B G₀ G' → Off G' news → Fr B L h m → News B L h (news ++ gl B G') → Q (.ref D) { s with heap := h, toks := tk })
    (hs1 : ∀ C x, foldedSetIterable i1 (compEnvC scope cl C env) x = pure x := by intro _ _; rfl)
    (hcell : ∀ y ∈ scope.names, y.2 ≠ .cell := by decide) (hkind : scope.kind = .function := by rfl) (ht : ∀ v, letOwnedTupleGo t0 (.ref I) v = pure () := by intro _; rfl) :
    wpAny (model PR w) A (newList []) (fun acc s₃ => wpAny (model PR w) A (newFunctionEnv scope env.globals cl [] env.qual none .none (some env)) (fun cenv s₄ =>
      codeAny (model PR w) A (.compStart (.ListComp elt [⟨t0, i0, [], 0⟩, ⟨t1, i1, [], 0⟩] scope pos) 0 (.ref I) acc { cenv with scope := relabel scope env }) (compPost (model PR w) A E none Q acc cenv.locals) s₄) E s₃) E s := by
  subst hL
  refine comp_val C0.W C0.st (J n) hcell hkind S F N O C0.offB C0.offL C0.offN C0.offG C0.lt ?_ done
  intro C D h₁ tk R S₁ F₁ N₁ O₁ st₁ hIC hDI _ fin
  refine cl_mid (rs₀ := []) ht (hs1 C) C0.W J C0.live C0.fpG st₁ S₁ F₁ N₁ O₁ less_self hIC hDI C0.offG hj ?_ ?_
  · intro i v Gi mi rs k h tk oI E' hi hP hJ Si Gst Fi Ni Oi
    exact turn i v C D Gi mi rs k h tk oI E' hi hP hJ Si Gst Fi Ni Oi hDI
  · intro Gn mn rs k h tk hJ Sn _ Fn Nn On
    exact fin Gn mn rs k h tk hJ Sn Fn Nn On

theorem comp2_to {L : Addr} {elt t0 i0 t1 i1 : Expr} {scope : Scope} {cl : List (Str × Addr)} {pos : Pos} {py : Pos} {y : Str} {I : Addr} {n : Nat} {P : Nat → Value → Prop} {fp : List Addr} {St : Nat → Heap → Prop} {Q : Value → Shared → Prop}
    (hL : env.locals = L) (C0 : Src w A s.heap B G L news I n P fp St) (J : Nat → Heap → List Value → Prop)
    (S : Gs B G₀ G) (F : Fr B L s.heap m) (N : News B L s.heap (news ++ gl B G)) (O : Off G news) (hj : J 0 G [])
    (turn : ∀ i v C D Gi mi rs k h tk oI E', i < n → P i v → J i Gi rs → Gs (less s.heap I) G Gi → G.StaysIn Gi → Fr (less s.heap I) C h mi → News (less s.heap I) C h ([(I, oI), (D, listOf rs.toArray k)] ++ gl (less s.heap I) Gi) → Off Gi [(I, oI), (D, listOf rs.toArray k)] → D ≠ I →
      wpAny (model PR w) A (assign t0 (compEnvC scope cl C env) v) (fun _ s₂ => wpAny (model PR w) A (eval i1 (compEnvC scope cl C env)) (fun x s₃ => wpAny (model PR w) A (pyIter x) (fun it' s₄ =>
        codeAny (model PR w) A (.compStart (.ListComp elt [⟨t0, i0, [], 0⟩, ⟨t1, i1, [], 0⟩] scope pos) 1 it' (.ref D) (compEnvC scope cl C env)) (fun r s' => match r with
          | .ok _ => MidEnd s (less s.heap I) G C I D oI Gi (J (i + 1)) s'
          | .error e => E' e s') s₄) E' s₃) E' s₂) E' { s with heap := h, toks := tk })
    (done : ∀ D Gn G' rs k h tk, J n Gn rs → Gn.StaysIn G' → G'.get? D = some (listOf rs.toArray k) → G.StaysIn G' → Gs B G₀ G' → Off G' news → Fr B L h (fun z => if z = y then some (.ref D) else m z) → News B L h (news ++ gl B G') → Q .none { s with heap := h, toks := tk })
    (hy : env.kindOf y = some .local := by rfl) (hp : (env.scope.kind == .class || (env.scope.kind == .module && env.locals != env.globals)) = false := by rfl)
    (hs1 : ∀ C x, foldedSetIterable i1 (compEnvC scope cl C env) x = pure x := by intro _ _; rfl)
    (hcell : ∀ y ∈ scope.names, y.2 ≠ .cell := by decide) (hkind : scope.kind = .function := by rfl) (ht : ∀ v, letOwnedTupleGo t0 (.ref I) v = pure () := by intro _; rfl) :
    wpAny (model PR w) A (newList []) (fun acc s₃ => wpAny (model PR w) A (newFunctionEnv scope env.globals cl [] env.qual none .none (some env)) (fun cenv s₄ =>
      codeAny (model PR w) A (.compStart (.ListComp elt [⟨t0, i0, [], 0⟩, ⟨t1, i1, [], 0⟩] scope pos) 0 (.ref I) acc { cenv with scope := relabel scope env }) (compPost (model PR w) A E (some (assign (.Name y py) env)) Q acc cenv.locals) s₄) E s₃) E s := by
  subst hL
  refine comp_to C0.W C0.st (J n) hcell hkind hy hp S F N O C0.offB C0.offL C0.offN C0.offG C0.lt ?_ done
  intro C D h₁ tk R S₁ F₁ N₁ O₁ st₁ hIC hDI _ fin
  refine cl_mid (rs₀ := []) ht (hs1 C) C0.W J C0.live C0.fpG st₁ S₁ F₁ N₁ O₁ less_self hIC hDI C0.offG hj ?_ ?_
  · intro i v Gi mi rs k h tk oI E' hi hP hJ Si Gst Fi Ni Oi
    exact turn i v C D Gi mi rs k h tk oI E' hi hP hJ Si Gst Fi Ni Oi hDI
  · intro Gn mn rs k h tk hJ Sn _ Fn Nn On
    exact fin Gn mn rs k h tk hJ Sn Fn Nn On

/-- the inner clause, in a turn of the outer one -/
theorem comp2_in {elt t0 i0 t1 i1 : Expr} {scope : Scope} {pos : Pos} {I J0 D : Addr} {oJ : Obj} {n : Nat} {P : Nat → Value → Prop} {fp : List Addr} {St : Nat → Heap → Prop} {rs₀ : List Value} {k₀ : Nat} {R : Result → Shared → Prop}
    (C0 : Src w A s.heap B G cenv.locals [(J0, oJ), (D, listOf rs₀.toArray k₀)] I n P fp St) (J : Nat → Heap → List Value → Prop) (M : (Str → Option Value) → Prop) (hDJ : D ≠ J0)
    (S : Gs B G₀ G) (F : Fr B cenv.locals s.heap m) (N : News B cenv.locals s.heap ([(J0, oJ), (D, listOf rs₀.toArray k₀)] ++ gl B G)) (O : Off G [(J0, oJ), (D, listOf rs₀.toArray k₀)]) (hj : J 0 G rs₀) (hM : M m) (hlen : ∀ i G rs, J i G rs → rs.length ≤ sizeLine)
    (turn : ∀ i v Gi mi rs k h tk oI E', i < n → P i v → M mi → J i Gi rs → Gs B G₀ Gi → G.StaysIn Gi → Fr B cenv.locals h mi → News B cenv.locals h ([(I, oI), (J0, oJ), (D, listOf rs.toArray k)] ++ gl B Gi) → Off Gi [(I, oI), (J0, oJ), (D, listOf rs.toArray k)] →
      wpAny (model PR w) A (assign t1 cenv v) (fun _ s₃ => wpAny (model PR w) A (eval elt cenv) (fun y s₄ => ElemEndM s B G₀ cenv.locals [(I, oI), (J0, oJ), (D, listOf rs.toArray k)] Gi M (fun G' => J (i + 1) G' (rs ++ [y])) s₄) E' s₃) E' { s with heap := h, toks := tk })
    (done : ∀ Gn mn rs k h tk, J n Gn rs → Gs B G₀ Gn → G.StaysIn Gn → Fr B cenv.locals h mn → News B cenv.locals h ([(J0, oJ), (D, listOf rs.toArray k)] ++ gl B Gn) → Off Gn [(J0, oJ), (D, listOf rs.toArray k)] → R (.ok .next) { s with heap := h, toks := tk })
    (ht : ∀ v, letOwnedTupleGo t1 (.ref I) v = pure () := by intro _; rfl) :
    codeAny (model PR w) A (.compStart (.ListComp elt [⟨t0, i0, [], 0⟩, ⟨t1, i1, [], 0⟩] scope pos) 1 (.ref I) (.ref D) cenv) R s := by
  have LL : codeAny (model PR w) A (.compLoop (.ListComp elt [⟨t0, i0, [], 0⟩, ⟨t1, i1, [], 0⟩] scope pos) 1 (.ref I) (.ref D) cenv) R s := by
    refine cl_last (ex := [(J0, oJ)]) (rs₀ := rs₀) (loopsLast2 ht) C0.W J M C0.live C0.fpG C0.st S F N O C0.offB C0.offL (fun p hp => C0.offN p (by rw [List.mem_singleton.mp hp]; exact .head _)) (C0.offN (D, listOf rs₀.toArray k₀) (.tail _ (.head _))) C0.offG (fun p hp => by rw [List.mem_singleton.mp hp]; exact Ne.symm hDJ) hj hM hlen ?_ ?_
    · intro i v Gi mi rs k h tk oI E' hi hP hMi hJ Si Gst Fi Ni Oi
      refine wpAny_mono (turn i v Gi mi rs k h tk oI E' hi hP hMi hJ Si Gst Fi Ni Oi) (fun _ s₃ h₃ => ?_) fun _ _ e => e
      exact wpAny_tests_nil (by rw [if_pos rfl]; exact h₃)
    · intro Gn mn rs k h tk _ hJ Sn Gst Fn Nn On
      exact done Gn mn rs k h tk hJ Sn Gst Fn Nn On
  exact compStart_21 LL (C0.W.self 0 _ _ _ C0.st LL)
end
/-! part Data -/
/-! ## what a value of the heap stands for -/
def LL (h : Heap) (a : Addr) (vs : List Value) : Prop := ∃ n, h.get? a = some (listOf vs.toArray n)
theorem LL.isList {h : Heap} {a : Addr} {vs : List Value} (x : LL h a vs) : h.IsList a vs.toArray := let ⟨n, e⟩ := x; ⟨_, e, rfl, n, rfl⟩
theorem LL.mono {h h' : Heap} {a : Addr} {vs : List Value} (x : LL h a vs) (k : h.StaysIn h') : LL h' a vs := let ⟨n, e⟩ := x; ⟨n, k _ _ e⟩
theorem LL.of {h : Heap} {a : Addr} {vs : List Value} {n : Nat} (e : h.get? a = some (listOf vs.toArray n)) : LL h a vs := ⟨n, e⟩
def Ints (h : Heap) (v : Value) (ns : List Int) : Prop := ∃ a vs, v = .ref a ∧ LL h a vs ∧ IntsAre vs ns
def Strs (h : Heap) (v : Value) (ss : List Str) : Prop := ∃ a vs, v = .ref a ∧ LL h a vs ∧ StrsAre vs ss
def ListsOf {α : Type} (R : Heap → Value → α → Prop) (h : Heap) (v : Value) (xs : List α) : Prop := ∃ a vs, v = .ref a ∧ LL h a vs ∧ Paired (R h) vs xs
abbrev Rows (h : Heap) (v : Value) (rs : List (List Int)) : Prop := ListsOf Ints h v rs
abbrev SRows (h : Heap) (v : Value) (rs : List (List Str)) : Prop := ListsOf Strs h v rs
def Pair (h : Heap) (v : Value) (p : Int × Int) : Prop := ∃ a t u, v = .ref a ∧ IsTup h a #[.int p.1 t, .int p.2 u]
abbrev Spans (h : Heap) (v : Value) (ps : List (Int × Int)) : Prop := ListsOf Pair h v ps

theorem Ints.mono {h h' : Heap} {v : Value} {ns : List Int} (x : Ints h v ns) (k : h.StaysIn h') : Ints h' v ns :=
  let ⟨a, vs, e, hl, hi⟩ := x; ⟨a, vs, e, hl.mono k, hi⟩
theorem Strs.mono {h h' : Heap} {v : Value} {ns : List Str} (x : Strs h v ns) (k : h.StaysIn h') : Strs h' v ns :=
  let ⟨a, vs, e, hl, hi⟩ := x; ⟨a, vs, e, hl.mono k, hi⟩
theorem Pair.mono {h h' : Heap} {v : Value} {p : Int × Int} (x : Pair h v p) (k : h.StaysIn h') : Pair h' v p :=
  let ⟨a, t, u, e, hl⟩ := x; ⟨a, t, u, e, stays_tup k hl⟩
theorem ListsOf.mono {α : Type} {R : Heap → Value → α → Prop} (mono : ∀ h h' v x, R h v x → h.StaysIn h' → R h' v x) {h h' : Heap} {v : Value} {xs : List α} (x : ListsOf R h v xs) (k : h.StaysIn h') : ListsOf R h' v xs :=
  let ⟨a, vs, e, hl, hi⟩ := x; ⟨a, vs, e, hl.mono k, hi.mono fun _ _ r => mono _ _ _ _ r k⟩
theorem Rows.mono {h h' : Heap} {v : Value} {rs : List (List Int)} (x : Rows h v rs) (k : h.StaysIn h') : Rows h' v rs := ListsOf.mono (fun _ _ _ _ r k => r.mono k) x k
theorem SRows.mono {h h' : Heap} {v : Value} {rs : List (List Str)} (x : SRows h v rs) (k : h.StaysIn h') : SRows h' v rs := ListsOf.mono (fun _ _ _ _ r k => r.mono k) x k
theorem Spans.mono {h h' : Heap} {v : Value} {rs : List (Int × Int)} (x : Spans h v rs) (k : h.StaysIn h') : Spans h' v rs := ListsOf.mono (fun _ _ _ _ r k => r.mono k) x k

theorem Paired.append {α β : Type} {F : α → β → Prop} {l₁ l₂ : List α} {m₁ m₂ : List β} (x : Paired F l₁ m₁) (y : Paired F l₂ m₂) : Paired F (l₁ ++ l₂) (m₁ ++ m₂) := by
  induction x with
  | nil => exact y
  | cons h _ ih => exact .cons h ih
theorem Paired.len {α β : Type} {F : α → β → Prop} {l : List α} {m : List β} (x : Paired F l m) : l.length = m.length := by
  induction x with
  | nil => rfl
  | cons _ _ ih => simp [ih]
theorem Paired.get {α β : Type} {F : α → β → Prop} {l : List α} {m : List β} (x : Paired F l m) : ∀ (i : Nat) (a : α), l[i]? = some a → ∃ b, m[i]? = some b ∧ F a b := by
  induction x with
  | nil => intro i a h; simp at h
  | @cons a₀ b₀ l₁ l₂ h _ ih =>
    intro i a hi
    cases i with
    | zero => simp at hi; subst hi; exact ⟨b₀, by simp, h⟩
    | succ i => simp at hi; (refine impApp (ih i a hi) ?_; refine cex1 ?_; rintro b; refine cand2 ?_; rintro hb hF); exact ⟨b, by simpa using hb, hF⟩
theorem Paired.take {α β : Type} {F : α → β → Prop} {l : List α} {m : List β} (x : Paired F l m) (k : Nat) : Paired F (l.take k) (m.take k) := by
  induction x generalizing k with
  | nil => simp; exact .nil
  | cons h _ ih =>
    cases k with
    | zero => exact .nil
    | succ k => exact .cons h (ih k)

theorem isList_of {h : Heap} {a : Addr} {its : Array Value} {n : Nat} (e : h.get? a = some (listOf its n)) : h.IsList a its := ⟨_, e, rfl, n, rfl⟩

/-- a map that is seen at a name -/
theorem m_see {m : Str → Option Value} {a : Str} {v : Value} (h : m a = some v) : m = fun y => if y = a then some v else m y := by
  funext y
  by_cases e : y = a
  · subst e; simp [h]
  · simp [e]

/-- a call whose answer says nothing of the heap -/
def noG : Heap := { objs := #[] }
theorem noG_stays (h : Heap) : noG.StaysIn h := fun b o e => by simp [noG, Heap.get?] at e
section
variable {w : World} {A : Around} {s : Shared} {E : Value → Shared → Prop} {p : Program} {loose : List Str} {mean : ExcName → Option Value} {mg mb : Str → Option Value} {B G₀ G : Heap} {L : Addr} {m : Str → Option Value} {news : List (Addr × Obj)}
theorem Pure.use0 {f : Addr} {args : List Value} {dep unt : Nat} {post : Value → Prop} {Q : Value → Shared → Prop} (C : Pure w noG f args dep unt (fun _ v => post v))
    (hh : A.handled = none) (hd : A.depth + dep < recursionLimit) (hu : A.units + unt < cLine) (X : (Mine.hd.heap_39 w.params).In B) (T : Top p loose mean mg mb B)
    (F : Fr B L s.heap m) (N : News B L s.heap news)
    (k : ∀ v h' tk', post v → Fr B L h' m → News B L h' news → Q v { s with heap := h', toks := tk' }) :
    wpAny (model PR w) A (call (.ref f) args) Q E s :=
  C p loose mean mg mb A s Q E hh hd hu (X.keeps F.keep) (T.keeps F.keep) (noG_stays _) fun v h' tk' _ hk _ _ hp =>
    k v h' tk' hp (F.keeps hk) (N.keepsAll hk)
end
/-! part Frz -/
section
variable {B G₀ G G' h h' : Heap} {L : Addr} {m : Str → Option Value} {news : List (Addr × Obj)}
theorem allLt_ne {d : Addr} {l : List (Addr × Obj)} (h : AllLt d l) : ∀ p ∈ l, p.1 ≠ d := by
  induction l with
  | nil => intro p hp; cases hp
  | cons q r ih =>
    intro p hp
    rcases List.mem_cons.mp hp with rfl | hp
    · exact Nat.ne_of_lt h.1
    · exact ih h.2 p hp
theorem lt_ne {d : Addr} {l : List (Addr × Obj)} (h : ∀ p ∈ l, p.1 < d) : ∀ p ∈ l, p.1 ≠ d := fun p hp => Nat.ne_of_lt (h p hp)
theorem off_of {d : Addr} (S : Gs B G₀ G) (hB : B.get? d = none) (h : ∀ p ∈ gl B G, p.1 ≠ d) : G.get? d = none := by
  cases e : G.get? d with
  | none => rfl
  | some o =>
    rcases S.old e with q | q
    · rw [hB] at q; cases q
    · exact absurd rfl (h (d, o) (mem_gl.mpr ⟨q, e⟩))
/-- some of the ledger is frozen at once -/
theorem freezes (fz rest : List (Addr × Obj)) (S : Gs B G₀ G) (F : Fr B L h m) (N : News B L h (news ++ gl B G)) (hsub : ∀ p, p ∈ news ↔ p ∈ fz ++ rest) :
    ∃ G', Gs B G₀ G' ∧ G.StaysIn G' ∧ (∀ p ∈ fz, G'.get? p.1 = some p.2) ∧ News B L h (rest ++ gl B G') ∧ ∀ d, (∀ p ∈ fz, p.1 ≠ d) → G.get? d = none → G'.get? d = none := by
  have hst : G.StaysIn h := S.keep F N
  have hN : ∀ p ∈ fz ++ rest, h.get? p.1 = some p.2 ∧ p.1 ≠ L ∧ B.get? p.1 = none := fun p hp => N p (List.mem_append_left _ ((hsub p).mpr hp))
  have g1 : ∀ b o', G.get? b = some o' → (restr h fun b => (G.get? b).isSome || fz.any fun p => p.1 == b).get? b = some o' := fun b o' e => by
    rw [restr_yes (by simp [e])]; exact hst b o' e
  have g2 : ∀ d, (∀ p ∈ fz, p.1 ≠ d) → G.get? d = none → (restr h fun b => (G.get? b).isSome || fz.any fun p => p.1 == b).get? d = none := fun d hd e => by
    refine restr_no ?_
    rw [Bool.or_eq_false_iff]
    refine ⟨by simp [e], ?_⟩
    rw [List.any_eq_false]
    intro p hp
    simpa using hd p hp
  have g3 : ∀ p ∈ fz, (restr h fun b => (G.get? b).isSome || fz.any fun p => p.1 == b).get? p.1 = some p.2 := fun p hp => by
    rw [restr_yes (by rw [Bool.or_eq_true]; right; rw [List.any_eq_true]; exact ⟨p, hp, by simp⟩)]
    exact (hN p (List.mem_append_left _ hp)).1
  refine ⟨_, ⟨S.base, ⟨fun b o' e => g1 b o' (S.x.stays b o' e), fun b o' hb e => ?_⟩⟩, g1, g3, ?_, g2⟩
  · refine g2 b (fun p hp q => ?_) (S.x.new b o' hb e)
    have := (hN p (List.mem_append_left _ hp)).2.2
    rw [q, hb] at this; cases this
  · rintro ⟨b, o'⟩ hp
    rcases List.mem_append.mp hp with hp | hp
    · exact hN (b, o') (List.mem_append_right _ hp)
    · obtain ⟨h1, h2⟩ := mem_gl.mp hp
      by_cases hb : ∃ p ∈ fz, p.1 = b
      · (revert hb; refine cex1 ?_; rintro p; refine cand2 ?_; rintro hp' rfl)
        rw [g3 p hp'] at h2
        cases h2
        exact hN _ (List.mem_append_left _ hp')
      · cases e : G.get? b with
        | none => rw [g2 b (fun p hp' q => hb ⟨p, hp', q⟩) e] at h2; cases h2
        | some o'' =>
          rw [g1 b o'' e] at h2; cases h2
          exact N (b, o') (List.mem_append_right _ (mem_gl.mpr ⟨h1, e⟩))
end
/-! part Ops -/
section
variable {w : World} {A : Around} {s : Shared} {E : Value → Shared → Prop} {p : Program} {loose : List Str} {mean : ExcName → Option Value} {mg mb : Str → Option Value} {B G₀ G : Heap} {L : Addr} {m : Str → Option Value} {news : List (Addr × Obj)} {env : Env} {K : Frag}
/-- a def of the top is entered; it has cells of its own -/
theorem enter_ownC {R : Result → Shared → Prop} {name qual : Str} {params : Arguments} {body : List Stmt} {scope : Scope} {dV kV doc pm cdv ct oc : Value} {an od : Option Addr} {osl : Array (Option Value)} {f : Addr} {args : Args} (binds : List (Str × Value))
    (X : K.In s.heap) (T : Top p loose mean mg mb s.heap)
    (ho : K.lookup f = some ⟨oc, od, .func (fnOf name qual params body scope dV kV doc pm an cdv ct), osl⟩) (hcd : codeIn K cdv qual = true) (hroom : A.depth < recursionLimit)
    (hbind : BindsTo s (fnOf name qual params body scope dV kV doc pm an cdv ct) args binds) (hkind : (binds.all fun y => scope.names.lookup y.1 == some .local || scope.names.lookup y.1 == some .cell) = true)
    (hnd : ((cellsFrom 0 scope.names []).map (·.1)).Nodup)
    (h : ∀ L h₁ tk cells E', Fr s.heap L h₁ (bindL (envOfC qual scope L f cdv).kindOf binds fun _ => none) → News s.heap L h₁ cells →
      CellsAre (bindC (envOfC qual scope L f cdv).kindOf binds fun _ => none) (cellsFrom (L + 1) scope.names []) cells → L = s.heap.objs.size →
      wpAny (model PR w) (A.deeper (envOfC qual scope L f cdv)) (execs body (envOfC qual scope L f cdv))
        (fun fl s' => R (.ok (.ret (match fl with | .ret v => v | _ => .none))) s') E' { s with heap := h₁, toks := tk })
    (hco : scope.isCoroutine = false := by rfl) (hgen : scope.isGenerator = false := by rfl) (hk : scope.kind = .function := by rfl) : codeAny (model PR w) A (.call (.ref f) args) R s := by
  refine codeAny_call_function hroom (X _ _ ho) rfl hco hgen rfl (codeRec_of X hcd) (hbind _ _ _ _ ?_)
  refine wpAny_newFunctionEnv_cells hk (kindsX hkind _) fun env' he s' x => ?_
  subst he
  refine ⟨T.nolimit.keeps x.toInCall.keep, codeAny_func ?_⟩
  (refine impApp (x.done) ?_; refine cex2 ?_; rintro h₁ tk; refine cand2 ?_; rintro rfl _)
  have hk₁ := x.toInCall.keep
  (refine impApp (Cl.news (h₀ := s.heap) (Nat.le_refl _) fun n c hm => ⟨x.cell n c (lookup_of_mem_nodup (cellsFrom_names scope.names 0 (s.heap.objs.size + 1) [] [] rfl ▸ hnd) hm), x.above n c hm⟩) ?_; refine cex1 ?_; rintro cells; refine cand2 ?_; rintro NC Y)
  exact h _ h₁ tk cells _ ⟨x.toInCall.ns, hk₁, Nat.le_refl _⟩ NC Y rfl

/-! names, any block -/
theorem nameE_L {x : Str} {pos : Pos} {v : Value} {Q : Value → Shared → Prop} (hL : env.locals = L) (F : Fr B L s.heap m) (hv : m x = some v) (h : Q v s)
    (hk : env.scope.kind = .function) (hx : env.kindOf x = some .local) (hd : (x == ("__debug__" : Str)) = false := by decide) : wpAny (model PR w) A (eval (.Name x pos) env) Q E s :=
  wpAny_Name (wpAny_loadName_local hk hx (hL ▸ F.ns) hv h) hd
theorem nameE_C {x : Str} {pos : Pos} {c : Addr} {v : Value} {Q : Value → Shared → Prop} (F : Fr B L s.heap m) (hc : B.IsCell c (some v)) (hl : env.cells.lookup x = some c) (h : Q v s)
    (hk : env.scope.kind = .function) (hx : env.kindOf x = some .cell) (hd : (x == ("__debug__" : Str)) = false := by decide) : wpAny (model PR w) A (eval (.Name x pos) env) Q E s :=
  wpAny_Name (wpAny_loadName_cell hk hx hl (hc.keeps F.keep) h) hd
theorem nameE_K {x : Str} {pos : Pos} {v : Value} {Q : Value → Shared → Prop} (F : Fr B L s.heap m) (X : K.In B) (T : Top p loose mean mg mb B) (e : nsIn K mainGlobals x = some (some v)) (h : Q v s)
    (hg : env.globals = mainGlobals) (hk : env.scope.kind = .function) (hx : env.kindOf x = some .globalImplicit) (hd : (x == ("__debug__" : Str)) = false := by decide) : wpAny (model PR w) A (eval (.Name x pos) env) Q E s :=
  Name_function_global hk hx (loadGlobal_global (env := env) (hg ▸ T.g.keeps F.keep) (mg_of X T.g e) h) hd
theorem nameE_B {x : Str} {pos : Pos} {v : Value} {Q : Value → Shared → Prop} (F : Fr B L s.heap m) (X : K.In B) (T : Top p loose mean mg mb B) (e : nsIn K mainGlobals x = some none) (hv : bootBuiltins x = some v) (hn : x ≠ "__name__") (h : Q v s)
    (hg : env.globals = mainGlobals) (hb : env.builtins = builtinsNs) (hk : env.scope.kind = .function) (hx : env.kindOf x = some .globalImplicit) (hd : (x == ("__debug__" : Str)) = false := by decide) : wpAny (model PR w) A (eval (.Name x pos) env) Q E s :=
  Name_function_global hk hx (loadGlobal_builtin (env := env) (hg ▸ T.g.keeps F.keep) (mg_none_of X T.g e) (hb ▸ T.b.keeps F.keep) ((T.builtins x hn).trans hv) h) hd
theorem storeE_L {x : Str} {v : Value} {Q : Unit → Shared → Prop} (hL : env.locals = L) (F : Fr B L s.heap m) (N : News B L s.heap news)
    (h : ∀ h', Fr B L h' (fun y => if y = x then some v else m y) → News B L h' news → Q () { s with heap := h', toks := s.toks + 1 })
    (hk : env.scope.kind = .function) (hx : env.kindOf x = some .local) : wpAny (model PR w) A (storeName env x v) Q E s := by
  subst hL
  exact wpAny_storeName_local hx F.ns (fun h' hn hs => h h' (F.set hn hs) (N.set hs)) (by rw [hk]; rfl)
/-- an item of a list -/
theorem item_B {value slice : Expr} {l : Addr} {vs : List Value} {k : Int} {u : Tok} {v : Value} {Q : Value → Shared → Prop} (hl : s.heap.IsList l vs.toArray) (h0 : 0 ≤ k) (hhi : k < 2 ^ 63) (hx : vs[k.toNat]? = some v) (h : Q v s)
    (hs : subscripted slice false (.ref l) (.int k u) = operate [.ref l, .int k u] (getItem (.ref l) (.int k u)) := by with_unfolding_all rfl) :
    wpAny (model PR w) A (subscriptTail value slice (.ref l) (.int k u)) Q E s :=
  tail_any hl.typeIs slot_list_getitem.lookup (wpAny_getItem_list hl h0 hhi (by simpa using hx) h) hs

/-- two lists added -/
theorem add_G {l b : Addr} {vs us : List Value} {Q : Value → Shared → Prop} (F : Fr B L s.heap m) (N : News B L s.heap news) (hl : s.heap.IsList l vs.toArray) (hb : s.heap.IsList b us.toArray)
    (hsz : vs.length + us.length ≤ sizeLine)
    (h : ∀ D h', Fr B L h' m → News B L h' ((D, listOf (vs ++ us).toArray 0) :: news) → (∀ p ∈ news, p.1 < D) → Q (.ref D) { s with heap := h' }) :
    wpAny (model PR w) A (binaryOp .Add (.ref l) (.ref b)) Q E s := by
  refine add_arrays F N hl hb (fun h' F' N' => ?_) (by simpa using hsz)
  exact h _ h' F' (by simpa using N') fun p hp => Heap.lt_size (N p hp).1
/-- a list extended by a list -/
theorem extend_G {D b : Addr} {ys us : List Value} {n n2 : Nat} {g : Obj → List (Addr × Obj)} {Q : Value → Shared → Prop} (F : Fr B L s.heap m) (N : News B L s.heap news) (U : UpdF D (listOf ys.toArray n) news g)
    (hb : s.heap.get? b = some (listOf us.toArray n2)) (hsz : ys.length + us.length ≤ sizeLine)
    (h : ∀ h' n', Fr B L h' m → News B L h' (g (listOf (ys ++ us).toArray n')) → Q .none { s with heap := h' }) :
    wpAny (model PR w) A (call (.builtin "list.extend") [.ref D, .ref b]) Q E s := by
  (refine impApp (U.split) ?_; refine cex2 ?_; rintro pre post; refine cand4 ?_; rintro rfl hg h1 h2)
  refine extend_in F N h1 h2 hb (fun h' n' F' N' => ?_) (by simpa using hsz)
  refine h h' n' F' ?_
  rw [hg]
  simpa using N'
theorem readsAll_of_strs {h : Heap} : ∀ {vs : List Value} {ss : List Str}, StrsAre vs ss → ReadsAll h vs (ss.map PyData.str) [] := fun h => StrsAre.reads _ h

theorem pick_upto (vs : List Value) {k : Int} (h : 0 ≤ k) : slicePick vs.toArray none (some k) none = (vs.take k.toNat).toArray := by
  rw [kms_pick_eq]
  congr 1
  unfold kms_pick kms_lo kms_hi
  simp only [List.drop_zero]
  rw [if_neg (by (first | lia | omega))]
  simp
theorem pick_from (vs : List Value) {k : Int} (h : 0 ≤ k) : slicePick vs.toArray (some k) none none = (vs.drop k.toNat).toArray := by
  rw [kms_pick_eq]
  congr 1
  unfold kms_pick kms_lo kms_hi
  dsimp only
  rw [if_neg (by (first | lia | omega))]
  by_cases hk : k.toNat ≤ vs.length
  · rw [Nat.min_eq_left hk, List.take_of_length_le (by simp)]
  · rw [Nat.min_eq_right (by (first | lia | omega)), List.drop_of_length_le (by simp), List.drop_of_length_le (by (first | lia | omega))]; simp
theorem slice_upto {value slice : Expr} {l : Addr} {vs : List Value} {k : Int} {u : Tok} {Q : Value → Shared → Prop} (F : Fr B L s.heap m) (N : News B L s.heap news) (hl : s.heap.IsList l vs.toArray) (h0 : 0 ≤ k) (hz : vs.length ≤ sizeLine)
    (h : ∀ D h', Fr B L h' m → News B L h' ((D, listOf (vs.take k.toNat).toArray 0) :: news) → (∀ p ∈ news, p.1 < D) → Q (.ref D) { s with heap := h' })
    (hs : subscripted slice false (.ref l) (.ref s.heap.objs.size) = operate [.ref s.heap.objs.size, .ref l] (getItem (.ref l) (.ref s.heap.objs.size))) (ht : ∀ r, letTemporaryGo value (.ref l) r = pure ()) :
    wpAny (model PR w) A (subscriptTail value slice (.ref l) (.ref s.heap.objs.size)) Q E { s with heap := s.heap.push { cls := .type "slice", data := .fields #[.none, .int k u, .none] } } :=
  kmk_slice F N hl .none (.int k u) (fun D h' F' N' l1 => h D h' F' (by rw [← pick_upto vs h0]; exact N') l1) hs ht (by simpa using hz)
theorem slice_from {value slice : Expr} {l : Addr} {vs : List Value} {k : Int} {u : Tok} {Q : Value → Shared → Prop} (F : Fr B L s.heap m) (N : News B L s.heap news) (hl : s.heap.IsList l vs.toArray) (h0 : 0 ≤ k) (hz : vs.length ≤ sizeLine)
    (h : ∀ D h', Fr B L h' m → News B L h' ((D, listOf (vs.drop k.toNat).toArray 0) :: news) → (∀ p ∈ news, p.1 < D) → Q (.ref D) { s with heap := h' })
    (hs : subscripted slice false (.ref l) (.ref s.heap.objs.size) = operate [.ref s.heap.objs.size, .ref l] (getItem (.ref l) (.ref s.heap.objs.size))) (ht : ∀ r, letTemporaryGo value (.ref l) r = pure ()) :
    wpAny (model PR w) A (subscriptTail value slice (.ref l) (.ref s.heap.objs.size)) Q E { s with heap := s.heap.push { cls := .type "slice", data := .fields #[.int k u, .none, .none] } } :=
  kmk_slice F N hl (.int k u) .none (fun D h' F' N' l1 => h D h' F' (by rw [← pick_from vs h0]; exact N') l1) hs ht (by simpa using hz)
end
/-! part Fn1 -/
local macro_rules | `(tactic| k_all) => `(tactic| first | with_reducible assumption | exact gl_ne (by with_reducible assumption) | exact lt_ne (by with_reducible assumption) | exact allLt_ne (by with_reducible assumption))
theorem words1 : True := by
  k_with "MINE fill" => (((have hfill : PySem.Challenge.rw_rl0061_01.foot = 7 ∧ Mine.hd.heap_39 = Mine.hd.heap_39 := by (k_fill; exact ⟨rfl, rfl⟩)); clear hfill))
  k_with "MINE room" => (((try simp only [depth_in1, depth_deeper, units_in1, units_deeper]); (try dsimp only); (first | lia | omega)))
  k_with "MINE enter" => ((
  (case X => assumption); (case T => assumption); (case ho => k_is); (case hcd => k_is); (case hr => walk_at "MINE room"); (case hb => exact BindsTo.of_eq rfl); (case hl => exact locs rfl); (case c2 => exact rfl); (case c3 => exact rfl); (case c4 => exact rfl); (case c5 => decide)))
  k_with "MINE and" => (repeat (with_reducible rename And _ _ => hc; (refine And.elim ?_ hc); clear hc; intro _ _))
  k_with "MINE lens" => (((repeat (with_reducible rename IntsAre _ _ => hz; have hzl := IntsAre.length hz; revert hz)); (repeat (with_reducible rename StrsAre _ _ => hz; have hzl := StrsAre.length hz; revert hz)); (repeat (with_reducible rename Paired _ _ _ => hz; have hzl := Paired.len hz; revert hz)); intros))
  k_with "MINE size" => ((rw [PySem.sizeLine_eq]; first
  | ((try simp only [List.size_toArray, List.length_append, List.length_cons, List.length_nil, List.length_map]); (first | lia | omega))
  | (walk_at "MINE lens"; (try simp only [List.size_toArray, List.length_append, List.length_cons, List.length_nil, List.length_map, List.length_take, List.length_drop] at *); (first | lia | omega))))
  k_with "call builtin:list.append" => (((with_reducible show wpAny _ _ (call (Value.builtin _) [Value.ref _, _]) _ _ _); (refine' append_K ?hqk1 ?hqk2 ?hqk3 ?_ ?hqz; (case hqk1 => k_asm); (case hqk2 => k_asm); (case hqk3 => k_upd); (case hqz => walk_at "MINE size"); k_whole); intro _ _ _; (try k_sweep)))
  k_with "GO" => (repeat' (first | (k_unfold; (try dsimp only)) | walk1 | (dsimp only; walk1)))
  k_with "exec For Name Tuple cons nil" => ((k_dflt (refine wpAny_For ?_ (by intro _; rfl))))
  k_with "exec For Name Name cons nil" => ((k_dflt (refine wpAny_For ?_ (by intro _; rfl))))
  k_with "exec For Name Attribute cons nil" => ((k_dflt (refine wpAny_For ?_ (by intro _; rfl))))
  k_with "exec For Name Call cons nil" => ((k_dflt (refine wpAny_For ?_ (by intro _; rfl))))
  k_with "exec For Tuple Call cons nil" => ((k_dflt (refine wpAny_For ?_ (by intro _; rfl))))
  k_with "exec For Tuple Tuple cons nil" => ((k_dflt (refine wpAny_For ?_ (by intro _; rfl))))
  k_with "exec For Name Subscript cons nil" => ((k_dflt (refine wpAny_For ?_ (by intro _; rfl))))
  k_with "eval Name" => (((with_reducible show wpAny _ _ (eval (Expr.Name _ _) (compEnvC _ _ _ _)) _ _ _); k_dflt (first
  | (refine' nameE_L ?hqhL ?hqF ?hqv ?_ ?hqa ?hqb; (case hqb => rfl); (case hqa => rfl); (case hqF => k_asm); (case hqhL => rfl); (case hqv => rfl); k_whole)
  | (refine' nameE_C ?hqF ?hqc ?hql ?_ ?hqa ?hqb; (case hqb => rfl); (case hqa => rfl); (case hql => rfl); (case hqF => k_asm); (case hqc => assumption); k_whole)
  | (refine' nameE_K ?hqF ?hqX ?hqT ?hqe ?_ ?hqg ?hqa ?hqb; (case hqb => rfl); (case hqa => rfl); (case hqg => rfl); (case hqF => k_asm); (case hqX => k_asm); (case hqT => k_asm); (case hqe => k_is); k_whole)
  | (refine' nameE_B ?hqF ?hqX ?hqT ?hqe ?hqv ?hqn ?_ ?hqg ?hqh ?hqa ?hqb; (case hqb => rfl); (case hqa => rfl); (case hqg => rfl); (case hqh => rfl); (case hqF => k_asm); (case hqX => k_asm); (case hqT => k_asm); (case hqe => k_is); (case hqv => boot_fast); (case hqn => decide); k_whole))))
  k_with "storeName" => (((with_reducible show wpAny _ _ (storeName (compEnvC _ _ _ _) _ _) _ _ _); k_dflt (refine' storeE_L ?hqhL ?hqF ?hqN ?_ ?hqa ?hqb; (case hqb => rfl); (case hqa => rfl); (case hqF => k_asm); (case hqhL => rfl); (case hqN => k_asm); k_whole); intro _ _ _; (try k_sweep)))
  k_with "MINE enterC" => ((
  (case X => assumption); (case T => assumption); (case ho => k_is); (case hcd => k_is); (case hr => walk_at "MINE room"); (case hb => exact BindsTo.of_eq rfl); (case hl => exact rfl); (case hnd => decide +kernel); (case c2 => exact rfl); (case c3 => exact rfl); (case c4 => exact rfl)))
  k_with "exec Assign cons ListComp" => ((k_dflt (refine' lc_to ?hqhsw ?hqhc ?hqhk ?hqhn ?_ ?hqhs; (case hqhsw => with_unfolding_all rfl); (case hqhc => with_unfolding_all rfl); (case hqhk => rfl); (case hqhn => decide); (case hqhs => (intro _; rfl)); k_whole)))
  k_with "eval ListComp" => ((k_dflt (refine' lc_val ?hqhc ?hqhk ?hqhn ?_ ?hqhs; (case hqhc => with_unfolding_all rfl); (case hqhk => rfl); (case hqhn => decide); (case hqhs => (intro _; rfl)); k_whole)))
  k_with "call ref" => ((
  (with_reducible show wpAny _ _ (call (Value.ref 87) [Value.int _ _]) _ _ _);
  (refine' Pure.use0 (iseof _ _ _ _) ?hqh1 ?hqh2 ?hqh3 ?hqh4 ?hqh5 ?hqh6 ?hqh7 ?_; (case hqh1 => rfl); (case hqh2 => walk_at "MINE room"); (case hqh3 => walk_at "MINE room"); (case hqh6 => k_asm); (case hqh7 => k_asm); (case hqh4 => k_asm); (case hqh5 => k_asm));
  intro _ _ _ e' _ _; subst e'; (try dsimp only)))
  k_with "call ref" => ((
  (with_reducible show wpAny _ _ (call (Value.ref 80) [Value.int _ _]) _ _ _);
  (refine' Pure.use0 (isnon _ _ _ _) ?hqh1 ?hqh2 ?hqh3 ?hqh4 ?hqh5 ?hqh6 ?hqh7 ?_; (case hqh1 => rfl); (case hqh2 => walk_at "MINE room"); (case hqh3 => walk_at "MINE room"); (case hqh6 => k_asm); (case hqh7 => k_asm); (case hqh4 => k_asm); (case hqh5 => k_asm));
  intro _ _ _ e' _ _; subst e'; (try dsimp only)))
  k_with "MINE sub" => ((intro _ hp; repeat (first | exact hp | refine List.Mem.tail _ ?_)))
  k_with "MINE keep" => (first | exact Fr.keep (by k_asm) | exact Gs.keepL (by assumption) (by k_asm) (by k_asm) (by walk_at "MINE sub"))
  k_with "MINE isl" => (first
  | exact stays_list (Fr.keep (by k_asm)) (by with_reducible assumption)
  | exact LL.isList (LL.mono (by with_reducible assumption) (Fr.keep (by k_asm)))
  | exact LL.isList (LL.mono (by with_reducible assumption) (Gs.keepL (by assumption) (by k_asm) (by k_asm) (by walk_at "MINE sub")))
  | exact isList_of (News.get (by k_asm) (by k_mem)))
  k_with "subscriptTail" => (((with_reducible show wpAny _ _ (subscriptTail _ _ (Value.ref _) (Value.int _ _)) _ _ _); k_dflt (refine' item_B ?hqhl ?hqh0 ?hqhhi ?hqhx ?_; (case hqhl => walk_at "MINE isl"); (case hqhx => assumption); (case hqh0 => (first | lia | omega)); (case hqhhi => (first | lia | omega)); k_whole)))
  k_with "binaryOp Add ref ref" => (((with_reducible show wpAny _ _ (binaryOp _ (Value.ref _) (Value.ref _)) _ _ _); k_dflt (refine' add_G ?hqF ?hqN ?hqhl ?hqhb ?hqhz ?_; (case hqF => k_asm); (case hqN => k_asm); (case hqhl => walk_at "MINE isl"); (case hqhb => walk_at "MINE isl"); (case hqhz => walk_at "MINE size"); k_whole); intro _ _ _ _ l1; (try k_lt l1); (try (revert l1; intro _)); (try k_sweep)))
  k_with "MINE get" => (first | exact Exists.choose_spec (LL.mono (by with_reducible assumption) (Gs.keepL (by assumption) (by k_asm) (by k_asm) (by walk_at "MINE sub"))) | exact News.get (by k_asm) (by k_mem))
  k_with "call builtin:list.extend" => (((with_reducible show wpAny _ _ (call (Value.builtin "list.extend") [Value.ref _, Value.ref _]) _ _ _); k_dflt (refine' extend_G ?hqF ?hqN ?hqU ?hqhb ?hqhz ?_; (case hqF => k_asm); (case hqN => k_asm); (case hqU => k_updF); (case hqhb => walk_at "MINE get"); (case hqhz => walk_at "MINE size"); k_whole); intro _ _ _ N'; (try dsimp only at N'); (revert N'; intro _); (try k_sweep)))
  k_with "subscriptTail Name Slice ref ref" => (((with_reducible show wpAny _ _ (subscriptTail _ (PySem.Expr.Slice none (some _) none _) (Value.ref _) (Value.ref _)) _ _ _); k_dflt (refine' slice_upto ?hqF ?hqN ?hql ?hqh0 ?hqz ?_ ?hqs ?hqt; (case hqF => k_asm); (case hqN => k_asm); (case hql => walk_at "MINE isl"); (case hqh0 => (first | lia | omega)); (case hqz => walk_at "MINE size"); (case hqs => with_unfolding_all rfl); (case hqt => kmk_pure); k_whole); intro _ _ _ _ l1; (try k_lt l1); (try (revert l1; intro _)); (try k_sweep)))
  k_with "subscriptTail Name Slice ref ref" => (((with_reducible show wpAny _ _ (subscriptTail _ (PySem.Expr.Slice (some _) none none _) (Value.ref _) (Value.ref _)) _ _ _); k_dflt (refine' slice_from ?hqF ?hqN ?hql ?hqh0 ?hqz ?_ ?hqs ?hqt; (case hqF => k_asm); (case hqN => k_asm); (case hql => walk_at "MINE isl"); (case hqh0 => (first | lia | omega)); (case hqz => walk_at "MINE size"); (case hqs => with_unfolding_all rfl); (case hqt => kmk_pure); k_whole); intro _ _ _ _ l1; (try k_lt l1); (try (revert l1; intro _)); (try k_sweep)))
  k_with "MINE offz" => ((simp only [List.forall_mem_cons]; (repeat' (first | exact fun _ h => nomatch h | (refine And.intro ?_ ?_) | (refine neN ?_; (try dsimp only); (first | lia | omega))))))
  k_with "call ref" => ((
  (with_reducible show wpAny _ _ (call (Value.ref 111) [Value.int _ _]) _ _ _);
  (refine' Pure.use0 (post := fun v => ∃ u, v = Value.str (pieceOf _) u) (piece _ _ _ _ ?hqp1 ?hqp2) ?hqh1 ?hqh2 ?hqh3 ?hqh4 ?hqh5 ?hqh6 ?hqh7 ?_; (case hqp1 => (first | lia | omega)); (case hqp2 => (first | lia | omega)); (case hqh1 => rfl); (case hqh2 => walk_at "MINE room"); (case hqh3 => walk_at "MINE room"); (case hqh6 => k_asm); (case hqh7 => k_asm); (case hqh4 => k_asm); (case hqh5 => k_asm));
  intro _ _ _ e' _ _; obtain ⟨_, e'⟩ := e'; subst e'; (try dsimp only)))
  trivial
def pieces : List String := ["", "*", "**", "=", "*=", "/", "a"]
def pieceOf (f : Int) : Str := Str.ofString (pieces.getD f.toNat "")

theorem iseof (w : World) (G : Heap) (x : Int) (t : Tok) : Pure w G 87 [.int x t] 1 3 (fun _ v => v = .bool (decide (x = 0))) := by
  intro p loose mean mg mb A s Q E hh hd hu X T hG k
  obtain ⟨ha, dp, fr, gd, un⟩ := A
  dsimp only at hh hd hu
  subst hh
  walk_at "MINE fill"
  refine wpAny_call ?_
  k_dflt (refine' enter_own [(Str.ofString "x", .int x t)] ?X ?T ?ho ?hcd ?hr ?hb ?hl ?_ ?c2 ?c3 ?c4 ?c5)
  walk_at "MINE enter"
  intro L h₁ E' F
  have N : News s.heap L h₁ [] := News.nil
  (try dsimp only); (try k_fold)
  k_steps
  all_goals (dsimp only; refine k _ _ _ G (Fr.keep (by assumption)) (Gx.refl _ _) (StaysIn.trans hG (Fr.keep (by assumption))) ?_)
  rfl

theorem isnon (w : World) (G : Heap) (x : Int) (t : Tok) : Pure w G 80 [.int x t] 1 3 (fun _ v => v = .bool (decide (256 ≤ x))) := by
  intro p loose mean mg mb A s Q E hh hd hu X T hG k
  obtain ⟨ha, dp, fr, gd, un⟩ := A
  dsimp only at hh hd hu
  subst hh
  walk_at "MINE fill"
  refine wpAny_call ?_
  k_dflt (refine' enter_own [(Str.ofString "x", .int x t)] ?X ?T ?ho ?hcd ?hr ?hb ?hl ?_ ?c2 ?c3 ?c4 ?c5)
  walk_at "MINE enter"
  intro L h₁ E' F
  have N : News s.heap L h₁ [] := News.nil
  (try dsimp only); (try k_fold)
  k_steps
  all_goals (dsimp only; refine k _ _ _ G (Fr.keep (by assumption)) (Gx.refl _ _) (StaysIn.trans hG (Fr.keep (by assumption))) ?_)
  rfl

theorem piece (w : World) (G : Heap) (f : Int) (t : Tok) (h0 : 0 ≤ f) (h7 : f < 7) : Pure w G 111 [.int f t] 1 3 (fun _ v => ∃ u, v = .str (pieceOf f) u) := by
  intro p loose mean mg mb A s Q E hh hd hu X T hG k
  obtain ⟨ha, dp, fr, gd, un⟩ := A
  dsimp only at hh hd hu
  subst hh
  walk_at "MINE fill"
  refine wpAny_call ?_
  k_dflt (refine' enter_own [(Str.ofString "figure", .int f t)] ?X ?T ?ho ?hcd ?hr ?hb ?hl ?_ ?c2 ?c3 ?c4 ?c5)
  walk_at "MINE enter"
  intro L h₁ E' F
  have N : News s.heap L h₁ [] := News.nil
  (try dsimp only); (try k_fold)
  k_steps
  all_goals (try dsimp only)
  all_goals (refine k _ _ _ G (Fr.keep (by assumption)) (Gx.refl _ _) (StaysIn.trans hG (Fr.keep (by assumption))) ?_)
  all_goals (rename f = _ => e; subst e; exact ⟨_, rfl⟩)
/-! part Fn2 -/
def sym (f : Int) : Int := [0, 16, 35, 22, 38, 17, 1, 258].getD f.toNat 0
def partOf (pair : List Int) : List Int := (pair.takeWhile (fun x => decide (x ≠ 0))).map sym

theorem partOf_all {l : List Int} (h : ∀ x ∈ l, x ≠ 0) : partOf l = l.map sym := by
  unfold partOf
  congr 1
  induction l with
  | nil => rfl
  | cons x r ih =>
    rw [List.takeWhile_cons]
    simp only [h x (.head _), ne_eq, not_false_eq_true, decide_true, if_true]
    rw [ih fun y hy => h y (.tail _ hy)]
theorem partOf_cut {l : List Int} {j : Nat} (h : ∀ x ∈ l.take j, x ≠ 0) (h0 : l[j]? = some 0) : partOf l = (l.take j).map sym := by
  unfold partOf
  congr 1
  induction l generalizing j with
  | nil => simp at h0
  | cons x r ih =>
    cases j with
    | zero => simp at h0; subst h0; simp [List.takeWhile_cons]
    | succ j =>
      rw [List.takeWhile_cons]
      simp only [h x (by simp), ne_eq, not_false_eq_true, decide_true, if_true, List.take_succ_cons]
      rw [ih (j := j) (fun y hy => h y (by simp [hy])) (by simpa using h0)]

theorem sym_zero {n : Int} (h0 : 0 ≤ n) (h8 : n < 8) (h : sym n = 0) : n = 0 := by
  obtain ⟨k, rfl⟩ := Int.eq_ofNat_of_zero_le h0
  have hk : k < 8 := by (first | lia | omega)
  have : ∀ k : Nat, k < 8 → sym (k : Int) = 0 → k = 0 := by decide
  rw [this k hk h]; rfl

theorem ints4 {vs : List Value} {f0 f1 f2 f3 : Int} (h : IntsAre vs [f0, f1, f2, f3]) : ∃ t0 t1 t2 t3, vs = [.int f0 t0, .int f1 t1, .int f2 t2, .int f3 t3] := by
  cases h with | cons _ t0 h => cases h with | cons _ t1 h => cases h with | cons _ t2 h => cases h with | cons _ t3 h => cases h with | nil => exact ⟨t0, t1, t2, t3, rfl⟩

theorem grown (w : World) (G : Heap) (a : Addr) (f0 f1 f2 f3 : Int) (vs : List Value) (h0 : 0 ≤ f0 ∧ f0 < 8) (h1 : 0 ≤ f1 ∧ f1 < 8) (h2 : 0 ≤ f2 ∧ f2 < 8) (h3 : 0 ≤ f3 ∧ f3 < 8) (hl : LL G a vs) (hI : IntsAre vs [f0, f1, f2, f3]) :
    Pure w G 94 [.ref a] 2 6 (fun G' v => Rows G' v [partOf [f0, f1], partOf [f2, f3]]) := by
  intro p loose mean mg mb A s Q E hh hd hu X T hG k
  obtain ⟨ha, dp, fr, gd, un⟩ := A
  dsimp only at hh hd hu
  subst hh
  have hls : s.heap.IsList a vs.toArray := (hl.mono hG).isList
  (refine impApp (ints4 hI) ?_; refine cex4 ?_; rintro t0 t1 t2 t3 rfl)
  walk_at "MINE fill"
  refine wpAny_call ?_
  k_dflt (refine' enter_own [(Str.ofString "figures", .ref a)] ?X ?T ?ho ?hcd ?hr ?hb ?hl ?_ ?c2 ?c3 ?c4 ?c5)
  walk_at "MINE enter"
  intro L h₁ E' F
  have S : Gs s.heap G G := Gs.init hG
  have N : News s.heap L h₁ (gl s.heap G) := by rw [gl_self hG]; exact News.nil
  (try dsimp only); (try k_fold)
  walk_at "GO"
  rename_i P _ lP _ D2 _ lD2 D1 _ lD1 D0 hp F N lD0
  walk_at "MINE and"
  have oP : G.get? P = none := off_of S (N (P, listOf #[] 0) (by k_mem)).2.2 (by k_all)
  (refine impApp (freezes [(D0, _), (D1, _), (D2, _)] [(P, listOf #[] 0)] (news := [(D0, _), (D1, _), (D2, _), (P, listOf #[] 0)]) S F N (fun p => Iff.rfl)) ?_; refine cex1 ?_; rintro G1; refine cand5 ?_; rintro S1 g1 fz N1 off1)
  have oP1 : G1.get? P = none := off1 P (by simp only [List.forall_mem_cons]; refine ⟨?_, ?_, ?_, fun _ h => nomatch h⟩ <;> (refine Nat.ne_of_gt ?_; assumption)) oP
  have hT0 : IsTup G1 D0 #[.ref D2, .ref D1] := ⟨_, fz _ (by k_mem), rfl, _, rfl⟩
  have hD1 : Ints G1 (.ref D1) [f2, f3] := ⟨D1, _, rfl, LL.of (fz (D1, _) (by k_mem)), .cons _ _ (.cons _ _ .nil)⟩
  have hD2 : Ints G1 (.ref D2) [f0, f1] := ⟨D2, _, rfl, LL.of (fz (D2, _) (by k_mem)), .cons _ _ (.cons _ _ .nil)⟩
  have hps : Paired (Ints G1) [.ref D2, .ref D1] [[f0, f1], [f2, f3]] := .cons hD2 (.cons hD1 .nil)
  refine for_tup (vs := [.ref D2, .ref D1]) rfl rfl
    (fun i Gi mi ni => ∃ ps k, ni = [(P, listOf ps.toArray k)] ∧ mi (Str.ofString "parts") = some (.ref P) ∧ ps.length ≤ 2 ∧ Paired (Ints Gi) ps (([[f0, f1], [f2, f3]].take i).map partOf))
    (fun Gi mi ni => ∃ ps k, ni = [(P, listOf ps.toArray k)] ∧ mi (Str.ofString "parts") = some (.ref P) ∧ ps.length ≤ 2 ∧ Paired (Ints Gi) ps [partOf [f0, f1], partOf [f2, f3]]) hT0 S1 F N1 (Off.cons oP1 Off.nil)
    ⟨[], 0, rfl, rfl, by simp, .nil⟩ ?turn ?hX ?done
  case hX => exact fun _ _ _ h => h
  case done =>
    (rintro Gn mn nn h tk; refine cex2 ?_; rintro ps kp; refine cand4 ?_; rintro rfl hm hlen hps Sn Gst Fn Nn On _)
    rw [m_see hm] at Fn
    dsimp only
    walk_at "GO"
    dsimp only
    (refine impApp (freezes [(P, listOf ps.toArray kp)] [] (news := [(P, listOf ps.toArray kp)]) Sn Fn Nn (fun p => Iff.rfl)) ?_; refine cex1 ?_; rintro G2; refine cand5 ?_; rintro S2 g2 fz2 N2 _)
    exact k _ _ _ G2 Fn.keep S2.x (S2.keep (news := []) Fn N2) ⟨P, ps, rfl, LL.of (fz2 (P, _) (by k_mem)), hps.mono fun _ _ r => r.mono g2⟩
  case turn =>
    (rintro i v Gi mi ni h tk I oI Q₁ E₁ _ hv; refine cex2 ?_; rintro ps kp; refine cand4 ?_; rintro rfl hm hlen hps' _ Si Gst Fi Ni Oi hne)
    (refine impApp (Paired.get hps i v hv) ?_; refine cex1 ?_; rintro pair; refine cand2 ?_; rintro hpair; refine cex2 ?_; rintro q qs; refine cand3 ?_; rintro rfl hq hqi)
    have hq' := (hq.mono Gst).isList
    have oI' : Gi.get? I = none := Oi (I, oI) (.head _)
    have oP' : Gi.get? P = none := Oi (P, _) (.tail _ (.head _))
    have hPI : @Ne Nat P I := hne (P, _) (.head _)
    rw [m_see hm] at Fi
    simp only [List.cons_append, List.nil_append] at Ni
    walk_at "GO"
    rename_i R _ lR h3 F3 N3
    (revert lR; refine cand3 ?_; rintro lR1 lR2 lR3)
    have oR : Gi.get? R = none := off_of Si (N3 (R, listOf #[] 0) (by k_mem)).2.2 (allLt_ne lR3)
    have hbnd : ∀ x ∈ pair, 0 ≤ x ∧ x < 8 := by
      have : pair ∈ [[f0, f1], [f2, f3]] := List.mem_of_getElem? hpair
      simp only [List.mem_cons, List.not_mem_nil, or_false] at this
      rcases this with rfl | rfl <;> (intro x hx; simp only [List.mem_cons, List.not_mem_nil, or_false] at hx; rcases hx with rfl | rfl <;> (first | lia | omega))
    refine for_list (vs := qs) rfl rfl
      (fun j Gj mj nj => Gj = Gi ∧ ∃ vs kr, nj = [(R, listOf vs.toArray kr), (I, oI), (P, listOf ps.toArray kp)] ∧ mj (Str.ofString "parts") = some (.ref P) ∧ mj (Str.ofString "part") = some (.ref R) ∧ IntsAre vs ((pair.take j).map sym) ∧ (∀ x ∈ pair.take j, x ≠ 0))
      (fun Gj mj nj => Gj = Gi ∧ ∃ vs kr, nj = [(R, listOf vs.toArray kr), (I, oI), (P, listOf ps.toArray kp)] ∧ mj (Str.ofString "parts") = some (.ref P) ∧ mj (Str.ofString "part") = some (.ref R) ∧ IntsAre vs (partOf pair))
      (news := [(R, listOf #[] 0), (I, oI), (P, listOf ps.toArray kp)]) hq' Si F3 N3 (Off.cons oR Oi)
      ⟨rfl, [], 0, rfl, rfl, rfl, .nil, fun _ h => by simp at h⟩ ?turn ?hX ?done
    case hX =>
      (rintro Gn mn nn; refine cand2 ?_; rintro rfl; refine cex2 ?_; rintro vs kr; refine cand5 ?_; rintro rfl e1 e2 hv hz)
      rw [hqi.length, List.take_length] at hv hz
      exact ⟨rfl, vs, kr, rfl, e1, e2, by rw [partOf_all hz]; exact hv⟩
    case done =>
      (rintro Gn mn nn h4 tk4; refine cand2 ?_; rintro rfl; refine cex2 ?_; rintro vs kr; refine cand4 ?_; rintro rfl e1 e2 hv _ _ F4 N4 O4 _)
      rw [m_see e1, m_see e2] at F4
      simp only [List.cons_append, List.nil_append] at N4
      have hRI : @Ne Nat R I := Nat.ne_of_gt lR1
      dsimp only
      walk_at "GO"
      rename_i F5 N5
      rw [show ps.toArray.push (Value.ref R) = (ps ++ [Value.ref R]).toArray by simp] at N5
      (refine impApp (freezes [(R, listOf vs.toArray kr)] [(I, oI), (P, listOf (ps ++ [Value.ref R]).toArray (kp + 1))] (news := [(R, listOf vs.toArray kr), (I, oI), (P, listOf (ps ++ [Value.ref R]).toArray (kp + 1))]) Si F5 N5 (fun p => Iff.rfl)) ?_; refine cex1 ?_; rintro G2; refine cand5 ?_; rintro S2 g2 fz2 N6 off2)
      have hRfz : ∀ d, d ≠ R → ∀ p ∈ [(R, listOf vs.toArray kr)], p.1 ≠ d := fun d hd p hp => by rw [List.mem_singleton.mp hp]; exact Ne.symm hd
      refine ⟨_, _, G2, _, [(P, listOf (ps ++ [Value.ref R]).toArray (kp + 1))], rfl, S2, g2, F5, N6, Off.cons (off2 I (hRfz I (Ne.symm hRI)) oI') (Off.cons (off2 P (hRfz P (Nat.ne_of_lt lR2)) oP') Off.nil), rfl, _, _, rfl, rfl, ?_, ?_⟩
      · have := Paired.len hps'
        simp only [List.length_map, List.length_take, List.length_cons, List.length_nil] at this
        have hi : i < 2 := (List.getElem?_eq_some_iff.mp hpair).1
        simp only [List.length_append, List.length_cons, List.length_nil]
        (first | lia | omega)
      · rw [List.take_add_one, hpair, List.map_append]
        exact Paired.append (hps'.mono fun _ _ r => r.mono g2) (.cons ⟨R, vs, rfl, LL.of (fz2 (R, _) (by k_mem)), hv⟩ .nil)
    case turn =>
      (rintro j v Gj mj nj h4 tk4 I2 oI2 Q₂ E₂ _ hv; refine cand2 ?_; rintro rfl; refine cex2 ?_; rintro vs kr; refine cand5 ?_; rintro rfl e1 e2 hvs hz _ _ _ F4 N4 O4 hne2)
      obtain ⟨n, hn, tn, rfl⟩ : ∃ n, pair[j]? = some n ∧ ∃ t, v = .int n t := by (refine impApp (IntsAre.at hqi j v hv) ?_; refine cex2 ?_; rintro n t; refine cand2 ?_; rintro e hn); exact ⟨n, hn, t, e⟩
      obtain ⟨hn0, hn8⟩ := hbnd n (List.mem_of_getElem? hn)
      rw [m_see e1, m_see e2] at F4
      simp only [List.cons_append, List.nil_append] at N4
      have hRI : @Ne Nat R I := Nat.ne_of_gt lR1
      have hRI2 : @Ne Nat R I2 := hne2 (R, _) (.head _)
      have hlv : vs.length ≤ 2 := by
        have := hvs.length
        simp only [List.length_map, List.length_take] at this
        have hp2 : pair.length = 2 := by
          have hm : pair ∈ [[f0, f1], [f2, f3]] := List.mem_of_getElem? hpair
          simp only [List.mem_cons, List.not_mem_nil, or_false] at hm
          rcases hm with rfl | rfl <;> rfl
        (first | lia | omega)
      walk_at "GO"
      · rename_i F5 N5 hz0
        have hn00 : n = 0 := sym_zero hn0 hn8 hz0
        subst hn00
        refine ⟨_, _, Gj, _, [(R, listOf vs.toArray kr), (I, oI), (P, listOf ps.toArray kp)], rfl, Si, StaysIn.refl _, F5, fun p hp => N5 p (.tail _ hp), O4, rfl, rfl, vs, kr, rfl, rfl, rfl, ?_⟩
        rw [partOf_cut hz hn]; exact hvs
      · rename_i tq _ _ _ _ hnz h5 F5 N5
        rw [show ∀ x : Value, vs.toArray.push x = (vs ++ [x]).toArray from fun x => by simp] at N5
        refine ⟨_, _, Gj, _, [(R, listOf (vs ++ [Value.int (sym n) tq]).toArray (kr + 1)), (I, oI), (P, listOf ps.toArray kp)], rfl, Si, StaysIn.refl _, F5, fun p hp => N5 p (.tail _ hp), ?_, rfl, rfl, _, _, rfl, rfl, rfl, ?_, ?_⟩
        · intro p hp
          simp only [List.mem_cons, List.not_mem_nil, or_false] at hp
          rcases hp with rfl | rfl | rfl | rfl
          · exact O4 (I2, oI2) (.head _)
          · exact oR
          · exact oI'
          · exact oP'
        · rw [List.take_add_one, hn, List.map_append]
          exact hvs.append (.cons _ _ .nil)
        · rw [List.take_add_one, hn]
          intro x hx
          rcases List.mem_append.mp hx with hx | hx
          · exact hz x hx
          · simp at hx; subst hx
            rintro rfl
            exact hnz rfl
/-! part Fn3 -/
abbrev Grown (h : Heap) (v : Value) (gr : List (List (List Int))) : Prop := ListsOf Rows h v gr
theorem Grown.mono {h h' : Heap} {v : Value} {gr : List (List (List Int))} (x : Grown h v gr) (k : h.StaysIn h') : Grown h' v gr := ListsOf.mono (R := Rows) (fun _ _ _ _ r k => Rows.mono r k) x k

def isNT (x : Int) : Bool := decide (256 ≤ x)
def placesF (row : List Int) : List Int := ((List.range row.length).filter fun i => isNT (row.getD i 0)).map fun (i : Nat) => (i : Int)
def rowsF (gr : List (List (List Int))) : Nat → List Int → List (List Int)
  | 0, row => [row]
  | n + 1, row => match placesF row with
    | [] => [row]
    | k :: _ => (gr.getD (row.getD k.toNat 0 - 256).toNat []).flatMap fun part => rowsF gr n (row.take k.toNat ++ part ++ row.drop (k.toNat + 1))
def wt (x : Int) : Nat := if x = 256 ∨ x = 257 then 3 else if x = 258 then 1 else 0
def wts (row : List Int) : Nat := (row.map wt).sum

def placesTo (row : List Int) (j : Nat) : List Int := ((List.range j).filter fun i => isNT (row.getD i 0)).map fun (i : Nat) => (i : Int)
theorem placesTo_succ (row : List Int) (j : Nat) : placesTo row (j + 1) = if isNT (row.getD j 0) then placesTo row j ++ [(j : Int)] else placesTo row j := by
  unfold placesTo
  rw [List.range_succ, List.filter_append, List.map_append]
  rw [List.filter_cons, List.filter_nil]
  cases h : isNT (row.getD j 0) <;> simp
theorem placesTo_len (row : List Int) (j : Nat) : (placesTo row j).length ≤ j := by
  unfold placesTo
  rw [List.length_map]
  exact Nat.le_trans (List.length_filter_le _ _) (by simp)

theorem placesTo_mem {row : List Int} {j : Nat} {x : Int} (h : x ∈ placesTo row j) : ∃ i : Nat, i < j ∧ x = (i : Int) ∧ isNT (row.getD i 0) = true := by
  unfold placesTo at h
  (refine impApp (List.mem_map.mp h) ?_; refine cex1 ?_; rintro i; refine cand2 ?_; rintro hi rfl)
  obtain ⟨h1, h2⟩ := List.mem_filter.mp hi
  exact ⟨i, List.mem_range.mp h1, rfl, h2⟩
def GrOk (gr : List (List (List Int))) : Prop := ∀ x : Int, 256 ≤ x → x < 259 → ∃ parts, gr[(x - 256).toNat]? = some parts ∧ parts.length ≤ 2 ∧ ∀ part ∈ parts, wts part < wt x ∧ (∀ y ∈ part, y < 259) ∧ part.length ≤ 2
theorem rowsF_nil {gr : List (List (List Int))} {n : Nat} {row : List Int} (h : placesTo row row.length = []) : rowsF gr n row = [row] := by
  cases n with
  | zero => rfl
  | succ n =>
    unfold rowsF
    rw [show placesF row = [] from h]
theorem rowsF_cons {gr : List (List (List Int))} {n : Nat} {row : List Int} {k : Int} {r : List Int} (h : placesTo row row.length = k :: r) :
    rowsF gr (n + 1) row = (gr.getD (row.getD k.toNat 0 - 256).toNat []).flatMap fun part => rowsF gr n (row.take k.toNat ++ part ++ row.drop (k.toNat + 1)) := by
  conv => lhs; unfold rowsF
  rw [show placesF row = k :: r from h]
theorem wts_append (a b : List Int) : wts (a ++ b) = wts a + wts b := by simp [wts]
theorem wts_split {row : List Int} {k : Nat} {x : Int} (h : row[k]? = some x) : wts row = wts (row.take k) + wt x + wts (row.drop (k + 1)) := by
  obtain ⟨hk, e⟩ := List.getElem?_eq_some_iff.mp h
  conv => lhs; rw [← List.take_append_drop k row, List.drop_eq_getElem_cons hk, e]
  rw [wts_append]
  simp [wts, Nat.add_assoc]
theorem rowsF_len {gr : List (List (List Int))} (hg : GrOk gr) : ∀ (n : Nat) (row : List Int), (∀ x ∈ row, x < 259) → (rowsF gr n row).length ≤ 2 ^ n := by
  intro n
  induction n with
  | zero => intro row _; simp [rowsF]
  | succ n ih =>
    intro row hlt
    cases hp : placesTo row row.length with
    | nil => rw [rowsF_nil hp]; simp; exact Nat.one_le_two_pow
    | cons k r =>
      rw [rowsF_cons hp]
      (refine impApp (placesTo_mem (row := row) (j := row.length) (x := k) (by rw [hp]; exact .head _)) ?_; refine cex1 ?_; rintro i; refine cand3 ?_; rintro hi rfl hnt)
      have hx : row[i]? = some (row[i]) := by simp [hi]
      have hgx : row.getD i 0 = row[i] := by rw [List.getD_eq_getElem?_getD, hx]; rfl
      rw [hgx] at hnt
      (refine impApp (hg row[i] (by simpa [isNT] using hnt) (hlt _ (List.getElem_mem hi))) ?_; refine cex1 ?_; rintro parts; refine cand3 ?_; rintro hparts hl2 hok)
      rw [Int.toNat_natCast, hgx, List.getD_eq_getElem?_getD, hparts]
      simp only [Option.getD_some]
      have : ∀ (ps : List (List Int)), (∀ q ∈ ps, q ∈ parts) → (ps.flatMap fun part => rowsF gr n (row.take i ++ part ++ row.drop (i + 1))).length ≤ ps.length * 2 ^ n := by
        intro ps
        induction ps with
        | nil => intro _; simp
        | cons q qs ihq =>
          intro hq
          have h1 := ih (row.take i ++ q ++ row.drop (i + 1)) (fun y hy => by
            rcases List.mem_append.mp hy with hy | hy
            · rcases List.mem_append.mp hy with hy | hy
              · exact hlt y (List.mem_of_mem_take hy)
              · exact (hok q (hq q (.head _))).2.1 y hy
            · exact hlt y (List.mem_of_mem_drop hy))
          have h2 := ihq fun z hz => hq z (.tail _ hz)
          simp only [List.flatMap_cons, List.length_append, List.length_cons]
          rw [Nat.add_mul, Nat.one_mul]
          (first | lia | omega)
      have h3 := this parts fun _ h => h
      have : parts.length * 2 ^ n ≤ 2 * 2 ^ n := Nat.mul_le_mul_right _ hl2
      rw [Nat.pow_succ]; (first | lia | omega)

def RowsC (w : World) (gr : List (List (List Int))) (n : Nat) : Prop := ∀ (G : Heap) (a : Addr) (vs : List Value) (row : List Int) (gv : Value), GrOk gr → n ≤ 8 → wts row ≤ n → (∀ x ∈ row, x < 259) → row.length + wts row ≤ 8 → LL G a vs → IntsAre vs row → Grown G gv gr →
    Pure w G 99 [.ref a, gv] (n + 3) (4 * n + 100) (fun G' v => Rows G' v (rowsF gr n row))

theorem rows_step (w : World) (gr : List (List (List Int))) (n : Nat) (ih : ∀ k, n = k + 1 → RowsC w gr k) : RowsC w gr n := by
  intro G a vs row gv hok hn8 hw hlt hlen hl hI hgr
  intro p loose mean mg mb A s Q E hh hd hu X T hG k
  obtain ⟨ha, dp, fr, gd, un⟩ := A
  dsimp only at hh hd hu
  subst hh
  have hls : s.heap.IsList a vs.toArray := (hl.mono hG).isList
  walk_at "MINE fill"
  refine wpAny_call ?_
  k_dflt (refine' enter_ownC [(Str.ofString "row", .ref a), (Str.ofString "grown", gv)] ?X ?T ?ho ?hcd ?hr ?hb ?hl ?hnd ?_ ?c2 ?c3 ?c4)
  walk_at "MINE enterC"
  intro L h₁ tk cells E' F N Y hL
  (refine impApp (CellsAre.one Y) ?_; refine cex1 ?_; rintro oc; refine cand2 ?_; rintro rfl dc)
  have S : Gs s.heap G G := Gs.init hG
  have oL1 : G.get? (L + 1) = none := by
    cases e : G.get? (L + 1) with
    | none => rfl
    | some o => exact absurd (Heap.lt_size (hG _ _ e)) (by rw [← hL]; exact Nat.not_lt.mpr (Nat.le_succ L))
  (refine impApp (id hgr) ?_; refine cex2 ?_; rintro g gvs; refine cand3 ?_; rintro rfl hgl hgp)
  change oc.data = .cell (some (.ref a)) at dc
  clear Y
  change Fr s.heap L h₁ (fun y => if y = Str.ofString "grown" then some (.ref g) else none) at F
  replace N : News s.heap L h₁ ((L + 1, oc) :: gl s.heap G) := by rw [gl_self hG]; exact N
  (try dsimp only)
  walk_at "GO"
  rename_i h2 _ t1 u1 v1 hr F N _
  unfold CompIn
  refine src_range (n := row.length) (news := [(L + 1, oc)]) rfl hr (by (first | lia | omega)) S F N ?_
  intro I h3 fp St C0 F3 N3 st3
  have Xc : (Mine.hd.heap_39 w.params).In (less h3 I) := (X.keeps F.keep).keeps st3
  have Tc : Top p loose mean mg mb (less h3 I) := (T.keeps F.keep).keeps st3
  have hlc : (less h3 I).IsList a vs.toArray := stays_list st3 (stays_list F.keep hls)
  have hcc : (less h3 I).IsCell (L + 1) (some (.ref a)) := ⟨oc, st3 _ _ (N (L + 1, oc) (by k_mem)).1, dc⟩
  refine comp1_to (L := L) rfl C0 (fun i Gi rs => Gi = G ∧ i ≤ row.length ∧ IntsAre rs (placesTo row i)) S F3 N3 (Off.cons oL1 Off.nil) ⟨rfl, Nat.zero_le _, .nil⟩ ?len ?turn ?done
  case len =>
    (rintro i G' rs; refine cand3 ?_; rintro rfl hi hrs)
    have := placesTo_len row i
    rw [hrs.length, sizeLine_eq]; (first | lia | omega)
  case turn =>
    (rintro i v C D Gi mi rs kk h4 tk4 oI E₁ hi ⟨tv, rfl⟩; refine cand3 ?_; rintro rfl hi' hrs Si _ F4 N4 O4)
    simp only [List.cons_append, List.nil_append] at N4
    dsimp only at F4 N4 ⊢
    obtain ⟨x, hx⟩ : ∃ x, row[i]? = some x := ⟨row[i], by simp [hi]⟩
    obtain ⟨tx, hvx⟩ := IntsAre.get hI i x hx
    have hgx : row.getD i 0 = x := by rw [List.getD_eq_getElem?_getD, hx]; rfl
    walk_at "GO"
    · rename_i h5 tk5 F5 N5 hnt
      have hnt' : isNT (row.getD i 0) = true := by
        rw [hgx]
        simpa [isNT, hx] using hnt
      refine ⟨_, _, Gi, _, rfl, Si, StaysIn.refl _, F5, N5, O4, rfl, hi, ?_⟩
      rw [placesTo_succ, if_pos hnt']
      exact hrs.append (.cons _ _ .nil)
    · rename_i h5 tk5 F5 N5 hnt
      have hnt' : ¬ isNT (row.getD i 0) = true := by
        rw [hgx]
        simpa [isNT, hx] using hnt
      refine ⟨_, _, Gi, _, rfl, Si, StaysIn.refl _, F5, N5, O4, rfl, hi, ?_⟩
      rw [placesTo_succ, if_neg hnt']
      exact hrs
  case done =>
    (rintro D Gn G1 rs kk h4 tk4; refine cand3 ?_; rintro rfl _ hrs gst1 hD1 _ S1 O1 F4 N4)
    simp only [List.cons_append, List.nil_append] at N4
    dsimp only at F4 N4 ⊢
    walk_at "GO"
    rename_i l2 h5 F5 N5 lt5
    have kG1 := S1.keep (news := [(l2, listOf #[] 0), (L + 1, oc)]) F5 N5
    refine eq_intsK (stays_list kG1 (isList_of hD1)) hrs (isList_of (N5 (l2, listOf #[] 0) (by k_mem)).1) .nil (by walk_at "MINE room") ?_
    walk_at "GO"
    · rename_i hnil l3 h6 F6 N6 lt6
      rw [rowsF_nil (of_decide_eq_true hnil)] at k
      (refine impApp (freezes [(l3, listOf [.ref a].toArray 0)] [(l2, listOf #[] 0), (L + 1, oc)] (news := [(l3, listOf [.ref a].toArray 0), (l2, listOf #[] 0), (L + 1, oc)]) S1 F6 N6 (fun p => Iff.rfl)) ?_; refine cex1 ?_; rintro G2; refine cand5 ?_; rintro S2 g2 fz2 N7 _)
      exact k _ _ _ G2 F6.keep S2.x (S2.keep (news := [(l2, listOf #[] 0), (L + 1, oc)]) F6 N7) ⟨l3, _, rfl, LL.of (fz2 (l3, _) (by k_mem)), .cons ⟨a, vs, rfl, (hl.mono (StaysIn.trans gst1 g2)), hI⟩ .nil⟩
    · rename_i hne
      have hne : placesTo row row.length ≠ [] := of_decide_eq_false hne
      (refine impApp (List.exists_cons_of_ne_nil hne) ?_; refine cex2 ?_; rintro k0 rest hk0)
      (refine impApp (placesTo_mem (row := row) (j := row.length) (x := k0) (by rw [hk0]; exact .head _)) ?_; refine cex1 ?_; rintro i0; refine cand3 ?_; rintro hi0 rfl hnt)
      obtain ⟨t0, hr0⟩ := IntsAre.get hrs 0 (i0 : Int) (by rw [hk0]; rfl)
      obtain ⟨x, hx⟩ : ∃ x, row[i0]? = some x := ⟨row[i0], by simp [hi0]⟩
      have hgx : row.getD i0 0 = x := by rw [List.getD_eq_getElem?_getD, hx]; rfl
      obtain ⟨tx, hvx⟩ := IntsAre.get hI i0 x hx
      have hx256 : 256 ≤ x := by rw [hgx] at hnt; simpa [isNT] using hnt
      have hx259 : x < 259 := hlt x (List.mem_of_getElem? hx)
      (refine impApp (hok x hx256 hx259) ?_; refine cex1 ?_; rintro parts; refine cand3 ?_; rintro hparts hp2 hpok)
      have hlg : s.heap.IsList g gvs.toArray := (hgl.mono hG).isList
      have hDL : LL G1 D rs := LL.of hD1
      have hgi : (x - 256).toNat < gvs.length := by rw [Paired.len hgp]; exact (List.getElem?_eq_some_iff.mp hparts).1
      obtain ⟨pv, hpv⟩ : ∃ pv, gvs[(x - 256).toNat]? = some pv := ⟨_, List.getElem?_eq_getElem hgi⟩
      (refine impApp (Paired.get hgp _ pv hpv) ?_; refine cex1 ?_; rintro parts'; refine cand2 ?_; rintro hparts' hpl)
      rw [hparts] at hparts'; cases hparts'
      (revert hpl; refine cex2 ?_; rintro q qs; refine cand3 ?_; rintro rfl hqL hqp)
      have hgx' : row.getD ((i0 : Nat) : Int).toNat 0 = x := hgx
      have hpv' : gvs[(row.getD ((i0 : Nat) : Int).toNat 0 - 256).toNat]? = some (.ref q) := by rw [hgx']; exact hpv
      walk_at "GO"
      rename_i _ R _ lR h6 F6 N6 _
      (revert lR; refine cand3 ?_; rintro lR1 lR2 lR3)
      have oR : G1.get? R = none := off_of S1 (N6 (R, listOf #[] 0) (by k_mem)).2.2 (allLt_ne lR3)
      have o2 : G1.get? l2 = none := off_of S1 (N6 (l2, listOf #[] 0) (by k_mem)).2.2 (allLt_ne lt5.2)
      have oL1' : G1.get? (L + 1) = none := O1 (L + 1, oc) (.head _)
      -- what is left is needs a fuel that is no nought
      have hwx : 0 < wt x := by unfold wt; split <;> (try split) <;> (first | lia | omega)
      have hsplit := wts_split hx
      obtain ⟨n, rfl⟩ : ∃ n', n = n' + 1 := ⟨n - 1, by (first | lia | omega)⟩
      refine for_list (vs := qs) rfl rfl
        (fun j Gj mj nj => ∃ ps kr, nj = [(R, listOf ps.toArray kr), (l2, listOf #[] 0), (L + 1, oc)] ∧ mj (Str.ofString "rows") = some (.ref R) ∧ mj (Str.ofString "k") = some (.int i0 t0) ∧ mj (Str.ofString "grown") = some (.ref g) ∧ ps.length ≤ 256 * j ∧
          Paired (Ints Gj) ps ((parts.take j).flatMap fun part => rowsF gr n (row.take i0 ++ part ++ row.drop (i0 + 1))))
        (fun Gj mj nj => ∃ ps kr, nj = [(R, listOf ps.toArray kr), (l2, listOf #[] 0), (L + 1, oc)] ∧ mj (Str.ofString "rows") = some (.ref R) ∧
          Paired (Ints Gj) ps (rowsF gr (n + 1) row))
        (news := [(R, listOf #[] 0), (l2, listOf #[] 0), (L + 1, oc)]) (hqL.mono gst1).isList S1 F6 N6 (Off.cons oR (Off.cons o2 (Off.cons oL1' Off.nil)))
        ⟨[], 0, rfl, rfl, rfl, rfl, by simp, .nil⟩ ?turn2 ?hX2 ?done2
      case hX2 =>
        (rintro Gj mj nj; refine cex2 ?_; rintro ps kr; refine cand6 ?_; rintro rfl e1 _ _ _ hps)
        refine ⟨ps, kr, rfl, e1, ?_⟩
        rw [Paired.len hqp, List.take_length] at hps
        rw [rowsF_cons hk0, Int.toNat_natCast, hgx, List.getD_eq_getElem?_getD, hparts]
        exact hps
      case done2 =>
        (rintro Gj mj nj h7 tk7; refine cex2 ?_; rintro ps kr; refine cand3 ?_; rintro rfl e1 hps Sj gj Fj Nj Oj _)
        rw [m_see e1] at Fj
        dsimp only
        walk_at "GO"
        dsimp only
        (refine impApp (freezes [(R, listOf ps.toArray kr)] [(l2, listOf #[] 0), (L + 1, oc)] (news := [(R, listOf ps.toArray kr), (l2, listOf #[] 0), (L + 1, oc)]) Sj Fj Nj (fun p => Iff.rfl)) ?_; refine cex1 ?_; rintro G2; refine cand5 ?_; rintro S2 g2 fz2 N7 _)
        exact k _ _ _ G2 Fj.keep S2.x (S2.keep (news := [(l2, listOf #[] 0), (L + 1, oc)]) Fj N7) ⟨R, ps, rfl, LL.of (fz2 (R, _) (by k_mem)), hps.mono fun _ _ r => r.mono g2⟩
      case turn2 =>
        (rintro j v Gj mj nj h7 tk7 I2 oI2 Q₂ E₂ _ hv; refine cex2 ?_; rintro ps kr; refine cand6 ?_; rintro rfl e1 e2 e3 hpl hps _ Sj gj Fj Nj Oj hne2)
        (refine impApp (Paired.get hqp j v hv) ?_; refine cex1 ?_; rintro part; refine cand2 ?_; rintro hpart; refine cex2 ?_; rintro pa pvs; refine cand3 ?_; rintro rfl hpa hpi)
        rw [m_see e1, m_see e2, m_see e3] at Fj
        simp only [List.cons_append, List.nil_append] at Nj
        dsimp only
        have hpaL : LL Gj pa pvs := hpa.mono (StaysIn.trans gst1 gj)
        have hplen := hpi.length
        have hvlen := hI.length
        have hp2' := (hpok part (List.mem_of_getElem? hpart)).2.2
        have hj2 : j < 2 := Nat.lt_of_lt_of_le (List.getElem?_eq_some_iff.mp hpart).1 hp2
        have hRI2 : @Ne Nat R I2 := hne2 (R, _) (.head _)
        walk_at "GO"
        rename_i D3 _ lD3 D2 _ lD2 D1 _ lD1 D0 h8 F8 N8 lD0
        rw [show ((i0 : Nat) : Int).toNat = i0 from rfl, show (((i0 : Nat) : Int) + 1).toNat = i0 + 1 by (first | lia | omega)] at N8
        obtain ⟨G2, S2, g2, fz2, N9, off2⟩ := freezes [(D0, listOf (vs.take i0 ++ pvs ++ vs.drop (i0 + 1)).toArray 0), (D1, _), (D2, _), (D3, _)] [(I2, oI2), (R, listOf ps.toArray kr), (l2, listOf #[] 0), (L + 1, oc)]
          (news := [(D0, listOf (vs.take i0 ++ pvs ++ vs.drop (i0 + 1)).toArray 0), (D1, _), (D2, _), (D3, _), (I2, oI2), (R, listOf ps.toArray kr), (l2, listOf #[] 0), (L + 1, oc)]) Sj F8 N8 (fun p => Iff.rfl)
        have O2 : Off G2 [(I2, oI2), (R, listOf ps.toArray kr), (l2, listOf #[] 0), (L + 1, oc)] :=
          Off.cons (off2 I2 (by walk_at "MINE offz") (Oj (I2, oI2) (by k_mem))) (Off.cons (off2 R (by walk_at "MINE offz") (Oj (R, _) (by k_mem))) (Off.cons (off2 l2 (by walk_at "MINE offz") (Oj (l2, _) (by k_mem))) (Off.cons (off2 (L + 1) (by walk_at "MINE offz") (Oj (L + 1, oc) (by k_mem))) Off.nil)))
        obtain ⟨hw1, hw2, _⟩ := hpok part (List.mem_of_getElem? hpart)
        have hrow' : wts (row.take i0 ++ part ++ row.drop (i0 + 1)) = wts (row.take i0) + wts part + wts (row.drop (i0 + 1)) := by rw [wts_append, wts_append]
        have hlt' : ∀ y ∈ row.take i0 ++ part ++ row.drop (i0 + 1), y < 259 := fun y hy => by
          rcases List.mem_append.mp hy with hy | hy
          · rcases List.mem_append.mp hy with hy | hy
            · exact hlt y (List.mem_of_mem_take hy)
            · exact hw2 y hy
          · exact hlt y (List.mem_of_mem_drop hy)
        have hrl := rowsF_len hok n _ hlt'
        have hpow : 2 ^ n ≤ 2 ^ 8 := Nat.pow_le_pow_right (by decide) (by (first | lia | omega))
        refine (ih n rfl G2 D0 _ _ (.ref g) hok (by (first | lia | omega)) (by (first | lia | omega)) hlt' (by simp only [List.length_append, List.length_take, List.length_drop]; (first | lia | omega)) (LL.of (fz2 (D0, _) (by k_mem))) (((IntsAre.take hI i0).append hpi).append (IntsAre.drop hI (i0 + 1))) (hgr.mono (StaysIn.trans (StaysIn.trans gst1 gj) g2))).use rfl (by walk_at "MINE room") (by walk_at "MINE room") X T F8 N9 S2 O2 ?_
        rintro v9 h9 tk9 G3 st3 S3 O3 ⟨q2, q2s, rfl, hq2, hq2p⟩ F9 N9
        have hq2l := Paired.len hq2p
        simp only [List.cons_append, List.nil_append] at N9
        have oR3 : G3.get? R = none := O3 (R, _) (by k_mem)
        dsimp only
        walk_at "GO"
        rename_i h10 kr' F10 N10
        refine ⟨_, _, G3, _, [(R, listOf (ps ++ q2s).toArray kr'), (l2, listOf #[] 0), (L + 1, oc)], rfl, S3, StaysIn.trans g2 st3, F10, N10, ?_, rfl, ps ++ q2s, kr', rfl, rfl, rfl, rfl, ?_, ?_⟩
        · exact Off.cons (O3 (I2, oI2) (by k_mem)) (Off.cons oR3 (Off.cons (O3 (l2, _) (by k_mem)) (Off.cons (O3 (L + 1, oc) (by k_mem)) Off.nil)))
        · rw [List.length_append, hq2l]; (first | lia | omega)
        · rw [List.take_add_one, hpart, List.flatMap_append]
          refine Paired.append (hps.mono fun _ _ r => r.mono (StaysIn.trans g2 st3)) ?_
          simpa using hq2p

theorem rows (w : World) (gr : List (List (List Int))) : ∀ n, RowsC w gr n := by
  intro n
  induction n with
  | zero => exact rows_step w gr 0 fun k h => absurd h (by (first | lia | omega))
  | succ n ih => exact rows_step w gr (n + 1) fun k h => by cases h; exact ih
/-! part Fn4 -/
def cross (ws ch : List (List Str)) : List (List Str) := ws.flatMap fun front => ch.map fun e => front ++ e

section
variable {w : World} {A : Around} {s : Shared} {cenv env : Env} {B G₀ G : Heap} {L : Addr} {m : Str → Option Value} {news : List (Addr × Obj)} {E : Value → Shared → Prop}
theorem cross_snoc (ws ch : List (List Str)) (i : Nat) (x : List Str) (h : ws[i]? = some x) : cross (ws.take (i + 1)) ch = cross (ws.take i) ch ++ ch.map fun e => x ++ e := by
  unfold cross
  rw [List.take_add_one, h, List.flatMap_append]
  simp

/-- [x + y for x in ws for y in ch], ch a name of a cell -/
theorem comp_cross {fx ex cx y : Str} {p1 p2 p3 p4 p5 p6 pos py : Pos} {i0 : Expr} {scope : Scope} {cl : List (Str × Addr)} {W c cc : Addr} {vs us : List Value} {ws chs : List (List Str)} {Q : Value → Shared → Prop}
    (hh : A.handled = none) (hL : env.locals = L)
    (hWL : LL G W vs) (hWp : Paired (Strs G) vs ws) (hcL : LL G c us) (hcp : Paired (Strs G) us chs)
    (hcc : s.heap.IsCell cc (some (.ref c))) (hcl : cl.lookup cx = some cc)
    (hws : ws.length ≤ 100) (hchs : chs.length ≤ 100) (hwr : ∀ r ∈ ws, r.length ≤ 100) (hcr : ∀ r ∈ chs, r.length ≤ 100)
    (S : Gs B G₀ G) (F : Fr B L s.heap m) (N : News B L s.heap (news ++ gl B G)) (O : Off G news)
    (hkf : ∀ C, (compEnvC scope cl C env).kindOf fx = some .local) (hke : ∀ C, (compEnvC scope cl C env).kindOf ex = some .local) (hkc : ∀ C, (compEnvC scope cl C env).kindOf cx = some .cell)
    (hfe : fx ≠ ex) (hdf : (fx == ("__debug__" : Str)) = false) (hde : (ex == ("__debug__" : Str)) = false) (hdc : (cx == ("__debug__" : Str)) = false)
    (done : ∀ D G' rs h tk, G.StaysIn G' → Gs B G₀ G' → Off G' news → LL G' D rs → Paired (Strs G') rs (cross ws chs) → Fr B L h (fun z => if z = y then some (.ref D) else m z) → News B L h (news ++ gl B G') → Q .none { s with heap := h, toks := tk })
    (hy : env.kindOf y = some .local) (hp : (env.scope.kind == .class || (env.scope.kind == .module && env.locals != env.globals)) = false) (hcell : ∀ y ∈ scope.names, y.2 ≠ .cell) (hkind : scope.kind = .function) :
    CompIn w A env scope cl (.ListComp (.BinOp (.Name fx p1) .Add (.Name ex p2) p3) [⟨.Name fx p4, i0, [], 0⟩, ⟨.Name ex p5, .Name cx p6, [], 0⟩] scope pos) (some (assign (.Name y py) env)) Q E (.ref W) s := by
  unfold CompIn
  refine src_list hh hWL.isList S F N ?_
  intro I h3 fp St C0 F3 N3 st3
  have hkk : ∀ C, (compEnvC scope cl C env).scope.kind = .function := fun C => by simp [compEnvC, relabel, hkind]
  have hcb : (less h3 I).IsCell cc (some (.ref c)) := hcc.keeps st3
  refine comp2_to (L := L) hL C0 (fun i Gi rs => i ≤ ws.length ∧ Paired (Strs Gi) rs (cross (ws.take i) chs)) S F3 N3 O ⟨Nat.zero_le _, .nil⟩ ?turn ?done hy hp (fun _ _ => rfl) hcell hkind
  case done =>
    rintro D Gn G' rs kk h tk ⟨_, hrs⟩ gst hD gst' S' O' F' N'
    refine done D G' rs h tk gst' S' O' (LL.of hD) ?_ F' N'
    rw [Paired.len hWp, List.take_length] at hrs
    exact hrs.mono fun _ _ r => r.mono gst
  case turn =>
    rintro i v C D Gi mi rs kk h4 tk4 oI E₁ hi hv ⟨hiw, hrs⟩ Si Gsti F4 N4 O4 hDI
    (refine impApp (Paired.get hWp i v hv) ?_; refine cex1 ?_; rintro x; refine cand2 ?_; rintro hx; refine cex2 ?_; rintro fa fvs; refine cand3 ?_; rintro rfl hfa hfi)
    refine wpAny_assign_Name (storeE_L (L := C) rfl F4 N4 (fun h5 F5 N5 => ?_) (hkk C) (hkf C))
    refine nameE_C F5 hcb hcl ?_ (hkk C) (hkc C) hdc
    dsimp only
    refine src_list hh (hcL.mono Gsti).isList Si F5 N5 ?_
    intro I2 h6 fp2 St2 C1 F6 N6 st6
    have hxl : x.length ≤ 100 := hwr x (List.mem_of_getElem? hx)
    refine comp2_in (rs₀ := rs) (k₀ := kk) C1 (fun j Gj rs' => j ≤ chs.length ∧ Gi.StaysIn Gj ∧ Paired (Strs Gj) rs' (cross (ws.take i) chs ++ (chs.take j).map fun e => x ++ e)) (fun m => m fx = some (.ref fa)) hDI Si F6 N6 O4 ⟨Nat.zero_le _, StaysIn.refl _, by simpa using hrs⟩ (by simp) ?len ?turn2 ?done2
    case len =>
      (rintro j G' rs'; refine cand3 ?_; rintro hj _ hr')
      rw [Paired.len hr', sizeLine_eq]
      have : (cross (ws.take i) chs).length ≤ 10000 := by
        unfold cross
        have : ∀ l : List (List Str), (l.flatMap fun front => chs.map fun e => front ++ e).length = l.length * chs.length := by
          intro l
          induction l with
          | nil => simp
          | cons a r ih => simp only [List.flatMap_cons, List.length_append, List.length_map, ih, List.length_cons]; rw [Nat.add_mul]; (first | lia | omega)
        rw [this]
        have h1 : (ws.take i).length ≤ 100 := by rw [List.length_take]; (first | lia | omega)
        calc (ws.take i).length * chs.length ≤ 100 * 100 := Nat.mul_le_mul h1 hchs
          _ = 10000 := rfl
      simp only [List.length_append, List.length_map, List.length_take]
      (first | lia | omega)
    case turn2 =>
      (rintro j u Gj mj rs' k' h7 tk7 oI2 E₂ hj hu hMj; refine cand3 ?_; rintro hjc gij hr' Sj Gstj F7 N7 O7)
      (refine impApp (Paired.get hcp j u hu) ?_; refine cex1 ?_; rintro e; refine cand2 ?_; rintro he; refine cex2 ?_; rintro ea evs; refine cand3 ?_; rintro rfl hea hei)
      have hel : e.length ≤ 100 := hcr e (List.mem_of_getElem? he)
      have hjc' : j < chs.length := (List.getElem?_eq_some_iff.mp he).1
      refine wpAny_assign_Name (storeE_L (L := C) rfl F7 N7 (fun h8 F8 N8 => ?_) (hkk C) (hke C))
      have kj := Sj.keep F8 N8
      refine wpAny_BinOp (nameE_L (L := C) rfl F8 (v := .ref fa) (by show (if fx = ex then _ else mj fx) = _; rw [if_neg hfe]; exact hMj) (nameE_L (L := C) rfl F8 (v := .ref ea) (by simp) ?_ (hkk C) (hke C) hde) (hkk C) (hkf C) hdf)
      refine add_G F8 N8 ((hfa.mono (StaysIn.trans (StaysIn.trans Gsti gij) kj)).isList) ((hea.mono (StaysIn.trans (StaysIn.trans Gsti gij) kj)).isList) (by rw [hfi.length, hei.length, sizeLine_eq]; (first | lia | omega)) ?_
      intro D9 h9 F9 N9 lt9
      (refine impApp (freezes [(D9, listOf (fvs ++ evs).toArray 0)] [(I2, oI2), (I, oI), (D, listOf rs'.toArray k')] (news := [(D9, listOf (fvs ++ evs).toArray 0), (I2, oI2), (I, oI), (D, listOf rs'.toArray k')]) Sj F9 N9 (fun p => Iff.rfl)) ?_; refine cex1 ?_; rintro G9; refine cand5 ?_; rintro S9 g9 fz9 N10 off9)
      have ho : ∀ p ∈ [(I2, oI2), (I, oI), (D, listOf rs'.toArray k')], G9.get? p.1 = none := fun p hp =>
        off9 p.1 (fun q hq => by rw [List.mem_singleton.mp hq]; exact Nat.ne_of_gt (lt9 p (List.mem_append_left _ hp))) (O7 p hp)
      refine ⟨h9, _, G9, _, rfl, S9, g9, F9, N10, ho, (by show (if fx = ex then _ else mj fx) = _; rw [if_neg hfe]; exact hMj), hjc', StaysIn.trans gij g9, ?_⟩
      rw [List.take_add_one, he, List.map_append, ← List.append_assoc]
      exact Paired.append (hr'.mono fun _ _ r => r.mono g9) (.cons ⟨D9, _, rfl, LL.of (fz9 (D9, _) (.head _)), StrsAre.append' hfi hei⟩ .nil)
    case done2 =>
      (rintro Gn mn rs' k' h7 tk7; refine cand3 ?_; rintro _ gin hr' Sn Gstn F7 N7 O7)
      refine ⟨h7, tk7, Gn, mn, rs', k', rfl, Sn, gin, F7, N7, O7, (List.getElem?_eq_some_iff.mp hx).1, ?_⟩
      rw [cross_snoc ws chs i x hx]
      rw [Paired.len hcp, List.take_length] at hr'
      exact hr'
end
/-! part Fn5 -/
def choiceF (ch : List (List Str)) (f : Int) : List (List Str) := if f = 7 then ch else [[pieceOf f]]
def wholeF (ch : List (List Str)) (l : List Int) : List (List Str) := l.foldl (fun ws f => cross ws (choiceF ch f)) [[]]
def wholeOf (ch : List (List Str)) (pair : List Int) : List (List Str) := wholeF ch (pair.takeWhile (fun x => decide (x ≠ 0)))
def toldF : Nat → List Int → List Int → List (List Str)
  | 0, figs, _ => wholeOf [] (figs.take 2) ++ wholeOf [] (figs.drop 2)
  | n + 1, figs, gs => wholeOf (toldF n gs []) (figs.take 2) ++ wholeOf (toldF n gs []) (figs.drop 2)
def chF (lev : Nat) (gs : List Int) : List (List Str) := match lev with | 0 => [] | n + 1 => toldF n gs []
theorem toldF_eq (lev : Nat) (figs gs : List Int) : toldF lev figs gs = wholeOf (chF lev gs) (figs.take 2) ++ wholeOf (chF lev gs) (figs.drop 2) := by
  cases lev <;> rfl

theorem takeWhile_all {l : List Int} (h : ∀ x ∈ l, x ≠ 0) : l.takeWhile (fun x => decide (x ≠ 0)) = l := by
  induction l with
  | nil => rfl
  | cons x r ih =>
    rw [List.takeWhile_cons]
    simp only [h x (.head _), ne_eq, not_false_eq_true, decide_true, if_true]
    rw [ih fun y hy => h y (.tail _ hy)]
theorem takeWhile_cut {l : List Int} {j : Nat} (h : ∀ x ∈ l.take j, x ≠ 0) (h0 : l[j]? = some 0) : l.takeWhile (fun x => decide (x ≠ 0)) = l.take j := by
  induction l generalizing j with
  | nil => simp at h0
  | cons x r ih =>
    cases j with
    | zero => simp at h0; subst h0; simp [List.takeWhile_cons]
    | succ j =>
      rw [List.takeWhile_cons]
      simp only [h x (by simp), ne_eq, not_false_eq_true, decide_true, if_true, List.take_succ_cons]
      rw [ih (j := j) (fun y hy => h y (by simp [hy])) (by simpa using h0)]
theorem cross_len (ws ch : List (List Str)) : (cross ws ch).length = ws.length * ch.length := by
  unfold cross
  induction ws with
  | nil => simp
  | cons a r ih => simp only [List.flatMap_cons, List.length_append, List.length_map, ih, List.length_cons]; rw [Nat.add_mul]; (first | lia | omega)
theorem cross_rows {ws ch : List (List Str)} {a b : Nat} (h1 : ∀ r ∈ ws, r.length ≤ a) (h2 : ∀ r ∈ ch, r.length ≤ b) : ∀ r ∈ cross ws ch, r.length ≤ a + b := by
  intro r hr
  unfold cross at hr
  (refine impApp (List.mem_flatMap.mp hr) ?_; refine cex1 ?_; rintro x; refine cand2 ?_; rintro hx hr)
  (refine impApp (List.mem_map.mp hr) ?_; refine cex1 ?_; rintro e; refine cand2 ?_; rintro he rfl)
  rw [List.length_append]
  exact Nat.add_le_add (h1 x hx) (h2 e he)
theorem wholeF_snoc (ch : List (List Str)) (l : List Int) (f : Int) : wholeF ch (l ++ [f]) = cross (wholeF ch l) (choiceF ch f) := by
  unfold wholeF; rw [List.foldl_append]; rfl
theorem choiceF_len {ch : List (List Str)} {c : Nat} (h : ch.length ≤ c) (hc : 1 ≤ c) (f : Int) : (choiceF ch f).length ≤ c := by
  unfold choiceF; split
  · exact h
  · exact hc
theorem choiceF_rows {ch : List (List Str)} {d : Nat} (h : ∀ r ∈ ch, r.length ≤ d) (hd : 1 ≤ d) (f : Int) : ∀ r ∈ choiceF ch f, r.length ≤ d := by
  unfold choiceF; split
  · exact h
  · intro r hr; rw [List.mem_singleton.mp hr]; exact hd
theorem wholeF_take {ch : List (List Str)} {c d : Nat} (h : ch.length ≤ c) (hc : 1 ≤ c) (h' : ∀ r ∈ ch, r.length ≤ d) (hd : 1 ≤ d) (l : List Int) :
    ∀ j, (wholeF ch (l.take j)).length ≤ c ^ j ∧ ∀ r ∈ wholeF ch (l.take j), r.length ≤ d * j := by
  intro j
  induction j with
  | zero => exact ⟨by simp [wholeF], by simp [wholeF]⟩
  | succ j ih =>
    cases hl : l[j]? with
    | none =>
      rw [List.take_add_one, hl]
      simp only [Option.toList_none, List.append_nil]
      exact ⟨Nat.le_trans ih.1 (Nat.pow_le_pow_right hc (Nat.le_succ j)), fun r hr => Nat.le_trans (ih.2 r hr) (Nat.mul_le_mul_left d (Nat.le_succ j))⟩
    | some f =>
      rw [List.take_add_one, hl]
      simp only [Option.toList_some]
      rw [wholeF_snoc]
      refine ⟨?_, ?_⟩
      · rw [cross_len, Nat.pow_succ]
        exact Nat.mul_le_mul ih.1 (choiceF_len h hc f)
      · rw [Nat.mul_succ]
        exact cross_rows ih.2 (choiceF_rows h' hd f)

theorem takeWhile_take (p : Int → Bool) (l : List Int) : l.takeWhile p = l.take (l.takeWhile p).length := by
  induction l with
  | nil => rfl
  | cons x r ih =>
    rw [List.takeWhile_cons]
    split
    · rw [List.length_cons, List.take_succ_cons, ← ih]
    · rfl
theorem wholeOf_bound {ch : List (List Str)} (h : ch.length ≤ 2) (h' : ∀ r ∈ ch, r.length ≤ 2) {pair : List Int} (hp : pair.length ≤ 2) : (wholeOf ch pair).length ≤ 4 ∧ ∀ r ∈ wholeOf ch pair, r.length ≤ 4 := by
  unfold wholeOf
  rw [takeWhile_take]
  have hj : (pair.takeWhile fun x => decide (x ≠ 0)).length ≤ 2 := Nat.le_trans (by
    have : ∀ l : List Int, (l.takeWhile fun x => decide (x ≠ 0)).length ≤ l.length := by
      intro l
      induction l with
      | nil => simp
      | cons x r ih => rw [List.takeWhile_cons]; split <;> simp <;> simpa using ih
    exact this pair) hp
  obtain ⟨h1, h2⟩ := wholeF_take h (by decide) h' (by decide) pair (pair.takeWhile fun x => decide (x ≠ 0)).length
  refine ⟨Nat.le_trans h1 (Nat.le_trans (Nat.pow_le_pow_right (by decide) hj) (by decide)), fun r hr => Nat.le_trans (h2 r hr) (by (first | lia | omega))⟩

def ToldC (w : World) (lev : Nat) : Prop := ∀ (G : Heap) (a : Addr) (vs : List Value) (f0 f1 f2 f3 : Int) (sv : Value) (gs : List Int), LL G a vs → IntsAre vs [f0, f1, f2, f3] →
    (0 ≤ f0 ∧ f0 < 8) → (0 ≤ f1 ∧ f1 < 8) → (0 ≤ f2 ∧ f2 < 8) → (0 ≤ f3 ∧ f3 < 8) → (lev = 0 → f0 ≠ 7 ∧ f1 ≠ 7 ∧ f2 ≠ 7 ∧ f3 ≠ 7) →
    (lev = 1 → ∃ b us g0 g1 g2 g3, sv = .ref b ∧ LL G b us ∧ IntsAre us [g0, g1, g2, g3] ∧ gs = [g0, g1, g2, g3] ∧ (0 ≤ g0 ∧ g0 < 7) ∧ (0 ≤ g1 ∧ g1 < 7) ∧ (0 ≤ g2 ∧ g2 < 7) ∧ (0 ≤ g3 ∧ g3 < 7)) →
    Pure w G 116 [.ref a, sv] (lev + 3) (10 * lev + 100) (fun G' v => SRows G' v (toldF lev [f0, f1, f2, f3] gs))

theorem told_step (w : World) (lev : Nat) (hlev : lev ≤ 1) (ih : lev = 1 → ToldC w 0) (hc2 : ∀ gs, (lev = 1 → gs.length = 4) → (chF lev gs).length ≤ 2 ∧ ∀ r ∈ chF lev gs, r.length ≤ 2) : ToldC w lev := by
  intro G a vs f0 f1 f2 f3 sv gs hl hI h0 h1 h2 h3 hl0 hl1
  intro p loose mean mg mb A s Q E hh hd hu X T hG k
  obtain ⟨ha, dp, fr, gd, un⟩ := A
  dsimp only at hh hd hu
  subst hh
  have hls : s.heap.IsList a vs.toArray := (hl.mono hG).isList
  have hvl := hI.length
  simp only [List.length_cons, List.length_nil] at hvl
  walk_at "MINE fill"
  refine wpAny_call ?_
  k_dflt (refine' enter_ownC [(Str.ofString "figures", .ref a), (Str.ofString "shared", sv)] ?X ?T ?ho ?hcd ?hr ?hb ?hl ?hnd ?_ ?c2 ?c3 ?c4)
  walk_at "MINE enterC"
  intro L h₁ tk cells E' F N Y hL
  (refine impApp (CellsAre.one Y) ?_; refine cex1 ?_; rintro oc; refine cand2 ?_; rintro rfl dc)
  have S : Gs s.heap G G := Gs.init hG
  have oL1 : G.get? (L + 1) = none := by
    cases e : G.get? (L + 1) with
    | none => rfl
    | some o => exact absurd (Heap.lt_size (hG _ _ e)) (by rw [← hL]; exact Nat.not_lt.mpr (Nat.le_succ L))
  change oc.data = .cell none at dc
  clear Y
  change Fr s.heap L h₁ (fun y => if y = Str.ofString "shared" then some sv else if y = Str.ofString "figures" then some (.ref a) else none) at F
  replace N : News s.heap L h₁ ((L + 1, oc) :: gl s.heap G) := by rw [gl_self hG]; exact N
  (try dsimp only)
  walk_at "GO"
  rename_i R _ lR _ D2 _ lD2 D1 _ lD1 D0 hp F N lD0
  have oR : G.get? R = none := off_of S (N (R, listOf #[] 0) (by k_mem)).2.2 (allLt_ne lR.2)
  (refine impApp (freezes [(D0, _), (D1, _), (D2, _)] [(R, listOf #[] 0), (L + 1, oc)] (news := [(D0, _), (D1, _), (D2, _), (R, listOf #[] 0), (L + 1, oc)]) S F N (fun p => Iff.rfl)) ?_; refine cex1 ?_; rintro G1; refine cand5 ?_; rintro S1 g1 fz N1 off1)
  have O1 : Off G1 [(R, listOf #[] 0), (L + 1, oc)] := Off.cons (off1 R (by walk_at "MINE offz") oR) (Off.cons (off1 (L + 1) (by walk_at "MINE offz") oL1) Off.nil)
  have hT0 : IsTup G1 D0 #[.ref D2, .ref D1] := ⟨_, fz _ (by k_mem), rfl, _, rfl⟩
  have hD1 : Ints G1 (.ref D1) [f2, f3] := ⟨D1, _, rfl, LL.of (fz (D1, _) (by k_mem)), IntsAre.drop hI 2⟩
  have hD2 : Ints G1 (.ref D2) [f0, f1] := ⟨D2, _, rfl, LL.of (fz (D2, _) (by k_mem)), IntsAre.take hI 2⟩
  have hps : Paired (Ints G1) [.ref D2, .ref D1] [[f0, f1], [f2, f3]] := .cons hD2 (.cons hD1 .nil)
  obtain ⟨hch1, hch2⟩ := hc2 gs fun h => by (refine impApp (hl1 h) ?_; refine cex6 ?_; rintro _ _ _ _ _ _; refine cand5 ?_; rintro _ _ _ hgs _); rw [hgs]; rfl
  refine for_tup (L := L) (vs := [.ref D2, .ref D1]) rfl rfl
    (fun i Gi mi ni => ∃ ps kr oc' cv, ni = [(R, listOf ps.toArray kr), (L + 1, oc')] ∧ oc'.data = .cell cv ∧ mi (Str.ofString "rows") = some (.ref R) ∧ mi (Str.ofString "shared") = some sv ∧ ps.length ≤ 4 * i ∧ Paired (Strs Gi) ps (([[f0, f1], [f2, f3]].take i).flatMap (wholeOf (chF lev gs))))
    (fun Gi mi ni => ∃ ps kr oc', ni = [(R, listOf ps.toArray kr), (L + 1, oc')] ∧ mi (Str.ofString "rows") = some (.ref R) ∧ Paired (Strs Gi) ps (toldF lev [f0, f1, f2, f3] gs))
    (news := [(R, listOf #[] 0), (L + 1, oc)]) hT0 S1 F N1 O1
    ⟨[], 0, oc, none, rfl, dc, rfl, rfl, by simp, .nil⟩ ?turn ?hX ?done
  case hX =>
    (rintro Gn mn nn; refine cex4 ?_; rintro ps kr oc' cv; refine cand6 ?_; rintro rfl _ e1 _ _ hps)
    refine ⟨ps, kr, oc', rfl, e1, ?_⟩
    rw [toldF_eq]
    simpa using hps
  case done =>
    (rintro Gn mn nn h tk; refine cex3 ?_; rintro ps kr oc'; refine cand3 ?_; rintro rfl e1 hps Sn Gst Fn Nn On _)
    rw [m_see e1] at Fn
    dsimp only
    walk_at "GO"
    dsimp only
    (refine impApp (freezes [(R, listOf ps.toArray kr)] [(L + 1, oc')] (news := [(R, listOf ps.toArray kr), (L + 1, oc')]) Sn Fn Nn (fun p => Iff.rfl)) ?_; refine cex1 ?_; rintro G2; refine cand5 ?_; rintro S2 g2 fz2 N2 _)
    exact k _ _ _ G2 Fn.keep S2.x (S2.keep (news := [(L + 1, oc')]) Fn N2) ⟨R, ps, rfl, LL.of (fz2 (R, _) (by k_mem)), hps.mono fun _ _ r => r.mono g2⟩
  case turn =>
    (rintro i v Gi mi ni h tk I oI Q₁ E₁ _ hv; refine cex4 ?_; rintro ps kr oc' cv; refine cand6 ?_; rintro rfl dc' e1 e2 hpl hpp _ Si Gst Fi Ni Oi hne)
    (refine impApp (Paired.get hps i v hv) ?_; refine cex1 ?_; rintro pair; refine cand2 ?_; rintro hpair; refine cex2 ?_; rintro q qs; refine cand3 ?_; rintro rfl hq hqi)
    have hqL := hq.mono Gst
    have hi2 : i < 2 := (List.getElem?_eq_some_iff.mp hpair).1
    have hRI : @Ne Nat R I := hne (R, _) (.head _)
    have hLI : @Ne Nat (L + 1) I := hne (L + 1, _) (.tail _ (.head _))
    have hbnd : ∀ x ∈ pair, 0 ≤ x ∧ x < 8 ∧ (lev = 0 → x ≠ 7) := by
      have : pair ∈ [[f0, f1], [f2, f3]] := List.mem_of_getElem? hpair
      simp only [List.mem_cons, List.not_mem_nil, or_false] at this
      rcases this with rfl | rfl <;> (intro x hx; simp only [List.mem_cons, List.not_mem_nil, or_false] at hx; rcases hx with rfl | rfl <;> (refine ⟨by (first | lia | omega), by (first | lia | omega), fun hz => ?_⟩; have := hl0 hz; (first | lia | omega)))
    have hp2 : pair.length = 2 := by
      have hm : pair ∈ [[f0, f1], [f2, f3]] := List.mem_of_getElem? hpair
      simp only [List.mem_cons, List.not_mem_nil, or_false] at hm
      rcases hm with rfl | rfl <;> rfl
    rw [m_see e1, m_see e2] at Fi
    simp only [List.cons_append, List.nil_append] at Ni
    dsimp only
    walk_at "GO"
    rename_i a3 _ l3 a4 _ l4 h5 F5 N5
    (refine impApp (freezes [(a4, listOf [.ref a3].toArray 0), (a3, listOf [].toArray 0)] [(I, oI), (R, listOf ps.toArray kr), (L + 1, oc')] (news := [(a4, listOf [.ref a3].toArray 0), (a3, listOf [].toArray 0), (I, oI), (R, listOf ps.toArray kr), (L + 1, oc')]) Si F5 N5 (fun p => Iff.rfl)) ?_; refine cex1 ?_; rintro G2; refine cand5 ?_; rintro S2 g2 fz2 N6 off2)
    have O2 : Off G2 [(I, oI), (R, listOf ps.toArray kr), (L + 1, oc')] := Off.cons (off2 I (by walk_at "MINE offz") (Oi (I, oI) (by k_mem))) (Off.cons (off2 R (by walk_at "MINE offz") (Oi (R, _) (by k_mem))) (Off.cons (off2 (L + 1) (by walk_at "MINE offz") (Oi (L + 1, _) (by k_mem))) Off.nil))
    have hW0 : SRows G2 (.ref a4) (wholeF (chF lev gs) (pair.take 0)) := ⟨a4, _, rfl, LL.of (fz2 (a4, _) (by k_mem)), .cons ⟨a3, _, rfl, LL.of (fz2 (a3, _) (by k_mem)), .nil⟩ .nil⟩
    refine for_list (L := L) (vs := qs) rfl rfl
      (fun j Gj mj nj => ∃ oc2 cv2 wv, nj = [(I, oI), (R, listOf ps.toArray kr), (L + 1, oc2)] ∧ oc2.data = .cell cv2 ∧ mj (Str.ofString "rows") = some (.ref R) ∧ mj (Str.ofString "shared") = some sv ∧ mj (Str.ofString "whole") = some wv ∧ SRows Gj wv (wholeF (chF lev gs) (pair.take j)) ∧ (∀ x ∈ pair.take j, x ≠ 0))
      (fun Gj mj nj => ∃ oc2 cv2 wv, nj = [(I, oI), (R, listOf ps.toArray kr), (L + 1, oc2)] ∧ oc2.data = .cell cv2 ∧ mj (Str.ofString "rows") = some (.ref R) ∧ mj (Str.ofString "shared") = some sv ∧ mj (Str.ofString "whole") = some wv ∧ SRows Gj wv (wholeOf (chF lev gs) pair))
      (news := [(I, oI), (R, listOf ps.toArray kr), (L + 1, oc')]) (hqL.mono g2).isList S2 F5 N6 O2
      ⟨oc', cv, .ref a4, rfl, dc', rfl, rfl, rfl, hW0, fun _ h => by simp at h⟩ ?turn ?hX ?done
    case hX =>
      (rintro Gn mn nn; refine cex3 ?_; rintro oc2 cv2 wv; refine cand7 ?_; rintro rfl d2 e1 e2 e3 hW hz)
      rw [hqi.length, List.take_length] at hW hz
      exact ⟨oc2, cv2, wv, rfl, d2, e1, e2, e3, by unfold wholeOf; rw [takeWhile_all hz]; exact hW⟩
    case done =>
      (rintro Gn mn nn h6 tk6; refine cex3 ?_; rintro oc2 cv2 wv; refine cand6 ?_; rintro rfl d2 e1 e2 e3; refine cex2 ?_; rintro W wvs; refine cand3 ?_; rintro rfl hWL hWp Sn gn Fn Nn On _)
      rw [m_see e1, m_see e2, m_see e3] at Fn
      simp only [List.cons_append, List.nil_append] at Nn
      have oRn : Gn.get? R = none := On (R, _) (by k_mem)
      have hwl := Paired.len hWp
      have hwb : (wholeOf (chF lev gs) pair).length ≤ 4 := (wholeOf_bound hch1 hch2 (by (first | lia | omega))).1
      dsimp only
      walk_at "GO"
      rename_i h7 kr' F7 N7
      refine ⟨_, _, Gn, _, [(R, listOf (ps ++ wvs).toArray kr'), (L + 1, oc2)], rfl, Sn, StaysIn.trans g2 gn, F7, N7, ?_, rfl, ps ++ wvs, kr', oc2, cv2, rfl, d2, rfl, rfl, ?_, ?_⟩
      · exact Off.cons (On (I, oI) (by k_mem)) (Off.cons oRn (Off.cons (On (L + 1, oc2) (by k_mem)) Off.nil))
      · rw [List.length_append]; (first | lia | omega)
      · rw [List.take_add_one, hpair, List.flatMap_append]
        refine Paired.append (hpp.mono fun _ _ r => r.mono (StaysIn.trans g2 gn)) ?_
        simpa using hWp
    case turn =>
      (rintro j v Gj mj nj h6 tk6 I2 oI2 Q₂ E₂ _ hv; refine cex3 ?_; rintro oc2 cv2 wv; refine cand7 ?_; rintro rfl d2 e1 e2 e3 hW hz _ Sj gj F6 N6 O6 hne2)
      (revert hW; refine cex2 ?_; rintro W wvs; refine cand3 ?_; rintro rfl hWL hWp)
      obtain ⟨n, hn, tn, rfl⟩ : ∃ n, pair[j]? = some n ∧ ∃ t, v = .int n t := by (refine impApp (IntsAre.at hqi j v hv) ?_; refine cex2 ?_; rintro n t; refine cand2 ?_; rintro e hn); exact ⟨n, hn, t, e⟩
      (refine impApp (hbnd n (List.mem_of_getElem? hn)) ?_; refine cand3 ?_; rintro hn0 hn8 hn7)
      rw [m_see e1, m_see e2, m_see e3] at F6
      simp only [List.cons_append, List.nil_append] at N6
      have hLI2 : @Ne Nat (L + 1) I2 := hne2 (L + 1, _) (by k_mem)
      have oLj : Gj.get? (L + 1) = none := O6 (L + 1, _) (by k_mem)
      dsimp only
      walk_at "GO"
      · rename_i h8 F8 N8 _ hn00
        subst hn00
        refine ⟨_, _, Gj, _, [(I, oI), (R, listOf ps.toArray kr), (L + 1, oc2)], rfl, Sj, StaysIn.refl _, F8, N8, O6, rfl, oc2, cv2, .ref W, rfl, d2, rfl, rfl, rfl, ⟨W, wvs, rfl, hWL, ?_⟩⟩
        unfold wholeOf
        rw [takeWhile_cut hz hn]
        exact hWp
      · rename_i hnz n7 l8 h8 F8 N8 lt8
        have hzn : ∀ x ∈ pair.take (j + 1), x ≠ 0 := by
          rw [List.take_add_one, hn]
          intro x hx
          rcases List.mem_append.mp hx with hx | hx
          · exact hz x hx
          · simp at hx; subst hx; exact hnz
        have hjb := wholeF_take hch1 (by decide) hch2 (by decide) pair j
        have hj2 : j < 2 := by rw [← hp2]; exact (List.getElem?_eq_some_iff.mp hn).1
        have hwl1 : (wholeF (chF lev gs) (pair.take j)).length ≤ 100 := Nat.le_trans hjb.1 (Nat.le_trans (Nat.pow_le_pow_right (by decide) (Nat.le_of_lt hj2)) (by decide))
        have hwr1 : ∀ r ∈ wholeF (chF lev gs) (pair.take j), r.length ≤ 100 := fun r hr => Nat.le_trans (hjb.2 r hr) (by (first | lia | omega))
        have hcl1 : (choiceF (chF lev gs) n).length ≤ 100 := Nat.le_trans (choiceF_len hch1 (by decide) n) (by decide)
        have hcr1 : ∀ r ∈ choiceF (chF lev gs) n, r.length ≤ 100 := fun r hr => Nat.le_trans (choiceF_rows hch2 (by decide) n r hr) (by decide)
        subst n7
        have hlev1 : lev = 1 := by
          have := hn7
          (first | lia | omega)
        subst hlev1
        (refine impApp (hl1 rfl) ?_; refine cex6 ?_; rintro b us g0 g1' g2' g3; refine cand8 ?_; rintro rfl hbL hui hgs hg0 hg1 hg2 hg3)
        refine (ih rfl Gj b us g0 g1' g2' g3 (.ref l8) [] (hbL.mono (StaysIn.trans g1 (StaysIn.trans Gst (StaysIn.trans g2 gj)))) hui (by (first | lia | omega)) (by (first | lia | omega)) (by (first | lia | omega)) (by (first | lia | omega)) (fun _ => ⟨by (first | lia | omega), by (first | lia | omega), by (first | lia | omega), by (first | lia | omega)⟩) (fun h => absurd h (by decide))).use rfl (by walk_at "MINE room") (by walk_at "MINE room") X T F8
          (news := [(I2, oI2), (I, oI), (R, listOf ps.toArray kr), (L + 1, oc2)]) (fun p hp => N8 p (.tail _ hp)) Sj O6 ?_
        (rintro v9 h9 tk9 G3 st3 S3 O3; refine cex2 ?_; rintro c cvs; refine cand3 ?_; rintro rfl hcL hcp F9 N9)
        simp only [List.cons_append, List.nil_append] at N9
        have oL3 : G3.get? (L + 1) = none := O3 (L + 1, _) (by k_mem)
        have hcp' : Paired (Strs G3) cvs (choiceF (chF 1 gs) 7) := by rw [hgs]; exact hcp
        dsimp only
        walk_at "GO"
        rename_i h8 o8 F8 N8 d8
        have O8 : Off G3 [(I2, oI2), (I, oI), (R, listOf ps.toArray kr), (L + 1, o8)] := Off.cons (O3 (I2, oI2) (by k_mem)) (Off.cons (O3 (I, oI) (by k_mem)) (Off.cons (O3 (R, _) (by k_mem)) (Off.cons oL3 Off.nil)))
        refine comp_cross (G := G3) (B := s.heap) (G₀ := G) (news := [(I2, oI2), (I, oI), (R, listOf ps.toArray kr), (L + 1, o8)]) (c := c) (cc := L + 1) (W := W) (L := L) rfl rfl (hWL.mono st3) (hWp.mono fun _ _ r => r.mono st3) hcL hcp'
          ⟨o8, (N8 (L + 1, o8) (by k_mem)).1, d8⟩ rfl hwl1 hcl1 hwr1 hcr1 S3 F8 N8 O8 (fun _ => rfl) (fun _ => rfl) (fun _ => rfl) (by decide) (by decide) (by decide) (by decide) ?_ rfl rfl (by decide) rfl
        intro D9 G9 rs9 h9 tk9 g9 S9 O9 hD9 hP9 F9 N9
        dsimp only
        walk_at "GO"
        refine ⟨_, _, G9, _, [(I, oI), (R, listOf ps.toArray kr), (L + 1, o8)], rfl, S9, StaysIn.trans st3 g9, F9, N9, O9, rfl, o8, _, .ref D9, rfl, d8, rfl, rfl, rfl, ⟨D9, rs9, rfl, hD9, ?_⟩, hzn⟩
        rw [List.take_add_one, hn, Option.toList_some, wholeF_snoc]
        exact hP9
      · rename_i hnz _ n7 _ _ u8 l8 _ lt8 l9 _ lt9 h8 o8 F8 N8 d8
        have hzn : ∀ x ∈ pair.take (j + 1), x ≠ 0 := by
          rw [List.take_add_one, hn]
          intro x hx
          rcases List.mem_append.mp hx with hx | hx
          · exact hz x hx
          · simp at hx; subst hx; exact hnz
        have hjb := wholeF_take hch1 (by decide) hch2 (by decide) pair j
        have hj2 : j < 2 := by rw [← hp2]; exact (List.getElem?_eq_some_iff.mp hn).1
        have hwl1 : (wholeF (chF lev gs) (pair.take j)).length ≤ 100 := Nat.le_trans hjb.1 (Nat.le_trans (Nat.pow_le_pow_right (by decide) (Nat.le_of_lt hj2)) (by decide))
        have hwr1 : ∀ r ∈ wholeF (chF lev gs) (pair.take j), r.length ≤ 100 := fun r hr => Nat.le_trans (hjb.2 r hr) (by (first | lia | omega))
        have hcl1 : (choiceF (chF lev gs) n).length ≤ 100 := Nat.le_trans (choiceF_len hch1 (by decide) n) (by decide)
        have hcr1 : ∀ r ∈ choiceF (chF lev gs) n, r.length ≤ 100 := fun r hr => Nat.le_trans (choiceF_rows hch2 (by decide) n r hr) (by decide)
        (refine impApp (freezes [(l9, listOf [.ref l8].toArray 0), (l8, listOf [.str (pieceOf n) u8].toArray 0)] [(I2, oI2), (I, oI), (R, listOf ps.toArray kr), (L + 1, o8)] (news := [(l9, listOf [.ref l8].toArray 0), (l8, listOf [.str (pieceOf n) u8].toArray 0), (I2, oI2), (I, oI), (R, listOf ps.toArray kr), (L + 1, o8)]) Sj F8 N8 (fun p => Iff.rfl)) ?_; refine cex1 ?_; rintro G3; refine cand5 ?_; rintro S3 st3 fz3 N10 off3)
        have O8 : Off G3 [(I2, oI2), (I, oI), (R, listOf ps.toArray kr), (L + 1, o8)] := Off.cons (off3 I2 (by walk_at "MINE offz") (O6 (I2, oI2) (by k_mem))) (Off.cons (off3 I (by walk_at "MINE offz") (O6 (I, oI) (by k_mem))) (Off.cons (off3 R (by walk_at "MINE offz") (O6 (R, _) (by k_mem))) (Off.cons (off3 (L + 1) (by walk_at "MINE offz") oLj) Off.nil)))
        have hcp' : Paired (Strs G3) [.ref l8] (choiceF (chF lev gs) n) := by
          unfold choiceF
          rw [if_neg n7]
          exact .cons ⟨l8, _, rfl, LL.of (fz3 (l8, _) (by k_mem)), .cons _ _ .nil⟩ .nil
        refine comp_cross (G := G3) (B := s.heap) (G₀ := G) (news := [(I2, oI2), (I, oI), (R, listOf ps.toArray kr), (L + 1, o8)]) (c := l9) (cc := L + 1) (W := W) (L := L) rfl rfl (hWL.mono st3) (hWp.mono fun _ _ r => r.mono st3) (LL.of (fz3 (l9, _) (by k_mem))) hcp'
          ⟨o8, (N10 (L + 1, o8) (by k_mem)).1, d8⟩ rfl hwl1 hcl1 hwr1 hcr1 S3 F8 N10 O8 (fun _ => rfl) (fun _ => rfl) (fun _ => rfl) (by decide) (by decide) (by decide) (by decide) ?_ rfl rfl (by decide) rfl
        intro D9 G9 rs9 h9 tk9 g9 S9 O9 hD9 hP9 F9 N9
        dsimp only
        walk_at "GO"
        refine ⟨_, _, G9, _, [(I, oI), (R, listOf ps.toArray kr), (L + 1, o8)], rfl, S9, StaysIn.trans st3 g9, F9, N9, O9, rfl, o8, _, .ref D9, rfl, d8, rfl, rfl, rfl, ⟨D9, rs9, rfl, hD9, ?_⟩, hzn⟩
        rw [List.take_add_one, hn, Option.toList_some, wholeF_snoc]
        exact hP9

theorem wholeOf_bound0 {pair : List Int} (hp : pair.length ≤ 2) : (wholeOf [] pair).length ≤ 1 ∧ ∀ r ∈ wholeOf [] pair, r.length ≤ 2 := by
  unfold wholeOf
  rw [takeWhile_take]
  have hj : (pair.takeWhile fun x => decide (x ≠ 0)).length ≤ 2 := Nat.le_trans (by
    have : ∀ l : List Int, (l.takeWhile fun x => decide (x ≠ 0)).length ≤ l.length := by
      intro l
      induction l with
      | nil => simp
      | cons x r ih => rw [List.takeWhile_cons]; split <;> simp <;> simpa using ih
    exact this pair) hp
  obtain ⟨h1, h2⟩ := wholeF_take (ch := []) (c := 1) (d := 1) (by simp) (by decide) (by simp) (by decide) pair (pair.takeWhile fun x => decide (x ≠ 0)).length
  refine ⟨by simpa using h1, fun r hr => Nat.le_trans (h2 r hr) (by (first | lia | omega))⟩
theorem told0 (w : World) : ToldC w 0 := told_step w 0 (by decide) (fun h => absurd h (by decide)) (fun gs _ => by simp [chF])
theorem toldF0_bound {gs : List Int} (h : gs.length = 4) : (toldF 0 gs []).length ≤ 2 ∧ ∀ r ∈ toldF 0 gs [], r.length ≤ 2 := by
  have h1 := wholeOf_bound0 (pair := gs.take 2) (by rw [List.length_take]; (first | lia | omega))
  have h2 := wholeOf_bound0 (pair := gs.drop 2) (by rw [List.length_drop]; (first | lia | omega))
  refine ⟨?_, fun r hr => ?_⟩
  · unfold toldF; rw [List.length_append]; (first | lia | omega)
  · unfold toldF at hr
    rcases List.mem_append.mp hr with hr | hr
    · exact h1.2 r hr
    · exact h2.2 r hr
theorem told1 (w : World) : ToldC w 1 := told_step w 1 (by decide) (fun _ => told0 w) fun gs h => toldF0_bound (h rfl)
/-! part Fn6 -/
theorem pieceOf_len (f : Int) : (pieceOf f).length ≤ 2 := by
  unfold pieceOf
  have : ∀ n : Nat, (Str.ofString (pieces.getD n "")).length ≤ 2 := by
    intro n
    by_cases h : n < 7
    · have : ∀ n : Nat, n < 7 → (Str.ofString (pieces.getD n "")).length ≤ 2 := by decide +kernel
      exact this n h
    · have : pieces.getD n "" = "" := by
        rw [List.getD_eq_getElem?_getD, List.getElem?_eq_none (by simp [pieces]; (first | lia | omega))]; rfl
      rw [this]; decide +kernel
  exact this _
def atF (nm : Str) (p : Int) (pc : Str) : Bool := Txt.slice nm (some p) (some (p + (pc.length : Int))) == pc
def stepE (sub : Int → List Int) (nm : Str) (ps : List Int) (f : Int) : List Int := if f = 7 then ps.flatMap sub else (ps.filter fun p => atF nm p (pieceOf f)).map fun p => p + ((pieceOf f).length : Int)
def runE (sub : Int → List Int) (nm : Str) (l : List Int) (st : Int) : List Int := l.foldl (stepE sub nm) [st]
def endsPair (sub : Int → List Int) (nm : Str) (pair : List Int) (st : Int) : List Int := runE sub nm (pair.takeWhile (fun x => decide (x ≠ 0))) st
def endsF : Nat → Str → List Int → List Int → Int → List Int
  | 0, nm, figs, _, st => endsPair (fun _ => []) nm (figs.take 2) st ++ endsPair (fun _ => []) nm (figs.drop 2) st
  | n + 1, nm, figs, gs, st => endsPair (endsF n nm gs []) nm (figs.take 2) st ++ endsPair (endsF n nm gs []) nm (figs.drop 2) st
def subF (lev : Nat) (nm : Str) (gs : List Int) : Int → List Int := match lev with | 0 => fun _ => [] | n + 1 => endsF n nm gs []
theorem endsF_eq (lev : Nat) (nm : Str) (figs gs : List Int) (st : Int) : endsF lev nm figs gs st = endsPair (subF lev nm gs) nm (figs.take 2) st ++ endsPair (subF lev nm gs) nm (figs.drop 2) st := by
  cases lev <;> rfl
theorem runE_snoc (sub : Int → List Int) (nm : Str) (l : List Int) (f st : Int) : runE sub nm (l ++ [f]) st = stepE sub nm (runE sub nm l st) f := by
  unfold runE; rw [List.foldl_append]; rfl
theorem flatMap_len {sub : Int → List Int} {c : Nat} (ps : List Int) (h : ∀ p ∈ ps, (sub p).length ≤ c) : (ps.flatMap sub).length ≤ ps.length * c := by
  induction ps with
  | nil => simp
  | cons p r ih =>
    have := ih fun q hq => h q (.tail _ hq)
    have h1 := h p (.head _)
    simp only [List.flatMap_cons, List.length_append, List.length_cons]
    rw [Nat.add_mul]; (first | lia | omega)
theorem runE_take {sub : Int → List Int} {nm : Str} {st : Int} (h : ∀ p, (sub p).length ≤ 2) (h' : ∀ p, ∀ x ∈ sub p, p ≤ x ∧ x ≤ p + 4) (l : List Int) :
    ∀ j : Nat, (runE sub nm (l.take j) st).length ≤ 2 ^ j ∧ ∀ x ∈ runE sub nm (l.take j) st, st ≤ x ∧ x ≤ st + 4 * (j : Int) := by
  intro j
  induction j with
  | zero => exact ⟨by simp [runE], by simp [runE]⟩
  | succ j ih =>
    cases hl : l[j]? with
    | none =>
      rw [List.take_add_one, hl]
      simp only [Option.toList_none, List.append_nil]
      exact ⟨Nat.le_trans ih.1 (Nat.pow_le_pow_right (by decide) (Nat.le_succ j)), fun r hr => ⟨(ih.2 r hr).1, by have := (ih.2 r hr).2; (first | lia | omega)⟩⟩
    | some f =>
      rw [List.take_add_one, hl]
      simp only [Option.toList_some]
      rw [runE_snoc]
      unfold stepE
      split
      · refine ⟨?_, fun x hx => ?_⟩
        · rw [Nat.pow_succ]
          exact Nat.le_trans (flatMap_len _ fun p _ => h p) (Nat.mul_le_mul_right 2 ih.1)
        · (refine impApp (List.mem_flatMap.mp hx) ?_; refine cex1 ?_; rintro p; refine cand2 ?_; rintro hp hx)
          have h1 := ih.2 p hp
          have h2 := h' p x hx
          (first | lia | omega)
      · refine ⟨?_, fun x hx => ?_⟩
        · rw [List.length_map, Nat.pow_succ]
          exact Nat.le_trans (List.length_filter_le _ _) (by (first | lia | omega))
        · (refine impApp (List.mem_map.mp hx) ?_; refine cex1 ?_; rintro p; refine cand2 ?_; rintro hp rfl)
          have h1 := ih.2 p (List.mem_filter.mp hp).1
          have h2 := pieceOf_len f
          (first | lia | omega)
theorem endsPair_bound {sub : Int → List Int} {nm : Str} {st : Int} (h : ∀ p, (sub p).length ≤ 2) (h' : ∀ p, ∀ x ∈ sub p, p ≤ x ∧ x ≤ p + 4) {pair : List Int} (hp : pair.length ≤ 2) :
    (endsPair sub nm pair st).length ≤ 4 ∧ ∀ x ∈ endsPair sub nm pair st, st ≤ x ∧ x ≤ st + 8 := by
  unfold endsPair
  rw [takeWhile_take]
  have hj : (pair.takeWhile fun x => decide (x ≠ 0)).length ≤ 2 := Nat.le_trans (by
    have : ∀ l : List Int, (l.takeWhile fun x => decide (x ≠ 0)).length ≤ l.length := by
      intro l
      induction l with
      | nil => simp
      | cons x r ih => rw [List.takeWhile_cons]; split <;> simp <;> simpa using ih
    exact this pair) hp
  obtain ⟨h1, h2⟩ := runE_take (nm := nm) (st := st) h h' pair (pair.takeWhile fun x => decide (x ≠ 0)).length
  exact ⟨Nat.le_trans h1 (Nat.le_trans (Nat.pow_le_pow_right (by decide) hj) (by decide)), fun x hx => ⟨(h2 x hx).1, by have := (h2 x hx).2; (first | lia | omega)⟩⟩

def EndsC (w : World) (lev : Nat) : Prop := ∀ (G : Heap) (a : Addr) (vs : List Value) (f0 f1 f2 f3 : Int) (nm : Str) (tn : Tok) (st : Int) (ts : Tok) (sv : Value) (gs : List Int), LL G a vs → IntsAre vs [f0, f1, f2, f3] →
    (0 ≤ f0 ∧ f0 < 8) → (0 ≤ f1 ∧ f1 < 8) → (0 ≤ f2 ∧ f2 < 8) → (0 ≤ f3 ∧ f3 < 8) → (lev = 0 → f0 ≠ 7 ∧ f1 ≠ 7 ∧ f2 ≠ 7 ∧ f3 ≠ 7) → 0 ≤ st → st ≤ 200 - 100 * (lev : Int) → nm.length ≤ 100 →
    (lev = 1 → ∃ b us g0 g1 g2 g3, sv = .ref b ∧ LL G b us ∧ IntsAre us [g0, g1, g2, g3] ∧ gs = [g0, g1, g2, g3] ∧ (0 ≤ g0 ∧ g0 < 7) ∧ (0 ≤ g1 ∧ g1 < 7) ∧ (0 ≤ g2 ∧ g2 < 7) ∧ (0 ≤ g3 ∧ g3 < 7)) →
    Pure w G 121 [.ref a, .str nm tn, .int st ts, sv] (lev + 3) (10 * lev + 100) (fun G' v => Ints G' v (endsF lev nm [f0, f1, f2, f3] gs st))

theorem ends_step (w : World) (lev : Nat) (hlev : lev ≤ 1) (ih : lev = 1 → EndsC w 0)
    (hsub : ∀ nm gs, (lev = 1 → gs.length = 4) → ∀ p, (subF lev nm gs p).length ≤ 2 ∧ ∀ x ∈ subF lev nm gs p, p ≤ x ∧ x ≤ p + 4) : EndsC w lev := by
  intro G a vs f0 f1 f2 f3 nm tn st ts sv gs hl hI h0 h1 h2 h3 hl0 hst0 hst1 hnm hl1
  intro p loose mean mg mb A s Q E hh hd hu X T hG k
  obtain ⟨ha, dp, fr, gd, un⟩ := A
  dsimp only at hh hd hu
  subst hh
  have hls : s.heap.IsList a vs.toArray := (hl.mono hG).isList
  have hvl := hI.length
  simp only [List.length_cons, List.length_nil] at hvl
  walk_at "MINE fill"
  refine wpAny_call ?_
  k_dflt (refine' enter_ownC [(Str.ofString "figures", .ref a), (Str.ofString "name", .str nm tn), (Str.ofString "start", .int st ts), (Str.ofString "shared", sv)] ?X ?T ?ho ?hcd ?hr ?hb ?hl ?hnd ?_ ?c2 ?c3 ?c4)
  walk_at "MINE enterC"
  intro L h₁ tk cells E' F N Y hL
  (refine impApp (CellsAre.three Y) ?_; refine cex3 ?_; rintro o1 o2 o3; refine cand4 ?_; rintro rfl d1 d2 d3)
  have S : Gs s.heap G G := Gs.init hG
  have oLL : ∀ b, L ≤ b → G.get? b = none := fun b hb => by
    cases e : G.get? b with
    | none => rfl
    | some o => exact absurd (Heap.lt_size (hG _ _ e)) (by rw [← hL]; exact Nat.not_lt.mpr hb)
  change o1.data = .cell none at d1
  change o2.data = .cell (some sv) at d2
  change o3.data = .cell (some (.str nm tn)) at d3
  clear Y
  change Fr s.heap L h₁ (fun y => if y = Str.ofString "start" then some (.int st ts) else if y = Str.ofString "figures" then some (.ref a) else none) at F
  replace N : News s.heap L h₁ ((L + 1 + 1 + 1, o1) :: (L + 1 + 1, o2) :: (L + 1, o3) :: gl s.heap G) := by rw [gl_self hG]; exact N
  (try dsimp only)
  walk_at "GO"
  rename_i R _ lR _ D2 _ lD2 D1 _ lD1 D0 hp F N lD0
  have oR : G.get? R = none := off_of S (N (R, listOf #[] 0) (by k_mem)).2.2 (allLt_ne lR.2.2.2)
  (refine impApp (freezes [(D0, _), (D1, _), (D2, _)] [(R, listOf #[] 0), (L + 1 + 1 + 1, o1), (L + 1 + 1, o2), (L + 1, o3)] (news := [(D0, _), (D1, _), (D2, _), (R, listOf #[] 0), (L + 1 + 1 + 1, o1), (L + 1 + 1, o2), (L + 1, o3)]) S F N (fun p => Iff.rfl)) ?_; refine cex1 ?_; rintro G1; refine cand5 ?_; rintro S1 g1 fz N1 off1)
  have O1 : Off G1 [(R, listOf #[] 0), (L + 1 + 1 + 1, o1), (L + 1 + 1, o2), (L + 1, o3)] := Off.cons (off1 R (by walk_at "MINE offz") oR) (Off.cons (off1 _ (by walk_at "MINE offz") (oLL _ (show @LE.le Nat _ L _ by (first | lia | omega)))) (Off.cons (off1 _ (by walk_at "MINE offz") (oLL _ (show @LE.le Nat _ L _ by (first | lia | omega)))) (Off.cons (off1 _ (by walk_at "MINE offz") (oLL _ (show @LE.le Nat _ L _ by (first | lia | omega)))) Off.nil)))
  have hT0 : IsTup G1 D0 #[.ref D2, .ref D1] := ⟨_, fz _ (by k_mem), rfl, _, rfl⟩
  have hD1 : Ints G1 (.ref D1) [f2, f3] := ⟨D1, _, rfl, LL.of (fz (D1, _) (by k_mem)), IntsAre.drop hI 2⟩
  have hD2 : Ints G1 (.ref D2) [f0, f1] := ⟨D2, _, rfl, LL.of (fz (D2, _) (by k_mem)), IntsAre.take hI 2⟩
  have hps : Paired (Ints G1) [.ref D2, .ref D1] [[f0, f1], [f2, f3]] := .cons hD2 (.cons hD1 .nil)
  have hsb := hsub nm gs fun h => by (refine impApp (hl1 h) ?_; refine cex6 ?_; rintro _ _ _ _ _ _; refine cand5 ?_; rintro _ _ _ hgs _); rw [hgs]; rfl
  have hsb1 : ∀ p, (subF lev nm gs p).length ≤ 2 := fun p => (hsb p).1
  have hsb2 : ∀ p, ∀ x ∈ subF lev nm gs p, p ≤ x ∧ x ≤ p + 4 := fun p => (hsb p).2
  refine for_tup (L := L) (vs := [.ref D2, .ref D1]) rfl rfl
    (fun i Gi mi ni => ∃ ps kr oc' cv, ni = [(R, listOf ps.toArray kr), (L + 1 + 1 + 1, oc'), (L + 1 + 1, o2), (L + 1, o3)] ∧ oc'.data = .cell cv ∧ mi (Str.ofString "found") = some (.ref R) ∧ mi (Str.ofString "start") = some (.int st ts) ∧ ps.length ≤ 4 * i ∧ IntsAre ps (([[f0, f1], [f2, f3]].take i).flatMap fun pair => endsPair (subF lev nm gs) nm pair st))
    (fun Gi mi ni => ∃ ps kr oc', ni = [(R, listOf ps.toArray kr), (L + 1 + 1 + 1, oc'), (L + 1 + 1, o2), (L + 1, o3)] ∧ mi (Str.ofString "found") = some (.ref R) ∧ IntsAre ps (endsF lev nm [f0, f1, f2, f3] gs st))
    (news := [(R, listOf #[] 0), (L + 1 + 1 + 1, o1), (L + 1 + 1, o2), (L + 1, o3)]) hT0 S1 F N1 O1
    ⟨[], 0, o1, none, rfl, d1, rfl, rfl, by simp, .nil⟩ ?turn ?hX ?done
  case hX =>
    (rintro Gn mn nn; refine cex4 ?_; rintro ps kr oc' cv; refine cand6 ?_; rintro rfl _ e1 _ _ hps)
    refine ⟨ps, kr, oc', rfl, e1, ?_⟩
    rw [endsF_eq]
    simpa using hps
  case done =>
    (rintro Gn mn nn h tk; refine cex3 ?_; rintro ps kr oc'; refine cand3 ?_; rintro rfl e1 hps Sn Gst Fn Nn On _)
    rw [m_see e1] at Fn
    dsimp only
    walk_at "GO"
    dsimp only
    (refine impApp (freezes [(R, listOf ps.toArray kr)] [(L + 1 + 1 + 1, oc'), (L + 1 + 1, o2), (L + 1, o3)] (news := [(R, listOf ps.toArray kr), (L + 1 + 1 + 1, oc'), (L + 1 + 1, o2), (L + 1, o3)]) Sn Fn Nn (fun p => Iff.rfl)) ?_; refine cex1 ?_; rintro G2; refine cand5 ?_; rintro S2 g2 fz2 N2 _)
    exact k _ _ _ G2 Fn.keep S2.x (S2.keep (news := [(L + 1 + 1 + 1, oc'), (L + 1 + 1, o2), (L + 1, o3)]) Fn N2) ⟨R, ps, rfl, LL.of (fz2 (R, _) (by k_mem)), hps⟩
  case turn =>
    (rintro i v Gi mi ni h tk I oI Q₁ E₁ _ hv; refine cex4 ?_; rintro ps kr oc' cv; refine cand6 ?_; rintro rfl dc' e1 e2 hpl hpp _ Si Gst Fi Ni Oi hne)
    (refine impApp (Paired.get hps i v hv) ?_; refine cex1 ?_; rintro pair; refine cand2 ?_; rintro hpair; refine cex2 ?_; rintro q qs; refine cand3 ?_; rintro rfl hq hqi)
    have hqL := hq.mono Gst
    have hi2 : i < 2 := (List.getElem?_eq_some_iff.mp hpair).1
    have hRI : @Ne Nat R I := hne (R, _) (.head _)
    have hLI : @Ne Nat (L + 1 + 1 + 1) I := hne (L + 1 + 1 + 1, _) (by k_mem)
    have hbnd : ∀ x ∈ pair, 0 ≤ x ∧ x < 8 ∧ (lev = 0 → x ≠ 7) := by
      have : pair ∈ [[f0, f1], [f2, f3]] := List.mem_of_getElem? hpair
      simp only [List.mem_cons, List.not_mem_nil, or_false] at this
      rcases this with rfl | rfl <;> (intro x hx; simp only [List.mem_cons, List.not_mem_nil, or_false] at hx; rcases hx with rfl | rfl <;> (refine ⟨by (first | lia | omega), by (first | lia | omega), fun hz => ?_⟩; have := hl0 hz; (first | lia | omega)))
    have hp2 : pair.length = 2 := by
      have hm : pair ∈ [[f0, f1], [f2, f3]] := List.mem_of_getElem? hpair
      simp only [List.mem_cons, List.not_mem_nil, or_false] at hm
      rcases hm with rfl | rfl <;> rfl
    rw [m_see e1, m_see e2] at Fi
    simp only [List.cons_append, List.nil_append] at Ni
    dsimp only
    walk_at "GO"
    rename_i a4 _ l4 h5 F5 N5
    (refine impApp (freezes [(a4, listOf [.int st ts].toArray 0)] [(I, oI), (R, listOf ps.toArray kr), (L + 1 + 1 + 1, oc'), (L + 1 + 1, o2), (L + 1, o3)] (news := [(a4, listOf [.int st ts].toArray 0), (I, oI), (R, listOf ps.toArray kr), (L + 1 + 1 + 1, oc'), (L + 1 + 1, o2), (L + 1, o3)]) Si F5 N5 (fun p => Iff.rfl)) ?_; refine cex1 ?_; rintro G2; refine cand5 ?_; rintro S2 g2 fz2 N6 off2)
    have O2 : Off G2 [(I, oI), (R, listOf ps.toArray kr), (L + 1 + 1 + 1, oc'), (L + 1 + 1, o2), (L + 1, o3)] := fun p hp => off2 p.1 (by
        simp only [List.mem_cons, List.not_mem_nil, or_false] at hp
        rcases hp with rfl | rfl | rfl | rfl | rfl <;> walk_at "MINE offz") (Oi p hp)
    have hW0 : Ints G2 (.ref a4) (runE (subF lev nm gs) nm (pair.take 0) st) := ⟨a4, _, rfl, LL.of (fz2 (a4, _) (by k_mem)), .cons _ _ .nil⟩
    refine for_list (L := L) (vs := qs) rfl rfl
      (fun j Gj mj nj => ∃ oc2 cv2 wv, nj = [(I, oI), (R, listOf ps.toArray kr), (L + 1 + 1 + 1, oc2), (L + 1 + 1, o2), (L + 1, o3)] ∧ oc2.data = .cell cv2 ∧ mj (Str.ofString "found") = some (.ref R) ∧ mj (Str.ofString "start") = some (.int st ts) ∧ mj (Str.ofString "ends") = some wv ∧ Ints Gj wv (runE (subF lev nm gs) nm (pair.take j) st) ∧ (∀ x ∈ pair.take j, x ≠ 0))
      (fun Gj mj nj => ∃ oc2 cv2 wv, nj = [(I, oI), (R, listOf ps.toArray kr), (L + 1 + 1 + 1, oc2), (L + 1 + 1, o2), (L + 1, o3)] ∧ oc2.data = .cell cv2 ∧ mj (Str.ofString "found") = some (.ref R) ∧ mj (Str.ofString "start") = some (.int st ts) ∧ mj (Str.ofString "ends") = some wv ∧ Ints Gj wv (endsPair (subF lev nm gs) nm pair st))
      (news := [(I, oI), (R, listOf ps.toArray kr), (L + 1 + 1 + 1, oc'), (L + 1 + 1, o2), (L + 1, o3)]) (hqL.mono g2).isList S2 F5 N6 O2
      ⟨oc', cv, .ref a4, rfl, dc', rfl, rfl, rfl, hW0, fun _ h => by simp at h⟩ ?turn ?hX ?done
    case hX =>
      (rintro Gn mn nn; refine cex3 ?_; rintro oc2 cv2 wv; refine cand7 ?_; rintro rfl d2 e1 e2 e3 hW hz)
      rw [hqi.length, List.take_length] at hW hz
      exact ⟨oc2, cv2, wv, rfl, d2, e1, e2, e3, by unfold endsPair; rw [takeWhile_all hz]; exact hW⟩
    case done =>
      (rintro Gn mn nn h6 tk6; refine cex3 ?_; rintro oc2 cv2 wv; refine cand6 ?_; rintro rfl dd e1 e2 e3; refine cex2 ?_; rintro W wvs; refine cand3 ?_; rintro rfl hWL hWp Sn gn Fn Nn On _)
      rw [m_see e1, m_see e2, m_see e3] at Fn
      simp only [List.cons_append, List.nil_append] at Nn
      have oRn : Gn.get? R = none := On (R, _) (by k_mem)
      have hwl := hWp.length
      have hwb : (endsPair (subF lev nm gs) nm pair st).length ≤ 4 := (endsPair_bound hsb1 hsb2 (by (first | lia | omega))).1
      dsimp only
      walk_at "GO"
      rename_i h7 kr' F7 N7
      refine ⟨_, _, Gn, _, [(R, listOf (ps ++ wvs).toArray kr'), (L + 1 + 1 + 1, oc2), (L + 1 + 1, o2), (L + 1, o3)], rfl, Sn, StaysIn.trans g2 gn, F7, N7, ?_, rfl, ps ++ wvs, kr', oc2, cv2, rfl, dd, rfl, rfl, ?_, ?_⟩
      · exact Off.cons (On (I, oI) (by k_mem)) (Off.cons oRn (fun p hp => On p (.tail _ (.tail _ hp))))
      · rw [List.length_append]; (first | lia | omega)
      · rw [List.take_add_one, hpair, List.flatMap_append]
        refine hpp.append ?_
        simpa using hWp
    case turn =>
      (rintro j v Gj mj nj h6 tk6 I2 oI2 Q₂ E₂ _ hv; refine cex3 ?_; rintro oc2 cv2 wv; refine cand7 ?_; rintro rfl dd e1 e2 e3 hW hz _ Sj gj F6 N6 O6 hne2)
      (revert hW; refine cex2 ?_; rintro W wvs; refine cand3 ?_; rintro rfl hWL hWp)
      obtain ⟨n, hn, tn', rfl⟩ : ∃ n, pair[j]? = some n ∧ ∃ t, v = .int n t := by (refine impApp (IntsAre.at hqi j v hv) ?_; refine cex2 ?_; rintro n t; refine cand2 ?_; rintro e hn); exact ⟨n, hn, t, e⟩
      (refine impApp (hbnd n (List.mem_of_getElem? hn)) ?_; refine cand3 ?_; rintro hn0 hn8 hn7)
      rw [m_see e1, m_see e2, m_see e3] at F6
      simp only [List.cons_append, List.nil_append] at N6
      have hLI2 : @Ne Nat (L + 1 + 1 + 1) I2 := hne2 (L + 1 + 1 + 1, _) (by k_mem)
      have oLj : Gj.get? (L + 1 + 1 + 1) = none := O6 (L + 1 + 1 + 1, _) (by k_mem)
      have hRL : @Ne Nat R (L + 1 + 1 + 1) := by (first | lia | omega)
      dsimp only
      walk_at "GO"
      · rename_i h8 F8 N8 _ hn00
        subst hn00
        refine ⟨_, _, Gj, _, [(I, oI), (R, listOf ps.toArray kr), (L + 1 + 1 + 1, oc2), (L + 1 + 1, o2), (L + 1, o3)], rfl, Sj, StaysIn.refl _, F8, N8, O6, rfl, oc2, cv2, .ref W, rfl, dd, rfl, rfl, rfl, ⟨W, wvs, rfl, hWL, ?_⟩⟩
        unfold endsPair
        rw [takeWhile_cut hz hn]
        exact hWp
      · rename_i h8 F8 N8 _ hnz _ n7
        have hzn : ∀ x ∈ pair.take (j + 1), x ≠ 0 := by
          rw [List.take_add_one, hn]
          intro x hx
          rcases List.mem_append.mp hx with hx | hx
          · exact hz x hx
          · simp at hx; subst hx; exact hnz
        have hj2 : j < 2 := by rw [← hp2]; exact (List.getElem?_eq_some_iff.mp hn).1
        have hjb := runE_take (nm := nm) (st := st) hsb1 hsb2 pair j
        have hwl1 : (runE (subF lev nm gs) nm (pair.take j) st).length ≤ 4 := Nat.le_trans hjb.1 (Nat.le_trans (Nat.pow_le_pow_right (by decide) (Nat.le_of_lt hj2)) (by decide))
        have hwr1 : ∀ x ∈ runE (subF lev nm gs) nm (pair.take j) st, 0 ≤ x ∧ x ≤ st + 8 := fun x hx => ⟨by have := (hjb.2 x hx).1; (first | lia | omega), by have := (hjb.2 x hx).2; (first | lia | omega)⟩
        generalize hps0 : runE (subF lev nm gs) nm (pair.take j) st = places at hWp hwl1 hwr1
        subst n7
        have hlev1 : lev = 1 := by
          have := hn7
          (first | lia | omega)
        subst hlev1
        (refine impApp (hl1 rfl) ?_; refine cex6 ?_; rintro b us g0 g1' g2' g3; refine cand8 ?_; rintro rfl hbL hui hgs hg0 hg1 hg2 hg3)
        unfold CompIn
        refine src_list (news := [(I2, oI2), (I, oI), (R, listOf ps.toArray kr), (L + 1 + 1 + 1, oc2), (L + 1 + 1, o2), (L + 1, o3)]) rfl hWL.isList Sj F8 N8 ?_
        intro I3 h9 fp St C0 F9 N9 st9
        have Xc : (Mine.hd.heap_39 w.params).In (less h9 I3) := (X.keeps F8.keep).keeps st9
        have Tc : Top p loose mean mg mb (less h9 I3) := (T.keeps F8.keep).keeps st9
        have hc1 : (less h9 I3).IsCell (L + 1) (some (.str nm tn)) := ⟨o3, st9 _ _ (N8 (L + 1, o3) (by k_mem)).1, d3⟩
        have hc2 : (less h9 I3).IsCell (L + 1 + 1) (some (.ref b)) := ⟨o2, st9 _ _ (N8 (L + 1 + 1, o2) (by k_mem)).1, d2⟩
        refine comp2_to (L := L) rfl C0 (fun i G' rs => i ≤ places.length ∧ IntsAre rs ((places.take i).flatMap (subF 1 nm gs))) Sj F9 N9 O6 ⟨Nat.zero_le _, .nil⟩ ?turn7 ?done7
        case done7 =>
          rintro D9 Gn G9 rs9 kk9 h10 tk10 ⟨_, hrs⟩ gst hD9 g9 S9 O9 F10 N10
          rw [hWp.length, List.take_length] at hrs
          dsimp only
          walk_at "GO"
          refine ⟨_, _, G9, _, [(I, oI), (R, listOf ps.toArray kr), (L + 1 + 1 + 1, oc2), (L + 1 + 1, o2), (L + 1, o3)], rfl, S9, g9, F10, N10, O9, rfl, oc2, cv2, .ref D9, rfl, dd, rfl, rfl, rfl, ⟨D9, rs9, rfl, LL.of hD9, ?_⟩, hzn⟩
          rw [List.take_add_one, hn, Option.toList_some, runE_snoc, hps0]
          exact hrs
        case turn7 =>
          rintro i7 v7 C D Gi7 mi7 rs7 kk7 h10 tk10 oI3 E₃ hi7 hv7 ⟨hi7', hrs7⟩ Si7 Gst7 F10 N10 O10 hDI
          (refine impApp (IntsAre.at hWp i7 v7 hv7) ?_; refine cex2 ?_; rintro pl tpl; refine cand2 ?_; rintro rfl hpl')
          have hplb := hwr1 pl (List.mem_of_getElem? hpl')
          simp only [List.cons_append, List.nil_append] at N10
          dsimp only at F10 N10 ⊢
          walk_at "GO"
          rename_i l11 h11 F11 N11 lt11
          refine (ih rfl Gi7 b us g0 g1' g2' g3 nm tn pl tpl (.ref l11) [] (hbL.mono (StaysIn.trans g1 (StaysIn.trans Gst (StaysIn.trans g2 (StaysIn.trans gj Gst7))))) hui (by (first | lia | omega)) (by (first | lia | omega)) (by (first | lia | omega)) (by (first | lia | omega)) (fun _ => ⟨by (first | lia | omega), by (first | lia | omega), by (first | lia | omega), by (first | lia | omega)⟩) hplb.1 (by (first | lia | omega)) hnm (fun h => absurd h (by decide))).use rfl (by walk_at "MINE room") (by walk_at "MINE room") Xc Tc F11
            (news := [(I3, oI3), (D, listOf rs7.toArray kk7)]) (fun p hp => N11 p (.tail _ hp)) Si7 O10 ?_
          (rintro v9 h12 tk12 G3 st3 S3 O3; refine cex2 ?_; rintro c cvs; refine cand3 ?_; rintro rfl hcL hcp F12 N12)
          have hsl : (endsF 0 nm [g0, g1', g2', g3] [] pl).length ≤ 2 := by have := hsb1 pl; rw [hgs] at this; exact this
          simp only [List.cons_append, List.nil_append] at N12
          dsimp only
          walk_at "GO"
          refine src_list (news := [(I3, oI3), (D, listOf rs7.toArray kk7)]) rfl hcL.isList S3 F12 N12 ?_
          intro I4 h13 fp4 St4 C1 F13 N13 st13
          refine comp2_in (rs₀ := rs7) (k₀ := kk7) C1 (fun jj G' rs' => jj ≤ 2 ∧ G3.StaysIn G' ∧ IntsAre rs' ((places.take i7).flatMap (subF 1 nm gs) ++ (endsF 0 nm [g0, g1', g2', g3] [] pl).take jj)) (fun _ => True) hDI S3 F13 N13 O3 ⟨by decide, StaysIn.refl _, by simpa using hrs7⟩ trivial ?len8 ?turn8 ?done8
          case len8 =>
            (rintro jj G' rs'; refine cand3 ?_; rintro _ _ hr')
            rw [hr'.length, sizeLine_eq, List.length_append, List.length_take]
            have h1 := flatMap_len (places.take i7) (sub := subF 1 nm gs) (c := 2) fun p _ => hsb1 p
            have h2 : (places.take i7).length ≤ 4 := by rw [List.length_take]; (first | lia | omega)
            (first | lia | omega)
          case turn8 =>
            (rintro jj u Gj8 mj8 rs8 k8 h14 tk14 oI4 E₄ hjj hu _; refine cand3 ?_; rintro hjj' gij hr8 Sj8 _ F14 N14 O14)
            (refine impApp (IntsAre.at hcp jj u hu) ?_; refine cex2 ?_; rintro en ten; refine cand2 ?_; rintro rfl hen)
            simp only [List.cons_append, List.nil_append] at N14
            dsimp only at F14 N14 ⊢
            walk_at "GO"
            rename_i h15 F15 N15
            have hjl : jj < (endsF 0 nm [g0, g1', g2', g3] [] pl).length := (List.getElem?_eq_some_iff.mp hen).1
            refine ⟨_, _, Gj8, _, rfl, Sj8, StaysIn.refl _, F15, N15, O14, trivial, by (first | lia | omega), gij, ?_⟩
            rw [List.take_add_one, hen, ← List.append_assoc]
            exact hr8.append (.cons _ _ .nil)
          case done8 =>
            (rintro Gn8 mn8 rs8 k8 h14 tk14; refine cand3 ?_; rintro _ gin hr8 Sn8 _ F14 N14 O14)
            refine ⟨h14, tk14, Gn8, mn8, rs8, k8, rfl, Sn8, StaysIn.trans st3 gin, F14, N14, O14, (List.getElem?_eq_some_iff.mp hpl').1, ?_⟩
            rw [hcp.length, List.take_length] at hr8
            rw [List.take_add_one, hpl', List.flatMap_append]
            refine Eq.mp (congrArg _ ?_) hr8
            simp [subF, hgs]
      · rename_i hnz _ n7 _ _ _ u8 h8 o8 F8 N8 d8
        have hzn : ∀ x ∈ pair.take (j + 1), x ≠ 0 := by
          rw [List.take_add_one, hn]
          intro x hx
          rcases List.mem_append.mp hx with hx | hx
          · exact hz x hx
          · simp at hx; subst hx; exact hnz
        have hj2 : j < 2 := by rw [← hp2]; exact (List.getElem?_eq_some_iff.mp hn).1
        have hjb := runE_take (nm := nm) (st := st) hsb1 hsb2 pair j
        have hwl1 : (runE (subF lev nm gs) nm (pair.take j) st).length ≤ 4 := Nat.le_trans hjb.1 (Nat.le_trans (Nat.pow_le_pow_right (by decide) (Nat.le_of_lt hj2)) (by decide))
        have hwr1 : ∀ x ∈ runE (subF lev nm gs) nm (pair.take j) st, 0 ≤ x ∧ x ≤ st + 8 := fun x hx => ⟨by have := (hjb.2 x hx).1; (first | lia | omega), by have := (hjb.2 x hx).2; (first | lia | omega)⟩
        generalize hps0 : runE (subF lev nm gs) nm (pair.take j) st = places at hWp hwl1 hwr1
        unfold CompIn
        refine src_list (news := [(I2, oI2), (I, oI), (R, listOf ps.toArray kr), (L + 1 + 1 + 1, o8), (L + 1 + 1, o2), (L + 1, o3)]) rfl hWL.isList Sj F8 N8 ?_
        intro I3 h9 fp St C0 F9 N9 st9
        have Xc : (Mine.hd.heap_39 w.params).In (less h9 I3) := (X.keeps F8.keep).keeps st9
        have Tc : Top p loose mean mg mb (less h9 I3) := (T.keeps F8.keep).keeps st9
        have hc1 : (less h9 I3).IsCell (L + 1) (some (.str nm tn)) := ⟨o3, st9 _ _ (N8 (L + 1, o3) (by k_mem)).1, d3⟩
        have hc3 : (less h9 I3).IsCell (L + 1 + 1 + 1) (some (.str (pieceOf n) u8)) := ⟨o8, st9 _ _ (N8 (L + 1 + 1 + 1, o8) (by k_mem)).1, d8⟩
        have O8 : Off Gj [(I2, oI2), (I, oI), (R, listOf ps.toArray kr), (L + 1 + 1 + 1, o8), (L + 1 + 1, o2), (L + 1, o3)] := Off.cons (O6 (I2, oI2) (by k_mem)) (Off.cons (O6 (I, oI) (by k_mem)) (Off.cons (O6 (R, _) (by k_mem)) (Off.cons oLj (fun p hp => O6 p (.tail _ (.tail _ (.tail _ (.tail _ hp))))))))
        have hpc := pieceOf_len n
        refine comp1_to (L := L) rfl C0 (fun i G' rs => G' = Gj ∧ i ≤ places.length ∧ IntsAre rs (((places.take i).filter fun p => atF nm p (pieceOf n)).map fun p => p + ((pieceOf n).length : Int))) Sj F9 N9 O8 ⟨rfl, Nat.zero_le _, .nil⟩ ?len7 ?turn7 ?done7
        case len7 =>
          (rintro i G' rs; refine cand3 ?_; rintro _ _ hrs)
          rw [hrs.length, sizeLine_eq, List.length_map]
          have := List.length_filter_le (fun p => atF nm p (pieceOf n)) (places.take i)
          rw [List.length_take] at this
          (first | lia | omega)
        case done7 =>
          (rintro D9 Gn G9 rs9 kk9 h10 tk10; refine cand3 ?_; rintro rfl _ hrs gst hD9 g9 S9 O9 F10 N10)
          rw [hWp.length, List.take_length] at hrs
          dsimp only
          walk_at "GO"
          refine ⟨_, _, G9, _, [(I, oI), (R, listOf ps.toArray kr), (L + 1 + 1 + 1, o8), (L + 1 + 1, o2), (L + 1, o3)], rfl, S9, g9, F10, N10, O9, rfl, o8, _, .ref D9, rfl, d8, rfl, rfl, rfl, ⟨D9, rs9, rfl, LL.of hD9, ?_⟩, hzn⟩
          rw [List.take_add_one, hn, Option.toList_some, runE_snoc, hps0]
          unfold stepE
          rw [if_neg n7]
          exact hrs
        case turn7 =>
          (rintro i7 v7 C D Gi7 mi7 rs7 kk7 h10 tk10 oI3 E₃ hi7 hv7; refine cand3 ?_; rintro rfl hi7' hrs7 Si7 Gst7 F10 N10 O10)
          (refine impApp (IntsAre.at hWp i7 v7 hv7) ?_; refine cex2 ?_; rintro pl tpl; refine cand2 ?_; rintro rfl hpl')
          have hplb := hwr1 pl (List.mem_of_getElem? hpl')
          simp only [List.cons_append, List.nil_append] at N10
          dsimp only at F10 N10 ⊢
          have hi8 := (List.getElem?_eq_some_iff.mp hpl').1
          walk_at "GO"
          · rename_i h11 t11 k11 F11 N11 _ hm
            refine ⟨_, _, Gi7, _, rfl, Si7, StaysIn.refl _, F11, N11, O10, rfl, hi8, ?_⟩
            rw [List.take_add_one, hpl', List.filter_append, List.map_append]
            refine hrs7.append ?_
            have hm' : atF nm pl (pieceOf n) = true := hm
            simp only [Option.toList_some, List.filter_cons, hm', if_true, List.filter_nil, List.map_cons, List.map_nil]
            exact .cons _ _ .nil
          · rename_i h11 t11 k11 F11 N11 _ hm
            refine ⟨_, _, Gi7, _, rfl, Si7, StaysIn.refl _, F11, N11, O10, rfl, hi8, ?_⟩
            rw [List.take_add_one, hpl', List.filter_append, List.map_append]
            have hm' : atF nm pl (pieceOf n) = false := hm
            simp only [Option.toList_some, List.filter_cons, hm', Bool.false_eq_true, if_false, List.filter_nil, List.map_nil, List.append_nil]
            exact hrs7

theorem ends0 (w : World) : EndsC w 0 := ends_step w 0 (by decide) (fun h => absurd h (by decide)) (fun nm gs _ p => by simp [subF])
theorem runE_take0 {nm : Str} {st : Int} (l : List Int) :
    ∀ j : Nat, (runE (fun _ => []) nm (l.take j) st).length ≤ 1 ∧ ∀ x ∈ runE (fun _ => []) nm (l.take j) st, st ≤ x ∧ x ≤ st + 2 * (j : Int) := by
  intro j
  induction j with
  | zero => exact ⟨by simp [runE], by simp [runE]⟩
  | succ j ih =>
    cases hl : l[j]? with
    | none =>
      rw [List.take_add_one, hl]
      simp only [Option.toList_none, List.append_nil]
      exact ⟨ih.1, fun r hr => ⟨(ih.2 r hr).1, by have := (ih.2 r hr).2; (first | lia | omega)⟩⟩
    | some f =>
      rw [List.take_add_one, hl]
      simp only [Option.toList_some]
      rw [runE_snoc]
      unfold stepE
      split
      · rw [List.flatMap_eq_nil_iff.mpr (fun _ _ => rfl)]; simp
      · refine ⟨?_, fun x hx => ?_⟩
        · rw [List.length_map]
          exact Nat.le_trans (List.length_filter_le _ _) ih.1
        · (refine impApp (List.mem_map.mp hx) ?_; refine cex1 ?_; rintro p; refine cand2 ?_; rintro hp rfl)
          have h1 := ih.2 p (List.mem_filter.mp hp).1
          have h2 := pieceOf_len f
          (first | lia | omega)
theorem endsPair_bound0 {nm : Str} {st : Int} {pair : List Int} (hp : pair.length ≤ 2) :
    (endsPair (fun _ => []) nm pair st).length ≤ 1 ∧ ∀ x ∈ endsPair (fun _ => []) nm pair st, st ≤ x ∧ x ≤ st + 4 := by
  unfold endsPair
  rw [takeWhile_take]
  have hj : (pair.takeWhile fun x => decide (x ≠ 0)).length ≤ 2 := Nat.le_trans (by
    have : ∀ l : List Int, (l.takeWhile fun x => decide (x ≠ 0)).length ≤ l.length := by
      intro l
      induction l with
      | nil => simp
      | cons x r ih => rw [List.takeWhile_cons]; split <;> simp <;> simpa using ih
    exact this pair) hp
  obtain ⟨h1, h2⟩ := runE_take0 (nm := nm) (st := st) pair (pair.takeWhile fun x => decide (x ≠ 0)).length
  exact ⟨h1, fun x hx => ⟨(h2 x hx).1, by have := (h2 x hx).2; (first | lia | omega)⟩⟩
theorem endsF0_bound {nm : Str} {gs : List Int} (h : gs.length = 4) (p : Int) : (endsF 0 nm gs [] p).length ≤ 2 ∧ ∀ x ∈ endsF 0 nm gs [] p, p ≤ x ∧ x ≤ p + 4 := by
  have h1 := endsPair_bound0 (nm := nm) (st := p) (pair := gs.take 2) (by rw [List.length_take]; (first | lia | omega))
  have h2 := endsPair_bound0 (nm := nm) (st := p) (pair := gs.drop 2) (by rw [List.length_drop]; (first | lia | omega))
  refine ⟨?_, fun r hr => ?_⟩
  · unfold endsF; rw [List.length_append]; (first | lia | omega)
  · unfold endsF at hr
    rcases List.mem_append.mp hr with hr | hr
    · exact h1.2 r hr
    · exact h2.2 r hr
theorem ends1 (w : World) : EndsC w 1 := ends_step w 1 (by decide) (fun _ => ends0 w) fun nm gs h p => endsF0_bound (h rfl) p
/-! part Dic -/
def ItemEnd (s : Shared) (B : Heap) (L I : Addr) (oI : Obj) (adr : List Addr) (J : (Str → Option Value) → List (Addr × Obj) → Prop) (f : Flow) (s₃ : Shared) : Prop :=
  f = .next ∧ ∃ h' tk' m' n', s₃ = { s with heap := h', toks := tk' } ∧ Fr B L h' m' ∧ News B L h' ((I, oI) :: n') ∧ n'.map (·.1) = adr ∧ J m' n'
section
variable {w : World} {A : Around} {s : Shared} {env : Env} {B : Heap} {m : Str → Option Value} {news : List (Addr × Obj)} {E : Value → Shared → Prop} {K : Type} [DecidableEq K] {knd : KeyKind PR w K}
/-- a for over the items of a dict of the base -/
theorem for_items {vw d L : Addr} {xk xv : Str} {pk pv pt : Pos} {x1} {kvs : List (K × Value)} {ep : Nat} {body : List Stmt} {Q : Flow → Shared → Prop}
    (hL : env.locals = L) (hh : A.handled = none) (hxk : env.kindOf xk = some .local) (hxv : env.kindOf xv = some .local)
    (hp : (env.scope.kind == .class || (env.scope.kind == .module && env.locals != env.globals)) = false)
    (hvw : s.heap.IsItemsView vw d) (hD : B.DictAt knd d kvs ep) (F : Fr B L s.heap m) (N : News B L s.heap news)
    (J : Nat → (Str → Option Value) → List (Addr × Obj) → Prop) (hj : J 0 m news)
    (turn : ∀ i k key x mi ni h tk I oI E', kvs[i]? = some (k, x) → knd.is k key = true → J i mi ni → ni.map (·.1) = news.map (·.1) → Fr B L h (fun y => if y = xv then some x else if y = xk then some key else mi y) → News B L h ((I, oI) :: ni) → (∀ p ∈ ni, p.1 ≠ I) →
      wpAny (model PR w) A (execs body env) (ItemEnd s B L I oI (news.map (·.1)) (J (i + 1))) E' { s with heap := h, toks := tk })
    (done : ∀ mn nn h tk, J kvs.length mn nn → nn.map (·.1) = news.map (·.1) → Fr B L h mn → News B L h nn → Q .next { s with heap := h, toks := tk }) :
    wpAny (model PR w) A (pyIter (.ref vw)) (fun it s₂ => codeAny (model PR w) A (.forLoop (.Tuple [.Name xk pk, .Name xv pv] x1 pt) it body [] env) (fun r s' => match r with | .ok f => Q f s' | .error e => cameBackBy (model PR w) A env E e s') s₂) E s := by
  subst hL
  have hDs : s.heap.DictAt knd d kvs ep := hD.at' fun o e => F.keep _ _ e
  refine wpAny_pyIter_items hvw hDs ?_
  have hI : B.get? s.heap.objs.size = none := Heap.StaysIn.fresh F.keep
  have hIL : s.heap.objs.size ≠ env.locals := Nat.ne_of_gt F.ns.lt
  have hdI : d ≠ s.heap.objs.size := Nat.ne_of_lt hDs.lt_size
  have hdL : d ≠ env.locals := fun e => absurd (e ▸ hD.lt_size) (Nat.not_lt.mpr F.above)
  have hIn : s.heap.objs.size ∉ news.map (·.1) := fun hm => by
    (refine impApp (List.mem_map.mp hm) ?_; refine cex1 ?_; rintro p; refine cand2 ?_; rintro hp e)
    have := Heap.lt_size (N p hp).1
    rw [e] at this; exact Nat.lt_irrefl _ this
  have hF₀ : Fr B env.locals (s.heap.push { cls := .type "dict_itemiterator", data := .fields #[.none, .bool false, .ref d, .int 0 0, .int kvs.length 0, .int ep 0, .none, .none] }) m := F.push _
  have hN₀ : News B env.locals (s.heap.push { cls := .type "dict_itemiterator", data := .fields #[.none, .bool false, .ref d, .int 0 0, .int kvs.length 0, .int ep 0, .none, .none] }) news := fun p hp => ⟨Heap.get?_push_of_some _ (N p hp).1, (N p hp).2⟩
  have hit₀ : IsItemIter (s.heap.push { cls := .type "dict_itemiterator", data := .fields #[.none, .bool false, .ref d, .int 0 0, .int kvs.length 0, .int ep 0, .none, .none] }) s.heap.objs.size d 0 kvs.length ep .none .none := Heap.get?_push_size _ rfl
  generalize s.heap.objs.size = I at hI hIL hdI hIn hit₀ ⊢
  generalize (s.heap.push { cls := .type "dict_itemiterator", data := .fields #[.none, .bool false, .ref d, .int 0 0, .int kvs.length 0, .int ep 0, .none, .none] }) = h₀ at hF₀ hN₀ hit₀ ⊢
  refine codeAny_forLoop_any (R := fun r s' => match r with | .ok f => Q f s' | .error e => cameBackBy (model PR w) A env E e s')
    (fun n s' => ∃ h tk i mi ni ok ov, s' = { s with heap := h, toks := tk } ∧ IsItemIter h I d i kvs.length ep ok ov ∧ J i mi ni ∧ ni.map (·.1) = news.map (·.1) ∧ Fr B env.locals h mi ∧ News B env.locals h ni ∧ i ≤ kvs.length ∧ n = kvs.length + 1 - i)
    ?_ (kvs.length + 1) ⟨h₀, s.toks, 0, m, news, .none, .none, rfl, hit₀, hj, rfl, hF₀, hN₀, Nat.zero_le _, rfl⟩
  (rintro n s'; refine cex7 ?_; rintro H tk i mi ni ok ov; refine cand8 ?_; rintro rfl hit hJ hadr Fi Ni hi rfl)
  have hDH : H.DictAt knd d kvs ep := hD.at' fun o e => Fi.keep _ _ e
  have hIni := adr_ne hadr hIn
  cases hv : kvs[i]? with
  | none =>
    have hsz : i = kvs.length := Nat.le_antisymm hi (by simpa using hv)
    subst hsz
    refine wpAny_pyNext_items_end hh hit hDH hv fun h₁ he₁ => wpAny_execs_nil ?_
    refine done mi ni h₁ tk hJ hadr ⟨Fi.ns.at' fun o e => he₁ _ o (Ne.symm hIL) e, fun b o e => he₁ b o (fun q => by rw [q, hI] at e; cases e) (Fi.keep b o e), Fi.above⟩ fun p hp => ⟨he₁ _ _ (hIni p hp) (Ni p hp).1, (Ni p hp).2⟩
  | some kv =>
    obtain ⟨k, x⟩ := kv
    have hlt : i < kvs.length := (List.getElem?_eq_some_iff.mp hv).1
    have hiH : I < H.objs.size := Heap.lt_size hit
    refine wpAny_pyNext_items_item hit hDH hv fun key h₁ hkey heo ht₁ hz₁ hk₁ => ?_
    refine wpAny_letOwnedTupleGo_items heo fun h₂ he₂ hs₂ => ?_
    replace hs₂ : Heap.SameBut I h₁ h₂ := hs₂
    have ht₂ : h₂.IsTuple H.objs.size #[key, x] := ⟨_, (hs₂.2 _ (Nat.ne_of_gt hiH)).trans ht₁, rfl, _, rfl⟩
    have hz₂ : h₂.objs.size = H.objs.size + 1 := hs₂.1.trans hz₁
    refine wpAny_assign_Tuple hh ht₂ rfl rfl fun h₃ hx₃ => ?_
    replace hx₃ : Heap.ExtBut h₂.objs.size h₂ h₃ := hx₃
    have old : ∀ b o, b ≠ I → H.get? b = some o → h₃.get? b = some o := fun b o hb e =>
      hx₃ b o (by rw [hz₂]; exact Nat.ne_of_lt (Nat.lt_succ_of_lt (Heap.lt_size e))) (hs₂.extBut b o hb (hk₁ b o hb e))
    have F₃ : Fr B env.locals h₃ mi := ⟨Fi.ns.at' fun o e => old _ o (Ne.symm hIL) e, fun b o e => old b o (fun q => by rw [q, hI] at e; cases e) (Fi.keep b o e), Fi.above⟩
    have N₃ : News B env.locals h₃ ((I, _) :: ni) := fun p hp => by
      rcases List.mem_cons.mp hp with rfl | hp
      · exact ⟨hx₃ I _ (by rw [hz₂]; exact Nat.ne_of_lt (Nat.lt_succ_of_lt hiH)) he₂, hIL, hI⟩
      · exact ⟨old _ _ (hIni p hp) (Ni p hp).1, (Ni p hp).2⟩
    show wpAny _ _ (do holding [x] (assign (.Name xk pk) env key); do holding [] (assign (.Name xv pv) env x); pure ()) _ _ _
    refine wpAny_bind (wpAny_holding (wpAny_assign_Name (wpAny_storeName_local hxk F₃.ns (fun h₄ hn₄ hs₄ => ?_) hp)))
    have F₄ := F₃.set hn₄ hs₄
    have N₄ := N₃.set hs₄
    refine wpAny_bind (wpAny_holding (wpAny_assign_Name (wpAny_storeName_local hxv F₄.ns (fun h₅ hn₅ hs₅ => wpAny_pure ?_) hp)))
    have F₅ := F₄.set hn₅ hs₅
    have N₅ := N₄.set hs₅
    refine wpAny_mono (turn i k key x mi ni h₅ _ I _ _ hv hkey hJ hadr F₅ N₅ hIni) (fun f s₃ h₆ => ?_) fun _ _ x => x
    (revert h₆; refine cand2 ?_; rintro rfl; refine cex4 ?_; rintro h' tk' m' n'; refine cand5 ?_; rintro rfl F' N' ha' hJ')
    exact ⟨kvs.length + 1 - (i + 1), by (first | lia | omega), h', tk', i + 1, m', n', _, _, rfl, (N' _ (.head _)).1, hJ', ha', F', fun p hp => N' p (.tail _ hp), hlt, rfl⟩
end

/-! ## the tokens' table -/
def toks : List (String × Int) := [("!", 54), ("!=", 28), ("%", 24), ("%=", 40), ("&", 19), ("&=", 41), ("(", 7), (")", 8), ("*", 16), ("**", 35), ("**=", 46), ("*=", 38), ("+", 14), ("+=", 36), (",", 12), ("-", 15), ("-=", 37), ("->", 51), (".", 23), ("...", 52), ("/", 17), ("//", 47), ("//=", 48), ("/=", 39), (":", 11), (":=", 53), (";", 13), ("<", 20), ("<<", 33), ("<<=", 44), ("<=", 29), ("=", 22), ("==", 27), (">", 21), (">=", 30), (">>", 34), (">>=", 45), ("@", 49), ("@=", 50), ("[", 9), ("]", 10), ("^", 32), ("^=", 43), ("{", 25), ("|", 18), ("|=", 42), ("}", 26), ("~", 31)]
def spellTo (l : List (String × Int)) : Int → Option Str := l.foldl (fun f p n => if n = p.2 then some (Str.ofString p.1) else f n) (fun n => if n = 1 then some (Str.ofString "a") else none)
theorem spellTo_succ {i : Nat} {p : String × Int} (h : toks[i]? = some p) : spellTo (toks.take (i + 1)) = fun n => if n = p.2 then some (Str.ofString p.1) else spellTo (toks.take i) n := by
  unfold spellTo
  rw [List.take_add_one, h, List.foldl_append]
  rfl
theorem valueAt_stored {K : Type} [DecidableEq K] (kvs : List (K × Value)) (k : K) (v : Value) (y : K) : valueAt (stored kvs k v) y = if y = k then some v else valueAt kvs y := by
  unfold valueAt stored
  split
  · rename_i hany
    induction kvs with
    | nil => simp at hany
    | cons a r ih =>
      simp only [List.map_cons, List.find?_cons]
      by_cases ha : a.1 = k
      · simp only [ha, if_true]
        by_cases hy : y = k
        · subst hy; simp
        · have : ¬ k = y := fun e => hy e.symm
          simp only [this, decide_false, hy, if_false]
          by_cases hr : r.any (fun kv => decide (kv.1 = k)) = true
          · rw [ih hr]; simp [hy]
          · congr 1
            rw [map_store_of_not_mem r k v (fun hm => hr (by (refine impApp (List.mem_map.mp hm) ?_; refine cex1 ?_; rintro z; refine cand2 ?_; rintro hz e); exact List.any_eq_true.mpr ⟨z, hz, by simpa using e⟩))]
      · simp only [ha, if_false]
        have hr : r.any (fun kv => decide (kv.1 = k)) = true := by simpa [ha] using hany
        by_cases hay : a.1 = y
        · have : ¬ y = k := fun e => ha (hay.trans e)
          simp [hay, this]
        · simp only [hay, decide_false]; exact ih hr
  · rename_i hany
    rw [List.find?_append]
    by_cases hy : y = k
    · subst hy
      have : kvs.find? (fun kv => decide (kv.1 = y)) = none := by
        rw [List.find?_eq_none]; intro z hz; simp only [List.any_eq_true, not_exists, not_and] at hany; exact hany z hz
      simp [this]
    · have : ¬ k = y := fun e => hy e.symm
      simp [hy, this]

def TokPair (kv : Str × Value) (p : String × Int) : Prop := kv.1 = Str.ofString p.1 ∧ ∃ t, kv.2 = .int p.2 t
def EntLit (P : Params) : List DictEntry → List (String × Int) → Prop
  | [], [] => True
  | e :: r, p :: q => (∃ t, e.key = .str (Str.ofString p.1) t) ∧ e.hash = PyData.keyHash P (Str.ofString p.1) ∧ (∃ t, e.val = .int p.2 t) ∧ EntLit P r q
  | _, _ => False
theorem EntLit.pairs {w : World} : ∀ {es : List DictEntry} {ps : List (String × Int)}, EntLit w.params es ps → ∃ kvs, Pairs (PySem.strKind PR w) es kvs ∧ Paired TokPair kvs ps ∧ (kvs.map (·.1)) = ps.map (fun p => Str.ofString p.1)
  | [], [], _ => ⟨[], .nil, .nil, rfl⟩
  | e :: r, p :: q, ⟨⟨t, h1⟩, _, ⟨u, h3⟩, h4⟩ => by
    (refine impApp (EntLit.pairs h4) ?_; refine cex1 ?_; rintro kvs; refine cand3 ?_; rintro a b c)
    exact ⟨(Str.ofString p.1, .int p.2 u) :: kvs, .cons (by rw [h1]; exact strKind_is _ _ _ _) h3 a, .cons ⟨rfl, u, rfl⟩ b, by simp [c]⟩
  | [], _ :: _, h => h.elim
  | _ :: _, [], h => h.elim
theorem EntLit.keys {w : World} : ∀ {es : List DictEntry} {ps : List (String × Int)}, EntLit w.params es ps → KeysLit w.params es
  | [], [], _ => trivial
  | e :: r, p :: q, ⟨⟨t, h1⟩, h2, _, h4⟩ => ⟨⟨_, t, h1, h2⟩, EntLit.keys h4⟩
  | [], _ :: _, h => h.elim
  | _ :: _, [], h => h.elim
theorem tok_of {w : World} {h : Heap} {K : Frag} {a : Addr} {es : Array DictEntry} {n : Nat} (X : K.In h) (hl : K.lookup a = some ⟨.type "dict", none, .dict es n, #[]⟩) (hk : EntLit w.params es.toList toks)
    (hn : (toks.map (fun p => Str.ofString p.1)).Nodup) : ∃ kvs ep, h.DictAt (PySem.strKind PR w) a kvs ep ∧ Paired TokPair kvs toks := by
  (refine impApp (hk.pairs) ?_; refine cex1 ?_; rintro kvs; refine cand3 ?_; rintro a1 a2 a3)
  exact ⟨kvs, n, ⟨_, es, X _ _ hl, ⟨rfl, rfl, rfl⟩, rfl, (fun e he => by
    (refine impApp (hk.keys.all e (Array.mem_toList_iff.mpr he)) ?_; refine cex2 ?_; rintro x t; refine cand2 ?_; rintro e1 e2)
    exact ⟨x, by rw [e1]; exact strKind_is PR w x t, e2⟩), a1, by rw [a3]; exact hn⟩, a2⟩
theorem tok_dict {w : World} {h : Heap} (X : (Mine.hd.heap_39 w.params).In h) : ∃ kvs ep, h.DictAt (PySem.strKind PR w) 71 kvs ep ∧ Paired TokPair kvs toks := by
  walk_at "MINE fill"
  k_dflt (refine' tok_of X ?hl ?hk ?hn)
  case hl => k_is
  case hn => decide +kernel
  case hk =>
    unfold toks
    repeat' (first | exact trivial | refine And.intro ?_ ?_ | exact ⟨_, rfl⟩ | exact rfl)
/-! part Ent -/
/-- an Entry's own dict -/
def recD (P : Params) (u r : Addr) (dl rt : Value) (t1 t2 t3 t4 : Tok) : Obj := dictOf [⟨PyData.keyHash P (Str.ofString "useragents"), .str (Str.ofString "useragents") t1, .ref u⟩, ⟨PyData.keyHash P (Str.ofString "rulelines"), .str (Str.ofString "rulelines") t2, .ref r⟩,
  ⟨PyData.keyHash P (Str.ofString "delay"), .str (Str.ofString "delay") t3, dl⟩, ⟨PyData.keyHash P (Str.ofString "req_rate"), .str (Str.ofString "req_rate") t4, rt⟩] 4

theorem entry_new {w : World} {A : Around} {s : Shared} {E : Value → Shared → Prop} {p : Program} {loose : List Str} {mean : ExcName → Option Value} {mg mb : Str → Option Value} {B : Heap} {L : Addr} {m : Str → Option Value} {news : List (Addr × Obj)} {Q : Value → Shared → Prop}
    (hh : A.handled = none) (hd : A.depth + 2 < recursionLimit) (hu : A.units + 20 < cLine) (X : (Mine.hd.heap_39 w.params).In B) (T : Top p loose mean mg mb B) (F : Fr B L s.heap m) (N : News B L s.heap news)
    (k : ∀ x d u r t1 t2 t3 t4 h' tk', Fr B L h' m → News B L h' ((x, instObj 59 d) :: (d, recD w.params u r .none .none t1 t2 t3 t4) :: (u, listOf #[] 0) :: (r, listOf #[] 0) :: news) → (∀ p ∈ news, p.1 < d) → d < x → x < u → u < r → Q (.ref x) { s with heap := h', toks := tk' }) :
    wpAny (model PR w) A (call (.ref 59) []) Q E s := by
  obtain ⟨ha, dp, fr, gd, un⟩ := A
  dsimp only at hh hd hu
  subst hh
  walk_at "MINE fill"
  k_dflt (refine' call_cls (fI := 35) F X N ?k4 ?k5 ?k6 ?_)
  case k4 => k_is
  case k5 => k_is
  case k6 => k_is
  intro x d h1 F1 N1 lt1 lt2
  have hx := N1 (x, instObj 59 d) (.head _)
  have hdd := N1 (d, dictOf [] 0) (.tail _ (.head _))
  have hxd : @Ne Nat x d := Nat.ne_of_gt lt2
  have lk : ∀ b o, b ≠ d → b ≠ x → h1.get? b = some o → (less (less h1 d) x).get? b = some o := fun b o hb1 hb2 e => by rw [less_get hb2, less_get hb1]; exact e
  have stB : B.StaysIn (less (less h1 d) x) := fun b o e => lk b o (fun q => by rw [q, hdd.2.2] at e; cases e) (fun q => by rw [q, hx.2.2] at e; cases e) (F1.keep b o e)
  have stH : (less (less h1 d) x).StaysIn h1 := fun b o e => (less_of (less_of e).2).2
  have X' : (Mine.hd.heap_39 w.params).In (less (less h1 d) x) := X.keeps stB
  have T' : Top p loose mean mg mb (less (less h1 d) x) := T.keeps stB
  have X1 : (Mine.hd.heap_39 w.params).In h1 := X.keeps F1.keep
  have T1 : Top p loose mean mg mb h1 := T.keeps F1.keep
  k_dflt (refine' enter_own (s := { s with heap := h1 }) [(Str.ofString "self", .ref x)] X1 T1 ?ho ?hcd ?hr ?hb ?hl ?_ ?c2 ?c3 ?c4 ?c5)
  (case ho => k_is); (case hcd => k_is); (case hr => rw [depth_under_kw]; dsimp only; (first | lia | omega)); (case hb => exact BindsTo.of_eq rfl); (case hl => exact locs rfl); (case c2 => exact rfl); (case c3 => exact rfl); (case c4 => exact rfl); (case c5 => decide)
  intro L2 h₁ E' F2
  have F : Fr (less (less h1 d) x) L2 h₁ (fun y => [(Str.ofString "self", Value.ref x)].reverse.lookup y) := ⟨F2.ns, fun b o e => F2.keep b o (stH b o e), by rw [less_size, less_size]; exact F2.above⟩
  have hdL : @Ne Nat d L2 := Nat.ne_of_lt (Nat.lt_of_lt_of_le (Heap.lt_size hdd.1) F2.above)
  have hxL : @Ne Nat x L2 := Nat.ne_of_lt (Nat.lt_of_lt_of_le (Heap.lt_size hx.1) F2.above)
  have N : News (less (less h1 d) x) L2 h₁ [(x, instObj 59 d), (d, dictOf [] 0)] := fun q hq => by
    rcases List.mem_cons.mp hq with rfl | hq
    · exact ⟨F2.keep _ _ hx.1, hxL, less_self⟩
    · rw [List.mem_singleton.mp hq]
      exact ⟨F2.keep _ _ hdd.1, hdL, by rw [less_get (Ne.symm hxd), less_self]⟩
  have fin : ∀ h', (less (less h1 d) x).StaysIn h' → Fr B L h' m ∧ (∀ p ∈ news, h'.get? p.1 = some p.2 ∧ p.1 ≠ L ∧ B.get? p.1 = none) ∧ (∀ b, (less (less h1 d) x).get? b = none → b ≠ L ∧ B.get? b = none) := by
    intro h' st
    have hLd : L ≠ d := fun q => hdd.2.1 q.symm
    have hLx : L ≠ x := fun q => hx.2.1 q.symm
    refine ⟨⟨F1.ns.at' fun o e => st _ _ (lk _ _ hLd hLx e), fun b o e => st _ _ (stB b o e), F1.above⟩, fun p hp => ?_, fun b hb => ⟨?_, ?_⟩⟩
    · have hp1 := lt1 p hp
      have z := N1 p (.tail _ (.tail _ hp))
      exact ⟨st _ _ (lk _ _ (Nat.ne_of_lt hp1) (Nat.ne_of_lt (Nat.lt_trans hp1 lt2)) z.1), z.2⟩
    · rintro rfl
      (refine impApp (F1.ns) ?_; refine cex3 ?_; rintro oL _ _; refine cand2 ?_; rintro hL _)
      rw [lk _ _ hLd hLx hL] at hb; cases hb
    · cases e : B.get? b with
      | none => rfl
      | some o => rw [stB b o e] at hb; cases hb
  clear X T X1 T1 N1 F1 F2
  (try dsimp only); (try k_fold)
  walk_at "GO"
  rename_i u h2 lu h3 tk3 r h4 lr h5 h6 h7 F5 N5
  (refine impApp (fin _ F5.keep) ?_; refine cand3 ?_; rintro FL Nn nw)
  obtain ⟨t1, t2, t3, t4, hD5⟩ : ∃ t1 t2 t3 t4, h7.get? d = some (recD w.params u r .none .none t1 t2 t3 t4) := ⟨_, _, _, _, (N5 (d, _) (by k_mem)).1⟩
  have hd5 := nw d (N5 (d, _) (by k_mem)).2.2
  refine ⟨rfl, k x d u r t1 t2 t3 t4 _ _ FL ?_ lt1 lt2 lu.1 lr.1⟩
  have up : ∀ q ∈ _, _ := fun q hq => let z := N5 q hq; And.intro z.1 (nw q.1 z.2.2)
  rintro q hq
  rcases List.mem_cons.mp hq with rfl | hq
  · exact up _ (by k_mem)
  rcases List.mem_cons.mp hq with rfl | hq
  · exact ⟨hD5, hd5⟩
  rcases List.mem_cons.mp hq with rfl | hq
  · exact up _ (by k_mem)
  rcases List.mem_cons.mp hq with rfl | hq
  · exact up _ (by k_mem)
  exact Nn q hq
/-! part Op2 -/
theorem words2 : True := by
  k_with "MINE rec" => (first
  | exact RecAt.mono (by with_reducible assumption) (Gs.keepL (by assumption) (by k_asm) (by k_asm) (by walk_at "MINE sub"))
  | exact RecAt.mono (by with_reducible assumption) (Fr.keep (by k_asm)))
  k_with "getAttr ref" => ((k_dflt (first
  | ((with_reducible show wpAny _ _ (getAttr (Value.ref _) (Str.ofString "useragents") _) _ _ _); (refine' rec_ua ?hqX ?hqF ?hqR ?_; (case hqF => k_asm); (case hqX => k_asm); (case hqR => walk_at "MINE rec"); k_whole))
  | ((with_reducible show wpAny _ _ (getAttr (Value.ref _) (Str.ofString "rulelines") _) _ _ _); (refine' rec_rl ?hqX ?hqF ?hqR ?_; (case hqF => k_asm); (case hqX => k_asm); (case hqR => walk_at "MINE rec"); k_whole))
  | ((with_reducible show wpAny _ _ (getAttr (Value.ref _) (Str.ofString "delay") _) _ _ _); (refine' rec_dl ?hqX ?hqF ?hqR ?_; (case hqF => k_asm); (case hqX => k_asm); (case hqR => walk_at "MINE rec"); k_whole))
  | ((with_reducible show wpAny _ _ (getAttr (Value.ref _) (Str.ofString "req_rate") _) _ _ _); (refine' rec_rt ?hqX ?hqF ?hqR ?_; (case hqF => k_asm); (case hqX => k_asm); (case hqR => walk_at "MINE rec"); k_whole)))))
  k_with "call builtin:str.join" => (((with_reducible show wpAny _ _ (call (Value.builtin "str.join") [Value.str _ _, Value.ref _]) _ _ _); k_dflt (refine' join_G ?hqhl ?hqhi ?hqhw ?hqhs ?_; (case hqhl => walk_at "MINE isl"); (case hqhi => with_reducible assumption); (case hqhw => with_reducible assumption); (case hqhs => decide +kernel); k_whole); intro _ _))
  k_with "MINE dic" => (first
  | exact Heap.DictOf.keep (by with_reducible assumption) (Fr.keep (by k_asm))
  | exact Heap.DictOf.keep (by with_reducible assumption) (Gs.keepL (by assumption) (by k_asm) (by k_asm) (by walk_at "MINE sub")))
  k_with "MINE perm" => ((intro _; simp only [List.mem_cons, List.mem_append, List.not_mem_nil, or_false, or_assoc]; constructor <;> (intro hq; (repeat' ((refine Or.elim hq ?_ ?_) <;> (clear hq; intro hq))) <;> (repeat (first | exact hq | exact Or.inl hq | refine Or.inr ?_)))))
  k_with "compareOp In str ref" => (((with_reducible show wpAny _ _ (compareOp CmpOp.In (Value.str _ _) (Value.ref _)) _ _ _); k_dflt (refine' in_list_strs ?hql ?hqs ?_; (case hql => walk_at "MINE isl"); (case hqs => with_reducible assumption); k_whole)))
  trivial
/-- a record, as its attributes are read -/
def RecAt (w : World) (h : Heap) (x u r : Addr) (dl rt : Value) : Prop := ∃ d t1 t2 t3 t4, h.get? x = some (instObj 59 d) ∧ h.get? d = some (recD w.params u r dl rt t1 t2 t3 t4)
theorem RecAt.mono {w : World} {h h' : Heap} {x u r : Addr} {dl rt : Value} (R : RecAt w h x u r dl rt) (k : h.StaysIn h') : RecAt w h' x u r dl rt :=
  let ⟨d, t1, t2, t3, t4, a, b⟩ := R; ⟨d, t1, t2, t3, t4, k _ _ a, k _ _ b⟩
def Rec (w : World) (h : Heap) (v : Value) (us rs : List Str) : Prop := ∃ x u r uv rv, v = .ref x ∧ RecAt w h x u r .none .none ∧ LL h u uv ∧ StrsAre uv us ∧ LL h r rv ∧ StrsAre rv rs
theorem Rec.mono {w : World} {h h' : Heap} {v : Value} {us rs : List Str} (R : Rec w h v us rs) (k : h.StaysIn h') : Rec w h' v us rs :=
  let ⟨x, u, r, uv, rv, e, a, b, c, d, f⟩ := R; ⟨x, u, r, uv, rv, e, a.mono k, b.mono k, c, d.mono k, f⟩
section
variable {w : World} {A : Around} {s : Shared} {E : Value → Shared → Prop} {B : Heap} {L : Addr} {m : Str → Option Value} {Q : Value → Shared → Prop} {x u r : Addr} {dl rt : Value} {expr : Bool}
theorem rec_ua (X : (Mine.hd.heap_39 w.params).In B) (F : Fr B L s.heap m) (R : RecAt w s.heap x u r dl rt) (h : Q (.ref u) { s with toks := s.toks + 1 }) : wpAny (model PR w) A (getAttr (.ref x) (Str.ofString "useragents") expr) Q E s := by
  (revert R; refine cex5 ?_; rintro d t1 t2 t3 t4; refine cand2 ?_; rintro a b)
  unfold recD at b
  walk_at "MINE fill"
  k_dflt (refine' get_own F X (InstAt.mk (ox := instObj 59 d) a rfl ?no b) ?k4 ?k5 ?k6 ?k7 ?k8 ?k9 h; (case no => rfl); (case k4 => k_is); (case k5 => k_is); (case k6 => k_is); (case k7 => k_is); (case k8 => k_get); (case k9 => k_handed))
theorem rec_rl (X : (Mine.hd.heap_39 w.params).In B) (F : Fr B L s.heap m) (R : RecAt w s.heap x u r dl rt) (h : Q (.ref r) { s with toks := s.toks + 1 }) : wpAny (model PR w) A (getAttr (.ref x) (Str.ofString "rulelines") expr) Q E s := by
  (revert R; refine cex5 ?_; rintro d t1 t2 t3 t4; refine cand2 ?_; rintro a b)
  unfold recD at b
  walk_at "MINE fill"
  k_dflt (refine' get_own F X (InstAt.mk (ox := instObj 59 d) a rfl ?no b) ?k4 ?k5 ?k6 ?k7 ?k8 ?k9 h; (case no => rfl); (case k4 => k_is); (case k5 => k_is); (case k6 => k_is); (case k7 => k_is); (case k8 => k_get); (case k9 => k_handed))
theorem rec_dl (X : (Mine.hd.heap_39 w.params).In B) (F : Fr B L s.heap m) (R : RecAt w s.heap x u r .none rt) (h : Q .none { s with toks := s.toks + 1 }) : wpAny (model PR w) A (getAttr (.ref x) (Str.ofString "delay") expr) Q E s := by
  (revert R; refine cex5 ?_; rintro d t1 t2 t3 t4; refine cand2 ?_; rintro a b)
  unfold recD at b
  walk_at "MINE fill"
  k_dflt (refine' get_own F X (InstAt.mk (ox := instObj 59 d) a rfl ?no b) ?k4 ?k5 ?k6 ?k7 ?k8 ?k9 h; (case no => rfl); (case k4 => k_is); (case k5 => k_is); (case k6 => k_is); (case k7 => k_is); (case k8 => k_get); (case k9 => k_handed))
theorem rec_rt (X : (Mine.hd.heap_39 w.params).In B) (F : Fr B L s.heap m) (R : RecAt w s.heap x u r dl .none) (h : Q .none { s with toks := s.toks + 1 }) : wpAny (model PR w) A (getAttr (.ref x) (Str.ofString "req_rate") expr) Q E s := by
  (revert R; refine cex5 ?_; rintro d t1 t2 t3 t4; refine cand2 ?_; rintro a b)
  unfold recD at b
  walk_at "MINE fill"
  k_dflt (refine' get_own F X (InstAt.mk (ox := instObj 59 d) a rfl ?no b) ?k4 ?k5 ?k6 ?k7 ?k8 ?k9 h; (case no => rfl); (case k4 => k_is); (case k5 => k_is); (case k6 => k_is); (case k7 => k_is); (case k8 => k_get); (case k9 => k_handed))

/-- texts that weigh little enough -/
def Wt (ys : List Str) : Prop := (ys.map (·.length)).sum + ys.length ≤ 1048576
theorem join_G {D : Addr} {vs : List Value} {ys : List Str} {z : Str} {t : Tok} (hl : s.heap.IsList D vs.toArray) (hi : StrsAre vs ys) (hw : Wt ys) (hsep : z.length ≤ 16)
    (h : ∀ t' k, Q (.str (Txt.join z ys) t') { s with toks := k }) : wpAny (model PR w) A (call (.builtin "str.join") [.str z t, .ref D]) Q E s :=
  join_listW hl (by simpa using hi) hsep hw h
theorem ditem_G {value slice : Expr} {d : Addr} {kv : List (Int × Value)} {n : Int} {t : Tok} {v : Value} (hd : s.heap.DictOf (PySem.intKind PR w) d kv) (hl : valueAt kv n = some v) (h : Q v { s with toks := s.toks + 1 })
    (hs : subscripted slice false (.ref d) (.int n t) = operate [.ref d, .int n t] (getItem (.ref d) (.int n t)) := by with_unfolding_all rfl) (hg : ∀ r, letTemporaryGo value (.ref d) r = pure () := by intro _; with_unfolding_all rfl) :
    wpAny (model PR w) A (subscriptTail value slice (.ref d) (.int n t)) Q E s :=
  subscriptTail_builtin hd.typeIs slot_dict_getitem.lookup (wpAny_getItem_of (intKind_is _ _ _ _) hd.mapOf hl h) hs hg
end
theorem strsAre_append : ∀ {vs us : List Value} {xs ys : List Str}, StrsAre vs xs → StrsAre us ys → StrsAre (vs ++ us) (xs ++ ys)
  | _, _, _, _, .nil, h => h
  | _, _, _, _, .cons y t r, h => .cons y t (strsAre_append r h)
theorem strsAre_at {vs : List Value} {xs : List Str} (h : StrsAre vs xs) : ∀ (i : Nat) (v : Value), vs[i]? = some v → ∃ y t, v = .str y t ∧ xs[i]? = some y := by
  induction h with
  | nil => intro i v h; simp at h
  | cons y t _ ih =>
    intro i v hi
    cases i with
    | zero => simp at hi; exact ⟨y, t, hi.symm, by simp⟩
    | succ i => simp at hi; (refine impApp (ih i v hi) ?_; refine cex2 ?_; rintro y' t'; refine cand2 ?_; rintro e h'); exact ⟨y', t', e, by simpa using h'⟩
/-! part Fn7 -/
local macro_rules | `(tactic| walk_at "subscriptTail") => `(tactic| ((with_reducible show wpAny _ _ (subscriptTail _ _ (Value.ref _) (Value.int _ _)) _ _ _); (with_reducible rename Heap.DictOf (PySem.intKind _ _) _ _ _ => hD'); k_dflt (refine' ditem_G ?hd ?hl ?_; (case hl => with_reducible assumption); (case hd => walk_at "MINE dic"); k_whole)))
local macro_rules | `(tactic| walk_at "getMethod ref") => `(tactic| ((with_reducible show wpAny _ _ (getMethod (Value.ref 71) _ _) _ _ _); (rename Fr _ _ _ _ => F'); (with_reducible rename Heap.DictOf (PySem.strKind _ _) _ _ _ => hD'); k_dflt (refine getMethod_builtin (T := "dict") (Heap.DictOf.keep hD' F'.keep).typeIs PySem.F.plainAttrs_dict PySem.F.slot_dict_items PySem.F.type_dict_items (Heap.DictOf.keep hD' F'.keep).mapOf.noDict ?_)))
theorem words3 : True := by
  k_with "setItem ref int" => ((k_dflt (refine' kda_set (knd := PySem.intKind _ _) ?hqF ?hqN ?hqU ?hqd (intKind_is _ _ _ _) ?hqz ?_; (case hqF => k_asm); (case hqN => k_asm); (case hqU => k_updF); (case hqd => k_asm); (case hqz => rw [PySem.sizeLine_eq]; (first | lia | omega))); intro _ _ _ N' hd'; (try dsimp only at N'); (revert N' hd'; intro _ _)))
  trivial
def OptStr : Option Value → Option Str → Prop
  | some v, some x => ∃ t, v = .str x t
  | none, none => True
  | _, _ => False
def Spelled (kv : List (Int × Value)) (i : Nat) : Prop := ∀ n, OptStr (valueAt kv n) (spellTo (toks.take i) n)
def spl (n : Int) : Str := (spellTo toks n).getD (Str.ofString "")
def wordOf (row : List Int) : Str := Txt.join (Str.ofString "") (row.map spl)
def ruleOf (row : List Int) : Str := Txt.join (Str.ofString " ") (row.map spl)
def RowOk (row : List Int) : Prop := row.length ≤ 8 ∧ ∀ n ∈ row, ∃ z, spellTo toks n = some z ∧ z.length ≤ 3
theorem wt_of_len {ys : List Str} {c : Nat} (h : ∀ y ∈ ys, y.length ≤ c) (hc : ys.length * (c + 1) ≤ 1048576) : Wt ys := by
  unfold Wt
  have : ∀ l : List Str, (∀ y ∈ l, y.length ≤ c) → (l.map (·.length)).sum + l.length ≤ l.length * (c + 1) := by
    intro l
    induction l with
    | nil => intro _; simp
    | cons y r ih =>
      intro hl
      have h1 := hl y (.head _)
      have h2 := ih fun z hz => hl z (.tail _ hz)
      simp only [List.map_cons, List.sum_cons, List.length_cons, Nat.add_mul, Nat.one_mul] at h2 ⊢
      (first | lia | omega)
  exact Nat.le_trans (this ys h) hc
theorem RowOk.wt {row : List Int} (h : RowOk row) : Wt (row.map spl) := by
  refine wt_of_len (c := 3) (fun y hy => ?_) (by rw [List.length_map]; have := h.1; (first | lia | omega))
  (refine impApp (List.mem_map.mp hy) ?_; refine cex1 ?_; rintro n; refine cand2 ?_; rintro hn rfl)
  (refine impApp (h.2 n hn) ?_; refine cex1 ?_; rintro z; refine cand2 ?_; rintro hz hl)
  unfold spl; rw [hz]; exact hl

theorem record (w : World) (gr : List (List (List Int))) (G : Heap) (x : Int) (t : Tok) (gv : Value) (hok : GrOk gr) (hx : x = 256 ∨ x = 257) (hgr : Grown G gv gr) (hrow : ∀ row ∈ rowsF gr 3 [x], RowOk row) :
    Pure w G 104 [.int x t, gv] 12 150 (fun G' v => Rec w G' v ((rowsF gr 3 [x]).map wordOf) ((rowsF gr 3 [x]).map ruleOf)) := by
  intro p loose mean mg mb A s Q E hh hd hu X T hG k
  obtain ⟨ha, dp, fr, gd, un⟩ := A
  dsimp only at hh hd hu
  subst hh
  walk_at "MINE fill"
  refine wpAny_call ?_
  k_dflt (refine' enter_ownC [(Str.ofString "symbol", .int x t), (Str.ofString "grown", gv)] ?X ?T ?ho ?hcd ?hr ?hb ?hl ?hnd ?_ ?c2 ?c3 ?c4)
  walk_at "MINE enterC"
  intro L h₁ tk cells E' F N Y hL
  (refine impApp (CellsAre.one Y) ?_; refine cex1 ?_; rintro oc; refine cand2 ?_; rintro rfl dc)
  have S : Gs s.heap G G := Gs.init hG
  have oL1 : G.get? (L + 1) = none := by
    cases e : G.get? (L + 1) with
    | none => rfl
    | some o => exact absurd (Heap.lt_size (hG _ _ e)) (by rw [← hL]; exact Nat.not_lt.mpr (Nat.le_succ L))
  (refine impApp (id hgr) ?_; refine cex2 ?_; rintro g gvs; refine cand3 ?_; rintro rfl hgl hgp)
  change oc.data = .cell none at dc
  clear Y
  change Fr s.heap L h₁ (fun y => if y = Str.ofString "grown" then some (.ref g) else if y = Str.ofString "symbol" then some (.int x t) else none) at F
  replace N : News s.heap L h₁ ((L + 1, oc) :: gl s.heap G) := by rw [gl_self hG]; exact N
  (refine impApp (tok_dict X) ?_; refine cex2 ?_; rintro tkv tep; refine cand2 ?_; rintro hDt htp)
  have hDs : s.heap.DictOf (PySem.strKind PR w) 71 tkv := hDt.dictOf
  (try dsimp only)
  walk_at "GO"
  rename_i od lod hod hfl neD ltD h3 oc2 F N dc2
  have hkv : ∃ kv0, od.IsDictOf (intKind PR w) kv0 ∧ kv0.length = 1 ∧ Spelled kv0 0 := by
    refine ⟨_, hod, rfl, fun n => ?_⟩
    show OptStr (valueAt [((1 : Int), _)] n) (if n = 1 then some (Str.ofString "a") else none)
    unfold valueAt
    by_cases e : n = 1
    · subst e; exact ⟨_, rfl⟩
    · have : ¬ ((1 : Int) = n) := fun q => e q.symm
      rw [if_neg e, List.find?_cons]
      simp only [this, decide_false]
      exact trivial
  clear hod hfl
  have hDs : s.heap.DictOf (PySem.strKind PR w) 71 tkv := hDt.dictOf
  (revert hkv; refine cex1 ?_; rintro kv0; refine cand3 ?_; rintro hod hkl hsp)
  generalize h₁.objs.size = D at *
  refine call_meetsIn PySem.F.slot_dict_items (hDs.keep F.keep).typeIs PySem.F.entry_dict_items (PySem.F.args_dict_items_1 _) (meets_dict_items (PySem.strKind PR w) 71 rfl) ⟨⟨tkv, hDs.keep F.keep⟩, ?_⟩
  have F3 := F.push { cls := .type "dict_items", data := .fields #[.ref 71] }
  have N3 := N.pushKeep { cls := .type "dict_items", data := .fields #[.ref 71] }
  refine for_items (L := L) (kvs := tkv) (news := [(D, od), (L + 1, oc2)] ++ gl s.heap G) rfl rfl rfl rfl rfl ⟨_, Heap.get?_push_size _ rfl, rfl, rfl⟩ hDt F3 N3
    (fun i mi ni => ∃ kv oi, ni = [(D, oi), (L + 1, oc2)] ++ gl s.heap G ∧ oi.IsDictOf (intKind PR w) kv ∧ kv.length ≤ 1 + i ∧ Spelled kv i ∧ mi (Str.ofString "symbol") = some (.int x t) ∧ mi (Str.ofString "grown") = some (.ref g))
    ⟨kv0, od, rfl, hod, by (first | lia | omega), hsp, rfl, rfl⟩ ?turn ?done
  case turn =>
    (rintro i kk key xv mi ni h4 tk4 I oI E₁ hi hkey; refine cex2 ?_; rintro kv oi; refine cand6 ?_; rintro rfl hoi hl hs' e1 e2 hadr F4 N4 hne)
    (refine impApp (Paired.get htp i _ hi) ?_; refine cex1 ?_; rintro p; refine cand2 ?_; rintro hp; refine cand2 ?_; rintro hk1; refine cex1 ?_; rintro tn hx)
    obtain ⟨tkey, rfl⟩ := Value.isStrOf_shape hkey
    dsimp only at hk1 hx
    subst hk1 hx
    have hi48 : i < 48 := (List.getElem?_eq_some_iff.mp hp).1
    rw [m_see e1, m_see e2] at F4
    simp only [List.cons_append, List.nil_append] at N4
    have hDI : @Ne Nat D I := hne (D, _) (.head _)
    walk_at "GO"
    rename_i h5 o5 F5 N5 hd5
    refine ⟨rfl, _, _, _, [(D, o5), (L + 1, oc2)] ++ gl s.heap G, rfl, F5, N5, rfl, stored kv p.2 _, o5, rfl, hd5, ?_, ?_, rfl, rfl⟩
    · have := stored_length_le kv p.2 (.str (Str.ofString p.1) tkey)
      (first | lia | omega)
    · intro n
      rw [valueAt_stored, spellTo_succ hp]
      by_cases e : n = p.2
      · rw [if_pos e]; dsimp only; rw [if_pos e]; exact ⟨_, rfl⟩
      · rw [if_neg e]; dsimp only; rw [if_neg e]; exact hs' n
  case done =>
    (rintro mn nn h4 tk4; refine cex2 ?_; rintro kv oi; refine cand6 ?_; rintro rfl hoi hl hs' e1 e2 hadr F4 N4)
    rw [m_see e1, m_see e2] at F4
    simp only [List.cons_append, List.nil_append] at N4
    dsimp only
    walk_at "GO"
    refine entry_new rfl (by walk_at "MINE room") (by walk_at "MINE room") X T F4 N4 ?_
    intro xr d u r t1 t2 t3 t4 h5 tk5 F5 N5 lt5 ltx ltu ltr
    dsimp only
    walk_at "GO"
    rename_i l h6 F6 N6 lt6
    (revert lt6; refine cand7 ?_; rintro lt61 lt62 lt63 lt64 lt65 lt66 lt67)
    have ltx : @LT.lt Nat _ d xr := ltx
    have ltu : @LT.lt Nat _ xr u := ltu
    have ltr : @LT.lt Nat _ u r := ltr
    have ltD : @LT.lt Nat _ D d := lt5 (D, oi) (.head _)
    have ltL : @LT.lt Nat _ (L + 1) d := lt5 (L + 1, oc2) (.tail _ (.head _))
    have ltG : ∀ q ∈ gl s.heap G, q.1 < d := fun q hq => lt5 q (.tail _ (.tail _ hq))
    have ou : G.get? u = none := off_of S (N6 (u, listOf #[] 0) (by k_mem)).2.2 fun q hq => Nat.ne_of_lt (Nat.lt_trans (ltG q hq) (Nat.lt_trans ltx ltu))
    have or : G.get? r = none := off_of S (N6 (r, listOf #[] 0) (by k_mem)).2.2 fun q hq => Nat.ne_of_lt (Nat.lt_trans (ltG q hq) (Nat.lt_trans ltx (Nat.lt_trans ltu ltr)))
    obtain ⟨G1, S1, g1, fz1, N7, off1⟩ := freezes [(l, listOf [Value.int x t].toArray 0), (xr, instObj 59 d), (d, recD w.params u r .none .none t1 t2 t3 t4), (D, oi)] [(u, listOf #[] 0), (r, listOf #[] 0), (L + 1, oc2)]
      (news := [(l, listOf [Value.int x t].toArray 0), (xr, instObj 59 d), (d, recD w.params u r .none .none t1 t2 t3 t4), (u, listOf #[] 0), (r, listOf #[] 0), (D, oi), (L + 1, oc2)]) S F6 N6 (by walk_at "MINE perm")
    have ou1 : G1.get? u = none := off1 u (by walk_at "MINE offz") ou
    have or1 : G1.get? r = none := off1 r (by walk_at "MINE offz") or
    have oL11 : G1.get? (L + 1) = none := off1 (L + 1) (by walk_at "MINE offz") oL1
    have hRec : RecAt w G1 xr u r .none .none := ⟨d, t1, t2, t3, t4, fz1 (xr, _) (by k_mem), fz1 (d, _) (by k_mem)⟩
    have hDic : G1.DictOf (PySem.intKind PR w) D kv := Heap.dictOf_iff.mpr ⟨oi, fz1 (D, oi) (by k_mem), hoi⟩
    have hwx : wts [x] = 3 := by rcases hx with rfl | rfl <;> rfl
    have hrl := rowsF_len hok 3 [x] (fun y hy => by rw [List.mem_singleton.mp hy]; (first | lia | omega))
    refine (rows w gr 3 G1 l _ [x] (.ref g) hok (by decide) (by rw [hwx]; exact Nat.le_refl _) (fun y hy => by rw [List.mem_singleton.mp hy]; (first | lia | omega)) (by rw [hwx]; exact (by decide : 1 + 3 ≤ 8)) (LL.of (fz1 (l, _) (by k_mem))) (.cons _ _ .nil) (hgr.mono g1)).use rfl (by walk_at "MINE room") (by walk_at "MINE room") X T F6 N7 S1 (Off.cons ou1 (Off.cons or1 (Off.cons oL11 Off.nil))) ?_
    rintro v8 h8 tk8 G2 g2 S2 O2 ⟨q, qs, rfl, hqL, hqp⟩ F8 N8
    generalize hR : rowsF gr 3 [x] = R at *
    dsimp only
    refine for_list (L := L) (vs := qs) rfl rfl
      (fun j Gj mj nj => ∃ uv rv ku kr, nj = [(u, listOf uv.toArray ku), (r, listOf rv.toArray kr), (L + 1, oc2)] ∧ mj (Str.ofString "record") = some (.ref xr) ∧ StrsAre uv ((R.take j).map wordOf) ∧ StrsAre rv ((R.take j).map ruleOf))
      (fun Gj mj nj => ∃ uv rv ku kr, nj = [(u, listOf uv.toArray ku), (r, listOf rv.toArray kr), (L + 1, oc2)] ∧ mj (Str.ofString "record") = some (.ref xr) ∧ StrsAre uv (R.map wordOf) ∧ StrsAre rv (R.map ruleOf))
      hqL.isList S2 F8 N8 O2 ⟨[], [], 0, 0, rfl, rfl, .nil, .nil⟩ ?turn ?hX ?done
    case hX =>
      rintro Gj mj nj ⟨uv, rv, ku, kr, rfl, e1, hu, hr⟩
      rw [Paired.len hqp, List.take_length] at hu hr
      exact ⟨uv, rv, ku, kr, rfl, e1, hu, hr⟩
    case done =>
      rintro Gj mj nj h9 tk9 ⟨uv, rv, ku, kr, rfl, e1, hu, hr⟩ Sj gj Fj Nj Oj _
      rw [m_see e1] at Fj
      dsimp only
      walk_at "GO"
      dsimp only
      obtain ⟨G3, S3, g3, fz3, N9, _⟩ := freezes [(u, listOf uv.toArray ku), (r, listOf rv.toArray kr)] [(L + 1, oc2)] (news := [(u, listOf uv.toArray ku), (r, listOf rv.toArray kr), (L + 1, oc2)]) Sj Fj Nj (fun p => Iff.rfl)
      exact k _ _ _ G3 Fj.keep S3.x (S3.keep (news := [(L + 1, oc2)]) Fj N9) ⟨xr, u, r, uv, rv, rfl, hRec.mono (StaysIn.trans g2 (StaysIn.trans gj g3)), LL.of (fz3 (u, _) (by k_mem)), hu, LL.of (fz3 (r, _) (by k_mem)), hr⟩
    case turn =>
      rintro j v Gj mj nj h9 tk9 I oI Q₂ E₂ _ hv ⟨uv, rv, ku, kr, rfl, e1, hu, hr⟩ _ Sj gj Fj Nj Oj hne
      obtain ⟨row, hrw, ra, rvs, rfl, hra, hri⟩ := Paired.get hqp j v hv
      have hro := hrow row (List.mem_of_getElem? hrw)
      rw [m_see e1] at Fj
      simp only [List.cons_append, List.nil_append] at Nj
      have hraL : LL Gj ra rvs := hra.mono gj
      have hRj : RecAt w Gj xr u r .none .none := hRec.mono (StaysIn.trans g2 gj)
      have hDj : Gj.DictOf (PySem.intKind PR w) D kv := Heap.DictOf.keep hDic (StaysIn.trans g2 gj)
      have hj8 : j < 8 := Nat.lt_of_lt_of_le (List.getElem?_eq_some_iff.mp hrw).1 hrl
      dsimp only
      walk_at "GO"
      rename_i h10 F10 N10
      unfold CompIn
      refine src_list (news := [(I, oI), (u, listOf uv.toArray ku), (r, listOf rv.toArray kr), (L + 1, oc2)]) rfl hraL.isList Sj F10 N10 ?_
      intro I2 h11 fp St C0 F11 N11 st11
      have Xc : (Mine.hd.heap_39 w.params).In (less h11 I2) := (X.keeps F10.keep).keeps st11
      have Tc : Top p loose mean mg mb (less h11 I2) := (T.keeps F10.keep).keeps st11
      have hcc : (less h11 I2).IsCell (L + 1) (some (.ref D)) := ⟨oc2, st11 _ _ (N10 (L + 1, oc2) (by k_mem)).1, dc2⟩
      have hDc : (less h11 I2).DictOf (PySem.intKind PR w) D kv := Heap.DictOf.keep hDj (StaysIn.trans (Sj.keep (news := [(I, oI), (u, listOf uv.toArray ku), (r, listOf rv.toArray kr), (L + 1, oc2)]) F10 N10) st11)
      refine comp1_to (L := L) rfl C0 (fun i G' rs => G' = Gj ∧ i ≤ row.length ∧ StrsAre rs ((row.take i).map spl)) Sj F11 N11 Oj ⟨rfl, Nat.zero_le _, .nil⟩ ?len2 ?turn2 ?done2
      case len2 =>
        rintro i G' rs ⟨_, _, hrs⟩
        rw [hrs.length, sizeLine_eq, List.length_map, List.length_take]
        have := hro.1
        (first | lia | omega)
      case turn2 =>
        rintro i2 v2 C D2 Gi mi rs kk h12 tk12 oI2 E₃ hi2 hv2 ⟨rfl, hi2', hrs⟩ Si Gst F12 N12 O12
        obtain ⟨n, tn, rfl, hn⟩ := IntsAre.at hri i2 v2 hv2
        simp only [List.cons_append, List.nil_append] at N12
        dsimp only at F12 N12 ⊢
        have hi3 := (List.getElem?_eq_some_iff.mp hn).1
        obtain ⟨z, hz, hzl⟩ := hro.2 n (List.mem_of_getElem? hn)
        have hval : ∃ tz, valueAt kv n = some (.str z tz) := by
          have := hs' n
          rw [Paired.len htp, List.take_length, hz] at this
          cases e : valueAt kv n with
          | none => rw [e] at this; exact this.elim
          | some v => rw [e] at this; obtain ⟨tz, rfl⟩ := this; exact ⟨tz, rfl⟩
        obtain ⟨tz, hval⟩ := hval
        walk_at "GO"
        rename_i h13 F13 N13
        refine ⟨_, _, Gi, _, rfl, Si, StaysIn.refl _, F13, N13, O12, rfl, hi3, ?_⟩
        rw [List.take_add_one, hn, List.map_append]
        refine strsAre_append hrs ?_
        have : spl n = z := by unfold spl; rw [hz]; rfl
        rw [Option.toList_some, List.map_cons, List.map_nil, this]
        exact .cons _ _ .nil
      case done2 =>
        rintro D3 Gn G3 rs3 kk3 h12 tk12 ⟨rfl, _, hrs⟩ gst hD3 g3 S3 O3 F12 N12
        rw [hri.length, List.take_length] at hrs
        have hWt := hro.wt
        have hR3 : RecAt w G3 xr u r .none .none := hRj.mono g3
        have hP3 : LL G3 D3 rs3 := LL.of hD3
        clear hRj hRec hDj hDic
        have lu := hu.length
        have lr := hr.length
        simp only [List.length_map, List.length_take] at lu lr
        have ou3 : G3.get? u = none := O3 (u, _) (by k_mem)
        have or3 : G3.get? r = none := O3 (r, _) (by k_mem)
        have huI : @Ne Nat u I := hne (u, _) (by k_mem)
        have hrI : @Ne Nat r I := hne (r, _) (by k_mem)
        simp only [List.cons_append, List.nil_append] at N12
        dsimp only
        walk_at "GO"
        rename_i t14 k14 h14 tk14 t15 k15 h15 F15 N15
        rw [show ∀ z : Value, uv.toArray.push z = (uv ++ [z]).toArray from fun z => by simp, show ∀ z : Value, rv.toArray.push z = (rv ++ [z]).toArray from fun z => by simp] at N15
        refine ⟨_, _, G3, _, [(u, listOf (uv ++ [Value.str (wordOf row) t14]).toArray (ku + 1)), (r, listOf (rv ++ [Value.str (ruleOf row) t15]).toArray (kr + 1)), (L + 1, oc2)], rfl, S3, g3, F15, N15, ?_, rfl, _, _, _, _, rfl, rfl, ?_, ?_⟩
        · exact Off.cons (O3 (I, oI) (by k_mem)) (Off.cons ou3 (Off.cons or3 (Off.cons (O3 (L + 1, oc2) (by k_mem)) Off.nil)))
        · rw [List.take_add_one, hrw, List.map_append]
          exact strsAre_append hu (.cons _ _ .nil)
        · rw [List.take_add_one, hrw, List.map_append]
          exact strsAre_append hr (.cons _ _ .nil)
/-! part Fn8 -/
theorem applies_none (w : World) (G : Heap) (x : Addr) (us rs : List Str) (hR : Rec w G (.ref x) us rs) (hlen : us.length ≤ 1000) :
    Pure w G 49 [.ref x, .none] 2 20 (fun _ v => v = .bool (us.contains (Str.ofString "*"))) := by
  intro p loose mean mg mb A s Q E hh hd hu X T hG k
  obtain ⟨ha, dp, fr, gd, un⟩ := A
  dsimp only at hh hd hu
  subst hh
  (revert hR; refine cex5 ?_; rintro x' u r uv rv; refine cand6 ?_; rintro e hRec huL huS hrL hrS)
  cases e
  walk_at "MINE fill"
  refine wpAny_call ?_
  k_dflt (refine' enter_own [(Str.ofString "self", .ref x), (Str.ofString "useragent", .none)] ?X ?T ?ho ?hcd ?hr ?hb ?hl ?_ ?c2 ?c3 ?c4 ?c5)
  walk_at "MINE enter"
  intro L h₁ E' F
  have S : Gs s.heap G G := Gs.init hG
  have N : News s.heap L h₁ (gl s.heap G) := by rw [gl_self hG]; exact News.nil
  (try dsimp only); (try k_fold)
  walk_at "GO"
  dsimp only
  refine k _ _ _ G F.keep (Gx.refl _ _) (StaysIn.trans hG F.keep) ?_
  rw [List.contains_eq_any_beq]
  congr 2
  funext a
  exact Bool.beq_comm ..
def inT (hay needle : Str) : Bool := !(Builtin.Str.occurrences hay needle 0 hay.length 1).isEmpty
def headF (txt : Str) : Str := ((Txt.split txt (Str.ofString "/"))[0]?).getD (Str.ofString "")
def appF (txt a : Str) : Bool := !(a == Str.ofString "*") && inT (Txt.lower (headF txt)) (Txt.lower a)
theorem applies_str (w : World) (G : Heap) (x : Addr) (us rs : List Str) (txt : Str) (t : Tok) (hR : Rec w G (.ref x) us rs) (hlen : us.length ≤ 1000) (hul : ∀ a ∈ us, a.length ≤ 1000) (ht : txt.length ≤ 1000) :
    Pure w G 49 [.ref x, .str txt t] 2 20 (fun _ v => v = .bool (us.any (appF txt))) := by
  intro p loose mean mg mb A s Q E hh hd hu X T hG k
  obtain ⟨ha, dp, fr, gd, un⟩ := A
  dsimp only at hh hd hu
  subst hh
  (revert hR; refine cex5 ?_; rintro x' u r uv rv; refine cand6 ?_; rintro e hRec huL huS hrL hrS)
  cases e
  walk_at "MINE fill"
  refine wpAny_call ?_
  k_dflt (refine' enter_own [(Str.ofString "self", .ref x), (Str.ofString "useragent", .str txt t)] ?X ?T ?ho ?hcd ?hr ?hb ?hl ?_ ?c2 ?c3 ?c4 ?c5)
  walk_at "MINE enter"
  intro L h₁ E' F
  have S : Gs s.heap G G := Gs.init hG
  have N : News s.heap L h₁ (gl s.heap G) := by rw [gl_self hG]; exact News.nil
  (try dsimp only); (try k_fold)
  walk_at "GO"
  rename_i tk1 l h2 k2 hl1 hl2 hl3 hl4 F2 N2 y ty hy
  dsimp only
  have hyl : y.length ≤ txt.length := hl3 y (List.mem_of_getElem? hy)
  have hyh : headF txt = y := by unfold headF; rw [← hl1, show (0 : Nat) = Int.toNat 0 from rfl, hy]; rfl
  refine SCL.lower (by (first | lia | omega)) ?_
  intro _
  walk_at "GO"
  rename_i h3 F3 N3
  dsimp only at N3
  have oT : G.get? h₁.objs.size = none := off_of S (N3 (h₁.objs.size, _) (.head _)).2.2 (by rw [gl_self hG]; intro q hq; cases hq)
  generalize h₁.objs.size = T1 at *
  generalize ({ cls := Value.type "list", data := Data.seq (strValues l).toArray } : Obj) = oT1 at *
  have hlow : ∃ tl, ∀ y', (if y' = Str.ofString "useragent" then some (Value.str (Txt.lower y) (k2 + 1)) else none) = (if y' = Str.ofString "useragent" then some (Value.str (Txt.lower y) tl) else none) := ⟨_, fun _ => rfl⟩
  refine for_list (L := L) (vs := uv) rfl rfl
    (fun j Gj mj nj => Gj = G ∧ nj = [(T1, oT1)] ∧ (∃ tl, mj (Str.ofString "useragent") = some (.str (Txt.lower y) tl)) ∧ (us.take j).any (appF txt) = false)
    (fun Gj mj nj => us.any (appF txt) = false)
    (news := [(T1, oT1)]) huL.isList S F3 N3 (Off.cons oT Off.nil) ⟨rfl, rfl, ⟨_, rfl⟩, rfl⟩ ?turn ?hX ?done
  case hX =>
    (rintro Gj mj nj; refine cand4 ?_; rintro _ _ _ h)
    rw [huS.length, List.take_length] at h
    exact h
  case done =>
    rintro Gj mj nj h4 tk4 hno Sj gj Fj Nj Oj _
    dsimp only
    walk_at "GO"
    dsimp only
    exact k _ _ _ Gj Fj.keep Sj.x (Sj.keep Fj Nj) (by rw [hno])
  case turn =>
    (rintro j v Gj mj nj h4 tk4 I oI Q₂ E₂ hq hv; refine cand4 ?_; rintro rfl rfl ⟨tl, e1⟩ hno _ Sj gj Fj Nj Oj hne)
    (refine impApp (strsAre_at huS j v hv) ?_; refine cex2 ?_; rintro a ta; refine cand2 ?_; rintro rfl ha)
    have hal := hul a (List.mem_of_getElem? ha)
    rw [m_see e1] at Fj
    simp only [List.cons_append, List.nil_append] at Nj
    dsimp only
    have happ : appF txt a = (!(a == Str.ofString "*") && inT (Txt.lower y) (Txt.lower a)) := by unfold appF; rw [hyh]
    have hnext : appF txt a = false → (us.take (j + 1)).any (appF txt) = false := fun h => by
      rw [List.take_add_one, ha, List.any_append, hno, Option.toList_some, List.any_cons, List.any_nil, h]; rfl
    walk_at "GO"
    · rename_i h5 tk5 hns tk6 hll h6 F6 N6 hin
      refine ⟨_, _, Gj, _, [(T1, oT1)], rfl, Sj, StaysIn.refl _, F6, N6, Oj, rfl, rfl, rfl, ⟨tl, rfl⟩, hnext ?_⟩
      rw [happ]; unfold inT; rw [hin, Bool.not_true, Bool.and_false]
    · rename_i h5 tk5 hns tk6 hll h6 F6 N6 hin
      refine hq _ _ ?_
      dsimp only
      refine k _ _ _ Gj F6.keep Sj.x (Sj.keep (news := [(I, oI), (T1, oT1)]) F6 N6) ?_
      have ht : appF txt a = true := by
        rw [happ]; unfold inT; rw [hin, Bool.not_false, Bool.and_true]; exact hns
      rw [show us.any (appF txt) = true from List.any_eq_true.mpr ⟨a, List.mem_of_getElem? ha, ht⟩]
    · rename_i h5 F6 N6 tk6 hns
      refine ⟨_, _, Gj, _, [(T1, oT1)], rfl, Sj, StaysIn.refl _, F6, N6, Oj, rfl, rfl, rfl, ⟨tl, rfl⟩, hnext ?_⟩
      rw [happ]
      have : (!(a == Str.ofString "*")) = false := hns
      rw [this, Bool.false_and]
/-! part Setl -/
/-- a set of texts -/
def InSet (w : World) (h : Heap) (S : Addr) (ks : List Str) : Prop := ∃ n, n ≤ ks.length ∧ h.SetOf (PySem.strKind PR w) S (fun k => ks.contains k) n
theorem InSet.at_ {w : World} {h h' : Heap} {S : Addr} {ks : List Str} (x : InSet w h S ks) (e : ∀ o, h.get? S = some o → h'.get? S = some o) : InSet w h' S ks :=
  let ⟨n, hn, o, es, ep, t, ho, r⟩ := x; ⟨n, hn, o, es, ep, t, e o ho, r⟩
theorem setOf_of {w : World} {h : Heap} {S : Addr} {f g : Str → Bool} {n : Nat} (x : h.SetOf (PySem.strKind PR w) S f n) (e : f = g) : h.SetOf (PySem.strKind PR w) S g n := e ▸ x
section
variable {w : World} {A : Around} {R : Result → Shared → Prop} {E : Value → Shared → Prop}
theorem set_fill {vs : List Value} {ys : List Str} (hi : StrsAre vs ys) {I S : Addr} {fp : List Addr} {St : Nat → Heap → Prop} (W : Walks PR w A.in1 I fp [I] vs.length (fun i v => vs[i]? = some v) St) (hSf : S ∉ fp) (hSI : S ≠ I) (hb : ys.length + 1 < scanBound) :
    ∀ (k i : Nat) (s : Shared), vs.length - i = k → i ≤ vs.length → St i s.heap → InSet w s.heap S (ys.take i) →
      (∀ h' tk, (∀ b o, b ≠ S → b ≠ I → s.heap.get? b = some o → h'.get? b = some o) → InSet w h' S ys → R (.ok (.ret .none)) { s with heap := h', toks := tk }) →
      codeAny (model PR w) A (.builtin "set.update.loop" ⟨[.ref S, .ref I], []⟩) R s := by
  intro k
  induction k with
  | zero =>
    intro i s hk hi' hst hS hR
    obtain rfl : i = vs.length := by (first | lia | omega)
    refine codeAny_builtin PyProof.Rows.F.entry_set_update_loop ?_
    rw [Around.under_plainId PyProof.Rows.F.plain_set_update_loop _]
    show wpAny _ A.in1 (pyNext (.ref I) >>= _) _ _ s
    refine wpAny_bind (W.done s _ _ hst fun h' tk hm => ?_)
    show wpAny _ A.in1 (ret Value.none) _ _ _
    rw [hi.length, List.take_length] at hS
    exact wpAny_pure (hR h' tk (fun b o _ hbI e => hm b o (by simpa using hbI) e) (hS.at_ fun o e => hm S o (by simpa using hSI) e))
  | succ k ih =>
    intro i s hk hi' hst hS hR
    have hlt : i < vs.length := by (first | lia | omega)
    refine codeAny_builtin PyProof.Rows.F.entry_set_update_loop ?_
    rw [Around.under_plainId PyProof.Rows.F.plain_set_update_loop _]
    show wpAny _ A.in1 (pyNext (.ref I) >>= _) _ _ s
    refine wpAny_bind (W.item i s _ _ hlt hst fun v h₁ tk₁ hP hst₁ hm => ?_)
    (refine impApp (strsAre_at hi i v hP) ?_; refine cex2 ?_; rintro y t; refine cand2 ?_; rintro rfl hy)
    (refine impApp (hS.at_ (h' := h₁) fun o e => hm S o (by simpa using hSI) e) ?_; refine cex1 ?_; rintro n; refine cand2 ?_; rintro hn hS₁)
    rw [List.length_take] at hn
    show wpAny _ A.in1 (holding [Value.str y t] (setAdd S (.str y t)) >>= _) _ _ _
    refine wpAny_bind (wpAny_holding ?_)
    unfold setAdd
    refine wpAny_holding ?_
    refine wpAny_bind ((PySem.strKind PR w).pyHash (k := y) (strKind_is _ _ _ _) ?_)
    refine wpAny_setAddHashed_of (knd := PySem.strKind PR w) (s := { s with heap := h₁, toks := tk₁ + 1 }) (strKind_is _ _ _ _) rfl hS₁ (by (first | lia | omega)) fun h₂ hsb hS₂ => ?_
    have hS₃ : InSet w h₂ S (ys.take (i + 1)) := by
      refine ⟨_, ?_, setOf_of hS₂ ?_⟩
      · rw [List.take_add_one, hy, List.length_append, List.length_take]
        simp only [Option.toList_some, List.length_cons, List.length_nil]
        split <;> (first | lia | omega)
      · funext k'
        rw [List.take_add_one, hy, List.contains_append]
        simp
    refine wpAny_pure ⟨plainId_quiet PyProof.Rows.F.plain_set_update_loop _, ih (i + 1) _ (by (first | lia | omega)) hlt (W.frame _ _ _ hst₁ fun b hb o e => ?_) hS₃ fun h₃ tk₃ hk₃ hfin => ?_⟩
    · show h₂.get? b = some o
      rw [hsb.2 b (fun q : b = S => hSf (q ▸ hb))]; exact e
    · refine hR h₃ tk₃ (fun b o hbS hbI e => hk₃ b o hbS hbI ?_) hfin
      show h₂.get? b = some o
      rw [hsb.2 b hbS]; exact hm b o (by simpa using hbI) e
end
section
variable {w : World} {A : Around} {s : Shared} {E : Value → Shared → Prop}
theorem set_of_list {l : Addr} {vs : List Value} {ys : List Str} {Q : Value → Shared → Prop} (hh : A.handled = none) (hl : s.heap.IsList l vs.toArray) (hi : StrsAre vs ys) (hb : ys.length + 1 < scanBound)
    (h : ∀ h' tk, InSet w h' s.heap.objs.size ys → (∀ b o, b < s.heap.objs.size → s.heap.get? b = some o → h'.get? b = some o) → Q (.ref s.heap.objs.size) { s with heap := h', toks := tk }) :
    wpAny (model PR w) A (call (.type "set") [.ref l]) Q E s := by
  (refine impApp (F.called_set.mro) ?_; refine cex2 ?_; rintro c tl hmro)
  have hmade := F.called_set.made
  have hsub := F.called_set.sub
  have h1 := F.called_set.notType
  have h2 := F.called_set.canCreate
  have hct := F.typeCall_set_1 (.ref l)
  have hli := F.called_set.init.lookup
  refine wpAny_call (codeAny_of_tree ?_)
  show wpAny _ _ (callAny (.type "set") _) _ _ _
  refine wpAny_pure ⟨Code.quiet_builtin _ (by decide +kernel), codeAny_builtin F.entry_type_call ?_⟩
  rw [Around.under_plain (weight_type_call_type "set" [.ref l] []) rfl]
  repeat (any_goals (first | assumption | wp_step))
  refine codeAny_mono (code_set_new_1 (.ref l) (E := E) (Q₁ := fun obj s₁ => ∃ led : Bool, obj = .ref s.heap.objs.size ∧ s₁ = { s with heap := s.heap.push { cls := .type "set", dict := none, data := .set #[] 0 (.fresh 0 0 led) } }) fun led => ⟨led, rfl, rfl⟩) fun r s₁ hr => ?_
  rcases r with e | (obj | _ | _ | _)
  · exact hr
  all_goals (try exact hr.elim)
  (revert hr; refine cex1 ?_; rintro led; refine cand2 ?_; rintro rfl rfl)
  generalize hoS : ({ cls := .type "set", dict := none, data := .set #[] 0 (.fresh 0 0 led) } : Obj) = oS
  have hcS : oS.cls = .type "set" := by rw [← hoS]
  have hfS : oS.isFreed = false := by rw [← hoS]; rfl
  have hS : (s.heap.push oS).get? s.heap.objs.size = some oS := Heap.get?_push_size _ hfS
  have hT : Shared.TypeIs { s with heap := s.heap.push oS } (.ref s.heap.objs.size) "set" := ⟨_, hS, hcS⟩
  have hS0 : InSet w (s.heap.push oS) s.heap.objs.size [] := ⟨0, Nat.le_refl _, setOf_of (((hoS ▸ PyProof.Rows.setObjOf_fresh (knd := PySem.strKind PR w) led : oS.SetObjOf (PySem.strKind PR w) (fun _ => false) 0)).setOf hS (by unfold scanBound; (first | lia | omega))) rfl⟩
  have hbi := F.called_set.init.bind (.ref s.heap.objs.size)
  repeat (any_goals (first | assumption | wp_step))
  refine codeAny_mono (codeAny_call_builtin (R := wants (fun r s₂ => r = .none ∧ ∃ h' tk, s₂ = { s with heap := h', toks := tk } ∧ InSet w h' s.heap.objs.size ys ∧ (∀ b o, b < s.heap.objs.size → s.heap.get? b = some o → h'.get? b = some o)) E) F.called_set.init.plain F.entry_set_init (check_set_init_1 hT ?_)) fun r₂ s₂ hr₂ => ?_
  · have hlS : l < s.heap.objs.size := let ⟨_, ho, _⟩ := hl; Heap.lt_size ho
    have hl1 : (s.heap.push oS).IsList l vs.toArray := hl.push _
    (refine impApp (id hl1) ?_; refine cex1 ?_; rintro ⟨ocls, odict, odata, oslots⟩; refine cand3 ?_; rintro hol hcl; refine cex1 ?_; rintro nl hdl)
    simp only at hcl hdl
    subst hcl; subst hdl
    have hsls := F.sub_list_set
    have hslf := F.sub_list_frozenset
    have hne : (Value.type "list" == Value.type "dict") = false := by decide
    subst hoS
    unfold Builtin.«set.__init__» noKeywords Builtin.Frozenset.updateFrom
    generalize hPI : pyIter = PI
    wp_walk
    subst hPI
    refine wpAny_pyIter_list hl1 ?_
    refine wpAny_bind (wpAny_runValue ?_)
    have hsz : (s.heap.push { cls := .type "set", dict := none, data := .set #[] 0 (.fresh 0 0 led) }).objs.size = s.heap.objs.size + 1 := Heap.size_push ..
    have hneI : l ≠ (s.heap.push { cls := .type "set", dict := none, data := .set #[] 0 (.fresh 0 0 led) }).objs.size := by rw [hsz]; exact Nat.ne_of_lt (Nat.lt_succ_of_lt hlS)
    have W := Walks.list (prog := PR) (w := w) (A := A.in1.in1.in1) (by simp [hh]) (s.heap.push { cls := .type "set", dict := none, data := .set #[] 0 (.fresh 0 0 led) }).objs.size l hneI vs.toArray
    rw [show vs.toArray.size = vs.length by simp, show (fun (i : Nat) (v : Value) => vs.toArray[i]? = some v) = fun i v => vs[i]? = some v by funext i v; simp] at W
    refine set_fill hi W (S := s.heap.objs.size) ?_ ?_ hb vs.length 0 _ (by (first | lia | omega)) (Nat.zero_le _) ⟨⟨_, Heap.get?_push_size _ rfl, rfl, rfl⟩, hl1.push _⟩ ?_ ?_
    · rw [hsz]; simp only [List.mem_cons, List.not_mem_nil, or_false, not_or]; exact ⟨Nat.ne_of_lt (Nat.lt_succ_self _), Nat.ne_of_gt hlS⟩
    · rw [hsz]; exact Nat.ne_of_lt (Nat.lt_succ_self _)
    · exact hS0.at_ fun o e => Heap.get?_push_of_some _ e
    · intro h' tk hk hS'
      show wpAny _ _ _ _ _ _
      refine wpAny_pure ?_
      show wpAny _ _ (ret Value.none) _ _ _
      refine wpAny_pure ⟨rfl, h', tk, rfl, hS', fun b o hb' e => ?_⟩
      exact hk b o (Nat.ne_of_lt hb') (by rw [hsz]; exact Nat.ne_of_lt (Nat.lt_succ_of_lt hb')) (Heap.get?_push_of_some _ (Heap.get?_push_of_some _ e))
  · rcases r₂ with e | (r | _ | _ | _)
    · exact hr₂
    all_goals (try exact hr₂.elim)
    (revert hr₂; refine cand2 ?_; rintro rfl; refine cex2 ?_; rintro h' tk; refine cand3 ?_; rintro rfl hS' hk')
    repeat (any_goals (first | assumption | wp_step))
    exact h _ _ hS' hk'
end
/-! part Bnd -/
theorem lk_set_contains : typeLookup (.type "set") "__contains__" = pure (some (.builtin "set.__contains__")) := by rw [typeLookup_type]; kernel_rfl
theorem ty_set_contains : typeOf (.builtin "set.__contains__") = pure (.type "method_descriptor") := by kernel_rfl
theorem slot_md_get : Slot "method_descriptor" "__get__" "method_descriptor.__get__" :=
  .of (owner := "method_descriptor") (n := "__get__") (by rw [typeLookup_type, builtinLookup_eq_fast]; kernel_rfl) (by decide +kernel) (by decide +kernel) (by decide +kernel)
    (by first | exact .inl (by decide +kernel) | exact .inr (by decide +kernel)) (by rw [isSubtype_type]; kernel_rfl)
theorem md_noset : typeLookup (.type "method_descriptor") "__set__" = pure none := by rw [typeLookup_type, builtinLookup_eq_fast]; kernel_rfl
theorem md_nodel : typeLookup (.type "method_descriptor") "__delete__" = pure none := by rw [typeLookup_type, builtinLookup_eq_fast]; kernel_rfl
theorem entry_md_get : entryFor table "method_descriptor.__get__" = some Builtin.«method_descriptor.__get__» := entryFor_of_tree (by kernel_rfl)
theorem args_md_get (a b c : Value) : argsOk "method_descriptor.__get__" ⟨[a, b, c], []⟩ := by unfold argsOk; kernel_rfl
theorem owner_sc : (".".intercalate ("set.__contains__".cutAt '.').dropLast) = "set" := by
  have e0 : "set.__contains__".cutAt '.' = ["set", "__contains__"] := by first | rfl | decide +kernel
  rw [e0]; decide +kernel
theorem sub_set_owner : isSubtype (.type "set") (.type (".".intercalate ("set.__contains__".cutAt '.').dropLast)) = pure true := by
  rw [owner_sc, isSubtype_type]; kernel_rfl
theorem told_sc : Manifest.toldItsClass.contains "set.__contains__" = false := by decide +kernel
abbrev boundC (S : Addr) : Obj := { cls := .type "builtin_function_or_method", data := .fields #[.builtin "set.__contains__", .ref S] }
section
variable {w : World} {A : Around} {E : Value → Shared → Prop} {h : Heap} {g : Array GenState} {d : Drawn} {t : Nat} {os : OsState} {a : Addr} {o : Obj}
theorem md_get {R : Result → Shared → Prop} (hx : h.get? a = some o) (hc : o.cls = .type "set") (hq : R (.ok (.ret (.ref h.objs.size))) ⟨h.push (boundC a), g, d, t, os⟩) :
    codeAny (model PR w) A (.call (.builtin "method_descriptor.__get__") ⟨[.builtin "set.__contains__", .ref a, .type "set"], []⟩) R ⟨h, g, d, t, os⟩ := by
  have hT : (⟨h, g, d, t, os⟩ : Shared).TypeIs (.ref a) "set" := ⟨_, hx, hc⟩
  have hT5 : (⟨h, g, d, t, os⟩ : Shared).TypeIs (.builtin "set.__contains__") "method_descriptor" := ty_set_contains
  have f8 := sub_set_owner
  have f9 := told_sc
  refine codeAny_call_builtin slot_md_get.plain entry_md_get (slot_md_get.check _ _ _ _ _ _ _ _ hT5 (args_md_get _ _ _) ?_)
  repeat (any_goals (first | assumption | wp_step))
theorem sc_entry {tk : Tok} {Q : Fin → Shared → Prop} {es : Array (Int × Value)} {ep : Nat} {tb : SetTable} (hx : h.get? a = some ⟨.type "set", none, .set es ep tb, #[]⟩) (hq : Q (.done (.ret (.ref h.objs.size))) ⟨h.push (boundC a), g, d, t, os⟩) :
    wpAny (model PR w) A (Builtin.«object.__getattribute__» ⟨[.ref a, .str "__contains__" tk], []⟩) Q E ⟨h, g, d, t, os⟩ := by
  have hc : (⟨.type "set", none, .set es ep tb, #[]⟩ : Obj).cls = .type "set" := rfl
  have hT : (⟨h, g, d, t, os⟩ : Shared).TypeIs (.ref a) "set" := ⟨_, hx, hc⟩
  have hT5 : (⟨h, g, d, t, os⟩ : Shared).TypeIs (.builtin "set.__contains__") "method_descriptor" := ty_set_contains
  have f4 := lk_set_contains
  have f5 := ty_set_contains
  have f6 := slot_md_get.lookup
  have f7 := md_noset
  have f8 := md_nodel
  repeat (any_goals (first | assumption | wp_step))
  refine md_get hx hc ?_
  repeat (any_goals (first | assumption | wp_step))
theorem sc_call {tk : Tok} {R : Result → Shared → Prop} {es : Array (Int × Value)} {ep : Nat} {tb : SetTable} (hx : h.get? a = some ⟨.type "set", none, .set es ep tb, #[]⟩) (hq : R (.ok (.ret (.ref h.objs.size))) ⟨h.push (boundC a), g, d, t, os⟩) :
    codeAny (model PR w) A (.call (.builtin "set.__getattribute__") ⟨[.ref a, .str "__contains__" tk], []⟩) R ⟨h, g, d, t, os⟩ :=
  codeAny_call_builtin F.slot_set_getattribute.plain F.entry_set_ga (F.slot_set_getattribute.check _ _ _ _ _ _ _ _ (show (⟨h, g, d, t, os⟩ : Shared).TypeIs (.ref a) "set" from ⟨_, hx, rfl⟩) (F.args_set_getattribute_2 _ _) (sc_entry hx hq))
end
/-! part Bnd2 -/
section
variable {w : World} {A : Around} {E : Value → Shared → Prop} {h : Heap} {g : Array GenState} {d : Drawn} {t : Nat} {os : OsState} {a : Addr} {o : Obj}
theorem sc_attr {expr : Bool} {Q : Value → Shared → Prop} {es : Array (Int × Value)} {ep : Nat} {tb : SetTable} (hx : h.get? a = some ⟨.type "set", none, .set es ep tb, #[]⟩) (hq : Q (.ref h.objs.size) ⟨h.push (boundC a), g, d, t + 1, os⟩) :
    wpAny (model PR w) A (getAttr (.ref a) "__contains__" expr) Q E ⟨h, g, d, t, os⟩ := by
  have hT : (⟨h, g, d, t, os⟩ : Shared).TypeIs (.ref a) "set" := ⟨_, hx, rfl⟩
  have hT' : (⟨h, g, d, t + 1, os⟩ : Shared).TypeIs (.ref a) "set" := ⟨_, hx, rfl⟩
  have hb : (h.push (boundC a)).get? h.objs.size = some (boundC a) := Heap.get?_push_size _ rfl
  have f2 := F.slot_set_getattribute.lookup
  have f3 := F.slot_set_getattribute.bind (.ref a)
  unfold getAttr
  repeat (any_goals (first | assumption | wp_step))
  rw [if_neg (by cases expr <;> decide)]
  repeat (any_goals (first | assumption | wp_step))
  refine sc_call hx ?_
  repeat (any_goals (first | assumption | wp_step))
end
/-! part Bnd3 -/
theorem kind_sc : builtinKind "set.__contains__" = some .method := by decide +kernel
theorem sub_set_module : isSubtype (.type "set") (.type "module") = pure false := by rw [isSubtype_type]; kernel_rfl
theorem sub_set_type : isSubtype (.type "set") (.type "type") = pure false := by rw [isSubtype_type]; kernel_rfl
theorem va_sc : Manifest.varargsMethods.contains "set.__contains__" = false := by decide +kernel
theorem sig_sc : Manifest.signature? "set.__contains__" = some ⟨.oneArg, "set.__contains__", "__contains__", .self, [⟨"object", .posOnly, true⟩]⟩ := by kernel_rfl
theorem last_set : Bind.lastOf "set" = "set" := by decide +kernel
theorem last_sc : Bind.lastOf "set.__contains__" = "__contains__" := by decide +kernel
section
variable {w : World} {A : Around} {E : Value → Shared → Prop} {h : Heap} {g : Array GenState} {d : Drawn} {tk : Nat} {os : OsState} {S : Addr} {es : Array (Int × Value)} {ep : Nat} {tb : SetTable}
theorem check_sc {y : Str} {t : Tok} {Q : Unit → Shared → Prop} (hx : h.get? S = some ⟨.type "set", none, .set es ep tb, #[]⟩) (hq : Q () ⟨h, g, d, tk, os⟩) : wpAny (model PR w) A (checkBoundCall "set.__contains__" ⟨[.ref S, .str y t], []⟩) Q E ⟨h, g, d, tk, os⟩ := by
  have hT : (⟨h, g, d, tk, os⟩ : Shared).TypeIs (.ref S) "set" := ⟨_, hx, rfl⟩
  have f1 := kind_sc
  have f2 := sub_set_module
  have f3 := sub_set_type
  have f4 := va_sc
  have f5 := F.args_set_contains_2 (.ref S) (.str y t)
  unfold argsOk at f5
  rw [sig_sc] at f5
  unfold checkBoundCall
  rw [sig_sc, kind_sc]
  repeat (any_goals (first | assumption | wp_step))
end
/-! part Bnd4 -/
section
variable {w : World} {A : Around} {s : Shared} {E : Value → Shared → Prop}
theorem bound_call {b S : Addr} {ys : List Str} {y : Str} {t : Tok} {Q : Value → Shared → Prop} (hb : s.heap.get? b = some (boundC S)) (hS : InSet w s.heap S ys) (h : Q (.bool (ys.contains y)) { s with toks := s.toks + 1 }) :
    wpAny (model PR w) A (call (.ref b) [.str y t]) Q E s := by
  obtain ⟨hp, g, d, tk, os⟩ := s
  (revert hS; refine cex1 ?_; rintro n; refine cand2 ?_; rintro hn hSet)
  (refine impApp (id hSet) ?_; refine cex4 ?_; rintro ⟨oc, od, odt, osl⟩ es ep tb; refine cand4 ?_; rintro ho ⟨e1, e2, e3⟩ hd _)
  dsimp only at e1 e2 e3 hd ho hb
  subst e1 e2 e3 hd
  refine wpAny_call (codeAny_of_tree ?_)
  show wpAny _ _ (callAny (.ref b) _) _ _ _
  unfold callAny
  dsimp only
  refine wpAny_bind (wpAny_load hb ?_)
  dsimp only
  rw [if_pos (by decide)]
  show wpAny _ _ (if (Value.type "builtin_function_or_method" != Value.type "method") = true then _ else _) _ _ _
  rw [if_pos (by decide)]
  refine wpAny_bind (check_sc ho ?_)
  refine wpAny_pure ⟨plainId_quiet F.slot_set_contains.plain _, codeAny_builtin entry_set_contains ?_⟩
  unfold Builtin.«frozenset.__contains__» Builtin.Frozenset.oneOther
  simp only [List.isEmpty_nil, bind_assoc]
  unfold Builtin.Frozenset.addrOf Builtin.Frozenset.withSetAsKey setContains
  refine wpAny_bind (wpAny_pure ?_)
  dsimp only
  refine wpAny_bind (wpAny_pure ?_)
  dsimp only
  refine wpAny_bind (wpAny_tryCatch ?_)
  refine wpAny_holding ?_
  refine wpAny_bind ((PySem.strKind PR w).pyHash (k := y) (strKind_is _ _ _ _) ?_)
  refine wpAny_bind (wpAny_setFind_of (s := ⟨hp, g, d, tk + 1, os⟩) (strKind_is _ _ _ _) rfl hSet fun r hr => ?_)
  refine wpAny_pure ?_
  show wpAny _ _ (ret (Value.bool r.isSome)) _ _ _
  rw [hr]
  exact wpAny_pure h
end
/-! part Flt1 -/
/-! ## facts of the classes filter and map -/
section
set_option maxRecDepth 100000
theorem owner_filter : Manifest.owners.lookup (String.ofList ['r', 'e', 't', 'l', 'i', 'f'].reverse) = some Manifest.sig_filter := by kernel_rfl
theorem slot_filter_next : Slot "filter" "__next__" "filter.__next__" :=
  .of (owner := "filter") (n := "__next__") (by rw [typeLookup_type, builtinLookup_eq_fast]; kernel_rfl) (by decide +kernel) (by decide +kernel) (by decide +kernel)
    (by first | exact .inl (by decide +kernel) | exact .inr (by decide +kernel)) (by rw [isSubtype_type]; kernel_rfl)
theorem slot_filter_iter : Slot "filter" "__iter__" "filter.__iter__" :=
  .of (owner := "filter") (n := "__iter__") (by rw [typeLookup_type, builtinLookup_eq_fast]; kernel_rfl) (by decide +kernel) (by decide +kernel) (by decide +kernel)
    (by first | exact .inl (by decide +kernel) | exact .inr (by decide +kernel)) (by rw [isSubtype_type]; kernel_rfl)
theorem slot_filter_init : Slot "filter" "__init__" "object.__init__" :=
  .of (owner := "object") (n := "__init__") (by rw [typeLookup_type, builtinLookup_eq_fast]; kernel_rfl) (by decide +kernel) (by decide +kernel) (by decide +kernel)
    (by first | exact .inl (by decide +kernel) | exact .inr (by decide +kernel)) (by rw [isSubtype_type]; kernel_rfl)
theorem entry_filter_next : entryFor table "filter.__next__" = some Builtin.«filter.__next__» := entryFor_of_tree (by kernel_rfl)
theorem entry_filter_new : entryFor table "filter.__new__" = some Builtin.«filter.__new__» := entryFor_of_tree (by kernel_rfl)
theorem entry_filter_iter : entryFor table "filter.__iter__" = some Builtin.«dict_keyiterator.__iter__» :=
  entryFor_alias (id' := "dict_keyiterator.__iter__") (by kernel_rfl) (by first | rfl | decide +kernel | (unfold String.splitOn; simp +decide [String.splitOnAux])) (by decide +kernel) (by kernel_rfl)
theorem args_filter_next (a : Value) : argsOk "filter.__next__" ⟨[a], []⟩ := by
  unfold argsOk; rw [signature?_of (id := "filter.__next__") (n := ['_', '_', 't', 'x', 'e', 'n', '_', '_']) (o := ['r', 'e', 't', 'l', 'i', 'f']) (by kernel_rfl) owner_filter]; kernel_rfl
theorem args_filter_iter (a : Value) : argsOk "filter.__iter__" ⟨[a], []⟩ := by
  unfold argsOk; rw [signature?_of (id := "filter.__iter__") (n := ['_', '_', 'r', 'e', 't', 'i', '_', '_']) (o := ['r', 'e', 't', 'l', 'i', 'f']) (by kernel_rfl) owner_filter]; kernel_rfl
theorem mro_filter : mroOf (.type "filter") = pure [.type "filter", .type "object"] := by rw [mroOf_type]; kernel_rfl
theorem lookup_filter_new : typeLookup (.type "filter") "__new__" = pure (some (.builtin "filter.__new__")) := by rw [typeLookup_type, builtinLookup_eq_fast]; kernel_rfl
theorem called_filter : TypeCalled "filter" "filter.__new__" "object.__init__" :=
  ⟨by decide +kernel, by decide +kernel, ⟨_, _, mro_filter⟩, madeBy_type mro_filter lookup_filter_new (by decide +kernel), by decide +kernel, by rw [isSubtype_type]; kernel_rfl, slot_filter_init⟩
theorem typeCall_filter_2 (a b : Value) : checkTypeCall "filter" ⟨[a, b], []⟩ = pure () := by kernel_rfl
theorem newCall_filter_2 (a b : Value) : checkBuiltinCall "filter.__new__" ⟨[.type "filter", a, b], []⟩ = pure () := by kernel_rfl
theorem sub_filter : isSubtype (.type "filter") (.type "filter") = pure true := by rw [isSubtype_type]; kernel_rfl
theorem filter_no_len : typeLookup (.type "filter") "__len__" = pure none := by rw [typeLookup_type, builtinLookup_eq_fast]; kernel_rfl
theorem filter_no_hint : typeLookup (.type "filter") "__length_hint__" = pure none := by rw [typeLookup_type, builtinLookup_eq_fast]; kernel_rfl
theorem owner_map : Manifest.owners.lookup (String.ofList ['p', 'a', 'm'].reverse) = some Manifest.sig_map := by kernel_rfl
theorem slot_map_next : Slot "map" "__next__" "map.__next__" :=
  .of (owner := "map") (n := "__next__") (by rw [typeLookup_type, builtinLookup_eq_fast]; kernel_rfl) (by decide +kernel) (by decide +kernel) (by decide +kernel)
    (by first | exact .inl (by decide +kernel) | exact .inr (by decide +kernel)) (by rw [isSubtype_type]; kernel_rfl)
theorem slot_map_iter : Slot "map" "__iter__" "map.__iter__" :=
  .of (owner := "map") (n := "__iter__") (by rw [typeLookup_type, builtinLookup_eq_fast]; kernel_rfl) (by decide +kernel) (by decide +kernel) (by decide +kernel)
    (by first | exact .inl (by decide +kernel) | exact .inr (by decide +kernel)) (by rw [isSubtype_type]; kernel_rfl)
theorem slot_map_init : Slot "map" "__init__" "object.__init__" :=
  .of (owner := "object") (n := "__init__") (by rw [typeLookup_type, builtinLookup_eq_fast]; kernel_rfl) (by decide +kernel) (by decide +kernel) (by decide +kernel)
    (by first | exact .inl (by decide +kernel) | exact .inr (by decide +kernel)) (by rw [isSubtype_type]; kernel_rfl)
theorem entry_map_next : entryFor table "map.__next__" = some Builtin.«map.__next__» := entryFor_of_tree (by kernel_rfl)
theorem entry_map_new : entryFor table "map.__new__" = some Builtin.«map.__new__» := entryFor_of_tree (by kernel_rfl)
theorem entry_map_iter : entryFor table "map.__iter__" = some Builtin.«dict_keyiterator.__iter__» :=
  entryFor_alias (id' := "dict_keyiterator.__iter__") (by kernel_rfl) (by first | rfl | decide +kernel | (unfold String.splitOn; simp +decide [String.splitOnAux])) (by decide +kernel) (by kernel_rfl)
theorem args_map_next (a : Value) : argsOk "map.__next__" ⟨[a], []⟩ := by
  unfold argsOk; rw [signature?_of (id := "map.__next__") (n := ['_', '_', 't', 'x', 'e', 'n', '_', '_']) (o := ['p', 'a', 'm']) (by kernel_rfl) owner_map]; kernel_rfl
theorem args_map_iter (a : Value) : argsOk "map.__iter__" ⟨[a], []⟩ := by
  unfold argsOk; rw [signature?_of (id := "map.__iter__") (n := ['_', '_', 'r', 'e', 't', 'i', '_', '_']) (o := ['p', 'a', 'm']) (by kernel_rfl) owner_map]; kernel_rfl
theorem mro_map : mroOf (.type "map") = pure [.type "map", .type "object"] := by rw [mroOf_type]; kernel_rfl
theorem lookup_map_new : typeLookup (.type "map") "__new__" = pure (some (.builtin "map.__new__")) := by rw [typeLookup_type, builtinLookup_eq_fast]; kernel_rfl
theorem called_map : TypeCalled "map" "map.__new__" "object.__init__" :=
  ⟨by decide +kernel, by decide +kernel, ⟨_, _, mro_map⟩, madeBy_type mro_map lookup_map_new (by decide +kernel), by decide +kernel, by rw [isSubtype_type]; kernel_rfl, slot_map_init⟩
theorem typeCall_map_2 (a b : Value) : checkTypeCall "map" ⟨[a, b], []⟩ = pure () := by kernel_rfl
theorem newCall_map_2 (a b : Value) : checkBuiltinCall "map.__new__" ⟨[.type "map", a, b], []⟩ = pure () := by kernel_rfl
theorem sub_map : isSubtype (.type "map") (.type "map") = pure true := by rw [isSubtype_type]; kernel_rfl
theorem map_no_len : typeLookup (.type "map") "__len__" = pure none := by rw [typeLookup_type, builtinLookup_eq_fast]; kernel_rfl
theorem map_no_hint : typeLookup (.type "map") "__length_hint__" = pure none := by rw [typeLookup_type, builtinLookup_eq_fast]; kernel_rfl
end
/-! part Flt2 -/
/-! ## a list filled from an iterator -/
theorem mapSeq_listOf (f : Array Value → Array Value) (a : Array Value) (c : Nat) : ∃ c', Obj.mapSeq f (listOf a c) = listOf (f a) c' := ⟨_, rfl⟩
section
variable {w : World} {A : Around} {R : Result → Shared → Prop} {I : Addr} {fp wr : List Addr} {n : Nat} {P : Nat → Value → Prop} {St : Nat → Heap → Prop}
theorem ext_loop (W : Walks PR w A.in1 I fp wr n P St) (S : Addr) (hSf : S ∉ fp) (res : Value) (acc0 : Array Value) (hsz : acc0.size + n ≤ sizeLine) :
    ∀ (k i : Nat) (s : Shared) (acc : Array Value) (c : Nat), n - i = k → i ≤ n → St i s.heap → s.heap.get? S = some (listOf (acc0 ++ acc) c) → ItemsOf P acc i →
    (∀ h' tk acc' c', (∀ b o, b ≠ S → b ∉ wr → s.heap.get? b = some o → h'.get? b = some o) → h'.get? S = some (listOf (acc0 ++ acc') c') → ItemsOf P acc' n → R (.ok (.ret res)) { s with heap := h', toks := tk }) →
    codeAny (model PR w) A (.builtin "list.extend.loop" ⟨[.ref S, .ref I, res], []⟩) R s := by
  have hSw : S ∉ wr := fun h => hSf (W.sub _ h)
  intro k
  induction k with
  | zero =>
    intro i s acc c hk hi hst hS hacc hR
    have hin : i = n := by (first | lia | omega)
    subst hin
    refine codeAny_builtin PySem.F.entry_extend_loop ?_
    rw [Around.under_plainId PySem.F.plain_extend_loop _]
    show wpAny _ A.in1 (pyNext (.ref I) >>= _) _ _ s
    refine wpAny_bind (W.done s _ _ hst fun h' tk hm => ?_)
    exact wpAny_pure (hR h' tk acc c (fun b o _ hb e => hm b o hb e) (hm S _ hSw hS) hacc)
  | succ k ih =>
    intro i s acc c hk hi hst hS hacc hR
    have hlt : i < n := by (first | lia | omega)
    refine codeAny_builtin PySem.F.entry_extend_loop ?_
    rw [Around.under_plainId PySem.F.plain_extend_loop _]
    show wpAny _ A.in1 (pyNext (.ref I) >>= _) _ _ s
    refine wpAny_bind (W.item i s _ _ hlt hst fun v h' tk hP hst' hm => ?_)
    have hS' := hm S _ hSw hS
    show wpAny _ A.in1 (updateSeq S (·.push v) >>= _) _ _ _
    refine wpAny_bind ?_
    have hsa : acc.size = i := hacc.1
    obtain ⟨c2, hc2⟩ := mapSeq_listOf (·.push v) (acc0 ++ acc) c
    refine wpAny_updateSeq (s := { s with heap := h', toks := tk }) hS' rfl (wpAny_pure ⟨plainId_quiet PySem.F.plain_extend_loop _, ih (i + 1) _ (acc.push v) c2 (by (first | lia | omega)) hlt (W.frame _ _ _ hst' fun b hb o e => ?_) ?_ (hacc.push hP) fun h'' tk'' acc' c' hm'' hS'' hacc' => ?_⟩)
      (by rw [Array.size_append, hsa]; (first | lia | omega)) (by show ((acc0 ++ acc).push v).size ≤ sizeLine + 1; rw [Array.size_push, Array.size_append, hsa]; (first | lia | omega))
    · exact (Heap.get?_update_other _ _ (fun h : S = b => hSf (by rw [h]; exact hb))).trans e
    · have := Heap.get?_update_self (Obj.mapSeq (·.push v)) hS' rfl
      rw [this, hc2, Array.append_push]
    · refine hR h'' tk'' acc' c' (fun b o hbS hbw e => hm'' b o hbS hbw ?_) hS'' hacc'
      exact (Heap.get?_update_other _ _ (Ne.symm hbS)).trans (hm b o hbw e)
/-- a class without a length of its own -/
structure NoLen (T : String) : Prop where
  n1 : (Value.type T == Value.type "list") = false
  n2 : (Value.type T == Value.type "tuple") = false
  n3 : typeLookup (.type T) "__len__" = pure none
  n4 : typeLookup (.type T) "__length_hint__" = pure none
theorem ext_walk {T : String} (hT0 : NoLen T) {s : Shared} (W : Walks PR w A.in1 I fp wr n P St) (hT : ∀ i h (s : Shared), St i h → s.heap = h → s.TypeIs (.ref I) T) (S : Addr) (hSf : S ∉ fp) (hI : I ∈ fp) (res : Value) (acc0 : Array Value) (c0 : Nat) (hsz : acc0.size + n < sizeLine)
    (hst : St 0 s.heap) (hS : s.heap.get? S = some (listOf acc0 c0))
    (hR : ∀ h' tk acc' c', (∀ b o, b ≠ S → b ∉ wr → s.heap.get? b = some o → h'.get? b = some o) → h'.get? S = some (listOf (acc0 ++ acc') c') → ItemsOf P acc' n → R (.ok (.ret res)) { s with heap := h', toks := tk }) :
    wpAny (model PR w) A.in1 (Builtin.List.listExtendWith (.ref S) (.ref I) res)
      (fun fin s' => match fin with | .done f => R (.ok f) s' | .again c' => c'.quiet = true ∧ codeAny (model PR w) A c' R s') (fun e s' => R (.error e) s') s := by
  have hSI : S ≠ I := fun e => hSf (e ▸ hI)
  have hTs : s.TypeIs (.ref I) T := hT 0 _ _ hst rfl
  unfold Builtin.List.listExtendWith
  refine wpAny_bind (wpAny_typeOf hTs ?_)
  have h1 : Builtin.List.listSameRef (.ref S) (.ref I) = false := by simp [Builtin.List.listSameRef, hSI]
  simp only [h1, hT0.n1, hT0.n2, Bool.or_false, Bool.false_eq_true, if_false]
  refine wpAny_bind (W.self 0 _ _ _ hst ?_)
  refine wpAny_bind (wpAny_holding ?_)
  unfold Builtin.List.listLengthHint
  refine wpAny_bind (wpAny_specialOf hTs hT0.n3 ?_)
  show wpAny _ A.in1 (specialOf (Value.ref I) (Str.ofString "__length_hint__") >>= _) _ _ _
  refine wpAny_bind (wpAny_specialOf hTs hT0.n4 ?_)
  refine wpAny_pure ?_
  show wpAny _ A.in1 (rule "list.extend.makes-room" >>= fun _ => Builtin.List.listTouch (.ref S) >>= fun _ =>
    again (.builtin "list.extend.loop" ⟨[.ref S, .ref I, res], []⟩)) _ _ _
  refine wpAny_bind (wpAny_rule ?_)
  refine wpAny_bind ?_
  show wpAny _ A.in1 (updateSeq S (·.push .none) >>= fun _ => updateSeq S (·.pop)) _ _ _
  refine wpAny_bind (wpAny_updateSeq hS rfl ?_ (by (first | lia | omega)) (by show (acc0.push _).size ≤ _; rw [Array.size_push]; (first | lia | omega)))
  have hS₂ := Heap.get?_update_self (Obj.mapSeq (·.push Value.none)) hS rfl
  refine wpAny_updateSeq (s := { s with heap := s.heap.update S (Obj.mapSeq (·.push Value.none)) }) hS₂ rfl ?_ (by show (acc0.push _).size ≤ _; rw [Array.size_push]; (first | lia | omega)) (by show ((acc0.push _).pop).size ≤ _; rw [Array.size_pop, Array.size_push]; (first | lia | omega))
  have hS₃ := Heap.get?_update_self (Obj.mapSeq (·.pop)) hS₂ rfl
  obtain ⟨c1, hc1⟩ := mapSeq_listOf (·.push Value.none) acc0 c0
  obtain ⟨c2, hc2⟩ := mapSeq_listOf (·.pop) (acc0.push Value.none) c1
  have oth : ∀ b o, b ≠ S → s.heap.get? b = some o → ((s.heap.update S (Obj.mapSeq (·.push Value.none))).update S (Obj.mapSeq (·.pop))).get? b = some o :=
    fun b o hb e => (Heap.get?_update_other _ _ (Ne.symm hb)).trans ((Heap.get?_update_other _ _ (Ne.symm hb)).trans e)
  refine wpAny_pure ⟨plainId_quiet PySem.F.plain_extend_loop _, ext_loop W S hSf _ acc0 (by (first | lia | omega)) n 0 _ #[] c2 (by (first | lia | omega)) (Nat.zero_le _)
    (W.frame 0 s.heap _ hst fun b hb o e => oth b o (fun h => hSf (h ▸ hb)) e) ?_ (ItemsOf.nil P) fun h' tk acc' c' hm hS' hacc => ?_⟩
  · rw [hS₃, hc1, hc2]; simp
  · exact hR h' tk acc' c' (fun b o hbS hbw e => hm b o hbS hbw (oth b o hbS e)) hS' hacc
end
section
variable {w : World} {A : Around} {s : Shared} {E : Value → Shared → Prop} {I : Addr} {fp wr : List Addr} {n : Nat} {P : Nat → Value → Prop} {St : Nat → Heap → Prop}
/-- list(iterator) -/
theorem list_walk {T : String} {Q : Value → Shared → Prop} (hT0 : NoLen T) (W : Walks PR w A.in1.in1 I fp wr n P St) (hT : ∀ i h (s : Shared), St i h → s.heap = h → s.TypeIs (.ref I) T) (hst : St 0 s.heap) (hfp : ∀ b ∈ fp, b < s.heap.objs.size) (hI : I ∈ fp) (hn : n < sizeLine)
    (hQ : ∀ h' tk acc' c', (∀ b o, b ∉ wr → s.heap.get? b = some o → h'.get? b = some o) → h'.get? s.heap.objs.size = some (listOf acc' c') → ItemsOf P acc' n → Q (.ref s.heap.objs.size) { s with heap := h', toks := tk }) :
    wpAny (model PR w) A (call (.type "list") [.ref I]) Q E s := by
  have hSf : s.heap.objs.size ∉ fp := fun hm => Nat.lt_irrefl _ (hfp _ hm)
  refine callType_codes (Q₁ := fun obj s₁ => obj = .ref s.heap.objs.size ∧ s₁ = { s with heap := s.heap.push { cls := .type "list", data := .seq #[] } }) PySem.F.called_list (PySem.F.typeCall_list_1 _) PySem.F.entry_list_init
    (code_list_new _ ⟨rfl, rfl⟩) fun obj s₁ h₁ => ?_
  obtain ⟨rfl, rfl⟩ := h₁
  have hS : (s.heap.push { cls := .type "list", data := .seq #[] }).get? s.heap.objs.size = some (listOf #[] 0) := Heap.get?_push_size _ rfl
  refine ⟨⟨_, hS, rfl⟩, PySem.F.args_list_init_2 _ _, ?_⟩
  show wpAny _ _ (do let old ← Builtin.List.listItems (.ref s.heap.objs.size); Builtin.List.listUpdate (.ref s.heap.objs.size) (fun _ => #[]); letGo old.toList.reverse; Builtin.List.listExtendWith (.ref s.heap.objs.size) (.ref I) .none) _ _ _
  refine wpAny_bind ?_
  unfold Builtin.List.listItems
  refine wpAny_bind (wpAny_seqItems hS rfl (wpAny_pure ?_))
  show wpAny _ _ (updateSeq s.heap.objs.size (fun _ => #[]) >>= fun _ => letGo (#[] : Array Value).toList.reverse >>= fun _ => Builtin.List.listExtendWith (.ref s.heap.objs.size) (.ref I) .none) _ _ _
  refine wpAny_bind (wpAny_updateSeq hS rfl ?_)
  have hS₂ := Heap.get?_update_self (Obj.mapSeq (fun _ => (#[] : Array Value))) hS rfl
  obtain ⟨c1, hc1⟩ := mapSeq_listOf (fun _ => (#[] : Array Value)) #[] 0
  rw [hc1] at hS₂
  have oth : ∀ b o, b ≠ s.heap.objs.size → s.heap.get? b = some o → ((s.heap.push { cls := .type "list", data := .seq #[] }).update s.heap.objs.size (Obj.mapSeq (fun _ => (#[] : Array Value)))).get? b = some o :=
    fun b o hb e => (Heap.get?_update_other _ _ (Ne.symm hb)).trans (Heap.get?_push_of_some _ e)
  refine wpAny_bind (wpAny_letGo ?_)
  refine ext_walk hT0 W hT _ hSf hI .none #[] c1 (by simpa using hn) (W.frame 0 s.heap _ hst fun b hb o e => oth b o (fun h => hSf (h ▸ hb)) e) hS₂ fun h' tk acc' c' hm hS' hacc => ?_
  refine ⟨rfl, hQ h' tk acc' c' (fun b o hbw e => ?_) (by simpa using hS') hacc⟩
  have hb : b ≠ s.heap.objs.size := Nat.ne_of_lt (Heap.lt_size e)
  exact hm b o hb hbw (oth b o hb e)
end
/-! part Flt3 -/
/-! ## the filter object over a list of texts, its test a set's __contains__ -/
structure FltAt (w : World) (h : Heap) (F b S I l : Addr) (vs : List Value) (ks : List Str) (j : Nat) : Prop where
  obj : h.get? F = some { cls := .type "filter", data := .fields #[.ref b, .ref I] }
  it : h.IsListIter I l j
  li : h.IsList l vs.toArray
  bd : h.get? b = some (boundC S)
  st : InSet w h S ks
def inP (ks : List Str) : Value → Bool
  | .str y _ => ks.contains y
  | _ => false
theorem strs_filter {ks : List Str} : ∀ {vs : List Value} {ys : List Str}, StrsAre vs ys → StrsAre (vs.filter (inP ks)) (ys.filter ks.contains)
  | _, _, .nil => .nil
  | _, _, .cons y t r => by
    have ih := strs_filter (ks := ks) r
    rw [List.filter_cons, List.filter_cons]
    show StrsAre (if ks.contains y = true then _ else _) _
    split
    · exact .cons y t ih
    · exact ih
theorem filter_at {α : Type} (p : α → Bool) (l : List α) : ∀ (j : Nat) (x : α), l[j]? = some x → p x = true → (l.filter p)[((l.take j).filter p).length]? = some x := by
  intro j x hx hp
  obtain ⟨hj, e⟩ := List.getElem?_eq_some_iff.mp hx
  have : l.filter p = (l.take j).filter p ++ x :: (l.drop (j + 1)).filter p := by
    conv => lhs; rw [← List.take_append_drop j l, List.drop_eq_getElem_cons hj, e, List.filter_append, List.filter_cons, if_pos hp]
  rw [this, List.getElem?_append_right (Nat.le_refl _)]
  simp
section
variable {w : World} {A : Around} {s : Shared} {E : Value → Shared → Prop} {F b S I l : Addr} {vs : List Value} {ys ks : List Str}
theorem FltAt.frame {h h' : Heap} {j : Nat} (x : FltAt w h F b S I l vs ks j) (k : ∀ a ∈ [F, I, l, b, S], ∀ o, h.get? a = some o → h'.get? a = some o) : FltAt w h' F b S I l vs ks j :=
  ⟨k F (by simp) _ x.obj, x.it.at fun o e => k I (by simp) o e, x.li.at fun o e => k l (by simp) o e, k b (by simp) _ x.bd, x.st.at_ fun o e => k S (by simp) o e⟩
theorem FltAt.step {h h' : Heap} {j : Nat} (x : FltAt w h F b S I l vs ks j) (hFI : F ≠ I) (hlI : l ≠ I) (hbI : b ≠ I) (hSI : S ≠ I) (hit : h'.IsListIter I l (j + 1)) (hs : Heap.SameBut I h h') : FltAt w h' F b S I l vs ks (j + 1) :=
  ⟨hs.extBut F _ hFI x.obj, hit, x.li.extBut hs.extBut hlI, hs.extBut b _ hbI x.bd, x.st.at_ fun o e => hs.extBut S o hSI e⟩
theorem flt_body (hh : A.handled = none) (hi : StrsAre vs ys) (hFI : F ≠ I) (hlI : l ≠ I) (hbI : b ≠ I) (hSI : S ≠ I) : ∀ (k j : Nat) (R : Result → Shared → Prop) (s : Shared), vs.length - j = k → FltAt w s.heap F b S I l vs ks j →
    (∀ j' v h' tk, vs[j']? = some v → inP ks v = true → ((vs.take j').filter (inP ks)).length = ((vs.take j).filter (inP ks)).length → FltAt w h' F b S I l vs ks (j' + 1) → (∀ a o, a ∉ [I] → s.heap.get? a = some o → h'.get? a = some o) → R (.ok (.ret v)) { s with heap := h', toks := tk }) →
    (∀ e h' tk, (∃ o, h'.get? e = some o ∧ o.cls = .type "StopIteration") → ((vs.filter (inP ks)).length = ((vs.take j).filter (inP ks)).length) → (∀ a o, a ∉ [I] → s.heap.get? a = some o → h'.get? a = some o) → R (.error (.ref e)) { s with heap := h', toks := tk }) →
    wpAny (model PR w) A.in1 (Builtin.«filter.__next__» ⟨[.ref F], []⟩)
      (fun fin s' => match fin with | .done f => R (.ok f) s' | .again c' => c'.quiet = true ∧ codeAny (model PR w) A c' R s') (fun e s' => R (.error e) s') s := by
  intro k
  induction k with
  | zero =>
    intro j R s hk x hitem hend
    have hT : s.TypeIs (.ref I) "list_iterator" := x.it.typeIs
    (refine impApp (id x.it) ?_; refine cex1 ?_; rintro o; refine cand3 ?_; rintro ho hc hd)
    (refine impApp (id x.li) ?_; refine cex1 ?_; rintro ol; refine cand3 ?_; rintro hol _; refine cex1 ?_; rintro nl hdl)
    have hj : vs.length ≤ j := by (first | lia | omega)
    have hx : vs.toArray[j]? = none := by simp; (first | lia | omega)
    show wpAny _ _ (field (.ref F) 0 >>= _) _ _ s
    refine wpAny_bind (wpAny_field x.obj rfl (x := .ref b) rfl ?_)
    show wpAny _ _ (field (.ref F) 1 >>= _) _ _ s
    refine wpAny_bind (wpAny_field x.obj rfl (x := .ref I) rfl ?_)
    refine wpAny_bind (wpAny_callSpecial?_slot (name := Str.ofString "__next__") hT slot_listiter_next
      (wpAny_call_entry slot_listiter_next hT entry_listiter_next ?_ (args_listiter_next _)))
    show wpAny _ _ (field (.ref I) 0 >>= _) _ _ s
    refine wpAny_bind (wpAny_field ho hd (x := .ref l) rfl ?_)
    show wpAny _ _ (if (Value.ref l == Value.none) = true then _ else _) _ _ s
    rw [if_neg (show ¬ ((Value.ref l == Value.none) = true) from Bool.false_ne_true)]
    show wpAny _ _ (field (.ref I) 1 >>= _) _ _ s
    refine wpAny_bind (wpAny_field ho hd (x := .int j 0) rfl ?_)
    show wpAny _ _ (seqItems? (.ref l) >>= _) _ _ s
    refine wpAny_bind (wpAny_seqItems hol hdl ?_)
    simp only [Int.toNat_natCast, hx]
    refine wpAny_bind (wpAny_rule (wpAny_bind (wpAny_setField ho hd (by simp) ?_)))
    show wpAny _ _ (newExc (.type "StopIteration") [] >>= _) _ _ _
    refine wpAny_bind ?_
    simp only [newExc, newTuple]
    refine wpAny_bind (wpAny_newObj_type ?_ (by size_fits))
    refine wpAny_bind (m := firstArgMember _ _) (wpAny_of_eq (a := Value.none) (by first | rfl | (simp only [firstArgMember]; rfl)) ?_)
    refine wpAny_newObj_type ?_ (by size_fits)
    simp only [raiseNew]
    refine wpAny_bind (wpAny_handled ?_)
    rw [show A.in1.in1.handled = none from hh]
    refine wpAny_bind (wpAny_pure (wpAny_throw ?_))
    refine hend _ _ _ ⟨_, Heap.get?_push_size _ rfl, rfl⟩ ?_ fun a o' ha e => ?_
    · rw [List.take_of_length_le hj]
    · exact Heap.get?_push_of_some _ (Heap.get?_push_of_some _ ((Heap.SameBut.update ..).extBut a o' (by simpa using ha) e))
  | succ k ih =>
    intro j R s hk x hitem hend
    have hT : s.TypeIs (.ref I) "list_iterator" := x.it.typeIs
    (refine impApp (id x.it) ?_; refine cex1 ?_; rintro o; refine cand3 ?_; rintro ho hc hd)
    (refine impApp (id x.li) ?_; refine cex1 ?_; rintro ol; refine cand3 ?_; rintro hol _; refine cex1 ?_; rintro nl hdl)
    have hj : j < vs.length := by (first | lia | omega)
    have hx : vs.toArray[j]? = some vs[j] := by simp [hj]
    have hxl : vs[j]? = some vs[j] := by simp [hj]
    (refine impApp (strsAre_at hi j _ hxl) ?_; refine cex2 ?_; rintro y t; refine cand2 ?_; rintro hy hys)
    rw [hy] at hx hxl
    show wpAny _ _ (field (.ref F) 0 >>= _) _ _ s
    refine wpAny_bind (wpAny_field x.obj rfl (x := .ref b) rfl ?_)
    show wpAny _ _ (field (.ref F) 1 >>= _) _ _ s
    refine wpAny_bind (wpAny_field x.obj rfl (x := .ref I) rfl ?_)
    refine wpAny_bind (wpAny_callSpecial?_slot (name := Str.ofString "__next__") hT slot_listiter_next
      (wpAny_call_entry slot_listiter_next hT entry_listiter_next ?_ (args_listiter_next _)))
    show wpAny _ _ (field (.ref I) 0 >>= _) _ _ s
    refine wpAny_bind (wpAny_field ho hd (x := .ref l) rfl ?_)
    show wpAny _ _ (if (Value.ref l == Value.none) = true then _ else _) _ _ s
    rw [if_neg (show ¬ ((Value.ref l == Value.none) = true) from Bool.false_ne_true)]
    show wpAny _ _ (field (.ref I) 1 >>= _) _ _ s
    refine wpAny_bind (wpAny_field ho hd (x := .int j 0) rfl ?_)
    show wpAny _ _ (seqItems? (.ref l) >>= _) _ _ s
    refine wpAny_bind (wpAny_seqItems hol hdl ?_)
    simp only [Int.toNat_natCast, hx]
    refine wpAny_bind (wpAny_setField ho hd (by simp) (wpAny_pure ⟨_, rfl, ?_⟩))
    have hit' : (s.heap.update I (Obj.mapFields (fun a => a.setIfInBounds 1 (rawInt ((j : Int) + 1))))).IsListIter I l (j + 1) :=
      ⟨_, Heap.get?_update_self _ ho (Obj.isFreed_of_fields (Obj.data_mapFields hd _)), (Obj.cls_mapFields ..).trans hc, by
        rw [Obj.data_mapFields hd]; simp [rawInt]⟩
    have x' := x.step hFI hlI hbI hSI hit' (Heap.SameBut.update ..)
    have keep : ∀ a o', a ∉ [I] → s.heap.get? a = some o' → (s.heap.update I (Obj.mapFields (fun a => a.setIfInBounds 1 (rawInt ((j : Int) + 1))))).get? a = some o' := fun a o' ha e => (Heap.SameBut.update ..).extBut a o' (by simpa using ha) e
    generalize (s.heap.update I (Obj.mapFields (fun a => a.setIfInBounds 1 (rawInt ((j : Int) + 1))))) = h1 at x' keep ⊢
    show wpAny _ _ (holding [Value.str y t] (do let good ← call (.ref b) [.str y t]; holding [good] (truthy good)) >>= _) _ _ { s with heap := h1 }
    refine wpAny_bind (wpAny_holding ?_)
    refine wpAny_bind (bound_call (s := { s with heap := h1 }) x'.bd x'.st ?_)
    refine wpAny_holding ?_
    show wpAny _ _ (truthy (Value.bool (ks.contains y))) _ _ _
    refine wpAny_pure ?_
    have htk : (vs.take (j + 1)).filter (inP ks) = (vs.take j).filter (inP ks) ++ (if ks.contains y = true then [Value.str y t] else []) := by
      rw [List.take_add_one, hxl, List.filter_append]
      show _ ++ List.filter (inP ks) [Value.str y t] = _
      rw [List.filter_cons, List.filter_nil]; rfl
    cases hc : ks.contains y with
    | true =>
      show wpAny _ _ (if true = true then _ else _) _ _ _
      rw [if_pos rfl]
      exact wpAny_pure (hitem j _ h1 _ hxl hc rfl x' keep)
    | false =>
      show wpAny _ _ (if false = true then _ else _) _ _ _
      rw [if_neg Bool.false_ne_true]
      rw [hc, if_neg Bool.false_ne_true, List.append_nil] at htk
      refine wpAny_pure ⟨plainId_quiet slot_filter_next.plain _, codeAny_builtin entry_filter_next ?_⟩
      rw [Around.under_plainId slot_filter_next.plain _]
      refine ih (j + 1) R { s with heap := h1, toks := s.toks + 1 } (by (first | lia | omega)) x' ?_ ?_
      · intro j' v h' tk h1' h2' h3' h4' h5'
        exact hitem j' v h' tk h1' h2' (by rw [h3', htk]) h4' fun a o' ha e => h5' a o' ha (keep a o' ha e)
      · intro e h' tk he h3' h5'
        exact hend e h' tk he (by rw [h3', htk]) fun a o' ha e => h5' a o' ha (keep a o' ha e)
end
/-! part Flt4 -/
section
variable {w : World} {A : Around} {s : Shared} {E : Value → Shared → Prop} {F b S I l : Addr} {vs : List Value} {ys ks : List Str}
theorem walks_filter (hh : A.handled = none) (hi : StrsAre vs ys) (hFI : F ≠ I) (hlI : l ≠ I) (hbI : b ≠ I) (hSI : S ≠ I) :
    Walks PR w A F [F, I, l, b, S] [I] (vs.filter (inP ks)).length (fun i v => (vs.filter (inP ks))[i]? = some v) (fun i h => ∃ j, FltAt w h F b S I l vs ks j ∧ ((vs.take j).filter (inP ks)).length = i) where
  sub := fun b hb => by simp at hb; simp [hb]
  frame := fun _ _ _ ⟨j, x, e⟩ hk => ⟨j, x.frame hk, e⟩
  item := fun i s Q E hi' ⟨j, x, e⟩ hQ => by
    have hT : s.TypeIs (.ref F) "filter" := ⟨_, x.obj, rfl⟩
    unfold pyNext
    refine wpAny_bind (wpAny_attempt (wpAny_callSpecial?_slot (name := Str.ofString "__next__") hT slot_filter_next
      (wpAny_call (codeAny_call_builtin slot_filter_next.plain entry_filter_next (slot_filter_next.check _ _ _ _ _ _ _ _ hT (args_filter_next _) ?_)))))
    refine flt_body hh hi hFI hlI hbI hSI _ j (wants _ _) s rfl x ?_ ?_
    · intro j' v h' tk h1 h2 h3 h4 h5
      refine wpAny_pure (hQ v h' tk ?_ ⟨j' + 1, h4, ?_⟩ h5)
      · have := filter_at (inP ks) vs j' v h1 h2
        rw [h3, e] at this; exact this
      · rw [List.take_add_one, h1, List.filter_append, List.length_append, h3, e]
        simp [h2]
    · intro e' h' tk _ h3 _
      rw [e] at h3; (first | lia | omega)
  done := fun s Q E ⟨j, x, e⟩ hQ => by
    have hT : s.TypeIs (.ref F) "filter" := ⟨_, x.obj, rfl⟩
    unfold pyNext
    refine wpAny_bind (wpAny_attempt (wpAny_callSpecial?_slot (name := Str.ofString "__next__") hT slot_filter_next
      (wpAny_call (codeAny_call_builtin slot_filter_next.plain entry_filter_next (slot_filter_next.check _ _ _ _ _ _ _ _ hT (args_filter_next _) ?_)))))
    refine flt_body hh hi hFI hlI hbI hSI _ j (wants _ _) s rfl x ?_ ?_
    · intro j' v h' tk h1 h2 h3 h4 h5
      exfalso
      have := filter_at (inP ks) vs j' v h1 h2
      rw [h3, e, List.getElem?_eq_none (Nat.le_refl _)] at this; cases this
    · (rintro e' h' tk; refine cex1 ?_; rintro o; refine cand2 ?_; rintro ho hc h3 h5)
      refine wpAny_bind (wpAny_isInstance (T := "StopIteration") (b := true) ⟨o, ho, hc⟩ isSubtype_stop ?_)
      exact wpAny_pure (hQ _ _ h5)
  self := fun i s Q E ⟨j, x, e⟩ hQ => by
    have hT : s.TypeIs (.ref F) "filter" := ⟨_, x.obj, rfl⟩
    refine wpAny_pyIter_slot hT slot_filter_iter (wpAny_call_entry slot_filter_iter hT entry_filter_iter ?_ (args_filter_iter _))
    show wpAny _ _ (ret (.ref F)) _ _ s
    exact wpAny_pure ⟨_, rfl, "filter", _, hT, slot_filter_next.lookup, hQ⟩
abbrev filterO (b I : Addr) : Obj := { cls := .type "filter", data := .fields #[.ref b, .ref I] }
theorem meets_filter_new (b l : Addr) (items : Array Value) (n : Nat) (dct : Option Addr) (sl : Array (Option Value)) :
    Meets (Builtin.«filter.__new__» ⟨[.type "filter", .ref b, .ref l], []⟩) (fun _ R s => s.heap.get? l = some { cls := .type "list", dict := dct, data := .seq items n, slots := sl } ∧
      R (.ok (.ret (.ref (s.heap.push { cls := .type "list_iterator", data := .fields #[.ref l, .int 0 0] }).objs.size)))
        { s with heap := (s.heap.push { cls := .type "list_iterator", data := .fields #[.ref l, .int 0 0] }).push (filterO b s.heap.objs.size) }) :=
  .of_wp fun prog w A R s h => by
    obtain ⟨hp, g, d, tk, os⟩ := s; obtain ⟨hl, h⟩ := h
    have hsub := sub_filter
    have hL : Heap.IsList (Shared.heap ⟨hp, g, d, tk, os⟩) l items := ⟨_, hl, rfl, n, rfl⟩
    wp_walk using AutoSeq1.wpAny_loadPart' hl, wpAny_pyIter_list hL
    exact ⟨_, rfl, h⟩
theorem call_filter {items : Array Value} {Q : Value → Shared → Prop} (hL : s.heap.IsList l items)
    (h : Q (.ref (s.heap.objs.size + 1)) { s with heap := (s.heap.push { cls := .type "list_iterator", data := .fields #[.ref l, .int 0 0] }).push (filterO b s.heap.objs.size) }) :
    wpAny (model PR w) A (call (.type "filter") [.ref b, .ref l]) Q E s := by
  (revert hL; refine cex1 ?_; rintro ⟨c, dct, dt, sl⟩; refine cand3 ?_; rintro hl hc; refine cex1 ?_; rintro n hd)
  replace hc : c = .type "list" := hc
  replace hd : dt = .seq items n := hd
  subst hc hd
  refine callType_new called_filter (by decide) (typeCall_filter_2 _ _) (newCall_filter_2 _ _) (fun obj => PySem.F.args_object_init_3 obj _ _) entry_filter_new
    (meets_filter_new b l items n dct sl) ⟨hl, ?_⟩
  have hz : (s.heap.push { cls := .type "list_iterator", data := .fields #[.ref l, .int 0 0] }).objs.size = s.heap.objs.size + 1 := Heap.size_push ..
  show _ ∧ _
  rw [hz]
  have he : ((s.heap.push { cls := .type "list_iterator", data := .fields #[.ref l, .int 0 0] }).push (filterO b s.heap.objs.size)).get? (s.heap.objs.size + 1) = some (filterO b s.heap.objs.size) := by
    have := Heap.get?_push_size (s.heap.push { cls := .type "list_iterator", data := .fields #[.ref l, .int 0 0] }) (o := filterO b s.heap.objs.size) rfl
    rw [hz] at this; exact this
  exact ⟨⟨_, he, rfl⟩, h⟩
theorem nolen_filter : NoLen "filter" := ⟨by decide, by decide, filter_no_len, filter_no_hint⟩
theorem itemsOf_list {vs : List Value} {acc : Array Value} (h : ItemsOf (fun i v => vs[i]? = some v) acc vs.length) : acc = vs.toArray := by
  apply Array.ext
  · rw [h.1]; simp
  · intro i h1 h2
    have : vs[i]? = some acc[i] := h.2 i acc[i] (by simp [h1])
    rw [List.getElem?_eq_some_iff] at this
    obtain ⟨h3, h4⟩ := this
    simp [h4]
/-- list(filter(set.__contains__, list of texts)) -/
theorem list_of_filter {Q : Value → Shared → Prop} (hh : A.handled = none) (hi : StrsAre vs ys) (hb : s.heap.get? b = some (boundC S)) (hS : InSet w s.heap S ks) (hl : s.heap.IsList l vs.toArray) (hn : vs.length < sizeLine)
    (h : ∀ D h' tk c, (∀ a o, s.heap.get? a = some o → h'.get? a = some o) → s.heap.objs.size ≤ D → h'.get? D = some (listOf (vs.filter (inP ks)).toArray c) → Q (.ref D) { s with heap := h', toks := tk }) :
    wpAny (model PR w) A (call (.type "filter") [.ref b, .ref l]) (fun v s₁ => wpAny (model PR w) A (call (.type "list") [v]) Q E s₁) E s := by
  refine call_filter hl ?_
  have hls : l < s.heap.objs.size := let ⟨_, ho, _⟩ := hl; Heap.lt_size ho
  have hbs : b < s.heap.objs.size := Heap.lt_size hb
  have hSs : S < s.heap.objs.size := by (revert hS; refine cex1 ?_; rintro n; refine cand2 ?_; rintro _; refine cex4 ?_; rintro o es ep t; refine cand2 ?_; rintro ho _); exact Heap.lt_size ho
  have hz : (s.heap.push { cls := .type "list_iterator", data := .fields #[.ref l, .int 0 0] }).objs.size = s.heap.objs.size + 1 := Heap.size_push ..
  have up : ∀ a o, s.heap.get? a = some o → ((s.heap.push { cls := .type "list_iterator", data := .fields #[.ref l, .int 0 0] }).push (filterO b s.heap.objs.size)).get? a = some o := fun a o e => Heap.get?_push_of_some _ (Heap.get?_push_of_some _ e)
  have he : ((s.heap.push { cls := .type "list_iterator", data := .fields #[.ref l, .int 0 0] }).push (filterO b s.heap.objs.size)).get? (s.heap.objs.size + 1) = some (filterO b s.heap.objs.size) := by
    have := Heap.get?_push_size (s.heap.push { cls := .type "list_iterator", data := .fields #[.ref l, .int 0 0] }) (o := filterO b s.heap.objs.size) rfl
    rw [hz] at this; exact this
  have hz2 : ((s.heap.push { cls := .type "list_iterator", data := .fields #[.ref l, .int 0 0] }).push (filterO b s.heap.objs.size)).objs.size = s.heap.objs.size + 2 := by rw [Heap.size_push, hz]
  have x0 : FltAt w ((s.heap.push { cls := .type "list_iterator", data := .fields #[.ref l, .int 0 0] }).push (filterO b s.heap.objs.size)) (s.heap.objs.size + 1) b S s.heap.objs.size l vs ks 0 :=
    ⟨he, ⟨_, Heap.get?_push_of_some _ (Heap.get?_push_size _ rfl), rfl, rfl⟩, hl.at fun o e => up l o e, up b _ hb, hS.at_ fun o e => up S o e⟩
  have W := walks_filter (w := w) (A := A.in1.in1) (vs := vs) (ys := ys) (ks := ks) (F := s.heap.objs.size + 1) (b := b) (S := S) (I := s.heap.objs.size) (l := l) hh hi (Nat.succ_ne_self _) (Nat.ne_of_lt hls) (Nat.ne_of_lt hbs) (Nat.ne_of_lt hSs)
  have hfl : (vs.filter (inP ks)).length ≤ vs.length := List.length_filter_le _ _
  refine list_walk nolen_filter W (fun i h' s' ⟨j, x, _⟩ e => ⟨_, e ▸ x.obj, rfl⟩) ⟨0, x0, by simp⟩ ?_ (by simp) (by (first | lia | omega)) ?_
  · intro a ha
    dsimp only
    rw [hz2]
    simp only [List.mem_cons, List.not_mem_nil, or_false] at ha
    rcases ha with rfl | rfl | rfl | rfl | rfl
    · exact Nat.lt_succ_self _
    · exact Nat.lt_add_of_pos_right (by decide)
    · exact Nat.lt_of_lt_of_le hls (Nat.le_add_right _ _)
    · exact Nat.lt_of_lt_of_le hbs (Nat.le_add_right _ _)
    · exact Nat.lt_of_lt_of_le hSs (Nat.le_add_right _ _)
  · intro h' tk acc' c' hk hD hacc
    rw [itemsOf_list hacc] at hD
    refine h _ h' tk c' (fun a o e => hk a o ?_ (up a o e)) (by dsimp only; rw [hz2]; exact Nat.le_add_right _ _) hD
    rw [List.mem_singleton]
    exact Nat.ne_of_lt (Heap.lt_size e)
end
/-! part Flt5 -/
/-! ## map(str, list of texts) -/
abbrev mapO (T : Addr) : Obj := { cls := .type "map", data := .fields #[.ref T, .type "str"] }
abbrev tup1 (I : Addr) : Obj := { cls := .type "tuple", data := .seq #[.ref I] }
structure MapAt (h : Heap) (M T I l : Addr) (vs : List Value) (j : Nat) : Prop where
  obj : h.get? M = some (mapO T)
  tup : h.get? T = some (tup1 I)
  it : h.IsListIter I l j
  li : h.IsList l vs.toArray
section
variable {w : World} {A : Around} {s : Shared} {E : Value → Shared → Prop} {M T I l : Addr} {vs : List Value} {ys : List Str}
theorem MapAt.frame {h h' : Heap} {j : Nat} (x : MapAt h M T I l vs j) (k : ∀ a ∈ [M, T, I, l], ∀ o, h.get? a = some o → h'.get? a = some o) : MapAt h' M T I l vs j :=
  ⟨k M (by simp) _ x.obj, k T (by simp) _ x.tup, x.it.at fun o e => k I (by simp) o e, x.li.at fun o e => k l (by simp) o e⟩
theorem walks_map (hh : A.handled = none) (hi : StrsAre vs ys) (hMI : M ≠ I) (hTI : T ≠ I) (hlI : l ≠ I) :
    Walks PR w A M [M, T, I, l] [I] vs.length (fun i v => vs[i]? = some v) (fun i h => MapAt h M T I l vs i) where
  sub := fun b hb => by simp at hb; simp [hb]
  frame := fun _ _ _ x hk => x.frame hk
  item := fun i s Q E hi' x hQ => by
    have hT : s.TypeIs (.ref M) "map" := ⟨_, x.obj, rfl⟩
    have hxl : vs[i]? = some vs[i] := by simp [hi']
    (refine impApp (strsAre_at hi i _ hxl) ?_; refine cex2 ?_; rintro y t; refine cand2 ?_; rintro hy _)
    rw [hy] at hxl
    unfold pyNext
    refine wpAny_bind (wpAny_attempt (wpAny_callSpecial?_slot (name := Str.ofString "__next__") hT slot_map_next
      (wpAny_call_entry slot_map_next hT entry_map_next ?_ (args_map_next _))))
    show wpAny _ _ (field (.ref M) 0 >>= _) _ _ s
    refine wpAny_bind (wpAny_field x.obj rfl (x := .ref T) rfl ?_)
    show wpAny _ _ (seqItems? (.ref T) >>= _) _ _ s
    refine wpAny_bind (wpAny_seqItems x.tup rfl ?_)
    dsimp only
    refine wpAny_bind ?_
    rw [← Array.forIn_toList]
    show wpAny _ _ (forIn [Value.ref I] #[] _) _ _ s
    rw [List.forIn_cons]
    refine wpAny_bind (wpAny_bind ?_)
    show wpAny _ _ (holding [] (Builtin.SmallTypes.nextOf (.ref I))) _ _ s
    refine wpAny_holding (wpAny_nextOf_list_item x.it x.li (x := .str y t) (by simpa using hxl) fun h' hit' hs' => ?_)
    have hM' : h'.get? M = some (mapO T) := hs'.extBut M _ hMI x.obj
    have hT' : h'.get? T = some (tup1 I) := hs'.extBut T _ hTI x.tup
    refine wpAny_pure ?_
    dsimp only
    rw [List.forIn_nil]
    refine wpAny_pure ?_
    show wpAny _ _ (field (.ref M) 1 >>= _) _ _ { s with heap := h' }
    refine wpAny_bind (wpAny_field (s := { s with heap := h' }) hM' rfl (x := .type "str") rfl ?_)
    show wpAny _ _ (holding [Value.str y t] (call (.type "str") [Value.str y t]) >>= _) _ _ { s with heap := h' }
    refine wpAny_bind (wpAny_holding ?_)
    refine P.str_of_str ?_
    show wpAny _ _ (letGo [Value.str y t] [Value.str y t] >>= _) _ _ _
    refine wpAny_bind (wpAny_letGo ?_)
    refine wpAny_pure ⟨_, rfl, ?_⟩
    exact wpAny_pure (hQ _ h' _ hxl ⟨hM', hT', hit', x.li.extBut hs'.extBut hlI⟩ fun b o hb e => hs'.extBut b o (by simpa using hb) e)
  done := fun s Q E x hQ => by
    have hT : s.TypeIs (.ref M) "map" := ⟨_, x.obj, rfl⟩
    unfold pyNext
    refine wpAny_bind (wpAny_attempt (wpAny_callSpecial?_slot (name := Str.ofString "__next__") hT slot_map_next
      (wpAny_call_entry slot_map_next hT entry_map_next ?_ (args_map_next _))))
    show wpAny _ _ (field (.ref M) 0 >>= _) _ _ s
    refine wpAny_bind (wpAny_field x.obj rfl (x := .ref T) rfl ?_)
    show wpAny _ _ (seqItems? (.ref T) >>= _) _ _ s
    refine wpAny_bind (wpAny_seqItems x.tup rfl ?_)
    dsimp only
    refine wpAny_bind ?_
    rw [← Array.forIn_toList]
    show wpAny _ _ (forIn [Value.ref I] #[] _) _ _ s
    rw [List.forIn_cons]
    refine wpAny_bind (wpAny_bind ?_)
    show wpAny _ _ (holding [] (Builtin.SmallTypes.nextOf (.ref I))) _ _ s
    refine (wpAny_holding (wpAny_nextOf_list_end hh x.it x.li (by simp) fun h' e he' hx' => ?_))
    (revert hx'; refine cex1 ?_; rintro o; refine cand2 ?_; rintro ho hc)
    refine wpAny_bind (wpAny_isInstance (T := "StopIteration") (b := true) ⟨o, ho, hc⟩ isSubtype_stop ?_)
    exact wpAny_pure (hQ _ _ fun b o hb e => he' b o (by simpa using hb) e)
  self := fun i s Q E x hQ => by
    have hT : s.TypeIs (.ref M) "map" := ⟨_, x.obj, rfl⟩
    refine wpAny_pyIter_slot hT slot_map_iter (wpAny_call_entry slot_map_iter hT entry_map_iter ?_ (args_map_iter _))
    show wpAny _ _ (ret (.ref M)) _ _ s
    exact wpAny_pure ⟨_, rfl, "map", _, hT, slot_map_next.lookup, hQ⟩
abbrev lit (l : Addr) : Obj := { cls := .type "list_iterator", data := .fields #[.ref l, .int 0 0] }
theorem meets_map_new (l : Addr) (items : Array Value) (n : Nat) (dct : Option Addr) (sl : Array (Option Value)) :
    Meets (Builtin.«map.__new__» ⟨[.type "map", .type "str", .ref l], []⟩) (fun _ R s => s.heap.get? l = some { cls := .type "list", dict := dct, data := .seq items n, slots := sl } ∧
      R (.ok (.ret (.ref ((s.heap.push (lit l)).push (tup1 s.heap.objs.size)).objs.size)))
        { s with heap := ((s.heap.push (lit l)).push (tup1 s.heap.objs.size)).push (mapO (s.heap.push (lit l)).objs.size) }) :=
  .of_wp fun prog w A R s h => by
    obtain ⟨hp, g, d, tk, os⟩ := s; obtain ⟨hl, h⟩ := h
    have hsub := sub_map
    have hL : Heap.IsList (Shared.heap ⟨hp, g, d, tk, os⟩) l items := ⟨_, hl, rfl, n, rfl⟩
    wp_walk using AutoSeq1.wpAny_loadPart' hl, wpAny_pyIter_list hL
    exact ⟨_, rfl, h⟩
theorem call_map {items : Array Value} {Q : Value → Shared → Prop} (hL : s.heap.IsList l items)
    (h : ∀ M T I h', (∀ b o, s.heap.get? b = some o → h'.get? b = some o) → h'.get? M = some (mapO T) → h'.get? T = some (tup1 I) → h'.IsListIter I l 0 → s.heap.objs.size ≤ I → I < T → T < M → Q (.ref M) { s with heap := h' }) :
    wpAny (model PR w) A (call (.type "map") [.type "str", .ref l]) Q E s := by
  (revert hL; refine cex1 ?_; rintro ⟨c, dct, dt, sl⟩; refine cand3 ?_; rintro hl hc; refine cex1 ?_; rintro n hd)
  replace hc : c = .type "list" := hc
  replace hd : dt = .seq items n := hd
  subst hc hd
  refine callType_new called_map (by decide) (typeCall_map_2 _ _) (newCall_map_2 _ _) (fun obj => PySem.F.args_object_init_3 obj _ _) entry_map_new
    (meets_map_new l items n dct sl) ⟨hl, ?_⟩
  have z1 : (s.heap.push (lit l)).objs.size = s.heap.objs.size + 1 := Heap.size_push ..
  have z2 : ((s.heap.push (lit l)).push (tup1 s.heap.objs.size)).objs.size = s.heap.objs.size + 2 := by rw [Heap.size_push, z1]
  have i1 : (s.heap.push (lit l)).get? s.heap.objs.size = some (lit l) := Heap.get?_push_size _ rfl
  have i2 : ((s.heap.push (lit l)).push (tup1 s.heap.objs.size)).get? (s.heap.push (lit l)).objs.size = some (tup1 s.heap.objs.size) := Heap.get?_push_size _ rfl
  have i3 := Heap.get?_push_size ((s.heap.push (lit l)).push (tup1 s.heap.objs.size)) (o := mapO (s.heap.push (lit l)).objs.size) rfl
  refine ⟨⟨_, i3, rfl⟩, h _ _ _ _ (fun b o e => Heap.get?_push_of_some _ (Heap.get?_push_of_some _ (Heap.get?_push_of_some _ e))) i3 (Heap.get?_push_of_some _ i2) ⟨_, Heap.get?_push_of_some _ (Heap.get?_push_of_some _ i1), rfl, rfl⟩ (Nat.le_refl _) (by rw [z1]; exact Nat.lt_succ_self _) (by rw [z1, z2]; exact Nat.lt_succ_self _)⟩
theorem nolen_map : NoLen "map" := ⟨by decide, by decide, map_no_len, map_no_hint⟩
/-- a list extended by map(str, texts) -/
theorem extend_map {D : Addr} {ds : List Value} {c : Nat} {Q : Value → Shared → Prop} (hh : A.handled = none) (hi : StrsAre vs ys) (hD : s.heap.get? D = some (listOf ds.toArray c)) (x : MapAt s.heap M T I l vs 0) (hMI : M ≠ I) (hTI : T ≠ I) (hlI : l ≠ I) (hDn : D ∉ [M, T, I, l]) (hz : ds.length + vs.length < sizeLine)
    (h : ∀ h' tk c', (∀ b o, b ≠ D → b ≠ I → s.heap.get? b = some o → h'.get? b = some o) → h'.get? D = some (listOf (ds ++ vs).toArray c') → Q .none { s with heap := h', toks := tk }) :
    wpAny (model PR w) A (call (.builtin "list.extend") [.ref D, .ref M]) Q E s := by
  have W := walks_map (w := w) (A := A.in1) (vs := vs) (ys := ys) (M := M) (T := T) (I := I) (l := l) hh hi hMI hTI hlI
  have hTD : s.TypeIs (.ref D) "list" := ⟨_, hD, rfl⟩
  refine wpAny_call (codeAny_call_builtin PySem.F.slot_list_extend.plain PySem.F.entry_list_extend (PySem.F.slot_list_extend.check _ _ _ _ _ _ _ _ hTD (PySem.F.args_list_extend_2 _ _) ?_))
  show wpAny _ _ (Builtin.List.listExtendWith (.ref D) (.ref M) .none) _ _ s
  refine ext_walk (R := wants _ _) nolen_map W (fun i h' s' x e => ⟨_, e ▸ x.obj, rfl⟩) D hDn (by simp) .none ds.toArray c (by simpa using hz) x hD ?_
  intro h' tk acc' c' hk hD' hacc
  rw [itemsOf_list hacc] at hD'
  exact h h' tk c' (fun b o h1 h2 e => hk b o h1 (by simpa using h2) e) (by simpa using hD')
end
/-! part Fn9 -/
theorem news_lt {B h : Heap} {L D : Addr} {news : List (Addr × Obj)} (N : News B L h news) (hD : h.objs.size ≤ D) : ∀ p ∈ news, p.1 < D := fun p hp => Nat.lt_of_lt_of_le (Heap.lt_size (N p hp).1) hD
theorem news_add {B h h' : Heap} {L D : Addr} {m : Str → Option Value} {o : Obj} {news : List (Addr × Obj)} (F : Fr B L h m) (N : News B L h' news) (hD : h.objs.size ≤ D) (ho : h'.get? D = some o) : News B L h' ((D, o) :: news) := by
  intro p hp
  rcases List.mem_cons.mp hp with rfl | hp
  · refine ⟨ho, Nat.ne_of_gt (Nat.lt_of_lt_of_le F.ns.lt hD), ?_⟩
    cases e : B.get? D with
    | none => rfl
    | some o' => exact absurd (Heap.lt_size (F.keep _ _ e)) (Nat.not_lt.mpr hD)
  · exact N p hp
theorem merge (w : World) (G : Heap) (x1 x2 : Addr) (us1 rs1 us2 rs2 : List Str) (hR1 : Rec w G (.ref x1) us1 rs1) (hR2 : Rec w G (.ref x2) us2 rs2) (hl1 : us1.length ≤ 1000) (hl2 : us2.length ≤ 1000) (hl3 : rs1.length ≤ 1000) (hl4 : rs2.length ≤ 1000) :
    Pure w G 70 [.ref x1, .ref x2] 4 40 (fun G' v => Rec w G' v (us1.filter us2.contains) (rs1 ++ rs2)) := by
  intro p loose mean mg mb A s Q E hh hd hu X T hG k
  obtain ⟨ha, dp, fr, gd, un⟩ := A
  dsimp only at hh hd hu
  subst hh
  (revert hR1; refine cex5 ?_; rintro x' u1 r1 uv1 rv1; refine cand6 ?_; rintro e hRec1 huL1 huS1 hrL1 hrS1)
  cases e
  (revert hR2; refine cex5 ?_; rintro x' u2 r2 uv2 rv2; refine cand6 ?_; rintro e hRec2 huL2 huS2 hrL2 hrS2)
  cases e
  walk_at "MINE fill"
  refine wpAny_call ?_
  k_dflt (refine' enter_own [(Str.ofString "e1", .ref x1), (Str.ofString "e2", .ref x2)] ?X ?T ?ho ?hcd ?hr ?hb ?hl ?_ ?c2 ?c3 ?c4 ?c5)
  walk_at "MINE enter"
  intro L h₁ E' F
  have S : Gs s.heap G G := Gs.init hG
  have N : News s.heap L h₁ (gl s.heap G) := by rw [gl_self hG]; exact News.nil
  (try dsimp only); (try k_fold)
  walk_at "GO"
  refine entry_new rfl (by walk_at "MINE room") (by walk_at "MINE room") X T (by k_asm) (by k_asm) ?_
  intro xr d u r t1 t2 t3 t4 h5 tk5 F5 N5 lt5 ltx ltu ltr
  unfold recD at N5
  dsimp only
  walk_at "GO"
  rename_i h6 F6 N6
  have hGs6 := S.keepL F6 N6 (by walk_at "MINE sub")
  refine set_of_list (ys := us2) (vs := uv2) rfl (LL.isList (huL2.mono hGs6)) huS2 (by unfold scanBound; (first | lia | omega)) ?_
  intro h7 tk7 hS7 k7
  have k7' : h6.StaysIn h7 := fun b o e => k7 b o (Heap.lt_size e) e
  have F7 := F6.keeps k7'
  have N7 := N6.keepsAll k7'
  clear F6 N6
  dsimp only at hS7 ⊢
  (refine impApp (id hS7) ?_; refine cex1 ?_; rintro nS; refine cand2 ?_; rintro hnS; refine cex4 ?_; rintro ⟨oc, od, odt, osl⟩ es ep tb; refine cand4 ?_; rintro hoS ⟨e1, e2, e3⟩ hdS hrS)
  dsimp only at e1 e2 e3 hdS
  subst e1 e2 e3 hdS
  refine sc_attr hoS ?_
  have up8 : h7.StaysIn (h7.push (boundC h6.objs.size)) := fun b o e => Heap.get?_push_of_some _ e
  have hb8 : (h7.push (boundC h6.objs.size)).get? h7.objs.size = some (boundC h6.objs.size) := Heap.get?_push_size _ rfl
  have hS8 := hS7.at_ fun o e => up8 _ o e
  have F8 := F7.keeps up8
  have N8 := N7.keepsAll up8
  have k8 : h6.StaysIn (h7.push (boundC h6.objs.size)) := StaysIn.trans k7' up8
  clear F7 N7 hS7 hoS hrS
  generalize h7.push (boundC h6.objs.size) = h8 at *
  generalize h7.objs.size = b at *
  walk_at "GO"
  refine wpAny_mono (list_of_filter (Q := ?QQ) rfl huS1 hb8 hS8 (LL.isList ((huL1.mono hGs6).mono k8)) ?hn ?h) ?mono (fun _ _ e => e)
  case mono =>
    intro v9 s9 hv9
    walk1
    exact hv9
  case hn => have := huS1.length; rw [sizeLine_eq]; (first | lia | omega)
  case h =>
    intro D h9 tk9 c9 k9 hD9 hDo
    have l9 := news_lt N8 hD9
    have F9 := F8.keeps k9
    have N9 := news_add F8 (N8.keepsAll k9) hD9 hDo
    clear F8 N8 hb8 hS8 hDo k9 hD9 k8
    k_lt l9
    have ltx : @LT.lt Nat _ d xr := ltx
    have ltu : @LT.lt Nat _ xr u := ltu
    have ltr : @LT.lt Nat _ u r := ltr
    walk_at "GO"
    rename_i h10 D2 h11 lD2 h12 h13 h14 F10 N10
    dsimp only
    obtain ⟨G2, S2, g2, fz2, N11, _⟩ := freezes [(D2, listOf (rv1 ++ rv2).toArray 0), (D, listOf (uv1.filter (inP us2)).toArray c9), (xr, instObj 59 d), (d, recD w.params D D2 .none .none t1 t2 t3 t4)] [(u, listOf #[] 0), (r, listOf #[] 0)]
      (news := [(D2, listOf (rv1 ++ rv2).toArray 0), (D, listOf (uv1.filter (inP us2)).toArray c9), (xr, instObj 59 d), (d, recD w.params D D2 .none .none t1 t2 t3 t4), (u, listOf #[] 0), (r, listOf #[] 0)]) S F10 N10 (fun p => Iff.rfl)
    refine k _ _ _ G2 F10.keep S2.x (S2.keep (news := [(u, listOf #[] 0), (r, listOf #[] 0)]) F10 N11) ⟨xr, D, D2, _, _, rfl, ⟨d, t1, t2, t3, t4, fz2 (xr, _) (by k_mem), fz2 (d, _) (by k_mem)⟩, LL.of (fz2 (D, _) (by k_mem)), strs_filter huS1, LL.of (fz2 (D2, _) (by k_mem)), strsAre_append hrS1 hrS2⟩
/-! part Fn10 -/
def nlS : Str := Str.ofString "\n"
def uaS : Str := Str.ofString "User-agent: "
theorem truthy_LL {w : World} {A : Around} {s : Shared} {E : Value → Shared → Prop} {l : Addr} {vs : List Value} {Q : Bool → Shared → Prop} (hl : s.heap.IsList l vs.toArray) (hz : vs.length ≤ sizeLine) (h : ∀ tk, Q (!vs.isEmpty) { s with toks := tk }) : wpAny (model PR w) A (truthy (.ref l)) Q E s := by
  refine wpAny_truthy_list hl (by have := sizeLine_eq; simp; (first | lia | omega)) ?_
  have e : vs.toArray.isEmpty = vs.isEmpty := by cases vs <;> rfl
  rw [e]
  exact h _
theorem words4 : True := by
  k_with "truthy ref" => (((with_reducible show wpAny _ _ (truthy (Value.ref _)) _ _ _); k_dflt (refine' truthy_LL ?hqhl ?hqhz ?_; (case hqhl => walk_at "MINE isl"); (case hqhz => walk_at "MINE size")); intro _))
  trivial
theorem step_R {B h h' : Heap} {L R : Addr} {m : Str → Option Value} {o o' : Obj} {rest : List (Addr × Obj)} (F : Fr B L h m) (N : News B L h ((R, o) :: rest)) (hR : ∀ p ∈ rest, p.1 ≠ R) (k : ∀ b o, b ≠ R → h.get? b = some o → h'.get? b = some o) (ho : h'.get? R = some o') : Fr B L h' m ∧ News B L h' ((R, o') :: rest) := by
  have z := N (R, o) (.head _)
  refine ⟨⟨F.ns.at' fun o e => k L o (Ne.symm z.2.1) e, fun b o e => k b o (fun q => by have := z.2.2; rw [← q, e] at this; cases this) (F.keep b o e), F.above⟩, ?_⟩
  intro p hp
  rcases List.mem_cons.mp hp with rfl | hp
  · exact ⟨ho, z.2⟩
  · exact ⟨k _ _ (hR p hp) (N p (.tail _ hp)).1, (N p (.tail _ hp)).2⟩
theorem str_empty (w : World) (G : Heap) (x : Addr) (rs : List Str) (hR : Rec w G (.ref x) [] rs) :
    Pure w G 42 [.ref x] 3 40 (fun _ v => ∃ t, v = .str (Str.ofString "") t) := by
  intro p loose mean mg mb A s Q E hh hd hu X T hG k
  obtain ⟨ha, dp, fr, gd, un⟩ := A
  dsimp only at hh hd hu
  subst hh
  (revert hR; refine cex5 ?_; rintro x' u r uv rv; refine cand6 ?_; rintro e hRec huL huS hrL hrS)
  cases e
  cases huS
  walk_at "MINE fill"
  refine wpAny_call ?_
  k_dflt (refine' enter_own [(Str.ofString "self", .ref x)] ?X ?T ?ho ?hcd ?hr ?hb ?hl ?_ ?c2 ?c3 ?c4 ?c5)
  walk_at "MINE enter"
  intro L h₁ E' F
  have S : Gs s.heap G G := Gs.init hG
  have N : News s.heap L h₁ (gl s.heap G) := by rw [gl_self hG]; exact News.nil
  (try dsimp only); (try k_fold)
  walk_at "GO"
  dsimp only
  exact k _ _ _ G F.keep (Gx.refl _ _) (StaysIn.trans hG F.keep) ⟨_, rfl⟩
theorem str_full (w : World) (G : Heap) (x : Addr) (us rs : List Str) (hR : Rec w G (.ref x) us rs) (hu0 : us ≠ []) (hr0 : rs ≠ []) (hul : us.length ≤ 100) (hrl : rs.length ≤ 100) (hua : ∀ a ∈ us, a.length ≤ 100) (hra : ∀ a ∈ rs, a.length ≤ 100) :
    Pure w G 42 [.ref x] 3 40 (fun _ v => ∃ t, v = .str (Txt.join nlS (us.map (uaS ++ ·) ++ rs)) t) := by
  intro p loose mean mg mb A s Q E hh hd hu X T hG k
  obtain ⟨ha, dp, fr, gd, un⟩ := A
  dsimp only at hh hd hu
  subst hh
  (revert hR; refine cex5 ?_; rintro x' u r uv rv; refine cand6 ?_; rintro e hRec huL huS hrL hrS)
  cases e
  have hue : uv.isEmpty = false := by cases huS with | nil => exact absurd rfl hu0 | cons _ _ _ => rfl
  have hre : rv.isEmpty = false := by cases hrS with | nil => exact absurd rfl hr0 | cons _ _ _ => rfl
  walk_at "MINE fill"
  refine wpAny_call ?_
  k_dflt (refine' enter_own [(Str.ofString "self", .ref x)] ?X ?T ?ho ?hcd ?hr ?hb ?hl ?_ ?c2 ?c3 ?c4 ?c5)
  walk_at "MINE enter"
  intro L h₁ E' F
  have S : Gs s.heap G G := Gs.init hG
  have N : News s.heap L h₁ (gl s.heap G) := by rw [gl_self hG]; exact News.nil
  (try dsimp only); (try k_fold)
  walk_at "GO"
  rename_i tk1 R h2 lR h3 F3 N3
  have oR : G.get? R = none := off_of S (N3 (R, listOf #[] 0) (by k_mem)).2.2 (lt_ne lR)
  refine for_list (L := L) (vs := uv) rfl rfl
    (fun j Gj mj nj => Gj = G ∧ ∃ rv' kr, nj = [(R, listOf rv'.toArray kr)] ∧ mj (Str.ofString "ret") = some (.ref R) ∧ mj (Str.ofString "self") = some (.ref x) ∧ StrsAre rv' ((us.take j).map (uaS ++ ·)))
    (fun Gj mj nj => Gj = G ∧ ∃ rv' kr, nj = [(R, listOf rv'.toArray kr)] ∧ mj (Str.ofString "ret") = some (.ref R) ∧ mj (Str.ofString "self") = some (.ref x) ∧ StrsAre rv' (us.map (uaS ++ ·)))
    (news := [(R, listOf #[] 0)]) huL.isList S F3 N3 (Off.cons oR Off.nil) ⟨rfl, [], 0, rfl, rfl, rfl, .nil⟩ ?turn ?hX ?done
  case hX =>
    (rintro Gj mj nj; refine cand2 ?_; rintro rfl; refine cex2 ?_; rintro rv' kr; refine cand4 ?_; rintro rfl e1 e2 h)
    rw [huS.length, List.take_length] at h
    exact ⟨rfl, rv', kr, rfl, e1, e2, h⟩
  case turn =>
    (rintro j v Gj mj nj h4 tk4 I oI Q₂ E₂ hq hv; refine cand2 ?_; rintro rfl; refine cex2 ?_; rintro rv' kr; refine cand4 ?_; rintro rfl e1 e2 hrv _ Sj gj Fj Nj Oj hne)
    (refine impApp (strsAre_at huS j v hv) ?_; refine cex2 ?_; rintro a ta; refine cand2 ?_; rintro rfl ha)
    have hal := hua a (List.mem_of_getElem? ha)
    rw [m_see e1, m_see e2] at Fj
    simp only [List.cons_append, List.nil_append] at Nj
    have hRI : @Ne Nat R I := hne (R, _) (.head _)
    have hlr := hrv.length
    simp only [List.length_map, List.length_take] at hlr
    dsimp only
    walk_at "GO"
    rename_i h5 tk5 t5 tk6 h6 F6 N6
    rw [show ∀ z : Value, rv'.toArray.push z = (rv' ++ [z]).toArray from fun z => by simp] at N6
    refine ⟨_, _, Gj, _, [(R, listOf (rv' ++ [Value.str (Str.empty ++ Str.ofString "User-agent: " ++ a) tk6]).toArray (kr + 1))], rfl, Sj, StaysIn.refl _, F6, N6, Off.cons (Oj (I, oI) (.head _)) (Off.cons (Oj (R, _) (.tail _ (.head _))) Off.nil), rfl, rfl, _, _, rfl, rfl, rfl, ?_⟩
    rw [List.take_add_one, ha, List.map_append]
    refine strsAre_append hrv ?_
    have : Str.empty ++ Str.ofString "User-agent: " ++ a = uaS ++ a := by rw [Str.empty_append]; rfl
    rw [this]
    exact .cons _ _ .nil
  case done =>
    (rintro Gj mj nj h4 tk4; refine cand2 ?_; rintro rfl; refine cex2 ?_; rintro rv' kr; refine cand4 ?_; rintro rfl e1 e2 hrv Sj gj Fj Nj Oj _)
    rw [m_see e1, m_see e2] at Fj
    simp only [List.cons_append, List.nil_append] at Nj
    have hlr := hrv.length
    simp only [List.length_map, List.length_take] at hlr
    dsimp only
    walk_at "GO"
    have hGs := Sj.keep (news := [(R, _)]) Fj Nj
    refine call_map (LL.isList (hrL.mono hGs)) ?_
    intro M T' I h5 k5 hM hT' hI lI lIT lTM
    have hrs : r < h4.objs.size := by obtain ⟨n, e⟩ := hrL.mono hGs; exact Heap.lt_size e
    have hRs : R < h4.objs.size := Heap.lt_size (Nj (R, _) (.head _)).1
    walk1
    refine extend_map (M := M) (T := T') (I := I) (l := r) (vs := rv) (ys := rs) rfl hrS (k5 _ _ (Nj (R, _) (.head _)).1) ⟨hM, hT', hI, LL.isList (hrL.mono (StaysIn.trans hGs k5))⟩ (Nat.ne_of_gt (Nat.lt_trans lIT lTM)) (Nat.ne_of_gt lIT) (Nat.ne_of_lt (Nat.lt_of_lt_of_le hrs lI)) ?_ ?_ ?_
    · have h1 : R < I := Nat.lt_of_lt_of_le hRs lI
      have h2 : R ≠ r := fun q => by have := oR; obtain ⟨n, e⟩ := hrL; rw [q, e] at this; cases this
      simp only [List.mem_cons, List.not_mem_nil, or_false, not_or]
      exact ⟨Nat.ne_of_lt (Nat.lt_trans h1 (Nat.lt_trans lIT lTM)), Nat.ne_of_lt (Nat.lt_trans h1 lIT), Nat.ne_of_lt h1, h2⟩
    · have := hrS.length
      rw [sizeLine_eq]; (first | lia | omega)
    intro h6 tk6 c6 k6 hR6
    obtain ⟨F6, N6⟩ := step_R Fj Nj (gl_ne oR) (fun b o hb e => k6 b o hb (Nat.ne_of_lt (Nat.lt_of_lt_of_le (Heap.lt_size e) lI)) (k5 b o e)) hR6
    have hall := strsAre_append hrv hrS
    have hWt : Wt (us.map (uaS ++ ·) ++ rs) := by
      refine wt_of_len (c := 200) (fun y hy => ?_) (by rw [List.length_append, List.length_map]; (first | lia | omega))
      rcases List.mem_append.mp hy with hy | hy
      · (refine impApp (List.mem_map.mp hy) ?_; refine cex1 ?_; rintro a; refine cand2 ?_; rintro ha rfl)
        have := hua a ha
        rw [Str.length_append]
        have : uaS.length = 12 := by decide +kernel
        (first | lia | omega)
      · have := hra y hy; (first | lia | omega)
    clear k6 hR6 k5 hM hT' hI
    dsimp only
    walk_at "GO"
    dsimp only
    exact k _ _ _ Gj F6.keep Sj.x (Sj.keep (news := [(R, _)]) F6 N6) ⟨_, rfl⟩
/-! part Pl1 -/
/-! ## plain laws: texts as lists of signs -/
abbrev tl (s : Str) : List Nat := s.cps.toList
theorem tl_len (s : Str) : (tl s).length = s.length := by simp [tl, Str.length]
theorem tl_inj {a b : Str} (h : tl a = tl b) : a = b := Str.ext' (Array.toList_inj.mp h)
theorem slice_clip (x : Str) (p q : Nat) : Txt.slice x (some (p : Int)) (some (q : Int)) = Txt.slice x (some ((min p x.length : Nat) : Int)) (some ((min q x.length : Nat) : Int)) := by
  have : Builtin.Str.strSliceIndices (some (p : Int)) (some (q : Int)) 1 x.length = Builtin.Str.strSliceIndices (some ((min p x.length : Nat) : Int)) (some ((min q x.length : Nat) : Int)) 1 x.length := by
    unfold Builtin.Str.strSliceIndices
    simp only [show (1 : Int) > 0 by decide, if_true]
    congr 1 <;> (split <;> split <;> (first | lia | omega))
  unfold Txt.slice
  rw [this]
theorem slice_tl (x : Str) (p k : Nat) : tl (Txt.slice x (some (p : Int)) (some ((p : Int) + (k : Int)))) = ((tl x).drop p).take k := by
  rw [show (p : Int) + (k : Int) = ((p + k : Nat) : Int) by (first | lia | omega), slice_clip]
  have := StrLaws.sliceText_nat x (a := min p x.length) (b := min (p + k) x.length) (by (first | lia | omega)) (by (first | lia | omega))
  show tl (StrLaws.sliceText x _ _) = _
  rw [this]
  show ((tl x).drop (min p x.length)).take (min (p + k) x.length - min p x.length) = _
  have hl := tl_len x
  by_cases hp : p ≤ x.length
  · rw [Nat.min_eq_left hp]
    by_cases hk : p + k ≤ x.length
    · rw [Nat.min_eq_left hk]; congr 1; (first | lia | omega)
    · rw [Nat.min_eq_right (by (first | lia | omega))]
      rw [List.take_of_length_le (by rw [List.length_drop]; (first | lia | omega)), List.take_of_length_le (by rw [List.length_drop]; (first | lia | omega))]
  · rw [Nat.min_eq_right (by (first | lia | omega)), Nat.min_eq_right (by (first | lia | omega)), List.drop_of_length_le (by (first | lia | omega)), List.drop_of_length_le (by (first | lia | omega))]
    simp
/-- w stands in l at p -/
def At (l : List Nat) (p : Nat) (w : List Nat) : Prop := (l.drop p).take w.length = w
theorem At.nil (l : List Nat) (p : Nat) : At l p [] := by simp [At]
theorem At.append {l : List Nat} {p : Nat} {a b : List Nat} : At l p (a ++ b) ↔ At l p a ∧ At l (p + a.length) b := by
  unfold At
  rw [List.length_append, List.take_add, List.drop_drop]
  constructor
  · intro h
    have h1 : ((l.drop p).take a.length).length = a.length ∨ ((l.drop p).take a.length).length < a.length := by
      rw [List.length_take]; (first | lia | omega)
    rcases h1 with h1 | h1
    · exact List.append_inj h h1
    · exfalso
      have h2 := congrArg List.length h
      simp only [List.length_append, List.length_take, List.length_drop] at h1 h2
      (first | lia | omega)
  · rintro ⟨h1, h2⟩
    rw [h1, h2]
theorem At.whole {l w : List Nat} (h : At l 0 w) (e : w.length = l.length) : w = l := by
  unfold At at h
  rw [List.drop_zero, e, List.take_length] at h
  exact h.symm
theorem At.self (l : List Nat) : At l 0 l := by simp [At]
theorem At.le {l : List Nat} {p : Nat} {w : List Nat} (h : At l p w) (hp : p ≤ l.length) : p + w.length ≤ l.length := by
  have := congrArg List.length h
  rw [List.length_take, List.length_drop] at this
  (first | lia | omega)
theorem atF_iff (nm pc : Str) (p : Nat) : atF nm (p : Int) pc = true ↔ At (tl nm) p (tl pc) := by
  unfold atF At
  rw [beq_iff_eq, tl_len]
  constructor
  · intro h
    have := slice_tl nm p pc.length
    rw [h] at this
    exact this.symm
  · intro h
    exact tl_inj (by rw [slice_tl]; exact h)

/-! ## a row of pieces side by side -/
theorem join_tl : ∀ row : List Str, tl (Txt.join (Str.ofString "") row) = row.flatMap tl := by
  intro row
  show tl (Builtin.Str.glued _ row) = _
  rw [StrLaws.glued_eq_join]
  have he : tl (Str.ofString "") = [] := by decide +kernel
  induction row with
  | nil => rfl
  | cons x r ih =>
    cases r with
    | nil => simp [Str.join]
    | cons y r =>
      show tl (x ++ Str.ofString "" ++ Str.join (Str.ofString "") (y :: r)) = _
      simp only [tl, Str.cps_append, Array.toList_append] at he ih ⊢
      rw [he, ih, List.append_nil]; rfl
def flat (row : List Str) : List Nat := row.flatMap tl
theorem flat_append (a b : List Str) : flat (a ++ b) = flat a ++ flat b := by simp [flat]

/-! ## the ends are the words that stand there -/
def EndsOf (nm : Str) (ws : List (List Str)) (p : Nat) (x : Int) : Prop := ∃ row ∈ ws, x = ((p + (flat row).length : Nat) : Int) ∧ At (tl nm) p (flat row)
theorem mem_cross {ws ch : List (List Str)} {r : List Str} : r ∈ cross ws ch ↔ ∃ a ∈ ws, ∃ b ∈ ch, r = a ++ b := by
  unfold cross
  simp only [List.mem_flatMap, List.mem_map]
  constructor
  · (refine cex1 ?_; rintro a; refine cand2 ?_; rintro ha; refine cex1 ?_; rintro b; refine cand2 ?_; rintro hb rfl); exact ⟨a, ha, b, hb, rfl⟩
  · (refine cex1 ?_; rintro a; refine cand2 ?_; rintro ha; refine cex1 ?_; rintro b; refine cand2 ?_; rintro hb rfl); exact ⟨a, ha, b, hb, rfl⟩
theorem runE_iff {sub : Int → List Int} {nm : Str} {ch : List (List Str)} (hs : ∀ (p : Nat) x, x ∈ sub (p : Int) ↔ EndsOf nm ch p x) (p : Nat) : ∀ (l : List Int) (x : Int), x ∈ runE sub nm l (p : Int) ↔ EndsOf nm (wholeF ch l) p x := by
  intro l
  rw [← List.reverse_reverse l]
  induction l.reverse with
  | nil =>
    intro x
    simp only [List.reverse_nil, runE, wholeF, List.foldl_nil, List.mem_singleton, EndsOf]
    constructor
    · rintro rfl; exact ⟨[], rfl, by simp [flat], At.nil _ _⟩
    · (refine cex1 ?_; rintro row; refine cand3 ?_; rintro rfl e _); simpa [flat] using e
  | cons f r ih =>
    intro x
    rw [List.reverse_cons, runE_snoc, wholeF_snoc]
    unfold stepE choiceF
    by_cases hf : f = 7
    · rw [if_pos hf, if_pos hf, List.mem_flatMap]
      constructor
      · (refine cex1 ?_; rintro q; refine cand2 ?_; rintro hq hx)
        (refine impApp ((ih q).mp hq) ?_; refine cex1 ?_; rintro row; refine cand3 ?_; rintro hr rfl hat)
        (refine impApp ((hs _ _).mp hx) ?_; refine cex1 ?_; rintro row2; refine cand3 ?_; rintro hr2 rfl hat2)
        refine ⟨row ++ row2, mem_cross.mpr ⟨row, hr, row2, hr2, rfl⟩, by rw [flat_append, List.length_append]; (first | lia | omega), ?_⟩
        rw [flat_append]; exact At.append.mpr ⟨hat, hat2⟩
      · (refine cex1 ?_; rintro row; refine cand3 ?_; rintro hr rfl hat)
        (refine impApp (mem_cross.mp hr) ?_; refine cex1 ?_; rintro a; refine cand2 ?_; rintro ha; refine cex1 ?_; rintro b; refine cand2 ?_; rintro hb rfl)
        rw [flat_append] at hat
        obtain ⟨h1, h2⟩ := At.append.mp hat
        refine ⟨((p + (flat a).length : Nat) : Int), (ih _).mpr ⟨a, ha, rfl, h1⟩, (hs _ _).mpr ⟨b, hb, ?_, h2⟩⟩
        rw [flat_append, List.length_append]; (first | lia | omega)
    · rw [if_neg hf, if_neg hf, List.mem_map]
      have hp1 : flat [pieceOf f] = tl (pieceOf f) := by simp [flat]
      have hpl : ((pieceOf f).length : Int) = ((tl (pieceOf f)).length : Nat) := by rw [tl_len]
      constructor
      · (refine cex1 ?_; rintro q; refine cand2 ?_; rintro hq rfl)
        obtain ⟨hq, hat2⟩ := List.mem_filter.mp hq
        (refine impApp ((ih q).mp hq) ?_; refine cex1 ?_; rintro row; refine cand3 ?_; rintro hr rfl hat)
        refine ⟨row ++ [pieceOf f], mem_cross.mpr ⟨row, hr, _, List.mem_singleton.mpr rfl, rfl⟩, by rw [flat_append, List.length_append, hp1, hpl]; (first | lia | omega), ?_⟩
        rw [flat_append, hp1]; exact At.append.mpr ⟨hat, (atF_iff _ _ _).mp hat2⟩
      · (refine cex1 ?_; rintro row; refine cand3 ?_; rintro hr rfl hat)
        (refine impApp (mem_cross.mp hr) ?_; refine cex1 ?_; rintro a; refine cand2 ?_; rintro ha; refine cex1 ?_; rintro b; refine cand2 ?_; rintro hb rfl)
        obtain rfl := List.mem_singleton.mp hb
        rw [flat_append, hp1] at hat
        obtain ⟨h1, h2⟩ := At.append.mp hat
        refine ⟨((p + (flat a).length : Nat) : Int), List.mem_filter.mpr ⟨(ih _).mpr ⟨a, ha, rfl, h1⟩, (atF_iff _ _ _).mpr h2⟩, ?_⟩
        rw [flat_append, List.length_append, hp1, hpl]; (first | lia | omega)
theorem endsPair_iff {sub : Int → List Int} {nm : Str} {ch : List (List Str)} (hs : ∀ (p : Nat) x, x ∈ sub (p : Int) ↔ EndsOf nm ch p x) (p : Nat) (pair : List Int) (x : Int) : x ∈ endsPair sub nm pair (p : Int) ↔ EndsOf nm (wholeOf ch pair) p x := runE_iff hs p _ x
theorem EndsOf.append {nm : Str} {a b : List (List Str)} {p : Nat} {x : Int} : EndsOf nm (a ++ b) p x ↔ EndsOf nm a p x ∨ EndsOf nm b p x := by
  unfold EndsOf
  constructor
  · (refine cex1 ?_; rintro row; refine cand2 ?_; rintro hr h)
    rcases List.mem_append.mp hr with hr | hr
    · exact .inl ⟨row, hr, h⟩
    · exact .inr ⟨row, hr, h⟩
  · rintro (⟨row, hr, h⟩ | ⟨row, hr, h⟩)
    · exact ⟨row, List.mem_append_left _ hr, h⟩
    · exact ⟨row, List.mem_append_right _ hr, h⟩
theorem ends0_iff (nm : Str) (gs : List Int) (p : Nat) (x : Int) : x ∈ endsF 0 nm gs [] (p : Int) ↔ EndsOf nm (toldF 0 gs []) p x := by
  have hs : ∀ (p : Nat) (x : Int), x ∈ (fun _ => [] : Int → List Int) (p : Int) ↔ EndsOf nm [] p x := fun p x => by simp [EndsOf]
  unfold endsF toldF
  rw [List.mem_append, EndsOf.append, endsPair_iff hs, endsPair_iff hs]
theorem ends1_iff (nm : Str) (figs gs : List Int) (p : Nat) (x : Int) : x ∈ endsF 1 nm figs gs (p : Int) ↔ EndsOf nm (toldF 1 figs gs) p x := by
  have hs : ∀ (p : Nat) (x : Int), x ∈ endsF 0 nm gs [] (p : Int) ↔ EndsOf nm (toldF 0 gs []) p x := fun p x => ends0_iff nm gs p x
  unfold endsF toldF
  rw [List.mem_append, EndsOf.append, endsPair_iff hs, endsPair_iff hs]
/-- the words of a grammar, as told -/
def words (figs gs : List Int) : List Str := (toldF 1 figs gs).map (Txt.join (Str.ofString ""))
theorem endsW_iff (nm : Str) (figs gs : List Int) (p : Nat) (x : Int) : x ∈ endsF 1 nm figs gs (p : Int) ↔ ∃ wd ∈ words figs gs, x = ((p + wd.length : Nat) : Int) ∧ At (tl nm) p (tl wd) := by
  rw [ends1_iff]
  unfold EndsOf words
  constructor
  · (refine cex1 ?_; rintro row; refine cand3 ?_; rintro hr e h)
    refine ⟨_, List.mem_map_of_mem hr, ?_, by rw [join_tl]; exact h⟩
    rw [← tl_len, join_tl]; exact e
  · (refine cex1 ?_; rintro wd; refine cand3 ?_; rintro hw e h)
    (refine impApp (List.mem_map.mp hw) ?_; refine cex1 ?_; rintro row; refine cand2 ?_; rintro hr rfl)
    rw [← tl_len, join_tl] at e
    rw [join_tl] at h
    exact ⟨row, hr, e, h⟩
theorem reads_iff (wd : Str) (figs gs : List Int) : ((wd.length : Nat) : Int) ∈ endsF 1 wd figs gs 0 ↔ wd ∈ words figs gs := by
  rw [show (0 : Int) = ((0 : Nat) : Int) from rfl, endsW_iff]
  constructor
  · (refine cex1 ?_; rintro v; refine cand3 ?_; rintro hv e h)
    have := At.whole h (by rw [tl_len, tl_len]; (first | lia | omega))
    rw [tl_inj this.symm]; exact hv
  · intro h
    exact ⟨wd, h, by (first | lia | omega), At.self _⟩
/-! part Pl2 -/
/-! ## rows -/
def fig8 (figs : List Int) : Prop := ∀ f ∈ figs, 0 ≤ f ∧ f < 8
def fig7 (figs : List Int) : Prop := ∀ f ∈ figs, 0 ≤ f ∧ f < 7
def growOf (figs : List Int) : List (List Int) := [partOf (figs.take 2), partOf (figs.drop 2)]
def gr3 (first second shared : List Int) : List (List (List Int)) := [growOf first, growOf second, growOf shared]

theorem cases8 {f : Int} (h : 0 ≤ f ∧ f < 8) : f = 0 ∨ f = 1 ∨ f = 2 ∨ f = 3 ∨ f = 4 ∨ f = 5 ∨ f = 6 ∨ f = 7 := by (first | lia | omega)
theorem sym_lt {f : Int} (h : 0 ≤ f ∧ f < 8) : sym f < 259 ∧ (sym f ≠ 258 → sym f < 256) ∧ (sym f = 258 → f = 7) := by
  rcases cases8 h with rfl | rfl | rfl | rfl | rfl | rfl | rfl | rfl <;> decide
theorem mem_partOf {pair : List Int} {y : Int} (h : y ∈ partOf pair) : ∃ f ∈ pair, f ≠ 0 ∧ y = sym f := by
  unfold partOf at h
  (refine impApp (List.mem_map.mp h) ?_; refine cex1 ?_; rintro f; refine cand2 ?_; rintro hf rfl)
  refine ⟨f, (List.takeWhile_sublist _).mem hf, ?_, rfl⟩
  have : ∀ l : List Int, ∀ x ∈ l.takeWhile (fun x => decide (x ≠ 0)), x ≠ 0 := by
    intro l
    induction l with
    | nil => intro x hx; simp at hx
    | cons a r ih =>
      intro x hx
      rw [List.takeWhile_cons] at hx
      split at hx
      · rename_i ha
        rcases List.mem_cons.mp hx with rfl | hx
        · simpa using ha
        · exact ih x hx
      · simp at hx
  exact this _ _ hf
theorem takeWhile_len (l : List Int) : (l.takeWhile fun x => decide (x ≠ 0)).length ≤ l.length := (List.takeWhile_sublist _).length_le
theorem partOf_len (pair : List Int) : (partOf pair).length ≤ pair.length := by
  unfold partOf; rw [List.length_map]; exact takeWhile_len pair
theorem wt_le {y : Int} (h : y < 259 ∧ (y ≠ 258 → y < 256)) : wt y ≤ 1 := by
  unfold wt
  by_cases e : y = 258
  · subst e; decide
  · have := h.2 e; rw [if_neg (by (first | lia | omega)), if_neg e]; (first | lia | omega)
theorem wts_le {row : List Int} (h : ∀ y ∈ row, wt y ≤ 1) : wts row ≤ row.length := by
  unfold wts
  induction row with
  | nil => simp
  | cons a r ih =>
    have := ih fun y hy => h y (.tail _ hy)
    have := h a (.head _)
    simp only [List.map_cons, List.sum_cons, List.length_cons]; (first | lia | omega)
theorem wts_zero {row : List Int} (h : ∀ y ∈ row, y < 256) : wts row = 0 := by
  unfold wts
  induction row with
  | nil => simp
  | cons a r ih =>
    have h1 := ih fun y hy => h y (.tail _ hy)
    have h2 := h a (.head _)
    simp only [List.map_cons, List.sum_cons, h1]
    unfold wt; rw [if_neg (by (first | lia | omega)), if_neg (by (first | lia | omega))]
theorem part_ok {pair : List Int} (h : fig8 pair) (hl : pair.length ≤ 2) : wts (partOf pair) < 3 ∧ (∀ y ∈ partOf pair, y < 259) ∧ (partOf pair).length ≤ 2 := by
  have h1 : ∀ y ∈ partOf pair, y < 259 ∧ (y ≠ 258 → y < 256) := fun y hy => by
    (refine impApp (mem_partOf hy) ?_; refine cex1 ?_; rintro f; refine cand3 ?_; rintro hf _ rfl)
    have := sym_lt (h f hf); exact ⟨this.1, this.2.1⟩
  have h2 := wts_le fun y hy => wt_le (h1 y hy)
  have h3 := partOf_len pair
  exact ⟨by (first | lia | omega), fun y hy => (h1 y hy).1, by (first | lia | omega)⟩
theorem part_term {pair : List Int} (h : fig7 pair) : ∀ y ∈ partOf pair, y < 256 := fun y hy => by
  (refine impApp (mem_partOf hy) ?_; refine cex1 ?_; rintro f; refine cand3 ?_; rintro hf _ rfl)
  have h7 := h f hf
  have := sym_lt (f := f) (by (first | lia | omega))
  by_cases e : sym f = 258
  · have := this.2.2 e; (first | lia | omega)
  · exact this.2.1 e
theorem gr3_ok {first second shared : List Int} (h1 : fig8 first) (h2 : fig8 second) (h3 : fig7 shared) (l1 : first.length = 4) (l2 : second.length = 4) (l3 : shared.length = 4) : GrOk (gr3 first second shared) := by
  have ok8 : ∀ figs : List Int, fig8 figs → figs.length = 4 → ∀ part ∈ growOf figs, wts part < 3 ∧ (∀ y ∈ part, y < 259) ∧ part.length ≤ 2 := by
    intro figs h l part hp
    rcases List.mem_cons.mp hp with rfl | hp
    · exact part_ok (fun f hf => h f (List.mem_of_mem_take hf)) (by rw [List.length_take]; (first | lia | omega))
    · rw [List.mem_singleton.mp hp]
      exact part_ok (fun f hf => h f (List.mem_of_mem_drop hf)) (by rw [List.length_drop]; (first | lia | omega))
  intro x hx hx'
  have : x = 256 ∨ x = 257 ∨ x = 258 := by (first | lia | omega)
  rcases this with rfl | rfl | rfl
  · exact ⟨growOf first, rfl, Nat.le_refl 2, ok8 first h1 l1⟩
  · exact ⟨growOf second, rfl, Nat.le_refl 2, ok8 second h2 l2⟩
  · refine ⟨growOf shared, rfl, Nat.le_refl 2, fun part hp => ?_⟩
    (refine impApp (ok8 shared (fun f hf => by have := h3 f hf; (first | lia | omega)) l3 part hp) ?_; refine cand3 ?_; rintro _ b c)
    refine ⟨?_, b, c⟩
    rw [wts_zero]
    · decide
    · rcases List.mem_cons.mp hp with rfl | hp
      · exact part_term fun f hf => h3 f (List.mem_of_mem_take hf)
      · rw [List.mem_singleton.mp hp]
        exact part_term fun f hf => h3 f (List.mem_of_mem_drop hf)

/-- what a row becomes -/
def expand (C : List (List Int)) : List Int → List (List Int)
  | [] => [[]]
  | x :: r => if x = 258 then C.flatMap fun p => (expand C r).map (p ++ ·) else (expand C r).map (x :: ·)
theorem expand_term {C : List (List Int)} (pre : List Int) (h : ∀ y ∈ pre, y ≠ 258) (r : List Int) : expand C (pre ++ r) = (expand C r).map (pre ++ ·) := by
  induction pre with
  | nil => simp
  | cons a p ih =>
    rw [List.cons_append, expand, if_neg (h a (.head _)), ih fun y hy => h y (.tail _ hy), List.map_map]
    rfl
theorem placesTo_first {row : List Int} {i : Nat} {rest : List Int} (h : placesTo row row.length = (i : Int) :: rest) : ∀ j, j < i → isNT (row.getD j 0) = false := by
  intro j hj
  cases e : isNT (row.getD j 0) with
  | false => rfl
  | true =>
    exfalso
    have hi : i < row.length := by
      (refine impApp (placesTo_mem (row := row) (j := row.length) (x := (i : Int)) (by rw [h]; exact .head _)) ?_; refine cex1 ?_; rintro i'; refine cand3 ?_; rintro hi' e' _)
      (first | lia | omega)
    have key : ∀ n, j < n → n ≤ row.length → ∃ a r, placesTo row n = a :: r ∧ a ≤ (j : Int) := by
      intro n
      induction n with
      | zero => intro h; (first | lia | omega)
      | succ n ih =>
        intro h1 h2
        rw [placesTo_succ]
        by_cases hjn : j = n
        · subst hjn
          rw [if_pos e]
          cases hp : placesTo row j with
          | nil => exact ⟨_, _, rfl, Int.le_refl _⟩
          | cons a r =>
            (refine impApp (placesTo_mem (row := row) (j := j) (x := a) (by rw [hp]; exact .head _)) ?_; refine cex1 ?_; rintro i'; refine cand3 ?_; rintro hi' rfl _)
            exact ⟨_, _, rfl, by (first | lia | omega)⟩
        · (refine impApp (ih (by (first | lia | omega)) (by (first | lia | omega))) ?_; refine cex2 ?_; rintro a r; refine cand2 ?_; rintro e1 e2)
          rw [e1]
          split
          · exact ⟨_, _, rfl, e2⟩
          · exact ⟨_, _, rfl, e2⟩
    (refine impApp (key row.length (by (first | lia | omega)) (Nat.le_refl _)) ?_; refine cex2 ?_; rintro a r; refine cand2 ?_; rintro e1 e2)
    rw [h] at e1
    cases e1
    (first | lia | omega)
theorem rowsF_expand {gr : List (List (List Int))} {C : List (List Int)} (hC : gr.getD 2 [] = C) (ht : ∀ p ∈ C, ∀ y ∈ p, y < 256) : ∀ (n : Nat) (row : List Int), (∀ y ∈ row, y < 256 ∨ y = 258) → (row.filter (· == 258)).length ≤ n → rowsF gr n row = expand C row := by
  intro n
  induction n with
  | zero =>
    intro row hr hn
    have : ∀ y ∈ row, y ≠ 258 := fun y hy e => by
      have hm : y ∈ row.filter (· == 258) := List.mem_filter.mpr ⟨hy, by simp [e]⟩
      rw [List.length_eq_zero_iff.mp (Nat.le_zero.mp hn)] at hm; cases hm
    have := expand_term (C := C) row this []
    rw [List.append_nil] at this
    rw [this]; simp [rowsF, expand]
  | succ n ih =>
    intro row hr hn
    cases hp : placesTo row row.length with
    | nil =>
      rw [rowsF_nil hp]
      have hno : ∀ y ∈ row, y ≠ 258 := fun y hy e => by
        obtain ⟨i, hi, rfl⟩ := List.getElem_of_mem hy
        have : (i : Int) ∈ placesTo row row.length := by
          unfold placesTo
          refine List.mem_map.mpr ⟨i, List.mem_filter.mpr ⟨List.mem_range.mpr hi, ?_⟩, rfl⟩
          rw [List.getD_eq_getElem?_getD, List.getElem?_eq_getElem hi, Option.getD_some, e]; rfl
        rw [hp] at this; cases this
      have := expand_term (C := C) row hno []
      rw [List.append_nil] at this
      rw [this]; simp [expand]
    | cons k r =>
      (refine impApp (placesTo_mem (row := row) (j := row.length) (x := k) (by rw [hp]; exact .head _)) ?_; refine cex1 ?_; rintro i; refine cand3 ?_; rintro hi rfl hnt)
      have hfirst := placesTo_first hp
      rw [rowsF_cons hp]
      have hgx : row.getD i 0 = row[i] := by rw [List.getD_eq_getElem?_getD, List.getElem?_eq_getElem hi]; rfl
      have h258 : row[i] = 258 := by
        rcases hr _ (List.getElem_mem hi) with h | h
        · rw [hgx] at hnt; simp [isNT] at hnt; (first | lia | omega)
        · exact h
      rw [Int.toNat_natCast, hgx, h258]
      have hrow : row = row.take i ++ 258 :: row.drop (i + 1) := by
        conv => lhs; rw [← List.take_append_drop i row, List.drop_eq_getElem_cons hi, h258]
      have hpre : ∀ y ∈ row.take i, y ≠ 258 := fun y hy e => by
        obtain ⟨j, hj, rfl⟩ := List.getElem_of_mem hy
        rw [List.length_take] at hj
        have h1 := hfirst j (by (first | lia | omega))
        rw [List.getD_eq_getElem?_getD, List.getElem?_eq_getElem (by (first | lia | omega)), Option.getD_some] at h1
        rw [List.getElem_take] at e
        rw [e] at h1; simp [isNT] at h1
      have hcnt : (row.filter (· == 258)).length = ((row.drop (i + 1)).filter (· == 258)).length + 1 := by
        conv => lhs; rw [hrow]
        rw [List.filter_append, List.filter_eq_nil_iff.mpr (fun y hy => by simpa using hpre y hy)]
        simp
      show ((gr.getD (258 - 256 : Int).toNat []).flatMap _) = _
      rw [show ((258 : Int) - 256).toNat = 2 from rfl, hC]
      conv => rhs; rw [hrow, expand_term _ hpre, expand, if_pos rfl, List.map_flatMap]
      have hcongr : ∀ (f g : List Int → List (List Int)) (l : List (List Int)), (∀ p ∈ l, f p = g p) → l.flatMap f = l.flatMap g := by
        intro f g l
        induction l with
        | nil => intro _; rfl
        | cons a r ih => intro h; rw [List.flatMap_cons, List.flatMap_cons, h a (.head _), ih fun p hp => h p (.tail _ hp)]
      refine hcongr _ _ _ fun part hpart => ?_
      have hpt := ht part hpart
      have hpart' : ∀ y ∈ part, y ≠ 258 := fun y hy e => by have := hpt y hy; (first | lia | omega)
      rw [ih]
      · rw [expand_term _ (fun y hy => by
          rcases List.mem_append.mp hy with hy | hy
          · exact hpre y hy
          · exact hpart' y hy), List.map_map]
        congr 1
        funext z
        simp
      · intro y hy
        rcases List.mem_append.mp hy with hy | hy
        · rcases List.mem_append.mp hy with hy | hy
          · exact hr y (List.mem_of_mem_take hy)
          · exact .inl (hpt y hy)
        · exact hr y (List.mem_of_mem_drop hy)
      · rw [List.filter_append, List.filter_append, List.filter_eq_nil_iff.mpr (fun y hy => by simpa using hpre y hy), List.filter_eq_nil_iff.mpr (fun y hy => by simpa using hpart' y hy)]
        simp only [List.nil_append]
        (first | lia | omega)
/-! part Pl3 -/
theorem cross_nil (a : List (List Str)) : cross a [[]] = a := by
  unfold cross
  induction a with
  | nil => rfl
  | cons x r ih => rw [List.flatMap_cons, ih]; simp
theorem nil_cross (a : List (List Str)) : cross [[]] a = a := by
  unfold cross; simp
theorem cross_append (a b c : List (List Str)) : cross (a ++ b) c = cross a c ++ cross b c := by
  unfold cross; rw [List.flatMap_append]
theorem cross_one (x : List Str) (c : List (List Str)) : cross [x] c = c.map (x ++ ·) := by unfold cross; simp
theorem cross_map (x : List Str) (b c : List (List Str)) : cross (b.map (x ++ ·)) c = (cross b c).map (x ++ ·) := by
  induction b with
  | nil => rfl
  | cons y r ih =>
    have h1 : cross ((y :: r).map (x ++ ·)) c = cross [x ++ y] c ++ cross (r.map (x ++ ·)) c := by rw [List.map_cons, ← cross_append]; rfl
    have h2 : cross (y :: r) c = cross [y] c ++ cross r c := by rw [← cross_append]; rfl
    rw [h1, h2, ih, List.map_append, cross_one, cross_one, List.map_map]
    congr 1
    refine List.map_congr_left fun z _ => ?_
    simp
theorem cross_assoc (a b c : List (List Str)) : cross (cross a b) c = cross a (cross b c) := by
  induction a with
  | nil => rfl
  | cons x r ih =>
    have h1 : cross (x :: r) b = b.map (x ++ ·) ++ cross r b := by rw [← cross_one, ← cross_append]; rfl
    have h2 : cross (x :: r) (cross b c) = (cross b c).map (x ++ ·) ++ cross r (cross b c) := by rw [← cross_one, ← cross_append]; rfl
    rw [h1, h2, cross_append, ih, cross_map]
/-- the texts of a row of figures, from the right -/
def wholeE (ch : List (List Str)) : List Int → List (List Str)
  | [] => [[]]
  | f :: r => cross (choiceF ch f) (wholeE ch r)
theorem wholeF_eq (ch : List (List Str)) (l : List Int) : wholeF ch l = wholeE ch l := by
  have key : ∀ (l : List Int) (ws : List (List Str)), l.foldl (fun ws f => cross ws (choiceF ch f)) ws = cross ws (wholeE ch l) := by
    intro l
    induction l with
    | nil => intro ws; rw [wholeE, cross_nil]; rfl
    | cons f r ih => intro ws; rw [List.foldl_cons, ih, wholeE, cross_assoc]
  unfold wholeF
  rw [key, nil_cross]
theorem sym_spl {f : Int} (h0 : 1 ≤ f) (h7 : f < 7) : sym f < 256 ∧ spl (sym f) = pieceOf f ∧ ∃ z, spellTo toks (sym f) = some z ∧ z.length ≤ 3 := by
  have : f = 1 ∨ f = 2 ∨ f = 3 ∨ f = 4 ∨ f = 5 ∨ f = 6 := by (first | lia | omega)
  rcases this with rfl | rfl | rfl | rfl | rfl | rfl
  · exact ⟨by decide, by decide +kernel, Str.ofString "*", by decide +kernel, by decide +kernel⟩
  · exact ⟨by decide, by decide +kernel, Str.ofString "**", by decide +kernel, by decide +kernel⟩
  · exact ⟨by decide, by decide +kernel, Str.ofString "=", by decide +kernel, by decide +kernel⟩
  · exact ⟨by decide, by decide +kernel, Str.ofString "*=", by decide +kernel, by decide +kernel⟩
  · exact ⟨by decide, by decide +kernel, Str.ofString "/", by decide +kernel, by decide +kernel⟩
  · exact ⟨by decide, by decide +kernel, Str.ofString "a", by decide +kernel, by decide +kernel⟩
theorem expand_whole (C : List (List Int)) : ∀ fs : List Int, (∀ f ∈ fs, 1 ≤ f ∧ f < 8) → (expand C (fs.map sym)).map (List.map spl) = wholeE (C.map (List.map spl)) fs
  | [], _ => rfl
  | f :: r, h => by
    have ih := expand_whole C r fun g hg => h g (.tail _ hg)
    obtain ⟨h1, h8⟩ := h f (.head _)
    rw [List.map_cons, expand, wholeE, ← ih]
    by_cases h7 : f = 7
    · subst h7
      rw [if_pos (show sym 7 = 258 from rfl), List.map_flatMap]
      unfold choiceF cross
      rw [if_pos rfl, List.flatMap_map]
      congr 1
      funext p
      simp [List.map_map, Function.comp_def]
    · have h7' : f < 7 := by (first | lia | omega)
      (refine impApp (sym_spl h1 h7') ?_; refine cand3 ?_; rintro s1 s2 _)
      rw [if_neg (by (first | lia | omega))]
      unfold choiceF
      rw [if_neg h7, cross_one, List.map_map, List.map_map]
      refine List.map_congr_left fun z _ => ?_
      simp [s2]
theorem fs_ok8 {pair : List Int} (h : fig8 pair) : ∀ f ∈ pair.takeWhile (fun x => decide (x ≠ 0)), 1 ≤ f ∧ f < 8 := by
  intro f hf
  have h1 := h f ((List.takeWhile_sublist _).mem hf)
  have : f ≠ 0 := by
    have hx : ∀ l : List Int, ∀ x ∈ l.takeWhile (fun x => decide (x ≠ 0)), x ≠ 0 := by
      intro l
      induction l with
      | nil => intro x hx; simp at hx
      | cons a r ih =>
        intro x hx
        rw [List.takeWhile_cons] at hx
        split at hx
        · rename_i ha
          rcases List.mem_cons.mp hx with rfl | hx
          · simpa using ha
          · exact ih x hx
        · simp at hx
    exact hx _ f hf
  (first | lia | omega)
theorem part_told {pair : List Int} (h : fig7 pair) : [(partOf pair).map spl] = wholeOf [] pair := by
  unfold partOf wholeOf
  rw [wholeF_eq]
  have h8 := fs_ok8 (pair := pair) fun f hf => by have := h f hf; (first | lia | omega)
  have h7 : ∀ f ∈ pair.takeWhile (fun x => decide (x ≠ 0)), 1 ≤ f ∧ f < 7 := fun f hf => ⟨(h8 f hf).1, (h f ((List.takeWhile_sublist _).mem hf)).2⟩
  generalize pair.takeWhile (fun x => decide (x ≠ 0)) = fs at h7
  induction fs with
  | nil => rfl
  | cons f r ih =>
    obtain ⟨a, b⟩ := h7 f (.head _)
    rw [wholeE, ← ih fun g hg => h7 g (.tail _ hg)]
    unfold choiceF
    rw [if_neg (by (first | lia | omega)), cross_one, List.map_cons, List.map_cons, (sym_spl a b).2.1]
    rfl
theorem grow_told {H : List Int} (h : fig7 H) : (growOf H).map (List.map spl) = toldF 0 H [] := by
  unfold growOf toldF
  rw [← part_told fun f hf => h f (List.mem_of_mem_take hf), ← part_told fun f hf => h f (List.mem_of_mem_drop hf)]
  rfl
theorem grow_term {H : List Int} (h : fig7 H) : ∀ p ∈ growOf H, ∀ y ∈ p, y < 256 := by
  intro p hp
  rcases List.mem_cons.mp hp with rfl | hp
  · exact part_term fun f hf => h f (List.mem_of_mem_take hf)
  · rw [List.mem_singleton.mp hp]; exact part_term fun f hf => h f (List.mem_of_mem_drop hf)
theorem rows_pair {gr : List (List (List Int))} {H pair : List Int} (hC : gr.getD 2 [] = growOf H) (hH : fig7 H) (hp : fig8 pair) (hl : pair.length ≤ 2) :
    rowsF gr 2 (partOf pair) = expand (growOf H) (partOf pair) := by
  refine rowsF_expand hC (grow_term hH) 2 _ (fun y hy => ?_) (Nat.le_trans (List.length_filter_le _ _) (Nat.le_trans (partOf_len pair) hl))
  (refine impApp (mem_partOf hy) ?_; refine cex1 ?_; rintro f; refine cand3 ?_; rintro hf _ rfl)
  have := sym_lt (hp f hf)
  by_cases e : sym f = 258
  · exact .inr e
  · exact .inl (this.2.1 e)
theorem rows_top {gr : List (List (List Int))} {x : Int} (hx : x = 256 ∨ x = 257) {F H : List Int} (hF : fig8 F) (hH : fig7 H) (l4 : F.length = 4) (hg : gr.getD (x - 256).toNat [] = growOf F) (hC : gr.getD 2 [] = growOf H) :
    rowsF gr 3 [x] = expand (growOf H) (partOf (F.take 2)) ++ expand (growOf H) (partOf (F.drop 2)) := by
  have hp : placesTo [x] [x].length = ((0 : Nat) : Int) :: [] := by rcases hx with rfl | rfl <;> rfl
  rw [rowsF_cons hp]
  show ((gr.getD (x - 256).toNat []).flatMap fun part => rowsF gr 2 ([] ++ part ++ [])) = _
  rw [hg]
  show rowsF gr 2 ([] ++ partOf (F.take 2) ++ []) ++ (rowsF gr 2 ([] ++ partOf (F.drop 2) ++ []) ++ []) = _
  rw [List.nil_append, List.nil_append, List.append_nil, List.append_nil, List.append_nil,
    rows_pair hC hH (fun f hf => hF f (List.mem_of_mem_take hf)) (by rw [List.length_take]; (first | lia | omega)), rows_pair hC hH (fun f hf => hF f (List.mem_of_mem_drop hf)) (by rw [List.length_drop]; (first | lia | omega))]
theorem rows_told {gr : List (List (List Int))} {x : Int} (hx : x = 256 ∨ x = 257) {F H : List Int} (hF : fig8 F) (hH : fig7 H) (l4 : F.length = 4) (hg : gr.getD (x - 256).toNat [] = growOf F) (hC : gr.getD 2 [] = growOf H) :
    (rowsF gr 3 [x]).map (List.map spl) = toldF 1 F H := by
  rw [rows_top hx hF hH l4 hg hC, List.map_append]
  unfold toldF partOf wholeOf
  rw [wholeF_eq, wholeF_eq, expand_whole _ _ (fs_ok8 fun f hf => hF f (List.mem_of_mem_take hf)), expand_whole _ _ (fs_ok8 fun f hf => hF f (List.mem_of_mem_drop hf)), grow_told hH]
def rules (figs gs : List Int) : List Str := (toldF 1 figs gs).map (Txt.join (Str.ofString " "))
theorem words_rows {gr : List (List (List Int))} {x : Int} (hx : x = 256 ∨ x = 257) {F H : List Int} (hF : fig8 F) (hH : fig7 H) (l4 : F.length = 4) (hg : gr.getD (x - 256).toNat [] = growOf F) (hC : gr.getD 2 [] = growOf H) :
    (rowsF gr 3 [x]).map wordOf = words F H ∧ (rowsF gr 3 [x]).map ruleOf = rules F H := by
  unfold words rules
  rw [← rows_told hx hF hH l4 hg hC, List.map_map, List.map_map]
  exact ⟨rfl, rfl⟩
theorem expand_rows {C : List (List Int)} (hC : ∀ p ∈ C, p.length ≤ 2) (P : Int → Prop) (hCP : ∀ p ∈ C, ∀ y ∈ p, P y) : ∀ r : List Int, (∀ y ∈ r, y = 258 ∨ P y) → ∀ row ∈ expand C r, row.length ≤ 2 * r.length ∧ ∀ y ∈ row, P y
  | [], _, row, h => by
    rw [expand, List.mem_singleton] at h
    subst h; exact ⟨Nat.le_refl _, fun y hy => by cases hy⟩
  | x :: r, hr, row, h => by
    have ih := expand_rows hC P hCP r fun y hy => hr y (.tail _ hy)
    rw [expand] at h
    split at h
    · (refine impApp (List.mem_flatMap.mp h) ?_; refine cex1 ?_; rintro p; refine cand2 ?_; rintro hp h)
      (refine impApp (List.mem_map.mp h) ?_; refine cex1 ?_; rintro z; refine cand2 ?_; rintro hz rfl)
      obtain ⟨i1, i2⟩ := ih z hz
      refine ⟨by have := hC p hp; simp only [List.length_append, List.length_cons]; (first | lia | omega), fun y hy => ?_⟩
      rcases List.mem_append.mp hy with hy | hy
      · exact hCP p hp y hy
      · exact i2 y hy
    · rename_i hx
      (refine impApp (List.mem_map.mp h) ?_; refine cex1 ?_; rintro z; refine cand2 ?_; rintro hz rfl)
      obtain ⟨i1, i2⟩ := ih z hz
      refine ⟨by simp only [List.length_cons]; (first | lia | omega), fun y hy => ?_⟩
      rcases List.mem_cons.mp hy with rfl | hy
      · exact (hr y (.head _)).resolve_left hx
      · exact i2 y hy
theorem rows_ok {gr : List (List (List Int))} {x : Int} (hx : x = 256 ∨ x = 257) {F H : List Int} (hF : fig8 F) (hH : fig7 H) (l4 : F.length = 4) (l4' : H.length = 4) (hg : gr.getD (x - 256).toNat [] = growOf F) (hC : gr.getD 2 [] = growOf H) :
    ∀ row ∈ rowsF gr 3 [x], RowOk row := by
  rw [rows_top hx hF hH l4 hg hC]
  have hP7 : ∀ pair : List Int, fig7 pair → ∀ y ∈ partOf pair, ∃ z, spellTo toks y = some z ∧ z.length ≤ 3 := fun pair h y hy => by
    (refine impApp (mem_partOf hy) ?_; refine cex1 ?_; rintro f; refine cand3 ?_; rintro hf h0 rfl)
    have := h f hf
    exact (sym_spl (by (first | lia | omega)) (by (first | lia | omega))).2.2
  have hP8 : ∀ pair : List Int, fig8 pair → ∀ y ∈ partOf pair, y = 258 ∨ ∃ z, spellTo toks y = some z ∧ z.length ≤ 3 := fun pair h y hy => by
    (refine impApp (mem_partOf hy) ?_; refine cex1 ?_; rintro f; refine cand3 ?_; rintro hf h0 rfl)
    have := h f hf
    by_cases h7 : f = 7
    · subst h7; exact .inl rfl
    · exact .inr (sym_spl (by (first | lia | omega)) (by (first | lia | omega))).2.2
  have hC2 : ∀ p ∈ growOf H, p.length ≤ 2 := fun p hp => by
    rcases List.mem_cons.mp hp with rfl | hp
    · exact Nat.le_trans (partOf_len _) (by rw [List.length_take]; (first | lia | omega))
    · rw [List.mem_singleton.mp hp]; exact Nat.le_trans (partOf_len _) (by rw [List.length_drop]; (first | lia | omega))
  have hCP : ∀ p ∈ growOf H, ∀ y ∈ p, ∃ z, spellTo toks y = some z ∧ z.length ≤ 3 := fun p hp => by
    rcases List.mem_cons.mp hp with rfl | hp
    · exact hP7 _ fun f hf => hH f (List.mem_of_mem_take hf)
    · rw [List.mem_singleton.mp hp]; exact hP7 _ fun f hf => hH f (List.mem_of_mem_drop hf)
  have key : ∀ pair : List Int, fig8 pair → pair.length ≤ 2 → ∀ row ∈ expand (growOf H) (partOf pair), RowOk row := fun pair h hl row hrow => by
    obtain ⟨a, b⟩ := expand_rows hC2 _ hCP (partOf pair) (hP8 pair h) row hrow
    exact ⟨by have := partOf_len pair; (first | lia | omega), b⟩
  intro row hrow
  rcases List.mem_append.mp hrow with hrow | hrow
  · exact key _ (fun f hf => hF f (List.mem_of_mem_take hf)) (by rw [List.length_take]; (first | lia | omega)) row hrow
  · exact key _ (fun f hf => hF f (List.mem_of_mem_drop hf)) (by rw [List.length_drop]; (first | lia | omega)) row hrow
theorem told_bound {F H : List Int} (l4 : F.length = 4) (l4' : H.length = 4) : (toldF 1 F H).length ≤ 8 ∧ ∀ r ∈ toldF 1 F H, r.length ≤ 4 := by
  obtain ⟨c1, c2⟩ := toldF0_bound l4'
  have h1 := wholeOf_bound c1 c2 (pair := F.take 2) (by rw [List.length_take]; (first | lia | omega))
  have h2 := wholeOf_bound c1 c2 (pair := F.drop 2) (by rw [List.length_drop]; (first | lia | omega))
  rw [show toldF 1 F H = wholeOf (toldF 0 H []) (F.take 2) ++ wholeOf (toldF 0 H []) (F.drop 2) from rfl]
  refine ⟨by rw [List.length_append]; (first | lia | omega), fun r hr => ?_⟩
  rcases List.mem_append.mp hr with hr | hr
  · exact h1.2 r hr
  · exact h2.2 r hr
/-! part Lw0 -/
/-! ## the law's own body -/
def lawBody : List Stmt := match PySem.Challenge.pw_rl0061_01.main.body.getLast? with
  | some (.FunctionDef _ _ b _ _ _ _ _ _ _) => b
  | _ => []
def lawScope : Scope := match PySem.Challenge.pw_rl0061_01.main.body.getLast? with
  | some (.FunctionDef _ _ _ _ _ _ s _ _ _) => s
  | _ => { kind := .function, names := [], isGenerator := false, isCoroutine := false }
abbrev lawEnv (L fa : Addr) (cd : Value) : Env := envOfC (Str.ofString "law") lawScope L fa cd
abbrev lawA (dp : Nat) (fr : Option (List Env)) (gd : Option (List Code)) (un : Nat) (L fa : Addr) (cd : Value) : Around := ({ handled := none, depth := dp, frames := fr, guards := gd, units := un } : Around).deeper (lawEnv L fa cd)
theorem execs_append (b : List Stmt) (env : Env) : ∀ a : List Stmt, execs (a ++ b) env = execs a env >>= fun f => match f with | .next => execs b env | f => pure f
  | [] => by
    show execs b env = execs [] env >>= _
    rw [show execs [] env = pure Flow.next from rfl, pure_bind]
  | st :: a => by
    rw [List.cons_append, execs_cons, execs_cons, bind_assoc]
    congr 1
    funext f
    cases f with
    | next => exact execs_append b env a
    | _ => simp only [pure_bind]
theorem execs_app {M : Model} {A : Around} {Q : Flow → Shared → Prop} {E : Value → Shared → Prop} {env : Env} {s : Shared} (a b : List Stmt) {l : List Stmt} (e : l = a ++ b) {Q₁ : Shared → Prop}
    (h : wpAny M A (execs a env) (fun f s' => f = .next ∧ Q₁ s') E s) (h2 : ∀ s', Q₁ s' → wpAny M A (execs b env) Q E s') : wpAny M A (execs l env) Q E s := by
  rw [e, execs_append]
  refine wpAny_bind (wpAny_mono h (fun f s' h' => ?_) fun _ _ e => e)
  obtain ⟨rfl, h'⟩ := h'
  exact h2 s' h'
theorem lawBody_len : lawBody.length = 27 := by rfl
/-! part Lw1 -/
def txtOk (t : Str) : Prop := t.length = 6 ∧ ∀ c ∈ tl t, c = 42 ∨ c = 61 ∨ c = 97 ∨ c = 65 ∨ c = 47
def IntsAt (G : Heap) (a : Addr) (l : List Int) : Prop := ∃ vs, LL G a vs ∧ IntsAre vs l
def CellInts (G : Heap) (c : Addr) (l : List Int) : Prop := ∃ a, G.IsCell c (some (.ref a)) ∧ IntsAt G a l
def St (s : Shared) (B : Heap) (L : Addr) (cells : List (Addr × Obj)) (Φ : Heap → (Str → Option Value) → Prop) (s' : Shared) : Prop :=
  ∃ h tk G m, s' = { s with heap := h, toks := tk } ∧ Gs B B G ∧ Fr B L h m ∧ News B L h (cells ++ gl B G) ∧ Off G cells ∧ Φ G m
def own18 : List Int := [7, 3, 1, 6, 2, 3, 1, 4, 1, 1, 5, 0, 2, 0, 0, 1, 5, 3]
theorem eighteen (ns : List Int) : (ns.take 18 ++ own18.drop ns.length).length = 18 := by
  rw [List.length_append, List.length_take, List.length_drop]
  show min 18 ns.length + (18 - ns.length) = 18
  (first | lia | omega)
def Num (G : Heap) (m : Str → Option Value) : Prop := ∃ D N, m (Str.ofString "numbers") = some (.ref D) ∧ IntsAt G D N ∧ N.length = 18
abbrev cells7 (L : Addr) (o1 o2 o3 o4 o5 o6 o7 : Obj) : List (Addr × Obj) := [(L + 1 + 1 + 1 + 1 + 1 + 1 + 1, o7), (L + 1 + 1 + 1 + 1 + 1 + 1, o6), (L + 1 + 1 + 1 + 1 + 1, o5), (L + 1 + 1 + 1 + 1, o4), (L + 1 + 1 + 1, o3), (L + 1 + 1, o2), (L + 1, o1)]
def Post1 (Q : Shared → Prop) (s' : Shared) : Prop := Q s' ∧ 1 ≤ s'.toks
theorem off_cells {G : Heap} {L : Addr} {o1 o2 o3 o4 o5 o6 o7 : Obj} (h : ∀ d : Addr, L < d → d ≤ L + 1 + 1 + 1 + 1 + 1 + 1 + 1 → G.get? d = none) : Off G (cells7 L o1 o2 o3 o4 o5 o6 o7) := by
  have k : ∀ d : Nat, @LT.lt Nat _ L d → @LE.le Nat _ d (L + 1 + 1 + 1 + 1 + 1 + 1 + 1) → G.get? d = none := h
  refine Off.cons (k _ ?_ ?_) (Off.cons (k _ ?_ ?_) (Off.cons (k _ ?_ ?_) (Off.cons (k _ ?_ ?_) (Off.cons (k _ ?_ ?_) (Off.cons (k _ ?_ ?_) (Off.cons (k _ ?_ ?_) Off.nil)))))) <;> (first | lia | omega)
theorem words5 : True := by
  k_with "storeName" => (((with_reducible show wpAny _ _ (storeName (envOfC _ _ _ _ _) (Str.ofString "own") _) _ _ _); k_dflt (refine' storeE_L ?hqhL ?hqF ?hqN ?_ ?hqa ?hqb; (case hqb => rfl); (case hqa => rfl); (case hqF => k_asm); (case hqhL => rfl); (case hqN => k_asm)); intro _ _ _; (try k_sweep); (dsimp only); (refine wpAny_with_toks (n := 1) (Nat.le_add_left 1 _) ?_)))
  trivial
section
variable {w : World} {p : Program} {loose : List Str} {mean : ExcName → Option Value} {mg mb : Str → Option Value} {B : Heap} {L fa : Addr} {cd : Value} {dp un : Nat} {fr : Option (List Env)} {gd : Option (List Code)} {s : Shared} {m : Str → Option Value}
theorem seg1 {o1 o2 o3 o4 o5 o6 o7 : Obj} {a : Addr} {vs : List Value} {ns : List Int} {E : Value → Shared → Prop} (hd : dp + 30 < recursionLimit) (hu : un + 400 < cLine) (X : (Mine.hd.heap_39 w.params).In B) (T : Top p loose mean mg mb B)
    (hl : B.IsList a vs.toArray) (hI : IntsAre vs ns) (hn : ns.length ≤ 63) (hm : m (Str.ofString "script") = some (.ref a))
    (F : Fr B L s.heap m) (N : News B L s.heap (cells7 L o1 o2 o3 o4 o5 o6 o7)) (hLB : B.objs.size ≤ L) :
    wpAny (model PR w) (lawA dp fr gd un L fa cd) (execs (lawBody.take 2) (lawEnv L fa cd)) (fun f s' => f = .next ∧ Post1 (St s B L (cells7 L o1 o2 o3 o4 o5 o6 o7) Num) s') E s := by
  show wpAny _ _ (execs [_, _] (envOfC _ { kind := _, names := _, isGenerator := _, isCoroutine := _, more := _ } _ _ _)) _ _ _
  rw [m_see hm] at F
  walk_at "MINE fill"
  (try dsimp only); (try k_fold)
  walk_at "GO"
  rename_i own h1 lown tk1 D2 h2 lD2 D1 h3 lD1 D0 h4 lD0 h5 F5 N5 htk
  generalize hov : [Value.int 7 s.toks, _, _, _, _, _, _, _, _, _, _, _, _, _, _, _, _, _] = ov at N5
  have hown : IntsAre ov own18 := by
    rw [← hov]
    unfold own18
    repeat (first | exact .nil | refine .cons _ _ ?_)
  have S : Gs B B B := Gs.init (StaysIn.refl _)
  have N5' := N5
  rw [← List.append_nil (_ :: _), ← gl_self (StaysIn.refl B)] at N5'
  have hL1 : ∀ d, L < d → B.get? d = none := fun d hd => by
    cases e : B.get? d with
    | none => rfl
    | some o => exact absurd (Heap.lt_size e) (Nat.not_lt.mpr (Nat.le_trans hLB (Nat.le_of_lt hd)))
  (refine impApp (freezes [(D0, listOf (vs.take (Int.toNat 18) ++ ov.drop ((ns.length : Int).toNat)).toArray 0)] (_ :: _ :: _ :: cells7 L o1 o2 o3 o4 o5 o6 o7) S F5 N5' (fun p => Iff.rfl)) ?_; refine cex1 ?_; rintro G1; refine cand5 ?_; rintro S1 g1 fz1 N6 off1)
  have lD0' : @LT.lt Nat _ (L + 1 + 1 + 1 + 1 + 1 + 1 + 1) D0 := lD0.2.2.2.1
  have e18 := eighteen ns
  refine ⟨⟨h5, _, G1, _, rfl, S1, F5, fun p hp => N6 p (.tail _ (.tail _ (.tail _ hp))), ?_, D0, ns.take 18 ++ own18.drop ns.length, rfl, ⟨_, LL.of (fz1 (D0, _) (.head _)), ?_⟩, e18⟩, htk⟩
  · refine off_cells fun d h1 h2 => off1 d (fun p hp => ?_) (hL1 d h1)
    rw [List.mem_singleton.mp hp]
    have h2' : @LE.le Nat _ d (L + 1 + 1 + 1 + 1 + 1 + 1 + 1) := h2
    exact Nat.ne_of_gt (Nat.lt_of_le_of_lt h2' lD0')
  · rw [Int.toNat_natCast]
    exact (IntsAre.take hI 18).append (IntsAre.drop hown _)
end
/-! part Lw2 -/
theorem pick_mid (vs : List Value) {i j : Int} (h0 : 0 ≤ i) (h1 : i ≤ j) (h2 : j ≤ (vs.length : Int)) : slicePick vs.toArray (some i) (some j) none = ((vs.drop i.toNat).take (j - i).toNat).toArray := by
  have a : kms_lo (some i) vs.length = i.toNat := by unfold kms_lo; simp only; rw [if_neg (by (first | lia | omega))]; (first | lia | omega)
  have b : kms_hi (some j) vs.length = j.toNat := by unfold kms_hi; simp only; rw [if_neg (by (first | lia | omega))]; (first | lia | omega)
  have e := kms_bounds (some i) (some j) vs.length
  rw [a, b] at e
  have q := kmk_pick_nat vs.toArray (lo := some i) (hi := some j) (a := i.toNat) (b := j.toNat) (by rw [List.size_toArray]; exact e)
  rw [q]
  have : j.toNat - i.toNat = (j - i).toNat := by (first | lia | omega)
  rw [this]
section
variable {w : World} {A : Around} {s : Shared} {E : Value → Shared → Prop} {B : Heap} {L : Addr} {m : Str → Option Value} {news : List (Addr × Obj)}
theorem slice_mid {value slice : Expr} {l : Addr} {vs : List Value} {i j : Int} {u v : Tok} {Q : Value → Shared → Prop} (F : Fr B L s.heap m) (N : News B L s.heap news) (hl : s.heap.IsList l vs.toArray) (h0 : 0 ≤ i) (h1 : i ≤ j) (h2 : j ≤ (vs.length : Int)) (hz : vs.length ≤ sizeLine)
    (h : ∀ D h', Fr B L h' m → News B L h' ((D, listOf ((vs.drop i.toNat).take (j - i).toNat).toArray 0) :: news) → (∀ p ∈ news, p.1 < D) → Q (.ref D) { s with heap := h' })
    (hs : subscripted slice false (.ref l) (.ref s.heap.objs.size) = operate [.ref s.heap.objs.size, .ref l] (getItem (.ref l) (.ref s.heap.objs.size))) (ht : ∀ r, letTemporaryGo value (.ref l) r = pure ()) :
    wpAny (model PR w) A (subscriptTail value slice (.ref l) (.ref s.heap.objs.size)) Q E { s with heap := s.heap.push { cls := .type "slice", data := .fields #[.int i u, .int j v, .none] } } :=
  kmk_slice F N hl (.int i u) (.int j v) (fun D h' F' N' l1 => h D h' F' (by rw [← pick_mid vs h0 h1 h2]; exact N') l1) hs ht (by simpa using hz)
end
theorem words6 : True := by
  k_with "subscriptTail Name Slice ref ref" => (((with_reducible show wpAny _ _ (subscriptTail _ (PySem.Expr.Slice (some _) (some _) none _) (Value.ref _) (Value.ref _)) _ _ _); k_dflt (refine' slice_mid ?hqF ?hqN ?hql ?hqh0 ?hqh1 ?hqh2 ?hqz ?_ ?hqs ?hqt; (case hqF => k_asm); (case hqN => k_asm); (case hql => walk_at "MINE isl"); (case hqh0 => (first | lia | omega)); (case hqh1 => (first | lia | omega)); (case hqh2 => (first | lia | omega)); (case hqz => walk_at "MINE size"); (case hqs => with_unfolding_all rfl); (case hqt => kmk_pure); k_whole); intro _ _ _ _ l1; (try k_lt l1); (try (revert l1; intro _)); (try k_sweep)))
  trivial
abbrev cells6 (L : Addr) (o2 o3 o4 o5 o6 o7 : Obj) : List (Addr × Obj) := [(L + 1 + 1 + 1 + 1 + 1 + 1 + 1, o7), (L + 1 + 1 + 1 + 1 + 1 + 1, o6), (L + 1 + 1 + 1 + 1 + 1, o5), (L + 1 + 1 + 1 + 1, o4), (L + 1 + 1 + 1, o3), (L + 1 + 1, o2)]
abbrev cells5 (L : Addr) (o3 o4 o5 o6 o7 : Obj) : List (Addr × Obj) := [(L + 1 + 1 + 1 + 1 + 1 + 1 + 1, o7), (L + 1 + 1 + 1 + 1 + 1 + 1, o6), (L + 1 + 1 + 1 + 1 + 1, o5), (L + 1 + 1 + 1 + 1, o4), (L + 1 + 1 + 1, o3)]
abbrev cells4 (L : Addr) (o4 o5 o6 o7 : Obj) : List (Addr × Obj) := [(L + 1 + 1 + 1 + 1 + 1 + 1 + 1, o7), (L + 1 + 1 + 1 + 1 + 1 + 1, o6), (L + 1 + 1 + 1 + 1 + 1, o5), (L + 1 + 1 + 1 + 1, o4)]
theorem IntsAt.mono {G G' : Heap} {a : Addr} {l : List Int} (x : IntsAt G a l) (k : G.StaysIn G') : IntsAt G' a l := let ⟨vs, b, c⟩ := x; ⟨vs, b.mono k, c⟩
theorem CellInts.mono {G G' : Heap} {a : Addr} {l : List Int} (x : CellInts G a l) (k : G.StaysIn G') : CellInts G' a l := let ⟨d, ⟨o, e, r⟩, b⟩ := x; ⟨d, ⟨o, k _ _ e, r⟩, b.mono k⟩
theorem fig_mod (l : List Int) (k : Int) (hk : 0 < k) : ∀ f ∈ l.map (Int.fmod · k), 0 ≤ f ∧ f < k := by
  intro f hf
  (refine impApp (List.mem_map.mp hf) ?_; refine cex1 ?_; rintro x; refine cand2 ?_; rintro _ rfl)
  exact ⟨Int.fmod_nonneg_of_pos _ hk, Int.fmod_lt_of_pos _ hk⟩
def Post2 (fig : List Int → Prop) (s : Shared) (B : Heap) (L : Addr) (cells : List (Addr × Obj)) (c : Addr) (G : Heap) (s' : Shared) : Prop :=
  ∃ fs, fs.length = 4 ∧ fig fs ∧ St s B L cells (fun G' m' => G.StaysIn G' ∧ CellInts G' c fs ∧ Num G' m') s'
section
variable {w : World} {p : Program} {loose : List Str} {mean : ExcName → Option Value} {mg mb : Str → Option Value} {B : Heap} {L fa : Addr} {cd : Value} {dp un : Nat} {fr : Option (List Env)} {gd : Option (List Code)} {s : Shared} {m : Str → Option Value} {h : Heap} {tk : Nat} {G : Heap} {E : Value → Shared → Prop}
theorem seg2 {o1 o2 o3 o4 o5 o6 o7 : Obj} (hd : dp + 30 < recursionLimit) (hu : un + 400 < cLine) (X : (Mine.hd.heap_39 w.params).In B) (T : Top p loose mean mg mb B)
    (S : Gs B B G) (F : Fr B L h m) (N : News B L h (cells7 L o1 o2 o3 o4 o5 o6 o7 ++ gl B G)) (O : Off G (cells7 L o1 o2 o3 o4 o5 o6 o7))
    (dd : o1.data = .cell none) (hm : Num G m) :
    wpAny (model PR w) (lawA dp fr gd un L fa cd) (execs ((lawBody.drop 2).take 1) (lawEnv L fa cd)) (fun f s' => f = .next ∧ Post2 fig8 s B L (cells6 L o2 o3 o4 o5 o6 o7) (L + 1) G s') E { s with heap := h, toks := tk } := by
  show wpAny _ _ (execs [_] (envOfC _ { kind := _, names := _, isGenerator := _, isCoroutine := _, more := _ } _ _ _)) _ _ _
  (revert hm; refine cex2 ?_; rintro D nl; refine cand3 ?_; rintro em ⟨vs, hDL, hI⟩ hlen)
  have hvl := hI.length
  rw [m_see em] at F
  simp only [List.cons_append, List.nil_append] at N
  walk_at "MINE fill"
  (try dsimp only); (try k_fold)
  walk_at "GO"
  rename_i D1 h1 F1 N1 lD1
  (refine impApp (freezes [(D1, listOf (vs.take 4).toArray 0)] (cells7 L o1 o2 o3 o4 o5 o6 o7) (news := (D1, listOf (vs.take 4).toArray 0) :: cells7 L o1 o2 o3 o4 o5 o6 o7) S F1 N1 (fun p => Iff.rfl)) ?_; refine cex1 ?_; rintro G1; refine cand5 ?_; rintro S1 g1 fz1 N2 off1)
  have O1 : Off G1 (cells7 L o1 o2 o3 o4 o5 o6 o7) := Off.cons (off1 (L + 1 + 1 + 1 + 1 + 1 + 1 + 1) (by walk_at "MINE offz") (O (L + 1 + 1 + 1 + 1 + 1 + 1 + 1, o7) (by k_mem))) (Off.cons (off1 (L + 1 + 1 + 1 + 1 + 1 + 1) (by walk_at "MINE offz") (O (L + 1 + 1 + 1 + 1 + 1 + 1, o6) (by k_mem))) (Off.cons (off1 (L + 1 + 1 + 1 + 1 + 1) (by walk_at "MINE offz") (O (L + 1 + 1 + 1 + 1 + 1, o5) (by k_mem))) (Off.cons (off1 (L + 1 + 1 + 1 + 1) (by walk_at "MINE offz") (O (L + 1 + 1 + 1 + 1, o4) (by k_mem))) (Off.cons (off1 (L + 1 + 1 + 1) (by walk_at "MINE offz") (O (L + 1 + 1 + 1, o3) (by k_mem))) (Off.cons (off1 (L + 1 + 1) (by walk_at "MINE offz") (O (L + 1 + 1, o2) (by k_mem))) (Off.cons (off1 (L + 1) (by walk_at "MINE offz") (O (L + 1, o1) (by k_mem))) (Off.nil)))))))
  have hPI : IntsAre (vs.take 4) (nl.take 4) := hI.take 4
  have hPl : (nl.take 4).length = 4 := by simp only [List.length_take, List.length_drop]; (first | lia | omega)
  generalize (nl.take 4) = l4 at hPI hPl
  generalize (vs.take 4) = v4 at hPI fz1
  unfold CompIn
  refine src_list (news := cells7 L o1 o2 o3 o4 o5 o6 o7) rfl (isList_of (fz1 (D1, _) (.head _))) S1 F1 N2 ?_
  intro I h2 fp Stt C0 F3 N3 st3
  have Xc : (Mine.hd.heap_39 w.params).In (less h2 I) := (X.keeps F1.keep).keeps st3
  have Tc : Top p loose mean mg mb (less h2 I) := (T.keeps F1.keep).keeps st3
  refine comp1_val (L := L) rfl C0 (fun i G' rs => G' = G1 ∧ IntsAre rs ((l4.take i).map (Int.fmod · 8))) S1 F3 N3 O1 ⟨rfl, .nil⟩ ?len ?turn ?done
  case len =>
    rintro i G' rs ⟨rfl, hrs⟩
    rw [hrs.length, sizeLine_eq, List.length_map, List.length_take]; (first | lia | omega)
  case turn =>
    rintro i v C D2 Gi mi rs kk h4 tk4 oI E₁ hi hv ⟨rfl, hrs⟩ Si _ F4 N4 O4
    simp only [List.cons_append, List.nil_append] at N4
    dsimp only at F4 N4 ⊢
    (refine impApp (IntsAre.at hPI i v hv) ?_; refine cex2 ?_; rintro x tx; refine cand2 ?_; rintro rfl hx)
    walk_at "GO"
    rename_i tk5 h5 F5 N5
    refine ⟨_, _, Gi, _, rfl, Si, StaysIn.refl _, F5, N5, O4, rfl, ?_⟩
    rw [List.take_add_one, hx, List.map_append]
    exact hrs.append (.cons _ _ .nil)
  case done =>
    rintro D3 Gn G3 rs kk h4 tk4 ⟨rfl, hrs⟩ gst hD3 g3 S3 O3 F4 N4
    rw [hPI.length, List.take_of_length_le (Nat.le_refl _)] at hrs
    simp only [List.cons_append, List.nil_append] at N4
    have oc3 : G3.get? (L + 1) = none := O3 (L + 1, o1) (by k_mem)
    dsimp only
    walk_at "GO"
    rename_i h5 oc5 F5 N5 d5
    (refine impApp (freezes [(L + 1, oc5)] (cells6 L o2 o3 o4 o5 o6 o7) (news := [(L + 1 + 1 + 1 + 1 + 1 + 1 + 1, o7), (L + 1 + 1 + 1 + 1 + 1 + 1, o6), (L + 1 + 1 + 1 + 1 + 1, o5), (L + 1 + 1 + 1 + 1, o4), (L + 1 + 1 + 1, o3), (L + 1 + 1, o2), (L + 1, oc5)]) S3 F5 N5 (by walk_at "MINE perm")) ?_; refine cex1 ?_; rintro G4; refine cand5 ?_; rintro S4 g4 fz4 N6 off4)
    refine ⟨l4.map (Int.fmod · 8), by rw [List.length_map]; exact hPl, fig_mod l4 8 (by decide), h5, _, G4, _, rfl, S4, F5, N6, Off.cons (off4 (L + 1 + 1 + 1 + 1 + 1 + 1 + 1) (by walk_at "MINE offz") (O3 (L + 1 + 1 + 1 + 1 + 1 + 1 + 1, o7) (by k_mem))) (Off.cons (off4 (L + 1 + 1 + 1 + 1 + 1 + 1) (by walk_at "MINE offz") (O3 (L + 1 + 1 + 1 + 1 + 1 + 1, o6) (by k_mem))) (Off.cons (off4 (L + 1 + 1 + 1 + 1 + 1) (by walk_at "MINE offz") (O3 (L + 1 + 1 + 1 + 1 + 1, o5) (by k_mem))) (Off.cons (off4 (L + 1 + 1 + 1 + 1) (by walk_at "MINE offz") (O3 (L + 1 + 1 + 1 + 1, o4) (by k_mem))) (Off.cons (off4 (L + 1 + 1 + 1) (by walk_at "MINE offz") (O3 (L + 1 + 1 + 1, o3) (by k_mem))) (Off.cons (off4 (L + 1 + 1) (by walk_at "MINE offz") (O3 (L + 1 + 1, o2) (by k_mem))) (Off.nil)))))), StaysIn.trans g1 (StaysIn.trans g3 g4), ⟨D3, ⟨oc5, fz4 (L + 1, _) (.head _), d5⟩, rs, (LL.of hD3).mono g4, hrs⟩, D, nl, rfl, ⟨vs, hDL.mono (StaysIn.trans g1 (StaysIn.trans g3 g4)), hI⟩, hlen⟩
theorem seg3 {o2 o3 o4 o5 o6 o7 : Obj} (hd : dp + 30 < recursionLimit) (hu : un + 400 < cLine) (X : (Mine.hd.heap_39 w.params).In B) (T : Top p loose mean mg mb B)
    (S : Gs B B G) (F : Fr B L h m) (N : News B L h (cells6 L o2 o3 o4 o5 o6 o7 ++ gl B G)) (O : Off G (cells6 L o2 o3 o4 o5 o6 o7))
    (dd : o2.data = .cell none) (hm : Num G m) :
    wpAny (model PR w) (lawA dp fr gd un L fa cd) (execs ((lawBody.drop 3).take 1) (lawEnv L fa cd)) (fun f s' => f = .next ∧ Post2 fig8 s B L (cells5 L o3 o4 o5 o6 o7) (L + 1 + 1) G s') E { s with heap := h, toks := tk } := by
  show wpAny _ _ (execs [_] (envOfC _ { kind := _, names := _, isGenerator := _, isCoroutine := _, more := _ } _ _ _)) _ _ _
  (revert hm; refine cex2 ?_; rintro D nl; refine cand3 ?_; rintro em ⟨vs, hDL, hI⟩ hlen)
  have hvl := hI.length
  rw [m_see em] at F
  simp only [List.cons_append, List.nil_append] at N
  walk_at "MINE fill"
  (try dsimp only); (try k_fold)
  walk_at "GO"
  rename_i D1 h1 F1 N1 lD1
  (refine impApp (freezes [(D1, listOf ((vs.drop 4).take 4).toArray 0)] (cells6 L o2 o3 o4 o5 o6 o7) (news := (D1, listOf ((vs.drop 4).take 4).toArray 0) :: cells6 L o2 o3 o4 o5 o6 o7) S F1 N1 (fun p => Iff.rfl)) ?_; refine cex1 ?_; rintro G1; refine cand5 ?_; rintro S1 g1 fz1 N2 off1)
  have O1 : Off G1 (cells6 L o2 o3 o4 o5 o6 o7) := Off.cons (off1 (L + 1 + 1 + 1 + 1 + 1 + 1 + 1) (by walk_at "MINE offz") (O (L + 1 + 1 + 1 + 1 + 1 + 1 + 1, o7) (by k_mem))) (Off.cons (off1 (L + 1 + 1 + 1 + 1 + 1 + 1) (by walk_at "MINE offz") (O (L + 1 + 1 + 1 + 1 + 1 + 1, o6) (by k_mem))) (Off.cons (off1 (L + 1 + 1 + 1 + 1 + 1) (by walk_at "MINE offz") (O (L + 1 + 1 + 1 + 1 + 1, o5) (by k_mem))) (Off.cons (off1 (L + 1 + 1 + 1 + 1) (by walk_at "MINE offz") (O (L + 1 + 1 + 1 + 1, o4) (by k_mem))) (Off.cons (off1 (L + 1 + 1 + 1) (by walk_at "MINE offz") (O (L + 1 + 1 + 1, o3) (by k_mem))) (Off.cons (off1 (L + 1 + 1) (by walk_at "MINE offz") (O (L + 1 + 1, o2) (by k_mem))) (Off.nil))))))
  have hPI : IntsAre ((vs.drop 4).take 4) ((nl.drop 4).take 4) := (hI.drop 4).take 4
  have hPl : ((nl.drop 4).take 4).length = 4 := by simp only [List.length_take, List.length_drop]; (first | lia | omega)
  generalize ((nl.drop 4).take 4) = l4 at hPI hPl
  generalize ((vs.drop 4).take 4) = v4 at hPI fz1
  unfold CompIn
  refine src_list (news := cells6 L o2 o3 o4 o5 o6 o7) rfl (isList_of (fz1 (D1, _) (.head _))) S1 F1 N2 ?_
  intro I h2 fp Stt C0 F3 N3 st3
  have Xc : (Mine.hd.heap_39 w.params).In (less h2 I) := (X.keeps F1.keep).keeps st3
  have Tc : Top p loose mean mg mb (less h2 I) := (T.keeps F1.keep).keeps st3
  refine comp1_val (L := L) rfl C0 (fun i G' rs => G' = G1 ∧ IntsAre rs ((l4.take i).map (Int.fmod · 8))) S1 F3 N3 O1 ⟨rfl, .nil⟩ ?len ?turn ?done
  case len =>
    rintro i G' rs ⟨rfl, hrs⟩
    rw [hrs.length, sizeLine_eq, List.length_map, List.length_take]; (first | lia | omega)
  case turn =>
    rintro i v C D2 Gi mi rs kk h4 tk4 oI E₁ hi hv ⟨rfl, hrs⟩ Si _ F4 N4 O4
    simp only [List.cons_append, List.nil_append] at N4
    dsimp only at F4 N4 ⊢
    (refine impApp (IntsAre.at hPI i v hv) ?_; refine cex2 ?_; rintro x tx; refine cand2 ?_; rintro rfl hx)
    walk_at "GO"
    rename_i tk5 h5 F5 N5
    refine ⟨_, _, Gi, _, rfl, Si, StaysIn.refl _, F5, N5, O4, rfl, ?_⟩
    rw [List.take_add_one, hx, List.map_append]
    exact hrs.append (.cons _ _ .nil)
  case done =>
    rintro D3 Gn G3 rs kk h4 tk4 ⟨rfl, hrs⟩ gst hD3 g3 S3 O3 F4 N4
    rw [hPI.length, List.take_of_length_le (Nat.le_refl _)] at hrs
    simp only [List.cons_append, List.nil_append] at N4
    have oc3 : G3.get? (L + 1 + 1) = none := O3 (L + 1 + 1, o2) (by k_mem)
    dsimp only
    walk_at "GO"
    rename_i h5 oc5 F5 N5 d5
    (refine impApp (freezes [(L + 1 + 1, oc5)] (cells5 L o3 o4 o5 o6 o7) (news := [(L + 1 + 1 + 1 + 1 + 1 + 1 + 1, o7), (L + 1 + 1 + 1 + 1 + 1 + 1, o6), (L + 1 + 1 + 1 + 1 + 1, o5), (L + 1 + 1 + 1 + 1, o4), (L + 1 + 1 + 1, o3), (L + 1 + 1, oc5)]) S3 F5 N5 (by walk_at "MINE perm")) ?_; refine cex1 ?_; rintro G4; refine cand5 ?_; rintro S4 g4 fz4 N6 off4)
    refine ⟨l4.map (Int.fmod · 8), by rw [List.length_map]; exact hPl, fig_mod l4 8 (by decide), h5, _, G4, _, rfl, S4, F5, N6, Off.cons (off4 (L + 1 + 1 + 1 + 1 + 1 + 1 + 1) (by walk_at "MINE offz") (O3 (L + 1 + 1 + 1 + 1 + 1 + 1 + 1, o7) (by k_mem))) (Off.cons (off4 (L + 1 + 1 + 1 + 1 + 1 + 1) (by walk_at "MINE offz") (O3 (L + 1 + 1 + 1 + 1 + 1 + 1, o6) (by k_mem))) (Off.cons (off4 (L + 1 + 1 + 1 + 1 + 1) (by walk_at "MINE offz") (O3 (L + 1 + 1 + 1 + 1 + 1, o5) (by k_mem))) (Off.cons (off4 (L + 1 + 1 + 1 + 1) (by walk_at "MINE offz") (O3 (L + 1 + 1 + 1 + 1, o4) (by k_mem))) (Off.cons (off4 (L + 1 + 1 + 1) (by walk_at "MINE offz") (O3 (L + 1 + 1 + 1, o3) (by k_mem))) (Off.nil))))), StaysIn.trans g1 (StaysIn.trans g3 g4), ⟨D3, ⟨oc5, fz4 (L + 1 + 1, _) (.head _), d5⟩, rs, (LL.of hD3).mono g4, hrs⟩, D, nl, rfl, ⟨vs, hDL.mono (StaysIn.trans g1 (StaysIn.trans g3 g4)), hI⟩, hlen⟩
theorem seg4 {o3 o4 o5 o6 o7 : Obj} (hd : dp + 30 < recursionLimit) (hu : un + 400 < cLine) (X : (Mine.hd.heap_39 w.params).In B) (T : Top p loose mean mg mb B)
    (S : Gs B B G) (F : Fr B L h m) (N : News B L h (cells5 L o3 o4 o5 o6 o7 ++ gl B G)) (O : Off G (cells5 L o3 o4 o5 o6 o7))
    (dd : o3.data = .cell none) (hm : Num G m) :
    wpAny (model PR w) (lawA dp fr gd un L fa cd) (execs ((lawBody.drop 4).take 1) (lawEnv L fa cd)) (fun f s' => f = .next ∧ Post2 fig7 s B L (cells4 L o4 o5 o6 o7) (L + 1 + 1 + 1) G s') E { s with heap := h, toks := tk } := by
  show wpAny _ _ (execs [_] (envOfC _ { kind := _, names := _, isGenerator := _, isCoroutine := _, more := _ } _ _ _)) _ _ _
  (revert hm; refine cex2 ?_; rintro D nl; refine cand3 ?_; rintro em ⟨vs, hDL, hI⟩ hlen)
  have hvl := hI.length
  rw [m_see em] at F
  simp only [List.cons_append, List.nil_append] at N
  walk_at "MINE fill"
  (try dsimp only); (try k_fold)
  walk_at "GO"
  rename_i D1 h1 F1 N1 lD1
  (refine impApp (freezes [(D1, listOf ((vs.drop 8).take 4).toArray 0)] (cells5 L o3 o4 o5 o6 o7) (news := (D1, listOf ((vs.drop 8).take 4).toArray 0) :: cells5 L o3 o4 o5 o6 o7) S F1 N1 (fun p => Iff.rfl)) ?_; refine cex1 ?_; rintro G1; refine cand5 ?_; rintro S1 g1 fz1 N2 off1)
  have O1 : Off G1 (cells5 L o3 o4 o5 o6 o7) := Off.cons (off1 (L + 1 + 1 + 1 + 1 + 1 + 1 + 1) (by walk_at "MINE offz") (O (L + 1 + 1 + 1 + 1 + 1 + 1 + 1, o7) (by k_mem))) (Off.cons (off1 (L + 1 + 1 + 1 + 1 + 1 + 1) (by walk_at "MINE offz") (O (L + 1 + 1 + 1 + 1 + 1 + 1, o6) (by k_mem))) (Off.cons (off1 (L + 1 + 1 + 1 + 1 + 1) (by walk_at "MINE offz") (O (L + 1 + 1 + 1 + 1 + 1, o5) (by k_mem))) (Off.cons (off1 (L + 1 + 1 + 1 + 1) (by walk_at "MINE offz") (O (L + 1 + 1 + 1 + 1, o4) (by k_mem))) (Off.cons (off1 (L + 1 + 1 + 1) (by walk_at "MINE offz") (O (L + 1 + 1 + 1, o3) (by k_mem))) (Off.nil)))))
  have hPI : IntsAre ((vs.drop 8).take 4) ((nl.drop 8).take 4) := (hI.drop 8).take 4
  have hPl : ((nl.drop 8).take 4).length = 4 := by simp only [List.length_take, List.length_drop]; (first | lia | omega)
  generalize ((nl.drop 8).take 4) = l4 at hPI hPl
  generalize ((vs.drop 8).take 4) = v4 at hPI fz1
  unfold CompIn
  refine src_list (news := cells5 L o3 o4 o5 o6 o7) rfl (isList_of (fz1 (D1, _) (.head _))) S1 F1 N2 ?_
  intro I h2 fp Stt C0 F3 N3 st3
  have Xc : (Mine.hd.heap_39 w.params).In (less h2 I) := (X.keeps F1.keep).keeps st3
  have Tc : Top p loose mean mg mb (less h2 I) := (T.keeps F1.keep).keeps st3
  refine comp1_val (L := L) rfl C0 (fun i G' rs => G' = G1 ∧ IntsAre rs ((l4.take i).map (Int.fmod · 7))) S1 F3 N3 O1 ⟨rfl, .nil⟩ ?len ?turn ?done
  case len =>
    rintro i G' rs ⟨rfl, hrs⟩
    rw [hrs.length, sizeLine_eq, List.length_map, List.length_take]; (first | lia | omega)
  case turn =>
    rintro i v C D2 Gi mi rs kk h4 tk4 oI E₁ hi hv ⟨rfl, hrs⟩ Si _ F4 N4 O4
    simp only [List.cons_append, List.nil_append] at N4
    dsimp only at F4 N4 ⊢
    (refine impApp (IntsAre.at hPI i v hv) ?_; refine cex2 ?_; rintro x tx; refine cand2 ?_; rintro rfl hx)
    walk_at "GO"
    rename_i tk5 h5 F5 N5
    refine ⟨_, _, Gi, _, rfl, Si, StaysIn.refl _, F5, N5, O4, rfl, ?_⟩
    rw [List.take_add_one, hx, List.map_append]
    exact hrs.append (.cons _ _ .nil)
  case done =>
    rintro D3 Gn G3 rs kk h4 tk4 ⟨rfl, hrs⟩ gst hD3 g3 S3 O3 F4 N4
    rw [hPI.length, List.take_of_length_le (Nat.le_refl _)] at hrs
    simp only [List.cons_append, List.nil_append] at N4
    have oc3 : G3.get? (L + 1 + 1 + 1) = none := O3 (L + 1 + 1 + 1, o3) (by k_mem)
    dsimp only
    walk_at "GO"
    rename_i h5 oc5 F5 N5 d5
    (refine impApp (freezes [(L + 1 + 1 + 1, oc5)] (cells4 L o4 o5 o6 o7) (news := [(L + 1 + 1 + 1 + 1 + 1 + 1 + 1, o7), (L + 1 + 1 + 1 + 1 + 1 + 1, o6), (L + 1 + 1 + 1 + 1 + 1, o5), (L + 1 + 1 + 1 + 1, o4), (L + 1 + 1 + 1, oc5)]) S3 F5 N5 (by walk_at "MINE perm")) ?_; refine cex1 ?_; rintro G4; refine cand5 ?_; rintro S4 g4 fz4 N6 off4)
    refine ⟨l4.map (Int.fmod · 7), by rw [List.length_map]; exact hPl, fig_mod l4 7 (by decide), h5, _, G4, _, rfl, S4, F5, N6, Off.cons (off4 (L + 1 + 1 + 1 + 1 + 1 + 1 + 1) (by walk_at "MINE offz") (O3 (L + 1 + 1 + 1 + 1 + 1 + 1 + 1, o7) (by k_mem))) (Off.cons (off4 (L + 1 + 1 + 1 + 1 + 1 + 1) (by walk_at "MINE offz") (O3 (L + 1 + 1 + 1 + 1 + 1 + 1, o6) (by k_mem))) (Off.cons (off4 (L + 1 + 1 + 1 + 1 + 1) (by walk_at "MINE offz") (O3 (L + 1 + 1 + 1 + 1 + 1, o5) (by k_mem))) (Off.cons (off4 (L + 1 + 1 + 1 + 1) (by walk_at "MINE offz") (O3 (L + 1 + 1 + 1 + 1, o4) (by k_mem))) (Off.nil)))), StaysIn.trans g1 (StaysIn.trans g3 g4), ⟨D3, ⟨oc5, fz4 (L + 1 + 1 + 1, _) (.head _), d5⟩, rs, (LL.of hD3).mono g4, hrs⟩, D, nl, rfl, ⟨vs, hDL.mono (StaysIn.trans g1 (StaysIn.trans g3 g4)), hI⟩, hlen⟩
end
/-! part Lw3 -/
section
variable {w : World} {p : Program} {loose : List Str} {mean : ExcName → Option Value} {mg mb : Str → Option Value} {B : Heap} {L fa : Addr} {cd : Value} {dp un : Nat} {fr : Option (List Env)} {gd : Option (List Code)} {s : Shared} {m : Str → Option Value} {h : Heap} {tk : Nat} {G : Heap} {E : Value → Shared → Prop}
def menu (k : Int) : Str := Txt.item (Str.ofString "*=aA/*=") k
theorem menu_one {k : Int} (h0 : 0 ≤ k) (h7 : k < 7) : ∃ c, tl (menu k) = [c] ∧ (c = 42 ∨ c = 61 ∨ c = 97 ∨ c = 65 ∨ c = 47) := by
  have : k = 0 ∨ k = 1 ∨ k = 2 ∨ k = 3 ∨ k = 4 ∨ k = 5 ∨ k = 6 := by (first | lia | omega)
  rcases this with rfl | rfl | rfl | rfl | rfl | rfl | rfl
  · exact ⟨42, by decide +kernel, by (first | lia | omega)⟩
  · exact ⟨61, by decide +kernel, by (first | lia | omega)⟩
  · exact ⟨97, by decide +kernel, by (first | lia | omega)⟩
  · exact ⟨65, by decide +kernel, by (first | lia | omega)⟩
  · exact ⟨47, by decide +kernel, by (first | lia | omega)⟩
  · exact ⟨42, by decide +kernel, by (first | lia | omega)⟩
  · exact ⟨61, by decide +kernel, by (first | lia | omega)⟩
theorem menu_text : ∀ l : List Int, (flat (l.map fun x => menu (Int.fmod x 7))).length = l.length ∧ ∀ c ∈ flat (l.map fun x => menu (Int.fmod x 7)), c = 42 ∨ c = 61 ∨ c = 97 ∨ c = 65 ∨ c = 47
  | [] => ⟨rfl, fun c h => by cases h⟩
  | x :: r => by
    obtain ⟨h1, h2⟩ := menu_text r
    (refine impApp (menu_one (k := Int.fmod x 7) (Int.fmod_nonneg_of_pos _ (by decide)) (Int.fmod_lt_of_pos _ (by decide))) ?_; refine cex1 ?_; rintro c; refine cand2 ?_; rintro e hc)
    have e2 : flat ((x :: r).map fun x => menu (Int.fmod x 7)) = c :: flat (r.map fun x => menu (Int.fmod x 7)) := by
      unfold flat
      rw [List.map_cons, List.flatMap_cons, e]; rfl
    rw [e2]
    refine ⟨by rw [List.length_cons, List.length_cons, h1], fun d hd => ?_⟩
    rcases List.mem_cons.mp hd with rfl | hd
    · exact hc
    · exact h2 d hd
theorem menu_ok {l : List Int} (h : l.length = 6) : txtOk (Txt.join (Str.ofString "") (l.map fun x => menu (Int.fmod x 7))) := by
  obtain ⟨h1, h2⟩ := menu_text l
  unfold txtOk
  rw [← tl_len, join_tl]
  exact ⟨h1.trans h, h2⟩
def Post5 (s : Shared) (B : Heap) (L : Addr) (cells : List (Addr × Obj)) (G : Heap) (s' : Shared) : Prop := ∃ t, txtOk t ∧ St s B L cells (fun G' m' => G.StaysIn G' ∧ ∃ tt, m' (Str.ofString "text") = some (.str t tt)) s'
theorem seg5 {o4 o5 o6 o7 : Obj} (hd : dp + 30 < recursionLimit) (hu : un + 400 < cLine) (X : (Mine.hd.heap_39 w.params).In B) (T : Top p loose mean mg mb B)
    (S : Gs B B G) (F : Fr B L h m) (N : News B L h (cells4 L o4 o5 o6 o7 ++ gl B G)) (O : Off G (cells4 L o4 o5 o6 o7)) (hm : Num G m) :
    wpAny (model PR w) (lawA dp fr gd un L fa cd) (execs ((lawBody.drop 5).take 1) (lawEnv L fa cd)) (fun f s' => f = .next ∧ Post5 s B L (cells4 L o4 o5 o6 o7) G s') E { s with heap := h, toks := tk } := by
  show wpAny _ _ (execs [_] (envOfC _ { kind := _, names := _, isGenerator := _, isCoroutine := _, more := _ } _ _ _)) _ _ _
  (revert hm; refine cex2 ?_; rintro D nl; refine cand3 ?_; rintro em ⟨vs, hDL, hI⟩ hlen)
  have hvl := hI.length
  rw [m_see em] at F
  simp only [List.cons_append, List.nil_append] at N
  walk_at "MINE fill"
  (try dsimp only); (try k_fold)
  walk_at "GO"
  rename_i D1 h1 F1 N1 lD1
  (refine impApp (freezes [(D1, listOf (vs.drop (Int.toNat 12)).toArray 0)] (cells4 L o4 o5 o6 o7) (news := (D1, listOf (vs.drop (Int.toNat 12)).toArray 0) :: cells4 L o4 o5 o6 o7) S F1 N1 (fun p => Iff.rfl)) ?_; refine cex1 ?_; rintro G1; refine cand5 ?_; rintro S1 g1 fz1 N2 off1)
  have O1 : Off G1 (cells4 L o4 o5 o6 o7) := Off.cons (off1 (L + 1 + 1 + 1 + 1 + 1 + 1 + 1) (by walk_at "MINE offz") (O (L + 1 + 1 + 1 + 1 + 1 + 1 + 1, o7) (by k_mem))) (Off.cons (off1 (L + 1 + 1 + 1 + 1 + 1 + 1) (by walk_at "MINE offz") (O (L + 1 + 1 + 1 + 1 + 1 + 1, o6) (by k_mem))) (Off.cons (off1 (L + 1 + 1 + 1 + 1 + 1) (by walk_at "MINE offz") (O (L + 1 + 1 + 1 + 1 + 1, o5) (by k_mem))) (Off.cons (off1 (L + 1 + 1 + 1 + 1) (by walk_at "MINE offz") (O (L + 1 + 1 + 1 + 1, o4) (by k_mem))) (Off.nil))))
  have hPI : IntsAre (vs.drop (Int.toNat 12)) (nl.drop 12) := hI.drop 12
  have hPl : (nl.drop 12).length = 6 := by simp only [List.length_drop]; (first | lia | omega)
  generalize (nl.drop 12) = l6 at hPI hPl
  generalize (vs.drop (Int.toNat 12)) = v6 at hPI fz1
  unfold CompIn
  refine src_list (news := cells4 L o4 o5 o6 o7) rfl (isList_of (fz1 (D1, _) (.head _))) S1 F1 N2 ?_
  intro I h2 fp Stt C0 F3 N3 st3
  have Xc : (Mine.hd.heap_39 w.params).In (less h2 I) := (X.keeps F1.keep).keeps st3
  have Tc : Top p loose mean mg mb (less h2 I) := (T.keeps F1.keep).keeps st3
  refine comp1_val (L := L) rfl C0 (fun i G' rs => G' = G1 ∧ StrsAre rs ((l6.take i).map fun x => menu (Int.fmod x 7))) S1 F3 N3 O1 ⟨rfl, .nil⟩ ?len ?turn ?done
  case len =>
    rintro i G' rs ⟨rfl, hrs⟩
    rw [hrs.length, sizeLine_eq, List.length_map, List.length_take]; (first | lia | omega)
  case turn =>
    rintro i v C D2 Gi mi rs kk h4 tk4 oI E₁ hi hv ⟨rfl, hrs⟩ Si _ F4 N4 O4
    simp only [List.cons_append, List.nil_append] at N4
    dsimp only at F4 N4 ⊢
    (refine impApp (IntsAre.at hPI i v hv) ?_; refine cex2 ?_; rintro x tx; refine cand2 ?_; rintro rfl hx)
    walk_at "GO"
    rename_i tk5 h5 F5 N5 kx
    refine ⟨_, _, Gi, _, rfl, Si, StaysIn.refl _, F5, N5, O4, rfl, ?_⟩
    rw [List.take_add_one, hx, List.map_append]
    exact strsAre_append hrs (.cons _ _ .nil)
  case done =>
    rintro D3 Gn G3 rs kk h4 tk4 ⟨rfl, hrs⟩ gst hD3 g3 S3 O3 F4 N4
    rw [hPI.length, List.take_of_length_le (Nat.le_refl _)] at hrs
    simp only [List.cons_append, List.nil_append] at N4
    have hWt : Wt (l6.map fun x => menu (Int.fmod x 7)) := by
      refine wt_of_len (c := 1) (fun y hy => ?_) (by rw [List.length_map]; (first | lia | omega))
      (refine impApp (List.mem_map.mp hy) ?_; refine cex1 ?_; rintro x; refine cand2 ?_; rintro _ rfl)
      (refine impApp (menu_one (k := Int.fmod x 7) (Int.fmod_nonneg_of_pos _ (by decide)) (Int.fmod_lt_of_pos _ (by decide))) ?_; refine cex1 ?_; rintro c; refine cand2 ?_; rintro e _)
      rw [← tl_len, e]; exact Nat.le_refl 1
    have hP3 : LL G3 D3 rs := LL.of hD3
    dsimp only
    walk_at "GO"
    rename_i tt h5 tk5 h6 F5 N5
    exact ⟨_, menu_ok hPl, _, _, G3, _, rfl, S3, F5, N5, O3, StaysIn.trans g1 g3, _, rfl⟩
end
/-! part Lw4 -/
section
variable {w : World} {A : Around} {s : Shared} {E : Value → Shared → Prop} {G : Heap} {env : Env}
theorem nameC_G {x : Str} {pos : Pos} {c : Addr} {v : Value} {Q : Value → Shared → Prop} (hG : G.StaysIn s.heap) (hc : G.IsCell c (some v)) (hl : env.cells.lookup x = some c) (h : Q v s)
    (hk : env.scope.kind = .function) (hx : env.kindOf x = some .cell) (hd : (x == ("__debug__" : Str)) = false := by decide) : wpAny (model PR w) A (eval (.Name x pos) env) Q E s :=
  wpAny_Name (wpAny_loadName_cell hk hx hl (hc.keeps hG) h) hd
end
theorem words7 : True := by
  k_with "eval Name" => (((with_reducible show wpAny _ _ (eval (Expr.Name _ _) (envOfC _ _ _ _ _)) _ _ _); k_dflt (refine' nameC_G ?hqhG ?hqc ?hql ?_ ?hqa ?hqb; (case hqb => rfl); (case hqa => rfl); (case hql => rfl); (case hqc => with_reducible assumption); (case hqhG => walk_at "MINE keep"); k_whole)))
  trivial
theorem len4 {l : List Int} (h : l.length = 4) : ∃ a b c d, l = [a, b, c, d] := by
  match l, h with
  | [a, b, c, d], _ => exact ⟨a, b, c, d, rfl⟩
section
variable {w : World} {p : Program} {loose : List Str} {mean : ExcName → Option Value} {mg mb : Str → Option Value} {B : Heap} {L fa : Addr} {cd : Value} {dp un : Nat} {fr : Option (List Env)} {gd : Option (List Code)} {s : Shared} {m : Str → Option Value} {h : Heap} {tk : Nat} {G : Heap} {E : Value → Shared → Prop}
/-- the three rows of figures, in their cells -/
structure Figs (G : Heap) (L : Addr) (f g k : List Int) : Prop where
  c1 : CellInts G (L + 1) f
  c2 : CellInts G (L + 1 + 1) g
  c3 : CellInts G (L + 1 + 1 + 1) k
  l1 : f.length = 4
  l2 : g.length = 4
  l3 : k.length = 4
  b1 : fig8 f
  b2 : fig8 g
  b3 : fig7 k
theorem Figs.mono {G G' : Heap} {L : Addr} {f g k : List Int} (x : Figs G L f g k) (q : G.StaysIn G') : Figs G' L f g k :=
  ⟨x.c1.mono q, x.c2.mono q, x.c3.mono q, x.l1, x.l2, x.l3, x.b1, x.b2, x.b3⟩
def Txt1 (m : Str → Option Value) (t : Str) : Prop := ∃ tt, m (Str.ofString "text") = some (.str t tt)
def Recs (w : World) (G : Heap) (m : Str → Option Value) (us1 rs1 us2 rs2 : List Str) : Prop := ∃ x y, m (Str.ofString "one") = some (.ref x) ∧ m (Str.ofString "other") = some (.ref y) ∧ Rec w G (.ref x) us1 rs1 ∧ Rec w G (.ref y) us2 rs2
theorem seg6 {o4 o5 o6 o7 : Obj} {f g q : List Int} {t : Str} (hd : dp + 30 < recursionLimit) (hu : un + 400 < cLine) (X : (Mine.hd.heap_39 w.params).In B) (T : Top p loose mean mg mb B)
    (S : Gs B B G) (F : Fr B L h m) (N : News B L h (cells4 L o4 o5 o6 o7 ++ gl B G)) (O : Off G (cells4 L o4 o5 o6 o7)) (hF : Figs G L f g q) (ht : Txt1 m t) :
    wpAny (model PR w) (lawA dp fr gd un L fa cd) (execs ((lawBody.drop 6).take 3) (lawEnv L fa cd)) (fun f' s' => f' = .next ∧ St s B L (cells4 L o4 o5 o6 o7) (fun G' m' => G.StaysIn G' ∧ Txt1 m' t ∧ Recs w G' m' (words f q) (rules f q) (words g q) (rules g q)) s') E { s with heap := h, toks := tk } := by
  show wpAny _ _ (execs [_, _, _] (envOfC _ { kind := _, names := _, isGenerator := _, isCoroutine := _, more := _ } _ _ _)) _ _ _
  obtain ⟨tt, em⟩ := ht
  obtain ⟨⟨a1, k1, v1, hL1, hI1⟩, ⟨a2, k2, v2, hL2, hI2⟩, ⟨a3, k3, v3, hL3, hI3⟩, l1, l2, l3, b1, b2, b3⟩ := hF
  (refine impApp (len4 l1) ?_; refine cex4 ?_; rintro f0 f1 f2 f3 rfl)
  (refine impApp (len4 l2) ?_; refine cex4 ?_; rintro g0 g1 g2 g3 rfl)
  (refine impApp (len4 l3) ?_; refine cex4 ?_; rintro q0 q1 q2 q3 rfl)
  rw [m_see em] at F
  simp only [List.cons_append, List.nil_append] at N
  walk_at "MINE fill"
  (try dsimp only); (try k_fold)
  walk_at "GO"
  have c4 : cells4 L o4 o5 o6 o7 = [(L + 1 + 1 + 1 + 1 + 1 + 1 + 1, o7), (L + 1 + 1 + 1 + 1 + 1 + 1, o6), (L + 1 + 1 + 1 + 1 + 1, o5), (L + 1 + 1 + 1 + 1, o4)] := rfl
  refine (grown w G a1 f0 f1 f2 f3 v1 (b1 f0 (by simp)) (b1 f1 (by simp)) (b1 f2 (by simp)) (b1 f3 (by simp)) hL1 hI1).use rfl (by walk_at "MINE room") (by walk_at "MINE room") X T F (news := [(L + 1 + 1 + 1 + 1 + 1 + 1 + 1, o7), (L + 1 + 1 + 1 + 1 + 1 + 1, o6), (L + 1 + 1 + 1 + 1 + 1, o5), (L + 1 + 1 + 1 + 1, o4)]) N S O ?_
  rintro r1 h2 tk2 G2 st2 S2 O2 R1 F2 N2
  simp only [List.cons_append, List.nil_append] at N2
  replace k2 : G2.IsCell (L + 1 + 1) (some (Value.ref a2)) := k2.keeps st2
  dsimp only
  walk_at "GO"
  refine (grown w G2 a2 g0 g1 g2 g3 v2 (b2 g0 (by simp)) (b2 g1 (by simp)) (b2 g2 (by simp)) (b2 g3 (by simp)) (hL2.mono st2) hI2).use rfl (by walk_at "MINE room") (by walk_at "MINE room") X T F2 (news := [(L + 1 + 1 + 1 + 1 + 1 + 1 + 1, o7), (L + 1 + 1 + 1 + 1 + 1 + 1, o6), (L + 1 + 1 + 1 + 1 + 1, o5), (L + 1 + 1 + 1 + 1, o4)]) N2 S2 O2 ?_
  rintro r2 h3 tk3 G3 st3 S3 O3 R2 F3 N3
  simp only [List.cons_append, List.nil_append] at N3
  replace k3 : G3.IsCell (L + 1 + 1 + 1) (some (Value.ref a3)) := k3.keeps (StaysIn.trans st2 st3)
  dsimp only
  walk_at "GO"
  refine (grown w G3 a3 q0 q1 q2 q3 v3 (by have := b3 q0 (by simp); (first | lia | omega)) (by have := b3 q1 (by simp); (first | lia | omega)) (by have := b3 q2 (by simp); (first | lia | omega)) (by have := b3 q3 (by simp); (first | lia | omega)) (hL3.mono (StaysIn.trans st2 st3)) hI3).use rfl (by walk_at "MINE room") (by walk_at "MINE room") X T F3 (news := [(L + 1 + 1 + 1 + 1 + 1 + 1 + 1, o7), (L + 1 + 1 + 1 + 1 + 1 + 1, o6), (L + 1 + 1 + 1 + 1 + 1, o5), (L + 1 + 1 + 1 + 1, o4)]) N3 S3 O3 ?_
  rintro r3 h4 tk4 G4 st4 S4 O4 R3 F4 N4
  simp only [List.cons_append, List.nil_append] at N4
  dsimp only
  walk_at "GO"
  rename_i D h5 lD h6 F6 N6
  have R1' := Rows.mono R1 (StaysIn.trans st3 st4)
  have R2' := Rows.mono R2 st4
  (refine impApp (freezes [(D, listOf #[r1, r2, r3] 0)] [(L + 1 + 1 + 1 + 1 + 1 + 1 + 1, o7), (L + 1 + 1 + 1 + 1 + 1 + 1, o6), (L + 1 + 1 + 1 + 1 + 1, o5), (L + 1 + 1 + 1 + 1, o4)] (news := (D, listOf #[r1, r2, r3] 0) :: [(L + 1 + 1 + 1 + 1 + 1 + 1 + 1, o7), (L + 1 + 1 + 1 + 1 + 1 + 1, o6), (L + 1 + 1 + 1 + 1 + 1, o5), (L + 1 + 1 + 1 + 1, o4)]) S4 F6 N6 (fun p => Iff.rfl)) ?_; refine cex1 ?_; rintro G5; refine cand5 ?_; rintro S5 st5 fz5 N7 off5)
  have O5 : Off G5 [(L + 1 + 1 + 1 + 1 + 1 + 1 + 1, o7), (L + 1 + 1 + 1 + 1 + 1 + 1, o6), (L + 1 + 1 + 1 + 1 + 1, o5), (L + 1 + 1 + 1 + 1, o4)] := Off.cons (off5 (L + 1 + 1 + 1 + 1 + 1 + 1 + 1) (by walk_at "MINE offz") (O4 (L + 1 + 1 + 1 + 1 + 1 + 1 + 1, o7) (by k_mem))) (Off.cons (off5 (L + 1 + 1 + 1 + 1 + 1 + 1) (by walk_at "MINE offz") (O4 (L + 1 + 1 + 1 + 1 + 1 + 1, o6) (by k_mem))) (Off.cons (off5 (L + 1 + 1 + 1 + 1 + 1) (by walk_at "MINE offz") (O4 (L + 1 + 1 + 1 + 1 + 1, o5) (by k_mem))) (Off.cons (off5 (L + 1 + 1 + 1 + 1) (by walk_at "MINE offz") (O4 (L + 1 + 1 + 1 + 1, o4) (by k_mem))) (Off.nil))))
  simp only [List.cons_append, List.nil_append] at N7
  have hG5 : Grown G5 (.ref D) (gr3 [f0, f1, f2, f3] [g0, g1, g2, g3] [q0, q1, q2, q3]) := ⟨D, [r1, r2, r3], rfl, LL.of (fz5 (D, _) (.head _)), .cons (Rows.mono R1' st5) (.cons (Rows.mono R2' st5) (.cons (Rows.mono R3 st5) .nil))⟩
  have hok := gr3_ok b1 b2 b3 l1 l2 l3
  obtain ⟨w1, w2⟩ := words_rows (gr := gr3 [f0, f1, f2, f3] [g0, g1, g2, g3] [q0, q1, q2, q3]) (x := 256) (.inl rfl) b1 b3 l1 rfl rfl
  obtain ⟨w3, w4⟩ := words_rows (gr := gr3 [f0, f1, f2, f3] [g0, g1, g2, g3] [q0, q1, q2, q3]) (x := 257) (.inr rfl) b2 b3 l2 rfl rfl
  have ok1 := rows_ok (gr := gr3 [f0, f1, f2, f3] [g0, g1, g2, g3] [q0, q1, q2, q3]) (x := 256) (.inl rfl) b1 b3 l1 l3 rfl rfl
  have ok2 := rows_ok (gr := gr3 [f0, f1, f2, f3] [g0, g1, g2, g3] [q0, q1, q2, q3]) (x := 257) (.inr rfl) b2 b3 l2 l3 rfl rfl
  clear N6 fz5 off5
  refine (record w _ G5 256 _ (.ref D) hok (.inl rfl) hG5 ok1).use rfl (by walk_at "MINE room") (by walk_at "MINE room") X T F6 (news := [(L + 1 + 1 + 1 + 1 + 1 + 1 + 1, o7), (L + 1 + 1 + 1 + 1 + 1 + 1, o6), (L + 1 + 1 + 1 + 1 + 1, o5), (L + 1 + 1 + 1 + 1, o4)]) N7 S5 O5 ?_
  rintro x1 h8 tk8 G6 st6 S6 O6 hR1 F8 N8
  (refine impApp (id hR1) ?_; refine cex5 ?_; rintro x1 _ _ _ _; refine cand2 ?_; rintro rfl _)
  rw [w1, w2] at hR1
  simp only [List.cons_append, List.nil_append] at N8
  dsimp only
  walk_at "GO"
  rename_i h9 F9 N9
  refine (record w _ G6 257 _ (.ref D) hok (.inr rfl) (Grown.mono hG5 st6) ok2).use rfl (by walk_at "MINE room") (by walk_at "MINE room") X T F9 (news := [(L + 1 + 1 + 1 + 1 + 1 + 1 + 1, o7), (L + 1 + 1 + 1 + 1 + 1 + 1, o6), (L + 1 + 1 + 1 + 1 + 1, o5), (L + 1 + 1 + 1 + 1, o4)]) N9 S6 O6 ?_
  rintro x2 h10 tk10 G7 st7 S7 O7 hR2 F10 N10
  (refine impApp (id hR2) ?_; refine cex5 ?_; rintro x2 _ _ _ _; refine cand2 ?_; rintro rfl _)
  rw [w3, w4] at hR2
  simp only [List.cons_append, List.nil_append] at N10
  dsimp only
  walk_at "GO"
  rename_i h11 F11 N11
  have stt := StaysIn.trans st2 (StaysIn.trans st3 (StaysIn.trans st4 (StaysIn.trans st5 (StaysIn.trans st6 st7))))
  exact ⟨h11, _, G7, _, rfl, S7, F11, N11, O7, stt, ⟨_, rfl⟩, x1, x2, rfl, rfl, hR1.mono st7, hR2⟩
end
/-! part LoopsT -/
/-! ## a target that is a tuple -/
def ownedIts : List String := ["enumerate", "zip", "dict_itemiterator", "dict_reverseitemiterator", "odict_iterator", "itertools.zip_longest", "itertools.pairwise"]
def PlainIt (h : Heap) (I : Addr) : Prop := ∃ o n, h.get? I = some o ∧ o.cls = .type n ∧ ownedIts.contains n = false
theorem go_plain {w : World} {A : Around} {E : Value → Shared → Prop} {s : Shared} {target : Expr} {I : Addr} {v : Value} {Q : Unit → Shared → Prop} (hp : PlainIt s.heap I) (hQ : Q () s) : wpAny (model PR w) A (letOwnedTupleGo target (.ref I) v) Q E s := by
  (revert hp; refine cex2 ?_; rintro ⟨c, dct, dt, sl⟩ n; refine cand3 ?_; rintro ho hc hn)
  dsimp only at hc
  subst hc
  unfold ownedIts at hn
  have key : ∀ a : Addr, wpAny (model PR w) A (do
      let o ← load I
      match o.cls, o.data with
      | .type n, .fields vs =>
        if ["enumerate", "zip", "dict_itemiterator", "dict_reverseitemiterator", "odict_iterator", "itertools.zip_longest", "itertools.pairwise"].contains n && vs[0]? == some (rawInt a) then do
          rule "for.unpacks-the-owned-tuple"
          updateField I 0 .none
        else pure ()
      | _, _ => pure () : Sem Unit) Q E s := fun a => by
    refine wpAny_bind (wpAny_load ho ?_)
    dsimp only
    cases dt with
    | fields vs => dsimp only; rw [hn, Bool.false_and, if_neg Bool.false_ne_true]; exact wpAny_pure hQ
    | _ => exact wpAny_pure hQ
  cases v with
  | ref a =>
    cases target with
    | Tuple _ _ _ => exact key a
    | List _ _ => exact key a
    | _ => exact wpAny_pure hQ
  | _ => cases target <;> exact wpAny_pure hQ
theorem plain_list {h : Heap} {I l : Addr} {i : Nat} (x : h.IsListIter I l i) : PlainIt h I := let ⟨o, ho, hc, _⟩ := x; ⟨o, _, ho, hc, by decide⟩
section
variable {w : World} {A : Around} {s : Shared} {env : Env} {B G₀ G : Heap} {m : Str → Option Value} {news : List (Addr × Obj)} {E : Value → Shared → Prop}

theorem for_walkT {I : Addr} {fp : List Addr} {n : Nat} {P : Nat → Value → Prop} {St : Nat → Heap → Prop} {target : Expr} {body : List Stmt} {Q : Flow → Shared → Prop}
    (W : Walks PR w A I fp [I] n P St) (J : Nat → Heap → (Str → Option Value) → List (Addr × Obj) → Prop) (X : Heap → (Str → Option Value) → List (Addr × Obj) → Prop)
    (hPl : ∀ i h, St i h → PlainIt h I) (hlive : ∀ i h, St i h → ∃ o, h.get? I = some o) (hfp : ∀ b ∈ fp, b ≠ I → ∃ o, G.get? b = some o) (hst : St 0 s.heap)
    (S : Gs B G₀ G) (F : Fr B env.locals s.heap m) (N : News B env.locals s.heap (news ++ gl B G)) (O : Off G news)
    (hI : B.get? I = none) (hIL : I ≠ env.locals) (hIn : I ∉ news.map (·.1)) (hIG : G.get? I = none) (hj : J 0 G m news)
    (turn : ∀ i v Gi mi ni h tk oI Q' E', (∀ v s', Q (.ret v) s' → Q' (.ret v) s') → i < n → P i v → J i Gi mi ni → ni.map (·.1) = news.map (·.1) → Gs B G₀ Gi → G.StaysIn Gi → Fr B env.locals h mi → News B env.locals h ((I, oI) :: ni ++ gl B Gi) → Off Gi ((I, oI) :: ni) → (∀ p ∈ ni, p.1 ≠ I) →
      wpAny (model PR w) A (assign target env v) (fun _ s₂ => wpAny (model PR w) A (execs body env) (TurnPost s B G₀ env.locals I oI (news.map (·.1)) Gi (J (i + 1)) X Q') E' s₂) E' { s with heap := h, toks := tk })
    (hX : ∀ Gn mn nn, J n Gn mn nn → X Gn mn nn)
    (done : ∀ Gn mn nn h tk, X Gn mn nn → Gs B G₀ Gn → G.StaysIn Gn → Fr B env.locals h mn → News B env.locals h (nn ++ gl B Gn) → Off Gn nn → nn.map (·.1) = news.map (·.1) → Q .next { s with heap := h, toks := tk }) :
    codeAny (model PR w) A (.forLoop target (.ref I) body [] env) (fun r s' => match r with | .ok f => Q f s' | .error e => cameBackBy (model PR w) A env E e s') s := by
  refine codeAny_forLoop_any (R := fun r s' => match r with | .ok f => Q f s' | .error e => cameBackBy (model PR w) A env E e s')
    (fun k s' => ∃ h tk i Gi mi ni, s' = { s with heap := h, toks := tk } ∧ k = n + 1 - i ∧ i ≤ n ∧ St i h ∧ J i Gi mi ni ∧ Gs B G₀ Gi ∧ G.StaysIn Gi ∧ Fr B env.locals h mi ∧ News B env.locals h (ni ++ gl B Gi) ∧ Off Gi ni ∧ Gi.get? I = none ∧ ni.map (·.1) = news.map (·.1))
    ?_ (n + 1) ⟨s.heap, s.toks, 0, G, m, news, rfl, rfl, Nat.zero_le _, hst, hj, S, StaysIn.refl _, F, N, O, hIG, rfl⟩
  (rintro k s'; refine cex6 ?_; rintro h tk i Gi mi ni; refine cand12 ?_; rintro rfl rfl hi hsti hJ Si Gst Fi Ni Oi hIGi hadr)
  have hIni := adr_ne hadr hIn
  by_cases hlt : i < n
  · refine W.item i _ _ _ hlt hsti fun v h₁ tk₁ hP hst₁ hk₁ => ?_
    obtain ⟨F₁, N₁⟩ := step_I Fi Ni hI hIL hIni hIGi hk₁
    obtain ⟨oI, hoI⟩ := hlive _ _ hst₁
    have N₂ : News B env.locals h₁ ((I, oI) :: ni ++ gl B Gi) := by
      intro p hp
      rcases List.mem_cons.mp hp with rfl | hp
      · exact ⟨hoI, hIL, hI⟩
      · exact N₁ p hp
    refine go_plain (hPl _ _ hst₁) ?_
    refine wpAny_mono (turn i v Gi mi ni h₁ tk₁ oI Q _ (fun _ _ q => q) hlt hP hJ hadr Si Gst F₁ N₂ (Off.cons hIGi Oi) hIni) (fun _ s₂ h₂ => wpAny_mono h₂ (fun f s₃ h₃ => ?_) fun _ _ e => e) fun _ _ e => e
    have fin : TurnEnd s B G₀ env.locals I oI (news.map (·.1)) Gi (J (i + 1)) s₃ → ∃ m_1, m_1 < n + 1 - i ∧ ∃ h tk i Gi mi ni, s₃ = { s with heap := h, toks := tk } ∧ m_1 = n + 1 - i ∧ i ≤ n ∧ St i h ∧ J i Gi mi ni ∧ Gs B G₀ Gi ∧ G.StaysIn Gi ∧ Fr B env.locals h mi ∧ News B env.locals h (ni ++ gl B Gi) ∧ Off Gi ni ∧ Gi.get? I = none ∧ ni.map (·.1) = news.map (·.1) := by
      (refine cex5 ?_; rintro h' tk' G' m' n'; refine cand8 ?_; rintro rfl S' G1 F' N' O' ha' hJ')
      refine ⟨n + 1 - (i + 1), by (first | lia | omega), h', tk', i + 1, G', m', n', rfl, rfl, hlt, ?_, hJ', S', StaysIn.trans Gst G1, F', fun p hp => N' p (.tail _ hp), fun p hp => O' p (.tail _ hp), O' _ (.head _), ha'⟩
      refine W.frame _ _ _ hst₁ fun b hb o e => ?_
      by_cases hbI : b = I
      · subst hbI
        rw [hoI] at e; cases e
        exact (N' _ (.head _)).1
      · obtain ⟨o', ho'⟩ := hfp b hb hbI
        have e1 := Si.keep F₁ N₁ b o' (Gst b o' ho')
        rw [e] at e1; cases e1
        exact S'.keep F' N' b o (G1 b o (Gst b o ho'))
    cases f with
    | ret v => exact h₃
    | brk =>
      (revert h₃; refine cex5 ?_; rintro h' tk' G' m' n'; refine cand8 ?_; rintro rfl S' G1 F' N' O' ha' hX')
      exact done G' m' n' h' tk' hX' S' (StaysIn.trans Gst G1) F' (fun p hp => N' p (.tail _ hp)) (fun p hp => O' p (.tail _ hp)) ha'
    | next => exact fin h₃
    | cont => exact fin h₃
  · have hin : i = n := by (first | lia | omega)
    subst hin
    refine W.done _ _ _ hsti fun h₁ tk₁ hk₁ => wpAny_execs_nil ?_
    obtain ⟨F₁, N₁⟩ := step_I Fi Ni hI hIL hIni hIGi hk₁
    exact done Gi mi ni h₁ tk₁ (hX _ _ _ hJ) Si Gst F₁ N₁ Oi hadr

theorem for_tupT {l L : Addr} {vs : List Value} {target : Expr} {body : List Stmt} {Q : Flow → Shared → Prop}
    (hL : env.locals = L) (hh : A.handled = none) (J : Nat → Heap → (Str → Option Value) → List (Addr × Obj) → Prop) (X : Heap → (Str → Option Value) → List (Addr × Obj) → Prop) (hl : IsTup G l vs.toArray)
    (S : Gs B G₀ G) (F : Fr B L s.heap m) (N : News B L s.heap (news ++ gl B G)) (O : Off G news) (hj : J 0 G m news)
    (turn : ∀ i v Gi mi ni h tk I oI Q' E', (∀ v s', Q (.ret v) s' → Q' (.ret v) s') → vs[i]? = some v → J i Gi mi ni → ni.map (·.1) = news.map (·.1) → Gs B G₀ Gi → G.StaysIn Gi → Fr B L h mi → News B L h ((I, oI) :: ni ++ gl B Gi) → Off Gi ((I, oI) :: ni) → (∀ p ∈ ni, p.1 ≠ I) →
      wpAny (model PR w) A (assign target env v) (fun _ s₂ => wpAny (model PR w) A (execs body env) (TurnPost s B G₀ L I oI (news.map (·.1)) Gi (J (i + 1)) X Q') E' s₂) E' { s with heap := h, toks := tk })
    (hX : ∀ Gn mn nn, J vs.length Gn mn nn → X Gn mn nn)
    (done : ∀ Gn mn nn h tk, X Gn mn nn → Gs B G₀ Gn → G.StaysIn Gn → Fr B L h mn → News B L h (nn ++ gl B Gn) → Off Gn nn → nn.map (·.1) = news.map (·.1) → Q .next { s with heap := h, toks := tk }) :
    wpAny (model PR w) A (pyIter (.ref l)) (fun it s₂ => codeAny (model PR w) A (.forLoop target it body [] env) (fun r s' => match r with | .ok f => Q f s' | .error e => cameBackBy (model PR w) A env E e s') s₂) E s := by
  subst hL
  have hGs := S.keep F N
  have hls : s.heap.IsTuple l vs.toArray := stays_tup hGs hl
  (refine impApp (id hl) ?_; refine cex1 ?_; rintro ol; refine cand2 ?_; rintro hol _)
  have hne : l ≠ s.heap.objs.size := Nat.ne_of_lt (Heap.lt_size (hGs _ _ hol))
  have hfr : ∀ {X : Heap}, X.StaysIn s.heap → X.get? s.heap.objs.size = none := fun k => Heap.StaysIn.fresh k
  refine wpAny_pyIter_tuple hls ?_
  have W := Walks.tuple (prog := PR) (w := w) hh s.heap.objs.size l hne vs.toArray
  have hsz : vs.toArray.size = vs.length := by simp
  rw [hsz] at W
  refine for_walkT (s := { s with heap := s.heap.push { cls := .type "tuple_iterator", data := .fields #[.ref l, .int 0 0] } }) (news := news) (G := G) W J X (fun i h st => let ⟨o, ho, hc, _⟩ := st.1; ⟨o, _, ho, hc, by decide⟩) (fun i h st => let ⟨o, ho, _⟩ := st.1; ⟨o, ho⟩) (fun b hb hbI => ?_) ⟨⟨_, Heap.get?_push_size _ rfl, rfl, rfl⟩, hls.push _⟩ S (F.push _)
    (fun p hp => ⟨Heap.get?_push_of_some _ (N p hp).1, (N p hp).2⟩) O (hfr F.keep) (Nat.ne_of_gt F.ns.lt) ?_ (hfr hGs) hj ?_ hX ?_
  · rcases List.mem_cons.mp hb with rfl | hb
    · exact absurd rfl hbI
    · rw [List.mem_singleton.mp hb]; exact ⟨ol, hol⟩
  · intro hm
    (refine impApp (List.mem_map.mp hm) ?_; refine cex1 ?_; rintro p; refine cand2 ?_; rintro hp e)
    have := Heap.lt_size (N p (List.mem_append_left _ hp)).1
    rw [e] at this; exact Nat.lt_irrefl _ this
  · intro i v Gi mi ni h tk oI Q' E' hq _ hP
    exact turn i v Gi mi ni h tk _ oI Q' E' hq (by simpa using hP)
  · exact done
end
/-- c runs the last clause of a list comprehension -/
def LoopsLastT (w : World) (A : Around) (c : Code) (I D : Addr) (target elt : Expr) (ifs : List Expr) (cenv : Env) : Prop :=
  ∀ (R : Result → Shared → Prop) (Inv : Nat → Shared → Prop) (s : Shared),
    (∀ n s, Inv n s → wpAny (model PR w) A (pyNext (.ref I)) (fun r s₁ => match r with
      | none => R (.ok .next) s₁
      | some v => PlainIt s₁.heap I ∧ wpAny (model PR w) A (assign target cenv v) (fun _ s₂ => wpAny (model PR w) A (testsOf ifs cenv) (fun ok s₃ =>
            if ok = true then wpAny (model PR w) A (eval elt cenv) (fun x s₄ =>
              wpAny (model PR w) A (call (.builtin "list.append") [.ref D, x]) (fun _ s₅ => ∃ m, m < n ∧ Inv m s₅) (notedBy (model PR w) A cenv fun e s' => R (.error e) s') s₄) (notedBy (model PR w) A cenv fun e s' => R (.error e) s') s₃
            else ∃ m, m < n ∧ Inv m s₃) (notedBy (model PR w) A cenv fun e s' => R (.error e) s') s₂) (notedBy (model PR w) A cenv fun e s' => R (.error e) s') s₁) (notedBy (model PR w) A cenv fun e s' => R (.error e) s') s) →
    ∀ n, Inv n s → codeAny (model PR w) A c R s

theorem loopsLastT1 {w : World} {A : Around} {elt target iter : Expr} {ifs : List Expr} {scope : Scope} {pos : Pos} {I D : Addr} {cenv : Env} :
    LoopsLastT w A (.compLoop (.ListComp elt [⟨target, iter, ifs, 0⟩] scope pos) 0 (.ref I) (.ref D) cenv) I D target elt ifs cenv := by
  intro R Inv s turn n h
  refine codeAny_loop rfl Inv (fun n s hI => ?_) n h
  show wpAny _ A ((compTurn (.ListComp elt [⟨target, iter, ifs, 0⟩] scope pos) 0 (.ref I) (.ref D) cenv).onRaise (fun x => do noteFrame x cenv; theTreesLotGoes x)) _ _ s
  refine wpAny_noted ?_
  rw [compTurn_list]
  refine wpAny_bind (wpAny_standAt (wpAny_bind (wpAny_mono (turn n s hI) (fun r s₁ h₁ => ?_) fun _ _ h' => h')))
  cases r with
  | none => exact wpAny_pure h₁
  | some v =>
    obtain ⟨hp, h₁⟩ := h₁
    refine wpAny_bind (go_plain hp ?_)
    refine wpAny_bind (wpAny_mono h₁ (fun _ s₂ h₂ => wpAny_bind (wpAny_mono h₂ (fun ok s₃ h₃ => ?_) fun _ _ h' => h')) fun _ _ h' => h')
    cases ok with
    | false => exact wpAny_pure ⟨rfl, h₃⟩
    | true =>
      exact wpAny_bind (wpAny_bind (wpAny_mono h₃ (fun x s₄ h₄ => wpAny_bind (wpAny_mono h₄ (fun _ s₅ h₅ => wpAny_pure (wpAny_pure ⟨rfl, h₅⟩)) fun _ _ h' => h')) fun _ _ h' => h'))
section
variable {w : World} {A : Around} {s : Shared} {cenv env : Env} {B G₀ G : Heap} {m : Str → Option Value} {news ex : List (Addr × Obj)} {E : Value → Shared → Prop}

theorem cl_lastT {c : Code} {I D : Addr} {fp : List Addr} {n : Nat} {P : Nat → Value → Prop} {St : Nat → Heap → Prop} {target elt : Expr} {ifs : List Expr} {rs₀ : List Value} {k₀ : Nat} {R : Result → Shared → Prop}
    (H : LoopsLastT w A c I D target elt ifs cenv) (W : Walks PR w A I fp [I] n P St) (J : Nat → Heap → List Value → Prop) (M : (Str → Option Value) → Prop)
    (hPl : ∀ i h, St i h → PlainIt h I) (hlive : ∀ i h, St i h → ∃ o, h.get? I = some o) (hfp : ∀ b ∈ fp, b ≠ I → ∃ o, G.get? b = some o) (hst : St 0 s.heap)
    (S : Gs B G₀ G) (F : Fr B cenv.locals s.heap m) (N : News B cenv.locals s.heap (ex ++ [(D, listOf rs₀.toArray k₀)] ++ gl B G)) (O : Off G (ex ++ [(D, listOf rs₀.toArray k₀)]))
    (hI : B.get? I = none) (hIL : I ≠ cenv.locals) (hIx : ∀ p ∈ ex, p.1 ≠ I) (hID : D ≠ I) (hIG : G.get? I = none) (hDx : ∀ p ∈ ex, p.1 ≠ D) (hj : J 0 G rs₀) (hM : M m)
    (hlen : ∀ i G rs, J i G rs → rs.length ≤ sizeLine)
    (turn : ∀ i v Gi mi rs k h tk oI E', i < n → P i v → M mi → J i Gi rs → Gs B G₀ Gi → G.StaysIn Gi → Fr B cenv.locals h mi → News B cenv.locals h ((I, oI) :: (ex ++ [(D, listOf rs.toArray k)]) ++ gl B Gi) → Off Gi ((I, oI) :: (ex ++ [(D, listOf rs.toArray k)])) →
      wpAny (model PR w) A (assign target cenv v) (fun _ s₂ => wpAny (model PR w) A (testsOf ifs cenv) (fun ok s₃ =>
        if ok = true then wpAny (model PR w) A (eval elt cenv) (fun y s₄ => ElemEndM s B G₀ cenv.locals ((I, oI) :: (ex ++ [(D, listOf rs.toArray k)])) Gi M (fun G' => J (i + 1) G' (rs ++ [y])) s₄) E' s₃
        else ElemEndM s B G₀ cenv.locals ((I, oI) :: (ex ++ [(D, listOf rs.toArray k)])) Gi M (fun G' => J (i + 1) G' rs) s₃) E' s₂) E' { s with heap := h, toks := tk })
    (done : ∀ Gn mn rs k h tk, M mn → J n Gn rs → Gs B G₀ Gn → G.StaysIn Gn → Fr B cenv.locals h mn → News B cenv.locals h (ex ++ [(D, listOf rs.toArray k)] ++ gl B Gn) → Off Gn (ex ++ [(D, listOf rs.toArray k)]) → R (.ok .next) { s with heap := h, toks := tk }) :
    codeAny (model PR w) A c R s := by
  refine H R (fun q s' => ∃ h tk i Gi mi rs k, s' = { s with heap := h, toks := tk } ∧ q = n + 1 - i ∧ i ≤ n ∧ St i h ∧ M mi ∧ J i Gi rs ∧ Gs B G₀ Gi ∧ G.StaysIn Gi ∧ Fr B cenv.locals h mi ∧ News B cenv.locals h (ex ++ [(D, listOf rs.toArray k)] ++ gl B Gi) ∧ Off Gi (ex ++ [(D, listOf rs.toArray k)]) ∧ Gi.get? I = none)
    s ?_ (n + 1) ⟨s.heap, s.toks, 0, G, m, rs₀, k₀, rfl, rfl, Nat.zero_le _, hst, hM, hj, S, StaysIn.refl _, F, N, O, hIG⟩
  (rintro q s'; refine cex7 ?_; rintro h tk i Gi mi rs k; refine cand12 ?_; rintro rfl rfl hi hsti hMi hJ Si Gst Fi Ni Oi hIGi)
  have hIni : ∀ p ∈ ex ++ [(D, listOf rs.toArray k)], p.1 ≠ I := fun p hp => by
    rcases List.mem_append.mp hp with hp | hp
    · exact hIx p hp
    · rw [List.mem_singleton.mp hp]; exact hID
  by_cases hlt : i < n
  · refine W.item i _ _ _ hlt hsti fun v h₁ tk₁ hP hst₁ hk₁ => ?_
    obtain ⟨F₁, N₁⟩ := step_I Fi Ni hI hIL hIni hIGi hk₁
    obtain ⟨oI, hoI⟩ := hlive _ _ hst₁
    have N₂ : News B cenv.locals h₁ ((I, oI) :: (ex ++ [(D, listOf rs.toArray k)]) ++ gl B Gi) := by
      intro p hp
      rcases List.mem_cons.mp hp with rfl | hp
      · exact ⟨hoI, hIL, hI⟩
      · exact N₁ p hp
    have stNext : ∀ h' G' m', Gs B G₀ G' → Gi.StaysIn G' → Fr B cenv.locals h' m' → News B cenv.locals h' ((I, oI) :: (ex ++ [(D, listOf rs.toArray k)]) ++ gl B G') → St (i + 1) h' := by
      intro h' G' m' S' G1 F' N'
      refine W.frame _ _ _ hst₁ fun b hb o e => ?_
      by_cases hbI : b = I
      · subst hbI
        rw [hoI] at e; cases e
        exact (N' _ (.head _)).1
      · obtain ⟨o', ho'⟩ := hfp b hb hbI
        have e1 := Si.keep F₁ N₁ b o' (Gst b o' ho')
        rw [e] at e1; cases e1
        exact S'.keep F' N' b o (G1 b o (Gst b o ho'))
    refine ⟨hPl _ _ hst₁, ?_⟩
    refine wpAny_mono (turn i v Gi mi rs k h₁ tk₁ oI _ hlt hP hMi hJ Si Gst F₁ N₂ (Off.cons hIGi Oi)) (fun _ s₂ h₂ => wpAny_mono h₂ (fun ok s₃ h₃ => ?_) fun _ _ e => e) fun _ _ e => e
    cases ok with
    | false =>
      rw [if_neg (by simp)] at h₃ ⊢
      (revert h₃; refine cex4 ?_; rintro h' tk' G' m'; refine cand8 ?_; rintro rfl S' G1 F' N' O' hM' hJ')
      exact ⟨n + 1 - (i + 1), by (first | lia | omega), h', tk', i + 1, G', m', rs, k, rfl, rfl, hlt, stNext h' G' m' S' G1 F' N', hM', hJ', S', StaysIn.trans Gst G1, F', fun p hp => N' p (.tail _ hp), fun p hp => O' p (.tail _ hp), O' _ (.head _)⟩
    | true =>
      rw [if_pos rfl] at h₃ ⊢
      refine wpAny_mono h₃ (fun y s₄ h₄ => ?_) fun _ _ e => e
      (revert h₄; refine cex4 ?_; rintro h' tk' G' m'; refine cand8 ?_; rintro rfl S' G1 F' N' O' hM' hJ')
      have hDm : (D, listOf rs.toArray k) ∈ ex ++ [(D, listOf rs.toArray k)] := List.mem_append_right _ (.head _)
      have zD := N' (D, listOf rs.toArray k) (.tail _ (List.mem_append_left _ hDm))
      have hGD : G'.get? D = none := O' (D, listOf rs.toArray k) (.tail _ hDm)
      refine append_at (hsz := by have := hlen _ _ _ hJ; rw [List.size_toArray]; exact this) zD.1 fun h₅ hs₅ ho₅ => ?_
      have st₅ : St (i + 1) h₅ := by
        refine W.frame _ _ _ (stNext h' G' m' S' G1 F' N') fun b hb o e => ?_
        refine (hs₅.2 b ?_).trans e
        rintro rfl
        by_cases hbI : b = I
        · exact hID hbI
        · obtain ⟨o', ho'⟩ := hfp b hb hbI
          have := G1 b o' (Gst b o' ho')
          rw [hGD] at this; cases this
      refine ⟨n + 1 - (i + 1), by (first | lia | omega), h₅, tk', i + 1, G', m', rs ++ [y], k + 1, rfl, rfl, hlt, st₅, hM', hJ', S', StaysIn.trans Gst G1, F'.change hs₅ zD.2.1 zD.2.2, ?_, ?_, O' _ (.head _)⟩
      · rintro ⟨b, o⟩ hp
        rcases List.mem_append.mp hp with hp | hp
        · rcases List.mem_append.mp hp with hp | hp
          · have z := N' (b, o) (.tail _ (List.mem_append_left _ (List.mem_append_left _ hp)))
            exact ⟨(hs₅.2 b (hDx _ hp)).trans z.1, z.2⟩
          · cases List.mem_singleton.mp hp
            refine ⟨?_, zD.2⟩
            rw [ho₅]; simp
        · have z := N' (b, o) (.tail _ (List.mem_append_right _ hp))
          exact ⟨(hs₅.2 b (gl_ne hGD _ hp)).trans z.1, z.2⟩
      · intro p hp
        rcases List.mem_append.mp hp with hp | hp
        · exact O' p (.tail _ (List.mem_append_left _ hp))
        · rw [List.mem_singleton.mp hp]; exact hGD
  · have hin : i = n := by (first | lia | omega)
    subst hin
    refine W.done _ _ _ hsti fun h₁ tk₁ hk₁ => ?_
    obtain ⟨F₁, N₁⟩ := step_I Fi Ni hI hIL hIni hIGi hk₁
    exact done Gi mi rs k h₁ tk₁ hMi hJ Si Gst F₁ N₁ Oi

theorem comp1_valT {L : Addr} {elt target iter : Expr} {ifs : List Expr} {scope : Scope} {cl : List (Str × Addr)} {pos : Pos} {I : Addr} {n : Nat} {P : Nat → Value → Prop} {fp : List Addr} {St : Nat → Heap → Prop} {Q : Value → Shared → Prop}
    (hPl : ∀ i h, St i h → PlainIt h I) (hL : env.locals = L) (C0 : Src w A s.heap B G L news I n P fp St) (J : Nat → Heap → List Value → Prop)
    (S : Gs B G₀ G) (F : Fr B L s.heap m) (N : News B L s.heap (news ++ gl B G)) (O : Off G news) (hj : J 0 G []) (hlen : ∀ i G rs, J i G rs → rs.length ≤ sizeLine)
    (turn : ∀ i v C D Gi mi rs k h tk oI E', i < n → P i v → J i Gi rs → Gs (less s.heap I) G Gi → G.StaysIn Gi → Fr (less s.heap I) C h mi → News (less s.heap I) C h ([(I, oI), (D, listOf rs.toArray k)] ++ gl (less s.heap I) Gi) → Off Gi [(I, oI), (D, listOf rs.toArray k)] →
      wpAny (model PR w) A (assign target (compEnvC scope cl C env) v) (fun _ s₂ => wpAny (model PR w) A (testsOf ifs (compEnvC scope cl C env)) (fun ok s₃ =>
        if ok = true then wpAny (model PR w) A (eval elt (compEnvC scope cl C env)) (fun y s₄ => ElemEnd s (less s.heap I) G C [(I, oI), (D, listOf rs.toArray k)] Gi (fun G' => J (i + 1) G' (rs ++ [y])) s₄) E' s₃
        else ElemEnd s (less s.heap I) G C [(I, oI), (D, listOf rs.toArray k)] Gi (fun G' => J (i + 1) G' rs) s₃) E' s₂) E' { s with heap := h, toks := tk })
    (done : ∀ D Gn G' rs k h tk, J n Gn rs → Gn.StaysIn G' → G'.get? D = some (listOf rs.toArray k) → G.StaysIn G' → Gs B G₀ G' → Off G' news → Fr B L h m → News B L h (news ++ gl B G') → Q (.ref D) { s with heap := h, toks := tk })
    (hcell : ∀ y ∈ scope.names, y.2 ≠ .cell := by decide) (hkind : scope.kind = .function := by rfl) :
    wpAny (model PR w) A (newList []) (fun acc s₃ => wpAny (model PR w) A (newFunctionEnv scope env.globals cl [] env.qual none .none (some env)) (fun cenv s₄ =>
      codeAny (model PR w) A (.compStart (.ListComp elt [⟨target, iter, ifs, 0⟩] scope pos) 0 (.ref I) acc { cenv with scope := relabel scope env }) (compPost (model PR w) A E none Q acc cenv.locals) s₄) E s₃) E s := by
  subst hL
  refine comp_val C0.W C0.st (J n) hcell hkind S F N O C0.offB C0.offL C0.offN C0.offG C0.lt ?_ done
  intro C D h₁ tk R S₁ F₁ N₁ O₁ st₁ hIC hDI _ fin
  refine cl_lastT (ex := []) (rs₀ := []) loopsLastT1 C0.W J (fun _ => True) hPl C0.live C0.fpG st₁ S₁ F₁ N₁ O₁ less_self hIC (fun _ h => nomatch h) hDI C0.offG (fun _ h => nomatch h) hj trivial hlen ?_ ?_
  · intro i v Gi mi rs k h tk oI E' hi hP _ hJ Si Gst Fi Ni Oi
    refine wpAny_mono (turn i v C D Gi mi rs k h tk oI E' hi hP hJ Si Gst Fi Ni Oi) (fun _ s₂ h₂ => wpAny_mono h₂ (fun ok s₃ h₃ => ?_) fun _ _ e => e) fun _ _ e => e
    cases ok with
    | false => rw [if_neg (by simp)] at h₃ ⊢; exact h₃.toM
    | true => rw [if_pos rfl] at h₃ ⊢; exact wpAny_mono h₃ (fun _ _ h₄ => ElemEnd.toM h₄) fun _ _ e => e
  · intro Gn mn rs k h tk _ hJ Sn _ Fn Nn On
    exact fin Gn mn rs k h tk hJ Sn Fn Nn On

end
section
variable {w : World} {A : Around} {s : Shared} {cenv env : Env} {B G₀ G : Heap} {m : Str → Option Value} {news ex : List (Addr × Obj)} {E : Value → Shared → Prop}

variable {L0 : Addr}
theorem src_listT {L l : Addr} {vs : List Value} {X : Value → Shared → Prop} (hh : A.handled = none) (hl : G.IsList l vs.toArray) (S : Gs B G₀ G) (F : Fr B L s.heap m) (N : News B L s.heap (news ++ gl B G))
    (k : ∀ I h fp St, (∀ i h, St i h → PlainIt h I) → Src w A h B G L news I vs.length (fun i v => vs[i]? = some v) fp St → Fr B L h m → News B L h (news ++ gl B G) → s.heap.StaysIn (less h I) → X (.ref I) { s with heap := h }) :
    wpAny (model PR w) A (pyIter (.ref l)) X E s := by
  have hGs := S.keep F N
  have hls : s.heap.IsList l vs.toArray := stays_list hGs hl
  (refine impApp (id hl) ?_; refine cex1 ?_; rintro ol; refine cand2 ?_; rintro hol _)
  have hne : l ≠ s.heap.objs.size := Nat.ne_of_lt (Heap.lt_size (hGs _ _ hol))
  have hfr : ∀ {X : Heap}, X.StaysIn s.heap → X.get? s.heap.objs.size = none := fun k => Heap.StaysIn.fresh k
  refine wpAny_pyIter_list hls ?_
  have W := Walks.list (prog := PR) (w := w) hh s.heap.objs.size l hne vs.toArray
  have hsz : vs.toArray.size = vs.length := by simp
  rw [hsz] at W
  refine k s.heap.objs.size _ [s.heap.objs.size, l] (fun i h => h.IsListIter s.heap.objs.size l i ∧ h.IsList l vs.toArray) (fun i h st => plain_list st.1) ⟨?_, fun i h st => let ⟨o, ho, _⟩ := st.1; ⟨o, ho⟩, fun b hb hbI => ?_, ⟨⟨_, Heap.get?_push_size _ rfl, rfl, rfl⟩, hls.push _⟩, hfr F.keep, Nat.ne_of_gt F.ns.lt, ?_, hfr hGs, by simp⟩ (F.push _) (fun p hp => ⟨Heap.get?_push_of_some _ (N p hp).1, (N p hp).2⟩) ?_
  · have : (fun (i : Nat) (v : Value) => vs.toArray[i]? = some v) = fun i v => vs[i]? = some v := by funext i v; simp
    rw [this] at W; exact W
  · rcases List.mem_cons.mp hb with rfl | hb
    · exact absurd rfl hbI
    · rw [List.mem_singleton.mp hb]; exact ⟨ol, hol⟩
  · intro p hp e
    have := Heap.lt_size (N p (List.mem_append_left _ hp)).1
    rw [e] at this; exact Nat.lt_irrefl _ this
  · intro b o e
    rw [less_get (Nat.ne_of_lt (Heap.lt_size e))]
    exact Heap.get?_push_of_some _ e

end
/-! part Asg -/
section
variable {w : World} {A : Around} {s : Shared} {env : Env} {B : Heap} {L : Addr} {m : Str → Option Value} {news : List (Addr × Obj)} {E : Value → Shared → Prop}
/-- two names from a tuple of two -/
theorem assign_tup2 {xk xv : Str} {pk pv pt : Pos} {x1} {t : Addr} {a b : Value} {Q : Unit → Shared → Prop} (hh : A.handled = none) (hL : env.locals = L) (F : Fr B L s.heap m) (N : News B L s.heap news) (ht : s.heap.IsTuple t #[a, b])
    (h : ∀ h' tk', Fr B L h' (fun y => if y = xv then some b else if y = xk then some a else m y) → News B L h' news → Q () { s with heap := h', toks := tk' })
    (hxk : env.kindOf xk = some .local := by rfl) (hxv : env.kindOf xv = some .local := by rfl) (hp : (env.scope.kind == .class || (env.scope.kind == .module && env.locals != env.globals)) = false := by rfl) :
    wpAny (model PR w) A (assign (.Tuple [.Name xk pk, .Name xv pv] x1 pt) env (.ref t)) Q E s := by
  subst hL
  refine wpAny_assign_Tuple hh ht rfl rfl fun h₃ hx₃ => ?_
  have old : ∀ c o, s.heap.get? c = some o → h₃.get? c = some o := fun c o e => hx₃ c o (Nat.ne_of_lt (Heap.lt_size e)) e
  have F₃ := F.keeps old
  have N₃ := N.keepsAll old
  show wpAny _ _ (do holding [b] (assign (.Name xk pk) env a); do holding [] (assign (.Name xv pv) env b); pure ()) _ _ _
  refine wpAny_bind (wpAny_holding (wpAny_assign_Name (wpAny_storeName_local hxk F₃.ns (fun h₄ hn₄ hs₄ => ?_) hp)))
  have F₄ := F₃.set hn₄ hs₄
  have N₄ := N₃.set hs₄
  refine wpAny_bind (wpAny_holding (wpAny_assign_Name (wpAny_storeName_local hxv F₄.ns (fun h₅ hn₅ hs₅ => wpAny_pure ?_) hp)))
  exact h _ _ (F₄.set hn₅ hs₅) (N₄.set hs₅)
/-- three names from a tuple of three -/
theorem assign_tup3 {x1 x2 x3 : Str} {p1 p2 p3 pt : Pos} {xx} {t : Addr} {a b c : Value} {Q : Unit → Shared → Prop} (hh : A.handled = none) (hL : env.locals = L) (F : Fr B L s.heap m) (N : News B L s.heap news) (ht : s.heap.IsTuple t #[a, b, c])
    (h : ∀ h' tk', Fr B L h' (fun y => if y = x3 then some c else if y = x2 then some b else if y = x1 then some a else m y) → News B L h' news → Q () { s with heap := h', toks := tk' })
    (hx1 : env.kindOf x1 = some .local := by rfl) (hx2 : env.kindOf x2 = some .local := by rfl) (hx3 : env.kindOf x3 = some .local := by rfl) (hp : (env.scope.kind == .class || (env.scope.kind == .module && env.locals != env.globals)) = false := by rfl) :
    wpAny (model PR w) A (assign (.Tuple [.Name x1 p1, .Name x2 p2, .Name x3 p3] xx pt) env (.ref t)) Q E s := by
  subst hL
  refine wpAny_assign_Tuple hh ht rfl rfl fun h₃ hx₃ => ?_
  have old : ∀ c o, s.heap.get? c = some o → h₃.get? c = some o := fun c o e => hx₃ c o (Nat.ne_of_lt (Heap.lt_size e)) e
  have F₃ := F.keeps old
  have N₃ := N.keepsAll old
  show wpAny _ _ (do holding [b, c] (assign (.Name x1 p1) env a); do holding [c] (assign (.Name x2 p2) env b); do holding [] (assign (.Name x3 p3) env c); pure ()) _ _ _
  refine wpAny_bind (wpAny_holding (wpAny_assign_Name (wpAny_storeName_local hx1 F₃.ns (fun h₄ hn₄ hs₄ => ?_) hp)))
  have F₄ := F₃.set hn₄ hs₄
  have N₄ := N₃.set hs₄
  refine wpAny_bind (wpAny_holding (wpAny_assign_Name (wpAny_storeName_local hx2 F₄.ns (fun h₅ hn₅ hs₅ => ?_) hp)))
  have F₅ := F₄.set hn₅ hs₅
  have N₅ := N₄.set hs₅
  refine wpAny_bind (wpAny_holding (wpAny_assign_Name (wpAny_storeName_local hx3 F₅.ns (fun h₆ hn₆ hs₆ => wpAny_pure ?_) hp)))
  exact h _ _ (F₅.set hn₆ hs₆) (N₅.set hs₆)
end
/-! part Eqs -/
/-! ## lists of texts, of pairs: equality, membership -/
theorem reads_of_strs {h : Heap} {a : Addr} {vs : List Value} {ss : List Str} (hl : h.IsList a vs.toArray) (hi : StrsAre vs ss) : Reads h (.ref a) (.list (ss.map PyData.str)) [a] := by
  (revert hl; refine cex1 ?_; rintro o; refine cand3 ?_; rintro ho hc; refine cex1 ?_; rintro n hd)
  exact Reads.list ho hc hd (by simpa using StrsAre.reads h hi)
def OkS (ss : List Str) : Prop := ∀ x ∈ ss, PyData.strOk x = true
theorem canLayAll0_strs : ∀ ss : List Str, OkS ss → PyData.canLayAll0 (ss.map PyData.str) = true
  | [], _ => by simp [PyData.canLayAll0]
  | n :: r, h => by simp [PyData.canLayAll0, PyData.canLay0, canLayAll0_strs r fun x hx => h x (.tail _ hx), h n (.head _)]
theorem depthAll_strs : ∀ ss : List Str, PyData.depthAll (ss.map PyData.str) ≤ 1
  | [] => by simp [PyData.depthAll]
  | n :: r => by
    have := depthAll_strs r
    simp only [List.map_cons, PyData.depthAll, PyData.depth]
    (first | lia | omega)
theorem shaped_strs (ss : List Str) (ho : OkS ss) : SeqAt.shaped (.list (ss.map PyData.str)) = true := by
  have h1 := depthAll_strs ss
  have h2 : PyData.depth (.list (ss.map PyData.str)) ≤ 64 := by simp only [PyData.depth]; (first | lia | omega)
  show (PyData.canLay0 (.list (ss.map PyData.str)) && decide (PyData.depth (.list (ss.map PyData.str)) ≤ 64)) = true
  rw [Bool.and_eq_true]
  exact ⟨by simp only [PyData.canLay0]; exact canLayAll0_strs ss ho, decide_eq_true h2⟩
open PySem.SeqAt in
theorem noMix_strs : ∀ ns ms : List Str, noMixAll (ns.map PyData.str) (ms.map PyData.str) = true
  | [], [] => by simp [noMixAll]
  | [], _ :: _ => by simp [noMixAll]
  | _ :: _, [] => by simp [noMixAll]
  | _ :: r, _ :: q => by simp [noMixAll, noMix, noMix_strs r q]
theorem same_strs : ∀ ns ms : List Str, PySem.Spec.sameAll (ns.map PyData.str) (ms.map PyData.str) = decide (ns = ms)
  | [], [] => by simp [PySem.Spec.sameAll]
  | [], _ :: _ => by simp [PySem.Spec.sameAll]
  | _ :: _, [] => by simp [PySem.Spec.sameAll]
  | n :: r, k :: q => by
    simp only [List.map_cons, PySem.Spec.sameAll, PySem.Spec.same, same_strs r q]
    by_cases h : n = k <;> simp [h]
section
variable {w : World} {A : Around} {E : Value → Shared → Prop} {s : Shared}
open PySem.SeqAt in
theorem ne_strsK {a b : Addr} {vs us : List Value} {ns ms : List Str} {Q : Value → Shared → Prop} (hl : s.heap.IsList a vs.toArray) (hi : StrsAre vs ns) (hl' : s.heap.IsList b us.toArray) (hi' : StrsAre us ms) (ho : OkS ns) (ho' : OkS ms) (hu : A.units + 64 < cLine)
    (h : Q (.bool (!decide (ns = ms))) s) : wpAny (model PR w) A (compareOp .NotEq (.ref a) (.ref b)) Q E s :=
  ne_dataH_same (reads_of_strs hl hi) (reads_of_strs hl' hi') (shaped_strs ns ho) (shaped_strs ms ho') hu (by simp only [noMix]; exact noMix_strs ns ms) (by simp only [PySem.Spec.same]; rw [same_strs]; exact h)
end
/-! pairs -/
def dP (p : Int × Int) : PyData := .tuple [.int p.1, .int p.2]
theorem reads_pair {h : Heap} {v : Value} {p : Int × Int} (x : Pair h v p) : Reads h v (dP p) [] := by
  (revert x; refine cex3 ?_; rintro a t u; refine cand2 ?_; rintro rfl; refine cex1 ?_; rintro o; refine cand3 ?_; rintro ho hc; refine cex1 ?_; rintro n hd)
  have r : ReadsAll h [Value.int p.1 t, .int p.2 u] [.int p.1, .int p.2] ([] ++ ([] ++ [])) := .cons (.int _ _) (.cons (.int _ _) .nil)
  exact Reads.tuple ho hc hd r
theorem reads_pairs {h : Heap} : ∀ {vs : List Value} {ps : List (Int × Int)}, Paired (Pair h) vs ps → ReadsAll h vs (ps.map dP) []
  | _, _, .nil => .nil
  | _, _, .cons a r => by
    have := ReadsAll.cons (reads_pair a) (reads_pairs r)
    simpa using this
theorem lay_pairs : ∀ ps : List (Int × Int), PyData.canLayAll0 (ps.map dP) = true ∧ PyData.depthAll (ps.map dP) ≤ 3
  | [] => by simp [PyData.canLayAll0, PyData.depthAll]
  | p :: r => by
    obtain ⟨a, b⟩ := lay_pairs r
    refine ⟨by simp [PyData.canLayAll0, PyData.canLay0, dP, a], ?_⟩
    simp only [List.map_cons, PyData.depthAll, dP, PyData.depth]
    (first | lia | omega)
theorem eqv_pair (p q : Int × Int) : PyData.eqv (dP p) (dP q) = decide (p = q) := by
  obtain ⟨a, b⟩ := p
  obtain ⟨c, d⟩ := q
  by_cases h1 : a = c <;> by_cases h2 : b = d <;> simp [dP, PyData.eqv, PyData.eqvAll, h1, h2]
theorem any_pair (ps : List (Int × Int)) (q : Int × Int) : ((ps.map dP).any fun y => PyData.eqv y (dP q)) = ps.contains q := by
  induction ps with
  | nil => rfl
  | cons p r ih =>
    rw [List.map_cons, List.any_cons, ih, eqv_pair, List.contains_cons]
    congr 1
    by_cases h : p = q
    · subst h; simp
    · have h' : ¬ q = p := fun e => h e.symm
      simp [h, h']
section
variable {w : World} {A : Around} {E : Value → Shared → Prop} {s : Shared}
theorem in_pairs {a : Addr} {vs : List Value} {ps : List (Int × Int)} {v : Value} {q : Int × Int} {Q : Value → Shared → Prop} (hl : s.heap.IsList a vs.toArray) (hi : Paired (Pair s.heap) vs ps) (hv : Pair s.heap v q) (hu : A.units + 64 < cLine)
    (h : Q (.bool (ps.contains q)) s) : wpAny (model PR w) A (compareOp .In v (.ref a)) Q E s := by
  (revert hl; refine cex1 ?_; rintro o; refine cand3 ?_; rintro ho hc; refine cex1 ?_; rintro n hd)
  have rl : Reads s.heap (.ref a) (.list (ps.map dP)) [a] := Reads.list ho hc hd (by simpa using reads_pairs hi)
  obtain ⟨l1, l2⟩ := lay_pairs ps
  refine SeqAt.in_list_reads rl (reads_pair hv) l1 (by simp [dP, PyData.canLay0, PyData.canLayAll0]) ?_ (by rw [any_pair]; exact h)
  have := Nat.min_le_left (PyData.depthAll (ps.map dP)) (dP q).depth
  (first | lia | omega)
end
/-! the words of a grammar are plain texts -/
theorem piece_strOk (f : Int) : PyData.strOk (pieceOf f) = true := by
  unfold pieceOf
  by_cases h : f.toNat < 7
  · have : ∀ n : Nat, n < 7 → PyData.strOk (Str.ofString (pieces.getD n "")) = true := by decide +kernel
    exact this _ h
  · rw [List.getD_eq_getElem?_getD, List.getElem?_eq_none (by show 7 ≤ _; (first | lia | omega))]
    decide +kernel
theorem wholeE_pieces {ch : List (List Str)} (h : ∀ r ∈ ch, OkS r) : ∀ l : List Int, ∀ r ∈ wholeE ch l, OkS r
  | [], r, hr => by
    rw [wholeE, List.mem_singleton] at hr
    subst hr; intro x hx; cases hx
  | f :: l, r, hr => by
    rw [wholeE] at hr
    (refine impApp (mem_cross.mp hr) ?_; refine cex1 ?_; rintro a; refine cand2 ?_; rintro ha; refine cex1 ?_; rintro b; refine cand2 ?_; rintro hb rfl)
    have ib := wholeE_pieces h l b hb
    intro x hx
    rcases List.mem_append.mp hx with hx | hx
    · unfold choiceF at ha
      split at ha
      · exact h a ha x hx
      · rw [List.mem_singleton.mp ha] at hx
        rw [List.mem_singleton.mp hx]; exact piece_strOk f
    · exact ib x hx
theorem told_ok (F H : List Int) : ∀ r ∈ toldF 1 F H, OkS r := by
  have h0 : ∀ r ∈ toldF 0 H [], OkS r := by
    intro r hr
    unfold toldF wholeOf at hr
    rw [wholeF_eq, wholeF_eq] at hr
    rcases List.mem_append.mp hr with hr | hr
    · exact wholeE_pieces (fun _ h => by cases h) _ r hr
    · exact wholeE_pieces (fun _ h => by cases h) _ r hr
  intro r hr
  rw [show toldF 1 F H = wholeOf (toldF 0 H []) (F.take 2) ++ wholeOf (toldF 0 H []) (F.drop 2) from rfl] at hr
  unfold wholeOf at hr
  rw [wholeF_eq, wholeF_eq] at hr
  rcases List.mem_append.mp hr with hr | hr
  · exact wholeE_pieces h0 _ r hr
  · exact wholeE_pieces h0 _ r hr
theorem strOk_append {a b : Str} (ha : PyData.strOk a = true) (hb : PyData.strOk b = true) : PyData.strOk (a ++ b) = true := by
  unfold PyData.strOk at *
  rw [Str.cps_append, Array.all_append, ha, hb]; rfl
theorem strOk_join {sep : Str} (hs : PyData.strOk sep = true) : ∀ l : List Str, OkS l → PyData.strOk (Txt.join sep l) = true := by
  intro l h
  show PyData.strOk (Builtin.Str.glued sep l) = true
  rw [StrLaws.glued_eq_join]
  induction l with
  | nil => show PyData.strOk Str.empty = true; decide +kernel
  | cons x r ih =>
    cases r with
    | nil => exact h x (.head _)
    | cons y r => exact strOk_append (strOk_append (h x (.head _)) hs) (ih fun z hz => h z (.tail _ hz))
theorem words_ok (F H : List Int) : OkS (words F H) := by
  intro x hx
  (refine impApp (List.mem_map.mp hx) ?_; refine cex1 ?_; rintro r; refine cand2 ?_; rintro hr rfl)
  exact strOk_join (by decide +kernel) r (told_ok F H r hr)
theorem rules_ok (F H : List Int) : OkS (rules F H) := by
  intro x hx
  (refine impApp (List.mem_map.mp hx) ?_; refine cex1 ?_; rintro r; refine cand2 ?_; rintro hr rfl)
  exact strOk_join (by decide +kernel) r (told_ok F H r hr)
/-! their sizes -/
theorem piece_len2 (f : Int) : (pieceOf f).length ≤ 2 := pieceOf_len f
theorem wholeE_small {ch : List (List Str)} (h : ∀ r ∈ ch, ∀ x ∈ r, x.length ≤ 2) : ∀ l : List Int, ∀ r ∈ wholeE ch l, ∀ x ∈ r, x.length ≤ 2
  | [], r, hr => by
    rw [wholeE, List.mem_singleton] at hr
    subst hr; intro x hx; cases hx
  | f :: l, r, hr => by
    rw [wholeE] at hr
    (refine impApp (mem_cross.mp hr) ?_; refine cex1 ?_; rintro a; refine cand2 ?_; rintro ha; refine cex1 ?_; rintro b; refine cand2 ?_; rintro hb rfl)
    have ib := wholeE_small h l b hb
    intro x hx
    rcases List.mem_append.mp hx with hx | hx
    · unfold choiceF at ha
      split at ha
      · exact h a ha x hx
      · rw [List.mem_singleton.mp ha] at hx
        rw [List.mem_singleton.mp hx]; exact pieceOf_len f
    · exact ib x hx
theorem told_small (F H : List Int) : ∀ r ∈ toldF 1 F H, ∀ x ∈ r, x.length ≤ 2 := by
  have h0 : ∀ r ∈ toldF 0 H [], ∀ x ∈ r, x.length ≤ 2 := by
    intro r hr
    unfold toldF wholeOf at hr
    rw [wholeF_eq, wholeF_eq] at hr
    rcases List.mem_append.mp hr with hr | hr
    · exact wholeE_small (fun _ h => by cases h) _ r hr
    · exact wholeE_small (fun _ h => by cases h) _ r hr
  intro r hr
  rw [show toldF 1 F H = wholeOf (toldF 0 H []) (F.take 2) ++ wholeOf (toldF 0 H []) (F.drop 2) from rfl] at hr
  unfold wholeOf at hr
  rw [wholeF_eq, wholeF_eq] at hr
  rcases List.mem_append.mp hr with hr | hr
  · exact wholeE_small h0 _ r hr
  · exact wholeE_small h0 _ r hr
theorem join_small {sep : Str} (hs : sep.length ≤ 1) {l : List Str} (h : ∀ x ∈ l, x.length ≤ 2) (hl : l.length ≤ 4) : (Txt.join sep l).length ≤ 12 := by
  show (Builtin.Str.glued sep l).length ≤ 12
  rw [StrLaws.glued_eq_join]
  have h1 := StrLaws.join_length_le sep l
  have h2 := StrLaws.sumLen_le (B := 2) l h
  have h3 : l.length * sep.length ≤ l.length * 1 := Nat.mul_le_mul_left _ hs
  (first | lia | omega)
theorem told_wt {F H : List Int} (l4 : F.length = 4) (l4' : H.length = 4) : ∀ r ∈ toldF 1 F H, Wt r := fun r hr =>
  wt_of_len (c := 2) (told_small F H r hr) (by have := (told_bound l4 l4').2 r hr; (first | lia | omega))
theorem words_small {F H : List Int} (l4 : F.length = 4) (l4' : H.length = 4) : (words F H).length ≤ 8 ∧ ∀ x ∈ words F H, x.length ≤ 12 := by
  obtain ⟨b1, b2⟩ := told_bound l4 l4'
  refine ⟨by unfold words; rw [List.length_map]; exact b1, fun x hx => ?_⟩
  (refine impApp (List.mem_map.mp hx) ?_; refine cex1 ?_; rintro r; refine cand2 ?_; rintro hr rfl)
  exact join_small (by decide +kernel) (told_small F H r hr) (b2 r hr)
theorem rules_small {F H : List Int} (l4 : F.length = 4) (l4' : H.length = 4) : (rules F H).length ≤ 8 ∧ ∀ x ∈ rules F H, x.length ≤ 12 := by
  obtain ⟨b1, b2⟩ := told_bound l4 l4'
  refine ⟨by unfold rules; rw [List.length_map]; exact b1, fun x hx => ?_⟩
  (refine impApp (List.mem_map.mp hx) ?_; refine cex1 ?_; rintro r; refine cand2 ?_; rintro hr rfl)
  exact join_small (by decide +kernel) (told_small F H r hr) (b2 r hr)
theorem ne_strs_same {w : World} {A : Around} {E : Value → Shared → Prop} {s : Shared} {a b : Addr} {vs us : List Value} {ns : List Str} {Q : Value → Shared → Prop} (hl : s.heap.IsList a vs.toArray) (hi : StrsAre vs ns) (hl' : s.heap.IsList b us.toArray) (hi' : StrsAre us ns) (ho : OkS ns) (hu : A.units + 64 < cLine)
    (h : Q (.bool false) s) : wpAny (model PR w) A (compareOp .NotEq (.ref a) (.ref b)) Q E s :=
  ne_strsK hl hi hl' hi' ho ho hu (by rw [decide_eq_true rfl]; exact h)
/-! part Lw5 -/
theorem words8 : True := by
  k_with "ite" => (first | (with_reducible refine ite_ff ?_) | (with_reducible refine ite_tt ?_))
  k_with "compareOp In int ref" => (((with_reducible show wpAny _ _ (compareOp CmpOp.In (Value.int _ _) (Value.ref _)) _ _ _); k_dflt (refine' in_list_ints ?hql ?hqs ?_; (case hql => walk_at "MINE isl"); (case hqs => with_reducible assumption); k_whole)))
  k_with "compareOp NotEq ref ref" => (((with_reducible show wpAny _ _ (compareOp CmpOp.NotEq (Value.ref _) (Value.ref _)) _ _ _); k_dflt (refine' ne_strs_same ?hql1 ?hqs1 ?hql2 ?hqs2 ?hqo1 ?hqu ?_; (case hql1 => walk_at "MINE isl"); (case hqs1 => with_reducible assumption); (case hql2 => walk_at "MINE isl"); (case hqs2 => with_reducible assumption); (case hqo1 => with_reducible assumption); (case hqu => walk_at "MINE room"); k_whole)))
  trivial
section
variable {w : World} {p : Program} {loose : List Str} {mean : ExcName → Option Value} {mg mb : Str → Option Value} {B : Heap} {L fa : Addr} {cd : Value} {dp un : Nat} {fr : Option (List Env)} {gd : Option (List Code)} {s : Shared} {m : Str → Option Value} {h : Heap} {tk : Nat} {G : Heap} {E : Value → Shared → Prop}
theorem seg7 {o4 o5 o6 o7 : Obj} {f g q : List Int} {t : Str} (hd : dp + 30 < recursionLimit) (hu : un + 400 < cLine) (X : (Mine.hd.heap_39 w.params).In B) (T : Top p loose mean mg mb B)
    (S : Gs B B G) (F : Fr B L h m) (N : News B L h (cells4 L o4 o5 o6 o7 ++ gl B G)) (O : Off G (cells4 L o4 o5 o6 o7)) (hF : Figs G L f g q) (ht : Txt1 m t) (hR : Recs w G m (words f q) (rules f q) (words g q) (rules g q)) :
    wpAny (model PR w) (lawA dp fr gd un L fa cd) (execs ((lawBody.drop 9).take 1) (lawEnv L fa cd)) (fun f' s' => f' = .next ∧ St s B L (cells4 L o4 o5 o6 o7) (fun G' m' => G.StaysIn G' ∧ Txt1 m' t ∧ Recs w G' m' (words f q) (rules f q) (words g q) (rules g q)) s') E { s with heap := h, toks := tk } := by
  show wpAny _ _ (execs [_] (envOfC _ { kind := _, names := _, isGenerator := _, isCoroutine := _, more := _ } _ _ _)) _ _ _
  obtain ⟨tt, em⟩ := ht
  (revert hR; refine cex2 ?_; rintro x1 x2; refine cand4 ?_; rintro e1 e2 hR1 hR2)
  obtain ⟨⟨a1, k1, v1, hL1, hI1⟩, ⟨a2, k2, v2, hL2, hI2⟩, ⟨a3, k3, v3, hL3, hI3⟩, l1, l2, l3, b1, b2, b3⟩ := hF
  rw [m_see em, m_see e1, m_see e2] at F
  simp only [List.cons_append, List.nil_append] at N
  walk_at "MINE fill"
  (try dsimp only); (try k_fold)
  walk_at "GO"
  rename_i D2 h2 lD2 D1 h3 lD1 D0 h4 F4 N4 lD0
  (refine impApp (freezes [(D0, _), (D1, _), (D2, _)] [(L + 1 + 1 + 1 + 1 + 1 + 1 + 1, o7), (L + 1 + 1 + 1 + 1 + 1 + 1, o6), (L + 1 + 1 + 1 + 1 + 1, o5), (L + 1 + 1 + 1 + 1, o4)] (news := [(D0, _), (D1, _), (D2, _)] ++ [(L + 1 + 1 + 1 + 1 + 1 + 1 + 1, o7), (L + 1 + 1 + 1 + 1 + 1 + 1, o6), (L + 1 + 1 + 1 + 1 + 1, o5), (L + 1 + 1 + 1 + 1, o4)]) S F4 N4 (fun p => Iff.rfl)) ?_; refine cex1 ?_; rintro G1; refine cand5 ?_; rintro S1 g1 fz1 N5 off1)
  have O1 : Off G1 [(L + 1 + 1 + 1 + 1 + 1 + 1 + 1, o7), (L + 1 + 1 + 1 + 1 + 1 + 1, o6), (L + 1 + 1 + 1 + 1 + 1, o5), (L + 1 + 1 + 1 + 1, o4)] := Off.cons (off1 (L + 1 + 1 + 1 + 1 + 1 + 1 + 1) (by walk_at "MINE offz") (O (L + 1 + 1 + 1 + 1 + 1 + 1 + 1, o7) (by k_mem))) (Off.cons (off1 (L + 1 + 1 + 1 + 1 + 1 + 1) (by walk_at "MINE offz") (O (L + 1 + 1 + 1 + 1 + 1 + 1, o6) (by k_mem))) (Off.cons (off1 (L + 1 + 1 + 1 + 1 + 1) (by walk_at "MINE offz") (O (L + 1 + 1 + 1 + 1 + 1, o5) (by k_mem))) (Off.cons (off1 (L + 1 + 1 + 1 + 1) (by walk_at "MINE offz") (O (L + 1 + 1 + 1 + 1, o4) (by k_mem))) (Off.nil))))
  have hT0 : IsTup G1 D0 #[.ref D2, .ref D1] := ⟨_, fz1 (D0, _) (by k_mem), rfl, _, rfl⟩
  have hT1 : IsTup G1 D1 #[.ref x2, .ref a2] := ⟨_, fz1 (D1, _) (by k_mem), rfl, _, rfl⟩
  have hT2 : IsTup G1 D2 #[.ref x1, .ref a1] := ⟨_, fz1 (D2, _) (by k_mem), rfl, _, rfl⟩
  have item : ∀ (i : Nat) v, [Value.ref D2, .ref D1][i]? = some v → ∃ Tt xr ar fg va, v = .ref Tt ∧ IsTup G1 Tt #[.ref xr, .ref ar] ∧ Rec w G1 (.ref xr) (words fg q) (rules fg q) ∧ LL G1 ar va ∧ IntsAre va fg ∧ fig8 fg ∧ fg.length = 4 := by
    intro i v hv
    match i, hv with
    | 0, hv => cases hv; exact ⟨D2, x1, a1, f, v1, rfl, hT2, hR1.mono g1, hL1.mono g1, hI1, b1, l1⟩
    | 1, hv => cases hv; exact ⟨D1, x2, a2, g, v2, rfl, hT1, hR2.mono g1, hL2.mono g1, hI2, b2, l2⟩
  refine for_tupT (L := L) (vs := [.ref D2, .ref D1]) rfl rfl
    (fun i Gi mi ni => ni = [(L + 1 + 1 + 1 + 1 + 1 + 1 + 1, o7), (L + 1 + 1 + 1 + 1 + 1 + 1, o6), (L + 1 + 1 + 1 + 1 + 1, o5), (L + 1 + 1 + 1 + 1, o4)] ∧ mi (Str.ofString "text") = some (.str t tt) ∧ mi (Str.ofString "one") = some (.ref x1) ∧ mi (Str.ofString "other") = some (.ref x2))
    (fun Gi mi ni => ni = [(L + 1 + 1 + 1 + 1 + 1 + 1 + 1, o7), (L + 1 + 1 + 1 + 1 + 1 + 1, o6), (L + 1 + 1 + 1 + 1 + 1, o5), (L + 1 + 1 + 1 + 1, o4)] ∧ mi (Str.ofString "text") = some (.str t tt) ∧ mi (Str.ofString "one") = some (.ref x1) ∧ mi (Str.ofString "other") = some (.ref x2))
    (news := [(L + 1 + 1 + 1 + 1 + 1 + 1 + 1, o7), (L + 1 + 1 + 1 + 1 + 1 + 1, o6), (L + 1 + 1 + 1 + 1 + 1, o5), (L + 1 + 1 + 1 + 1, o4)]) hT0 S1 F4 N5 O1 ⟨rfl, rfl, rfl, rfl⟩ ?turn (fun _ _ _ x => x) ?done
  case done =>
    (rintro Gn mn nn h5 tk5; refine cand4 ?_; rintro rfl m1 m2 m3 Sn gn Fn Nn On _)
    rw [m_see m1, m_see m2, m_see m3] at Fn
    dsimp only
    walk_at "GO"
    exact ⟨_, _, Gn, _, rfl, Sn, Fn, Nn, On, StaysIn.trans g1 gn, ⟨_, rfl⟩, x1, x2, rfl, rfl, hR1.mono (StaysIn.trans g1 gn), hR2.mono (StaysIn.trans g1 gn)⟩
  case turn =>
    (rintro i v Gi mi ni h5 tk5 I oI Q₁ E₁ hq hv; refine cand4 ?_; rintro rfl m1 m2 m3 _ Si gi Fi Ni Oi hne)
    (refine impApp (item i v hv) ?_; refine cex5 ?_; rintro Tt xr ar fg va; refine cand7 ?_; rintro rfl hT hR hLa hIa b8 l4)
    rw [m_see m1, m_see m2, m_see m3] at Fi
    simp only [List.cons_append, List.nil_append] at Ni
    have hTi : IsTup Gi Tt #[.ref xr, .ref ar] := stays_tup gi hT
    (refine impApp (hR.mono gi) ?_; refine cex5 ?_; rintro x' u r uv rv; refine cand6 ?_; rintro e hRec huL huS hrL hrS)
    cases e
    refine assign_tup2 (L := L) rfl rfl Fi Ni (stays_tup (Si.keep (news := (I, oI) :: [(L + 1 + 1 + 1 + 1 + 1 + 1 + 1, o7), (L + 1 + 1 + 1 + 1 + 1 + 1, o6), (L + 1 + 1 + 1 + 1 + 1, o5), (L + 1 + 1 + 1 + 1, o4)]) Fi Ni) hTi) ?_
    intro h6 tk6 F6 N6
    dsimp only
    replace k3 : Gi.IsCell (L + 1 + 1 + 1) (some (Value.ref a3)) := k3.keeps (StaysIn.trans g1 gi)
    walk_at "GO"
    (refine impApp (len4 l4) ?_; refine cex4 ?_; rintro f0 f1 f2 f3 rfl)
    (refine impApp (len4 l3) ?_; refine cex4 ?_; rintro q0 q1 q2 q3 rfl)
    refine (told1 w Gi ar va f0 f1 f2 f3 (.ref a3) [q0, q1, q2, q3] (hLa.mono gi) hIa (b8 f0 (by simp)) (b8 f1 (by simp)) (b8 f2 (by simp)) (b8 f3 (by simp)) (fun h => absurd h (by decide)) (fun _ => ⟨a3, v3, q0, q1, q2, q3, rfl, hL3.mono (StaysIn.trans g1 gi), hI3, rfl, b3 q0 (by simp), b3 q1 (by simp), b3 q2 (by simp), b3 q3 (by simp)⟩)).use rfl (by walk_at "MINE room") (by walk_at "MINE room") X T F6 (news := (I, oI) :: [(L + 1 + 1 + 1 + 1 + 1 + 1 + 1, o7), (L + 1 + 1 + 1 + 1 + 1 + 1, o6), (L + 1 + 1 + 1 + 1 + 1, o5), (L + 1 + 1 + 1 + 1, o4)]) N6 Si Oi ?_
    (rintro v9 h9 tk9 G3 st3 S3 O3; refine cex2 ?_; rintro c cvs; refine cand3 ?_; rintro rfl hcL hcp F9 N9)
    simp only [List.cons_append, List.nil_append] at N9
    have hRec' := hRec.mono st3
    have huL' := huL.mono st3
    have hrL' := hrL.mono st3
    clear hRec huL hrL N6 Ni Fi F6
    dsimp only
    walk_at "GO"
    have hwt := told_wt (F := [f0, f1, f2, f3]) l4 l3
    have hcl : (toldF 1 [f0, f1, f2, f3] [q0, q1, q2, q3]).length ≤ 8 := (told_bound l4 l3).1
    have okw := words_ok [f0, f1, f2, f3] [q0, q1, q2, q3]
    have okr := rules_ok [f0, f1, f2, f3] [q0, q1, q2, q3]
    rename_i h10 F10 N10
    unfold CompIn
    refine src_list (news := (I, oI) :: [(L + 1 + 1 + 1 + 1 + 1 + 1 + 1, o7), (L + 1 + 1 + 1 + 1 + 1 + 1, o6), (L + 1 + 1 + 1 + 1 + 1, o5), (L + 1 + 1 + 1 + 1, o4)]) rfl hcL.isList S3 F10 N10 ?_
    intro J1 h11 fp Stt C0 F11 N11 st11
    have Xc : (Mine.hd.heap_39 w.params).In (less h11 J1) := (X.keeps F10.keep).keeps st11
    have Tc : Top p loose mean mg mb (less h11 J1) := (T.keeps F10.keep).keeps st11
    refine comp1_val (L := L) rfl C0 (fun i G' rs => G' = G3 ∧ StrsAre rs (((toldF 1 [f0, f1, f2, f3] [q0, q1, q2, q3]).take i).map (Txt.join (Str.ofString "")))) S3 F11 N11 O3 ⟨rfl, .nil⟩ ?len2 ?turn2 ?done2
    case len2 =>
      rintro i G' rs ⟨rfl, hrs⟩
      rw [hrs.length, sizeLine_eq, List.length_map, List.length_take]; (first | lia | omega)
    case turn2 =>
      rintro i2 v2 C D2 Gi2 mi2 rs kk h12 tk12 oI2 E₃ hi2 hv2 ⟨rfl, hrs⟩ Si2 _ F12 N12 O12
      (refine impApp (Paired.get hcp i2 v2 hv2) ?_; refine cex1 ?_; rintro row; refine cand2 ?_; rintro hrow; refine cex2 ?_; rintro b bvs; refine cand3 ?_; rintro rfl hbL hbS)
      simp only [List.cons_append, List.nil_append] at N12
      dsimp only at F12 N12 ⊢
      have hWt := hwt row (List.mem_of_getElem? hrow)
      walk_at "GO"
      rename_i h13 F13 N13 cE t13 k13
      refine ⟨_, _, Gi2, _, rfl, Si2, StaysIn.refl _, F13, N13, O12, rfl, ?_⟩
      rw [List.take_add_one, hrow, List.map_append]
      exact strsAre_append hrs (.cons _ _ .nil)
    case done2 =>
      rintro D3 Gn G4 rs kk h12 tk12 ⟨rfl, hrs⟩ gst hD3 g4 S4 O4 F12 N12
      have hrs' : StrsAre rs (words [f0, f1, f2, f3] [q0, q1, q2, q3]) := by
        rw [Paired.len hcp, List.take_length] at hrs
        exact hrs
      have huL'' := huL'.mono g4
      have hrL'' := hrL'.mono g4
      have hRec'' := hRec'.mono g4
      have hDL : LL G4 D3 rs := LL.of hD3
      have hcL2 := hcL.mono g4
      have hcp2 := hcp.mono fun _ _ r => Strs.mono r g4
      clear huL' hrL' hRec' C0 F11 N11 Xc Tc
      simp only [List.cons_append, List.nil_append] at N12
      dsimp only
      walk_at "GO"
      unfold CompIn
      refine src_list (news := (I, oI) :: [(L + 1 + 1 + 1 + 1 + 1 + 1 + 1, o7), (L + 1 + 1 + 1 + 1 + 1 + 1, o6), (L + 1 + 1 + 1 + 1 + 1, o5), (L + 1 + 1 + 1 + 1, o4)]) rfl hcL2.isList S4 F12 N12 ?_
      intro J1 h11 fp Stt C0 F11 N11 st11
      have Xc : (Mine.hd.heap_39 w.params).In (less h11 J1) := (X.keeps F12.keep).keeps st11
      have Tc : Top p loose mean mg mb (less h11 J1) := (T.keeps F12.keep).keeps st11
      refine comp1_val (L := L) rfl C0 (fun i G' rs => G' = G4 ∧ StrsAre rs (((toldF 1 [f0, f1, f2, f3] [q0, q1, q2, q3]).take i).map (Txt.join (Str.ofString " ")))) S4 F11 N11 O4 ⟨rfl, .nil⟩ ?len3 ?turn3 ?done3
      case len3 =>
        rintro i G' rs ⟨rfl, hrs⟩
        rw [hrs.length, sizeLine_eq, List.length_map, List.length_take]; (first | lia | omega)
      case turn3 =>
        rintro i2 v2 C D2 Gi2 mi2 rs kk h12 tk12 oI2 E₃ hi2 hv2 ⟨rfl, hrs⟩ Si2 _ F12 N12 O12
        (refine impApp (Paired.get hcp2 i2 v2 hv2) ?_; refine cex1 ?_; rintro row; refine cand2 ?_; rintro hrow; refine cex2 ?_; rintro b bvs; refine cand3 ?_; rintro rfl hbL hbS)
        simp only [List.cons_append, List.nil_append] at N12
        dsimp only at F12 N12 ⊢
        have hWt := hwt row (List.mem_of_getElem? hrow)
        walk_at "GO"
        rename_i h13 F13 N13 cE t13 k13
        refine ⟨_, _, Gi2, _, rfl, Si2, StaysIn.refl _, F13, N13, O12, rfl, ?_⟩
        rw [List.take_add_one, hrow, List.map_append]
        exact strsAre_append hrs (.cons _ _ .nil)
      case done3 =>
        rintro D5 Gn5 G5 rs5 kk5 h22 tk22 ⟨rfl, hrs5⟩ gst5 hD5 g5 S5 O5 F22 N22
        have hrs5' : StrsAre rs5 (rules [f0, f1, f2, f3] [q0, q1, q2, q3]) := by
          rw [Paired.len hcp, List.take_length] at hrs5
          exact hrs5
        have huL5 := huL''.mono g5
        have hrL5 := hrL''.mono g5
        have hRec5 := hRec''.mono g5
        have hDL5 : LL G5 D5 rs5 := LL.of hD5
        clear huL'' hrL'' hRec''
        simp only [List.cons_append, List.nil_append] at N22
        dsimp only
        walk_at "GO"
        exact ⟨h22, tk22, G5, _, [(L + 1 + 1 + 1 + 1 + 1 + 1 + 1, o7), (L + 1 + 1 + 1 + 1 + 1 + 1, o6), (L + 1 + 1 + 1 + 1 + 1, o5), (L + 1 + 1 + 1 + 1, o4)], rfl, S5, StaysIn.trans st3 (StaysIn.trans g4 g5), F22, N22, O5, rfl, rfl, rfl, rfl, rfl⟩
end
/-! part Lw6 -/
def HasRec (w : World) (G : Heap) (m : Str → Option Value) (name : String) (us rs : List Str) : Prop := ∃ x, m (Str.ofString name) = some (.ref x) ∧ Rec w G (.ref x) us rs
def HasStrs (G : Heap) (m : Str → Option Value) (name : String) (us : List Str) : Prop := ∃ x vs, m (Str.ofString name) = some (.ref x) ∧ LL G x vs ∧ StrsAre vs us
theorem HasRec.mono {w : World} {G G' : Heap} {m : Str → Option Value} {n : String} {us rs : List Str} (x : HasRec w G m n us rs) (k : G.StaysIn G') : HasRec w G' m n us rs := let ⟨a, b, c⟩ := x; ⟨a, b, c.mono k⟩
abbrev both (a b : List Str) : List Str := a.filter b.contains
structure Four (w : World) (G : Heap) (m : Str → Option Value) (t : Str) (us1 rs1 us2 rs2 : List Str) : Prop where
  txt : Txt1 m t
  one : HasRec w G m "one" us1 rs1
  other : HasRec w G m "other" us2 rs2
  merged : HasRec w G m "merged" (both us1 us2) (rs1 ++ rs2)
  turned : HasRec w G m "turned" (both us2 us1) (rs2 ++ rs1)
section
variable {w : World} {p : Program} {loose : List Str} {mean : ExcName → Option Value} {mg mb : Str → Option Value} {B : Heap} {L fa : Addr} {cd : Value} {dp un : Nat} {fr : Option (List Env)} {gd : Option (List Code)} {s : Shared} {m : Str → Option Value} {h : Heap} {tk : Nat} {G : Heap} {E : Value → Shared → Prop}
theorem seg8 {o4 o5 o6 o7 : Obj} {t : Str} {us1 rs1 us2 rs2 : List Str} (hd : dp + 30 < recursionLimit) (hu : un + 400 < cLine) (X : (Mine.hd.heap_39 w.params).In B) (T : Top p loose mean mg mb B)
    (S : Gs B B G) (F : Fr B L h m) (N : News B L h (cells4 L o4 o5 o6 o7 ++ gl B G)) (O : Off G (cells4 L o4 o5 o6 o7)) (ht : Txt1 m t) (hR : Recs w G m us1 rs1 us2 rs2)
    (z1 : us1.length ≤ 8) (z2 : us2.length ≤ 8) (z3 : rs1.length ≤ 8) (z4 : rs2.length ≤ 8) :
    wpAny (model PR w) (lawA dp fr gd un L fa cd) (execs ((lawBody.drop 10).take 2) (lawEnv L fa cd)) (fun f' s' => f' = .next ∧ St s B L (cells4 L o4 o5 o6 o7) (fun G' m' => G.StaysIn G' ∧ Four w G' m' t us1 rs1 us2 rs2) s') E { s with heap := h, toks := tk } := by
  show wpAny _ _ (execs [_, _] (envOfC _ { kind := _, names := _, isGenerator := _, isCoroutine := _, more := _ } _ _ _)) _ _ _
  obtain ⟨tt, em⟩ := ht
  (revert hR; refine cex2 ?_; rintro x1 x2; refine cand4 ?_; rintro e1 e2 hR1 hR2)
  rw [m_see em, m_see e1, m_see e2] at F
  simp only [List.cons_append, List.nil_append] at N
  walk_at "MINE fill"
  (try dsimp only); (try k_fold)
  walk_at "GO"
  refine (merge w G x1 x2 us1 rs1 us2 rs2 hR1 hR2 (by (first | lia | omega)) (by (first | lia | omega)) (by (first | lia | omega)) (by (first | lia | omega))).use rfl (by walk_at "MINE room") (by walk_at "MINE room") X T F (news := cells4 L o4 o5 o6 o7) N S O ?_
  rintro r3 h2 tk2 G2 st2 S2 O2 hR3 F2 N2
  (refine impApp (id hR3) ?_; refine cex5 ?_; rintro x3 _ _ _ _; refine cand2 ?_; rintro rfl _)
  simp only [List.cons_append, List.nil_append] at N2
  dsimp only
  walk_at "GO"
  rename_i h3 F3 N3
  refine (merge w G2 x2 x1 us2 rs2 us1 rs1 (hR2.mono st2) (hR1.mono st2) (by (first | lia | omega)) (by (first | lia | omega)) (by (first | lia | omega)) (by (first | lia | omega))).use rfl (by walk_at "MINE room") (by walk_at "MINE room") X T F3 (news := cells4 L o4 o5 o6 o7) N3 S2 O2 ?_
  rintro r4 h4 tk4 G4 st4 S4 O4 hR4 F4 N4
  (refine impApp (id hR4) ?_; refine cex5 ?_; rintro x4 _ _ _ _; refine cand2 ?_; rintro rfl _)
  simp only [List.cons_append, List.nil_append] at N4
  dsimp only
  walk_at "GO"
  rename_i h5 F5 N5
  have stt := StaysIn.trans st2 st4
  exact ⟨h5, _, G4, _, rfl, S4, F5, N5, O4, stt, ⟨⟨_, rfl⟩, ⟨x1, rfl, hR1.mono stt⟩, ⟨x2, rfl, hR2.mono stt⟩, ⟨x3, rfl, hR3.mono st4⟩, ⟨x4, rfl, hR4⟩⟩⟩
end
/-! part Lw7 -/
section
variable {w : World} {p : Program} {loose : List Str} {mean : ExcName → Option Value} {mg mb : Str → Option Value} {B : Heap} {L fa : Addr} {cd : Value} {dp un : Nat} {fr : Option (List Env)} {gd : Option (List Code)} {s : Shared} {m : Str → Option Value} {h : Heap} {tk : Nat} {G : Heap} {E : Value → Shared → Prop}
theorem seg9 {o4 o5 o6 o7 : Obj} {f g q : List Int} {t : Str} (hd : dp + 30 < recursionLimit) (hu : un + 400 < cLine) (X : (Mine.hd.heap_39 w.params).In B) (T : Top p loose mean mg mb B)
    (S : Gs B B G) (F : Fr B L h m) (N : News B L h (cells4 L o4 o5 o6 o7 ++ gl B G)) (O : Off G (cells4 L o4 o5 o6 o7)) (hF : Figs G L f g q) (h4 : Four w G m t (words f q) (rules f q) (words g q) (rules g q)) :
    wpAny (model PR w) (lawA dp fr gd un L fa cd) (execs ((lawBody.drop 12).take 1) (lawEnv L fa cd)) (fun f' s' => f' = .next ∧ St s B L (cells4 L o4 o5 o6 o7) (fun G' m' => G.StaysIn G' ∧ Four w G' m' t (words f q) (rules f q) (words g q) (rules g q) ∧ HasStrs G' m' "kept" (both (words f q) (words g q))) s') E { s with heap := h, toks := tk } := by
  show wpAny _ _ (execs [_] (envOfC _ { kind := _, names := _, isGenerator := _, isCoroutine := _, more := _ } _ _ _)) _ _ _
  obtain ⟨⟨tt, em⟩, ⟨x1, e1, hR1⟩, ⟨x2, e2, hR2⟩, ⟨x3, e3, hR3⟩, ⟨x4, e4, hR4⟩⟩ := h4
  obtain ⟨⟨a1, k1, v1, hL1, hI1⟩, ⟨a2, k2, v2, hL2, hI2⟩, ⟨a3, k3, v3, hL3, hI3⟩, l1, l2, l3, b1, b2, b3⟩ := hF
  have hsm := (words_small (F := f) (H := q) (by assumption) l3).2
  have hsn := (words_small (F := f) (H := q) (by assumption) l3).1
  (refine impApp (len4 l1) ?_; refine cex4 ?_; rintro f0 f1 f2 f3 rfl)
  (refine impApp (len4 l2) ?_; refine cex4 ?_; rintro g0 g1 g2 g3 rfl)
  (refine impApp (len4 l3) ?_; refine cex4 ?_; rintro q0 q1 q2 q3 rfl)
  rw [m_see em, m_see e1, m_see e2, m_see e3, m_see e4] at F
  simp only [List.cons_append, List.nil_append] at N
  (refine impApp (id hR1) ?_; refine cex5 ?_; rintro x' u r uv rv; refine cand6 ?_; rintro e hRec huL huS hrL hrS)
  cases e
  walk_at "MINE fill"
  (try dsimp only); (try k_fold)
  walk_at "GO"
  unfold CompIn
  refine src_list (news := cells4 L o4 o5 o6 o7) rfl huL.isList S F N ?_
  intro I h2 fp Stt C0 F3 N3 st3
  have Xc : (Mine.hd.heap_39 w.params).In (less h2 I) := (X.keeps F.keep).keeps st3
  have Tc : Top p loose mean mg mb (less h2 I) := (T.keeps F.keep).keeps st3
  have st4 : G.StaysIn (less h2 I) := StaysIn.trans (S.keep (news := cells4 L o4 o5 o6 o7) F N) st3
  have kc1 := k1.keeps st4
  have kc2 := k2.keeps st4
  have kc3 := k3.keeps st4
  refine comp1_to (L := L) rfl C0 (fun i G' rs => StrsAre rs (((words [f0, f1, f2, f3] [q0, q1, q2, q3]).take i).filter (words [g0, g1, g2, g3] [q0, q1, q2, q3]).contains)) S F3 N3 O .nil ?len ?turn ?done
  case len =>
    rintro i G' rs hrs
    rw [hrs.length, sizeLine_eq]
    have h1 := List.length_filter_le (words [g0, g1, g2, g3] [q0, q1, q2, q3]).contains ((words [f0, f1, f2, f3] [q0, q1, q2, q3]).take i)
    rw [List.length_take] at h1; (first | lia | omega)
  case turn =>
    rintro i v C D2 Gi mi rs kk h5 tk5 oI E₁ hi hv hrs Si gi F5 N5 O5
    simp only [List.cons_append, List.nil_append] at N5
    dsimp only at F5 N5 ⊢
    (refine impApp (strsAre_at huS i v hv) ?_; refine cex2 ?_; rintro y ty; refine cand2 ?_; rintro rfl hy)
    have hyl := hsm y (List.mem_of_getElem? hy)
    walk_at "GO"
    rename_i h6 F6 N6 cE6
    refine (ends1 w Gi a2 v2 g0 g1 g2 g3 y ty 0 _ (.ref a3) [q0, q1, q2, q3] (hL2.mono gi) hI2 (b2 g0 (by simp)) (b2 g1 (by simp)) (b2 g2 (by simp)) (b2 g3 (by simp)) (fun h => absurd h (by decide)) (by decide) (by decide) (by (first | lia | omega)) (fun _ => ⟨a3, v3, q0, q1, q2, q3, rfl, hL3.mono gi, hI3, rfl, b3 q0 (by simp), b3 q1 (by simp), b3 q2 (by simp), b3 q3 (by simp)⟩)).use rfl (by walk_at "MINE room") (by walk_at "MINE room") Xc Tc F6 (news := [(I, oI), (D2, listOf rs.toArray kk)]) N6 Si O5 ?_
    (rintro v9 h9 tk9 G9 st9 S9 O9; refine cex2 ?_; rintro c cvs; refine cand3 ?_; rintro rfl hcL hci F9 N9)
    have hin := reads_iff y [g0, g1, g2, g3] [q0, q1, q2, q3]
    generalize endsF 1 y [g0, g1, g2, g3] [q0, q1, q2, q3] 0 = ends at hin hci
    have hfil : ∀ b : Bool, b = (ends.any (· == ((y.length : Nat) : Int))) → (words [g0, g1, g2, g3] [q0, q1, q2, q3]).contains y = b := by
      rintro b rfl
      rw [Bool.eq_iff_iff, List.contains_iff_mem, List.any_eq_true, ← hin]
      constructor
      · intro h; exact ⟨_, h, by simp⟩
      · (refine cex1 ?_; rintro x; refine cand2 ?_; rintro hx e); rw [beq_iff_eq] at e; rw [← e]; exact hx
    have hst := List.take_add_one (l := words [f0, f1, f2, f3] [q0, q1, q2, q3]) (i := i)
    rw [hy] at hst
    simp only [List.cons_append, List.nil_append] at N9
    dsimp only
    walk_at "GO"
    · rename_i hc
      refine ⟨_, _, G9, _, rfl, S9, st9, F9, N9, O9, ?_⟩
      rw [hst, List.filter_append, Option.toList_some, List.filter_cons, hfil true hc.symm, if_pos rfl, List.filter_nil]
      exact strsAre_append hrs (.cons _ _ .nil)
    · rename_i hc
      refine ⟨_, _, G9, _, rfl, S9, st9, F9, N9, O9, ?_⟩
      rw [hst, List.filter_append, Option.toList_some, List.filter_cons, hfil false hc.symm, if_neg Bool.false_ne_true, List.filter_nil, List.append_nil]
      exact hrs
  case done =>
    rintro D3 Gn G3 rs kk h5 tk5 hrs gst hD3 gs3 S3 O3 F5 N5
    rw [huS.length, List.take_length] at hrs
    simp only [List.cons_append, List.nil_append] at N5
    dsimp only
    walk_at "GO"
    exact ⟨_, _, G3, _, rfl, S3, F5, N5, O3, gs3, ⟨⟨_, rfl⟩, ⟨x1, rfl, hR1.mono gs3⟩, ⟨x2, rfl, hR2.mono gs3⟩, ⟨x3, rfl, hR3.mono gs3⟩, ⟨x4, rfl, hR4.mono gs3⟩⟩, D3, rs, rfl, LL.of hD3, hrs⟩
theorem seg10 {o4 o5 o6 o7 : Obj} {f g q : List Int} {t : Str} (hd : dp + 30 < recursionLimit) (hu : un + 400 < cLine) (X : (Mine.hd.heap_39 w.params).In B) (T : Top p loose mean mg mb B)
    (S : Gs B B G) (F : Fr B L h m) (N : News B L h (cells4 L o4 o5 o6 o7 ++ gl B G)) (O : Off G (cells4 L o4 o5 o6 o7)) (hF : Figs G L f g q) (h4 : Four w G m t (words f q) (rules f q) (words g q) (rules g q)) (hk : HasStrs G m "kept" (both (words f q) (words g q))) :
    wpAny (model PR w) (lawA dp fr gd un L fa cd) (execs ((lawBody.drop 13).take 1) (lawEnv L fa cd)) (fun f' s' => f' = .next ∧ St s B L (cells4 L o4 o5 o6 o7) (fun G' m' => G.StaysIn G' ∧ Four w G' m' t (words f q) (rules f q) (words g q) (rules g q) ∧ HasStrs G' m' "kept" (both (words f q) (words g q)) ∧ HasStrs G' m' "back" (both (words g q) (words f q))) s') E { s with heap := h, toks := tk } := by
  show wpAny _ _ (execs [_] (envOfC _ { kind := _, names := _, isGenerator := _, isCoroutine := _, more := _ } _ _ _)) _ _ _
  obtain ⟨⟨tt, em⟩, ⟨x1, e1, hR1⟩, ⟨x2, e2, hR2⟩, ⟨x3, e3, hR3⟩, ⟨x4, e4, hR4⟩⟩ := h4
  (revert hk; refine cex2 ?_; rintro xk kv; refine cand3 ?_; rintro ek hkL hkS)
  obtain ⟨⟨a1, k1, v1, hL1, hI1⟩, ⟨a2, k2, v2, hL2, hI2⟩, ⟨a3, k3, v3, hL3, hI3⟩, l1, l2, l3, b1, b2, b3⟩ := hF
  have hsm := (words_small (F := g) (H := q) (by assumption) l3).2
  have hsn := (words_small (F := g) (H := q) (by assumption) l3).1
  (refine impApp (len4 l1) ?_; refine cex4 ?_; rintro f0 f1 f2 f3 rfl)
  (refine impApp (len4 l2) ?_; refine cex4 ?_; rintro g0 g1 g2 g3 rfl)
  (refine impApp (len4 l3) ?_; refine cex4 ?_; rintro q0 q1 q2 q3 rfl)
  rw [m_see em, m_see e1, m_see e2, m_see e3, m_see e4, m_see ek] at F
  simp only [List.cons_append, List.nil_append] at N
  (refine impApp (id hR2) ?_; refine cex5 ?_; rintro x' u r uv rv; refine cand6 ?_; rintro e hRec huL huS hrL hrS)
  cases e
  walk_at "MINE fill"
  (try dsimp only); (try k_fold)
  walk_at "GO"
  unfold CompIn
  refine src_list (news := cells4 L o4 o5 o6 o7) rfl huL.isList S F N ?_
  intro I h2 fp Stt C0 F3 N3 st3
  have Xc : (Mine.hd.heap_39 w.params).In (less h2 I) := (X.keeps F.keep).keeps st3
  have Tc : Top p loose mean mg mb (less h2 I) := (T.keeps F.keep).keeps st3
  have st4 : G.StaysIn (less h2 I) := StaysIn.trans (S.keep (news := cells4 L o4 o5 o6 o7) F N) st3
  have kc1 := k1.keeps st4
  have kc2 := k2.keeps st4
  have kc3 := k3.keeps st4
  refine comp1_to (L := L) rfl C0 (fun i G' rs => StrsAre rs (((words [g0, g1, g2, g3] [q0, q1, q2, q3]).take i).filter (words [f0, f1, f2, f3] [q0, q1, q2, q3]).contains)) S F3 N3 O .nil ?len ?turn ?done
  case len =>
    rintro i G' rs hrs
    rw [hrs.length, sizeLine_eq]
    have h1 := List.length_filter_le (words [f0, f1, f2, f3] [q0, q1, q2, q3]).contains ((words [g0, g1, g2, g3] [q0, q1, q2, q3]).take i)
    rw [List.length_take] at h1; (first | lia | omega)
  case turn =>
    rintro i v C D2 Gi mi rs kk h5 tk5 oI E₁ hi hv hrs Si gi F5 N5 O5
    simp only [List.cons_append, List.nil_append] at N5
    dsimp only at F5 N5 ⊢
    (refine impApp (strsAre_at huS i v hv) ?_; refine cex2 ?_; rintro y ty; refine cand2 ?_; rintro rfl hy)
    have hyl := hsm y (List.mem_of_getElem? hy)
    walk_at "GO"
    rename_i h6 F6 N6 cE6
    refine (ends1 w Gi a1 v1 f0 f1 f2 f3 y ty 0 _ (.ref a3) [q0, q1, q2, q3] (hL1.mono gi) hI1 (b1 f0 (by simp)) (b1 f1 (by simp)) (b1 f2 (by simp)) (b1 f3 (by simp)) (fun h => absurd h (by decide)) (by decide) (by decide) (by (first | lia | omega)) (fun _ => ⟨a3, v3, q0, q1, q2, q3, rfl, hL3.mono gi, hI3, rfl, b3 q0 (by simp), b3 q1 (by simp), b3 q2 (by simp), b3 q3 (by simp)⟩)).use rfl (by walk_at "MINE room") (by walk_at "MINE room") Xc Tc F6 (news := [(I, oI), (D2, listOf rs.toArray kk)]) N6 Si O5 ?_
    (rintro v9 h9 tk9 G9 st9 S9 O9; refine cex2 ?_; rintro c cvs; refine cand3 ?_; rintro rfl hcL hci F9 N9)
    have hin := reads_iff y [f0, f1, f2, f3] [q0, q1, q2, q3]
    generalize endsF 1 y [f0, f1, f2, f3] [q0, q1, q2, q3] 0 = ends at hin hci
    have hfil : ∀ b : Bool, b = (ends.any (· == ((y.length : Nat) : Int))) → (words [f0, f1, f2, f3] [q0, q1, q2, q3]).contains y = b := by
      rintro b rfl
      rw [Bool.eq_iff_iff, List.contains_iff_mem, List.any_eq_true, ← hin]
      constructor
      · intro h; exact ⟨_, h, by simp⟩
      · (refine cex1 ?_; rintro x; refine cand2 ?_; rintro hx e); rw [beq_iff_eq] at e; rw [← e]; exact hx
    have hst := List.take_add_one (l := words [g0, g1, g2, g3] [q0, q1, q2, q3]) (i := i)
    rw [hy] at hst
    simp only [List.cons_append, List.nil_append] at N9
    dsimp only
    walk_at "GO"
    · rename_i hc
      refine ⟨_, _, G9, _, rfl, S9, st9, F9, N9, O9, ?_⟩
      rw [hst, List.filter_append, Option.toList_some, List.filter_cons, hfil true hc.symm, if_pos rfl, List.filter_nil]
      exact strsAre_append hrs (.cons _ _ .nil)
    · rename_i hc
      refine ⟨_, _, G9, _, rfl, S9, st9, F9, N9, O9, ?_⟩
      rw [hst, List.filter_append, Option.toList_some, List.filter_cons, hfil false hc.symm, if_neg Bool.false_ne_true, List.filter_nil, List.append_nil]
      exact hrs
  case done =>
    rintro D3 Gn G3 rs kk h5 tk5 hrs gst hD3 gs3 S3 O3 F5 N5
    rw [huS.length, List.take_length] at hrs
    simp only [List.cons_append, List.nil_append] at N5
    dsimp only
    walk_at "GO"
    exact ⟨_, _, G3, _, rfl, S3, F5, N5, O3, gs3, ⟨⟨_, rfl⟩, ⟨x1, rfl, hR1.mono gs3⟩, ⟨x2, rfl, hR2.mono gs3⟩, ⟨x3, rfl, hR3.mono gs3⟩, ⟨x4, rfl, hR4.mono gs3⟩⟩, ⟨xk, kv, rfl, hkL.mono gs3, hkS⟩, D3, rs, rfl, LL.of hD3, hrs⟩
end
/-! part Lw8 -/
theorem ne_strs_nil {w : World} {A : Around} {E : Value → Shared → Prop} {s : Shared} {a b : Addr} {vs : List Value} {ns : List Str} {n : Nat} {Q : Value → Shared → Prop} (hl : s.heap.IsList a vs.toArray) (hi : StrsAre vs ns) (hb : s.heap.get? b = some (listOf #[] n)) (ho : OkS ns) (hu : A.units + 64 < cLine)
    (h : Q (.bool (!ns.isEmpty)) s) : wpAny (model PR w) A (compareOp .NotEq (.ref a) (.ref b)) Q E s :=
  ne_strsK (ms := []) hl hi (isList_of (its := ([] : List Value).toArray) hb) .nil ho (fun _ h => by cases h) hu (by
    have : decide (ns = []) = ns.isEmpty := by cases ns <;> simp
    rw [this]; exact h)
theorem ne_ints_nil {w : World} {A : Around} {E : Value → Shared → Prop} {s : Shared} {a b : Addr} {vs : List Value} {ns : List Int} {n : Nat} {Q : Value → Shared → Prop} (hl : s.heap.IsList a vs.toArray) (hi : IntsAre vs ns) (hb : s.heap.get? b = some (listOf #[] n)) (hu : A.units + 64 < cLine)
    (h : Q (.bool (!ns.isEmpty)) s) : wpAny (model PR w) A (compareOp .NotEq (.ref a) (.ref b)) Q E s :=
  ne_intsK (ms := []) hl hi (isList_of (its := ([] : List Value).toArray) hb) .nil hu (by
    have : decide (ns = []) = ns.isEmpty := by cases ns <;> simp
    rw [this]; exact h)
theorem both_ok {a b : List Str} (h : OkS a) : OkS (both a b) := fun x hx => h x (List.mem_filter.mp hx).1
theorem words9 : True := by
  k_with "compareOp NotEq ref ref" => (((with_reducible show wpAny _ _ (compareOp CmpOp.NotEq (Value.ref _) (Value.ref _)) _ _ _); k_dflt (first
  | (refine' ne_strs_nil ?hql1 ?hqs1 ?hqb ?hqo1 ?hqu ?_; (case hqb => exact News.get (by k_asm) (by k_mem)); (case hql1 => walk_at "MINE isl"); (case hqs1 => with_reducible assumption); (case hqo1 => with_reducible assumption); (case hqu => walk_at "MINE room"); k_whole)
  | (refine' ne_ints_nil ?hql1 ?hqs1 ?hqb ?hqu ?_; (case hqb => exact News.get (by k_asm) (by k_mem)); (case hql1 => walk_at "MINE isl"); (case hqs1 => with_reducible assumption); (case hqu => walk_at "MINE room"); k_whole)
  | (refine' ne_strs_same ?hql1 ?hqs1 ?hql2 ?hqs2 ?hqo1 ?hqu ?_; (case hql1 => walk_at "MINE isl"); (case hqs1 => with_reducible assumption); (case hql2 => walk_at "MINE isl"); (case hqs2 => with_reducible assumption); (case hqo1 => with_reducible assumption); (case hqu => walk_at "MINE room"); k_whole))))
  trivial
section
variable {w : World} {p : Program} {loose : List Str} {mean : ExcName → Option Value} {mg mb : Str → Option Value} {B : Heap} {L fa : Addr} {cd : Value} {dp un : Nat} {fr : Option (List Env)} {gd : Option (List Code)} {s : Shared} {m : Str → Option Value} {h : Heap} {tk : Nat} {G : Heap} {E : Value → Shared → Prop}
def Six (w : World) (G : Heap) (m : Str → Option Value) (t : Str) (us1 rs1 us2 rs2 : List Str) : Prop := Four w G m t us1 rs1 us2 rs2 ∧ HasStrs G m "kept" (both us1 us2) ∧ HasStrs G m "back" (both us2 us1)
theorem seg11 {o4 o5 o6 o7 : Obj} {t : Str} {us1 rs1 us2 rs2 : List Str} (hd : dp + 30 < recursionLimit) (hu : un + 400 < cLine) (X : (Mine.hd.heap_39 w.params).In B) (T : Top p loose mean mg mb B)
    (S : Gs B B G) (F : Fr B L h m) (N : News B L h (cells4 L o4 o5 o6 o7 ++ gl B G)) (O : Off G (cells4 L o4 o5 o6 o7)) (h6 : Six w G m t us1 rs1 us2 rs2) (ok1 : OkS us1) (ok2 : OkS us2) :
    wpAny (model PR w) (lawA dp fr gd un L fa cd) (execs ((lawBody.drop 14).take 1) (lawEnv L fa cd)) (fun f' s' => f' = .next ∧ St s B L (cells4 L o4 o5 o6 o7) (fun G' m' => G.StaysIn G' ∧ Six w G' m' t us1 rs1 us2 rs2) s') E { s with heap := h, toks := tk } := by
  show wpAny _ _ (execs [_] (envOfC _ { kind := _, names := _, isGenerator := _, isCoroutine := _, more := _ } _ _ _)) _ _ _
  (revert h6; refine cand3 ?_; rintro ⟨⟨tt, em⟩, ⟨x1, e1, hR1⟩, ⟨x2, e2, hR2⟩, ⟨x3, e3, hR3⟩, ⟨x4, e4, hR4⟩⟩ ⟨xk, kv, ek, hkL, hkS⟩; refine cex2 ?_; rintro xb bv; refine cand3 ?_; rintro eb hbL hbS)
  have okk := both_ok (b := us2) ok1
  have okb := both_ok (b := us1) ok2
  rw [m_see em, m_see e1, m_see e2, m_see e3, m_see e4, m_see ek, m_see eb] at F
  simp only [List.cons_append, List.nil_append] at N
  (refine impApp (id hR3) ?_; refine cex5 ?_; rintro x' u3 r3 uv3 rv3; refine cand6 ?_; rintro q3 hRec3 huL3 huS3 hrL3 hrS3)
  cases q3
  (refine impApp (id hR4) ?_; refine cex5 ?_; rintro x' u4 r4 uv4 rv4; refine cand6 ?_; rintro q4 hRec4 huL4 huS4 hrL4 hrS4)
  cases q4
  walk_at "MINE fill"
  (try dsimp only); (try k_fold)
  walk_at "GO"
  exact ⟨h, _, G, _, rfl, S, F, N, O, StaysIn.refl _, ⟨⟨_, rfl⟩, ⟨x1, rfl, hR1⟩, ⟨x2, rfl, hR2⟩, ⟨x3, rfl, hR3⟩, ⟨x4, rfl, hR4⟩⟩, ⟨xk, kv, rfl, hkL, hkS⟩, ⟨xb, bv, rfl, hbL, hbS⟩⟩
end
/-! part Str2 -/
section
variable {w : World} {A : Around} {s : Shared} {E : Value → Shared → Prop} {p : Program} {loose : List Str} {mean : ExcName → Option Value} {mg mb : Str → Option Value} {B G₀ G : Heap} {L : Addr} {m : Str → Option Value} {news : List (Addr × Obj)}
/-- str(record) -/
theorem str_use {x : Addr} {us rs : List Str} {z : Str} {Q : Value → Shared → Prop} (hR : Rec w G (.ref x) us rs) (C : Pure w G 42 [.ref x] 3 40 (fun _ v => ∃ t, v = .str z t))
    (hh : A.handled = none) (hd : A.depth + 10 < recursionLimit) (hu : A.units + 60 < cLine) (X : (Mine.hd.heap_39 w.params).In B) (T : Top p loose mean mg mb B)
    (F : Fr B L s.heap m) (N : News B L s.heap (news ++ gl B G)) (S : Gs B G₀ G) (O : Off G news)
    (k : ∀ t h' tk' G', G.StaysIn G' → Gs B G₀ G' → Off G' news → Fr B L h' m → News B L h' (news ++ gl B G') → Q (.str z t) { s with heap := h', toks := tk' }) :
    wpAny (model PR w) A (call (.type "str") [.ref x]) Q E s := by
  (revert hR; refine cex5 ?_; rintro x' u r uv rv; refine cand3 ?_; rintro e ⟨d, t1, t2, t3, t4, hx, hdd⟩ _)
  cases e
  have hGs := S.keep F N
  have X' := X.keeps F.keep
  walk_at "MINE fill"
  k_dflt (refine' kso_call (C := 59) (f := 42) ?k1 X' (InstAt.mk (ox := instObj 59 d) (od := some (recD w.params u r .none .none t1 t2 t3 t4)) (hGs _ _ hx) rfl ?no (hGs _ _ hdd)) ?k4 ?k5 ?_; (case no => rfl); (case k4 => k_is); (case k5 => k_is))
  case k1 => simp only [units_in1]; (first | lia | omega)
  refine C.use (by simp [hh]) (by simp only [depth_in1]; (first | lia | omega)) (by simp only [units_in1]; (first | lia | omega)) X T F N S O ?_
  rintro v h' tk' G' st S' O' ⟨t, rfl⟩ F' N'
  exact k t h' tk' G' st S' O' F' N'
end
theorem ne_str_same {w : World} {A : Around} {E : Value → Shared → Prop} {s : Shared} {x : Str} {t u : Tok} {Q : Value → Shared → Prop} (h : Q (.bool false) s) : wpAny (model PR w) A (compareOp .NotEq (.str x t) (.str x u)) Q E s := by
  refine ne_str ?_
  have e : ∀ b : Bool, b = false → Q (.bool b) s := fun b hb => hb ▸ h
  exact e _ (by simp)
/-! part Lw9 -/
theorem words10 : True := by
  k_with "GOX" => (repeat' ((fail_if_success (with_reducible show wpAny _ _ (call (Value.type "str") [Value.ref _]) _ _ _)); (first | (k_unfold; (try dsimp only)) | walk1 | (dsimp only; walk1))))
  k_with "compareOp NotEq str str" => ((with_reducible refine ne_str_same ?_))
  trivial
section
variable {w : World} {p : Program} {loose : List Str} {mean : ExcName → Option Value} {mg mb : Str → Option Value} {B : Heap} {L fa : Addr} {cd : Value} {dp un : Nat} {fr : Option (List Env)} {gd : Option (List Code)} {s : Shared} {m : Str → Option Value} {h : Heap} {tk : Nat} {G : Heap} {E : Value → Shared → Prop}
theorem seg12a {o4 o5 o6 o7 : Obj} {t : Str} {us1 rs1 us2 rs2 : List Str} (hd : dp + 30 < recursionLimit) (hu : un + 400 < cLine) (X : (Mine.hd.heap_39 w.params).In B) (T : Top p loose mean mg mb B)
    (S : Gs B B G) (F : Fr B L h m) (N : News B L h (cells4 L o4 o5 o6 o7 ++ gl B G)) (O : Off G (cells4 L o4 o5 o6 o7)) (h6 : Six w G m t us1 rs1 us2 rs2) (ok1 : OkS us1) (ok2 : OkS us2)
    (z1 : us1.length ≤ 8 ∧ ∀ x ∈ us1, x.length ≤ 12) (z2 : us2.length ≤ 8 ∧ ∀ x ∈ us2, x.length ≤ 12) (z3 : rs1.length ≤ 8 ∧ ∀ x ∈ rs1, x.length ≤ 12) (z4 : rs2.length ≤ 8 ∧ ∀ x ∈ rs2, x.length ≤ 12) (hur : us1.length = rs1.length) (hur2 : us2.length = rs2.length) (he : both us1 us2 = []) :
    wpAny (model PR w) (lawA dp fr gd un L fa cd) (execs ((lawBody.drop 15).take 2) (lawEnv L fa cd)) (fun f' s' => f' = .next ∧ St s B L (cells4 L o4 o5 o6 o7) (fun G' m' => G.StaysIn G' ∧ Six w G' m' t us1 rs1 us2 rs2) s') E { s with heap := h, toks := tk } := by
  show wpAny _ _ (execs [_, _] (envOfC _ { kind := _, names := _, isGenerator := _, isCoroutine := _, more := _ } _ _ _)) _ _ _
  (revert h6; refine cand3 ?_; rintro ⟨⟨tt, em⟩, ⟨x1, e1, hR1⟩, ⟨x2, e2, hR2⟩, ⟨x3, e3, hR3⟩, ⟨x4, e4, hR4⟩⟩ ⟨xk, kv, ek, hkL, hkS⟩; refine cex2 ?_; rintro xb bv; refine cand3 ?_; rintro eb hbL hbS)
  have okk : OkS (both us1 us2) := both_ok (by assumption)
  have hkb : (both us1 us2).length ≤ 8 := Nat.le_trans (List.length_filter_le _ _) z1.1
  have hks : ∀ x ∈ both us1 us2, x.length ≤ 12 := fun x hx => z1.2 x (List.mem_filter.mp hx).1
  have hkl := hkS.length
  rw [m_see em, m_see e1, m_see e2, m_see e3, m_see e4, m_see ek, m_see eb] at F
  simp only [List.cons_append, List.nil_append] at N
  (refine impApp (id hR1) ?_; refine cex5 ?_; rintro x' u1 r1 uv1 rv1; refine cand6 ?_; rintro q1 hRec1 huL1 huS1 hrL1 hrS1)
  cases q1
  (refine impApp (id hR2) ?_; refine cex5 ?_; rintro x' u2 r2 uv2 rv2; refine cand6 ?_; rintro q2 hRec2 huL2 huS2 hrL2 hrS2)
  cases q2
  have hrl1 := hrS1.length
  have hrl2 := hrS2.length
  walk_at "MINE fill"
  (try dsimp only); (try k_fold)
  walk_at "GO"
  unfold CompIn
  refine src_list (news := cells4 L o4 o5 o6 o7) rfl hkL.isList S F N ?_
  intro I h2 fp Stt C0 F3 N3 st3
  have Xc : (Mine.hd.heap_39 w.params).In (less h2 I) := (X.keeps F.keep).keeps st3
  have Tc : Top p loose mean mg mb (less h2 I) := (T.keeps F.keep).keeps st3
  refine comp1_val (L := L) rfl C0 (fun i G' rs => G' = G ∧ StrsAre rs (((both us1 us2).take i).map (uaS ++ ·))) S F3 N3 O ⟨rfl, .nil⟩ ?len ?turn ?done
  case len =>
    rintro i G' rs ⟨rfl, hrs⟩
    rw [hrs.length, sizeLine_eq, List.length_map, List.length_take]; (first | lia | omega)
  case turn =>
    rintro i v C D2 Gi mi rs kk h5 tk5 oI E₁ hi hv ⟨rfl, hrs⟩ Si gi F5 N5 O5
    simp only [List.cons_append, List.nil_append] at N5
    dsimp only at F5 N5 ⊢
    (refine impApp (strsAre_at hkS i v hv) ?_; refine cex2 ?_; rintro y ty; refine cand2 ?_; rintro rfl hy)
    have hyl := hks y (List.mem_of_getElem? hy)
    walk_at "GO"
    rename_i h6 F6 N6 t6 k6 le6
    refine ⟨_, _, Gi, _, rfl, Si, StaysIn.refl _, F6, N6, O5, rfl, ?_⟩
    rw [List.take_add_one, hy, List.map_append]
    exact strsAre_append hrs (.cons _ _ .nil)
  case done =>
    rintro D3 Gn G3 rs kk h5 tk5 ⟨rfl, hrs⟩ gst hD3 gs3 S3 O3 F5 N5
    rw [hkS.length, List.take_length] at hrs
    have hDL : LL G3 D3 rs := LL.of hD3
    have hRec1' := hRec1.mono gs3
    have hrL1' := hrL1.mono gs3
    have hRec2' := hRec2.mono gs3
    have hrL2' := hrL2.mono gs3
    have hrsl := hrs.length
    rw [List.length_map] at hrsl
    clear hRec1 hrL1 hRec2 hrL2 C0 F3 N3 F N
    simp only [List.cons_append, List.nil_append] at N5
    dsimp only
    walk_at "GOX"
    rename_i D1 h6 lD1 D2 h7 lD2 h8 F8 N8
    (refine impApp (freezes [(D2, listOf (rs ++ rv1 ++ rv2).toArray 0), (D1, listOf (rs ++ rv1).toArray 0)] (cells4 L o4 o5 o6 o7) (news := [(D2, listOf (rs ++ rv1 ++ rv2).toArray 0), (D1, listOf (rs ++ rv1).toArray 0)] ++ cells4 L o4 o5 o6 o7) S3 F8 N8 (fun p => Iff.rfl)) ?_; refine cex1 ?_; rintro G4; refine cand5 ?_; rintro S4 gs4 fz4 N9 off4)
    have O4 : Off G4 (cells4 L o4 o5 o6 o7) := Off.cons (off4 (L + 1 + 1 + 1 + 1 + 1 + 1 + 1) (by walk_at "MINE offz") (O3 (L + 1 + 1 + 1 + 1 + 1 + 1 + 1, o7) (by k_mem))) (Off.cons (off4 (L + 1 + 1 + 1 + 1 + 1 + 1) (by walk_at "MINE offz") (O3 (L + 1 + 1 + 1 + 1 + 1 + 1, o6) (by k_mem))) (Off.cons (off4 (L + 1 + 1 + 1 + 1 + 1) (by walk_at "MINE offz") (O3 (L + 1 + 1 + 1 + 1 + 1, o5) (by k_mem))) (Off.cons (off4 (L + 1 + 1 + 1 + 1) (by walk_at "MINE offz") (O3 (L + 1 + 1 + 1 + 1, o4) (by k_mem))) (Off.nil))))
    have gs34 := StaysIn.trans gs3 gs4
    have hC := str_empty w G4 x3 (rs1 ++ rs2) (he ▸ hR3.mono gs34)
    refine str_use (news := cells4 L o4 o5 o6 o7) (hR3.mono gs34) hC rfl (by walk_at "MINE room") (by walk_at "MINE room") X T F8 N9 S4 O4 ?_
    intro t9 h9 tk9 G5 gs5 S5 O5 F9 N10
    have hlL : LL G5 D2 (rs ++ rv1 ++ rv2) := (LL.of (fz4 (D2, _) (.head _))).mono gs5
    have gs35 := StaysIn.trans gs34 gs5
    have hkL5 := hkL.mono gs35
    simp only [List.cons_append, List.nil_append] at N10
    clear hDL hRec1' hrL1' hRec2' hrL2' N8 fz4 off4
    dsimp only
    walk_at "GO"
    rename_i l9 h10 F10 N11 lt9
    exact ⟨h10, _, G5, _, rfl, S5, F10, fun p hp => N11 p (.tail _ hp), O5, gs35, ⟨⟨_, rfl⟩, ⟨x1, rfl, hR1.mono gs35⟩, ⟨x2, rfl, hR2.mono gs35⟩, ⟨x3, rfl, hR3.mono gs35⟩, ⟨x4, rfl, hR4.mono gs35⟩⟩, ⟨xk, kv, rfl, hkL.mono gs35, hkS⟩, ⟨xb, bv, rfl, hbL.mono gs35, hbS⟩⟩
theorem seg12b {o4 o5 o6 o7 : Obj} {t : Str} {us1 rs1 us2 rs2 : List Str} (hd : dp + 30 < recursionLimit) (hu : un + 400 < cLine) (X : (Mine.hd.heap_39 w.params).In B) (T : Top p loose mean mg mb B)
    (S : Gs B B G) (F : Fr B L h m) (N : News B L h (cells4 L o4 o5 o6 o7 ++ gl B G)) (O : Off G (cells4 L o4 o5 o6 o7)) (h6 : Six w G m t us1 rs1 us2 rs2) (ok1 : OkS us1) (ok2 : OkS us2)
    (z1 : us1.length ≤ 8 ∧ ∀ x ∈ us1, x.length ≤ 12) (z2 : us2.length ≤ 8 ∧ ∀ x ∈ us2, x.length ≤ 12) (z3 : rs1.length ≤ 8 ∧ ∀ x ∈ rs1, x.length ≤ 12) (z4 : rs2.length ≤ 8 ∧ ∀ x ∈ rs2, x.length ≤ 12) (hur : us1.length = rs1.length) (hur2 : us2.length = rs2.length) (he : both us1 us2 ≠ []) :
    wpAny (model PR w) (lawA dp fr gd un L fa cd) (execs ((lawBody.drop 15).take 2) (lawEnv L fa cd)) (fun f' s' => f' = .next ∧ St s B L (cells4 L o4 o5 o6 o7) (fun G' m' => G.StaysIn G' ∧ Six w G' m' t us1 rs1 us2 rs2) s') E { s with heap := h, toks := tk } := by
  show wpAny _ _ (execs [_, _] (envOfC _ { kind := _, names := _, isGenerator := _, isCoroutine := _, more := _ } _ _ _)) _ _ _
  (revert h6; refine cand3 ?_; rintro ⟨⟨tt, em⟩, ⟨x1, e1, hR1⟩, ⟨x2, e2, hR2⟩, ⟨x3, e3, hR3⟩, ⟨x4, e4, hR4⟩⟩ ⟨xk, kv, ek, hkL, hkS⟩; refine cex2 ?_; rintro xb bv; refine cand3 ?_; rintro eb hbL hbS)
  have okk : OkS (both us1 us2) := both_ok (by assumption)
  have hkb : (both us1 us2).length ≤ 8 := Nat.le_trans (List.length_filter_le _ _) z1.1
  have hks : ∀ x ∈ both us1 us2, x.length ≤ 12 := fun x hx => z1.2 x (List.mem_filter.mp hx).1
  have hkl := hkS.length
  have hre : rs1 ++ rs2 ≠ [] := fun e => he (by
    have h1 : rs1 = [] := (List.append_eq_nil_iff.mp e).1
    have h2 : us1 = [] := List.length_eq_zero_iff.mp (by rw [hur, h1]; rfl)
    rw [h2]; rfl)
  rw [m_see em, m_see e1, m_see e2, m_see e3, m_see e4, m_see ek, m_see eb] at F
  simp only [List.cons_append, List.nil_append] at N
  (refine impApp (id hR1) ?_; refine cex5 ?_; rintro x' u1 r1 uv1 rv1; refine cand6 ?_; rintro q1 hRec1 huL1 huS1 hrL1 hrS1)
  cases q1
  (refine impApp (id hR2) ?_; refine cex5 ?_; rintro x' u2 r2 uv2 rv2; refine cand6 ?_; rintro q2 hRec2 huL2 huS2 hrL2 hrS2)
  cases q2
  have hrl1 := hrS1.length
  have hrl2 := hrS2.length
  walk_at "MINE fill"
  (try dsimp only); (try k_fold)
  walk_at "GO"
  unfold CompIn
  refine src_list (news := cells4 L o4 o5 o6 o7) rfl hkL.isList S F N ?_
  intro I h2 fp Stt C0 F3 N3 st3
  have Xc : (Mine.hd.heap_39 w.params).In (less h2 I) := (X.keeps F.keep).keeps st3
  have Tc : Top p loose mean mg mb (less h2 I) := (T.keeps F.keep).keeps st3
  refine comp1_val (L := L) rfl C0 (fun i G' rs => G' = G ∧ StrsAre rs (((both us1 us2).take i).map (uaS ++ ·))) S F3 N3 O ⟨rfl, .nil⟩ ?len ?turn ?done
  case len =>
    rintro i G' rs ⟨rfl, hrs⟩
    rw [hrs.length, sizeLine_eq, List.length_map, List.length_take]; (first | lia | omega)
  case turn =>
    rintro i v C D2 Gi mi rs kk h5 tk5 oI E₁ hi hv ⟨rfl, hrs⟩ Si gi F5 N5 O5
    simp only [List.cons_append, List.nil_append] at N5
    dsimp only at F5 N5 ⊢
    (refine impApp (strsAre_at hkS i v hv) ?_; refine cex2 ?_; rintro y ty; refine cand2 ?_; rintro rfl hy)
    have hyl := hks y (List.mem_of_getElem? hy)
    walk_at "GO"
    rename_i h6 F6 N6 t6 k6 le6
    refine ⟨_, _, Gi, _, rfl, Si, StaysIn.refl _, F6, N6, O5, rfl, ?_⟩
    rw [List.take_add_one, hy, List.map_append]
    exact strsAre_append hrs (.cons _ _ .nil)
  case done =>
    rintro D3 Gn G3 rs kk h5 tk5 ⟨rfl, hrs⟩ gst hD3 gs3 S3 O3 F5 N5
    rw [hkS.length, List.take_length] at hrs
    have hDL : LL G3 D3 rs := LL.of hD3
    have hRec1' := hRec1.mono gs3
    have hrL1' := hrL1.mono gs3
    have hRec2' := hRec2.mono gs3
    have hrL2' := hrL2.mono gs3
    have hrsl := hrs.length
    rw [List.length_map] at hrsl
    clear hRec1 hrL1 hRec2 hrL2 C0 F3 N3 F N
    simp only [List.cons_append, List.nil_append] at N5
    dsimp only
    walk_at "GOX"
    rename_i D1 h6 lD1 D2 h7 lD2 h8 F8 N8
    (refine impApp (freezes [(D2, listOf (rs ++ rv1 ++ rv2).toArray 0), (D1, listOf (rs ++ rv1).toArray 0)] (cells4 L o4 o5 o6 o7) (news := [(D2, listOf (rs ++ rv1 ++ rv2).toArray 0), (D1, listOf (rs ++ rv1).toArray 0)] ++ cells4 L o4 o5 o6 o7) S3 F8 N8 (fun p => Iff.rfl)) ?_; refine cex1 ?_; rintro G4; refine cand5 ?_; rintro S4 gs4 fz4 N9 off4)
    have O4 : Off G4 (cells4 L o4 o5 o6 o7) := Off.cons (off4 (L + 1 + 1 + 1 + 1 + 1 + 1 + 1) (by walk_at "MINE offz") (O3 (L + 1 + 1 + 1 + 1 + 1 + 1 + 1, o7) (by k_mem))) (Off.cons (off4 (L + 1 + 1 + 1 + 1 + 1 + 1) (by walk_at "MINE offz") (O3 (L + 1 + 1 + 1 + 1 + 1 + 1, o6) (by k_mem))) (Off.cons (off4 (L + 1 + 1 + 1 + 1 + 1) (by walk_at "MINE offz") (O3 (L + 1 + 1 + 1 + 1 + 1, o5) (by k_mem))) (Off.cons (off4 (L + 1 + 1 + 1 + 1) (by walk_at "MINE offz") (O3 (L + 1 + 1 + 1 + 1, o4) (by k_mem))) (Off.nil))))
    have gs34 := StaysIn.trans gs3 gs4
    have hC : Pure w G4 42 [.ref x3] 3 40 (fun _ v => ∃ t, v = .str (Txt.join (Str.ofString "\n") ((both us1 us2).map (uaS ++ ·) ++ (rs1 ++ rs2))) t) := str_full w G4 x3 (both us1 us2) (rs1 ++ rs2) (hR3.mono gs34) he hre (by (first | lia | omega)) (by rw [List.length_append]; have := z3.1; have := z4.1; (first | lia | omega)) (fun x hx => by have := hks x hx; (first | lia | omega)) (fun x hx => by rcases List.mem_append.mp hx with hx | hx; (have := z3.2 x hx; (first | lia | omega)); (have := z4.2 x hx; (first | lia | omega)))
    refine str_use (news := cells4 L o4 o5 o6 o7) (hR3.mono gs34) hC rfl (by walk_at "MINE room") (by walk_at "MINE room") X T F8 N9 S4 O4 ?_
    intro t9 h9 tk9 G5 gs5 S5 O5 F9 N10
    have hll : StrsAre (rs ++ rv1 ++ rv2) ((both us1 us2).map (uaS ++ ·) ++ (rs1 ++ rs2)) := by
      rw [← List.append_assoc]; exact strsAre_append (strsAre_append hrs hrS1) hrS2
    have hWt : Wt ((both us1 us2).map (uaS ++ ·) ++ (rs1 ++ rs2)) := by
      refine wt_of_len (c := 200) (fun y hy => ?_) (by simp only [List.length_append, List.length_map]; have := z3.1; have := z4.1; (first | lia | omega))
      rcases List.mem_append.mp hy with hy | hy
      · (refine impApp (List.mem_map.mp hy) ?_; refine cex1 ?_; rintro a; refine cand2 ?_; rintro ha rfl)
        have := hks a ha
        rw [Str.length_append]
        have : uaS.length = 12 := by decide +kernel
        (first | lia | omega)
      · rcases List.mem_append.mp hy with hy | hy
        · have := z3.2 y hy; (first | lia | omega)
        · have := z4.2 y hy; (first | lia | omega)
    have hlL : LL G5 D2 (rs ++ rv1 ++ rv2) := (LL.of (fz4 (D2, _) (.head _))).mono gs5
    have gs35 := StaysIn.trans gs34 gs5
    have hkL5 := hkL.mono gs35
    simp only [List.cons_append, List.nil_append] at N10
    clear hDL hRec1' hrL1' hRec2' hrL2' N8 fz4 off4
    dsimp only
    walk_at "GO"
    rename_i l9 h10 F10 N11 lt9 t10 k10
    exact ⟨h10, _, G5, _, rfl, S5, F10, fun p hp => N11 p (.tail _ hp), O5, gs35, ⟨⟨_, rfl⟩, ⟨x1, rfl, hR1.mono gs35⟩, ⟨x2, rfl, hR2.mono gs35⟩, ⟨x3, rfl, hR3.mono gs35⟩, ⟨x4, rfl, hR4.mono gs35⟩⟩, ⟨xk, kv, rfl, hkL.mono gs35, hkS⟩, ⟨xb, bv, rfl, hbL.mono gs35, hbS⟩⟩
theorem seg13a {o4 o5 o6 o7 : Obj} {t : Str} {us1 rs1 us2 rs2 : List Str} (hd : dp + 30 < recursionLimit) (hu : un + 400 < cLine) (X : (Mine.hd.heap_39 w.params).In B) (T : Top p loose mean mg mb B)
    (S : Gs B B G) (F : Fr B L h m) (N : News B L h (cells4 L o4 o5 o6 o7 ++ gl B G)) (O : Off G (cells4 L o4 o5 o6 o7)) (h6 : Six w G m t us1 rs1 us2 rs2) (ok1 : OkS us1) (ok2 : OkS us2)
    (z1 : us1.length ≤ 8 ∧ ∀ x ∈ us1, x.length ≤ 12) (z2 : us2.length ≤ 8 ∧ ∀ x ∈ us2, x.length ≤ 12) (z3 : rs1.length ≤ 8 ∧ ∀ x ∈ rs1, x.length ≤ 12) (z4 : rs2.length ≤ 8 ∧ ∀ x ∈ rs2, x.length ≤ 12) (hur : us1.length = rs1.length) (hur2 : us2.length = rs2.length) (he : both us2 us1 = []) :
    wpAny (model PR w) (lawA dp fr gd un L fa cd) (execs ((lawBody.drop 17).take 2) (lawEnv L fa cd)) (fun f' s' => f' = .next ∧ St s B L (cells4 L o4 o5 o6 o7) (fun G' m' => G.StaysIn G' ∧ Six w G' m' t us1 rs1 us2 rs2) s') E { s with heap := h, toks := tk } := by
  show wpAny _ _ (execs [_, _] (envOfC _ { kind := _, names := _, isGenerator := _, isCoroutine := _, more := _ } _ _ _)) _ _ _
  (revert h6; refine cand3 ?_; rintro ⟨⟨tt, em⟩, ⟨x1, e1, hR1⟩, ⟨x2, e2, hR2⟩, ⟨x3, e3, hR3⟩, ⟨x4, e4, hR4⟩⟩ ⟨xk, kv, ek, hkL, hkS⟩; refine cex2 ?_; rintro xb bv; refine cand3 ?_; rintro eb hbL hbS)
  have okk : OkS (both us2 us1) := both_ok (by assumption)
  have hkb : (both us2 us1).length ≤ 8 := Nat.le_trans (List.length_filter_le _ _) z2.1
  have hks : ∀ x ∈ both us2 us1, x.length ≤ 12 := fun x hx => z2.2 x (List.mem_filter.mp hx).1
  have hkl := hbS.length
  rw [m_see em, m_see e1, m_see e2, m_see e3, m_see e4, m_see ek, m_see eb] at F
  simp only [List.cons_append, List.nil_append] at N
  (refine impApp (id hR2) ?_; refine cex5 ?_; rintro x' u1 r1 uv1 rv1; refine cand6 ?_; rintro q1 hRec1 huL1 huS1 hrL1 hrS1)
  cases q1
  (refine impApp (id hR1) ?_; refine cex5 ?_; rintro x' u2 r2 uv2 rv2; refine cand6 ?_; rintro q2 hRec2 huL2 huS2 hrL2 hrS2)
  cases q2
  have hrl1 := hrS1.length
  have hrl2 := hrS2.length
  walk_at "MINE fill"
  (try dsimp only); (try k_fold)
  walk_at "GO"
  unfold CompIn
  refine src_list (news := cells4 L o4 o5 o6 o7) rfl hbL.isList S F N ?_
  intro I h2 fp Stt C0 F3 N3 st3
  have Xc : (Mine.hd.heap_39 w.params).In (less h2 I) := (X.keeps F.keep).keeps st3
  have Tc : Top p loose mean mg mb (less h2 I) := (T.keeps F.keep).keeps st3
  refine comp1_val (L := L) rfl C0 (fun i G' rs => G' = G ∧ StrsAre rs (((both us2 us1).take i).map (uaS ++ ·))) S F3 N3 O ⟨rfl, .nil⟩ ?len ?turn ?done
  case len =>
    rintro i G' rs ⟨rfl, hrs⟩
    rw [hrs.length, sizeLine_eq, List.length_map, List.length_take]; (first | lia | omega)
  case turn =>
    rintro i v C D2 Gi mi rs kk h5 tk5 oI E₁ hi hv ⟨rfl, hrs⟩ Si gi F5 N5 O5
    simp only [List.cons_append, List.nil_append] at N5
    dsimp only at F5 N5 ⊢
    (refine impApp (strsAre_at hbS i v hv) ?_; refine cex2 ?_; rintro y ty; refine cand2 ?_; rintro rfl hy)
    have hyl := hks y (List.mem_of_getElem? hy)
    walk_at "GO"
    rename_i h6 F6 N6 t6 k6 le6
    refine ⟨_, _, Gi, _, rfl, Si, StaysIn.refl _, F6, N6, O5, rfl, ?_⟩
    rw [List.take_add_one, hy, List.map_append]
    exact strsAre_append hrs (.cons _ _ .nil)
  case done =>
    rintro D3 Gn G3 rs kk h5 tk5 ⟨rfl, hrs⟩ gst hD3 gs3 S3 O3 F5 N5
    rw [hbS.length, List.take_length] at hrs
    have hDL : LL G3 D3 rs := LL.of hD3
    have hRec1' := hRec1.mono gs3
    have hrL1' := hrL1.mono gs3
    have hRec2' := hRec2.mono gs3
    have hrL2' := hrL2.mono gs3
    have hrsl := hrs.length
    rw [List.length_map] at hrsl
    clear hRec1 hrL1 hRec2 hrL2 C0 F3 N3 F N
    simp only [List.cons_append, List.nil_append] at N5
    dsimp only
    walk_at "GOX"
    rename_i D1 h6 lD1 D2 h7 lD2 h8 F8 N8
    (refine impApp (freezes [(D2, listOf (rs ++ rv1 ++ rv2).toArray 0), (D1, listOf (rs ++ rv1).toArray 0)] (cells4 L o4 o5 o6 o7) (news := [(D2, listOf (rs ++ rv1 ++ rv2).toArray 0), (D1, listOf (rs ++ rv1).toArray 0)] ++ cells4 L o4 o5 o6 o7) S3 F8 N8 (fun p => Iff.rfl)) ?_; refine cex1 ?_; rintro G4; refine cand5 ?_; rintro S4 gs4 fz4 N9 off4)
    have O4 : Off G4 (cells4 L o4 o5 o6 o7) := Off.cons (off4 (L + 1 + 1 + 1 + 1 + 1 + 1 + 1) (by walk_at "MINE offz") (O3 (L + 1 + 1 + 1 + 1 + 1 + 1 + 1, o7) (by k_mem))) (Off.cons (off4 (L + 1 + 1 + 1 + 1 + 1 + 1) (by walk_at "MINE offz") (O3 (L + 1 + 1 + 1 + 1 + 1 + 1, o6) (by k_mem))) (Off.cons (off4 (L + 1 + 1 + 1 + 1 + 1) (by walk_at "MINE offz") (O3 (L + 1 + 1 + 1 + 1 + 1, o5) (by k_mem))) (Off.cons (off4 (L + 1 + 1 + 1 + 1) (by walk_at "MINE offz") (O3 (L + 1 + 1 + 1 + 1, o4) (by k_mem))) (Off.nil))))
    have gs34 := StaysIn.trans gs3 gs4
    have hC := str_empty w G4 x4 (rs2 ++ rs1) (he ▸ hR4.mono gs34)
    refine str_use (news := cells4 L o4 o5 o6 o7) (hR4.mono gs34) hC rfl (by walk_at "MINE room") (by walk_at "MINE room") X T F8 N9 S4 O4 ?_
    intro t9 h9 tk9 G5 gs5 S5 O5 F9 N10
    have hlL : LL G5 D2 (rs ++ rv1 ++ rv2) := (LL.of (fz4 (D2, _) (.head _))).mono gs5
    have gs35 := StaysIn.trans gs34 gs5
    have hkL5 := hbL.mono gs35
    simp only [List.cons_append, List.nil_append] at N10
    clear hDL hRec1' hrL1' hRec2' hrL2' N8 fz4 off4
    dsimp only
    walk_at "GO"
    rename_i l9 h10 F10 N11 lt9
    exact ⟨h10, _, G5, _, rfl, S5, F10, fun p hp => N11 p (.tail _ hp), O5, gs35, ⟨⟨_, rfl⟩, ⟨x1, rfl, hR1.mono gs35⟩, ⟨x2, rfl, hR2.mono gs35⟩, ⟨x3, rfl, hR3.mono gs35⟩, ⟨x4, rfl, hR4.mono gs35⟩⟩, ⟨xk, kv, rfl, hkL.mono gs35, hkS⟩, ⟨xb, bv, rfl, hbL.mono gs35, hbS⟩⟩
theorem seg13b {o4 o5 o6 o7 : Obj} {t : Str} {us1 rs1 us2 rs2 : List Str} (hd : dp + 30 < recursionLimit) (hu : un + 400 < cLine) (X : (Mine.hd.heap_39 w.params).In B) (T : Top p loose mean mg mb B)
    (S : Gs B B G) (F : Fr B L h m) (N : News B L h (cells4 L o4 o5 o6 o7 ++ gl B G)) (O : Off G (cells4 L o4 o5 o6 o7)) (h6 : Six w G m t us1 rs1 us2 rs2) (ok1 : OkS us1) (ok2 : OkS us2)
    (z1 : us1.length ≤ 8 ∧ ∀ x ∈ us1, x.length ≤ 12) (z2 : us2.length ≤ 8 ∧ ∀ x ∈ us2, x.length ≤ 12) (z3 : rs1.length ≤ 8 ∧ ∀ x ∈ rs1, x.length ≤ 12) (z4 : rs2.length ≤ 8 ∧ ∀ x ∈ rs2, x.length ≤ 12) (hur : us1.length = rs1.length) (hur2 : us2.length = rs2.length) (he : both us2 us1 ≠ []) :
    wpAny (model PR w) (lawA dp fr gd un L fa cd) (execs ((lawBody.drop 17).take 2) (lawEnv L fa cd)) (fun f' s' => f' = .next ∧ St s B L (cells4 L o4 o5 o6 o7) (fun G' m' => G.StaysIn G' ∧ Six w G' m' t us1 rs1 us2 rs2) s') E { s with heap := h, toks := tk } := by
  show wpAny _ _ (execs [_, _] (envOfC _ { kind := _, names := _, isGenerator := _, isCoroutine := _, more := _ } _ _ _)) _ _ _
  (revert h6; refine cand3 ?_; rintro ⟨⟨tt, em⟩, ⟨x1, e1, hR1⟩, ⟨x2, e2, hR2⟩, ⟨x3, e3, hR3⟩, ⟨x4, e4, hR4⟩⟩ ⟨xk, kv, ek, hkL, hkS⟩; refine cex2 ?_; rintro xb bv; refine cand3 ?_; rintro eb hbL hbS)
  have okk : OkS (both us2 us1) := both_ok (by assumption)
  have hkb : (both us2 us1).length ≤ 8 := Nat.le_trans (List.length_filter_le _ _) z2.1
  have hks : ∀ x ∈ both us2 us1, x.length ≤ 12 := fun x hx => z2.2 x (List.mem_filter.mp hx).1
  have hkl := hbS.length
  have hre : rs2 ++ rs1 ≠ [] := fun e => he (by
    have h1 : rs2 = [] := (List.append_eq_nil_iff.mp e).1
    have h2 : us2 = [] := List.length_eq_zero_iff.mp (by rw [hur2, h1]; rfl)
    rw [h2]; rfl)
  rw [m_see em, m_see e1, m_see e2, m_see e3, m_see e4, m_see ek, m_see eb] at F
  simp only [List.cons_append, List.nil_append] at N
  (refine impApp (id hR2) ?_; refine cex5 ?_; rintro x' u1 r1 uv1 rv1; refine cand6 ?_; rintro q1 hRec1 huL1 huS1 hrL1 hrS1)
  cases q1
  (refine impApp (id hR1) ?_; refine cex5 ?_; rintro x' u2 r2 uv2 rv2; refine cand6 ?_; rintro q2 hRec2 huL2 huS2 hrL2 hrS2)
  cases q2
  have hrl1 := hrS1.length
  have hrl2 := hrS2.length
  walk_at "MINE fill"
  (try dsimp only); (try k_fold)
  walk_at "GO"
  unfold CompIn
  refine src_list (news := cells4 L o4 o5 o6 o7) rfl hbL.isList S F N ?_
  intro I h2 fp Stt C0 F3 N3 st3
  have Xc : (Mine.hd.heap_39 w.params).In (less h2 I) := (X.keeps F.keep).keeps st3
  have Tc : Top p loose mean mg mb (less h2 I) := (T.keeps F.keep).keeps st3
  refine comp1_val (L := L) rfl C0 (fun i G' rs => G' = G ∧ StrsAre rs (((both us2 us1).take i).map (uaS ++ ·))) S F3 N3 O ⟨rfl, .nil⟩ ?len ?turn ?done
  case len =>
    rintro i G' rs ⟨rfl, hrs⟩
    rw [hrs.length, sizeLine_eq, List.length_map, List.length_take]; (first | lia | omega)
  case turn =>
    rintro i v C D2 Gi mi rs kk h5 tk5 oI E₁ hi hv ⟨rfl, hrs⟩ Si gi F5 N5 O5
    simp only [List.cons_append, List.nil_append] at N5
    dsimp only at F5 N5 ⊢
    (refine impApp (strsAre_at hbS i v hv) ?_; refine cex2 ?_; rintro y ty; refine cand2 ?_; rintro rfl hy)
    have hyl := hks y (List.mem_of_getElem? hy)
    walk_at "GO"
    rename_i h6 F6 N6 t6 k6 le6
    refine ⟨_, _, Gi, _, rfl, Si, StaysIn.refl _, F6, N6, O5, rfl, ?_⟩
    rw [List.take_add_one, hy, List.map_append]
    exact strsAre_append hrs (.cons _ _ .nil)
  case done =>
    rintro D3 Gn G3 rs kk h5 tk5 ⟨rfl, hrs⟩ gst hD3 gs3 S3 O3 F5 N5
    rw [hbS.length, List.take_length] at hrs
    have hDL : LL G3 D3 rs := LL.of hD3
    have hRec1' := hRec1.mono gs3
    have hrL1' := hrL1.mono gs3
    have hRec2' := hRec2.mono gs3
    have hrL2' := hrL2.mono gs3
    have hrsl := hrs.length
    rw [List.length_map] at hrsl
    clear hRec1 hrL1 hRec2 hrL2 C0 F3 N3 F N
    simp only [List.cons_append, List.nil_append] at N5
    dsimp only
    walk_at "GOX"
    rename_i D1 h6 lD1 D2 h7 lD2 h8 F8 N8
    (refine impApp (freezes [(D2, listOf (rs ++ rv1 ++ rv2).toArray 0), (D1, listOf (rs ++ rv1).toArray 0)] (cells4 L o4 o5 o6 o7) (news := [(D2, listOf (rs ++ rv1 ++ rv2).toArray 0), (D1, listOf (rs ++ rv1).toArray 0)] ++ cells4 L o4 o5 o6 o7) S3 F8 N8 (fun p => Iff.rfl)) ?_; refine cex1 ?_; rintro G4; refine cand5 ?_; rintro S4 gs4 fz4 N9 off4)
    have O4 : Off G4 (cells4 L o4 o5 o6 o7) := Off.cons (off4 (L + 1 + 1 + 1 + 1 + 1 + 1 + 1) (by walk_at "MINE offz") (O3 (L + 1 + 1 + 1 + 1 + 1 + 1 + 1, o7) (by k_mem))) (Off.cons (off4 (L + 1 + 1 + 1 + 1 + 1 + 1) (by walk_at "MINE offz") (O3 (L + 1 + 1 + 1 + 1 + 1 + 1, o6) (by k_mem))) (Off.cons (off4 (L + 1 + 1 + 1 + 1 + 1) (by walk_at "MINE offz") (O3 (L + 1 + 1 + 1 + 1 + 1, o5) (by k_mem))) (Off.cons (off4 (L + 1 + 1 + 1 + 1) (by walk_at "MINE offz") (O3 (L + 1 + 1 + 1 + 1, o4) (by k_mem))) (Off.nil))))
    have gs34 := StaysIn.trans gs3 gs4
    have hC : Pure w G4 42 [.ref x4] 3 40 (fun _ v => ∃ t, v = .str (Txt.join (Str.ofString "\n") ((both us2 us1).map (uaS ++ ·) ++ (rs2 ++ rs1))) t) := str_full w G4 x4 (both us2 us1) (rs2 ++ rs1) (hR4.mono gs34) he hre (by (first | lia | omega)) (by rw [List.length_append]; have := z4.1; have := z3.1; (first | lia | omega)) (fun x hx => by have := hks x hx; (first | lia | omega)) (fun x hx => by rcases List.mem_append.mp hx with hx | hx; (have := z4.2 x hx; (first | lia | omega)); (have := z3.2 x hx; (first | lia | omega)))
    refine str_use (news := cells4 L o4 o5 o6 o7) (hR4.mono gs34) hC rfl (by walk_at "MINE room") (by walk_at "MINE room") X T F8 N9 S4 O4 ?_
    intro t9 h9 tk9 G5 gs5 S5 O5 F9 N10
    have hll : StrsAre (rs ++ rv1 ++ rv2) ((both us2 us1).map (uaS ++ ·) ++ (rs2 ++ rs1)) := by
      rw [← List.append_assoc]; exact strsAre_append (strsAre_append hrs hrS1) hrS2
    have hWt : Wt ((both us2 us1).map (uaS ++ ·) ++ (rs2 ++ rs1)) := by
      refine wt_of_len (c := 200) (fun y hy => ?_) (by simp only [List.length_append, List.length_map]; have := z4.1; have := z3.1; (first | lia | omega))
      rcases List.mem_append.mp hy with hy | hy
      · (refine impApp (List.mem_map.mp hy) ?_; refine cex1 ?_; rintro a; refine cand2 ?_; rintro ha rfl)
        have := hks a ha
        rw [Str.length_append]
        have : uaS.length = 12 := by decide +kernel
        (first | lia | omega)
      · rcases List.mem_append.mp hy with hy | hy
        · have := z4.2 y hy; (first | lia | omega)
        · have := z3.2 y hy; (first | lia | omega)
    have hlL : LL G5 D2 (rs ++ rv1 ++ rv2) := (LL.of (fz4 (D2, _) (.head _))).mono gs5
    have gs35 := StaysIn.trans gs34 gs5
    have hkL5 := hbL.mono gs35
    simp only [List.cons_append, List.nil_append] at N10
    clear hDL hRec1' hrL1' hRec2' hrL2' N8 fz4 off4
    dsimp only
    walk_at "GO"
    rename_i l9 h10 F10 N11 lt9 t10 k10
    exact ⟨h10, _, G5, _, rfl, S5, F10, fun p hp => N11 p (.tail _ hp), O5, gs35, ⟨⟨_, rfl⟩, ⟨x1, rfl, hR1.mono gs35⟩, ⟨x2, rfl, hR2.mono gs35⟩, ⟨x3, rfl, hR3.mono gs35⟩, ⟨x4, rfl, hR4.mono gs35⟩⟩, ⟨xk, kv, rfl, hkL.mono gs35, hkS⟩, ⟨xb, bv, rfl, hbL.mono gs35, hbS⟩⟩
end
/-! part Pl4 -/
/-! ## plain law: who applies -/
def lowC (c : Nat) : Nat := if c = 65 then 97 else c
def Sign (c : Nat) : Prop := c = 42 ∨ c = 61 ∨ c = 97 ∨ c = 65 ∨ c = 47
theorem lower_sign {c : Nat} (h : Sign c) : Unicode.lowerOf c = [lowC c] ∧ (c == 0x3A3) = false := by
  rcases h with rfl | rfl | rfl | rfl | rfl
  · exact ⟨by decide +kernel, by decide⟩
  · exact ⟨by decide +kernel, by decide⟩
  · exact ⟨by decide +kernel, by decide⟩
  · exact ⟨by decide +kernel, by decide⟩
  · exact ⟨by decide +kernel, by decide⟩
theorem lower_tl {x : Str} (h : ∀ c ∈ tl x, Sign c) : tl (Txt.lower x) = (tl x).map lowC := by
  obtain ⟨xs⟩ := x
  show (xs.mapIdx fun i _ => (Unicode.lowerAt xs i).toArray).flatten.toList = xs.toList.map lowC
  have e : (xs.mapIdx fun i _ => (Unicode.lowerAt xs i).toArray) = xs.map fun c => #[lowC c] := by
    apply Array.ext
    · simp
    · intro i h1 h2
      simp only [Array.size_mapIdx] at h1
      have hs : Sign xs[i] := h _ (by simp [tl])
      obtain ⟨l1, l2⟩ := lower_sign hs
      simp only [Array.getElem_mapIdx, Array.getElem_map, Unicode.lowerAt, Array.getElem?_eq_getElem h1, l2, Bool.false_and, Bool.false_eq_true, if_false, l1]
  rw [e, Array.toList_flatten]
  simp only [Array.toList_map, List.map_map]
  induction xs.toList with
  | nil => rfl
  | cons a r ih => simp only [List.map_cons, List.flatten_cons, ih]; rfl
/-- a sign for another in a joined text -/
theorem join_swap (a b : Nat) : ∀ parts : List Str, (∀ p ∈ parts, a ∉ tl p) → tl (Str.join ⟨#[b]⟩ parts) = (tl (Str.join ⟨#[a]⟩ parts)).map fun c => if c = a then b else c
  | [], _ => rfl
  | [p], h => by
    show tl p = (tl p).map _
    have := h p (.head _)
    conv => lhs; rw [← List.map_id (tl p)]
    refine List.map_congr_left fun c hc => ?_
    rw [if_neg (show ¬ c = a from fun e => this (e ▸ hc))]; rfl
  | p :: q :: r, h => by
    have ih := join_swap a b (q :: r) fun x hx => h x (.tail _ hx)
    have hp : (tl p).map (fun c => if c = a then b else c) = tl p := by
      have := h p (.head _)
      conv => rhs; rw [← List.map_id (tl p)]
      refine List.map_congr_left fun c hc => ?_
      rw [if_neg (show ¬ c = a from fun e => this (e ▸ hc))]; rfl
    show tl (p ++ ⟨#[b]⟩ ++ Str.join ⟨#[b]⟩ (q :: r)) = (tl (p ++ ⟨#[a]⟩ ++ Str.join ⟨#[a]⟩ (q :: r))).map _
    simp only [tl, Str.cps_append, Array.toList_append, List.map_append] at ih hp ⊢
    rw [ih, hp]
    simp
def lowOf (t : Str) : Str := Txt.replace t (Str.ofString "A") (Str.ofString "a")
theorem low_tl (t : Str) : tl (lowOf t) = (tl t).map lowC := by
  unfold lowOf
  have hA : Str.ofString "A" = ⟨#[65]⟩ := by decide +kernel
  have ha : Str.ofString "a" = ⟨#[97]⟩ := by decide +kernel
  rw [hA, ha, StrLaws.replace_one, join_swap 65 97 _ (StrLaws.split_free t 65), StrLaws.join_split]
  rfl
theorem low_len (t : Str) : (lowOf t).length = t.length := by rw [← tl_len, low_tl, List.length_map, tl_len]
/-! the stop -/
theorem stop_spec {t : Str} (ht : txtOk t) {place : Nat} (hp : place ≤ 6) : ∃ k : Nat, Txt.find3 (t ++ Str.ofString "/") (Str.ofString "/") (place : Int) = (k : Int) ∧ place ≤ k ∧ k ≤ 6 ∧ (∀ i, place ≤ i → i < k → (tl t)[i]? ≠ some 47) ∧ (k = 6 ∨ (tl t)[k]? = some 47) := by
  have hs : Str.ofString "/" = ⟨#[47]⟩ := by decide +kernel
  have hl : (tl t).length = 6 := by rw [tl_len]; exact ht.1
  have hx : (t ++ Str.ofString "/").length = 7 := by rw [Str.length_append, ht.1]; decide +kernel
  have hxt : tl (t ++ Str.ofString "/") = tl t ++ [47] := by rw [hs]; simp [tl, Str.cps_append]
  have hf : fromIndex (t ++ Str.ofString "/").length (place : Int) = place := by
    unfold fromIndex; rw [if_neg (by (first | lia | omega))]; (first | lia | omega)
  rw [hs] at *
  rcases StrLaws.find3_spec (t ++ ⟨#[47]⟩) 47 (place : Int) with ⟨_, hn⟩ | ⟨k, e, h1, h2, h3, h4⟩
  · exfalso
    refine hn 6 (by rw [hf]; exact hp) (by rw [hx]; decide) ?_
    refine StrLaws.getD_of_getElem? ?_
    show (tl (t ++ ⟨#[47]⟩))[6]? = some 47
    rw [hxt, List.getElem?_append_right (by (first | lia | omega)), hl]; rfl
  · rw [hf] at h1 h4
    rw [hx] at h2
    have hk := StrLaws.getElem?_of_getD (by rw [hx]; (first | lia | omega)) h3
    change (tl (t ++ ⟨#[47]⟩))[k]? = some 47 at hk
    rw [hxt] at hk
    refine ⟨k, e, h1, by (first | lia | omega), fun i hi1 hi2 he => ?_, ?_⟩
    · refine h4 i hi1 hi2 (StrLaws.getD_of_getElem? ?_)
      show (tl (t ++ ⟨#[47]⟩))[i]? = some 47
      rw [hxt, List.getElem?_append_left (by (first | lia | omega))]; exact he
    · by_cases h6 : k = 6
      · exact .inl h6
      · rw [List.getElem?_append_left (by (first | lia | omega))] at hk
        exact .inr hk
theorem cut_unique {l a b : List Nat} {k : Nat} (e : l = a ++ b) (ha : 47 ∉ a) (hb : b = [] ∨ ∃ r, b = 47 :: r) (hk : k ≤ l.length) (h1 : ∀ i, i < k → l[i]? ≠ some 47) (h2 : k = l.length ∨ l[k]? = some 47) : a = l.take k := by
  have hlen : a.length = k := by
    rcases Nat.lt_trichotomy a.length k with h | h | h
    · exfalso
      rcases hb with rfl | ⟨r, rfl⟩
      · rw [e] at hk; simp at hk; (first | lia | omega)
      · refine h1 a.length h ?_
        rw [e, List.getElem?_append_right (Nat.le_refl _)]; simp
    · exact h
    · exfalso
      rcases h2 with h2 | h2
      · rw [e, List.length_append] at h2; (first | lia | omega)
      · rw [e, List.getElem?_append_left h] at h2
        exact ha (List.mem_of_getElem? h2)
  rw [e, ← hlen]; simp
theorem slice_from_tl (x : Str) {p : Nat} (hp : p ≤ x.length) : tl (Txt.slice x (some (p : Int)) none) = (tl x).drop p := by
  have e : Txt.slice x (some (p : Int)) none = Txt.slice x (some (p : Int)) (some ((p : Int) + ((x.length - p : Nat) : Int))) := by
    unfold Txt.slice
    rw [StrLaws.sliceIdx_none_hi, show (p : Int) + ((x.length - p : Nat) : Int) = (x.length : Int) by (first | lia | omega)]
  rw [e, slice_tl, List.take_of_length_le]
  rw [List.length_drop, tl_len]; exact Nat.le_refl _
theorem head_tl {t : Str} (ht : txtOk t) {place k : Nat} (hp : place ≤ 6) (h1 : place ≤ k) (h6 : k ≤ 6) (h2 : ∀ i, place ≤ i → i < k → (tl t)[i]? ≠ some 47) (h3 : k = 6 ∨ (tl t)[k]? = some 47) :
    tl (headF (Txt.slice t (some (place : Int)) none)) = ((tl t).drop place).take (k - place) := by
  have hs : Str.ofString "/" = ⟨#[47]⟩ := by decide +kernel
  have hl : (tl t).length = 6 := by rw [tl_len]; exact ht.1
  have hx := slice_from_tl t (p := place) (by rw [ht.1]; exact hp)
  generalize Txt.slice t (some (place : Int)) none = x at hx ⊢
  unfold headF
  rw [hs]
  have hj := StrLaws.join_split x ⟨#[47]⟩
  have hfr := StrLaws.split_free x 47
  have hnil : Txt.split x ⟨#[47]⟩ ≠ [] := by
    unfold Txt.split
    split
    · simp
    · split
      · simp
      · rw [StrLaws.partsBetween_eq]
        (refine impApp (StrLaws.partsFrom_ne x (⟨#[47]⟩ : Str).length 0 (Builtin.Str.occurrences x ⟨#[47]⟩ 0 x.length (x.length + 1))) ?_; refine cex2 ?_; rintro p r e)
        rw [e]; simp
  cases hsp : Txt.split x ⟨#[47]⟩ with
  | nil => exact absurd hsp hnil
  | cons p0 r =>
    rw [hsp] at hj hfr
    show tl p0 = _
    rw [← hx]
    refine cut_unique (b := if r = [] then [] else 47 :: tl (Str.join ⟨#[47]⟩ r)) ?_ (hfr p0 (.head _)) ?_ (by rw [hx, List.length_drop]; (first | lia | omega)) (fun i hi => ?_) ?_
    · rw [← hj]
      cases r with
      | nil => simp [Str.join]
      | cons q r =>
        show tl (p0 ++ ⟨#[47]⟩ ++ Str.join ⟨#[47]⟩ (q :: r)) = _
        rw [if_neg (by simp)]
        simp [tl, Str.cps_append]
    · by_cases hr : r = []
      · rw [if_pos hr]; exact .inl rfl
      · rw [if_neg hr]; exact .inr ⟨_, rfl⟩
    · rw [hx, List.getElem?_drop]; exact h2 _ (by (first | lia | omega)) (by (first | lia | omega))
    · rw [hx, List.length_drop, List.getElem?_drop]
      rcases h3 with rfl | h3
      · left; (first | lia | omega)
      · right; rw [show place + (k - place) = k by (first | lia | omega)]; exact h3
/-! the words' signs -/
theorem wholeE_piece {ch : List (List Str)} (h : ∀ r ∈ ch, ∀ x ∈ r, ∃ k, x = pieceOf k) : ∀ l : List Int, ∀ r ∈ wholeE ch l, ∀ x ∈ r, ∃ k, x = pieceOf k
  | [], r, hr => by
    rw [wholeE, List.mem_singleton] at hr
    subst hr; intro x hx; cases hx
  | f :: l, r, hr => by
    rw [wholeE] at hr
    (refine impApp (mem_cross.mp hr) ?_; refine cex1 ?_; rintro a; refine cand2 ?_; rintro ha; refine cex1 ?_; rintro b; refine cand2 ?_; rintro hb rfl)
    have ib := wholeE_piece h l b hb
    intro x hx
    rcases List.mem_append.mp hx with hx | hx
    · unfold choiceF at ha
      split at ha
      · exact h a ha x hx
      · rw [List.mem_singleton.mp ha] at hx
        rw [List.mem_singleton.mp hx]; exact ⟨f, rfl⟩
    · exact ib x hx
theorem told_piece (F H : List Int) : ∀ r ∈ toldF 1 F H, ∀ x ∈ r, ∃ k, x = pieceOf k := by
  have h0 : ∀ r ∈ toldF 0 H [], ∀ x ∈ r, ∃ k, x = pieceOf k := by
    intro r hr
    unfold toldF wholeOf at hr
    rw [wholeF_eq, wholeF_eq] at hr
    rcases List.mem_append.mp hr with hr | hr
    · exact wholeE_piece (fun _ h => by cases h) _ r hr
    · exact wholeE_piece (fun _ h => by cases h) _ r hr
  intro r hr
  rw [show toldF 1 F H = wholeOf (toldF 0 H []) (F.take 2) ++ wholeOf (toldF 0 H []) (F.drop 2) from rfl] at hr
  unfold wholeOf at hr
  rw [wholeF_eq, wholeF_eq] at hr
  rcases List.mem_append.mp hr with hr | hr
  · exact wholeE_piece h0 _ r hr
  · exact wholeE_piece h0 _ r hr
def Low (c : Nat) : Prop := c = 42 ∨ c = 61 ∨ c = 97 ∨ c = 47
theorem piece_signs (k : Int) : ∀ c ∈ tl (pieceOf k), Low c := by
  unfold pieceOf Low
  by_cases h : k.toNat < 7
  · have : ∀ n : Nat, n < 7 → ∀ c ∈ tl (Str.ofString (pieces.getD n "")), c = 42 ∨ c = 61 ∨ c = 97 ∨ c = 47 := by decide +kernel
    exact this _ h
  · rw [List.getD_eq_getElem?_getD, List.getElem?_eq_none (by show 7 ≤ _; (first | lia | omega))]
    decide +kernel
theorem word_signs {F H : List Int} {wd : Str} (h : wd ∈ words F H) : ∀ c ∈ tl wd, Low c := by
  (refine impApp (List.mem_map.mp h) ?_; refine cex1 ?_; rintro r; refine cand2 ?_; rintro hr rfl)
  rw [join_tl]
  intro c hc
  (refine impApp (List.mem_flatMap.mp hc) ?_; refine cex1 ?_; rintro x; refine cand2 ?_; rintro hx hc)
  obtain ⟨k, rfl⟩ := told_piece F H r hr x hx
  exact piece_signs k c hc
theorem lower_word {wd : Str} (h : ∀ c ∈ tl wd, Low c) : Txt.lower wd = wd := by
  refine tl_inj ?_
  rw [lower_tl fun c hc => by rcases h c hc with h | h | h | h <;> simp [Sign, h]]
  conv => rhs; rw [← List.map_id (tl wd)]
  refine List.map_congr_left fun c hc => ?_
  rcases h c hc with rfl | rfl | rfl | rfl <;> rfl
/-! the two readings -/
theorem inT_iff (hay nd : Str) : inT hay nd = true ↔ ∃ i, i + nd.length ≤ hay.length ∧ At (tl hay) i (tl nd) := by
  unfold inT
  rw [StrLaws.found_iff]
  constructor
  · (refine cex1 ?_; rintro i; refine cand2 ?_; rintro h1 h2)
    rw [StrLaws.subAt_eq, beq_iff_eq] at h2
    exact ⟨i, h1, by unfold At; rw [tl_len]; exact h2⟩
  · (refine cex1 ?_; rintro i; refine cand2 ?_; rintro h1 h2)
    refine ⟨i, h1, ?_⟩
    rw [StrLaws.subAt_eq, beq_iff_eq]
    unfold At at h2; rw [tl_len] at h2; exact h2
def starS : Str := Str.ofString "*"
def okSpan (low : Str) (place stop : Int) (p : Int × Int) : Bool := decide (place ≤ p.1) && (decide (p.2 ≤ stop) && !(Txt.slice low (some p.1) (some p.2) == Str.ofString "*"))
/-- read is what us can read in low -/
def Reads7 (us : List Str) (low : Str) (read : List (Int × Int)) : Prop := ∀ q : Int × Int, q ∈ read ↔ ∃ st : Nat, st < 7 ∧ q.1 = (st : Int) ∧ ∃ wd ∈ us, q.2 = ((st + wd.length : Nat) : Int) ∧ At (tl low) st (tl wd)
theorem applies_due {us : List Str} {t : Str} {read : List (Int × Int)} (ht : txtOk t) (hlow : ∀ wd ∈ us, ∀ c ∈ tl wd, Low c) (hr : Reads7 us (lowOf t) read) {place : Nat} (hp : place ≤ 6) :
    us.any (appF (Txt.slice t (some (place : Int)) none)) = read.any (okSpan (lowOf t) (place : Int) (Txt.find3 (t ++ Str.ofString "/") (Str.ofString "/") (place : Int))) := by
  (refine impApp (stop_spec ht hp) ?_; refine cex1 ?_; rintro k; refine cand5 ?_; rintro ek h1 h6 h2 h3)
  have hh := head_tl ht hp h1 h6 h2 h3
  have hl : (tl t).length = 6 := by rw [tl_len]; exact ht.1
  have hsg : ∀ c ∈ tl (headF (Txt.slice t (some (place : Int)) none)), Sign c := fun c hc => by
    rw [hh] at hc; exact ht.2 c (List.mem_of_mem_drop (List.mem_of_mem_take hc))
  have hlw : tl (Txt.lower (headF (Txt.slice t (some (place : Int)) none))) = ((tl (lowOf t)).drop place).take (k - place) := by
    rw [lower_tl hsg, hh, low_tl, List.map_take, List.map_drop]
  have hll : (Txt.lower (headF (Txt.slice t (some (place : Int)) none))).length = k - place := by
    rw [← tl_len, hlw, List.length_take, List.length_drop, low_tl, List.length_map]; (first | lia | omega)
  rw [ek, Bool.eq_iff_iff, List.any_eq_true, List.any_eq_true]
  have slice_word : ∀ (st : Nat) (wd : Str), At (tl (lowOf t)) st (tl wd) → Txt.slice (lowOf t) (some (st : Int)) (some ((st + wd.length : Nat) : Int)) = wd := fun st wd h => by
    refine tl_inj ?_
    rw [show ((st + wd.length : Nat) : Int) = (st : Int) + (wd.length : Int) by (first | lia | omega), slice_tl]
    unfold At at h; rw [tl_len] at h; exact h
  constructor
  · (refine cex1 ?_; rintro wd; refine cand2 ?_; rintro hwd ha)
    unfold appF at ha
    rw [Bool.and_eq_true, lower_word (hlow wd hwd), inT_iff] at ha
    (revert ha; refine cand2 ?_; rintro hstar; refine cex1 ?_; rintro i; refine cand2 ?_; rintro hi hat)
    rw [hll] at hi
    have hat' : At (tl (lowOf t)) (place + i) (tl wd) := by
      rw [hlw] at hat
      unfold At at hat ⊢
      rw [List.drop_take, List.take_take, List.drop_drop] at hat
      rw [tl_len] at hat ⊢
      rw [Nat.min_eq_left (by (first | lia | omega))] at hat
      exact hat
    refine ⟨(((place + i : Nat) : Int), ((place + i + wd.length : Nat) : Int)), (hr _).mpr ⟨place + i, by (first | lia | omega), rfl, wd, hwd, rfl, hat'⟩, ?_⟩
    unfold okSpan
    rw [Bool.and_eq_true, Bool.and_eq_true]
    refine ⟨decide_eq_true (by dsimp only; (first | lia | omega)), decide_eq_true (by dsimp only; (first | lia | omega)), ?_⟩
    dsimp only
    rw [slice_word _ _ hat']
    exact hstar
  · (refine cex1 ?_; rintro q; refine cand2 ?_; rintro hq hok)
    (refine impApp ((hr q).mp hq) ?_; refine cex1 ?_; rintro st; refine cand3 ?_; rintro hst e1; refine cex1 ?_; rintro wd; refine cand3 ?_; rintro hwd e2 hat)
    unfold okSpan at hok
    rw [Bool.and_eq_true, Bool.and_eq_true, decide_eq_true_eq, decide_eq_true_eq, e1, e2, slice_word _ _ hat] at hok
    (revert hok; refine cand3 ?_; rintro g1 g2 g3)
    refine ⟨wd, hwd, ?_⟩
    unfold appF
    rw [Bool.and_eq_true, lower_word (hlow wd hwd), inT_iff]
    refine ⟨g3, st - place, by rw [hll]; (first | lia | omega), ?_⟩
    rw [hlw]
    unfold At at hat ⊢
    rw [List.drop_take, List.take_take, List.drop_drop, tl_len, Nat.min_eq_left (by (first | lia | omega)), show place + (st - place) = st by (first | lia | omega)]
    rw [tl_len] at hat
    exact hat
def spansF (f q : List Int) (low : Str) : List (Int × Int) := (List.range 7).flatMap fun (st : Nat) => (endsF 1 low f q (st : Int)).map fun e => ((st : Int), e)
theorem spans_reads (f q : List Int) (low : Str) : Reads7 (words f q) low (spansF f q low) := by
  intro p
  unfold spansF
  rw [List.mem_flatMap]
  constructor
  · (refine cex1 ?_; rintro st; refine cand2 ?_; rintro hst hp)
    (refine impApp (List.mem_map.mp hp) ?_; refine cex1 ?_; rintro e; refine cand2 ?_; rintro he rfl)
    (refine impApp ((endsW_iff low f q st e).mp he) ?_; refine cex1 ?_; rintro wd; refine cand3 ?_; rintro hwd e2 hat)
    exact ⟨st, List.mem_range.mp hst, rfl, wd, hwd, e2, hat⟩
  · (refine cex1 ?_; rintro st; refine cand3 ?_; rintro hst e1; refine cex1 ?_; rintro wd; refine cand3 ?_; rintro hwd e2 hat)
    refine ⟨st, List.mem_range.mpr hst, List.mem_map.mpr ⟨p.2, (endsW_iff low f q st p.2).mpr ⟨wd, hwd, e2, hat⟩, ?_⟩⟩
    rw [← e1]
theorem both_reads {us1 us2 : List Str} {low : Str} {r1 r2 : List (Int × Int)} (h1 : Reads7 us1 low r1) (h2 : Reads7 us2 low r2) : Reads7 (both us1 us2) low (r1.filter r2.contains) := by
  intro p
  rw [List.mem_filter, h1 p]
  constructor
  · rintro ⟨⟨st, hst, e1, wd, hwd, e2, hat⟩, hc⟩
    rw [List.contains_iff_mem, h2 p] at hc
    (revert hc; refine cex1 ?_; rintro st'; refine cand3 ?_; rintro hst' e1'; refine cex1 ?_; rintro wd'; refine cand3 ?_; rintro hwd' e2' hat')
    have es : st' = st := by rw [e1] at e1'; (first | lia | omega)
    subst es
    have el : wd'.length = wd.length := by rw [e2] at e2'; (first | lia | omega)
    have ew : wd' = wd := by
      refine tl_inj ?_
      unfold At at hat hat'
      rw [tl_len] at hat hat'
      rw [← hat, ← hat', el]
    subst ew
    exact ⟨st', hst, e1, wd', List.mem_filter.mpr ⟨hwd, List.contains_iff_mem.mpr hwd'⟩, e2, hat⟩
  · (refine cex1 ?_; rintro st; refine cand3 ?_; rintro hst e1; refine cex1 ?_; rintro wd; refine cand3 ?_; rintro hwd e2 hat)
    obtain ⟨ha, hb⟩ := List.mem_filter.mp hwd
    exact ⟨⟨st, hst, e1, wd, ha, e2, hat⟩, List.contains_iff_mem.mpr ((h2 p).mpr ⟨st, hst, e1, wd, List.contains_iff_mem.mp hb, e2, hat⟩)⟩
theorem star_reads (f q : List Int) : (endsF 1 (Str.ofString "*") f q 0).any (· == 1) = (words f q).contains (Str.ofString "*") := by
  have h := reads_iff (Str.ofString "*") f q
  have e1 : (((Str.ofString "*").length : Nat) : Int) = 1 := by decide +kernel
  rw [e1] at h
  rw [Bool.eq_iff_iff, List.any_eq_true, List.contains_iff_mem, ← h]
  constructor
  · (refine cex1 ?_; rintro x; refine cand2 ?_; rintro hx e); rw [beq_iff_eq] at e; rw [← e]; exact hx
  · intro h; exact ⟨1, h, by simp⟩
theorem both_contains (a b : List Str) (x : Str) : (both a b).contains x = (a.contains x && b.contains x) := by
  rw [Bool.eq_iff_iff, List.contains_iff_mem, List.mem_filter, Bool.and_eq_true, List.contains_iff_mem, List.contains_iff_mem]
theorem ends_len {nm : Str} {f q : List Int} {st : Int} (l4 : f.length = 4) (l4' : q.length = 4) : (endsF 1 nm f q st).length ≤ 8 := by
  have hs := fun p => endsF0_bound (nm := nm) l4' p
  have h1 := (endsPair_bound (nm := nm) (st := st) (fun p => (hs p).1) (fun p => (hs p).2) (pair := f.take 2) (by rw [List.length_take]; (first | lia | omega))).1
  have h2 := (endsPair_bound (nm := nm) (st := st) (fun p => (hs p).1) (fun p => (hs p).2) (pair := f.drop 2) (by rw [List.length_drop]; (first | lia | omega))).1
  rw [show endsF 1 nm f q st = endsPair (endsF 0 nm q []) nm (f.take 2) st ++ endsPair (endsF 0 nm q []) nm (f.drop 2) st from rfl, List.length_append]
  (first | lia | omega)
/-! part Lw10 -/
abbrev cells3 (L : Addr) (o5 o6 o7 : Obj) : List (Addr × Obj) := [(L + 1 + 1 + 1 + 1 + 1 + 1 + 1, o7), (L + 1 + 1 + 1 + 1 + 1 + 1, o6), (L + 1 + 1 + 1 + 1 + 1, o5)]
abbrev cells2 (L : Addr) (o6 o7 : Obj) : List (Addr × Obj) := [(L + 1 + 1 + 1 + 1 + 1 + 1 + 1, o7), (L + 1 + 1 + 1 + 1 + 1 + 1, o6)]
/-- what the last loop asks -/
structure Last (w : World) (G : Heap) (m : Str → Option Value) (t : Str) (us1 rs1 us2 rs2 : List Str) : Prop where
  txt : Txt1 m t
  one : HasRec w G m "one" us1 rs1
  other : HasRec w G m "other" us2 rs2
  merged : HasRec w G m "merged" (both us1 us2) (rs1 ++ rs2)
def LowCell (G : Heap) (L : Addr) (x : Str) : Prop := ∃ tt, G.IsCell (L + 1 + 1 + 1 + 1) (some (.str x tt))
theorem LowCell.mono {G G' : Heap} {L : Addr} {x : Str} (h : LowCell G L x) (k : G.StaysIn G') : LowCell G' L x := let ⟨t, c⟩ := h; ⟨t, c.keeps k⟩
section
variable {w : World} {p : Program} {loose : List Str} {mean : ExcName → Option Value} {mg mb : Str → Option Value} {B : Heap} {L fa : Addr} {cd : Value} {dp un : Nat} {fr : Option (List Env)} {gd : Option (List Code)} {s : Shared} {m : Str → Option Value} {h : Heap} {tk : Nat} {G : Heap} {E : Value → Shared → Prop}
theorem seg14 {o4 o5 o6 o7 : Obj} {t : Str} {us1 rs1 us2 rs2 : List Str} (hd : dp + 30 < recursionLimit) (hu : un + 400 < cLine) (X : (Mine.hd.heap_39 w.params).In B) (T : Top p loose mean mg mb B)
    (S : Gs B B G) (F : Fr B L h m) (N : News B L h (cells4 L o4 o5 o6 o7 ++ gl B G)) (O : Off G (cells4 L o4 o5 o6 o7)) (h4 : Four w G m t us1 rs1 us2 rs2) (hto : txtOk t) (dd : o4.data = .cell none) (htk : 1 ≤ tk) :
    wpAny (model PR w) (lawA dp fr gd un L fa cd) (execs ((lawBody.drop 19).take 1) (lawEnv L fa cd)) (fun f' s' => f' = .next ∧ St s B L (cells3 L o5 o6 o7) (fun G' m' => G.StaysIn G' ∧ Last w G' m' t us1 rs1 us2 rs2 ∧ LowCell G' L (lowOf t)) s') E { s with heap := h, toks := tk } := by
  show wpAny _ _ (execs [_] (envOfC _ { kind := _, names := _, isGenerator := _, isCoroutine := _, more := _ } _ _ _)) _ _ _
  obtain ⟨⟨tt, em⟩, ⟨x1, e1, hR1⟩, ⟨x2, e2, hR2⟩, ⟨x3, e3, hR3⟩, _⟩ := h4
  have hlen : t.length = 6 := hto.1
  rw [m_see em, m_see e1, m_see e2, m_see e3] at F
  simp only [List.cons_append, List.nil_append] at N
  have oc4 : G.get? (L + 1 + 1 + 1 + 1) = none := O (L + 1 + 1 + 1 + 1, o4) (by k_mem)
  walk_at "MINE fill"
  (try dsimp only); (try k_fold)
  walk_at "GO"
  refine SC.replaceW (show tk ≠ 0 by (first | lia | omega)) (show tk + 1 ≠ 0 by (first | lia | omega)) (show tk ≠ tk + 1 by (first | lia | omega)) (by decide +kernel) (by (first | lia | omega)) (by decide +kernel) ?_
  intro t1 k1
  walk_at "GO"
  rename_i h2 oc2 F2 N2 d2
  (refine impApp (freezes [(L + 1 + 1 + 1 + 1, oc2)] (cells3 L o5 o6 o7) (news := [(L + 1 + 1 + 1 + 1 + 1 + 1 + 1, o7), (L + 1 + 1 + 1 + 1 + 1 + 1, o6), (L + 1 + 1 + 1 + 1 + 1, o5), (L + 1 + 1 + 1 + 1, oc2)]) S F2 N2 (by walk_at "MINE perm")) ?_; refine cex1 ?_; rintro G2; refine cand5 ?_; rintro S2 g2 fz2 N3 off2)
  exact ⟨h2, _, G2, _, rfl, S2, F2, N3, Off.cons (off2 (L + 1 + 1 + 1 + 1 + 1 + 1 + 1) (by walk_at "MINE offz") (O (L + 1 + 1 + 1 + 1 + 1 + 1 + 1, o7) (by k_mem))) (Off.cons (off2 (L + 1 + 1 + 1 + 1 + 1 + 1) (by walk_at "MINE offz") (O (L + 1 + 1 + 1 + 1 + 1 + 1, o6) (by k_mem))) (Off.cons (off2 (L + 1 + 1 + 1 + 1 + 1) (by walk_at "MINE offz") (O (L + 1 + 1 + 1 + 1 + 1, o5) (by k_mem))) (Off.nil))), g2, ⟨⟨_, rfl⟩, ⟨x1, rfl, hR1.mono g2⟩, ⟨x2, rfl, hR2.mono g2⟩, ⟨x3, rfl, hR3.mono g2⟩⟩, ⟨_, oc2, fz2 (L + 1 + 1 + 1 + 1, _) (.head _), d2⟩⟩
end
/-! part Lw11 -/
section
variable {w : World} {p : Program} {loose : List Str} {mean : ExcName → Option Value} {mg mb : Str → Option Value} {B : Heap} {L fa : Addr} {cd : Value} {dp un : Nat} {fr : Option (List Env)} {gd : Option (List Code)} {s : Shared} {m : Str → Option Value} {h : Heap} {tk : Nat} {G : Heap} {E : Value → Shared → Prop}
def HasSpans (G : Heap) (m : Str → Option Value) (name : String) (ps : List (Int × Int)) : Prop := ∃ v, m (Str.ofString name) = some v ∧ Spans G v ps
def CellSpans (G : Heap) (L : Addr) (ps : List (Int × Int)) : Prop := ∃ v, G.IsCell (L + 1 + 1 + 1 + 1 + 1) (some v) ∧ Spans G v ps
theorem CellSpans.mono {G G' : Heap} {L : Addr} {ps : List (Int × Int)} (x : CellSpans G L ps) (k : G.StaysIn G') : CellSpans G' L ps := let ⟨v, a, b⟩ := x; ⟨v, a.keeps k, Spans.mono b k⟩
theorem seg15 {o5 o6 o7 : Obj} {f g q : List Int} {t : Str} {us1 rs1 us2 rs2 : List Str} (hd : dp + 30 < recursionLimit) (hu : un + 400 < cLine) (X : (Mine.hd.heap_39 w.params).In B) (T : Top p loose mean mg mb B)
    (S : Gs B B G) (F : Fr B L h m) (N : News B L h (cells3 L o5 o6 o7 ++ gl B G)) (O : Off G (cells3 L o5 o6 o7)) (hF : Figs G L f g q) (h4 : Last w G m t us1 rs1 us2 rs2) (hto : txtOk t) (hlc : LowCell G L (lowOf t)) :
    wpAny (model PR w) (lawA dp fr gd un L fa cd) (execs ((lawBody.drop 20).take 1) (lawEnv L fa cd)) (fun f' s' => f' = .next ∧ St s B L (cells3 L o5 o6 o7) (fun G' m' => G.StaysIn G' ∧ Last w G' m' t us1 rs1 us2 rs2 ∧ HasSpans G' m' "spans" (spansF f q (lowOf t))) s') E { s with heap := h, toks := tk } := by
  show wpAny _ _ (execs [_] (envOfC _ { kind := _, names := _, isGenerator := _, isCoroutine := _, more := _ } _ _ _)) _ _ _
  obtain ⟨⟨tt, em⟩, ⟨x1, e1, hR1⟩, ⟨x2, e2, hR2⟩, ⟨x3, e3, hR3⟩⟩ := h4
  obtain ⟨⟨a1, k1, v1, hL1, hI1⟩, ⟨a2, k2, v2, hL2, hI2⟩, ⟨a3, k3, v3, hL3, hI3⟩, l1, l2, l3, b1, b2, b3⟩ := hF
  obtain ⟨tlw, k4⟩ := hlc
  have hlen : (lowOf t).length = 6 := by rw [low_len]; exact hto.1
  have hel := fun st => ends_len (nm := lowOf t) (f := f) (q := q) (st := st) (by assumption) l3
  (refine impApp (len4 l1) ?_; refine cex4 ?_; rintro f0 f1 f2 f3 rfl)
  (refine impApp (len4 l2) ?_; refine cex4 ?_; rintro g0 g1 g2 g3 rfl)
  (refine impApp (len4 l3) ?_; refine cex4 ?_; rintro q0 q1 q2 q3 rfl)
  generalize hlw : lowOf t = low at *
  rw [m_see em, m_see e1, m_see e2, m_see e3] at F
  simp only [List.cons_append, List.nil_append] at N
  walk_at "MINE fill"
  (try dsimp only); (try k_fold)
  walk_at "GO"
  rename_i h2 _ t1 u1 w1 hr F N _
  unfold CompIn
  refine src_range (n := 7) (news := cells3 L o5 o6 o7) rfl hr (by (first | lia | omega)) S F N ?_
  intro I h3 fp Stt C0 F3 N3 st3
  have Xc : (Mine.hd.heap_39 w.params).In (less h3 I) := (X.keeps F.keep).keeps st3
  have Tc : Top p loose mean mg mb (less h3 I) := (T.keeps F.keep).keeps st3
  have st4 : G.StaysIn (less h3 I) := StaysIn.trans (S.keep (news := cells3 L o5 o6 o7) F N) st3
  have kc1 := k1.keeps st4
  have kc2 := k2.keeps st4
  have kc3 := k3.keeps st4
  have kc4 := k4.keeps st4
  refine comp2_to (L := L) rfl C0 (fun i G' rs => i ≤ 7 ∧ Paired (Pair G') rs ((List.range i).flatMap fun (st : Nat) => (endsF 1 low [f0, f1, f2, f3] [q0, q1, q2, q3] (st : Int)).map fun e => ((st : Int), e))) S F3 N3 O ⟨by decide, .nil⟩ ?turn ?done
  case done =>
    rintro D3 Gn G3 rs kk h5 tk5 ⟨_, hrs⟩ gst hD3 gs3 S3 O3 F5 N5
    have hrs' : Paired (Pair G3) rs (spansF [f0, f1, f2, f3] [q0, q1, q2, q3] low) := hrs.mono fun _ _ r => Pair.mono r gst
    clear hrs C0
    simp only [List.cons_append, List.nil_append] at N5
    dsimp only
    walk_at "GO"
    subst hlw
    exact ⟨_, _, G3, _, rfl, S3, F5, N5, O3, gs3, ⟨⟨_, rfl⟩, ⟨x1, rfl, hR1.mono gs3⟩, ⟨x2, rfl, hR2.mono gs3⟩, ⟨x3, rfl, hR3.mono gs3⟩⟩, .ref D3, rfl, D3, rs, rfl, LL.of hD3, hrs'⟩
  case turn =>
    rintro i v C D2 Gi mi rs kk h5 tk5 oI E₁ hi ⟨tv, rfl⟩ ⟨hi', hrs⟩ Si gi F5 N5 O5 hDI
    simp only [List.cons_append, List.nil_append] at N5
    dsimp only at F5 N5 ⊢
    walk_at "GO"
    rename_i h6 F6 N6 z6
    refine (ends1 w Gi a1 v1 f0 f1 f2 f3 low _ (i : Int) tv (.ref a3) [q0, q1, q2, q3] (hL1.mono gi) hI1 (b1 f0 (by simp)) (b1 f1 (by simp)) (b1 f2 (by simp)) (b1 f3 (by simp)) (fun h => absurd h (by decide)) (by (first | lia | omega)) (by (first | lia | omega)) (by (first | lia | omega)) (fun _ => ⟨a3, v3, q0, q1, q2, q3, rfl, hL3.mono gi, hI3, rfl, b3 q0 (by simp), b3 q1 (by simp), b3 q2 (by simp), b3 q3 (by simp)⟩)).use rfl (by walk_at "MINE room") (by walk_at "MINE room") Xc Tc F6 (news := [(I, oI), (D2, listOf rs.toArray kk)]) N6 Si O5 ?_
    (rintro v9 h9 tk9 G9 st9 S9 O9; refine cex2 ?_; rintro c cvs; refine cand3 ?_; rintro rfl hcL hci F9 N9)
    have hel' := hel (i : Int)
    generalize hends : endsF 1 low [f0, f1, f2, f3] [q0, q1, q2, q3] (i : Int) = ends at hci hel'
    simp only [List.cons_append, List.nil_append] at N9
    dsimp only
    walk_at "GO"
    refine src_list (news := [(I, oI), (D2, listOf rs.toArray kk)]) rfl hcL.isList S9 F9 N9 ?_
    intro I4 h13 fp4 St4 C1 F13 N13 st13
    have hrs9 := hrs.mono fun _ _ r => Pair.mono r st9
    refine comp2_in (rs₀ := rs) (k₀ := kk) C1 (fun jj G' rs' => G9.StaysIn G' ∧ Paired (Pair G') rs' (((List.range i).flatMap fun (st : Nat) => (endsF 1 low [f0, f1, f2, f3] [q0, q1, q2, q3] (st : Int)).map fun e => ((st : Int), e)) ++ (ends.take jj).map fun e => ((i : Int), e))) (fun mm => mm (Str.ofString "start") = some (.int i tv)) hDI S9 F13 N13 O9 ⟨StaysIn.refl _, by simpa using hrs9⟩ rfl ?len8 ?turn8 ?done8
    case len8 =>
      rintro jj G' rs' ⟨_, hr'⟩
      rw [Paired.len hr', sizeLine_eq, List.length_append, List.length_map, List.length_take]
      have h1 : ∀ n : Nat, ((List.range n).flatMap fun (st : Nat) => (endsF 1 low [f0, f1, f2, f3] [q0, q1, q2, q3] (st : Int)).map fun e => ((st : Int), e)).length ≤ n * 8 := by
        intro n
        induction n with
        | zero => simp
        | succ n ih =>
          rw [List.range_succ, List.flatMap_append, List.length_append]
          have := hel (n : Int)
          simp only [List.flatMap_cons, List.flatMap_nil, List.append_nil, List.length_map]
          (first | lia | omega)
      have := h1 i
      (first | lia | omega)
    case turn8 =>
      rintro jj u Gj8 mj8 rs8 k8 h14 tk14 oI4 E₄ hjj hu8 hM ⟨gij, hr8⟩ Sj8 _ F14 N14 O14
      (refine impApp (IntsAre.at hci jj u hu8) ?_; refine cex2 ?_; rintro en ten; refine cand2 ?_; rintro rfl hen)
      rw [m_see hM] at F14
      simp only [List.cons_append, List.nil_append] at N14
      dsimp only at F14 N14 ⊢
      walk_at "GO"
      rename_i h15 D5 h16 F16 N16 lD5
      (refine impApp (freezes [(D5, { cls := Value.type "tuple", data := Data.seq #[Value.int (i : Int) tv, Value.int en ten] })] [(I4, oI4), (I, oI), (D2, listOf rs8.toArray k8)] (news := [(D5, _), (I4, oI4), (I, oI), (D2, listOf rs8.toArray k8)]) Sj8 F16 N16 (fun p => Iff.rfl)) ?_; refine cex1 ?_; rintro G16; refine cand5 ?_; rintro S16 g16 fz16 N17 off16)
      have O16 : Off G16 [(I4, oI4), (I, oI), (D2, listOf rs8.toArray k8)] := Off.cons (off16 I4 (by walk_at "MINE offz") (O14 (I4, oI4) (by k_mem))) (Off.cons (off16 I (by walk_at "MINE offz") (O14 (I, oI) (by k_mem))) (Off.cons (off16 D2 (by walk_at "MINE offz") (O14 (D2, _) (by k_mem))) Off.nil))
      refine ⟨_, _, G16, _, rfl, S16, g16, F16, N17, O16, rfl, StaysIn.trans gij g16, ?_⟩
      rw [List.take_add_one, hen, List.map_append, ← List.append_assoc]
      exact Paired.append (hr8.mono fun _ _ r => Pair.mono r g16) (.cons ⟨D5, tv, ten, rfl, ⟨_, fz16 (D5, _) (.head _), rfl, _, rfl⟩⟩ .nil)
    case done8 =>
      rintro Gn8 mn8 rs8 k8 h14 tk14 ⟨gin, hr8⟩ Sn8 _ F14 N14 O14
      refine ⟨h14, tk14, Gn8, mn8, rs8, k8, rfl, Sn8, StaysIn.trans st9 gin, F14, N14, O14, hi, ?_⟩
      rw [hci.length, List.take_length] at hr8
      rw [List.range_succ, List.flatMap_append]
      refine Eq.mp (congrArg _ ?_) hr8
      simp [hends]
theorem seg16 {o5 o6 o7 : Obj} {f g q : List Int} {t : Str} {us1 rs1 us2 rs2 : List Str} (hd : dp + 30 < recursionLimit) (hu : un + 400 < cLine) (X : (Mine.hd.heap_39 w.params).In B) (T : Top p loose mean mg mb B)
    (S : Gs B B G) (F : Fr B L h m) (N : News B L h (cells3 L o5 o6 o7 ++ gl B G)) (O : Off G (cells3 L o5 o6 o7)) (hF : Figs G L f g q) (h4 : Last w G m t us1 rs1 us2 rs2) (hto : txtOk t) (hlc : LowCell G L (lowOf t)) (hsp : HasSpans G m "spans" (spansF f q (lowOf t))) (dd : o5.data = .cell none) :
    wpAny (model PR w) (lawA dp fr gd un L fa cd) (execs ((lawBody.drop 21).take 1) (lawEnv L fa cd)) (fun f' s' => f' = .next ∧ St s B L (cells2 L o6 o7) (fun G' m' => G.StaysIn G' ∧ Last w G' m' t us1 rs1 us2 rs2 ∧ HasSpans G' m' "spans" (spansF f q (lowOf t)) ∧ CellSpans G' L (spansF g q (lowOf t))) s') E { s with heap := h, toks := tk } := by
  show wpAny _ _ (execs [_] (envOfC _ { kind := _, names := _, isGenerator := _, isCoroutine := _, more := _ } _ _ _)) _ _ _
  obtain ⟨⟨tt, em⟩, ⟨x1, e1, hR1⟩, ⟨x2, e2, hR2⟩, ⟨x3, e3, hR3⟩⟩ := h4
  (revert hsp; refine cex1 ?_; rintro spv; refine cand2 ?_; rintro eS hSP)
  obtain ⟨⟨a1, k1, v1, hL1, hI1⟩, ⟨a2, k2, v2, hL2, hI2⟩, ⟨a3, k3, v3, hL3, hI3⟩, l1, l2, l3, b1, b2, b3⟩ := hF
  obtain ⟨tlw, k4⟩ := hlc
  have hlen : (lowOf t).length = 6 := by rw [low_len]; exact hto.1
  have hel := fun st => ends_len (nm := lowOf t) (f := g) (q := q) (st := st) (by assumption) l3
  (refine impApp (len4 l1) ?_; refine cex4 ?_; rintro f0 f1 f2 f3 rfl)
  (refine impApp (len4 l2) ?_; refine cex4 ?_; rintro g0 g1 g2 g3 rfl)
  (refine impApp (len4 l3) ?_; refine cex4 ?_; rintro q0 q1 q2 q3 rfl)
  generalize hlw : lowOf t = low at *
  rw [m_see em, m_see e1, m_see e2, m_see e3, m_see eS] at F
  simp only [List.cons_append, List.nil_append] at N
  walk_at "MINE fill"
  (try dsimp only); (try k_fold)
  walk_at "GO"
  rename_i h2 _ t1 u1 w1 hr F N _
  unfold CompIn
  refine src_range (n := 7) (news := cells3 L o5 o6 o7) rfl hr (by (first | lia | omega)) S F N ?_
  intro I h3 fp Stt C0 F3 N3 st3
  have Xc : (Mine.hd.heap_39 w.params).In (less h3 I) := (X.keeps F.keep).keeps st3
  have Tc : Top p loose mean mg mb (less h3 I) := (T.keeps F.keep).keeps st3
  have st4 : G.StaysIn (less h3 I) := StaysIn.trans (S.keep (news := cells3 L o5 o6 o7) F N) st3
  have kc1 := k1.keeps st4
  have kc2 := k2.keeps st4
  have kc3 := k3.keeps st4
  have kc4 := k4.keeps st4
  refine comp2_val (L := L) rfl C0 (fun i G' rs => i ≤ 7 ∧ Paired (Pair G') rs ((List.range i).flatMap fun (st : Nat) => (endsF 1 low [g0, g1, g2, g3] [q0, q1, q2, q3] (st : Int)).map fun e => ((st : Int), e))) S F3 N3 O ⟨by decide, .nil⟩ ?turn ?done
  case done =>
    rintro D3 Gn G3 rs kk h5 tk5 ⟨_, hrs⟩ gst hD3 gs3 S3 O3 F5 N5
    have hrs' : Paired (Pair G3) rs (spansF [g0, g1, g2, g3] [q0, q1, q2, q3] low) := hrs.mono fun _ _ r => Pair.mono r gst
    clear hrs C0
    simp only [List.cons_append, List.nil_append] at N5
    have oc5 : G3.get? (L + 1 + 1 + 1 + 1 + 1) = none := O3 (L + 1 + 1 + 1 + 1 + 1, o5) (by k_mem)
    dsimp only
    walk_at "GO"
    subst hlw
    rename_i h9 oc9 F9 N9 d9
    (refine impApp (freezes [(L + 1 + 1 + 1 + 1 + 1, oc9)] (cells2 L o6 o7) (news := [(L + 1 + 1 + 1 + 1 + 1 + 1 + 1, o7), (L + 1 + 1 + 1 + 1 + 1 + 1, o6), (L + 1 + 1 + 1 + 1 + 1, oc9)]) S3 F9 N9 (by walk_at "MINE perm")) ?_; refine cex1 ?_; rintro G9; refine cand5 ?_; rintro S9 g9 fz9 N10 off9)
    have gs9 := StaysIn.trans gs3 g9
    exact ⟨h9, _, G9, _, rfl, S9, F9, N10, Off.cons (off9 (L + 1 + 1 + 1 + 1 + 1 + 1 + 1) (by walk_at "MINE offz") (O3 (L + 1 + 1 + 1 + 1 + 1 + 1 + 1, o7) (by k_mem))) (Off.cons (off9 (L + 1 + 1 + 1 + 1 + 1 + 1) (by walk_at "MINE offz") (O3 (L + 1 + 1 + 1 + 1 + 1 + 1, o6) (by k_mem))) (Off.nil)), gs9, ⟨⟨_, rfl⟩, ⟨x1, rfl, hR1.mono gs9⟩, ⟨x2, rfl, hR2.mono gs9⟩, ⟨x3, rfl, hR3.mono gs9⟩⟩, ⟨spv, rfl, Spans.mono hSP gs9⟩, .ref D3, ⟨oc9, fz9 (L + 1 + 1 + 1 + 1 + 1, _) (.head _), d9⟩, D3, rs, rfl, (LL.of hD3).mono g9, hrs'.mono fun _ _ r => Pair.mono r g9⟩
  case turn =>
    rintro i v C D2 Gi mi rs kk h5 tk5 oI E₁ hi ⟨tv, rfl⟩ ⟨hi', hrs⟩ Si gi F5 N5 O5 hDI
    simp only [List.cons_append, List.nil_append] at N5
    dsimp only at F5 N5 ⊢
    walk_at "GO"
    rename_i h6 F6 N6 z6
    refine (ends1 w Gi a2 v2 g0 g1 g2 g3 low _ (i : Int) tv (.ref a3) [q0, q1, q2, q3] (hL2.mono gi) hI2 (b2 g0 (by simp)) (b2 g1 (by simp)) (b2 g2 (by simp)) (b2 g3 (by simp)) (fun h => absurd h (by decide)) (by (first | lia | omega)) (by (first | lia | omega)) (by (first | lia | omega)) (fun _ => ⟨a3, v3, q0, q1, q2, q3, rfl, hL3.mono gi, hI3, rfl, b3 q0 (by simp), b3 q1 (by simp), b3 q2 (by simp), b3 q3 (by simp)⟩)).use rfl (by walk_at "MINE room") (by walk_at "MINE room") Xc Tc F6 (news := [(I, oI), (D2, listOf rs.toArray kk)]) N6 Si O5 ?_
    (rintro v9 h9 tk9 G9 st9 S9 O9; refine cex2 ?_; rintro c cvs; refine cand3 ?_; rintro rfl hcL hci F9 N9)
    have hel' := hel (i : Int)
    generalize hends : endsF 1 low [g0, g1, g2, g3] [q0, q1, q2, q3] (i : Int) = ends at hci hel'
    simp only [List.cons_append, List.nil_append] at N9
    dsimp only
    walk_at "GO"
    refine src_list (news := [(I, oI), (D2, listOf rs.toArray kk)]) rfl hcL.isList S9 F9 N9 ?_
    intro I4 h13 fp4 St4 C1 F13 N13 st13
    have hrs9 := hrs.mono fun _ _ r => Pair.mono r st9
    refine comp2_in (rs₀ := rs) (k₀ := kk) C1 (fun jj G' rs' => G9.StaysIn G' ∧ Paired (Pair G') rs' (((List.range i).flatMap fun (st : Nat) => (endsF 1 low [g0, g1, g2, g3] [q0, q1, q2, q3] (st : Int)).map fun e => ((st : Int), e)) ++ (ends.take jj).map fun e => ((i : Int), e))) (fun mm => mm (Str.ofString "start") = some (.int i tv)) hDI S9 F13 N13 O9 ⟨StaysIn.refl _, by simpa using hrs9⟩ rfl ?len8 ?turn8 ?done8
    case len8 =>
      rintro jj G' rs' ⟨_, hr'⟩
      rw [Paired.len hr', sizeLine_eq, List.length_append, List.length_map, List.length_take]
      have h1 : ∀ n : Nat, ((List.range n).flatMap fun (st : Nat) => (endsF 1 low [g0, g1, g2, g3] [q0, q1, q2, q3] (st : Int)).map fun e => ((st : Int), e)).length ≤ n * 8 := by
        intro n
        induction n with
        | zero => simp
        | succ n ih =>
          rw [List.range_succ, List.flatMap_append, List.length_append]
          have := hel (n : Int)
          simp only [List.flatMap_cons, List.flatMap_nil, List.append_nil, List.length_map]
          (first | lia | omega)
      have := h1 i
      (first | lia | omega)
    case turn8 =>
      rintro jj u Gj8 mj8 rs8 k8 h14 tk14 oI4 E₄ hjj hu8 hM ⟨gij, hr8⟩ Sj8 _ F14 N14 O14
      (refine impApp (IntsAre.at hci jj u hu8) ?_; refine cex2 ?_; rintro en ten; refine cand2 ?_; rintro rfl hen)
      rw [m_see hM] at F14
      simp only [List.cons_append, List.nil_append] at N14
      dsimp only at F14 N14 ⊢
      walk_at "GO"
      rename_i h15 D5 h16 F16 N16 lD5
      (refine impApp (freezes [(D5, { cls := Value.type "tuple", data := Data.seq #[Value.int (i : Int) tv, Value.int en ten] })] [(I4, oI4), (I, oI), (D2, listOf rs8.toArray k8)] (news := [(D5, _), (I4, oI4), (I, oI), (D2, listOf rs8.toArray k8)]) Sj8 F16 N16 (fun p => Iff.rfl)) ?_; refine cex1 ?_; rintro G16; refine cand5 ?_; rintro S16 g16 fz16 N17 off16)
      have O16 : Off G16 [(I4, oI4), (I, oI), (D2, listOf rs8.toArray k8)] := Off.cons (off16 I4 (by walk_at "MINE offz") (O14 (I4, oI4) (by k_mem))) (Off.cons (off16 I (by walk_at "MINE offz") (O14 (I, oI) (by k_mem))) (Off.cons (off16 D2 (by walk_at "MINE offz") (O14 (D2, _) (by k_mem))) Off.nil))
      refine ⟨_, _, G16, _, rfl, S16, g16, F16, N17, O16, rfl, StaysIn.trans gij g16, ?_⟩
      rw [List.take_add_one, hen, List.map_append, ← List.append_assoc]
      exact Paired.append (hr8.mono fun _ _ r => Pair.mono r g16) (.cons ⟨D5, tv, ten, rfl, ⟨_, fz16 (D5, _) (.head _), rfl, _, rfl⟩⟩ .nil)
    case done8 =>
      rintro Gn8 mn8 rs8 k8 h14 tk14 ⟨gin, hr8⟩ Sn8 _ F14 N14 O14
      refine ⟨h14, tk14, Gn8, mn8, rs8, k8, rfl, Sn8, StaysIn.trans st9 gin, F14, N14, O14, hi, ?_⟩
      rw [hci.length, List.take_length] at hr8
      rw [List.range_succ, List.flatMap_append]
      refine Eq.mp (congrArg _ ?_) hr8
      simp [hends]
end
/-! part Lw12 -/
section
variable {w : World} {p : Program} {loose : List Str} {mean : ExcName → Option Value} {mg mb : Str → Option Value} {B : Heap} {L fa : Addr} {cd : Value} {dp un : Nat} {fr : Option (List Env)} {gd : Option (List Code)} {s : Shared} {m : Str → Option Value} {h : Heap} {tk : Nat} {G : Heap} {E : Value → Shared → Prop}
theorem seg17 {o6 o7 : Obj} {t : Str} {us1 rs1 us2 rs2 : List Str} {ps qs : List (Int × Int)} (hd : dp + 30 < recursionLimit) (hu : un + 400 < cLine) (X : (Mine.hd.heap_39 w.params).In B) (T : Top p loose mean mg mb B)
    (S : Gs B B G) (F : Fr B L h m) (N : News B L h (cells2 L o6 o7 ++ gl B G)) (O : Off G (cells2 L o6 o7)) (h4 : Last w G m t us1 rs1 us2 rs2) (hsp : HasSpans G m "spans" ps) (hcs : CellSpans G L qs) (hps : ps.length ≤ 1000) :
    wpAny (model PR w) (lawA dp fr gd un L fa cd) (execs ((lawBody.drop 22).take 1) (lawEnv L fa cd)) (fun f' s' => f' = .next ∧ St s B L (cells2 L o6 o7) (fun G' m' => G.StaysIn G' ∧ Last w G' m' t us1 rs1 us2 rs2 ∧ HasSpans G' m' "spans" ps ∧ HasSpans G' m' "both" (ps.filter qs.contains)) s') E { s with heap := h, toks := tk } := by
  show wpAny _ _ (execs [_] (envOfC _ { kind := _, names := _, isGenerator := _, isCoroutine := _, more := _ } _ _ _)) _ _ _
  obtain ⟨⟨tt, em⟩, ⟨x1, e1, hR1⟩, ⟨x2, e2, hR2⟩, ⟨x3, e3, hR3⟩⟩ := h4
  (revert hsp; refine cex1 ?_; rintro spv; refine cand2 ?_; rintro eS hSP)
  (refine impApp (id hSP) ?_; refine cex2 ?_; rintro sa svs; refine cand3 ?_; rintro rfl hsL hsP)
  (revert hcs; refine cex1 ?_; rintro ov; refine cand2 ?_; rintro k5 hOS)
  (revert hOS; refine cex2 ?_; rintro oa ovs; refine cand3 ?_; rintro rfl hoL hoP)
  rw [m_see em, m_see e1, m_see e2, m_see e3, m_see eS] at F
  simp only [List.cons_append, List.nil_append] at N
  walk_at "MINE fill"
  (try dsimp only); (try k_fold)
  walk_at "GO"
  unfold CompIn
  refine src_list (news := cells2 L o6 o7) rfl hsL.isList S F N ?_
  intro I h2 fp Stt C0 F3 N3 st3
  have Xc : (Mine.hd.heap_39 w.params).In (less h2 I) := (X.keeps F.keep).keeps st3
  have Tc : Top p loose mean mg mb (less h2 I) := (T.keeps F.keep).keeps st3
  have st4 : G.StaysIn (less h2 I) := StaysIn.trans (S.keep (news := cells2 L o6 o7) F N) st3
  have kc5 := k5.keeps st4
  refine comp1_to (L := L) rfl C0 (fun i G' rs => G' = G ∧ Paired (Pair G) rs ((ps.take i).filter qs.contains)) S F3 N3 O ⟨rfl, .nil⟩ ?len ?turn ?done
  case len =>
    rintro i G' rs ⟨rfl, hrs⟩
    rw [Paired.len hrs, sizeLine_eq]
    have h1 := List.length_filter_le qs.contains (ps.take i)
    rw [List.length_take] at h1; (first | lia | omega)
  case turn =>
    rintro i v C D2 Gi mi rs kk h5 tk5 oI E₁ hi hv ⟨rfl, hrs⟩ Si gi F5 N5 O5
    simp only [List.cons_append, List.nil_append] at N5
    dsimp only at F5 N5 ⊢
    (refine impApp (Paired.get hsP i v hv) ?_; refine cex1 ?_; rintro pr; refine cand2 ?_; rintro hpr hPv)
    (refine impApp (id hPv) ?_; refine cex3 ?_; rintro pa pt pu; refine cand2 ?_; rintro rfl hpT)
    have hst := List.take_add_one (l := ps) (i := i)
    rw [hpr] at hst
    walk_at "GO"
    rename_i h6 F6 N6
    have gk : Gi.StaysIn h6 := Si.keep (news := [(I, oI), (D2, listOf rs.toArray kk)]) F6 N6
    refine in_pairs (stays_list gk hoL.isList) (hoP.mono fun _ _ r => Pair.mono r gk) (Pair.mono hPv gk) (by walk_at "MINE room") ?_
    walk_at "GO"
    · rename_i hc
      refine ⟨_, _, Gi, _, rfl, Si, StaysIn.refl _, F6, N6, O5, rfl, ?_⟩
      rw [hst, List.filter_append, Option.toList_some, List.filter_cons, hc, if_pos rfl, List.filter_nil]
      exact Paired.append hrs (.cons hPv .nil)
    · rename_i hc
      refine ⟨_, _, Gi, _, rfl, Si, StaysIn.refl _, F6, N6, O5, rfl, ?_⟩
      rw [hst, List.filter_append, Option.toList_some, List.filter_cons, hc, if_neg Bool.false_ne_true, List.filter_nil, List.append_nil]
      exact hrs
  case done =>
    rintro D3 Gn G3 rs kk h5 tk5 ⟨rfl, hrs⟩ gst hD3 gs3 S3 O3 F5 N5
    rw [Paired.len hsP, List.take_length] at hrs
    clear C0
    simp only [List.cons_append, List.nil_append] at N5
    dsimp only
    walk_at "GO"
    exact ⟨_, _, G3, _, rfl, S3, F5, N5, O3, gs3, ⟨⟨_, rfl⟩, ⟨x1, rfl, hR1.mono gs3⟩, ⟨x2, rfl, hR2.mono gs3⟩, ⟨x3, rfl, hR3.mono gs3⟩⟩, ⟨.ref sa, rfl, Spans.mono hSP gs3⟩, .ref D3, rfl, D3, rs, rfl, LL.of hD3, hrs.mono fun _ _ r => Pair.mono r gs3⟩
end
/-! part Lw13 -/
section
variable {w : World} {p : Program} {loose : List Str} {mean : ExcName → Option Value} {mg mb : Str → Option Value} {B : Heap} {L fa : Addr} {cd : Value} {dp un : Nat} {fr : Option (List Env)} {gd : Option (List Code)} {s : Shared} {m : Str → Option Value} {h : Heap} {tk : Nat} {G : Heap} {E : Value → Shared → Prop}
def Stars (m : Str → Option Value) (us1 us2 : List Str) : Prop := m (Str.ofString "star") = some (.bool (us1.contains starS)) ∧ m (Str.ofString "stars") = some (.bool (us2.contains starS))
theorem seg18 {o6 o7 : Obj} {t : Str} {f g q : List Int} {us1 rs1 us2 rs2 : List Str} {ps bs : List (Int × Int)} (hd : dp + 30 < recursionLimit) (hu : un + 400 < cLine) (X : (Mine.hd.heap_39 w.params).In B) (T : Top p loose mean mg mb B)
    (S : Gs B B G) (F : Fr B L h m) (N : News B L h (cells2 L o6 o7 ++ gl B G)) (O : Off G (cells2 L o6 o7)) (hF : Figs G L f g q) (h4 : Last w G m t us1 rs1 us2 rs2) (hsp : HasSpans G m "spans" ps) (hsb : HasSpans G m "both" bs) :
    wpAny (model PR w) (lawA dp fr gd un L fa cd) (execs ((lawBody.drop 23).take 2) (lawEnv L fa cd)) (fun f' s' => f' = .next ∧ St s B L (cells2 L o6 o7) (fun G' m' => G.StaysIn G' ∧ Last w G' m' t us1 rs1 us2 rs2 ∧ HasSpans G' m' "spans" ps ∧ HasSpans G' m' "both" bs ∧ Stars m' (words f q) (words g q)) s') E { s with heap := h, toks := tk } := by
  show wpAny _ _ (execs [_, _] (envOfC _ { kind := _, names := _, isGenerator := _, isCoroutine := _, more := _ } _ _ _)) _ _ _
  obtain ⟨⟨tt, em⟩, ⟨x1, e1, hR1⟩, ⟨x2, e2, hR2⟩, ⟨x3, e3, hR3⟩⟩ := h4
  (revert hsp; refine cex1 ?_; rintro spv; refine cand2 ?_; rintro eS hSP)
  (revert hsb; refine cex1 ?_; rintro bpv; refine cand2 ?_; rintro eB hBP)
  obtain ⟨⟨a1, k1, v1, hL1, hI1⟩, ⟨a2, k2, v2, hL2, hI2⟩, ⟨a3, k3, v3, hL3, hI3⟩, l1, l2, l3, b1, b2, b3⟩ := hF
  have hs1 := star_reads f q
  have hs2 := star_reads g q
  (refine impApp (len4 l1) ?_; refine cex4 ?_; rintro f0 f1 f2 f3 rfl)
  (refine impApp (len4 l2) ?_; refine cex4 ?_; rintro g0 g1 g2 g3 rfl)
  (refine impApp (len4 l3) ?_; refine cex4 ?_; rintro q0 q1 q2 q3 rfl)
  have hl1 : (Str.ofString "*").length ≤ 100 := by decide +kernel
  rw [m_see em, m_see e1, m_see e2, m_see e3, m_see eS, m_see eB] at F
  simp only [List.cons_append, List.nil_append] at N
  walk_at "MINE fill"
  (try dsimp only); (try k_fold)
  walk_at "GO"
  refine (ends1 w G a1 v1 f0 f1 f2 f3 (Str.ofString "*") _ 0 _ (.ref a3) [q0, q1, q2, q3] hL1 hI1 (b1 f0 (by simp)) (b1 f1 (by simp)) (b1 f2 (by simp)) (b1 f3 (by simp)) (fun h => absurd h (by decide)) (by decide) (by decide) hl1 (fun _ => ⟨a3, v3, q0, q1, q2, q3, rfl, hL3, hI3, rfl, b3 q0 (by simp), b3 q1 (by simp), b3 q2 (by simp), b3 q3 (by simp)⟩)).use rfl (by walk_at "MINE room") (by walk_at "MINE room") X T F (news := cells2 L o6 o7) N S O ?_
  (rintro v9 h9 tk9 G9 st9 S9 O9; refine cex2 ?_; rintro c cvs; refine cand3 ?_; rintro rfl hcL hci F9 N9)
  generalize hends : endsF 1 (Str.ofString "*") [f0, f1, f2, f3] [q0, q1, q2, q3] 0 = ends at hci hs1
  replace k2 : G9.IsCell (L + 1 + 1) (some (Value.ref a2)) := k2.keeps st9
  replace k3 : G9.IsCell (L + 1 + 1 + 1) (some (Value.ref a3)) := k3.keeps st9
  simp only [List.cons_append, List.nil_append] at N9
  dsimp only
  walk_at "GO"
  rename_i h10 F10 N10
  refine (ends1 w G9 a2 v2 g0 g1 g2 g3 (Str.ofString "*") _ 0 _ (.ref a3) [q0, q1, q2, q3] (hL2.mono st9) hI2 (b2 g0 (by simp)) (b2 g1 (by simp)) (b2 g2 (by simp)) (b2 g3 (by simp)) (fun h => absurd h (by decide)) (by decide) (by decide) hl1 (fun _ => ⟨a3, v3, q0, q1, q2, q3, rfl, hL3.mono st9, hI3, rfl, b3 q0 (by simp), b3 q1 (by simp), b3 q2 (by simp), b3 q3 (by simp)⟩)).use rfl (by walk_at "MINE room") (by walk_at "MINE room") X T F10 (news := cells2 L o6 o7) N10 S9 O9 ?_
  (rintro v11 h11 tk11 G11 st11 S11 O11; refine cex2 ?_; rintro c' cvs'; refine cand3 ?_; rintro rfl hcL' hci' F11 N11)
  generalize hends' : endsF 1 (Str.ofString "*") [g0, g1, g2, g3] [q0, q1, q2, q3] 0 = ends' at hci' hs2
  simp only [List.cons_append, List.nil_append] at N11
  dsimp only
  walk_at "GO"
  rename_i h12 F12 N12
  have stt := StaysIn.trans st9 st11
  refine ⟨h12, _, G11, _, rfl, S11, F12, N12, O11, stt, ⟨⟨_, rfl⟩, ⟨x1, rfl, hR1.mono stt⟩, ⟨x2, rfl, hR2.mono stt⟩, ⟨x3, rfl, hR3.mono stt⟩⟩, ⟨spv, rfl, Spans.mono hSP stt⟩, ⟨bpv, rfl, Spans.mono hBP stt⟩, ?_, ?_⟩
  · rw [show starS = Str.ofString "*" from rfl, ← hs1]; rfl
  · rw [show starS = Str.ofString "*" from rfl, ← hs2]; rfl
end
/-! part Lp2 -/
section
variable {w : World} {A : Around} {s : Shared} {env : Env} {B G₀ G : Heap} {m : Str → Option Value} {news : List (Addr × Obj)} {E : Value → Shared → Prop}
/-- a for over range(n) -/
theorem for_range {r L : Addr} {n : Nat} {t u v : Tok} {target : Expr} {body : List Stmt} {Q : Flow → Shared → Prop}
    (hL : env.locals = L) (hh : A.handled = none) (J : Nat → Heap → (Str → Option Value) → List (Addr × Obj) → Prop) (X : Heap → (Str → Option Value) → List (Addr × Obj) → Prop) (hr : IsRange s.heap r 0 (n : Int) 1 t u v) (hn : n < 2 ^ 62)
    (S : Gs B G₀ G) (F : Fr B L s.heap m) (N : News B L s.heap (news ++ gl B G)) (O : Off G news) (hj : J 0 G m news)
    (turn : ∀ i v Gi mi ni h tk I oI Q' E', (∀ v s', Q (.ret v) s' → Q' (.ret v) s') → i < n → (∃ t, v = Value.int (i : Int) t) → J i Gi mi ni → ni.map (·.1) = news.map (·.1) → Gs B G₀ Gi → G.StaysIn Gi → Fr B L h mi → News B L h ((I, oI) :: ni ++ gl B Gi) → Off Gi ((I, oI) :: ni) → (∀ p ∈ ni, p.1 ≠ I) →
      wpAny (model PR w) A (assign target env v) (fun _ s₂ => wpAny (model PR w) A (execs body env) (TurnPost s B G₀ L I oI (news.map (·.1)) Gi (J (i + 1)) X Q') E' s₂) E' { s with heap := h, toks := tk })
    (hX : ∀ Gn mn nn, J n Gn mn nn → X Gn mn nn)
    (done : ∀ Gn mn nn h tk, X Gn mn nn → Gs B G₀ Gn → G.StaysIn Gn → Fr B L h mn → News B L h (nn ++ gl B Gn) → Off Gn nn → nn.map (·.1) = news.map (·.1) → Q .next { s with heap := h, toks := tk })
    (ht : ∀ I v, letOwnedTupleGo target (.ref I) v = pure () := by intro _ _; rfl) :
    wpAny (model PR w) A (pyIter (.ref r)) (fun it s₂ => codeAny (model PR w) A (.forLoop target it body [] env) (fun r s' => match r with | .ok f => Q f s' | .error e => cameBackBy (model PR w) A env E e s') s₂) E s := by
  subst hL
  have hGs := S.keep F N
  have hfr : ∀ {X : Heap}, X.StaysIn s.heap → X.get? s.heap.objs.size = none := fun k => Heap.StaysIn.fresh k
  refine wpAny_pyIter_range hr (small_one (by (first | lia | omega)) (by (first | lia | omega)) (by (first | lia | omega)) (by (first | lia | omega))) ?_
  have hrs : Builtin.Range.rangeSize 0 (n : Int) 1 = (n : Int) := by rw [rangeSize_one]; split <;> (first | lia | omega)
  have W := Walks.range (prog := PR) (w := w) hh s.heap.objs.size 0 1 n
  have hP : (fun (i : Nat) (v : Value) => ∃ t, v = Value.int (0 + (i : Int) * 1) t) = fun (i : Nat) v => ∃ t, v = Value.int (i : Int) t := by funext i v; simp
  rw [hP] at W
  refine for_walk (news := news) (G := G) W J X (fun i h st => ⟨_, st⟩) (fun b hb hbI => absurd (List.mem_singleton.mp hb) hbI) ?_ S (F.push _)
    (fun p hp => ⟨Heap.get?_push_of_some _ (N p hp).1, (N p hp).2⟩) O (hfr F.keep) (Nat.ne_of_gt F.ns.lt) ?_ (hfr hGs) hj ?_ hX ?_ (ht _)
  · show Heap.get? _ _ = _
    rw [Heap.get?_push_size _ rfl, hrs]
    simp
  · intro hm
    (refine impApp (List.mem_map.mp hm) ?_; refine cex1 ?_; rintro p; refine cand2 ?_; rintro hp e)
    have := Heap.lt_size (N p (List.mem_append_left _ hp)).1
    rw [e] at this; exact Nat.lt_irrefl _ this
  · intro i v Gi mi ni h tk oI Q' E' hq hi hP
    exact turn i v Gi mi ni h tk _ oI Q' E' hq hi hP
  · exact done
theorem and_names {x y : Str} {px py pos : Pos} {b1 b2 : Bool} {L : Addr} {Q : Value → Shared → Prop} (hL : env.locals = L) (F : Fr B L s.heap m) (h1 : m x = some (.bool b1)) (h2 : m y = some (.bool b2)) (h : Q (.bool (b1 && b2)) s)
    (hk : env.scope.kind = .function) (hx : env.kindOf x = some .local) (hy : env.kindOf y = some .local) (hdx : (x == ("__debug__" : Str)) = false) (hdy : (y == ("__debug__" : Str)) = false) :
    wpAny (model PR w) A (eval (.BoolOp .And [.Name x px, .Name y py] pos) env) Q E s := by
  refine BoolOp_and (nameE_L hL F h1 ?_ hk hx hdx)
  refine wpAny_truthy_bool ?_
  cases b1 with
  | false => exact h
  | true => exact BoolOp_one (nameE_L hL F h2 h hk hy hdy)
/-- the method of a record -/
theorem rec_app {x u r L : Addr} {dl rt : Value} {pl : Sem Bool} {Q : Value × List Value → Shared → Prop} (X : (Mine.hd.heap_39 w.params).In B) (F : Fr B L s.heap m) (R : RecAt w s.heap x u r dl rt) (h : Q (.ref 49, [.ref x]) s) : wpAny (model PR w) A (getMethod (.ref x) (Str.ofString "applies_to") pl) Q E s := by
  (revert R; refine cex5 ?_; rintro d t1 t2 t3 t4; refine cand2 ?_; rintro a b)
  unfold recD at b
  walk_at "MINE fill"
  k_dflt (refine' method_inst F X (InstAt.mk (ox := instObj 59 d) a rfl ?no b) ?k4 ?k5 ?k6 ?k7 h; (case no => rfl); (case k4 => k_is); (case k5 => k_is); (case k6 => k_is); (case k7 => k_get))
theorem isnot_same {b : Bool} {Q : Value → Shared → Prop} (h : Q (.bool false) s) : wpAny (model PR w) A (compareOp .IsNot (.bool b) (.bool b)) Q E s := wpAny_isNot_self rfl h
end
/-! part Lw14 -/
theorem words11 : True := by
  k_with "compareOp IsNot bool bool" => ((with_reducible refine isnot_same ?_))
  trivial
theorem words12 : True := by
  k_with "getMethod ref" => (((with_reducible show wpAny _ _ (getMethod (Value.ref _) (Str.ofString "applies_to") _) _ _ _); k_dflt (refine' rec_app ?hqX ?hqF ?hqR ?_; (case hqF => k_asm); (case hqX => k_asm); (case hqR => walk_at "MINE rec"); k_whole)))
  trivial
def bigBody : List Stmt := match lawBody.drop 25 with
  | Stmt.For _ _ b _ _ :: _ => b
  | _ => []
section
variable {w : World} {p : Program} {loose : List Str} {mean : ExcName → Option Value} {mg mb : Str → Option Value} {B : Heap} {L fa : Addr} {cd : Value} {dp un : Nat} {fr : Option (List Env)} {gd : Option (List Code)} {s : Shared} {m : Str → Option Value} {h : Heap} {tk : Nat} {G : Heap} {E : Value → Shared → Prop}
/-- the two cells of the last loop -/
def Cells2 (L : Addr) (ni : List (Addr × Obj)) : Prop := ∃ o6 o7 v6 v7, ni = cells2 L o6 o7 ∧ o6.data = .cell v6 ∧ o7.data = .cell v7
theorem any_mapf {α β : Type} (f : α → Bool) (g : α → β) : ∀ l : List α, (!(List.map g (List.filter f l)).isEmpty) = l.any f
  | [] => rfl
  | a :: l => by
    rw [List.filter_cons, List.any_cons]
    cases h : f a with
    | true => simp
    | false => simpa using any_mapf f g l
def End19 (s : Shared) (B G : Heap) (L I : Addr) (oI : Obj) (t : Str) (tt : Tok) (s' : Shared) : Prop := ∃ h' tk' G' m' ni, s' = { s with heap := h', toks := tk' } ∧ Gs B B G' ∧ G.StaysIn G' ∧ Fr B L h' m' ∧ News B L h' ((I, oI) :: ni ++ gl B G') ∧ Off G' ((I, oI) :: ni) ∧ Cells2 L ni ∧ m' (Str.ofString "text") = some (Value.str t tt)
theorem turn19 {o6 o7 oI : Obj} {I xr : Addr} {rv : Value} {v6 v7 : Option Value} {t : Str} {tt tlw : Tok} {us rs : List Str} {rd : List (Int × Int)} (hd : dp + 30 < recursionLimit) (hu : un + 400 < cLine) (X : (Mine.hd.heap_39 w.params).In B) (T : Top p loose mean mg mb B)
    (S : Gs B B G) (F : Fr B L h m) (N : News B L h ((I, oI) :: cells2 L o6 o7 ++ gl B G)) (O : Off G ((I, oI) :: cells2 L o6 o7))
    (em : m (Str.ofString "text") = some (.str t tt)) (er : m (Str.ofString "record") = some (.ref xr)) (ed : m (Str.ofString "read") = some rv) (eb : m (Str.ofString "bare") = some (.bool (us.contains starS)))
    (hX : Rec w G (.ref xr) us rs) (hRD : Spans G rv rd) (hR7 : Reads7 us (lowOf t) rd) (k4 : G.IsCell (L + 1 + 1 + 1 + 1) (some (.str (lowOf t) tlw)))
    (d6 : o6.data = .cell v6) (d7 : o7.data = .cell v7) (hto : txtOk t) (hw : ∀ wd ∈ us, ∀ c ∈ tl wd, Low c) (z : us.length ≤ 8 ∧ ∀ x ∈ us, x.length ≤ 12) (hrd : rd.length ≤ 100) (hne0 : ∀ p ∈ cells2 L o6 o7, p.1 ≠ I) :
    wpAny (model PR w) (lawA dp fr gd un L fa cd) (execs bigBody (lawEnv L fa cd)) (fun f' s' => f' = .next ∧ End19 s B G L I oI t tt s') E { s with heap := h, toks := tk } := by
  show wpAny _ _ (execs [_, _] (envOfC _ { kind := _, names := _, isGenerator := _, isCoroutine := _, more := _ } _ _ _)) _ _ _
  (refine impApp (id hX) ?_; refine cex5 ?_; rintro x' u r uv rv'; refine cand6 ?_; rintro e hRec huL huS hrL hrS)
  cases e
  have hlen : t.length = 6 := hto.1
  have hlow : (lowOf t).length = 6 := by rw [low_len]; exact hto.1
  replace eb : m (Str.ofString "bare") = some (.bool (us.contains (Str.ofString "*"))) := eb
  rw [m_see em, m_see er, m_see ed, m_see eb] at F
  simp only [List.cons_append, List.nil_append] at N
  walk_at "MINE fill"
  (try dsimp only); (try k_fold)
  walk_at "GO"
  refine (applies_none w G xr us rs hX (by (first | lia | omega))).use rfl (by walk_at "MINE room") (by walk_at "MINE room") X T F (news := (I, oI) :: cells2 L o6 o7) N S O ?_
  rintro v1 h1 tk1 G1 st1 S1 O1 rfl F1 N1
  simp only [List.cons_append, List.nil_append] at N1
  dsimp only
  replace k4 := k4.keeps st1
  replace hRec := hRec.mono st1
  replace hX := hX.mono st1
  replace hRD := Spans.mono hRD st1
  walk_at "GO"
  rename_i h2 _ t1 u1 w1 hr F2 N2 _
  clear F N
  refine for_range (n := 7) (L := L) (news := (I, oI) :: cells2 L o6 o7) rfl rfl
    (fun i Gi mi ni => ∃ ni', ni = (I, oI) :: ni' ∧ Cells2 L ni' ∧ mi (Str.ofString "text") = some (.str t tt) ∧ mi (Str.ofString "record") = some (.ref xr) ∧ mi (Str.ofString "read") = some rv)
    (fun Gi mi ni => ∃ ni', ni = (I, oI) :: ni' ∧ Cells2 L ni' ∧ mi (Str.ofString "text") = some (.str t tt))
    hr (by decide) S1 F2 N2 O1 ⟨_, rfl, ⟨o6, o7, v6, v7, rfl, d6, d7⟩, rfl, rfl, rfl⟩ ?turn ?hX ?done
  case hX =>
    (rintro Gn mn nn; refine cex1 ?_; rintro ni'; refine cand5 ?_; rintro e1 e2 e3 _ _)
    exact ⟨ni', e1, e2, e3⟩
  case done =>
    (rintro Gn mn nn h3 tk3; refine cex1 ?_; rintro ni'; refine cand3 ?_; rintro rfl e2 e3 Sn gn Fn Nn On _)
    dsimp only
    walk_at "GO"
    exact ⟨h3, _, Gn, mn, ni', rfl, Sn, StaysIn.trans st1 gn, Fn, Nn, On, e2, e3⟩
  case turn =>
    (rintro i v Gi mi ni h3 tk3 I2 oI2 Q₂ E₂ hq hi ⟨tv, rfl⟩; refine cex1 ?_; rintro ni'; refine cand5 ?_; rintro rfl ⟨p6, p7, y6, y7, rfl, d6', d7'⟩ e1 e2 e3 _ Si gi Fi Ni Oi hne)
    rw [m_see e1, m_see e2, m_see e3] at Fi
    simp only [List.cons_append, List.nil_append] at Ni
    have oc6 : Gi.get? (L + 1 + 1 + 1 + 1 + 1 + 1) = none := Oi (L + 1 + 1 + 1 + 1 + 1 + 1, p6) (by k_mem)
    have oc7 : Gi.get? (L + 1 + 1 + 1 + 1 + 1 + 1 + 1) = none := Oi (L + 1 + 1 + 1 + 1 + 1 + 1 + 1, p7) (by k_mem)
    clear hq F2 N2
    have n1 : @Ne Nat (L + 1 + 1 + 1 + 1 + 1 + 1) I := hne0 (L + 1 + 1 + 1 + 1 + 1 + 1, o6) (by k_mem)
    have n2 : @Ne Nat (L + 1 + 1 + 1 + 1 + 1 + 1 + 1) I := hne0 (L + 1 + 1 + 1 + 1 + 1 + 1 + 1, o7) (by k_mem)
    have n3 : @Ne Nat (L + 1 + 1 + 1 + 1 + 1 + 1) I2 := hne (L + 1 + 1 + 1 + 1 + 1 + 1, p6) (by k_mem)
    have n4 : @Ne Nat (L + 1 + 1 + 1 + 1 + 1 + 1 + 1) I2 := hne (L + 1 + 1 + 1 + 1 + 1 + 1 + 1, p7) (by k_mem)
    replace k4 := k4.keeps gi
    replace hRec := hRec.mono gi
    replace hX := hX.mono gi
    replace hRD := Spans.mono hRD gi
    dsimp only
    walk_at "GO"
    rename_i h4 q6 dq6 _ _ _ _ h5 q7 F5 N5 dq7
    dsimp only at N5 dq7
    generalize hstop : Txt.find3 (t ++ Str.ofString "/") (Str.ofString "/") (i : Int) = stop at dq7
    (refine impApp (id hRD) ?_; refine cex2 ?_; rintro ra rvs; refine cand3 ?_; rintro rfl hrdL hrdP)
    have O5 : Off Gi [(I2, oI2), (I, oI), (L + 1 + 1 + 1 + 1 + 1 + 1 + 1, q7), (L + 1 + 1 + 1 + 1 + 1 + 1, q6)] := Off.cons (Oi (I2, oI2) (by k_mem)) (Off.cons (Oi (I, oI) (by k_mem)) (Off.cons oc7 (Off.cons oc6 Off.nil)))
    unfold CompIn
    refine src_listT (news := [(I2, oI2), (I, oI), (L + 1 + 1 + 1 + 1 + 1 + 1 + 1, q7), (L + 1 + 1 + 1 + 1 + 1 + 1, q6)]) rfl hrdL.isList Si F5 N5 ?_
    intro I3 h6 fp Stt hPl C0 F6 N6 st6
    have Xc : (Mine.hd.heap_39 w.params).In (less h6 I3) := (X.keeps F5.keep).keeps st6
    have Tc : Top p loose mean mg mb (less h6 I3) := (T.keeps F5.keep).keeps st6
    have st4 : Gi.StaysIn (less h6 I3) := StaysIn.trans (Si.keep (news := [(I2, oI2), (I, oI), (L + 1 + 1 + 1 + 1 + 1 + 1 + 1, q7), (L + 1 + 1 + 1 + 1 + 1 + 1, q6)]) F5 N5) st6
    have kc4 := k4.keeps st4
    have kc6 : (less h6 I3).IsCell (L + 1 + 1 + 1 + 1 + 1 + 1) (some (.int (i : Int) tv)) := Heap.IsCell.keeps ⟨q6, N5.get (by k_mem), dq6⟩ st6
    have kc7 := Heap.IsCell.keeps (show Heap.IsCell h5 (L + 1 + 1 + 1 + 1 + 1 + 1 + 1) _ from ⟨q7, N5.get (by k_mem), dq7⟩) st6
    refine comp1_valT (L := L) hPl rfl C0 (fun j G' rs => G' = Gi ∧ IntsAre rs (((rd.take j).filter (okSpan (lowOf t) (i : Int) stop)).map (·.1))) Si F6 N6 O5 ⟨rfl, .nil⟩ ?len ?turn2 ?done2
    case len =>
      rintro j G' rs ⟨rfl, hrs⟩
      rw [hrs.length, sizeLine_eq, List.length_map]
      have h1 := List.length_filter_le (okSpan (lowOf t) (i : Int) stop) (rd.take j)
      rw [List.length_take] at h1; (first | lia | omega)
    case turn2 =>
      rintro j v C D2 Gj mj rs' kk h7 tk7 oI3 E₃ hj hv ⟨rfl, hrs⟩ Sj _ F7 N7 O7
      (refine impApp (Paired.get hrdP j v hv) ?_; refine cex1 ?_; rintro pr; refine cand2 ?_; rintro hpr hPv)
      (refine impApp (id hPv) ?_; refine cex3 ?_; rintro pa pt pu; refine cand2 ?_; rintro rfl hpT)
      have hst := List.take_add_one (l := rd) (i := j)
      rw [hpr] at hst
      refine assign_tup2 (L := C) rfl rfl F7 N7 (stays_tup (Sj.keep F7 N7) hpT) ?_
      intro h8 tk8 F8 N8
      simp only [List.cons_append, List.nil_append] at N8
      dsimp only at F8 N8 ⊢
      walk_at "GO"
      · rename_i c1 c2 h9 t9 k9 F9 N9 _ hc
        have key : okSpan (lowOf t) (i : Int) stop pr = true := by
          unfold okSpan
          rw [decide_eq_true c1, decide_eq_true c2]
          exact hc
        refine ⟨_, _, Gj, _, rfl, Sj, StaysIn.refl _, F9, N9, O7, rfl, ?_⟩
        rw [hst, List.filter_append, Option.toList_some, List.filter_cons, key, if_pos rfl, List.filter_nil, List.map_append]
        exact intsAre_append hrs (.cons _ _ .nil)
      · rename_i c1 c2 h9 t9 k9 F9 N9 _ hc
        have key : okSpan (lowOf t) (i : Int) stop pr = false := by
          unfold okSpan
          rw [decide_eq_true c1, decide_eq_true c2]
          exact hc
        refine ⟨_, _, Gj, _, rfl, Sj, StaysIn.refl _, F9, N9, O7, rfl, ?_⟩
        rw [hst, List.filter_append, Option.toList_some, List.filter_cons, key, if_neg Bool.false_ne_true, List.filter_nil, List.append_nil]
        exact hrs
      · rename_i c1 c2
        have key : okSpan (lowOf t) (i : Int) stop pr = false := by
          unfold okSpan
          rw [decide_eq_true c1, decide_eq_false c2]; rfl
        refine ⟨_, _, Gj, _, rfl, Sj, StaysIn.refl _, F8, N8, O7, rfl, ?_⟩
        rw [hst, List.filter_append, Option.toList_some, List.filter_cons, key, if_neg Bool.false_ne_true, List.filter_nil, List.append_nil]
        exact hrs
      · rename_i c1
        have key : okSpan (lowOf t) (i : Int) stop pr = false := by
          unfold okSpan
          rw [decide_eq_false c1]; rfl
        refine ⟨_, _, Gj, _, rfl, Sj, StaysIn.refl _, F8, N8, O7, rfl, ?_⟩
        rw [hst, List.filter_append, Option.toList_some, List.filter_cons, key, if_neg Bool.false_ne_true, List.filter_nil, List.append_nil]
        exact hrs
    case done2 =>
      rintro D3 Gn G3 rs3 kk h7 tk7 ⟨rfl, hrs⟩ gst hD3 gs3 S3 O3 F7 N7
      rw [Paired.len hrdP, List.take_length] at hrs
      clear C0 F6 N6 F5 N5 Xc Tc
      have hDL := LL.of hD3
      replace hRec := hRec.mono gs3
      replace hX := hX.mono gs3
      have oc6 : G3.get? (L + 1 + 1 + 1 + 1 + 1 + 1) = none := O3 (L + 1 + 1 + 1 + 1 + 1 + 1, q6) (by k_mem)
      have oc7 : G3.get? (L + 1 + 1 + 1 + 1 + 1 + 1 + 1) = none := O3 (L + 1 + 1 + 1 + 1 + 1 + 1 + 1, q7) (by k_mem)
      have hfl := List.length_filter_le (okSpan (lowOf t) (i : Int) stop) rd
      simp only [List.cons_append, List.nil_append] at N7
      dsimp only
      walk_at "GO"
      rename_i h9 t9 k9 F9 N9 z9
      have hdue : (!(List.map (fun x => x.fst) (List.filter (okSpan (lowOf t) (i : Int) stop) rd)).isEmpty) = us.any (appF (Txt.slice t (some (i : Int)) none)) := by
        rw [applies_due hto hw hR7 (show i ≤ 6 by (first | lia | omega)), hstop]
        exact any_mapf _ _ rd
      rw [hdue] at F9
      have N9' : News B L h9 ([(I2, oI2), (I, oI), (L + 1 + 1 + 1 + 1 + 1 + 1 + 1, q7), (L + 1 + 1 + 1 + 1 + 1 + 1, q6)] ++ gl B G3) := fun p hp => N9 p (.tail _ hp)
      clear N9
      refine (applies_str w G3 xr us rs (Txt.slice t (some (i : Int)) none) t9 hX (by (first | lia | omega)) (fun a ha => by have := z.2 a ha; (first | lia | omega)) (by (first | lia | omega))).use rfl (by walk_at "MINE room") (by walk_at "MINE room") X T F9 (news := [(I2, oI2), (I, oI), (L + 1 + 1 + 1 + 1 + 1 + 1 + 1, q7), (L + 1 + 1 + 1 + 1 + 1 + 1, q6)]) N9' S3 O3 ?_
      rintro v10 h10 tk10 G10 st10 S10 O10 rfl F10 N10
      simp only [List.cons_append, List.nil_append] at N10
      dsimp only
      walk_at "GO"
      exact ⟨_, _, G10, _, (I, oI) :: cells2 L q6 q7, rfl, S10, StaysIn.trans gs3 st10, F10, N10, O10, rfl, _, rfl, ⟨q6, q7, _, _, rfl, dq6, dq7⟩, rfl, rfl, rfl⟩
end
/-! part Lw15 -/
theorem words13 : True := by
  k_with "eval BoolOp" => (((with_reducible show wpAny _ _ (eval (PySem.Expr.BoolOp BoolOp.And [PySem.Expr.Name _ _, PySem.Expr.Name _ _] _) _) _ _ _); k_dflt (refine' and_names ?hqhL ?hqF ?hqh1 ?hqh2 ?_ ?hqa ?hqb ?hqc ?hqd ?hqe; (case hqa => rfl); (case hqb => rfl); (case hqc => rfl); (case hqd => rfl); (case hqe => rfl); (case hqF => k_asm); (case hqhL => rfl); (case hqh1 => rfl); (case hqh2 => rfl); k_whole)))
  trivial
section
variable {w : World} {p : Program} {loose : List Str} {mean : ExcName → Option Value} {mg mb : Str → Option Value} {B : Heap} {L fa : Addr} {cd : Value} {dp un : Nat} {fr : Option (List Env)} {gd : Option (List Code)} {s : Shared} {m : Str → Option Value} {h : Heap} {tk : Nat} {G : Heap} {E : Value → Shared → Prop}
def Ret19 (s : Shared) (B : Heap) (s' : Shared) : Prop := ∃ h' tk', s' = { s with heap := h', toks := tk' } ∧ B.StaysIn h'
theorem seg19 {o6 o7 : Obj} {v6 v7 : Option Value} {t : Str} {us1 rs1 us2 rs2 : List Str} {ps qs : List (Int × Int)} (hd : dp + 30 < recursionLimit) (hu : un + 400 < cLine) (X : (Mine.hd.heap_39 w.params).In B) (T : Top p loose mean mg mb B)
    (S : Gs B B G) (F : Fr B L h m) (N : News B L h (cells2 L o6 o7 ++ gl B G)) (O : Off G (cells2 L o6 o7)) (h4 : Last w G m t us1 rs1 us2 rs2) (hsp : HasSpans G m "spans" ps) (hsb : HasSpans G m "both" (ps.filter qs.contains)) (hcs : CellSpans G L qs) (hlc : LowCell G L (lowOf t)) (hst : Stars m us1 us2)
    (d6 : o6.data = .cell v6) (d7 : o7.data = .cell v7) (hto : txtOk t) (hR1 : Reads7 us1 (lowOf t) ps) (hR2 : Reads7 us2 (lowOf t) qs) (hw1 : ∀ wd ∈ us1, ∀ c ∈ tl wd, Low c) (hw2 : ∀ wd ∈ us2, ∀ c ∈ tl wd, Low c)
    (z1 : us1.length ≤ 8 ∧ ∀ x ∈ us1, x.length ≤ 12) (z2 : us2.length ≤ 8 ∧ ∀ x ∈ us2, x.length ≤ 12) (hps : ps.length ≤ 100) (hqs : qs.length ≤ 100) :
    wpAny (model PR w) (lawA dp fr gd un L fa cd) (execs (lawBody.drop 25) (lawEnv L fa cd)) (fun f' s' => f' = .ret (.bool true) ∧ Ret19 s B s') E { s with heap := h, toks := tk } := by
  show wpAny _ _ (execs [_, _] (envOfC _ { kind := _, names := _, isGenerator := _, isCoroutine := _, more := _ } _ _ _)) _ _ _
  obtain ⟨⟨tt, em⟩, ⟨x1, e1, hX1⟩, ⟨x2, e2, hX2⟩, ⟨x3, e3, hX3⟩⟩ := h4
  (revert hsp; refine cex1 ?_; rintro spv; refine cand2 ?_; rintro eS hSP)
  (revert hsb; refine cex1 ?_; rintro bpv; refine cand2 ?_; rintro eB hBP)
  (revert hcs; refine cex1 ?_; rintro opv; refine cand2 ?_; rintro k5 hOP)
  obtain ⟨tlw, k4⟩ := hlc
  obtain ⟨eT1, eT2⟩ := hst
  rw [m_see em, m_see e1, m_see e2, m_see e3, m_see eS, m_see eB, m_see eT1, m_see eT2] at F
  simp only [List.cons_append, List.nil_append] at N
  walk_at "MINE fill"
  (try dsimp only); (try k_fold)
  walk_at "GO"
  rename_i Da _ la Db _ lb Dc _ lc D h2 F2 N2 ld
  (refine impApp (freezes [(D, { cls := Value.type "tuple", data := Data.seq #[Value.ref Da, Value.ref Db, Value.ref Dc] }), (Dc, { cls := Value.type "tuple", data := Data.seq #[Value.ref x3, bpv, Value.bool (us1.contains starS && us2.contains starS)] }), (Db, { cls := Value.type "tuple", data := Data.seq #[Value.ref x2, opv, Value.bool (us2.contains starS)] }), (Da, { cls := Value.type "tuple", data := Data.seq #[Value.ref x1, spv, Value.bool (us1.contains starS)] })] (cells2 L o6 o7) (news := [(D, _), (Dc, _), (Db, _), (Da, _), (L + 1 + 1 + 1 + 1 + 1 + 1 + 1, o7), (L + 1 + 1 + 1 + 1 + 1 + 1, o6)]) S F2 N2 (fun p => Iff.rfl)) ?_; refine cex1 ?_; rintro G2; refine cand5 ?_; rintro S2 g2 fz2 N3 off2)
  have O2 : Off G2 (cells2 L o6 o7) := Off.cons (off2 _ (by walk_at "MINE offz") (O (L + 1 + 1 + 1 + 1 + 1 + 1 + 1, o7) (by k_mem))) (Off.cons (off2 _ (by walk_at "MINE offz") (O (L + 1 + 1 + 1 + 1 + 1 + 1, o6) (by k_mem))) Off.nil)
  have hT0 : IsTup G2 D [Value.ref Da, Value.ref Db, Value.ref Dc].toArray := ⟨_, fz2 (D, _) (.head _), rfl, _, rfl⟩
  have hTa : IsTup G2 Da #[Value.ref x1, spv, Value.bool (us1.contains starS)] := ⟨_, fz2 (Da, _) (.tail _ (.tail _ (.tail _ (.head _)))), rfl, _, rfl⟩
  have hTb : IsTup G2 Db #[Value.ref x2, opv, Value.bool (us2.contains starS)] := ⟨_, fz2 (Db, _) (.tail _ (.tail _ (.head _))), rfl, _, rfl⟩
  have hTc : IsTup G2 Dc #[Value.ref x3, bpv, Value.bool (us1.contains starS && us2.contains starS)] := ⟨_, fz2 (Dc, _) (.tail _ (.head _)), rfl, _, rfl⟩
  rw [← both_contains] at hTc
  refine for_tupT (L := L) (news := cells2 L o6 o7) (vs := [Value.ref Da, Value.ref Db, Value.ref Dc]) rfl rfl
    (fun i Gi mi ni => Cells2 L ni ∧ mi (Str.ofString "text") = some (.str t tt))
    (fun Gi mi ni => True)
    hT0 S2 F2 N3 O2 ⟨⟨o6, o7, v6, v7, rfl, d6, d7⟩, rfl⟩ ?turn (fun _ _ _ _ => trivial) ?done
  case done =>
    rintro Gn mn nn h3 tk3 _ Sn gn Fn Nn On _
    dsimp only
    walk_at "GO"
    exact ⟨_, _, rfl, Fr.keep (by k_asm)⟩
  case turn =>
    rintro i v Gi mi ni h3 tk3 I oI Q₂ E₂ hq hv ⟨⟨p6, p7, y6, y7, rfl, d6', d7'⟩, e1⟩ _ Si gi Fi Ni Oi hne
    have item : ∃ Dx x rv us rs rd, v = .ref Dx ∧ IsTup G2 Dx #[.ref x, rv, .bool (us.contains starS)] ∧ Rec w G (.ref x) us rs ∧ Spans G rv rd ∧ Reads7 us (lowOf t) rd ∧ (∀ wd ∈ us, ∀ c ∈ tl wd, Low c) ∧ (us.length ≤ 8 ∧ ∀ x ∈ us, x.length ≤ 12) ∧ rd.length ≤ 100 := by
      match i, hv with
      | 0, hv => cases hv; exact ⟨Da, x1, spv, us1, rs1, ps, rfl, hTa, hX1, hSP, hR1, hw1, z1, hps⟩
      | 1, hv => cases hv; exact ⟨Db, x2, opv, us2, rs2, qs, rfl, hTb, hX2, hOP, hR2, hw2, z2, hqs⟩
      | 2, hv => cases hv; exact ⟨Dc, x3, bpv, both us1 us2, rs1 ++ rs2, _, rfl, hTc, hX3, hBP, both_reads hR1 hR2, fun wd hwd => hw1 wd (List.mem_filter.mp hwd).1, ⟨Nat.le_trans (List.length_filter_le _ _) z1.1, fun y hy => z1.2 y (List.mem_filter.mp hy).1⟩, Nat.le_trans (List.length_filter_le _ _) hps⟩
      | n + 3, hv => cases hv
    (revert item; refine cex6 ?_; rintro Dx x rv us rs rd; refine cand8 ?_; rintro rfl hTx hXx hRx hR7 hwx zx hrdx)
    have g0 := StaysIn.trans g2 gi
    rw [m_see e1] at Fi
    refine assign_tup3 (L := L) rfl rfl Fi Ni (stays_tup (Si.keep (news := (I, oI) :: cells2 L p6 p7) Fi Ni) (stays_tup gi hTx)) ?_
    intro h4 tk4 F4 N4
    (try dsimp only at F4 N4)
    show wpAny _ _ (execs bigBody (lawEnv L fa cd)) _ _ _
    refine wpAny_mono (turn19 (xr := x) (rv := rv) (rd := rd) (us := us) (rs := rs) (t := t) (tt := tt) (tlw := tlw) hd hu X T Si F4 N4 Oi rfl rfl rfl rfl (hXx.mono g0) (Spans.mono hRx g0) hR7 (k4.keeps g0) d6' d7' hto hwx zx hrdx hne) (fun f s' hp => ?_) (fun _ _ e => e)
    (revert hp; refine cand2 ?_; rintro rfl; refine cex5 ?_; rintro h5 tk5 G5 m5 n5; refine cand8 ?_; rintro rfl S5 g5 F5 N5 O5 hc5 e5)
    refine ⟨h5, tk5, G5, m5, n5, rfl, S5, g5, F5, N5, O5, ?_, hc5, e5⟩
    (revert hc5; refine cex4 ?_; rintro a6 a7 b6 b7; refine cand3 ?_; rintro rfl _ _)
    rfl
end
/-! part Lall -/
theorem spansF_len {f q : List Int} {low : Str} (l4 : f.length = 4) (l4' : q.length = 4) : (spansF f q low).length ≤ 100 := by
  have h1 : ∀ n : Nat, ((List.range n).flatMap fun (st : Nat) => (endsF 1 low f q (st : Int)).map fun e => ((st : Int), e)).length ≤ n * 8 := by
    intro n
    induction n with
    | zero => simp
    | succ n ih =>
      rw [List.range_succ, List.flatMap_append, List.length_append]
      have := ends_len (nm := low) (st := (n : Int)) l4 l4'
      simp only [List.flatMap_cons, List.flatMap_nil, List.append_nil, List.length_map]
      (first | lia | omega)
  have := h1 7
  unfold spansF
  (first | lia | omega)
theorem words_rules_len (F H : List Int) : (words F H).length = (rules F H).length := by
  unfold words rules
  rw [List.length_map, List.length_map]
theorem stepT {M : Model} {A : Around} {Q : Flow → Shared → Prop} {E : Value → Shared → Prop} {env : Env} {s : Shared} {l : List Stmt} {Q₁ : Shared → Prop} (i n j : Nat) (hj : i + n = j) (hk : 1 ≤ s.toks)
    (h : wpAny M A (execs ((l.drop i).take n) env) (fun f s' => f = .next ∧ Q₁ s') E s) (h2 : ∀ s', 1 ≤ s'.toks → Q₁ s' → wpAny M A (execs (l.drop j) env) Q E s') : wpAny M A (execs (l.drop i) env) Q E s := by
  subst hj
  have e : l.drop i = (l.drop i).take n ++ l.drop (i + n) := by rw [← List.drop_drop, List.take_append_drop]
  rw [e, execs_append]
  refine wpAny_bind (wpAny_mono (wpAny_toks_of hk h) (fun f s' h' => ?_) fun _ _ x => x.2)
  (revert h'; refine cand3 ?_; rintro hk' rfl h')
  exact h2 s' hk' h'
section
variable {w : World} {p : Program} {loose : List Str} {mean : ExcName → Option Value} {mg mb : Str → Option Value} {B : Heap} {L fa : Addr} {cd : Value} {dp un : Nat} {fr : Option (List Env)} {gd : Option (List Code)} {s : Shared} {m : Str → Option Value}
theorem law_all {o1 o2 o3 o4 o5 o6 o7 : Obj} {v6 v7 : Option Value} {a : Addr} {vs : List Value} {ns : List Int} {E : Value → Shared → Prop} (hd : dp + 30 < recursionLimit) (hu : un + 400 < cLine) (X : (Mine.hd.heap_39 w.params).In B) (T : Top p loose mean mg mb B)
    (hl : B.IsList a vs.toArray) (hI : IntsAre vs ns) (hn : ns.length ≤ 63) (hm : m (Str.ofString "script") = some (.ref a))
    (F : Fr B L s.heap m) (N : News B L s.heap (cells7 L o1 o2 o3 o4 o5 o6 o7)) (hLB : B.objs.size ≤ L)
    (d1 : o1.data = .cell none) (d2 : o2.data = .cell none) (d3 : o3.data = .cell none) (d4 : o4.data = .cell none) (d5 : o5.data = .cell none) (d6 : o6.data = .cell v6) (d7 : o7.data = .cell v7) :
    wpAny (model PR w) (lawA dp fr gd un L fa cd) (execs lawBody (lawEnv L fa cd)) (fun f s' => f = .ret (.bool true) ∧ Ret19 s B s') E s := by
  with_reducible refine execs_app (lawBody.take 2) (lawBody.drop 2) (List.take_append_drop 2 _).symm (seg1 hd hu X T hl hI hn hm F N hLB) ?_
  rintro _ ⟨⟨h1, tk1, G1, m1, rfl, S1, F1, N1, O1, num1⟩, ht1⟩
  have j1 : 2 + 1 = 3 := rfl
  with_reducible refine stepT 2 1 3 j1 ht1 (seg2 (s := s) hd hu X T S1 F1 N1 O1 d1 num1) ?_
  (rintro _ ht2; refine cex1 ?_; rintro f; refine cand3 ?_; rintro lf bf; refine cex4 ?_; rintro h2 tk2 G2 m2; refine cand8 ?_; rintro rfl S2 F2 N2 O2 g2 c1 num2)
  have j2 : 3 + 1 = 4 := rfl
  with_reducible refine stepT 3 1 4 j2 ht2 (seg3 (s := s) hd hu X T S2 F2 N2 O2 d2 num2) ?_
  (rintro _ ht3; refine cex1 ?_; rintro g; refine cand3 ?_; rintro lg bg; refine cex4 ?_; rintro h3 tk3 G3 m3; refine cand8 ?_; rintro rfl S3 F3 N3 O3 g3 c2 num3)
  have j3 : 4 + 1 = 5 := rfl
  with_reducible refine stepT 4 1 5 j3 ht3 (seg4 (s := s) hd hu X T S3 F3 N3 O3 d3 num3) ?_
  (rintro _ ht4; refine cex1 ?_; rintro q; refine cand3 ?_; rintro lq bq; refine cex4 ?_; rintro h4 tk4 G4 m4; refine cand8 ?_; rintro rfl S4 F4 N4 O4 g4 c3 num4)
  have fg4 : Figs G4 L f g q := ⟨(c1.mono g3).mono g4, c2.mono g4, c3, lf, lg, lq, bf, bg, bq⟩
  have j4 : 5 + 1 = 6 := rfl
  with_reducible refine stepT 5 1 6 j4 ht4 (seg5 (s := s) hd hu X T S4 F4 N4 O4 num4) ?_
  (rintro _ ht5; refine cex1 ?_; rintro t; refine cand2 ?_; rintro hto; refine cex4 ?_; rintro h5 tk5 G5 m5; refine cand7 ?_; rintro rfl S5 F5 N5 O5 g5 tx5)
  have fg5 := fg4.mono g5
  have tx5' : Txt1 m5 t := tx5
  have wf := words_small lf lq
  have wg := words_small lg lq
  have rf := rules_small lf lq
  have rg := rules_small lg lq
  have ef := words_rules_len f q
  have eg := words_rules_len g q
  have j5 : 6 + 3 = 9 := rfl
  with_reducible refine stepT 6 3 9 j5 ht5 (seg6 (s := s) hd hu X T S5 F5 N5 O5 fg5 tx5') ?_
  (rintro _ ht6; refine cex4 ?_; rintro h6 tk6 G6 m6; refine cand8 ?_; rintro rfl S6 F6 N6 O6 g6 tx6 rc6)
  have fg6 := fg5.mono g6
  have j6 : 9 + 1 = 10 := rfl
  with_reducible refine stepT 9 1 10 j6 ht6 (seg7 (s := s) hd hu X T S6 F6 N6 O6 fg6 tx6 rc6) ?_
  (rintro _ ht7; refine cex4 ?_; rintro h7 tk7 G7 m7; refine cand8 ?_; rintro rfl S7 F7 N7 O7 g7 tx7 rc7)
  have fg7 := fg6.mono g7
  have j7 : 10 + 2 = 12 := rfl
  with_reducible refine stepT 10 2 12 j7 ht7 (seg8 (s := s) hd hu X T S7 F7 N7 O7 tx7 rc7 wf.1 wg.1 rf.1 rg.1) ?_
  (rintro _ ht8; refine cex4 ?_; rintro h8 tk8 G8 m8; refine cand7 ?_; rintro rfl S8 F8 N8 O8 g8 fo8)
  have fg8' := fg7.mono g8
  have j8 : 12 + 1 = 13 := rfl
  with_reducible refine stepT 12 1 13 j8 ht8 (seg9 (s := s) hd hu X T S8 F8 N8 O8 fg8' fo8) ?_
  (rintro _ ht9; refine cex4 ?_; rintro h9 tk9 G9 m9; refine cand8 ?_; rintro rfl S9 F9 N9 O9 g9 fo9 ke9)
  have fg9 := fg8'.mono g9
  have j9 : 13 + 1 = 14 := rfl
  with_reducible refine stepT 13 1 14 j9 ht9 (seg10 (s := s) hd hu X T S9 F9 N9 O9 fg9 fo9 ke9) ?_
  (rintro _ ht10; refine cex4 ?_; rintro h10 tk10 G10 m10; refine cand7 ?_; rintro rfl S10 F10 N10 O10 g10 six10)
  have fg10 := fg9.mono g10
  have sx10 : Six w G10 m10 t (words f q) (rules f q) (words g q) (rules g q) := six10
  have j10 : 14 + 1 = 15 := rfl
  with_reducible refine stepT 14 1 15 j10 ht10 (seg11 (s := s) hd hu X T S10 F10 N10 O10 sx10 (words_ok f q) (words_ok g q)) ?_
  (rintro _ ht11; refine cex4 ?_; rintro h11 tk11 G11 m11; refine cand7 ?_; rintro rfl S11 F11 N11 O11 g11 six11)
  have fg11 := fg10.mono g11
  have s12 : wpAny (model PR w) (lawA dp fr gd un L fa cd) (execs ((lawBody.drop 15).take 2) (lawEnv L fa cd)) (fun f' s' => f' = .next ∧ St s B L (cells4 L o4 o5 o6 o7) (fun G' m' => G11.StaysIn G' ∧ Six w G' m' t (words f q) (rules f q) (words g q) (rules g q)) s') E { s with heap := h11, toks := tk11 } := by
    by_cases he : both (words f q) (words g q) = []
    · with_reducible exact seg12a hd hu X T S11 F11 N11 O11 six11 (words_ok f q) (words_ok g q) wf wg rf rg ef eg he
    · with_reducible exact seg12b hd hu X T S11 F11 N11 O11 six11 (words_ok f q) (words_ok g q) wf wg rf rg ef eg he
  have j11 : 15 + 2 = 17 := rfl
  with_reducible refine stepT 15 2 17 j11 ht11 s12 ?_
  (rintro _ ht12; refine cex4 ?_; rintro h12 tk12 G12 m12; refine cand7 ?_; rintro rfl S12 F12 N12 O12 g12 six12)
  have fg12 := fg11.mono g12
  have s13 : wpAny (model PR w) (lawA dp fr gd un L fa cd) (execs ((lawBody.drop 17).take 2) (lawEnv L fa cd)) (fun f' s' => f' = .next ∧ St s B L (cells4 L o4 o5 o6 o7) (fun G' m' => G12.StaysIn G' ∧ Six w G' m' t (words f q) (rules f q) (words g q) (rules g q)) s') E { s with heap := h12, toks := tk12 } := by
    by_cases he : both (words g q) (words f q) = []
    · with_reducible exact seg13a hd hu X T S12 F12 N12 O12 six12 (words_ok f q) (words_ok g q) wf wg rf rg ef eg he
    · with_reducible exact seg13b hd hu X T S12 F12 N12 O12 six12 (words_ok f q) (words_ok g q) wf wg rf rg ef eg he
  have j12 : 17 + 2 = 19 := rfl
  with_reducible refine stepT 17 2 19 j12 ht12 s13 ?_
  (rintro _ ht13; refine cex4 ?_; rintro h13 tk13 G13 m13; refine cand7 ?_; rintro rfl S13 F13 N13 O13 g13 six13)
  have fg13 := fg12.mono g13
  have fo13 := six13.1
  have j13 : 19 + 1 = 20 := rfl
  with_reducible refine stepT 19 1 20 j13 ht13 (seg14 (s := s) hd hu X T S13 F13 N13 O13 fo13 hto d4 ht13) ?_
  (rintro _ ht14; refine cex4 ?_; rintro h14 tk14 G14 m14; refine cand8 ?_; rintro rfl S14 F14 N14 O14 g14 la14 lo14)
  have fg14 := fg13.mono g14
  have j14 : 20 + 1 = 21 := rfl
  with_reducible refine stepT 20 1 21 j14 ht14 (seg15 (s := s) hd hu X T S14 F14 N14 O14 fg14 la14 hto lo14) ?_
  (rintro _ ht15; refine cex4 ?_; rintro h15 tk15 G15 m15; refine cand8 ?_; rintro rfl S15 F15 N15 O15 g15 la15 sp15)
  have fg15 := fg14.mono g15
  have lo15 := lo14.mono g15
  have j15 : 21 + 1 = 22 := rfl
  with_reducible refine stepT 21 1 22 j15 ht15 (seg16 (s := s) hd hu X T S15 F15 N15 O15 fg15 la15 hto lo15 sp15 d5) ?_
  (rintro _ ht16; refine cex4 ?_; rintro h16 tk16 G16 m16; refine cand9 ?_; rintro rfl S16 F16 N16 O16 g16 la16 sp16 cs16)
  have fg16 := fg15.mono g16
  have lo16 := lo15.mono g16
  have ls1 := spansF_len (low := lowOf t) lf lq
  have ls3 : (spansF f q (lowOf t)).length ≤ 1000 := Nat.le_trans (spansF_len lf lq) (by decide)
  have ls2 := spansF_len (low := lowOf t) lg lq
  have j16 : 22 + 1 = 23 := rfl
  with_reducible refine stepT 22 1 23 j16 ht16 (seg17 (s := s) hd hu X T S16 F16 N16 O16 la16 sp16 cs16 ls3) ?_
  (rintro _ ht17; refine cex4 ?_; rintro h17 tk17 G17 m17; refine cand9 ?_; rintro rfl S17 F17 N17 O17 g17 la17 sp17 sb17)
  have fg17 := fg16.mono g17
  have lo17 := lo16.mono g17
  have cs17 := cs16.mono g17
  have j17 : 23 + 2 = 25 := rfl
  with_reducible refine stepT 23 2 25 j17 ht17 (seg18 (s := s) hd hu X T S17 F17 N17 O17 fg17 la17 sp17 sb17) ?_
  (rintro _ ht18; refine cex4 ?_; rintro h18 tk18 G18 m18; refine cand10 ?_; rintro rfl S18 F18 N18 O18 g18 la18 sp18 sb18 st18)
  have cs18 := cs17.mono g18
  have lo18 := lo17.mono g18
  have ww1 : ∀ wd ∈ words f q, ∀ c ∈ tl wd, Low c := fun wd hwd => word_signs hwd
  have ww2 : ∀ wd ∈ words g q, ∀ c ∈ tl wd, Low c := fun wd hwd => word_signs hwd
  with_reducible exact seg19 (s := s) hd hu X T S18 F18 N18 O18 la18 sp18 sb18 cs18 lo18 st18 d6 d7 hto (spans_reads f q _) (spans_reads g q _) ww1 ww2 wf wg ls1 ls2
end
/-! part Fin -/
theorem wordsoff : True := by k_with_none; trivial
theorem law_holds : PySem.Challenge.rw_rl0061_01.Holds := Mine.hd (by
  k_go0
  (all_goals try k_fold)
  rename_i ns _ _ _ _ _ _ _ a vs _ hL _ _ _ hI _ hcond _ _ _ h1 tk1 F q7 q6 q5 q4 q3 q2 q1 l7 l6 l5 l4 l3 l2 l1 N0 _
  have hn : ns.length ≤ 63 := by (first | lia | omega)
  show wpAny (model PR _) (lawA (1 + claimMargin) (some []) (some []) 4 _ _ _) (execs lawBody (lawEnv _ _ _)) _ _ _
  have e1 : q1.data = .cell none := l1.trans (by rfl)
  have e2 : q2.data = .cell none := l2.trans (by rfl)
  have e3 : q3.data = .cell none := l3.trans (by rfl)
  have e4 : q4.data = .cell none := l4.trans (by rfl)
  have e5 : q5.data = .cell none := l5.trans (by rfl)
  clear l1 l2 l3 l4 l5
  have hd0 : (1 + claimMargin) + 30 < recursionLimit := by decide +kernel
  have hu0 : (4 : Nat) + 400 < cLine := by decide +kernel
  obtain ⟨m, hm, F'⟩ : ∃ m, m (Str.ofString "script") = some (.ref a) ∧ Fr _ _ h1 m := ⟨_, by rfl, F⟩
  with_reducible refine wpAny_mono (law_all hd0 hu0 (by assumption) (by assumption) hL hI hn hm F' N0 (Nat.le_refl _) e1 e2 e3 e4 e5 l6 l7) (fun f s' hp => ?_) (fun _ _ e => e)
  (revert hp; refine cand2 ?_; rintro rfl; refine cex2 ?_; rintro h' tk'; refine cand2 ?_; rintro rfl hk)
  simp only [qk]
  refine ⟨.inl ⟨_, _, _, rfl, fun _ => rfl, .bool true, ?_, unshared_nil⟩, hk, rfl, by assumption⟩
  wrow_post)
end Mine
theorem PySem.Challenge.cw_rl0061_01_holds : PySem.Challenge.rw_rl0061_01.Holds := by
  exact Mine.law_holds
