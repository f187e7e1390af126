import PyProof.Rows.All
import Wide.All
import OpenK.AllK
import Wide.FinOn
import KE.KSortTup
import PyProof.EqKinds
import PyProof.TupleKey
import KE.KNest
import KE.KSuper
import KE.KDictOf
import PyProof.NoPylong
import PyProof.NeKinds
import PySem.Challenge.RW_bn0041_01
set_option Elab.async false
set_option maxRecDepth 100000
set_option linter.unusedVariables false
open PySem PySem.W PyProof.Rows
/-! HeadA -/
namespace Mine
section
local macro_rules | `(tactic| o_head $_H) => `(tactic| assumption)
set_option maxHeartbeats 0 in
theorem hd (h : PySem.Challenge.rw_bn0041_01.row.Holds) : PySem.Challenge.rw_bn0041_01.row.Holds := by
  k_head
end
end Mine

/-! HeadB -/
namespace Mine

def seeObj : Obj → Option Obj
  | ⟨_, _, .freed, _⟩ => none
  | o => some o
def pickObj : Nat → List Obj → List Addr → List (Option Obj)
  | i, o :: l, a :: as => bif a == i then seeObj o :: pickObj (i + 1) l as else pickObj (i + 1) l (a :: as)
  | _, _, _ => []

theorem see_get {l : List Obj} {lf : Life} {a : Nat} : (Heap.mk ⟨l⟩ lf).get? a = (l[a]?).bind seeObj := by
  unfold Heap.get?
  rw [List.getElem?_toArray]
  cases l[a]? with
  | none => rfl
  | some o =>
    obtain ⟨x, y, d, z⟩ := o
    cases d <;> rfl

theorem pick_at {xs : List (Option Obj)} : ∀ {l : List Obj} {i : Nat} {as : List Addr}, pickObj i l as = xs → xs.length = as.length →
    (∀ a ∈ as, i ≤ a) ∧ as.map (fun a => (l[a - i]?).bind seeObj) = xs := by
  intro l
  induction l generalizing xs with
  | nil =>
    intro i as e n
    cases as with
    | nil => cases e; exact ⟨fun _ h => (nomatch h), rfl⟩
    | cons a as => cases e; cases n
  | cons o l ih =>
    intro i as e n
    cases as with
    | nil => cases e; exact ⟨fun _ h => (nomatch h), rfl⟩
    | cons a as =>
      unfold pickObj at e
      cases hb : a == i with
      | true =>
        rw [hb, cond_true] at e
        subst e
        have hai : a = i := beq_iff_eq.mp hb
        subst hai
        obtain ⟨q1, q2⟩ := ih rfl (Nat.succ.inj n)
        refine ⟨fun b hb => ?_, ?_⟩
        · cases hb with
          | head => exact Nat.le_refl _
          | tail _ h => exact Nat.le_of_succ_le (q1 b h)
        · rw [List.map_cons]
          refine List.cons_eq_cons.mpr ⟨by rw [Nat.sub_self]; rfl, ?_⟩
          rw [← q2]
          refine List.map_congr_left fun b h => ?_
          have := q1 b h
          rw [show b - a = (b - (a + 1)) + 1 by omega, List.getElem?_cons_succ]
      | false =>
        rw [hb, cond_false] at e
        obtain ⟨q1, q2⟩ := ih e n
        refine ⟨fun b h => Nat.le_of_succ_le (q1 b h), ?_⟩
        rw [← q2]
        refine List.map_congr_left fun b h => ?_
        have := q1 b h
        rw [show b - i = (b - (i + 1)) + 1 by omega, List.getElem?_cons_succ]

theorem pick_in {K : Frag} {as : List Addr} {h : Heap} (e : as = K.map (·.1)) (x : pickObj 0 h.objs.toList as = K.map fun p => some p.2) : K.In h := by
  refine Frag.in_of e ?_
  have n : (K.map fun p => some p.2).length = as.length := by rw [e, List.length_map, List.length_map]
  have q := (pick_at x n).2
  rw [← q]
  obtain ⟨⟨l⟩, lf⟩ := h
  refine List.map_congr_left fun a _ => ?_
  exact see_get

def fastHook (K : Params → Frag) (as : List Addr) (e : ∀ P, as = (K P).map (·.1)) (ts : List Addr) : Hook where
  α := List (Option Obj) × List (Option Obj)
  obs := fun s => (pickObj 0 s.heap.objs.toList as, ts.map s.heap.get?)
  val := fun w => ((K w.params).map fun p => some p.2, ts.map fun _ => some (tabObj #[]))
  says := fun w h => InK K w h ∧ ∀ P ∈ ts, h.get? P = some (tabObj #[])
  of := fun w s x => ⟨pick_in (e _) (Prod.mk.inj x).1, List.map_inj_left.mp (Prod.mk.inj x).2⟩
  keeps := fun w h h' x k => ⟨InK.keeps w h h' x.1 k, fun P hP => k _ _ (x.2 P hP)⟩

def hdAs : List Addr := [
  2, 3, 54, 56, 57, 59, 60, 68, 70, 71, 73, 74, 75, 76, 78, 79, 81, 82, 83, 85, 86, 88, 89, 90, 92, 93, 95, 96, 97, 98, 99, 100, 101, 104, 107, 112, 113, 114, 115, 117,
  118, 120, 121, 122, 124, 125, 127, 128, 129, 130, 131, 132, 133, 135, 136, 138, 139, 140, 142, 143, 145, 146, 147, 149, 150, 152, 153, 154, 156, 157, 159, 160, 161, 162, 163, 165, 166, 168, 170, 171,
  172, 182, 184, 185, 187, 188, 189, 190, 191, 193, 194, 196, 197, 198, 199, 200, 201, 202, 205, 212, 213, 214, 216, 217, 219, 220, 221, 222, 223, 225, 226, 228, 229, 230, 231, 232, 234, 235, 237, 238,
  239, 240, 241, 244, 251, 252, 253, 255, 256, 258, 259, 260, 261, 262, 264, 265, 267, 268, 269, 270, 271, 273, 274, 276, 277, 278, 279, 280, 290, 292, 293, 295, 296, 297, 298, 300, 301, 303, 304, 305,
  307, 308, 310, 311, 312, 314, 315, 317, 318, 319, 320, 321, 322, 323, 326, 328, 329, 331, 332, 333, 336, 341, 342, 343, 344, 346, 347, 349, 350, 351, 353, 354, 356, 357, 358, 359, 360, 361, 362, 364,
  365, 367, 368, 369, 371, 372, 374, 375, 376, 378, 379, 381, 382, 383, 385, 386, 388, 389, 390, 391, 392, 394, 395, 397, 399, 400, 401, 427, 428, 442, 443, 444, 446, 447, 449, 450, 451, 453, 454, 456,
  457, 458, 459, 460, 461, 463, 464, 466, 467, 468, 471, 472, 473, 475, 476, 478, 479, 480, 482, 483, 485, 486, 487, 489, 490, 492, 493, 494, 496, 497, 498, 499, 500, 503, 510, 511, 512, 513, 514, 524,
  526, 527, 529, 530, 531, 532, 533, 534, 535, 536, 537, 538, 548, 550, 551, 553, 554, 555, 556, 557, 558, 559, 562, 564, 565, 567, 568, 569, 571, 572, 574, 575, 576, 579, 584, 585, 586, 588, 589, 591,
  592, 593, 595, 596, 598, 599, 600, 602, 603, 605, 606, 607, 608, 610, 611, 613, 614, 615, 617, 618, 620, 621, 622, 624, 625, 627, 628, 629, 630, 631, 633, 634, 636, 637, 638, 639, 641, 642, 644, 645,
  646, 648, 649, 651, 652, 653, 655, 656, 658, 659, 660, 661, 663, 664, 666, 667, 668, 670, 671, 673, 674, 675, 677, 678, 680, 681, 682, 684, 685, 687, 688, 689, 691, 692, 694, 695, 696, 698, 699, 701,
  702, 703, 705, 706, 708, 709, 710, 712, 713, 715, 716, 717, 719, 720, 722, 723, 724, 726, 727, 729, 730, 731, 733, 734, 736, 737, 738, 740, 741, 743, 744, 745, 747, 748, 750, 751, 752, 754, 755, 757,
  758, 759, 762, 763, 764, 766, 767, 769, 770, 771, 773, 774, 776, 777, 778, 780, 781, 783, 784, 785, 787, 788, 790, 791, 792, 793, 794, 795, 796, 799, 806, 808, 809, 811, 812, 813, 815, 816, 818, 819,
  820, 821, 823, 824, 826, 827, 828, 829, 831, 832, 834, 835, 836, 838, 839, 841, 842, 843, 845, 846, 848, 849, 850, 851, 853, 854, 856, 857, 858, 860, 861, 863, 864, 865, 867, 868, 870, 871, 872, 873,
  875, 876, 878, 879, 880, 882, 883, 885, 886, 887, 889, 890, 892, 893, 894, 896, 897, 899, 900, 901, 903, 904, 906, 907, 908, 910, 911, 913, 914, 915, 916, 917, 920, 922, 923, 925, 926, 927, 929, 930,
  932, 933, 934, 937, 938]
theorem hdAs_is : ∀ P, hdAs = (hd.heap_1 P).map (·.1) := fun _ => by kernel_rfl
noncomputable def hdHook : Hook := fastHook hd.heap_1 hdAs hdAs_is [866, 814, 935]
end Mine
open PySem.Calls
/-! B1 -/
namespace Mine

abbrev pg : Program := PySem.Challenge.pw_bn0041_01
structure Cx where
  w : World
  g : Array GenState
  d : Drawn
  os : OsState
abbrev Cx.m (c : Cx) : Model := model pg c.w
abbrev Cx.s (c : Cx) (h : Heap) (k : Nat) : Shared := ⟨h, c.g, c.d, k, c.os⟩

def Go {α : Type} (c : Cx) (A : Around) (t : Sem α) (h : Heap) (k : Nat) (Q : α → Heap → Nat → Prop) : Prop :=
  wpAny c.m A t (fun a s' => ∃ h' k', s' = c.s h' k' ∧ Q a h' k') (fun _ _ => False) (c.s h k)

def GoC (c : Cx) (A : Around) (code : Code) (h : Heap) (k : Nat) (Q : Value → Heap → Nat → Prop) : Prop :=
  codeAny c.m A code (fun r s' => match r with | .ok (.ret v) => ∃ h' k', s' = c.s h' k' ∧ Q v h' k' | _ => False) (c.s h k)

section
variable {α β : Type} {c : Cx} {A : Around} {h : Heap} {k : Nat}

theorem Go.toWp {t : Sem α} {Q : α → Heap → Nat → Prop} {Q' : α → Shared → Prop} {E' : Value → Shared → Prop} (x : Go c A t h k Q)
    (hQ : ∀ a h' k', Q a h' k' → Q' a (c.s h' k')) : wpAny c.m A t Q' E' (c.s h k) :=
  wpAny_mono x (fun a s' ⟨h', k', e, q⟩ => e ▸ hQ a h' k' q) (fun _ _ f => f.elim)
theorem Go.bind {m : Sem α} {f : α → Sem β} {Q : β → Heap → Nat → Prop} (x : Go c A m h k fun a h' k' => Go c A (f a) h' k' Q) : Go c A (m >>= f) h k Q :=
  wpAny_bind (x.toWp fun _ _ _ q => q)
theorem Go.mono {t : Sem α} {Q Q' : α → Heap → Nat → Prop} (x : Go c A t h k Q) (hQ : ∀ a h' k', Q a h' k' → Q' a h' k') : Go c A t h k Q' :=
  x.toWp fun a h' k' q => ⟨h', k', rfl, hQ a h' k' q⟩
theorem Go.pure {a : α} {Q : α → Heap → Nat → Prop} (q : Q a h k) : Go c A (pure a) h k Q := wpAny_pure ⟨h, k, rfl, q⟩
theorem Go.holding {vs : List Value} {m : Sem α} {Q : α → Heap → Nat → Prop} (x : Go c A m h k Q) : Go c A (holding vs m) h k Q := wpAny_holding x
theorem Go.looks {t : Sem α} {r : α} {Q : α → Heap → Nat → Prop} (x : Looks c.m h t r) (q : Q r h k) : Go c A t h k Q := x.here ⟨h, k, rfl, q⟩
theorem Go.ofC {f : Value} {pos : List Value} {kw : List (Str × Value)} {Q : Value → Heap → Nat → Prop} (x : GoC c A (.call f ⟨pos, kw⟩) h k Q) : Go c A (call f pos kw) h k Q := by
  refine wpAny_call (codeAny_mono x fun r s' z => ?_)
  match r, z with
  | .ok (.ret v), z => exact z
theorem GoC.mono {code : Code} {Q Q' : Value → Heap → Nat → Prop} (x : GoC c A code h k Q) (hQ : ∀ a h' k', Q a h' k' → Q' a h' k') : GoC c A code h k Q' := by
  refine codeAny_mono x fun r s' z => ?_
  match r, z with
  | .ok (.ret v), ⟨h', k', e, q⟩ => exact ⟨h', k', e, hQ _ _ _ q⟩
end

/-! ## The ledger -/
abbrev It := Addr × (Obj → Prop)

structure Led (h₀ h : Heap) (l : List It) : Prop where
  keep : ∀ b o, h₀.get? b = some o → h.get? b = some o
  nd : (l.map (·.1)).Nodup
  has : ∀ p ∈ l, (h₀.get? p.1 = none ∧ cStatics < p.1) ∧ ∃ o, h.get? p.1 = some o ∧ p.2 o
  low : ∃ o, h₀.get? cStatics = some o

inductive Sw (a : Addr) (P P' : Obj → Prop) : List It → List It → Prop
  | z {r} : Sw a P P' ((a, P) :: r) ((a, P') :: r)
  | s {x r r'} : Sw a P P' r r' → Sw a P P' (x :: r) (x :: r')

section
variable {h₀ h h' : Heap} {l l' : List It} {a : Addr} {P P' : Obj → Prop}

theorem Sw.keys (x : Sw a P P' l l') : l'.map (·.1) = l.map (·.1) := by
  induction x with
  | z => rfl
  | s _ ih => simp only [List.map_cons, ih]
theorem Sw.mem (x : Sw a P P' l l') : (a, P) ∈ l := by
  induction x with
  | z => exact .head _
  | s _ ih => exact .tail _ ih
theorem Sw.inv (x : Sw a P P' l l') (hn : (l.map (·.1)).Nodup) : ∀ p ∈ l', (p = (a, P')) ∨ (p ∈ l ∧ p.1 ≠ a) := by
  induction x with
  | z =>
    intro p hp
    rw [List.map_cons, List.nodup_cons] at hn
    rcases List.mem_cons.mp hp with rfl | hp
    · exact .inl rfl
    · exact .inr ⟨.tail _ hp, fun e => hn.1 (by have := List.mem_map_of_mem (f := fun p : It => p.1) hp; rw [e] at this; exact this)⟩
  | @s x r r' q ih =>
    intro p hp
    rw [List.map_cons, List.nodup_cons] at hn
    rcases List.mem_cons.mp hp with rfl | hp
    · exact .inr ⟨.head _, fun e => hn.1 (e ▸ List.mem_map_of_mem q.mem)⟩
    · rcases ih hn.2 p hp with e | ⟨m, n⟩
      · exact .inl e
      · exact .inr ⟨.tail _ m, n⟩
theorem Sw.appL (x : Sw a P P' l l') : ∀ r : List It, Sw a P P' (r ++ l) (r ++ l')
  | [] => x
  | _ :: r => .s (x.appL r)
theorem Sw.appR (x : Sw a P P' l l') (r : List It) : Sw a P P' (l ++ r) (l' ++ r) := by
  induction x with
  | z => exact .z
  | s _ ih => exact .s ih

theorem Led.get (w : Led h₀ h l) (hm : (a, P) ∈ l) : ∃ o, h.get? a = some o ∧ P o := (w.has _ hm).2
theorem Led.old (w : Led h₀ h l) {b : Addr} {o : Obj} (e : h₀.get? b = some o) : h.get? b = some o := w.keep b o e
theorem Led.grow (w : Led h₀ h l) (hk : ∀ b o, h.get? b = some o → h'.get? b = some o) : Led h₀ h' l :=
  ⟨fun b o e => hk b o (w.keep b o e), w.nd, fun p hp => let ⟨n, o, e, q⟩ := w.has p hp; ⟨n, o, hk _ _ e, q⟩, w.low⟩
theorem Led.sub {l' : List It} (w : Led h₀ h l) (hs : l'.Sublist l) : Led h₀ h l' :=
  ⟨w.keep, (hs.map _).nodup w.nd, fun p hp => w.has p (hs.subset hp), w.low⟩
theorem Led.drop {x : It} (w : Led h₀ h (x :: l)) : Led h₀ h l := w.sub (List.sublist_cons_self _ _)
theorem Led.perm {l' : List It} (w : Led h₀ h l) (hs : l.Perm l') : Led h₀ h l' :=
  ⟨w.keep, (hs.map _).nodup_iff.mp w.nd, fun p hp => w.has p (hs.mem_iff.mpr hp), w.low⟩
theorem Led.same (w : Led h₀ h l) (sw : Sw a P P' l l') (hs : Heap.SameBut a h h') (hn : ∃ o, h'.get? a = some o ∧ P' o) : Led h₀ h' l' := by
  have na := (w.has _ sw.mem).1
  refine ⟨fun b o e => (hs.2 b fun q => ?_).trans (w.keep b o e), sw.keys ▸ w.nd, fun p hp => ?_, w.low⟩
  · subst q; rw [na.1] at e; cases e
  · rcases sw.inv w.nd p hp with rfl | ⟨m, n⟩
    · exact ⟨na, hn⟩
    · obtain ⟨n', o, e, q⟩ := w.has p m
      exact ⟨n', o, (hs.2 _ n).trans e, q⟩
theorem Led.upd (w : Led h₀ h l) (sw : Sw a P P' l l') (f : Obj → Obj) (hf : ∀ o, P o → P' (f o) ∧ (f o).isFreed = false) : Led h₀ (h.update a f) l' := by
  obtain ⟨o, e, q⟩ := w.get sw.mem
  exact w.same sw (Heap.SameBut.update ..) ⟨_, Heap.get?_update_self _ e (hf o q).2, (hf o q).1⟩
theorem Led.weak (w : Led h₀ h l) (sw : Sw a P P' l l') (hf : ∀ o, P o → P' o) : Led h₀ h l' := by
  obtain ⟨o, e, q⟩ := w.get sw.mem
  exact w.same sw ⟨rfl, fun _ _ => rfl⟩ ⟨_, e, hf o q⟩
theorem Led.fresh (w : Led h₀ h l) : ∀ p ∈ l, p.1 < h.objs.size := fun p hp => let ⟨_, _, e, _⟩ := w.has p hp; Heap.lt_size e
theorem Led.high (w : Led h₀ h l) : cStatics < h.objs.size := let ⟨_, e⟩ := w.low; Heap.lt_size (w.keep _ _ e)
theorem Led.alloc (w : Led h₀ h l) (o : Obj) (hf : o.isFreed = false) (hp : P o) : Led h₀ (h.push o) ((h.objs.size, P) :: l) := by
  refine ⟨fun b o' e => Heap.get?_push_of_some _ (w.keep b o' e), ?_, fun p hp' => ?_, w.low⟩
  · rw [List.map_cons, List.nodup_cons]
    refine ⟨fun hm => ?_, w.nd⟩
    obtain ⟨p, hp, e⟩ := List.mem_map.mp hm
    exact absurd (w.fresh p hp) (by rw [show p.1 = h.objs.size from e]; exact Nat.lt_irrefl _)
  · rcases List.mem_cons.mp hp' with rfl | hp'
    · refine ⟨⟨?_, w.high⟩, o, Heap.get?_push_size _ hf, hp⟩
      cases q : h₀.get? h.objs.size with
      | none => rfl
      | some o' => exact absurd (Heap.lt_size (w.keep _ _ q)) (Nat.lt_irrefl _)
    · obtain ⟨n, o', e, q⟩ := w.has p hp'
      exact ⟨n, o', Heap.get?_push_of_some _ e, q⟩
end

/-! ## frames -/
def NsIs (m : Str → Option Value) (o : Obj) : Prop := ∃ es ep, o.data = .dict es ep ∧ StrKeys es ∧ ∀ name, nsFind es name = m name
abbrev Fv := List (Str × Option Value)
def fm : Fv → Str → Option Value
  | [], _ => none
  | (n, v) :: r, x => if x = n then v else fm r x
def Frm (vs : Fv) (o : Obj) : Prop := (vs.map (·.1)).Nodup ∧ NsIs (fm vs) o
inductive SetF (x : Str) (v : Value) : Fv → Fv → Prop
  | z {u r} : SetF x v ((x, u) :: r) ((x, some v) :: r)
  | s {p r r'} : SetF x v r r' → SetF x v (p :: r) (p :: r')
theorem ns_iff {h : Heap} {a : Addr} {m : Str → Option Value} : h.Ns a m ↔ ∃ o, h.get? a = some o ∧ NsIs m o :=
  ⟨fun ⟨o, es, ep, e, d, k, q⟩ => ⟨o, e, es, ep, d, k, q⟩, fun ⟨o, e, es, ep, d, k, q⟩ => ⟨o, es, ep, e, d, k, q⟩⟩
theorem fm_mem {x : Str} {v : Value} : ∀ {vs : Fv}, (vs.map (·.1)).Nodup → (x, some v) ∈ vs → fm vs x = some v
  | (n, u) :: r, hn, hm => by
    rw [List.map_cons, List.nodup_cons] at hn
    unfold fm
    rcases List.mem_cons.mp hm with e | hm'
    · cases e; rw [if_pos rfl]
    · have hne : x ≠ n := fun e => hn.1 (by rw [← e]; exact List.mem_map.mpr ⟨_, hm', rfl⟩)
      rw [if_neg hne, fm_mem hn.2 hm']
theorem SetF.keys {x : Str} {v : Value} {vs vs' : Fv} (q : SetF x v vs vs') : vs'.map (·.1) = vs.map (·.1) := by
  induction q with
  | z => rfl
  | s _ ih => simp only [List.map_cons, ih]
theorem SetF.fm {x : Str} {v : Value} {vs vs' : Fv} (q : SetF x v vs vs') (hn : (vs.map (·.1)).Nodup) : (fun y => if y = x then some v else fm vs y) = fm vs' := by
  funext y
  induction q with
  | @z u r =>
    unfold Mine.fm
    by_cases e : y = x <;> simp [e]
  | @s p r r' q ih =>
    obtain ⟨n, u⟩ := p
    rw [List.map_cons, List.nodup_cons] at hn
    have hx : x ≠ n := by
      rintro rfl
      have : x ∈ r.map (·.1) := by
        clear ih hn
        induction q with
        | z => simp
        | s _ ih => exact List.mem_cons_of_mem _ ih
      exact hn.1 this
    have ih := ih hn.2
    unfold Mine.fm
    by_cases e : y = x
    · subst e; rw [if_pos rfl, if_neg hx, ← ih, if_pos rfl]
    · rw [if_neg e] at ih ⊢
      by_cases e' : y = n
      · rw [if_pos e', if_pos e']
      · rw [if_neg e', if_neg e', ih]

structure EnvOk (env : Env) (L : Addr) : Prop where
  k : env.scope.kind = .function
  l : env.locals = L
  g : env.globals = mainGlobals
  b : env.builtins = builtinsNs
theorem EnvOk.plain {env : Env} {L : Addr} (x : EnvOk env L) : (env.scope.kind == .class || (env.scope.kind == .module && env.locals != env.globals)) = false := by rw [x.k]; rfl

structure Base (K : Frag) (mg mb : Str → Option Value) (h₀ : Heap) : Prop where
  kin : K.In h₀
  g : h₀.Ns mainGlobals mg
  b : h₀.Ns builtinsNs mb
  nolimit : h₀.NoLimit
  bi : ∀ x : Str, x ≠ "__name__" → mb x = bootBuiltins x
  bm : ∃ bm ob, mg "__builtins__" = some (.ref bm) ∧ bm ≠ builtinsNs ∧ h₀.get? bm = some ob ∧ ob.cls = .type "module" ∧ ob.dict = some builtinsNs ∧ ob.data = .plain
  c1 : CodeHd h₀ 870 866
  c2 : CodeHd h₀ 818 814
  c3 : CodeHd h₀ 937 935

section
variable {c : Cx} {A : Around} {h₀ h : Heap} {k : Nat} {l l' : List It} {env : Env} {L : Addr} {K : Frag} {mg mb : Str → Option Value}

theorem nameL {x : Str} {pos : Pos} {v : Value} {vs : Fv} {Q : Value → Heap → Nat → Prop} (w : Led h₀ h l) (n : EnvOk env L) (hx : env.kindOf x = some .local) (hm : (L, Frm vs) ∈ l) (hv : (x, some v) ∈ vs)
    (q : Q v h k) (hd : (x == ("__debug__" : Str)) = false := by decide) : Go c A (eval (.Name x pos) env) h k Q := by
  obtain ⟨o, e, f⟩ := w.get hm
  exact wpAny_Name (wpAny_loadName_local n.k hx (n.l ▸ ns_iff.mpr ⟨o, e, f.2⟩) (fm_mem f.1 hv) ⟨h, k, rfl, q⟩) hd
theorem nameG {x : Str} {pos : Pos} {v : Value} {Q : Value → Heap → Nat → Prop} (b : Base K mg mb h₀) (w : Led h₀ h l) (n : EnvOk env L) (hx : env.kindOf x = some .globalImplicit) (e : nsIn K mainGlobals x = some (some v))
    (q : Q v h k) (hd : (x == ("__debug__" : Str)) = false := by decide) : Go c A (eval (.Name x pos) env) h k Q :=
  Name_function_global n.k hx (loadGlobal_global (n.g ▸ b.g.keeps w.keep) (mg_of b.kin b.g e) ⟨h, k, rfl, q⟩) hd
theorem nameB {x : Str} {pos : Pos} {v : Value} {Q : Value → Heap → Nat → Prop} (b : Base K mg mb h₀) (w : Led h₀ h l) (n : EnvOk env L) (hx : env.kindOf x = some .globalImplicit) (e : nsIn K mainGlobals x = some none)
    (hv : bootBuiltins x = some v) (hn : x ≠ "__name__") (q : Q v h k) (hd : (x == ("__debug__" : Str)) = false := by decide) : Go c A (eval (.Name x pos) env) h k Q :=
  Name_function_global n.k hx (loadGlobal_builtin (n.g ▸ b.g.keeps w.keep) (mg_none_of b.kin b.g e) (n.b ▸ b.b.keeps w.keep) ((b.bi x hn).trans hv) ⟨h, k, rfl, q⟩) hd
def CellIs (v : Option Value) (o : Obj) : Prop := o.data = .cell v
theorem nameC {x : Str} {pos : Pos} {v : Value} {a : Addr} {Q : Value → Heap → Nat → Prop} (w : Led h₀ h l) (n : EnvOk env L) (hx : env.kindOf x = some .cell) (hc : env.cells.lookup x = some a) (hm : (a, CellIs (some v)) ∈ l)
    (q : Q v h k) (hd : (x == ("__debug__" : Str)) = false := by decide) : Go c A (eval (.Name x pos) env) h k Q :=
  wpAny_Name (wpAny_loadName_cell n.k hx hc (w.get hm) ⟨h, k, rfl, q⟩) hd
theorem nameF {x : Str} {pos : Pos} {v : Value} {a : Addr} {Q : Value → Heap → Nat → Prop} (w : Led h₀ h l) (n : EnvOk env L) (hx : env.kindOf x = some .free) (hc : env.cells.lookup x = some a) (hm : (a, CellIs (some v)) ∈ l)
    (q : Q v h k) (hd : (x == ("__debug__" : Str)) = false := by decide) (hn : (x == ("__classdict__" : Str)) = false := by decide) : Go c A (eval (.Name x pos) env) h k Q :=
  wpAny_Name (wpAny_loadName_free n.k hx hc (w.get hm) ⟨h, k, rfl, q⟩ hn) hd
theorem storeL {x : Str} {v : Value} {vs vs' : Fv} {Q : Unit → Heap → Nat → Prop} (w : Led h₀ h l) (n : EnvOk env L) (hx : env.kindOf x = some .local) (sf : SetF x v vs vs') (sw : Sw L (Frm vs) (Frm vs') l l')
    (q : ∀ h' k', Led h₀ h' l' → Q () h' k') : Go c A (storeName env x v) h k Q := by
  obtain ⟨o, e, f⟩ := w.get sw.mem
  have hl := n.l
  subst hl
  refine wpAny_storeName_local hx (ns_iff.mpr ⟨o, e, f.2⟩) (fun h' hn hs => ⟨h', _, rfl, q _ _ (w.same sw hs ?_)⟩) n.plain
  obtain ⟨o', e', f'⟩ := ns_iff.mp hn
  exact ⟨o', e', sf.keys ▸ f.1, sf.fm f.1 ▸ f'⟩
theorem storeC {x : Str} {v : Value} {a : Addr} {v₀ : Option Value} {Q : Unit → Heap → Nat → Prop} (w : Led h₀ h l) (n : EnvOk env L) (hx : env.kindOf x = some .cell) (hc : env.cells.lookup x = some a) (sw : Sw a (CellIs v₀) (CellIs (some v)) l l')
    (q : ∀ h', Led h₀ h' l' → Q () h' k) : Go c A (storeName env x v) h k Q :=
  wpAny_storeName_cell n.k hx hc (w.get sw.mem) fun h' hv hs => ⟨h', k, rfl, q _ (w.same sw hs hv)⟩
end
end Mine

/-! B2 -/
namespace Mine
section
variable {c : Cx} {A : Around} {h : Heap} {k : Nat} {env : Env} {a b : Int} {t u : Tok} {pos : Pos}

/-! ints -/
theorem oAdd {Q : Value → Heap → Nat → Prop} (q : ∀ t' k', Q (.int (a + b) t') h k') : Go c A (binaryOp .Add (.int a t) (.int b u)) h k Q := P.add_int ⟨_, _, rfl, q _ _⟩
theorem oSub {Q : Value → Heap → Nat → Prop} (q : ∀ t' k', Q (.int (a - b) t') h k') : Go c A (binaryOp .Sub (.int a t) (.int b u)) h k Q := P.sub_int ⟨_, _, rfl, q _ _⟩
theorem oMul {Q : Value → Heap → Nat → Prop} (hm : IntMulOk a b) (q : ∀ t' k', Q (.int (a * b) t') h k') : Go c A (binaryOp .Mult (.int a t) (.int b u)) h k Q := P.mul_int ⟨_, _, rfl, q _ _⟩ hm
theorem oNeg {Q : Value → Heap → Nat → Prop} (q : ∀ t' k', Q (.int (-a) t') h k') : Go c A (unaryOp .USub (.int a t)) h k Q := P.neg_int ⟨_, _, rfl, q _ _⟩
theorem oLt {Q : Value → Heap → Nat → Prop} (q : Q (.bool (decide (a < b))) h k) : Go c A (compareOp .Lt (.int a t) (.int b u)) h k Q := P.lt_int ⟨_, _, rfl, q⟩
theorem oLe {Q : Value → Heap → Nat → Prop} (q : Q (.bool (decide (a ≤ b))) h k) : Go c A (compareOp .LtE (.int a t) (.int b u)) h k Q := P.le_int ⟨_, _, rfl, q⟩
theorem oGt {Q : Value → Heap → Nat → Prop} (q : Q (.bool (decide (a > b))) h k) : Go c A (compareOp .Gt (.int a t) (.int b u)) h k Q := P.gt_int ⟨_, _, rfl, q⟩
theorem oGe {Q : Value → Heap → Nat → Prop} (q : Q (.bool (decide (a ≥ b))) h k) : Go c A (compareOp .GtE (.int a t) (.int b u)) h k Q := P.ge_int ⟨_, _, rfl, q⟩
theorem oEq {Q : Value → Heap → Nat → Prop} (q : Q (.bool (a == b)) h k) : Go c A (compareOp .Eq (.int a t) (.int b u)) h k Q := P.eq_int ⟨_, _, rfl, q⟩
theorem oNe {Q : Value → Heap → Nat → Prop} (q : Q (.bool (a != b)) h k) : Go c A (compareOp .NotEq (.int a t) (.int b u)) h k Q := P.ne_int ⟨_, _, rfl, q⟩
theorem tInt {Q : Bool → Heap → Nat → Prop} (q : Q (a != 0) h k) : Go c A (truthy (.int a t)) h k Q := P.truthy_int ⟨_, _, rfl, q⟩
theorem tBool {b : Bool} {Q : Bool → Heap → Nat → Prop} (q : Q b h k) : Go c A (truthy (.bool b)) h k Q := wpAny_truthy_bool ⟨_, _, rfl, q⟩

/-! expressions -/
theorem eInt {i : Int} {kd : Nat} {Q : Value → Heap → Nat → Prop} (q : ∀ t' k', Q (.int i t') h k') : Go c A (eval (.Constant (.int i) kd pos) env) h k Q := wpAny_Constant_int ⟨_, _, rfl, q _ _⟩
theorem eStr {i : Str} {kd : Nat} {Q : Value → Heap → Nat → Prop} (q : ∀ t' k', Q (.str i t') h k') : Go c A (eval (.Constant (.str i) kd pos) env) h k Q := wpAny_Constant_str ⟨_, _, rfl, q _ _⟩
theorem eNone {kd : Nat} {Q : Value → Heap → Nat → Prop} (q : Q .none h k) : Go c A (eval (.Constant .none kd pos) env) h k Q := wpAny_Constant_none ⟨_, _, rfl, q⟩
theorem eBool {b : Bool} {kd : Nat} {Q : Value → Heap → Nat → Prop} (q : Q (.bool b) h k) : Go c A (eval (.Constant (.bool b) kd pos) env) h k Q := wpAny_Constant_bool ⟨_, _, rfl, q⟩
theorem eBin {l r : PySem.Expr} {op : Operator} {Q : Value → Heap → Nat → Prop} (x : Go c A (eval l env) h k fun a h k => Go c A (eval r env) h k fun b h k => Go c A (binaryOp op a b) h k Q) :
    Go c A (eval (.BinOp l op r pos) env) h k Q := wpAny_BinOp (x.toWp fun _ _ _ y => y.toWp fun _ _ _ z => z)
theorem eCmp {l r : PySem.Expr} {op : CmpOp} {Q : Value → Heap → Nat → Prop} (x : Go c A (eval l env) h k fun a h k => Go c A (eval r env) h k fun b h k => Go c A (compareOp op a b) h k Q)
    (hm : behindInMarks op r = false := by with_unfolding_all rfl) : Go c A (eval (.Compare l [op] [r] pos) env) h k Q := wpAny_Compare1 (x.toWp fun _ _ _ y => y.toWp fun _ _ _ z => z) hm
theorem eUn {x : PySem.Expr} {op : UnaryOp} {Q : Value → Heap → Nat → Prop} (y : Go c A (eval x env) h k fun a h k => Go c A (unaryOp op a) h k Q) : Go c A (eval (.UnaryOp op x pos) env) h k Q := wpAny_UnaryOp (y.toWp fun _ _ _ z => z)
theorem eIf {t b o : PySem.Expr} {Q : Value → Heap → Nat → Prop} (x : Go c A (isTrue t env (eval t env)) h k fun v h k => if v then Go c A (eval b env) h k Q else Go c A (eval o env) h k Q) :
    Go c A (eval (.IfExp t b o pos) env) h k Q := wpAny_IfExp (x.toWp fun v _ _ y => by cases v <;> exact y)
theorem eAnd {x y : PySem.Expr} {Q : Value → Heap → Nat → Prop} (z : Go c A (eval x env) h k fun v h k => Go c A (truthy v) h k fun t h k => if t then Go c A (eval y env) h k Q else Q v h k) :
    Go c A (eval (.BoolOp .And [x, y] pos) env) h k Q := wpAny_And2 (z.toWp fun v _ _ y => y.toWp fun t h' k' z => by cases t; exact ⟨h', k', rfl, z⟩; exact z)
theorem eOr {x y : PySem.Expr} {Q : Value → Heap → Nat → Prop} (z : Go c A (eval x env) h k fun v h k => Go c A (truthy v) h k fun t h k => if t then Q v h k else Go c A (eval y env) h k Q) :
    Go c A (eval (.BoolOp .Or [x, y] pos) env) h k Q := wpAny_Or2 (z.toWp fun v _ _ y => y.toWp fun t h' k' z => by cases t; exact z; exact ⟨h', k', rfl, z⟩)
theorem iCmp {l r : PySem.Expr} {op : CmpOp} {whole : Sem Value} {Q : Bool → Heap → Nat → Prop}
    (x : Go c A (eval l env) h k fun a h k => Go c A (eval r env) h k fun b h k => Go c A (compareOp op a b) h k fun v h k => Go c A (truthy v) h k Q)
    (hm : behindInMarks op r = false := by with_unfolding_all rfl) : Go c A (isTrue (.Compare l [op] [r] pos) env whole) h k Q := wpAny_isTrue_Compare1 (x.toWp fun _ _ _ y => y.toWp fun _ _ _ z => z.toWp fun _ _ _ z => z) hm
theorem iNot {x : PySem.Expr} {whole : Sem Value} {Q : Bool → Heap → Nat → Prop} (y : Go c A (isTrue x env (eval x env)) h k fun b h k => Q (!b) h k) : Go c A (isTrue (.UnaryOp .Not x pos) env whole) h k Q :=
  wpAny_isTrue_Not (y.toWp fun b h' k' z => ⟨h', k', rfl, z⟩)
theorem iVal {e : PySem.Expr} {whole : Sem Value} {Q : Bool → Heap → Nat → Prop} (x : Go c A whole h k fun v h k => Go c A (truthy v) h k Q)
    (he : isTrue e env whole = (do let v ← whole; standAt e.pos; holding [v] (truthy v)) := by rfl) : Go c A (isTrue e env whole) h k Q := wpAny_isTrue_value (x.toWp fun _ _ _ z => z) he
theorem iAnd {x y : PySem.Expr} {whole : Sem Value} {Q : Bool → Heap → Nat → Prop} (z : Go c A (isTrue x env (eval x env)) h k fun b h k => if b then Go c A (isTrue y env (eval y env)) h k Q else Q false h k) :
    Go c A (isTrue (.BoolOp .And [x, y] pos) env whole) h k Q := by
  refine wpAny_isTrue_BoolOp (wpAny_allTrue_And_cons (z.toWp fun b h' k' q => ?_))
  cases b
  · exact ⟨h', k', rfl, q⟩
  · refine wpAny_allTrue_And_cons (Go.toWp q fun b h'' k'' q => ?_)
    cases b
    · exact ⟨_, _, rfl, q⟩
    · exact wpAny_allTrue_And_nil ⟨_, _, rfl, q⟩
theorem iOr {x y : PySem.Expr} {whole : Sem Value} {Q : Bool → Heap → Nat → Prop} (z : Go c A (isTrue x env (eval x env)) h k fun b h k => if b then Q true h k else Go c A (isTrue y env (eval y env)) h k Q) :
    Go c A (isTrue (.BoolOp .Or [x, y] pos) env whole) h k Q := by
  refine wpAny_isTrue_BoolOp (wpAny_allTrue_Or_cons (z.toWp fun b h' k' q => ?_))
  cases b
  · refine wpAny_allTrue_Or_cons (Go.toWp q fun b h'' k'' q => ?_)
    cases b
    · exact wpAny_allTrue_Or_nil ⟨_, _, rfl, q⟩
    · exact ⟨_, _, rfl, q⟩
  · exact ⟨h', k', rfl, q⟩

/-! argument lists, calls -/
theorem aNil {Q : List Value → Heap → Nat → Prop} (q : Q [] h k) : Go c A (spliced (backTo pos (starEach [] env))) h k Q := wpAny_items_nil ⟨_, _, rfl, q⟩
theorem aCons {e : PySem.Expr} {rest : List PySem.Expr} {Q : List Value → Heap → Nat → Prop}
    (x : Go c A (eval e env) h k fun v h k => Go c A (spliced (backTo pos (starEach rest env))) h k fun vs h k => Q (v :: vs) h k)
    (he : starEach (e :: rest) env = (false, eval e env) :: starEach rest env := by rfl) : Go c A (spliced (backTo pos (starEach (e :: rest) env))) h k Q :=
  wpAny_items_cons (x.toWp fun _ _ _ y => y.toWp fun _ h' k' z => ⟨h', k', rfl, z⟩) he

def KeepOk (c : Cx) (h : Heap) (f : Value) : Prop := ∃ k, (k = Keeper.frame ∨ k = Keeper.machine ∨ k = Keeper.boundFrame) ∧ Looks c.m h (keeperOf f) k

/-- a call of a name, or of a method: the callee is reckoned, then the rest -/
theorem eCallN {id : Str} {p : Pos} {args : List PySem.Expr} {kws : List Keyword} {Q : Value → Heap → Nat → Prop}
    (x : Go c A (eval (.Name id p) env) h k fun f h k => Go c A (callWith pos f [] (backTo pos (starEach args env)) (backToKw pos (keywordEach kws env))) h k Q) :
    Go c A (eval (.Call (.Name id p) args kws pos) env) h k Q := wpAny_Call_Name_kw (x.toWp fun _ _ _ z => z)
theorem eCallM {name : Str} {o : PySem.Expr} {apos : Pos} {args : List PySem.Expr} {kws : List Keyword} {pl : Sem Bool} {Q : Value → Heap → Nat → Prop}
    (x : Go c A (eval o env) h k fun ov h k => Go c A (getMethod ov name pl) h k fun fx h k => Go c A (callWith pos fx.1 fx.2 (backTo pos (starEach args env)) (backToKw pos (keywordEach kws env))) h k Q)
    (he : eval (.Call (.Attribute o name apos) args kws pos) env = (do
      let ov ← eval o env
      standAt apos.atName
      let (f, first) ← holding [ov] (getMethod ov name pl)
      callWith pos f first (backTo pos (starEach args env)) (backToKw pos (keywordEach kws env))) := by rfl) :
    Go c A (eval (.Call (.Attribute o name apos) args kws pos) env) h k Q := methodCall_KW (x.toWp fun _ _ _ y => y.toWp fun _ _ _ z => z) he
theorem cwF {f : Value} {first : List Value} {e : PySem.Expr} {rest : List PySem.Expr} {Q : Value → Heap → Nat → Prop}
    (x : Go c A (spliced (backTo pos (starEach (e :: rest) env))) h k fun vs h k => KeepOk c h f ∧ Go c A (call f (first ++ vs)) h k Q)
    (he : starEach (e :: rest) env = (false, eval e env) :: starEach rest env := by rfl) (hplain : (backTo pos (starEach rest env)).any (·.1) = false := by rfl) :
    Go c A (callWith pos f first (backTo pos (starEach (e :: rest) env)) (backToKw pos (keywordEach [] env))) h k Q := by
  unfold Go at x ⊢
  rw [he] at x ⊢
  exact callWith_of (P := fun h => KeepOk c h f) (by show ((false || (backTo pos (starEach rest env)).any (·.1)) || false) = false; rw [hplain]; rfl) (fun _ z => z)
    (evalArgs_plain (wpAny_mono x (fun vs s' ⟨h', k', e, q⟩ => by subst e; exact q) fun _ _ f => f))
theorem cwF0 {f : Value} {first : List Value} {Q : Value → Heap → Nat → Prop} (kp : KeepOk c h f) (x : Go c A (call f (first ++ [])) h k Q) :
    Go c A (callWith pos f first (backTo pos (starEach [] env)) (backToKw pos (keywordEach [] env))) h k Q :=
  callWith_of (P := fun h => KeepOk c h f) rfl (fun _ z => z) (evalArgs_nil3 ⟨kp, x⟩)
theorem cwFK {f : Value} {first : List Value} {e : PySem.Expr} {rest : List PySem.Expr} {kws : List Keyword} {Q : Value → Heap → Nat → Prop}
    (x : Go c A (spliced (backTo pos (starEach (e :: rest) env))) h k fun vs h k => Go c A (evalAll ((backToKw pos (keywordEach kws env)).map (·.2))) h k
      fun ks h k => KeepOk c h f ∧ Go c A (call f (first ++ vs) (((backToKw pos (keywordEach kws env)).filterMap (·.1)).zip ks)) h k Q)
    (hall : (backToKw pos (keywordEach kws env)).all (·.1.isSome) = true := by rfl)
    (hplain : ((backTo pos (starEach (e :: rest) env)).any (·.1) || (backToKw pos (keywordEach kws env)).any (·.1.isNone)) = false := by rfl) (he : starEach (e :: rest) env = (false, eval e env) :: starEach rest env := by rfl) :
    Go c A (callWith pos f first (backTo pos (starEach (e :: rest) env)) (backToKw pos (keywordEach kws env))) h k Q :=
  callWith_of (P := fun h => KeepOk c h f) hplain (fun _ z => z) (evalArgs_kw2 hall (x.toWp fun _ _ _ y => y.toWp fun _ _ _ z => z) he)
theorem cwB {id : String} {first : List Value} {e : PySem.Expr} {rest : List PySem.Expr} {Q : Value → Heap → Nat → Prop}
    (x : Go c A (spliced (backTo pos (starEach (e :: rest) env))) h k fun vs h k => Go c A (call (.builtin id) (first ++ vs)) h k Q)
    (he : starEach (e :: rest) env = (false, eval e env) :: starEach rest env := by rfl) (hplain : (backTo pos (starEach rest env)).any (·.1) = false := by rfl) :
    Go c A (callWith pos (.builtin id) first (backTo pos (starEach (e :: rest) env)) (backToKw pos (keywordEach [] env))) h k Q := by
  unfold Go at x ⊢
  rw [he] at x ⊢
  exact callWith_builtin_kwB (by show (false || (backTo pos (starEach rest env)).any (·.1)) = false; rw [hplain]; rfl) rfl
    (evalArgs_plain (wpAny_mono x (fun vs s' ⟨h', k', e, q⟩ => by subst e; exact q) fun _ _ f => f))
theorem cwB0 {id : String} {first : List Value} {Q : Value → Heap → Nat → Prop} (x : Go c A (call (.builtin id) (first ++ [])) h k Q) :
    Go c A (callWith pos (.builtin id) first (backTo pos (starEach [] env)) (backToKw pos (keywordEach [] env))) h k Q :=
  callWith_builtin_kwB rfl rfl (evalArgs_nil3 x)
theorem cwBK {id : String} {first : List Value} {e : PySem.Expr} {rest : List PySem.Expr} {kws : List Keyword} {Q : Value → Heap → Nat → Prop}
    (x : Go c A (spliced (backTo pos (starEach (e :: rest) env))) h k fun vs h k => Go c A (evalAll ((backToKw pos (keywordEach kws env)).map (·.2))) h k
      fun ks h k => Go c A (call (.builtin id) (first ++ vs) (((backToKw pos (keywordEach kws env)).filterMap (·.1)).zip ks)) h k Q)
    (hall : (backToKw pos (keywordEach kws env)).all (·.1.isSome) = true := by rfl) (hkw : (backToKw pos (keywordEach kws env)).any (·.1.isNone) = false := by rfl)
    (hplain : (backTo pos (starEach (e :: rest) env)).any (·.1) = false := by rfl) (he : starEach (e :: rest) env = (false, eval e env) :: starEach rest env := by rfl) :
    Go c A (callWith pos (.builtin id) first (backTo pos (starEach (e :: rest) env)) (backToKw pos (keywordEach kws env))) h k Q :=
  callWith_builtin_kwB hplain hkw (evalArgs_kw2 hall (x.toWp fun _ _ _ y => y.toWp fun _ _ _ z => z) he)
theorem kNil {Q : List Value → Heap → Nat → Prop} (q : Q [] h k) : Go c A (evalAll []) h k Q := wpAny_evalAll_nil ⟨_, _, rfl, q⟩
theorem kCons {e : PySem.Expr} {n : Option Str} {kp : Pos} {rest : List Keyword} {Q : List Value → Heap → Nat → Prop}
    (x : Go c A (eval e env) h k fun v h k => Go c A (evalAll ((backToKw pos (keywordEach rest env)).map (·.2))) h k fun vs h k => Q (v :: vs) h k) :
    Go c A (evalAll ((backToKw pos (keywordEach (⟨n, e, kp⟩ :: rest) env)).map (·.2))) h k Q := by
  refine wpAny_evalAll_cons (wpAny_bind (x.toWp fun v h' k' y => wpAny_bind (wpAny_standAt (wpAny_pure ?_))))
  exact Go.toWp y fun _ h' k' z => ⟨h', k', rfl, z⟩

/-! attributes, items -/
theorem eAttr {value : PySem.Expr} {attr : Str} {Q : Value → Heap → Nat → Prop} (x : Go c A (eval value env) h k fun o h k => Go c A (getAttr o attr true) h k Q)
    (he : eval (.Attribute value attr pos) env = (do
      let o ← eval value env
      standAt pos.atName
      let r ← holding [o] (getAttr o attr true)
      letTemporaryGo value o r
      pure r) := by with_unfolding_all rfl) : Go c A (eval (.Attribute value attr pos) env) h k Q := Attribute_any_ (x.toWp fun _ _ _ z => z) he
theorem eSub {value slice : PySem.Expr} {Q : Value → Heap → Nat → Prop} (x : Go c A (eval value env) h k fun o h k => Go c A (eval slice env) h k fun i h k => Go c A (subscriptTail value slice o i) h k Q) :
    Go c A (eval (.Subscript value slice pos) env) h k Q := Subscript_ (x.toWp fun _ _ _ y => y.toWp fun _ _ _ z => z)

/-! statements -/
variable {rest : List Stmt} {Q : Flow → Heap → Nat → Prop}
theorem xNil (q : Q .next h k) : Go c A (execs [] env) h k Q := wpAny_execs_nil ⟨_, _, rfl, q⟩
theorem xCons {st : Stmt} (x : Go c A (exec st env) h k fun f h k => match f with | .next => Go c A (execs rest env) h k Q | f => Q f h k) : Go c A (execs (st :: rest) env) h k Q :=
  wpAny_execs_cons (x.toWp fun f h' k' z => by cases f <;> first | exact z | exact ⟨h', k', rfl, z⟩)
theorem xAssign {x : Str} {pos' : Pos} {value : PySem.Expr}
    (y : Go c A (eval value env) h k fun v h k => Go c A (storeName env x v) h k fun _ h k => Go c A (execs rest env) h k Q)
    (hs : swapsWith value (some (.Name x pos')) pos.line env = pure false := by rfl) : Go c A (execs (.Assign [.Name x pos'] value pos :: rest) env) h k Q :=
  wpAny_execs_cons (wpAny_Assign_Name (y.toWp fun _ _ _ y => y.toWp fun _ _ _ z => z) hs)
theorem xSetItem {o i value : PySem.Expr} {pos' : Pos}
    (y : Go c A (eval value env) h k fun v h k => Go c A (eval o env) h k fun ov h k => Go c A (eval i env) h k fun iv h k => Go c A (setItem ov iv v) h k fun _ h k => Go c A (execs rest env) h k Q)
    (hs : swapsWith value (some (.Subscript o i pos')) pos.line env = pure false := by rfl) : Go c A (execs (.Assign [.Subscript o i pos'] value pos :: rest) env) h k Q :=
  wpAny_execs_cons (wpAny_Assign_Subscript (y.toWp fun _ _ _ y => y.toWp fun _ _ _ y => y.toWp fun _ _ _ y => y.toWp fun _ _ _ z => z) hs)
theorem xExpr {e : PySem.Expr} (y : Go c A (eval e env) h k fun v h k => match v with | .ref _ => False | _ => Go c A (execs rest env) h k Q)
    (n : env.scope.kind = .function) (hs : swapsWith e none pos.line env = pure false := by rfl) : Go c A (execs (.Expr e pos :: rest) env) h k Q :=
  wpAny_execs_cons (wpAny_Expr (y.toWp fun v h' k' z => by cases v <;> exact z) (by unfold interactive; rw [n]; rfl) hs)
theorem xIf {test : PySem.Expr} {body orelse : List Stmt}
    (y : Go c A (isTrue test env (eval test env)) h k fun b h k => if b then Go c A (execs body env) h k fun f h k => (match f with | .next => Go c A (execs rest env) h k Q | f => Q f h k)
      else Go c A (execs orelse env) h k fun f h k => (match f with | .next => Go c A (execs rest env) h k Q | f => Q f h k)) : Go c A (execs (.If test body orelse pos :: rest) env) h k Q := by
  refine xCons (wpAny_If (y.toWp fun b h' k' z => ?_))
  cases b <;> exact z
theorem xRet {e : PySem.Expr} (y : Go c A (eval e env) h k fun v h k => Q (.ret v) h k) : Go c A (execs (.Return (some e) pos :: rest) env) h k Q :=
  wpAny_execs_cons (wpAny_Return_some (y.toWp fun v h' k' z => ⟨h', k', rfl, z⟩))
theorem xCut {st : Stmt} {R : Flow → Heap → Nat → Prop} (x : Go c A (exec st env) h k R) (y : ∀ f h' k', R f h' k' → match f with | .next => Go c A (execs rest env) h' k' Q | f => Q f h' k') : Go c A (execs (st :: rest) env) h k Q :=
  xCons (x.mono y)
end

/-! the function's frame -/
theorem if_tt {X Y : Prop} (x : X) : if true = true then X else Y := by rw [if_pos rfl]; exact x
theorem if_ff {X Y : Prop} (y : Y) : if false = true then X else Y := by rw [if_neg Bool.false_ne_true]; exact y
theorem if_dec {p : Prop} [Decidable p] {X Y : Prop} (x : p → X) (y : ¬ p → Y) : if decide p = true then X else Y := by
  by_cases h : p
  · rw [if_pos (decide_eq_true h)]; exact x h
  · rw [if_neg (by simpa using h)]; exact y h
end Mine

/-! B3 -/
namespace Mine

theorem Led.push {h₀ h h' : Heap} {l : List It} {P : Obj → Prop} (w : Led h₀ h l) (hk : ∀ b o, h.get? b = some o → h'.get? b = some o) (hn : ∃ o, h'.get? h.objs.size = some o ∧ P o) :
    Led h₀ h' ((h.objs.size, P) :: l) := by
  have w' := w.grow hk
  refine ⟨w'.keep, ?_, fun p hp => ?_, w.low⟩
  · rw [List.map_cons, List.nodup_cons]
    refine ⟨fun hm => ?_, w.nd⟩
    obtain ⟨p, hp, e⟩ := List.mem_map.mp hm
    exact absurd (w.fresh p hp) (by rw [show p.1 = h.objs.size from e]; exact Nat.lt_irrefl _)
  · rcases List.mem_cons.mp hp with rfl | hp
    · refine ⟨⟨?_, w.high⟩, hn⟩
      cases q : h₀.get? h.objs.size with
      | none => rfl
      | some o' => exact absurd (Heap.lt_size (w.keep _ _ q)) (Nat.lt_irrefl _)
    · exact w'.has p hp

section
variable {c : Cx} {A : Around} {h₀ h : Heap} {k : Nat} {l l' : List It} {env : Env} {L : Addr} {K : Frag} {mg mb : Str → Option Value}

theorem gEnter {f : Addr} {o : Obj} {fd : FuncData} {body : List Stmt} {args : Args} {binds : List (Str × Value)} (vs : Fv) {Q : Value → Heap → Nat → Prop}
    (b : Base K mg mb h₀) (w : Led h₀ h l) (hd : A.depth < recursionLimit) (ho : h.get? f = some o) (hdat : o.data = .func fd) (hcd : h.CodeRec fd.code fd.qualname) (hbody : fd.body = .stmts body)
    (hbind : BindsTo (c.s h k) fd args binds) (hloc : ∀ x ∈ binds, fd.scope.names.lookup x.1 = some .local) (hcell : ∀ x ∈ fd.scope.names, x.2 ≠ .cell)
    (hvs : (fun x => binds.reverse.lookup x) = fm vs) (hnd : (vs.map (·.1)).Nodup)
    (q : ∀ L h' k', Led h₀ h' ((L, Frm vs) :: l) → Go c (A.deeper (callEnv fd L f)) (execs body (callEnv fd L f)) h' k' (fun fl h'' k'' => Q (match fl with | .ret v => v | _ => .none) h'' k''))
    (hco : fd.scope.isCoroutine = false := by rfl) (hgen : fd.scope.isGenerator = false := by rfl) (hk : fd.scope.kind = .function := by rfl) : GoC c A (.call (.ref f) args) h k Q := by
  refine codeAny_call_def hd ho hdat (b.nolimit.keeps w.keep) hcd hbody hbind hcell hloc (fun h₁ hns hkeep => ?_) hco hgen hk
  obtain ⟨o₁, e₁, n₁⟩ := ns_iff.mp hns
  refine Go.toWp (q h.objs.size h₁ _ (w.push hkeep ⟨o₁, e₁, hnd, ?_⟩)) fun fl h' k' z => ⟨h', k', rfl, z⟩
  rw [← hvs]; exact n₁
end

def recD (fd : FuncData) (env : Env) (L a : Addr) : Prop := env = callEnv fd L a
theorem envOk_call {fd : FuncData} {L a : Addr} (hk : fd.scope.kind = .function) (hg : fd.globals = mainGlobals) (hb : fd.builtins = builtinsNs) : EnvOk (callEnv fd L a) L := ⟨hk, rfl, hg, hb⟩

/-! ## the store -/
structure Ad where
  (M S cM cS clk cc st sd C CD X E it itd fx fxd mv mvd who : Addr)
  KEY : Str
  amt : Int
  mul : Int
structure Ev where
  (ea ed : Addr)
  at_ : Int
structure St where
  m : Int
  s : Int
  cnt : Option Int
  exp : Option Int
  ev : Option (Addr × List Ev)
  ents : List Ev
  l1 : Option Addr := none
  l2 : Option Addr := none

def LstV (vs : List Value) (o : Obj) : Prop := ∃ n, o = { cls := .type "list", dict := none, data := .seq vs.toArray n, slots := #[] }
def LstI (is : List Int) (o : Obj) : Prop := ∃ vs, IntsAre vs is ∧ o.cls = .type "list" ∧ ∃ n, o.data = .seq vs.toArray n
def II (i : Int) (v : Value) : Prop := ∃ t, v = .int i t
def lawBody : List Stmt := match pg.main.body.getLast? with
  | some (.FunctionDef _ _ b _ _ _ _ _ _ _) => b
  | _ => []
def clockDef : Stmt := (lawBody[6]?).getD (.Pass ⟨0,0,0,0⟩)
def clockBody : List Stmt := match clockDef with
  | .FunctionDef _ _ b _ _ _ _ _ _ _ => b
  | _ => []
def clockScope : Scope := match clockDef with
  | .FunctionDef _ _ _ _ _ _ s _ _ _ => s
  | _ => default
def clockParams : Arguments := match clockDef with
  | .FunctionDef _ p _ _ _ _ _ _ _ _ => p
  | _ => default
def ClkFn (ad : Ad) (o : Obj) : Prop := ∃ fd, o.data = .func fd ∧ fd.body = .stmts clockBody ∧ fd.scope = clockScope ∧ fd.params = clockParams ∧ fd.closure = [(Str.ofString "step", ad.cS), (Str.ofString "moment", ad.cM)] ∧
  fd.globals = mainGlobals ∧ fd.builtins = builtinsNs ∧ fd.code = .ref ad.cc ∧ fd.qualname = Str.ofString "law.<locals>.clock" ∧ fd.defaults = .none ∧ fd.kwdefaults = .none
def CodeOf (q : Str) (o : Obj) : Prop := ∃ vs t, o.data = .fields vs ∧ vs[1]? = some (.str q t)

section
variable {c : Cx} {A : Around} {h₀ h : Heap} {k : Nat} {l l' : List It} {env : Env} {L : Addr} {K : Frag} {mg mb : Str → Option Value}

theorem LstI.isList {is : List Int} {a : Addr} {o : Obj} (e : h.get? a = some o) (x : LstI is o) : ∃ vs, IntsAre vs is ∧ h.IsList a vs.toArray :=
  let ⟨vs, i, c, n, d⟩ := x; ⟨vs, i, o, e, c, n, d⟩

/-- an item of a list of ints -/
theorem subI {value slice : PySem.Expr} {a : Addr} {is : List Int} {i : Int} {t : Tok} {n : Int} {Q : Value → Heap → Nat → Prop} (w : Led h₀ h l) (hm : (a, LstI is) ∈ l) (h0 : 0 ≤ i) (hfit : i < 2 ^ 63) (hx : is[i.toNat]? = some n)
    (q : ∀ t', Q (.int n t') h k) (hs : subscripted slice false (.ref a) (.int i t) = operate [.ref a, .int i t] (getItem (.ref a) (.int i t)) := by with_unfolding_all rfl) :
    Go c A (subscriptTail value slice (.ref a) (.int i t)) h k Q := by
  obtain ⟨o, e, p⟩ := w.get hm
  obtain ⟨vs, hi, hl⟩ := p.isList e
  obtain ⟨t', ht⟩ := hi.get i.toNat n hx
  exact tail_any hl.typeIs F.slot_list_getitem.lookup (wpAny_getItem_list hl h0 hfit (by simpa using ht) ⟨_, _, rfl, q t'⟩) hs
end

def InstP (C dx : Addr) (o : Obj) : Prop := o = ⟨.ref C, some dx, .plain, #[]⟩
def ItemP (ad : Ad) (o : Obj) : Prop := ∃ t1 t2 t3, o = ⟨.ref 512, some ad.itd, .plain, #[some (.int ad.amt t1), some (.int ad.mul t2), some (.str "LIMITER" t3)]⟩
def OneKey (w : World) (KEY : Str) (P : Option (Value → Prop)) (o : Obj) : Prop := ∃ es ep, o.data = .dict es ep ∧ match P with
  | none => es = #[]
  | some P => ∃ t v, es = #[⟨hashStr w KEY, .str KEY t, v⟩] ∧ P v
def DictP (w : World) (KEY : Str) (P : Option (Value → Prop)) (o : Obj) : Prop := o.cls = .type "dict" ∧ (o.dict = none ∧ o.slots = #[]) ∧ OneKey w KEY P o
def CntP (w : World) (ad : Ad) (P : Option (Value → Prop)) (o : Obj) : Prop := o.cls = .ref 794 ∧ o.dict = some ad.CD ∧ OneKey w ad.KEY P o
def EntD (a x : Int) (o : Obj) : Prop := ∃ t u, Frm [(Str.ofString "atime", some (.int a t)), (Str.ofString "expiry", some (.int x u))] o
def entsOf (len : Int) (es : List Ev) : List It := es.flatMap fun e => [(e.ea, InstP 557 e.ed), (e.ed, EntD e.at_ (e.at_ + len))]
def evOf : Option (Addr × List Ev) → List It
  | none => []
  | some (a, es) => [(a, LstV (es.map fun e => Value.ref e.ea))]
def TabP (p : Pos) (t : Option Addr) (o : Obj) : Prop := ∃ ps, o = tabObj ps ∧ TriplesOk ps.toList ∧ codeAmong p ps.toList = t.map Value.ref
def p1 : Pos := ⟨601, 68, 601, 94⟩
def p2 : Pos := ⟨522, 64, 522, 91⟩
def cdOf (q : Str) : Option Addr → List It
  | none => []
  | some a => [(a, CodeOf q)]
def lamOf (st : St) : List It := cdOf "MemoryStorage.get_moving_window.<locals>.<lambda>" st.l1 ++ cdOf "MemoryStorage.expire_events.<locals>.<lambda>" st.l2
def coreF (w : World) (ad : Ad) (st : St) : List It :=
  [(ad.M, LstI [st.m]), (ad.S, LstI [st.s]), (ad.cM, CellIs (some (.ref ad.M))), (ad.cS, CellIs (some (.ref ad.S))), (ad.clk, ClkFn ad), (ad.cc, CodeOf "law.<locals>.clock"),
   (ad.st, InstP 917 ad.sd), (ad.sd, Frm [(Str.ofString "clock", some (.ref ad.clk)), (Str.ofString "storage", some (.ref ad.C)), (Str.ofString "expirations", some (.ref ad.X)), (Str.ofString "events", some (.ref ad.E))]),
   (ad.C, CntP w ad (st.cnt.map II)), (ad.CD, Frm []), (ad.X, DictP w ad.KEY (st.exp.map II)), (ad.E, DictP w ad.KEY (st.ev.map fun p v => v = .ref p.1)),
   (ad.it, ItemP ad), (ad.itd, Frm []), (ad.fx, InstP 280 ad.fxd), (ad.fxd, Frm [(Str.ofString "storage", some (.ref ad.st))]), (ad.mv, InstP 241 ad.mvd), (ad.mvd, Frm [(Str.ofString "storage", some (.ref ad.st))]),
   (ad.who, fun o => o.cls = .type "tuple" ∧ ∃ t n, o.data = .seq #[.str "ann" t] n), (866, TabP p1 st.l1), (814, TabP p2 st.l2)]
def coreT (ad : Ad) (st : St) : List It := lamOf st ++ (evOf st.ev ++ entsOf (60 * ad.mul) st.ents)
def core (w : World) (ad : Ad) (st : St) : List It := coreF w ad st ++ coreT ad st

section
variable {c : Cx} {A : Around} {h₀ h : Heap} {k : Nat} {l l' : List It} {env : Env} {L : Addr} {K : Frag} {mg mb : Str → Option Value}

theorem setI {a : Addr} {is is' : List Int} {i n : Int} {t u : Tok} {Q : Unit → Heap → Nat → Prop} (w : Led h₀ h l) (sw : Sw a (LstI is) (LstI is') l l') (h0 : 0 ≤ i) (hfit : i < 2 ^ 63) (hl : i < is.length) (e : is.set i.toNat n = is')
    (q : ∀ h', Led h₀ h' l' → Q () h' k) : Go c A (setItem (.ref a) (.int i t) (.int n u)) h k Q := by
  obtain ⟨o, e₁, p⟩ := w.get sw.mem
  obtain ⟨vs, hi, hL⟩ := p.isList e₁
  refine wpAny_setItem_list hL h0 hfit (by rw [List.size_toArray, hi.length]; exact hl) fun h' hL' hs => ⟨h', k, rfl, q h' (w.same sw hs ?_)⟩
  obtain ⟨o', e', c', n', d'⟩ := hL'
  refine ⟨o', e', vs.set i.toNat (.int n u), ?_, c', n', by rw [d']; simp⟩
  subst e
  clear e₁ p hL d' e' hl hfit q w sw
  generalize i.toNat = j
  induction hi generalizing j with
  | nil => exact .nil
  | cons m tm hr ih =>
    cases j with
    | zero => exact .cons _ _ hr
    | succ j => exact .cons _ _ (ih j)

def W (c : Cx) (h₀ : Heap) (ad : Ad) (h : Heap) (st : St) (l : List It) : Prop := Led h₀ h (core c.w ad st ++ l)

theorem clock_ {ad : Ad} {st : St} {Q : Value → Heap → Nat → Prop} (b : Base K mg mb h₀) (w : W c h₀ ad h st l) (hd : A.depth < 900)
    (q : ∀ h' k' t, W c h₀ ad h' { st with m := st.m + st.s } l → Q (.int (st.m + st.s) t) h' k') : GoC c A (.call (.ref ad.clk) ⟨[], []⟩) h k Q := by
  unfold W at w
  obtain ⟨o, e, fd, hdat, hbody, hsc, hpar, hcl, hg, hbu, hco, hq, hdf, hkd⟩ := w.get (a := ad.clk) (P := ClkFn ad) (.tail _ (.tail _ (.tail _ (.tail _ (.head _)))))
  obtain ⟨oc, ec, vs, t, hv, hv1⟩ := w.get (a := ad.cc) (P := CodeOf "law.<locals>.clock") (.tail _ (.tail _ (.tail _ (.tail _ (.tail _ (.head _))))))
  rcases fd with ⟨n, qn, pr, bo, sc, gl, clo, df, kd, doc, pm, an, co, ct, bi⟩
  dsimp only at hbody hsc hpar hcl hg hbu hco hq hdf hkd
  subst hbody hsc hpar hcl hg hbu hco hq hdf hkd
  refine gEnter (binds := []) [] b w (Nat.lt_of_lt_of_le hd (by decide)) e hdat ⟨_, oc, vs, t, rfl, ec, hv, hv1⟩ rfl ?_ (fun _ hx => nomatch hx) ?_ rfl List.nodup_nil (fun L h' k' w' => ?_) ?_ ?_ ?_
  · exact BindsTo.of_eq rfl
  · show ∀ x ∈ clockScope.names, x.2 ≠ .cell; decide +kernel
  · have n := envOk_call (L := L) (a := ad.clk) (fd := ⟨n, Str.ofString "law.<locals>.clock", clockParams, .stmts clockBody, clockScope, mainGlobals, [(Str.ofString "step", ad.cS), (Str.ofString "moment", ad.cM)], .none, .none, doc, pm, an, .ref ad.cc, ct, builtinsNs⟩) rfl rfl rfl
    generalize henv : callEnv _ L ad.clk = env at n ⊢
    have k1 : env.kindOf (Str.ofString "moment") = some .free := by rw [← henv]; rfl
    have k2 : env.kindOf (Str.ofString "step") = some .free := by rw [← henv]; rfl
    have c1 : env.cells.lookup (Str.ofString "moment") = some ad.cM := by rw [← henv]; rfl
    have c2 : env.cells.lookup (Str.ofString "step") = some ad.cS := by rw [← henv]; rfl
    refine xSetItem (eBin (eSub (nameF w' n k1 c1 (.tail _ (.tail _ (.tail _ (.head _)))) (eInt fun _ _ => subI w' (.tail _ (.head _)) (by decide) (by decide) rfl fun _ => ?_))))
    refine eSub (nameF w' n k2 c2 (.tail _ (.tail _ (.tail _ (.tail _ (.head _))))) (eInt fun _ _ => subI w' (.tail _ (.tail _ (.head _))) (by decide) (by decide) rfl fun _ => oAdd fun _ _ => ?_))
    refine nameF w' n k1 c1 (.tail _ (.tail _ (.tail _ (.head _)))) (eInt fun _ _ => setI (is' := [st.m + st.s]) w' (.s .z) (by decide) (by decide) (by show (0:Int) < 1; decide) rfl fun h' w' => ?_)
    refine xRet (eSub (nameF w' n k1 c1 (.tail _ (.tail _ (.tail _ (.head _)))) (eInt fun _ _ => subI w' (.tail _ (.head _)) (by decide) (by decide) rfl fun _ => ?_)))
    exact q _ _ _ w'.drop
  · show clockScope.isCoroutine = false; decide +kernel
  · show clockScope.isGenerator = false; decide +kernel
  · show clockScope.kind = .function; decide +kernel
end
end Mine

/-! B4 -/
namespace Mine

theorem Led.noSys {h₀ h : Heap} {l : List It} {a : Addr} {P : Obj → Prop} (w : Led h₀ h l) (hm : (a, P) ∈ l) : (a == sysModules) = false := by
  have := (w.has _ hm).1.2
  simp only [beq_eq_false_iff_ne, ne_eq]
  intro e
  dsimp only at this
  rw [e] at this
  exact absurd this (by decide)

section
variable {c : Cx} {A : Around} {h : Heap} {k : Nat} {d : Addr} {o : Obj} {KEY : Str} {P : Option (Value → Prop)} {t : Tok}

theorem one_keys {es : Array DictEntry} (x : match P with | none => es = #[] | some P => ∃ t v, es = #[⟨hashStr c.w KEY, .str KEY t, v⟩] ∧ P v) : KeysOf (strKind pg c.w) es := by
  intro e he
  cases P with
  | none => subst x; simp at he
  | some p =>
    obtain ⟨t, v, rfl, _⟩ := x
    simp at he
    subst he
    exact ⟨KEY, strKind_is pg c.w KEY t, rfl⟩
theorem one_find {t : Tok} {v : Value} : (#[⟨hashStr c.w KEY, .str KEY t, v⟩] : Array DictEntry).findIdx? (fun e => (strKind pg c.w).is KEY e.key) = some 0 := by
  have := strKind_is pg c.w KEY t
  simp [this]

theorem gFind {Q : Option Nat → Heap → Nat → Prop} (ho : h.get? d = some o) (x : OneKey c.w KEY P o) (q : Q (P.map fun _ => 0) h k) : Go c A (dictFind d (.str KEY t) (hashStr c.w KEY)) h k Q := by
  obtain ⟨es, ep, hd, hes⟩ := x
  refine wpAny_dictFind_of (knd := strKind pg c.w) (strKind_is pg c.w KEY t) ho hd (one_keys hes) ⟨h, k, rfl, ?_⟩
  cases P with
  | none => subst hes; rw [show (#[] : Array DictEntry).findIdx? (fun e => (strKind pg c.w).is KEY e.key) = none from by simp]; exact q
  | some p => obtain ⟨t', v, rfl, _⟩ := hes; rw [one_find]; exact q
theorem gHash {Q : Int → Heap → Nat → Prop} (q : Q (hashStr c.w KEY) h (k + 1)) : Go c A (pyHash (.str KEY t)) h k Q :=
  (strKind pg c.w).pyHash (strKind_is pg c.w KEY t) ⟨h, _, rfl, q⟩
theorem gEntries {part : Option Value} {es ep} {Q : Array DictEntry → Heap → Nat → Prop} (ho : h.get? d = some o) (hd : o.data = .dict es ep) (q : Q es h k) : Go c A (dictEntries d part) h k Q :=
  wpAny_dictEntries ho hd ⟨h, k, rfl, q⟩

theorem gDictGet {Q : Option Value → Heap → Nat → Prop} (ho : h.get? d = some o) (x : OneKey c.w KEY P o) (qn : P = none → ∀ k', Q none h k') (qs : ∀ p v, P = some p → p v → ∀ k', Q (some v) h k') : Go c A (dictGet d (.str KEY t)) h k Q := by
  unfold dictGet
  refine Go.holding (Go.bind (gHash (Go.bind (gFind ho x ?_))))
  obtain ⟨es, ep, hd, hes⟩ := x
  cases P with
  | none => exact Go.pure (qn rfl _)
  | some p =>
    obtain ⟨t', v, rfl, hv⟩ := hes
    exact Go.bind (gEntries ho hd (Go.pure (qs p v rfl hv _)))

theorem gTakeOut {Q : Option DictEntry → Heap → Nat → Prop} (ho : h.get? d = some o) (x : OneKey c.w KEY P o) (qn : P = none → ∀ k', Q none h k')
    (qs : ∀ p e, P = some p → p e.val → ∀ h' k', Heap.SameBut d h h' → (∃ o', h'.get? d = some o' ∧ o'.cls = o.cls ∧ (∀ P : Option Addr → Array (Option Value) → Prop, P o.dict o.slots → P o'.dict o'.slots) ∧ OneKey c.w KEY none o') → Q (some e) h' k') : Go c A (Builtin.Dict.takeOut d (.str KEY t)) h k Q := by
  unfold Builtin.Dict.takeOut
  refine Go.holding (Go.bind (gHash (Go.bind (gFind ho x ?_))))
  obtain ⟨es, ep, hd, hes⟩ := x
  cases P with
  | none => exact Go.pure (qn rfl _)
  | some p =>
    obtain ⟨t', v, rfl, hv⟩ := hes
    refine Go.bind (gEntries ho hd ?_)
    refine Go.bind (wpAny_updateDictKeys ho hd ⟨_, _, rfl, Go.pure (qs p _ rfl hv _ _ (Heap.SameBut.update ..) ?_)⟩ (by show 1 ≤ sizeLine; decide) (by show _ ≤ 2; simp [Array.eraseIdxIfInBounds]))
    refine ⟨_, Heap.get?_update_self _ ho (Obj.isFreed_of_dict (Obj.data_mapDictKeys hd _)), Obj.cls_mapDictKeys .., ?_, _, _, Obj.data_mapDictKeys hd _, ?_⟩
    · intro P hP; obtain ⟨c', d', dt, sl⟩ := o; cases dt <;> exact hP
    · simp [Array.eraseIdxIfInBounds]

theorem gDictSet {v : Value} {Q : Unit → Heap → Nat → Prop} (ho : h.get? d = some o) (x : OneKey c.w KEY P o)
    (q : ∀ h' k', Heap.SameBut d h h' → (∃ o', h'.get? d = some o' ∧ o'.cls = o.cls ∧ (∀ P : Option Addr → Array (Option Value) → Prop, P o.dict o.slots → P o'.dict o'.slots) ∧ OneKey c.w KEY (some (· = v)) o') → Q () h' k') : Go c A (dictSet d (.str KEY t) v) h k Q := by
  unfold dictSet
  refine Go.holding (Go.bind (gHash ?_))
  unfold dictSetHashed
  refine Go.holding (Go.bind (gFind ho x ?_))
  obtain ⟨es, ep, hd, hes⟩ := x
  cases P with
  | none =>
    subst hes
    refine Go.bind (wpAny_rule ⟨_, _, rfl, ?_⟩)
    refine wpAny_updateDictKeys ho hd ⟨_, _, rfl, q _ _ (Heap.SameBut.update ..) ?_⟩ (by show 0 ≤ sizeLine; decide) (by show _ ≤ 1; simp)
    refine ⟨_, Heap.get?_update_self _ ho (Obj.isFreed_of_dict (Obj.data_mapDictKeys hd _)), Obj.cls_mapDictKeys .., ?_, _, _, Obj.data_mapDictKeys hd _, t, v, by simp, rfl⟩
    intro P hP; obtain ⟨c', d', dt, sl⟩ := o; cases dt <;> exact hP
  | some p =>
    obtain ⟨t', v', rfl, hv⟩ := hes
    refine Go.bind (wpAny_rule ⟨_, _, rfl, ?_⟩)
    refine Go.bind (wpAny_updateDict ho hd ⟨_, _, rfl, wpAny_point ⟨_, _, rfl, q _ _ (Heap.SameBut.update ..) ?_⟩⟩)
    refine ⟨_, Heap.get?_update_self _ ho (Obj.isFreed_of_dict (Obj.data_mapDict hd _)), Obj.cls_mapDict .., ?_, _, _, Obj.data_mapDict hd _, t', v, by simp, rfl⟩
    intro P hP; obtain ⟨c', d', dt, sl⟩ := o; cases dt <;> exact hP

theorem gSetDefault {v : Value} {Q : Value → Heap → Nat → Prop} (ho : h.get? d = some o) (x : OneKey c.w KEY P o) (qs : ∀ p v', P = some p → p v' → ∀ k', Q v' h k')
    (qn : P = none → ∀ h' k', Heap.SameBut d h h' → (∃ o', h'.get? d = some o' ∧ o'.cls = o.cls ∧ (∀ P : Option Addr → Array (Option Value) → Prop, P o.dict o.slots → P o'.dict o'.slots) ∧ OneKey c.w KEY (some (· = v)) o') → Q v h' k') : Go c A (dictSetDefault d (.str KEY t) v) h k Q := by
  unfold dictSetDefault
  refine Go.holding (Go.bind (gHash (Go.bind (gFind ho x ?_))))
  obtain ⟨es, ep, hd, hes⟩ := x
  cases P with
  | none =>
    subst hes
    refine Go.bind (wpAny_rule ⟨_, _, rfl, Go.bind ?_⟩)
    refine wpAny_updateDictKeys ho hd ⟨_, _, rfl, Go.pure (qn rfl _ _ (Heap.SameBut.update ..) ?_)⟩ (by show 0 ≤ sizeLine; decide) (by show _ ≤ 1; simp)
    refine ⟨_, Heap.get?_update_self _ ho (Obj.isFreed_of_dict (Obj.data_mapDictKeys hd _)), Obj.cls_mapDictKeys .., ?_, _, _, Obj.data_mapDictKeys hd _, t, v, by simp, rfl⟩
    intro P hP; obtain ⟨c', d', dt, sl⟩ := o; cases dt <;> exact hP
  | some p =>
    obtain ⟨t', v', rfl, hv⟩ := hes
    refine Go.bind (gEntries ho hd ?_)
    exact Go.bind (wpAny_rule ⟨_, _, rfl, Go.pure (qs p v' rfl hv _)⟩)

/-! the bodies -/
theorem bGet {v : Value} {Q : Fin → Heap → Nat → Prop} (hs : (d == sysModules) = false) (ho : h.get? d = some o) (x : OneKey c.w KEY P o) (qn : P = none → ∀ k', Q (.done (.ret v)) h k') (qs : ∀ p v, P = some p → p v → ∀ k', Q (.done (.ret v)) h k') :
    Go c A (Builtin.«dict.get» ⟨[.ref d, .str KEY t, v], []⟩) h k Q := by
  show Go c A (dictGet d (.str KEY t) >>= _) h k Q
  refine Go.bind (gDictGet ho x (fun e k' => ?_) fun p v' e hp k' => ?_)
  · show Go c A (Builtin.Dict.missed d (.str KEY t) >>= _) h k' Q
    exact Go.bind (wpAny_missed_other hs ⟨_, _, rfl, Go.pure (qn e _)⟩)
  · exact Go.pure (qs p v' e hp _)
theorem bPop {v : Value} {Q : Fin → Heap → Nat → Prop} (hs : (d == sysModules) = false) (ho : h.get? d = some o) (x : OneKey c.w KEY P o)
    (no : ∀ {Q' : Unit → Heap → Nat → Prop}, Q' () h k → Go c A (Builtin.Dict.notOrdered "pop" ⟨[.ref d, .str KEY t, v], []⟩) h k Q')
    (qn : P = none → ∀ k', Q (.done (.ret v)) h k')
    (qs : ∀ p v, P = some p → p v → ∀ h' k', Heap.SameBut d h h' → (∃ o', h'.get? d = some o' ∧ o'.cls = o.cls ∧ (∀ P : Option Addr → Array (Option Value) → Prop, P o.dict o.slots → P o'.dict o'.slots) ∧ OneKey c.w KEY none o') → Q (.done (.ret v)) h' k') :
    Go c A (Builtin.«dict.pop» ⟨[.ref d, .str KEY t, v], []⟩) h k Q := by
  unfold Builtin.«dict.pop»
  refine Go.bind ?_
  unfold Builtin.Dict.keyAndDefault
  refine Go.bind (no ?_)
  show Go c A (pure (d, Value.str KEY t, some v)) h k _
  refine Go.pure ?_
  simp only [show (keyPart (Value.str KEY t)).isSome = true from rfl, if_true]
  refine Go.bind (Go.pure ?_)
  simp only [Bool.false_eq_true, if_false]
  refine Go.bind (gTakeOut ho x (fun e k' => ?_) fun p e ep hp h' k' hsb ho' => ?_)
  · simp only [Option.isNone_none, if_true]
    refine Go.bind (wpAny_missedRemoval_other hs ⟨_, _, rfl, ?_⟩)
    exact Go.bind (wpAny_rule ⟨_, _, rfl, Go.pure (qn e _)⟩)
  · simp only [Option.isNone_some, Bool.false_eq_true, if_false]
    exact Go.bind (wpAny_letGo ⟨_, _, rfl, Go.pure (qs p _ ep hp _ _ hsb ho')⟩)
end
end Mine

/-! B5 -/
namespace Mine
theorem fillK : PySem.Challenge.rw_bn0041_01 = PySem.Challenge.rw_bn0041_01 ∧ hd.heap_1 = hd.heap_1 := by
  k_fill
  exact ⟨rfl, rfl⟩

theorem look_of_ns {m : Str → Option Value} {o : Obj} (x : NsIs m o) (name : Str) : lookIn name o = some (m name) := by
  obtain ⟨es, ep, hd, hk, hf⟩ := x
  obtain ⟨cc, dd, dt, sl⟩ := o
  dsimp only at hd
  subst hd
  have hf := hf name
  unfold nsFind findBy at hf
  unfold lookIn
  simp only [← Array.find?_toList] at *
  cases hq : es.toList.find? (fun e => e.key.isStr name) with
  | some e => rw [hq] at hf; rw [← hf]; simp only [hq, Option.map_some]
  | none =>
    rw [hq] at hf
    have : es.toList.any (·.refKey) = false := by
      rw [List.any_eq_false]; intro e he; obtain ⟨n, t, h⟩ := hk e (Array.mem_toList_iff.mp he); simp [DictEntry.refKey, h]
    simp only [hq, this, Bool.false_eq_true, if_false, ← hf, Option.map_none]

structure OwnA (K : Frag) (C : Addr) (name : Str) : Prop where
  g : plainGet K C name = true
  h : hasDictIn K C = true
  a : ∃ attr, findIn K (.ref C) name = some attr ∧ noGet K attr = true
structure MethA (K : Frag) (C : Addr) (name : Str) (f : Addr) : Prop where
  g : plainGet K C name = true
  a : findIn K (.ref C) name = some (some (.ref f))
  f : isFn K (.ref f) = true
theorem fm_none {x : Str} : ∀ {vs : Fv}, (∀ p ∈ vs, p.1 ≠ x) → fm vs x = none
  | [], _ => rfl
  | (n, u) :: r, h => by unfold fm; rw [if_neg (fun e => h _ (.head _) e.symm), fm_none fun p hp => h p (.tail _ hp)]

def bindV (ps : List (Str × Value)) (others : List Str) : Fv := ps.map (fun p => (p.1, some p.2)) ++ others.map fun n => (n, none)
theorem fm_nones {x : Str} : ∀ {l : List Str}, fm (l.map fun n => (n, none)) x = none
  | [] => rfl
  | n :: r => by show (if x = n then none else fm (r.map fun n => (n, none)) x) = none; rw [fm_nones]; split <;> rfl
theorem fm_bind {others : List Str} : ∀ {ps : List (Str × Value)}, (ps.map (·.1)).Nodup → ∀ x, ps.reverse.lookup x = fm (bindV ps others) x := by
  have key : ∀ (ps : List (Str × Value)) (x : Str), ps.lookup x = fm (bindV ps others) x := by
    intro ps x
    induction ps with
    | nil => exact fm_nones.symm
    | cons p r ih =>
      obtain ⟨n, v⟩ := p
      show List.lookup x ((n, v) :: r) = if x = n then some v else fm (bindV r others) x
      rw [List.lookup_cons, ih]
      by_cases e : x = n
      · subst e; simp
      · have : (x == n) = false := by simpa using e
        simp [this, e]
  intro ps hn x
  rw [← key]
  clear key
  induction ps with
  | nil => rfl
  | cons p r ih =>
    obtain ⟨n, v⟩ := p
    rw [List.map_cons, List.nodup_cons] at hn
    rw [List.reverse_cons, List.lookup_append, ih hn.2, List.lookup_cons]
    by_cases e : x = n
    · subst e
      have : r.lookup x = none := by
        cases q : r.lookup x with
        | none => rfl
        | some v' =>
          exfalso
          refine hn.1 ?_
          clear ih hn
          induction r with
          | nil => cases q
          | cons p r ih =>
            obtain ⟨n', v''⟩ := p
            rw [List.lookup_cons] at q
            by_cases e : x = n'
            · subst e; simp
            · have h' : (x == n') = false := by simpa using e
              rw [h'] at q
              exact List.mem_cons_of_mem _ (ih q)
      rw [this]; simp
    · have h' : (x == n) = false := by simpa using e
      rw [h']
      cases hq : r.lookup x <;> simp [h', hq, List.lookup_cons]

def zipV : List Str → List Value → Fv
  | n :: ns, v :: vs => (n, some v) :: zipV ns vs
  | n :: ns, [] => (n, none) :: zipV ns []
  | [], _ => []
theorem zipV_eq : ∀ (ns : List Str) (vals : List Value), zipV ns vals = bindV (ns.zip vals) (ns.drop vals.length)
  | [], vals => by cases vals <;> rfl
  | n :: ns, [] => by
    have := zipV_eq ns []
    show (n, none) :: zipV ns [] = (n, none) :: (ns.map fun n => (n, none))
    rw [this]
    cases ns <;> rfl
  | n :: ns, v :: vs => by
    show (n, some v) :: zipV ns vs = _
    rw [zipV_eq ns vs]; rfl
theorem zipV_keys : ∀ (ns : List Str) (vals : List Value), (zipV ns vals).map (·.1) = ns
  | [], vals => by cases vals <;> rfl
  | n :: ns, [] => by show n :: (zipV ns []).map (·.1) = _; rw [zipV_keys ns []]
  | n :: ns, v :: vs => by show n :: (zipV ns vs).map (·.1) = _; rw [zipV_keys ns vs]
theorem zip_keys_sub : ∀ (ns : List Str) (vals : List Value), ((ns.zip vals).map (·.1)).Sublist ns
  | [], vals => by cases vals <;> exact List.Sublist.refl _
  | n :: ns, [] => List.nil_sublist _
  | n :: ns, v :: vs => (zip_keys_sub ns vs).cons₂ n

section
variable {c : Cx} {A : Around} {h₀ h : Heap} {k : Nat} {l l' : List It} {env : Env} {L : Addr} {K : Frag} {mg mb : Str → Option Value} {x dx C : Addr} {vs : Fv} {name : Str}

theorem Led.inst (w : Led h₀ h l) (hm : (x, InstP C dx) ∈ l) (hd : (dx, Frm vs) ∈ l) : ∃ od, InstAt h x ⟨.ref C, some dx, .plain, #[]⟩ C (some od) ∧ Frm vs od := by
  obtain ⟨o, e, p⟩ := w.get hm
  obtain ⟨od, e', p'⟩ := w.get hd
  unfold InstP at p
  subst p
  exact ⟨od, ⟨e, rfl, rfl, e'⟩, p'⟩
theorem gOwn {v : Value} {expr : Bool} {Q : Value → Heap → Nat → Prop} (b : Base K mg mb h₀) (w : Led h₀ h l) (hm : (x, InstP C dx) ∈ l) (hd : (dx, Frm vs) ∈ l) (hv : (name, some v) ∈ vs) (a : OwnA K C name) (hh : handedIn v = true)
    (q : ∀ k', Q v h k') : Go c A (getAttr (.ref x) name expr) h k Q := by
  obtain ⟨od, I, f⟩ := w.inst hm hd
  obtain ⟨at', ha, hn⟩ := a.a
  exact get_value (b.kin.keeps w.keep) I (plainGet_of a.g).1 (findObj_own a.h ha hn (by rw [look_of_ns f.2, fm_mem f.1 hv])) hh ⟨_, _, rfl, q _⟩
theorem gMeth {f : Addr} {pl : Sem Bool} {Q : Value × List Value → Heap → Nat → Prop} (b : Base K mg mb h₀) (w : Led h₀ h l) (hm : (x, InstP C dx) ∈ l) (hd : (dx, Frm vs) ∈ l) (a : MethA K C name f) (hn : ∀ p ∈ vs, p.1 ≠ name)
    (q : Q (.ref f, [.ref x]) h k) : Go c A (getMethod (.ref x) name pl) h k Q := by
  obtain ⟨od, I, fr⟩ := w.inst hm hd
  refine method_fn (b.kin.keeps w.keep) I (plainGet_of a.g).1 (plainGet_of a.g).2 a.a (beq_iff_eq.mp a.f) ?_ ⟨_, _, rfl, q⟩
  show (lookIn name od).map _ = _
  rw [look_of_ns fr.2, fm_none hn]; rfl
theorem keepK {f : Addr} (b : Base K mg mb h₀) (w : Led h₀ h l) (hk : keepIn K (.ref f) = true) : KeepOk c h (.ref f) := by
  obtain ⟨k, a, q⟩ := looks_keep (M := c.m) hk (b.kin.keeps w.keep)
  exact ⟨k, a.elim .inl (fun e => .inr (.inl e)), q⟩
theorem keepFn {f : Addr} {o : Obj} {fd : FuncData} (ho : h.get? f = some o) (hd : o.data = .func fd) : KeepOk c h (.ref f) := by
  refine ⟨.frame, .inl rfl, (Looks.ld (part := none) ho).andThen ?_⟩
  rw [hd]
  exact .now

theorem gEnterK {f : Addr} {oc : Value} {od : Option Addr} {osl : Array (Option Value)} {fname qual : Str} {params : Arguments} {body : List Stmt} {scope : Scope} {dV kV doc pm cdv ct : Value} {an : Option Addr} {args : Args} (ns : List Str) (vals : List Value) {Q : Value → Heap → Nat → Prop}
    (b : Base K mg mb h₀) (w : Led h₀ h l) (hd : A.depth < 900) (ho : K.lookup f = some ⟨oc, od, .func (fnOf fname qual params body scope dV kV doc pm an cdv ct), osl⟩) (hcd : codeIn K cdv qual = true)
    (hbind : BindsTo (c.s h k) (fnOf fname qual params body scope dV kV doc pm an cdv ct) args (ns.zip vals)) (hloc : ∀ x ∈ ns.zip vals, scope.names.lookup x.1 = some .local) (hcell : ∀ x ∈ scope.names, x.2 ≠ .cell)
    (hnd : ns.Nodup)
    (q : ∀ L h' k', EnvOk (envOf qual scope L f cdv) L → Led h₀ h' ((L, Frm (zipV ns vals)) :: l) → Go c (A.deeper (envOf qual scope L f cdv)) (execs body (envOf qual scope L f cdv)) h' k' (fun fl h'' k'' => Q (match fl with | .ret v => v | _ => .none) h'' k''))
    (hco : scope.isCoroutine = false := by rfl) (hgen : scope.isGenerator = false := by rfl) (hk : scope.kind = .function := by rfl) : GoC c A (.call (.ref f) args) h k Q := by
  refine gEnter (zipV ns vals) b w (Nat.lt_of_lt_of_le hd (by decide)) (w.keep _ _ (b.kin _ _ ho)) rfl ((codeRec_of b.kin hcd).keeps w.keep) rfl hbind hloc hcell ?_ (by rw [zipV_keys]; exact hnd) (fun L h' k' w' => q L h' k' (envOk_call (fd := fnOf fname qual params body scope dV kV doc pm an cdv ct) (a := f) hk rfl rfl) w') hco hgen hk
  funext y
  rw [zipV_eq]
  exact fm_bind ((zip_keys_sub ns vals).nodup hnd) y
end

/-! the facts of the classes -/
theorem o_clock (c : Cx) : OwnA (hd.heap_1 c.w.params) 917 "clock" := ⟨by k_is, by k_is, _, by k_is, by k_is⟩
theorem o_storage (c : Cx) : OwnA (hd.heap_1 c.w.params) 917 "storage" := ⟨by k_is, by k_is, _, by k_is, by k_is⟩
theorem o_expirations (c : Cx) : OwnA (hd.heap_1 c.w.params) 917 "expirations" := ⟨by k_is, by k_is, _, by k_is, by k_is⟩
theorem o_events (c : Cx) : OwnA (hd.heap_1 c.w.params) 917 "events" := ⟨by k_is, by k_is, _, by k_is, by k_is⟩
theorem m_get (c : Cx) : MethA (hd.heap_1 c.w.params) 917 "get" 842 := ⟨by k_is, by k_is, by k_is⟩
end Mine

/-! B6 -/
namespace Mine
theorem fillK6 : PySem.Challenge.rw_bn0041_01 = PySem.Challenge.rw_bn0041_01 ∧ hd.heap_1 = hd.heap_1 := by
  k_fill
  exact ⟨rfl, rfl⟩
section
variable {c : Cx} {A : Around} {h₀ h : Heap} {k : Nat} {l l' : List It} {env : Env} {L : Addr} {K : Frag} {mg mb : Str → Option Value} {x dx C : Addr} {vs : Fv} {name : Str}

structure UsA (K : Frag) (C : Addr) (name : Str) : Prop where
  g : plainGet K C name = true
  a : ∃ r, findIn K (.ref C) name = some r ∧ r.all (fun a => (typeIn K a).any fun t => t != .type "function" && t != .type "method_descriptor" && t != .type "wrapper_descriptor") = true
theorem gMethU {v : Value} {pl : Sem Bool} {Q : Value × List Value → Heap → Nat → Prop} (b : Base K mg mb h₀) (w : Led h₀ h l) (hm : (x, InstP C dx) ∈ l) (hd : (dx, Frm vs) ∈ l) (hv : (name, some v) ∈ vs) (a : OwnA K C name) (u : UsA K C name) (hh : handedIn v = true)
    (q : ∀ k', Q (v, []) h k') : Go c A (getMethod (.ref x) name pl) h k Q := by
  obtain ⟨od, I, f⟩ := w.inst hm hd
  obtain ⟨r, hf, ht⟩ := u.a
  exact method_usual (b.kin.keeps w.keep) I (plainGet_of a.g).1 (plainGet_of a.g).2 hf ht (Go.toWp (gOwn (Q := fun v h k => Q (v, []) h k) b w hm hd hv a hh q) fun v h' k' z => ⟨h', k', rfl, z⟩)

/-! a method of an exact built-in type -/
theorem gMethB {T : String} {id : String} {v : Value} {pl : Sem Bool} {Q : Value × List Value → Heap → Nat → Prop} (hT : (c.s h k).TypeIs v T) (pa : PlainAttrs T) (slot : Slot T name id) (hty : typeOf (.builtin id) = pure (.type "method_descriptor"))
    (hd : ∀ a, v = .ref a → ∃ o, h.get? a = some o ∧ o.dict = none) (q : Q (.builtin id, [v]) h k) : Go c A (getMethod v name pl) h k Q := getMethod_builtin hT pa slot hty hd ⟨_, _, rfl, q⟩
theorem gCallB {T id : String} {B : Builtin} {self : Value} {rest : List Value} {Q : Value → Heap → Nat → Prop} (slot : Slot T name id) (hT : (c.s h k).TypeIs self T) (entry : entryFor table id = some B) (args : argsOk id ⟨self :: rest, []⟩)
    (x : Go c A.in1 (B ⟨self :: rest, []⟩) h k fun fin h k => ∃ v, fin = .done (.ret v) ∧ Q v h k) : Go c A (call (.builtin id) (self :: rest)) h k Q := by
  refine wpAny_call (codeAny_call_builtin slot.plain entry (slot.check _ _ _ _ _ _ _ _ hT args (x.toWp fun fin h' k' z => ?_)))
  obtain ⟨v, rfl, z⟩ := z
  exact ⟨h', k', rfl, z⟩

theorem DictP.type {d : Addr} {KEY : Str} {P : Option (Value → Prop)} (w : Led h₀ h l) (hm : (d, DictP c.w KEY P) ∈ l) : ∃ o, h.get? d = some o ∧ o.cls = .type "dict" ∧ (o.dict = none ∧ o.slots = #[]) ∧ OneKey c.w KEY P o := w.get hm
theorem mDict {d : Addr} {KEY : Str} {P : Option (Value → Prop)} {id : String} {pl : Sem Bool} {Q : Value × List Value → Heap → Nat → Prop} (w : Led h₀ h l) (hm : (d, DictP c.w KEY P) ∈ l) (slot : Slot "dict" name id) (hty : typeOf (.builtin id) = pure (.type "method_descriptor"))
    (q : Q (.builtin id, [.ref d]) h k) : Go c A (getMethod (.ref d) name pl) h k Q := by
  obtain ⟨o, e, hc, hd, x⟩ := DictP.type w hm
  exact gMethB ⟨o, e, hc⟩ PySem.F.plainAttrs_dict slot hty (fun a ea => by cases ea; exact ⟨o, e, hd.1⟩) q
theorem dGet {d : Addr} {KEY : Str} {P : Option (Value → Prop)} {t : Tok} {v : Value} {Q : Value → Heap → Nat → Prop} (w : Led h₀ h l) (hm : (d, DictP c.w KEY P) ∈ l) (qn : P = none → ∀ k', Q v h k') (qs : ∀ p v, P = some p → p v → ∀ k', Q v h k') :
    Go c A (call (.builtin "dict.get") [.ref d, .str KEY t, v]) h k Q := by
  obtain ⟨o, e, hc, hd, x⟩ := DictP.type w hm
  exact gCallB PySem.F.slot_dict_get ⟨o, e, hc⟩ PySem.F.entry_dict_get (PySem.F.args_dict_get_3 _ _ _) (bGet (w.noSys hm) e x (fun z k' => ⟨v, rfl, qn z k'⟩) fun p v z hp k' => ⟨v, rfl, qs p v z hp k'⟩)
theorem dPop {d : Addr} {KEY : Str} {P : Option (Value → Prop)} {t : Tok} {v : Value} {Q : Value → Heap → Nat → Prop} (w : Led h₀ h l) (sw : Sw d (DictP c.w KEY P) (DictP c.w KEY none) l l')
    (q : ∀ v' h' k', (v' = v ∨ ∃ p, P = some p ∧ p v') → Led h₀ h' l' → Q v' h' k') : Go c A (call (.builtin "dict.pop") [.ref d, .str KEY t, v]) h k Q := by
  obtain ⟨o, e, hc, hd, x⟩ := DictP.type w sw.mem
  refine gCallB PySem.F.slot_dict_pop ⟨o, e, hc⟩ PySem.F.entry_dict_pop (PySem.F.args_dict_pop_3 _ _ _) (bPop (w.noSys sw.mem) e x (fun {Q'} z => wpAny_notOrdered_dict ⟨o, e, hc⟩ ⟨_, _, rfl, z⟩) (fun z k' => ⟨v, rfl, q v h k' (.inl rfl) ?_⟩) fun p v' z hp h' k' hs ho' => ⟨v', rfl, q v' h' k' (.inr ⟨p, z, hp⟩) (w.same sw hs ?_)⟩)
  · subst z
    exact w.weak sw fun o z => z
  · obtain ⟨o', e', c', d', y⟩ := ho'
    exact ⟨o', e', c'.trans hc, d' (fun a b => a = none ∧ b = #[]) hd, y⟩
theorem OneKey.to {w : World} {KEY : Str} {p : Value → Prop} {v : Value} {o : Obj} (x : OneKey w KEY (some (· = v)) o) (hp : p v) : OneKey w KEY (some p) o := let ⟨es, ep, hd, t, v', e, hv⟩ := x; ⟨es, ep, hd, t, v', e, hv ▸ hp⟩
theorem dSet {d : Addr} {KEY : Str} {P : Option (Value → Prop)} {p : Value → Prop} {t : Tok} {v : Value} {Q : Unit → Heap → Nat → Prop} (w : Led h₀ h l) (hp : p v) (sw : Sw d (DictP c.w KEY P) (DictP c.w KEY (some p)) l l')
    (q : ∀ h' k', Led h₀ h' l' → Q () h' k') : Go c A (dictSet d (.str KEY t) v) h k Q := by
  obtain ⟨o, e, hc, hd, x⟩ := DictP.type w sw.mem
  refine gDictSet e x fun h' k' hs ho' => q h' k' (w.same sw hs ?_)
  obtain ⟨o', e', c', d', y⟩ := ho'
  exact ⟨o', e', c'.trans hc, d' (fun a b => a = none ∧ b = #[]) hd, y.to hp⟩

/-! the Counter -/
theorem check_meth {M : Model} {A : Around} {E : Value → Shared → Prop} {s : Shared} {i owner n : String} {self : Value} {rest : List Value} {kw : List (Str × Value)} {Q : Unit → Shared → Prop}
    (hk : builtinKind i = some .method) (hs : splitId i = some (owner, n)) (hi : Looks M s.heap (isInstance self (.type owner)) true) (ha : argsOk i ⟨self :: rest, kw⟩) (q : Q () s) :
    wpAny M A (checkBuiltinCall i ⟨self :: rest, kw⟩) Q E s := by
  simp only [checkBuiltinCall, hk, hs]
  refine wpAny_bind (hi.here ?_)
  simp only [Bool.not_true, Bool.false_eq_true, if_false]
  cases hsig : Manifest.signature? i with
  | none => exact wpAny_pure q
  | some sig =>
    simp only [argsOk, hsig] at ha
    have h2 : Bind.checkArgs i sig ⟨self :: rest, kw⟩ = pure () := ha
    show wpAny M A (Bind.checkArgs i sig ⟨self :: rest, kw⟩) Q E s
    rw [h2]; exact wpAny_pure q

structure CntA (K : Frag) : Prop where
  g1 : findIn K (.ref 794) "__getattribute__" = some (some (.builtin "dict.__getattribute__"))
  g2 : findIn K (.ref 794) "__getattr__" = some none
  sub : subIn K (.ref 794) (.type "dict") = some true
  ord : subIn K (.ref 794) (.type "collections.OrderedDict") = some false
structure BiA (K : Frag) (C : Addr) (name : Str) (id : String) : Prop where
  a : findIn K (.ref C) name = some (some (.builtin id))
  t : typeIn K (.builtin id) = some (.type "method_descriptor")
theorem method_bi {prog : Program} {w : World} {s : Shared} {E : Value → Shared → Prop} {ox : Obj} {od : Option Obj} {id : String} {pl : Sem Bool} {Q : Value × List Value → Shared → Prop} (X : K.In s.heap) (I : InstAt s.heap x ox C od)
    {ga : String} (hga : findIn K (.ref C) "__getattribute__" = some (some (.builtin ga))) (hcan : Manifest.canonical ga = "object.__getattribute__") (hk : findIn K (.ref C) "__getattr__" = some none)
    (hf : findIn K (.ref C) name = some (some (.builtin id))) (ht : typeIn K (.builtin id) = some (.type "method_descriptor")) (hs : shadowIn od name = some false) (h : Q (.builtin id, [.ref x]) s) :
    wpAny (model prog w) A (getMethod (.ref x) name pl) Q E s := by
  unfold getMethod specialOf
  refine wpAny_bind (wpAny_bind (I.type.here ((looks_findIn X hga).here ?_)))
  dsimp only
  rw [hcan, if_neg (by decide)]
  refine wpAny_bind (wpAny_bind (I.type.here ((looks_findIn X hk).here ?_)))
  refine wpAny_bind (wpAny_bind (I.type.here ((looks_findIn X hf).here (wpAny_bind ((looks_typeIn X ht).here ?_)))))
  rw [if_neg (by decide +kernel)]
  refine wpAny_bind (wpAny_loadPart I.at_ ?_)
  have hd := I.dict
  cases e : ox.dict with
  | none => exact wpAny_bind (wpAny_rule (wpAny_pure h))
  | some dx =>
    cases od with
    | none => rw [e] at hd; exact hd.elim
    | some o =>
      rw [e] at hd
      obtain ⟨r, a, b⟩ := Option.map_eq_some_iff.mp hs
      refine wpAny_bind (wpAny_bind (wpAny_loadPart hd ?_))
      rw [nsLook_of a]
      refine wpAny_pure ?_
      rw [b]
      exact wpAny_bind (wpAny_rule (wpAny_pure h))

theorem Led.cnt {ad : Ad} {P : Option (Value → Prop)} (w : Led h₀ h l) (hm : (ad.C, CntP c.w ad P) ∈ l) (hd : (ad.CD, Frm []) ∈ l) : ∃ o od, InstAt h ad.C o 794 (some od) ∧ Frm [] od ∧ o.dict = some ad.CD ∧ OneKey c.w ad.KEY P o := by
  obtain ⟨o, e, hc, hdd, x⟩ := w.get hm
  obtain ⟨od, e', p'⟩ := w.get hd
  refine ⟨o, od, ⟨e, hc, ?_, ?_⟩, p', hdd, x⟩
  · obtain ⟨es, ep, hx, _⟩ := x; unfold notCls; rw [hx]
  · rw [hdd]; exact e'
theorem mCnt {ad : Ad} {P : Option (Value → Prop)} {id : String} {pl : Sem Bool} {Q : Value × List Value → Heap → Nat → Prop} (b : Base K mg mb h₀) (w : Led h₀ h l) (hm : (ad.C, CntP c.w ad P) ∈ l) (hd : (ad.CD, Frm []) ∈ l) (a : CntA K) (bi : BiA K 794 name id)
    (q : Q (.builtin id, [.ref ad.C]) h k) : Go c A (getMethod (.ref ad.C) name pl) h k Q := by
  obtain ⟨o, od, I, f, _, x⟩ := w.cnt hm hd
  refine method_bi (b.kin.keeps w.keep) I a.g1 (by decide +kernel) a.g2 bi.a bi.t ?_ ⟨_, _, rfl, q⟩
  show (lookIn name od).map _ = _
  rw [look_of_ns f.2]; rfl
theorem gCallCnt {ad : Ad} {P : Option (Value → Prop)} {id n : String} {B : Builtin} {rest : List Value} {Q : Value → Heap → Nat → Prop} (b : Base K mg mb h₀) (w : Led h₀ h l) (hm : (ad.C, CntP c.w ad P) ∈ l) (hd : (ad.CD, Frm []) ∈ l) (a : CntA K)
    (hk : builtinKind id = some .method ∨ builtinKind id = some .slot) (hs : splitId id = some ("dict", n)) (plain : plainId id = true) (entry : entryFor table id = some B) (args : argsOk id ⟨.ref ad.C :: rest, []⟩)
    (x : Go c A.in1 (B ⟨.ref ad.C :: rest, []⟩) h k fun fin h k => ∃ v, fin = .done (.ret v) ∧ Q v h k) : Go c A (call (.builtin id) (.ref ad.C :: rest)) h k Q := by
  obtain ⟨o, od, I, f, _, _⟩ := w.cnt hm hd
  have fin : ∀ {E' : Value → Shared → Prop} {R : Fin → Shared → Prop}, (∀ v h' k', Q v h' k' → R (.done (.ret v)) (c.s h' k')) → wpAny c.m A.in1 (B ⟨.ref ad.C :: rest, []⟩) R E' (c.s h k) := fun hr => x.toWp fun fin h' k' z => by
    obtain ⟨v, rfl, z⟩ := z
    exact hr v h' k' z
  rcases hk with hk | hk
  · exact wpAny_call (codeAny_call_builtin plain entry (check_meth hk hs (I.type.andThen (looks_subIn (b.kin.keeps w.keep) a.sub)) args (fin fun v h' k' z => ⟨h', k', rfl, z⟩)))
  · exact wpAny_call (codeAny_call_builtin plain entry (check_slot hk hs (I.type.andThen (looks_subIn (b.kin.keeps w.keep) a.sub)) args (fin fun v h' k' z => ⟨h', k', rfl, z⟩)))
theorem cGet {ad : Ad} {P : Option (Value → Prop)} {t : Tok} {v : Value} {Q : Value → Heap → Nat → Prop} (b : Base K mg mb h₀) (w : Led h₀ h l) (hm : (ad.C, CntP c.w ad P) ∈ l) (hd : (ad.CD, Frm []) ∈ l) (a : CntA K) (qn : P = none → ∀ k', Q v h k') (qs : ∀ p v, P = some p → p v → ∀ k', Q v h k') :
    Go c A (call (.builtin "dict.get") [.ref ad.C, .str ad.KEY t, v]) h k Q := by
  obtain ⟨o, e, hc, hdd, x⟩ := w.get hm
  exact gCallCnt (n := "get") b w hm hd a (.inl (by decide +kernel)) (by decide +kernel) PySem.F.slot_dict_get.plain PySem.F.entry_dict_get (PySem.F.args_dict_get_3 _ _ _) (bGet (w.noSys hm) e x (fun z k' => ⟨v, rfl, qn z k'⟩) fun p v z hp k' => ⟨v, rfl, qs p v z hp k'⟩)
theorem notOrd_cnt {ad : Ad} {P : Option (Value → Prop)} {nm : String} {rest : List Value} {Q : Unit → Heap → Nat → Prop} (b : Base K mg mb h₀) (w : Led h₀ h l) (hm : (ad.C, CntP c.w ad P) ∈ l) (hd : (ad.CD, Frm []) ∈ l) (a : CntA K) (q : Q () h k) :
    Go c A (Builtin.Dict.notOrdered nm ⟨.ref ad.C :: rest, []⟩) h k Q := by
  obtain ⟨o, od, I, f, _, _⟩ := w.cnt hm hd
  unfold Builtin.Dict.notOrdered
  split
  · refine Go.bind (Go.looks I.type ?_)
    show Go c A (if (Value.ref 794 != Value.type "dict") = true then _ else _) h k Q
    rw [if_pos (by decide)]
    refine Go.bind (Go.looks (I.type.andThen (looks_subIn (b.kin.keeps w.keep) a.ord)) ?_)
    show Go c A (if false = true then _ else _) h k Q
    rw [if_neg (by decide)]
    exact Go.pure q
  · exact Go.pure q
theorem cPop {ad : Ad} {P : Option (Value → Prop)} {t : Tok} {v : Value} {Q : Value → Heap → Nat → Prop} (b : Base K mg mb h₀) (w : Led h₀ h l) (sw : Sw ad.C (CntP c.w ad P) (CntP c.w ad none) l l') (hd : (ad.CD, Frm []) ∈ l) (a : CntA K)
    (q : ∀ v' h' k', (v' = v ∨ ∃ p, P = some p ∧ p v') → Led h₀ h' l' → Q v' h' k') : Go c A (call (.builtin "dict.pop") [.ref ad.C, .str ad.KEY t, v]) h k Q := by
  obtain ⟨o, e, hc, hdd, x⟩ := w.get sw.mem
  refine gCallCnt (n := "pop") b w sw.mem hd a (.inl (by decide +kernel)) (by decide +kernel) PySem.F.slot_dict_pop.plain PySem.F.entry_dict_pop (PySem.F.args_dict_pop_3 _ _ _) (bPop (w.noSys sw.mem) e x (fun {Q'} z => notOrd_cnt b w sw.mem hd a z) (fun z k' => ⟨v, rfl, q v h k' (.inl rfl) ?_⟩)
    fun p v' z hp h' k' hs ho' => ⟨v', rfl, q v' h' k' (.inr ⟨p, z, hp⟩) (w.same sw hs ?_)⟩)
  · subst z
    exact w.weak sw fun o z => z
  · obtain ⟨o', e', c', d', y⟩ := ho'
    exact ⟨o', e', c'.trans hc, d' (fun a _ => a = some ad.CD) hdd, y⟩
end
theorem cntA (c : Cx) : CntA (hd.heap_1 c.w.params) := ⟨by k_is, by k_is, by k_is, by k_is⟩
theorem bi_get (c : Cx) : BiA (hd.heap_1 c.w.params) 794 "get" "dict.get" := ⟨by k_is, by k_is⟩
theorem bi_pop (c : Cx) : BiA (hd.heap_1 c.w.params) 794 "pop" "dict.pop" := ⟨by k_is, by k_is⟩
theorem u_clock (c : Cx) : UsA (hd.heap_1 c.w.params) 917 "clock" := ⟨by k_is, _, by k_is, by rfl⟩
end Mine

/-! B7 -/
namespace Mine
theorem fillK7 : PySem.Challenge.rw_bn0041_01 = PySem.Challenge.rw_bn0041_01 ∧ hd.heap_1 = hd.heap_1 := by
  k_fill
  exact ⟨rfl, rfl⟩
section
variable {c : Cx} {A : Around} {h₀ h : Heap} {k : Nat} {l l' : List It} {env : Env} {L : Addr} {K : Frag} {mg mb : Str → Option Value} {x dx C : Addr} {vs : Fv} {name : Str}

/-! items of exact dicts -/
theorem dItem {d : Addr} {KEY : Str} {p : Value → Prop} {t : Tok} {Q : Value → Heap → Nat → Prop} (w : Led h₀ h l) (hm : (d, DictP c.w KEY (some p)) ∈ l) (q : ∀ v k', p v → Q v h k') : Go c A (getItem (.ref d) (.str KEY t)) h k Q := by
  obtain ⟨o, e, hc, hd, x⟩ := DictP.type w hm
  unfold getItem
  refine Go.holding (Go.bind (wpAny_sequenceKey (T := "dict") ⟨o, e, hc⟩ (by decide) ⟨_, _, rfl, ?_⟩))
  refine Go.bind (wpAny_callSpecial?_slot (name := Str.ofString "__getitem__") (T := "dict") ⟨o, e, hc⟩ PySem.F.slot_dict_getitem ?_)
  refine Go.toWp (Q := Q) (gCallB PySem.F.slot_dict_getitem ⟨o, e, hc⟩ PySem.F.entry_dict_getitem (PySem.F.args_dict_getitem_2 _ _) ?_) fun v h' k' z => ⟨h', k', rfl, Go.pure z⟩
  show Go c A.in1 (dictGet d (.str KEY t) >>= _) h k _
  refine Go.bind (gDictGet e x (fun z => nomatch z) fun p' v z hp k' => ?_)
  cases z
  exact Go.pure ⟨v, rfl, q v k' hp⟩
theorem subD {value slice : PySem.Expr} {d : Addr} {KEY : Str} {p : Value → Prop} {t : Tok} {Q : Value → Heap → Nat → Prop} (w : Led h₀ h l) (hm : (d, DictP c.w KEY (some p)) ∈ l) (q : ∀ v k', p v → Q v h k')
    (hs : subscripted slice false (.ref d) (.str KEY t) = operate [.ref d, .str KEY t] (getItem (.ref d) (.str KEY t)) := by with_unfolding_all rfl) : Go c A (subscriptTail value slice (.ref d) (.str KEY t)) h k Q := by
  obtain ⟨o, e, hc, hd, x⟩ := DictP.type w hm
  exact tail_any (T := "dict") ⟨o, e, hc⟩ PySem.F.slot_dict_getitem.lookup (dItem w hm q) hs
theorem dSetItem {d : Addr} {KEY : Str} {P : Option (Value → Prop)} {p : Value → Prop} {t : Tok} {v : Value} {Q : Unit → Heap → Nat → Prop} (w : Led h₀ h l) (hp : p v) (sw : Sw d (DictP c.w KEY P) (DictP c.w KEY (some p)) l l')
    (q : ∀ h' k', Led h₀ h' l' → Q () h' k') : Go c A (setItem (.ref d) (.str KEY t) v) h k Q := by
  obtain ⟨o, e, hc, hd, x⟩ := DictP.type w sw.mem
  unfold setItem
  refine Go.holding (Go.bind (wpAny_sequenceKey (T := "dict") ⟨o, e, hc⟩ (by decide) ⟨_, _, rfl, ?_⟩))
  refine Go.bind (wpAny_callSpecial?_slot (name := Str.ofString "__setitem__") (T := "dict") ⟨o, e, hc⟩ PySem.F.slot_dict_setitem ?_)
  refine Go.toWp (Q := fun _ => Q ()) (gCallB PySem.F.slot_dict_setitem ⟨o, e, hc⟩ PySem.F.entry_dict_setitem (PySem.F.args_dict_setitem_3 _ _ _) ?_) fun v h' k' z => ⟨h', k', rfl, Go.pure z⟩
  show Go c A.in1 (Builtin.Dict.notOrdered "__setitem__" ⟨[.ref d, .str KEY t, v], []⟩ >>= _) h k _
  refine Go.bind (wpAny_notOrdered_dict (⟨o, e, hc⟩ : (c.s h k).TypeIs (.ref d) "dict") ⟨_, _, rfl, ?_⟩)
  show Go c A.in1 (dictSet d (.str KEY t) v >>= _) h k _
  exact Go.bind (dSet w hp sw fun h' k' w' => Go.pure ⟨.none, rfl, q h' k' w'⟩)

/-! items of the Counter -/
structure CntB (K : Frag) : Prop extends CntA K where
  no : noSeq K 794 = true
  gi : findIn K (.ref 794) "__getitem__" = some (some (.builtin "dict.__getitem__"))
  si : findIn K (.ref 794) "__setitem__" = some (some (.builtin "dict.__setitem__"))
  mi : findIn K (.ref 794) "__missing__" = some (some (.ref 599))
  mf : typeIn K (.ref 599) = some (.type "function")
theorem cItem {ad : Ad} {P : Option (Value → Prop)} {t : Tok} {Q : Value → Heap → Nat → Prop} (b : Base K mg mb h₀) (w : Led h₀ h l) (hm : (ad.C, CntP c.w ad P) ∈ l) (hd : (ad.CD, Frm []) ∈ l) (a : CntB K)
    (miss : ∀ k' {Q' : Value → Heap → Nat → Prop}, (∀ t h' k', Led h₀ h' l → Q' (.int 0 t) h' k') → GoC c A.in1 (.call (.ref 599) ⟨[.ref ad.C, .str ad.KEY t], []⟩) h k' Q')
    (qn : P = none → ∀ t h' k', Led h₀ h' l → Q (.int 0 t) h' k') (qs : ∀ p v, P = some p → p v → ∀ k', Q v h k') : Go c A (getItem (.ref ad.C) (.str ad.KEY t)) h k Q := by
  obtain ⟨o, od, I, f, hdd, x⟩ := w.cnt hm hd
  have X := b.kin.keeps w.keep
  unfold getItem sequenceKey
  refine Go.holding (Go.bind (Go.bind (Go.looks I.type (Go.bind (Go.looks (anyM_none X a.no) ?_)))))
  show Go c A (if (!false) = true then _ else _) h k _
  rw [if_pos (by rfl)]
  refine Go.pure (Go.bind ?_)
  unfold callSpecial? specialOf
  refine Go.bind (Go.bind (Go.looks I.type (Go.looks (looks_findIn X a.gi) ?_)))
  refine Go.holding ?_
  rw [PySem.F.slot_dict_getitem.bind]
  refine Go.bind (Go.pure ?_)
  show Go c A (call (.builtin "dict.__getitem__") [.ref ad.C, .str ad.KEY t] >>= _) h k _
  refine Go.bind (gCallCnt (n := "__getitem__") b w hm hd a.toCntA (.inl (by decide +kernel)) (by decide +kernel) PySem.F.slot_dict_getitem.plain PySem.F.entry_dict_getitem (PySem.F.args_dict_getitem_2 _ _) ?_)
  show Go c A.in1 (dictGet ad.C (.str ad.KEY t) >>= _) h k _
  refine Go.bind (gDictGet I.at_ x (fun z k' => ?_) fun p v z hp k' => ?_)
  · show Go c A.in1 (Builtin.Dict.missed ad.C (.str ad.KEY t) >>= _) h k' _
    refine Go.bind (wpAny_missed_other (w.noSys hm) ⟨_, _, rfl, ?_⟩)
    refine Go.bind (Go.looks I.type ?_)
    show Go c A.in1 (if (Value.ref 794 != Value.type "dict") = true then _ else _) h k' _
    rw [if_pos (by decide)]
    refine Go.bind ?_
    unfold callSpecial? specialOf
    refine Go.bind (Go.bind (Go.looks I.type (Go.looks (looks_findIn X a.mi) ?_)))
    refine Go.holding (Go.bind (Go.looks (bind_fn X _ a.mf) ?_))
    show Go c A.in1 (call (.ref 599) [.ref ad.C, .str ad.KEY t] >>= _) h k' _
    refine Go.bind (Go.ofC (miss k' fun t h' k' w' => ?_))
    exact Go.pure (Go.bind (wpAny_rule ⟨_, _, rfl, Go.pure ⟨_, rfl, Go.pure (Go.pure (qn z t h' k' w'))⟩⟩))
  · exact Go.pure ⟨v, rfl, Go.pure (Go.pure (qs p v z hp k'))⟩
theorem cSetItem {ad : Ad} {P : Option (Value → Prop)} {p : Value → Prop} {t : Tok} {v : Value} {Q : Unit → Heap → Nat → Prop} (b : Base K mg mb h₀) (w : Led h₀ h l) (hp : p v) (sw : Sw ad.C (CntP c.w ad P) (CntP c.w ad (some p)) l l') (hd : (ad.CD, Frm []) ∈ l) (a : CntB K)
    (q : ∀ h' k', Led h₀ h' l' → Q () h' k') : Go c A (setItem (.ref ad.C) (.str ad.KEY t) v) h k Q := by
  obtain ⟨o, od, I, f, hdd, x⟩ := w.cnt sw.mem hd
  have X := b.kin.keeps w.keep
  unfold setItem sequenceKey
  refine Go.holding (Go.bind (Go.bind (Go.looks I.type (Go.bind (Go.looks (anyM_none X a.no) ?_)))))
  show Go c A (if (!false) = true then _ else _) h k _
  rw [if_pos (by rfl)]
  refine Go.pure (Go.bind ?_)
  unfold callSpecial? specialOf
  refine Go.bind (Go.bind (Go.looks I.type (Go.looks (looks_findIn X a.si) ?_)))
  refine Go.holding ?_
  rw [PySem.F.slot_dict_setitem.bind]
  refine Go.bind (Go.pure ?_)
  show Go c A (call (.builtin "dict.__setitem__") [.ref ad.C, .str ad.KEY t, v] >>= _) h k _
  refine Go.bind (gCallCnt (n := "__setitem__") b w sw.mem hd a.toCntA (.inr (by decide +kernel)) (by decide +kernel) PySem.F.slot_dict_setitem.plain PySem.F.entry_dict_setitem (PySem.F.args_dict_setitem_3 _ _ _) ?_)
  show Go c A.in1 (Builtin.Dict.notOrdered "__setitem__" ⟨[.ref ad.C, .str ad.KEY t, v], []⟩ >>= _) h k _
  refine Go.bind (notOrd_cnt b w sw.mem hd a.toCntA ?_)
  show Go c A.in1 (dictSet ad.C (.str ad.KEY t) v >>= _) h k _
  refine Go.bind (gDictSet I.at_ x fun h' k' hs ho' => Go.pure ⟨.none, rfl, Go.pure (Go.pure (q h' k' (w.same sw hs ?_)))⟩)
  obtain ⟨o', e', c', d', y⟩ := ho'
  exact ⟨o', e', c'.trans I.cls, d' (fun a _ => a = some ad.CD) hdd, y.to hp⟩
end
theorem cntB (c : Cx) : CntB (hd.heap_1 c.w.params) := ⟨cntA c, by k_is, by k_is, by k_is, by k_is, by k_is⟩
end Mine

/-! B8 -/
namespace Mine
theorem fillK8 : PySem.Challenge.rw_bn0041_01 = PySem.Challenge.rw_bn0041_01 ∧ hd.heap_1 = hd.heap_1 := by
  k_fill
  exact ⟨rfl, rfl⟩
section
variable {α : Type} {p x : α} {l : List α}
theorem t0 : p ∈ p :: l := .head _
theorem t1 (h : p ∈ l) : p ∈ x :: l := .tail _ h

theorem t2 {x0 x1 : α} (h : p ∈ l) : p ∈ x0 :: x1 :: l := t1 (t1 h)
theorem t3 {x0 x1 x2 : α} (h : p ∈ l) : p ∈ x0 :: x1 :: x2 :: l := t2 (t1 h)
theorem t4 {x0 x1 x2 x3 : α} (h : p ∈ l) : p ∈ x0 :: x1 :: x2 :: x3 :: l := t3 (t1 h)
theorem t5 {x0 x1 x2 x3 x4 : α} (h : p ∈ l) : p ∈ x0 :: x1 :: x2 :: x3 :: x4 :: l := t4 (t1 h)
theorem t6 {x0 x1 x2 x3 x4 x5 : α} (h : p ∈ l) : p ∈ x0 :: x1 :: x2 :: x3 :: x4 :: x5 :: l := t5 (t1 h)
theorem t7 {x0 x1 x2 x3 x4 x5 x6 : α} (h : p ∈ l) : p ∈ x0 :: x1 :: x2 :: x3 :: x4 :: x5 :: x6 :: l := t6 (t1 h)
theorem t8 {x0 x1 x2 x3 x4 x5 x6 x7 : α} (h : p ∈ l) : p ∈ x0 :: x1 :: x2 :: x3 :: x4 :: x5 :: x6 :: x7 :: l := t7 (t1 h)
theorem t9 {x0 x1 x2 x3 x4 x5 x6 x7 x8 : α} (h : p ∈ l) : p ∈ x0 :: x1 :: x2 :: x3 :: x4 :: x5 :: x6 :: x7 :: x8 :: l := t8 (t1 h)
theorem t10 {x0 x1 x2 x3 x4 x5 x6 x7 x8 x9 : α} (h : p ∈ l) : p ∈ x0 :: x1 :: x2 :: x3 :: x4 :: x5 :: x6 :: x7 :: x8 :: x9 :: l := t9 (t1 h)
theorem t11 {x0 x1 x2 x3 x4 x5 x6 x7 x8 x9 x10 : α} (h : p ∈ l) : p ∈ x0 :: x1 :: x2 :: x3 :: x4 :: x5 :: x6 :: x7 :: x8 :: x9 :: x10 :: l := t10 (t1 h)
theorem t12 {x0 x1 x2 x3 x4 x5 x6 x7 x8 x9 x10 x11 : α} (h : p ∈ l) : p ∈ x0 :: x1 :: x2 :: x3 :: x4 :: x5 :: x6 :: x7 :: x8 :: x9 :: x10 :: x11 :: l := t11 (t1 h)
theorem t13 {x0 x1 x2 x3 x4 x5 x6 x7 x8 x9 x10 x11 x12 : α} (h : p ∈ l) : p ∈ x0 :: x1 :: x2 :: x3 :: x4 :: x5 :: x6 :: x7 :: x8 :: x9 :: x10 :: x11 :: x12 :: l := t12 (t1 h)
theorem t14 {x0 x1 x2 x3 x4 x5 x6 x7 x8 x9 x10 x11 x12 x13 : α} (h : p ∈ l) : p ∈ x0 :: x1 :: x2 :: x3 :: x4 :: x5 :: x6 :: x7 :: x8 :: x9 :: x10 :: x11 :: x12 :: x13 :: l := t13 (t1 h)
theorem t15 {x0 x1 x2 x3 x4 x5 x6 x7 x8 x9 x10 x11 x12 x13 x14 : α} (h : p ∈ l) : p ∈ x0 :: x1 :: x2 :: x3 :: x4 :: x5 :: x6 :: x7 :: x8 :: x9 :: x10 :: x11 :: x12 :: x13 :: x14 :: l := t14 (t1 h)
theorem t16 {x0 x1 x2 x3 x4 x5 x6 x7 x8 x9 x10 x11 x12 x13 x14 x15 : α} (h : p ∈ l) : p ∈ x0 :: x1 :: x2 :: x3 :: x4 :: x5 :: x6 :: x7 :: x8 :: x9 :: x10 :: x11 :: x12 :: x13 :: x14 :: x15 :: l := t15 (t1 h)
theorem t17 {x0 x1 x2 x3 x4 x5 x6 x7 x8 x9 x10 x11 x12 x13 x14 x15 x16 : α} (h : p ∈ l) : p ∈ x0 :: x1 :: x2 :: x3 :: x4 :: x5 :: x6 :: x7 :: x8 :: x9 :: x10 :: x11 :: x12 :: x13 :: x14 :: x15 :: x16 :: l := t16 (t1 h)
theorem t18 {x0 x1 x2 x3 x4 x5 x6 x7 x8 x9 x10 x11 x12 x13 x14 x15 x16 x17 : α} (h : p ∈ l) : p ∈ x0 :: x1 :: x2 :: x3 :: x4 :: x5 :: x6 :: x7 :: x8 :: x9 :: x10 :: x11 :: x12 :: x13 :: x14 :: x15 :: x16 :: x17 :: l := t17 (t1 h)
theorem t19 {x0 x1 x2 x3 x4 x5 x6 x7 x8 x9 x10 x11 x12 x13 x14 x15 x16 x17 x18 : α} (h : p ∈ l) : p ∈ x0 :: x1 :: x2 :: x3 :: x4 :: x5 :: x6 :: x7 :: x8 :: x9 :: x10 :: x11 :: x12 :: x13 :: x14 :: x15 :: x16 :: x17 :: x18 :: l := t18 (t1 h)
theorem t20 {x0 x1 x2 x3 x4 x5 x6 x7 x8 x9 x10 x11 x12 x13 x14 x15 x16 x17 x18 x19 : α} (h : p ∈ l) : p ∈ x0 :: x1 :: x2 :: x3 :: x4 :: x5 :: x6 :: x7 :: x8 :: x9 :: x10 :: x11 :: x12 :: x13 :: x14 :: x15 :: x16 :: x17 :: x18 :: x19 :: l := t19 (t1 h)
theorem t21 {x0 x1 x2 x3 x4 x5 x6 x7 x8 x9 x10 x11 x12 x13 x14 x15 x16 x17 x18 x19 x20 : α} (h : p ∈ l) : p ∈ x0 :: x1 :: x2 :: x3 :: x4 :: x5 :: x6 :: x7 :: x8 :: x9 :: x10 :: x11 :: x12 :: x13 :: x14 :: x15 :: x16 :: x17 :: x18 :: x19 :: x20 :: l := t20 (t1 h)
theorem t22 {x0 x1 x2 x3 x4 x5 x6 x7 x8 x9 x10 x11 x12 x13 x14 x15 x16 x17 x18 x19 x20 x21 : α} (h : p ∈ l) : p ∈ x0 :: x1 :: x2 :: x3 :: x4 :: x5 :: x6 :: x7 :: x8 :: x9 :: x10 :: x11 :: x12 :: x13 :: x14 :: x15 :: x16 :: x17 :: x18 :: x19 :: x20 :: x21 :: l := t21 (t1 h)
theorem t23 {x0 x1 x2 x3 x4 x5 x6 x7 x8 x9 x10 x11 x12 x13 x14 x15 x16 x17 x18 x19 x20 x21 x22 : α} (h : p ∈ l) : p ∈ x0 :: x1 :: x2 :: x3 :: x4 :: x5 :: x6 :: x7 :: x8 :: x9 :: x10 :: x11 :: x12 :: x13 :: x14 :: x15 :: x16 :: x17 :: x18 :: x19 :: x20 :: x21 :: x22 :: l := t22 (t1 h)
theorem t24 {x0 x1 x2 x3 x4 x5 x6 x7 x8 x9 x10 x11 x12 x13 x14 x15 x16 x17 x18 x19 x20 x21 x22 x23 : α} (h : p ∈ l) : p ∈ x0 :: x1 :: x2 :: x3 :: x4 :: x5 :: x6 :: x7 :: x8 :: x9 :: x10 :: x11 :: x12 :: x13 :: x14 :: x15 :: x16 :: x17 :: x18 :: x19 :: x20 :: x21 :: x22 :: x23 :: l := t23 (t1 h)
end
section
variable {a : Addr} {P P' : Obj → Prop} {l l' : List It}
theorem s0 : Sw a P P' ((a, P) :: l) ((a, P') :: l) := .z
theorem s1 {x : It} (h : Sw a P P' l l') : Sw a P P' (x :: l) (x :: l') := .s h
theorem s2 {x0 x1 : It} (h : Sw a P P' l l') : Sw a P P' (x0 :: x1 :: l) (x0 :: x1 :: l') := s1 (s1 h)
theorem s3 {x0 x1 x2 : It} (h : Sw a P P' l l') : Sw a P P' (x0 :: x1 :: x2 :: l) (x0 :: x1 :: x2 :: l') := s2 (s1 h)
theorem s4 {x0 x1 x2 x3 : It} (h : Sw a P P' l l') : Sw a P P' (x0 :: x1 :: x2 :: x3 :: l) (x0 :: x1 :: x2 :: x3 :: l') := s3 (s1 h)
theorem s5 {x0 x1 x2 x3 x4 : It} (h : Sw a P P' l l') : Sw a P P' (x0 :: x1 :: x2 :: x3 :: x4 :: l) (x0 :: x1 :: x2 :: x3 :: x4 :: l') := s4 (s1 h)
theorem s6 {x0 x1 x2 x3 x4 x5 : It} (h : Sw a P P' l l') : Sw a P P' (x0 :: x1 :: x2 :: x3 :: x4 :: x5 :: l) (x0 :: x1 :: x2 :: x3 :: x4 :: x5 :: l') := s5 (s1 h)
theorem s7 {x0 x1 x2 x3 x4 x5 x6 : It} (h : Sw a P P' l l') : Sw a P P' (x0 :: x1 :: x2 :: x3 :: x4 :: x5 :: x6 :: l) (x0 :: x1 :: x2 :: x3 :: x4 :: x5 :: x6 :: l') := s6 (s1 h)
theorem s8 {x0 x1 x2 x3 x4 x5 x6 x7 : It} (h : Sw a P P' l l') : Sw a P P' (x0 :: x1 :: x2 :: x3 :: x4 :: x5 :: x6 :: x7 :: l) (x0 :: x1 :: x2 :: x3 :: x4 :: x5 :: x6 :: x7 :: l') := s7 (s1 h)
theorem s9 {x0 x1 x2 x3 x4 x5 x6 x7 x8 : It} (h : Sw a P P' l l') : Sw a P P' (x0 :: x1 :: x2 :: x3 :: x4 :: x5 :: x6 :: x7 :: x8 :: l) (x0 :: x1 :: x2 :: x3 :: x4 :: x5 :: x6 :: x7 :: x8 :: l') := s8 (s1 h)
theorem s10 {x0 x1 x2 x3 x4 x5 x6 x7 x8 x9 : It} (h : Sw a P P' l l') : Sw a P P' (x0 :: x1 :: x2 :: x3 :: x4 :: x5 :: x6 :: x7 :: x8 :: x9 :: l) (x0 :: x1 :: x2 :: x3 :: x4 :: x5 :: x6 :: x7 :: x8 :: x9 :: l') := s9 (s1 h)
theorem s11 {x0 x1 x2 x3 x4 x5 x6 x7 x8 x9 x10 : It} (h : Sw a P P' l l') : Sw a P P' (x0 :: x1 :: x2 :: x3 :: x4 :: x5 :: x6 :: x7 :: x8 :: x9 :: x10 :: l) (x0 :: x1 :: x2 :: x3 :: x4 :: x5 :: x6 :: x7 :: x8 :: x9 :: x10 :: l') := s10 (s1 h)
theorem s12 {x0 x1 x2 x3 x4 x5 x6 x7 x8 x9 x10 x11 : It} (h : Sw a P P' l l') : Sw a P P' (x0 :: x1 :: x2 :: x3 :: x4 :: x5 :: x6 :: x7 :: x8 :: x9 :: x10 :: x11 :: l) (x0 :: x1 :: x2 :: x3 :: x4 :: x5 :: x6 :: x7 :: x8 :: x9 :: x10 :: x11 :: l') := s11 (s1 h)
theorem s13 {x0 x1 x2 x3 x4 x5 x6 x7 x8 x9 x10 x11 x12 : It} (h : Sw a P P' l l') : Sw a P P' (x0 :: x1 :: x2 :: x3 :: x4 :: x5 :: x6 :: x7 :: x8 :: x9 :: x10 :: x11 :: x12 :: l) (x0 :: x1 :: x2 :: x3 :: x4 :: x5 :: x6 :: x7 :: x8 :: x9 :: x10 :: x11 :: x12 :: l') := s12 (s1 h)
theorem s14 {x0 x1 x2 x3 x4 x5 x6 x7 x8 x9 x10 x11 x12 x13 : It} (h : Sw a P P' l l') : Sw a P P' (x0 :: x1 :: x2 :: x3 :: x4 :: x5 :: x6 :: x7 :: x8 :: x9 :: x10 :: x11 :: x12 :: x13 :: l) (x0 :: x1 :: x2 :: x3 :: x4 :: x5 :: x6 :: x7 :: x8 :: x9 :: x10 :: x11 :: x12 :: x13 :: l') := s13 (s1 h)
theorem s15 {x0 x1 x2 x3 x4 x5 x6 x7 x8 x9 x10 x11 x12 x13 x14 : It} (h : Sw a P P' l l') : Sw a P P' (x0 :: x1 :: x2 :: x3 :: x4 :: x5 :: x6 :: x7 :: x8 :: x9 :: x10 :: x11 :: x12 :: x13 :: x14 :: l) (x0 :: x1 :: x2 :: x3 :: x4 :: x5 :: x6 :: x7 :: x8 :: x9 :: x10 :: x11 :: x12 :: x13 :: x14 :: l') := s14 (s1 h)
theorem s16 {x0 x1 x2 x3 x4 x5 x6 x7 x8 x9 x10 x11 x12 x13 x14 x15 : It} (h : Sw a P P' l l') : Sw a P P' (x0 :: x1 :: x2 :: x3 :: x4 :: x5 :: x6 :: x7 :: x8 :: x9 :: x10 :: x11 :: x12 :: x13 :: x14 :: x15 :: l) (x0 :: x1 :: x2 :: x3 :: x4 :: x5 :: x6 :: x7 :: x8 :: x9 :: x10 :: x11 :: x12 :: x13 :: x14 :: x15 :: l') := s15 (s1 h)
theorem s17 {x0 x1 x2 x3 x4 x5 x6 x7 x8 x9 x10 x11 x12 x13 x14 x15 x16 : It} (h : Sw a P P' l l') : Sw a P P' (x0 :: x1 :: x2 :: x3 :: x4 :: x5 :: x6 :: x7 :: x8 :: x9 :: x10 :: x11 :: x12 :: x13 :: x14 :: x15 :: x16 :: l) (x0 :: x1 :: x2 :: x3 :: x4 :: x5 :: x6 :: x7 :: x8 :: x9 :: x10 :: x11 :: x12 :: x13 :: x14 :: x15 :: x16 :: l') := s16 (s1 h)
theorem s18 {x0 x1 x2 x3 x4 x5 x6 x7 x8 x9 x10 x11 x12 x13 x14 x15 x16 x17 : It} (h : Sw a P P' l l') : Sw a P P' (x0 :: x1 :: x2 :: x3 :: x4 :: x5 :: x6 :: x7 :: x8 :: x9 :: x10 :: x11 :: x12 :: x13 :: x14 :: x15 :: x16 :: x17 :: l) (x0 :: x1 :: x2 :: x3 :: x4 :: x5 :: x6 :: x7 :: x8 :: x9 :: x10 :: x11 :: x12 :: x13 :: x14 :: x15 :: x16 :: x17 :: l') := s17 (s1 h)
theorem s19 {x0 x1 x2 x3 x4 x5 x6 x7 x8 x9 x10 x11 x12 x13 x14 x15 x16 x17 x18 : It} (h : Sw a P P' l l') : Sw a P P' (x0 :: x1 :: x2 :: x3 :: x4 :: x5 :: x6 :: x7 :: x8 :: x9 :: x10 :: x11 :: x12 :: x13 :: x14 :: x15 :: x16 :: x17 :: x18 :: l) (x0 :: x1 :: x2 :: x3 :: x4 :: x5 :: x6 :: x7 :: x8 :: x9 :: x10 :: x11 :: x12 :: x13 :: x14 :: x15 :: x16 :: x17 :: x18 :: l') := s18 (s1 h)
theorem s20 {x0 x1 x2 x3 x4 x5 x6 x7 x8 x9 x10 x11 x12 x13 x14 x15 x16 x17 x18 x19 : It} (h : Sw a P P' l l') : Sw a P P' (x0 :: x1 :: x2 :: x3 :: x4 :: x5 :: x6 :: x7 :: x8 :: x9 :: x10 :: x11 :: x12 :: x13 :: x14 :: x15 :: x16 :: x17 :: x18 :: x19 :: l) (x0 :: x1 :: x2 :: x3 :: x4 :: x5 :: x6 :: x7 :: x8 :: x9 :: x10 :: x11 :: x12 :: x13 :: x14 :: x15 :: x16 :: x17 :: x18 :: x19 :: l') := s19 (s1 h)
theorem s21 {x0 x1 x2 x3 x4 x5 x6 x7 x8 x9 x10 x11 x12 x13 x14 x15 x16 x17 x18 x19 x20 : It} (h : Sw a P P' l l') : Sw a P P' (x0 :: x1 :: x2 :: x3 :: x4 :: x5 :: x6 :: x7 :: x8 :: x9 :: x10 :: x11 :: x12 :: x13 :: x14 :: x15 :: x16 :: x17 :: x18 :: x19 :: x20 :: l) (x0 :: x1 :: x2 :: x3 :: x4 :: x5 :: x6 :: x7 :: x8 :: x9 :: x10 :: x11 :: x12 :: x13 :: x14 :: x15 :: x16 :: x17 :: x18 :: x19 :: x20 :: l') := s20 (s1 h)
theorem s22 {x0 x1 x2 x3 x4 x5 x6 x7 x8 x9 x10 x11 x12 x13 x14 x15 x16 x17 x18 x19 x20 x21 : It} (h : Sw a P P' l l') : Sw a P P' (x0 :: x1 :: x2 :: x3 :: x4 :: x5 :: x6 :: x7 :: x8 :: x9 :: x10 :: x11 :: x12 :: x13 :: x14 :: x15 :: x16 :: x17 :: x18 :: x19 :: x20 :: x21 :: l) (x0 :: x1 :: x2 :: x3 :: x4 :: x5 :: x6 :: x7 :: x8 :: x9 :: x10 :: x11 :: x12 :: x13 :: x14 :: x15 :: x16 :: x17 :: x18 :: x19 :: x20 :: x21 :: l') := s21 (s1 h)
theorem s23 {x0 x1 x2 x3 x4 x5 x6 x7 x8 x9 x10 x11 x12 x13 x14 x15 x16 x17 x18 x19 x20 x21 x22 : It} (h : Sw a P P' l l') : Sw a P P' (x0 :: x1 :: x2 :: x3 :: x4 :: x5 :: x6 :: x7 :: x8 :: x9 :: x10 :: x11 :: x12 :: x13 :: x14 :: x15 :: x16 :: x17 :: x18 :: x19 :: x20 :: x21 :: x22 :: l) (x0 :: x1 :: x2 :: x3 :: x4 :: x5 :: x6 :: x7 :: x8 :: x9 :: x10 :: x11 :: x12 :: x13 :: x14 :: x15 :: x16 :: x17 :: x18 :: x19 :: x20 :: x21 :: x22 :: l') := s22 (s1 h)
theorem s24 {x0 x1 x2 x3 x4 x5 x6 x7 x8 x9 x10 x11 x12 x13 x14 x15 x16 x17 x18 x19 x20 x21 x22 x23 : It} (h : Sw a P P' l l') : Sw a P P' (x0 :: x1 :: x2 :: x3 :: x4 :: x5 :: x6 :: x7 :: x8 :: x9 :: x10 :: x11 :: x12 :: x13 :: x14 :: x15 :: x16 :: x17 :: x18 :: x19 :: x20 :: x21 :: x22 :: x23 :: l) (x0 :: x1 :: x2 :: x3 :: x4 :: x5 :: x6 :: x7 :: x8 :: x9 :: x10 :: x11 :: x12 :: x13 :: x14 :: x15 :: x16 :: x17 :: x18 :: x19 :: x20 :: x21 :: x22 :: x23 :: l') := s23 (s1 h)
end
section
variable {c : Cx} {A : Around} {h₀ h : Heap} {k : Nat} {l l' : List It} {env : Env} {L : Addr} {K : Frag} {mg mb : Str → Option Value} {x dx C : Addr} {vs : Fv} {name : Str}
theorem xDoc {s : Str} {kd : Nat} {p pos : Pos} {rest : List Stmt} {Q : Flow → Heap → Nat → Prop} (n : env.scope.kind = .function) (y : ∀ k', Go c A (execs rest env) h k' Q) : Go c A (execs (.Expr (.Constant (.str s) kd p) pos :: rest) env) h k Q :=
  xExpr (eStr fun t k' => y k') n
theorem xExprV {e : PySem.Expr} {pos : Pos} {rest : List Stmt} {Q : Flow → Heap → Nat → Prop} (n : env.scope.kind = .function) (y : Go c A (eval e env) h k fun v h k => (∀ a, v ≠ .ref a) ∧ Go c A (execs rest env) h k Q)
    (hs : swapsWith e none pos.line env = pure false := by rfl) : Go c A (execs (.Expr e pos :: rest) env) h k Q :=
  xExpr (y.mono fun v h' k' z => by cases v <;> first | exact z.2 | exact (z.1 _ rfl).elim) n hs
theorem Led.mid {x : It} {a b : List It} (w : Led h₀ h (x :: (a ++ b))) : Led h₀ h (a ++ x :: b) := w.perm List.perm_middle.symm
theorem Led.unmid {x : It} {a b : List It} (w : Led h₀ h (a ++ x :: b)) : Led h₀ h (x :: (a ++ b)) := w.perm List.perm_middle

theorem dGetI {d : Addr} {KEY : Str} {e : Option Int} {z : Int} {t u : Tok} {Q : Value → Heap → Nat → Prop} (w : Led h₀ h l) (hm : (d, DictP c.w KEY (e.map II)) ∈ l) (q : ∀ t' k', Q (.int (e.getD z) t') h k') :
    Go c A (call (.builtin "dict.get") [.ref d, .str KEY t, .int z u]) h k Q := by
  refine dGet w hm (fun y k' => ?_) fun p v y hp k' => ?_
  · cases e with
    | none => exact q u k'
    | some e => cases y
  · cases e with
    | none => cases y
    | some e => cases y; obtain ⟨t', rfl⟩ := hp; exact q t' k'
theorem cGetI {ad : Ad} {e : Option Int} {z : Int} {t u : Tok} {Q : Value → Heap → Nat → Prop} (b : Base K mg mb h₀) (w : Led h₀ h l) (hm : (ad.C, CntP c.w ad (e.map II)) ∈ l) (hd : (ad.CD, Frm []) ∈ l) (a : CntA K) (q : ∀ t' k', Q (.int (e.getD z) t') h k') :
    Go c A (call (.builtin "dict.get") [.ref ad.C, .str ad.KEY t, .int z u]) h k Q := by
  refine cGet b w hm hd a (fun y k' => ?_) fun p v y hp k' => ?_
  · cases e with
    | none => exact q u k'
    | some e => cases y
  · cases e with
    | none => cases y
    | some e => cases y; obtain ⟨t', rfl⟩ := hp; exact q t' k'
theorem noRef {e : Option Int} {v : Value} (y : v = .none ∨ ∃ p, e.map II = some p ∧ p v) : ∀ a, v ≠ .ref a := by
  intro a ha
  rcases y with rfl | ⟨p, hp, hv⟩
  · cases ha
  · cases e with
    | none => cases hp
    | some e => cases hp; obtain ⟨t, rfl⟩ := hv; cases ha
end
section
variable {c : Cx} {A : Around} {h₀ h : Heap} {k : Nat} {l l' : List It} {mg mb : Str → Option Value}
theorem missing_ {v1 v2 : Value} {Q : Value → Heap → Nat → Prop} (b : Base (hd.heap_1 c.w.params) mg mb h₀) (w : Led h₀ h l) (hd : A.depth < 890) (q : ∀ t h' k', Led h₀ h' l → Q (.int 0 t) h' k') :
    GoC c A (.call (.ref 599) ⟨[v1, v2], []⟩) h k Q := by
  refine gEnterK ["self", "key"] [v1, v2] b w (Nat.lt_trans hd (by decide)) (by k_is) (by k_is) (BindsTo.of_eq rfl) (locs rfl) (by decide) (by decide +kernel) (fun L h' k' n w' => ?_)
  generalize henv : envOf _ _ _ _ _ = env at n ⊢
  refine xRet (eInt fun t k'' => ?_)
  exact q _ _ _ w'.drop

def stTick (st : St) : St := { st with m := st.m + st.s }
def stGet (st : St) : St := if st.exp.getD 0 ≤ st.m + st.s then { stTick st with cnt := none, exp := none } else stTick st
theorem clockE {ad : Ad} {st : St} {pos : Pos} {env : Env} {pl : Sem Bool} {Q : Value → Heap → Nat → Prop} {vs : Fv} (b : Base (hd.heap_1 c.w.params) mg mb h₀) (w : W c h₀ ad h st ((L, Frm vs) :: l)) (n : EnvOk env L) (hd : A.depth < 900) (ks : env.kindOf "self" = some .local) (hv : (Str.ofString "self", some (.ref ad.st)) ∈ vs)
    {p1 p2 : Pos} (q : ∀ h' k' t, W c h₀ ad h' (stTick st) ((L, Frm vs) :: l) → Q (.int (st.m + st.s) t) h' k')
    (he : eval (.Call (.Attribute (.Name "self" p1) "clock" p2) [] [] pos) env = (do
      let ov ← eval (.Name "self" p1) env
      standAt p2.atName
      let (f, first) ← holding [ov] (getMethod ov "clock" pl)
      callWith pos f first (backTo pos (starEach [] env)) (backToKw pos (keywordEach [] env))) := by rfl) :
    Go c A (eval (.Call (.Attribute (.Name "self" p1) "clock" p2) [] [] pos) env) h k Q := by
  refine eCallM (pl := pl) (nameL w n ks (List.mem_append_right _ t0) hv ?_) he
  refine gMethU b w (x := ad.st) (dx := ad.sd) (List.mem_append_left _ (t6 t0)) (List.mem_append_left _ (t7 t0)) t0 (o_clock c) (u_clock c) rfl fun k' => ?_
  obtain ⟨o, e, fd, hdat, _⟩ := Led.get w (a := ad.clk) (P := ClkFn ad) (List.mem_append_left _ (t4 t0))
  exact cwF0 (keepFn e hdat) (Go.ofC (clock_ b w hd q))

theorem get_ {ad : Ad} {st : St} {tk : Tok} {Q : Value → Heap → Nat → Prop} (b : Base (hd.heap_1 c.w.params) mg mb h₀) (w : W c h₀ ad h st l) (hd : A.depth < 880)
    (q : ∀ t h' k', W c h₀ ad h' (stGet st) l → Q (.int ((stGet st).cnt.getD 0) t) h' k') : GoC c A (.call (.ref 842) ⟨[.ref ad.st, .str ad.KEY tk], []⟩) h k Q := by
  refine gEnterK ["self", "key"] [.ref ad.st, .str ad.KEY tk] b w (Nat.lt_trans hd (by decide)) (by k_is) (by k_is) (BindsTo.of_eq rfl) (locs rfl) (by decide) (by decide +kernel) (fun L h k n w => ?_)
  generalize henv : envOf _ _ _ _ _ = env at n ⊢
  have ks : env.kindOf "self" = some .local := by rw [← henv]; rfl
  have kk : env.kindOf "key" = some .local := by rw [← henv]; rfl
  refine xDoc n.k fun k => xIf (iCmp ?_)
  refine eCallM (eAttr (nameL w n ks t0 t0 (gOwn b w (t7 t0) (t8 t0) (t2 t0) (o_expirations c) rfl fun k => ?_)))
  refine mDict w (t11 t0) PySem.F.slot_dict_get PySem.F.type_dict_get ?_
  refine cwB (aCons (nameL w n kk t0 (t1 t0) (aCons (eInt fun t k => aNil ?_))))
  refine dGetI w (t11 t0) fun t k => ?_
  refine clockE b w.mid n (by show A.depth + 1 < 900; omega) ks t0 fun h k t w => ?_
  refine oLe (tBool (if_dec (fun hle => ?_) fun hgt => ?_))
  · have e : stGet st = { stTick st with cnt := none, exp := none } := if_pos hle
    refine xExprV n.k ?_
    refine eCallM (eAttr (nameL w n ks (List.mem_append_right _ t0) t0 (gOwn b w (List.mem_append_left _ (t6 t0)) (List.mem_append_left _ (t7 t0)) (t1 t0) (o_storage c) rfl fun k => ?_)))
    refine mCnt b w (List.mem_append_left _ (t8 t0)) (List.mem_append_left _ (t9 t0)) (cntA c) (bi_pop c) ?_
    refine cwB (aCons (nameL w n kk (List.mem_append_right _ t0) (t1 t0) (aCons (eNone (aNil ?_)))))
    refine cPop (l' := core c.w ad { stTick st with cnt := none } ++ _) b w (s8 s0) (List.mem_append_left _ (t9 t0)) (cntA c) fun v h k y w => ?_
    refine ⟨noRef y, ?_⟩
    refine xExprV n.k ?_
    refine eCallM (eAttr (nameL w n ks (List.mem_append_right _ t0) t0 (gOwn b w (List.mem_append_left _ (t6 t0)) (List.mem_append_left _ (t7 t0)) (t2 t0) (o_expirations c) rfl fun k => ?_)))
    refine mDict w (List.mem_append_left _ (t10 t0)) PySem.F.slot_dict_pop PySem.F.type_dict_pop ?_
    refine cwB (aCons (nameL w n kk (List.mem_append_right _ t0) (t1 t0) (aCons (eNone (aNil ?_)))))
    refine dPop (l' := core c.w ad { stTick st with cnt := none, exp := none } ++ _) w (s10 s0) fun v h k y w => ?_
    refine ⟨noRef y, xNil ?_⟩
    refine xRet ?_
    refine eCallM (eAttr (nameL w n ks (List.mem_append_right _ t0) t0 (gOwn b w (List.mem_append_left _ (t6 t0)) (List.mem_append_left _ (t7 t0)) (t1 t0) (o_storage c) rfl fun k => ?_)))
    refine mCnt b w (List.mem_append_left _ (t8 t0)) (List.mem_append_left _ (t9 t0)) (cntA c) (bi_get c) ?_
    refine cwB (aCons (nameL w n kk (List.mem_append_right _ t0) (t1 t0) (aCons (eInt fun t k => aNil ?_))))
    refine cGetI (e := none) b w (List.mem_append_left _ (t8 t0)) (List.mem_append_left _ (t9 t0)) (cntA c) fun t k => ?_
    rw [e] at q
    exact q _ _ _ w.unmid.drop
  · have e : stGet st = stTick st := if_neg hgt
    refine xNil (xRet ?_)
    refine eCallM (eAttr (nameL w n ks (List.mem_append_right _ t0) t0 (gOwn b w (List.mem_append_left _ (t6 t0)) (List.mem_append_left _ (t7 t0)) (t1 t0) (o_storage c) rfl fun k => ?_)))
    refine mCnt b w (List.mem_append_left _ (t8 t0)) (List.mem_append_left _ (t9 t0)) (cntA c) (bi_get c) ?_
    refine cwB (aCons (nameL w n kk (List.mem_append_right _ t0) (t1 t0) (aCons (eInt fun t k => aNil ?_))))
    refine cGetI b w (List.mem_append_left _ (t8 t0)) (List.mem_append_left _ (t9 t0)) (cntA c) fun t k => ?_
    rw [e] at q
    exact q _ _ _ w.unmid.drop
end
end Mine

/-! B9 -/
namespace Mine
theorem fillK9 : PySem.Challenge.rw_bn0041_01 = PySem.Challenge.rw_bn0041_01 ∧ hd.heap_1 = hd.heap_1 := by
  k_fill
  exact ⟨rfl, rfl⟩
section
variable {α : Type} {p x : α} {l a : List α}
theorem fr0 : x ∈ a ++ x :: l := List.mem_append_right _ t0
theorem co (h : p ∈ a) : p ∈ a ++ l := List.mem_append_left _ h
end
section
variable {c : Cx} {A : Around} {h₀ h : Heap} {k : Nat} {l l' : List It} {env : Env} {L : Addr} {K : Frag} {mg mb : Str → Option Value} {x dx C : Addr} {vs : Fv} {name : Str}
theorem all_ne (hn : vs.all (fun p => p.1 != name) = true) : ∀ p ∈ vs, p.1 ≠ name := fun p hp => by simpa using List.all_eq_true.mp hn p hp
theorem gMethA {f : Addr} {pl : Sem Bool} {Q : Value × List Value → Heap → Nat → Prop} (b : Base K mg mb h₀) (w : Led h₀ h l) (hm : (x, InstP C dx) ∈ l) (hd : (dx, Frm vs) ∈ l) (a : MethA K C name f)
    (q : Q (.ref f, [.ref x]) h k) (hn : vs.all (fun p => p.1 != name) = true := by rfl) : Go c A (getMethod (.ref x) name pl) h k Q := gMeth b w hm hd a (all_ne hn) q
theorem xAugSub {o i value : PySem.Expr} {tpos pos : Pos} {op : Operator} {rest : List Stmt} {Q : Flow → Heap → Nat → Prop}
    (y : Go c A (eval o env) h k fun ov h k => Go c A (eval i env) h k fun iv h k => Go c A (getItem ov iv) h k fun old h k => Go c A (eval value env) h k fun v h k => Go c A (inplaceOp op old v) h k fun new h k =>
      Go c A (setItem ov iv new) h k fun _ h k => Go c A (execs rest env) h k Q)
    (hi : ∀ ov iv new, augStore i ov iv new = (do holding [new, ov, iv] (setItem ov iv new); release [new, ov, iv] []; pure .next) := by intros; rfl) : Go c A (execs (.AugAssign (.Subscript o i tpos) op value pos :: rest) env) h k Q :=
  wpAny_execs_cons (wpAny_AugAssign_SubscriptAny (y.toWp fun _ _ _ y => y.toWp fun _ _ _ y => y.toWp fun _ _ _ y => y.toWp fun _ _ _ y => y.toWp fun _ _ _ y => y.toWp fun _ _ _ z => z) hi)
theorem oIadd {a b : Int} {t u : Tok} {Q : Value → Heap → Nat → Prop} (q : ∀ t' k', Q (.int (a + b) t') h k') : Go c A (inplaceOp .Add (.int a t) (.int b u)) h k Q := P.iadd_int ⟨_, _, rfl, q _ _⟩
theorem if_beq {a b : Int} {X Y : Prop} (x : a = b → X) (y : a ≠ b → Y) : if (a == b) = true then X else Y := by
  by_cases e : a = b
  · rw [if_pos (by simpa using e)]; exact x e
  · rw [if_neg (by simpa using e)]; exact y e
end
theorem m_incr (c : Cx) : MethA (hd.heap_1 c.w.params) 917 "incr" 827 := ⟨by k_is, by k_is, by k_is⟩
def stIncr1 (st : St) (a : Int) : St := { stGet st with cnt := some ((stGet st).cnt.getD 0 + a) }
def stIncr (st : St) (a len : Int) : St := if (stGet st).cnt.getD 0 + a = a then { stTick (stIncr1 st a) with exp := some ((stGet st).m + (stGet st).s + len) } else stIncr1 st a
section
variable {c : Cx} {A : Around} {h₀ h : Heap} {k : Nat} {l l' : List It} {mg mb : Str → Option Value}
theorem subC {value slice : PySem.Expr} {ad : Ad} {P : Option (Value → Prop)} {i : Value} {K : Frag} {Q : Value → Heap → Nat → Prop} (b : Base K mg mb h₀) (w : Led h₀ h l) (hm : (ad.C, CntP c.w ad P) ∈ l) (hd : (ad.CD, Frm []) ∈ l) (a : CntB K) (x : Go c A (getItem (.ref ad.C) i) h k Q)
    (hs : subscripted slice false (.ref ad.C) i = operate [.ref ad.C, i] (getItem (.ref ad.C) i) := by with_unfolding_all rfl) : Go c A (subscriptTail value slice (.ref ad.C) i) h k Q := by
  obtain ⟨o, od, I, f, hdd, _⟩ := w.cnt hm hd
  have X := b.kin.keeps w.keep
  unfold subscriptTail getitemInPython
  refine Go.bind (Go.bind (Go.bind (Go.looks I.type (Go.looks (looks_findIn X a.gi) (Go.pure ?_)))))
  rw [hs]
  exact Go.bind (wpAny_operating (x.toWp fun r h k z => ⟨h, k, rfl, Go.bind (wpAny_letTemporaryGo ⟨_, _, rfl, Go.pure z⟩)⟩))
theorem incr_ {ad : Ad} {st : St} {tk u1 u2 : Tok} {len a : Int} {Q : Value → Heap → Nat → Prop} (b : Base (hd.heap_1 c.w.params) mg mb h₀) (w : W c h₀ ad h st l) (hd : A.depth < 870)
    (q : ∀ t h' k', W c h₀ ad h' (stIncr st a len) l → Q (.int ((stGet st).cnt.getD 0 + a) t) h' k') : GoC c A (.call (.ref 827) ⟨[.ref ad.st, .str ad.KEY tk, .int len u1], [("amount", .int a u2)]⟩) h k Q := by
  refine gEnterK ["self", "key", "expiry", "amount"] [.ref ad.st, .str ad.KEY tk, .int len u1, .int a u2] b w (Nat.lt_trans hd (by decide)) (by k_is) (by k_is) (binds_K (b.kin.keeps w.keep) rfl (by k_is) rfl rfl rfl) (locs rfl) (by decide) (by decide +kernel) (fun L h k n w => ?_)
  generalize henv : envOf _ _ _ _ _ = env at n ⊢
  have ks : env.kindOf "self" = some .local := by rw [← henv]; rfl
  have kk : env.kindOf "key" = some .local := by rw [← henv]; rfl
  have ke : env.kindOf "expiry" = some .local := by rw [← henv]; rfl
  have ka : env.kindOf "amount" = some .local := by rw [← henv]; rfl
  have w := w.mid
  refine xDoc n.k fun k => xExprV n.k ?_
  refine eCallM (nameL w n ks fr0 t0 (gMethA b w (t6 t0) (t7 t0) (m_get c) ?_))
  refine cwF (aCons (nameL w n kk fr0 (t1 t0) (aNil ⟨keepK b w (by k_is), Go.ofC (get_ b w (by show A.depth + 1 < 880; omega) fun t h k w => ⟨fun _ h => (nomatch h), ?_⟩)⟩)))
  have ms : ∀ {h k tk} {l : List It} {Q' : Value → Heap → Nat → Prop}, Led h₀ h l → (∀ t h' k', Led h₀ h' l → Q' (.int 0 t) h' k') → GoC c (A.deeper env).in1 (.call (.ref 599) ⟨[.ref ad.C, .str ad.KEY tk], []⟩) h k Q' := fun w q => missing_ b w (by show A.depth + 1 < 890; omega) q
  refine xAugSub (eAttr (nameL w n ks fr0 t0 (gOwn b w (t6 t0) (t7 t0) (t1 t0) (o_storage c) rfl fun k => nameL w n kk fr0 (t1 t0) ?_)))
  have step : ∀ {h : Heap} {k : Nat} {t : Tok} {Q' : Value → Heap → Nat → Prop} , W c h₀ ad h (stGet st) ((L, Frm (zipV ["self", "key", "expiry", "amount"] [.ref ad.st, .str ad.KEY tk, .int len u1, .int a u2])) :: l) →
      (∀ t h k, W c h₀ ad h (stGet st) ((L, Frm (zipV ["self", "key", "expiry", "amount"] [.ref ad.st, .str ad.KEY tk, .int len u1, .int a u2])) :: l) → Q' (.int ((stGet st).cnt.getD 0) t) h k) → Go c (A.deeper env) (getItem (.ref ad.C) (.str ad.KEY t)) h k Q' := by
    intro h k t Q' w q
    refine cItem b w (t8 t0) (t9 t0) (cntB c) (fun k' Q' z => ms w z) (fun e t h k w => ?_) fun p v e hp k => ?_
    · have := q t h k w
      cases hc : (stGet st).cnt with
      | none => rw [hc] at this; exact this
      | some z => rw [hc] at e; cases e
    · cases hc : (stGet st).cnt with
      | none => rw [hc] at e; cases e
      | some z => rw [hc] at e; cases e; obtain ⟨t, rfl⟩ := hp; have := q t h k w; rw [hc] at this; exact this
  refine step w fun t h k w => nameL w n ka fr0 (t3 t0) (oIadd fun t k => ?_)
  refine cSetItem (l' := core c.w ad (stIncr1 st a) ++ _) b w ⟨_, rfl⟩ (s8 s0) (t9 t0) (cntB c) fun h k w => ?_
  have step1 : ∀ {h : Heap} {k : Nat} {t : Tok} {Q' : Value → Heap → Nat → Prop} {st' : St}, W c h₀ ad h st' ((L, Frm (zipV ["self", "key", "expiry", "amount"] [.ref ad.st, .str ad.KEY tk, .int len u1, .int a u2])) :: l) →
      st'.cnt = some ((stGet st).cnt.getD 0 + a) → (∀ t k, Q' (.int ((stGet st).cnt.getD 0 + a) t) h k) → Go c (A.deeper env) (call (.builtin "dict.get") [.ref ad.C, .str ad.KEY tk, .int 0 t]) h k Q' := by
    intro h k t Q' st' w e q
    refine cGetI (e := st'.cnt) b w (t8 t0) (t9 t0) (cntA c) fun t k => ?_
    rw [e]; exact q t k
  refine xIf (iCmp (eSub (eAttr (nameL w n ks fr0 t0 (gOwn b w (t6 t0) (t7 t0) (t1 t0) (o_storage c) rfl fun k => nameL w n kk fr0 (t1 t0) ?_)))))
  refine subC b w (t8 t0) (t9 t0) (cntB c) (cItem b w (t8 t0) (t9 t0) (cntB c) (fun k' Q' z => ms w z) (fun e => nomatch e) fun p v e hp k => ?_)
  cases e
  obtain ⟨t, rfl⟩ := hp
  refine nameL w n ka fr0 (t3 t0) (oEq (tBool (if_beq (fun he => ?_) fun he => ?_)))
  · have e : stIncr st a len = _ := if_pos he
    refine xSetItem (eBin (clockE (st := stIncr1 st a) b w n (by show A.depth + 1 < 900; omega) ks t0 fun h k t w => ?_))
    refine nameL w n ke fr0 (t2 t0) (oAdd fun t k => ?_)
    refine eAttr (nameL w n ks fr0 t0 (gOwn b w (t6 t0) (t7 t0) (t2 t0) (o_expirations c) rfl fun k => nameL w n kk fr0 (t1 t0) ?_))
    refine dSetItem (l' := core c.w ad { stTick (stIncr1 st a) with exp := some ((stGet st).m + (stGet st).s + len) } ++ _) w (p := II ((stGet st).m + (stGet st).s + len)) ⟨_, rfl⟩ (s10 s0) fun h k w => ?_
    refine xNil (xRet ?_)
    refine eCallM (eAttr (nameL w n ks fr0 t0 (gOwn b w (t6 t0) (t7 t0) (t1 t0) (o_storage c) rfl fun k => ?_)))
    refine mCnt b w (t8 t0) (t9 t0) (cntA c) (bi_get c) ?_
    refine cwB (aCons (nameL w n kk fr0 (t1 t0) (aCons (eInt fun t k => aNil ?_))))
    refine step1 w rfl fun t k => ?_
    rw [e] at q
    exact q _ _ _ w.unmid.drop
  · have e : stIncr st a len = stIncr1 st a := if_neg he
    refine xNil (xRet ?_)
    refine eCallM (eAttr (nameL w n ks fr0 t0 (gOwn b w (t6 t0) (t7 t0) (t1 t0) (o_storage c) rfl fun k => ?_)))
    refine mCnt b w (t8 t0) (t9 t0) (cntA c) (bi_get c) ?_
    refine cwB (aCons (nameL w n kk fr0 (t1 t0) (aCons (eInt fun t k => aNil ?_))))
    refine step1 w rfl fun t k => ?_
    rw [e] at q
    exact q _ _ _ w.unmid.drop
end
end Mine

/-! C1 -/
namespace Mine
theorem fillC1 : PySem.Challenge.rw_bn0041_01 = PySem.Challenge.rw_bn0041_01 ∧ hd.heap_1 = hd.heap_1 := by
  k_fill
  exact ⟨rfl, rfl⟩
section
variable {c : Cx} {A : Around} {h₀ h : Heap} {k : Nat} {l l' : List It} {mg mb : Str → Option Value}
theorem gexp_ {ad : Ad} {st : St} {tk : Tok} {Q : Value → Heap → Nat → Prop} (b : Base (hd.heap_1 c.w.params) mg mb h₀) (w : W c h₀ ad h st l) (hd : A.depth < 870)
    (q : ∀ t h' k', W c h₀ ad h' (stTick st) l → Q (.int (st.exp.getD (st.m + st.s)) t) h' k') : GoC c A (.call (.ref 864) ⟨[.ref ad.st, .str ad.KEY tk], []⟩) h k Q := by
  refine gEnterK ["self", "key"] [.ref ad.st, .str ad.KEY tk] b w (Nat.lt_trans hd (by decide)) (by k_is) (by k_is) (BindsTo.of_eq rfl) (locs rfl) (by decide) (by decide +kernel) (fun L h k n w => ?_)
  generalize henv : envOf _ _ _ _ _ = env at n ⊢
  have ks : env.kindOf "self" = some .local := by rw [← henv]; rfl
  have kk : env.kindOf "key" = some .local := by rw [← henv]; rfl
  have w := w.mid
  refine xDoc n.k fun k => xRet ?_
  refine eCallM (eAttr (nameL w n ks fr0 t0 (gOwn b w (t6 t0) (t7 t0) (t2 t0) (o_expirations c) rfl fun k => ?_)))
  refine mDict w (t10 t0) PySem.F.slot_dict_get PySem.F.type_dict_get ?_
  refine cwB (aCons (nameL w n kk fr0 (t1 t0) (aCons (clockE b w n (by show A.depth + 1 < 900; omega) ks t0 fun h k t w => aNil ?_))))
  exact dGetI w (t10 t0) fun t k => q _ _ _ w.unmid.drop
end
end Mine

/-! C2 -/
namespace Mine
section
variable {c : Cx} {A : Around} {h₀ h h' : Heap} {k : Nat} {l l' : List It} {env : Env} {L a it : Addr} {K : Frag} {mg mb : Str → Option Value} {P P' : Obj → Prop} {vs : List Value}

theorem Led.ext (w : Led h₀ h ((a, P) :: l)) (hs : Heap.ExtBut a h h') : Led h₀ h' l := by
  have nd := w.nd
  rw [List.map_cons, List.nodup_cons] at nd
  have na := (w.has (a, P) (.head _)).1
  refine ⟨fun b o e => hs b o (fun q => ?_) (w.keep b o e), nd.2, fun p hp => ?_, w.low⟩
  · subst q; rw [na.1] at e; cases e
  · obtain ⟨n', o, e, q⟩ := w.has p (.tail _ hp)
    exact ⟨n', o, hs _ _ (fun q => nd.1 (List.mem_map.mpr ⟨p, hp, q⟩)) e, q⟩
def IterP (a : Addr) (i : Nat) (o : Obj) : Prop := o.cls = .type "list_iterator" ∧ o.data = .fields #[.ref a, .int i 0]
theorem LstV.pl (w : Led h₀ h l) (hm : (a, LstV vs) ∈ l) : h.PlainList a vs.toArray := by
  obtain ⟨o, e, n, rfl⟩ := w.get hm
  exact ⟨n, e⟩
theorem LstV.is (w : Led h₀ h l) (hm : (a, LstV vs) ∈ l) : h.IsList a vs.toArray := (LstV.pl w hm).isList
theorem LstV.of {xs : Array Value} (x : h.PlainList a xs) (e : xs = vs.toArray) : ∃ o, h.get? a = some o ∧ LstV vs o := by
  subst e
  obtain ⟨n, e⟩ := x
  exact ⟨_, e, n, rfl⟩
theorem gIter {Q : Value → Heap → Nat → Prop} (w : Led h₀ h l) (hm : (a, LstV vs) ∈ l) (q : ∀ it h', Led h₀ h' ((it, IterP a 0) :: l) → Q (.ref it) h' k) : Go c A (pyIter (.ref a)) h k Q :=
  wpAny_pyIter_list (LstV.is w hm) ⟨_, _, rfl, q _ _ (w.alloc _ rfl ⟨rfl, rfl⟩)⟩
theorem gNextI {i : Nat} {v : Value} {Q : Option Value → Heap → Nat → Prop} (w : Led h₀ h ((it, IterP a i) :: l)) (hm : (a, LstV vs) ∈ l) (hv : vs[i]? = some v) (q : ∀ h', Led h₀ h' ((it, IterP a (i + 1)) :: l) → Q (some v) h' k) :
    Go c A (pyNext (.ref it)) h k Q := by
  obtain ⟨o, e, hc, hd⟩ := w.get (.head _)
  refine wpAny_pyNext_list_item ⟨o, e, hc, hd⟩ (LstV.is w (.tail _ hm)) (by simpa using hv) fun h' hit hs => ⟨h', k, rfl, q h' (w.same .z hs ?_)⟩
  obtain ⟨o', e', c', d'⟩ := hit
  exact ⟨o', e', c', d'⟩
theorem gNextE {i : Nat} {Q : Option Value → Heap → Nat → Prop} (hA : A.handled = none) (w : Led h₀ h ((it, IterP a i) :: l)) (hm : (a, LstV vs) ∈ l) (hv : vs[i]? = none) (q : ∀ h', Led h₀ h' l → Q none h' k) :
    Go c A (pyNext (.ref it)) h k Q := by
  obtain ⟨o, e, hc, hd⟩ := w.get (.head _)
  exact wpAny_pyNext_list_end hA ⟨o, e, hc, hd⟩ (LstV.is w (.tail _ hm)) (by simpa using hv) fun h' hs => ⟨h', k, rfl, q h' (w.ext hs)⟩

/-- a for over a list whose things do not change: the ledger behind the iterator is any that the invariant names -/
theorem xFor {target iter : PySem.Expr} {body rest : List Stmt} {pos : Pos} {Q : Flow → Heap → Nat → Prop} (hA : A.handled = none)
    (x : Go c A (eval iter env) h k fun v h k => ∃ (J : Nat → List It → Prop) (a : Addr) (vs : List Value) (l : List It), v = .ref a ∧ Led h₀ h l ∧ (a, LstV vs) ∈ l ∧ J 0 l ∧
      (∀ it i v h k l, vs[i]? = some v → Led h₀ h ((it, IterP a (i + 1)) :: l) → (a, LstV vs) ∈ l → J i l → Go c A (assign target env v) h k fun _ h k => Go c A (execs body env) h k fun f h k => match f with
        | .next | .cont => ∃ l', Led h₀ h ((it, IterP a (i + 1)) :: l') ∧ (a, LstV vs) ∈ l' ∧ J (i + 1) l'
        | .brk => Go c A (execs rest env) h k Q
        | .ret v => Q (.ret v) h k) ∧
      (∀ h k l, Led h₀ h l → (a, LstV vs) ∈ l → J vs.length l → Go c A (execs rest env) h k Q))
    (hs : ∀ x, foldedSetIterable iter env x = pure x := by intro _; rfl) (ht : ∀ it v, letOwnedTupleGo target it v = pure () := by intro _ _; rfl) : Go c A (execs (.For target iter body [] pos :: rest) env) h k Q := by
  refine xCons (wpAny_For (x.toWp fun v h k z => ?_) hs)
  obtain ⟨J, a, vs, l, rfl, w, hm, j, step, fin⟩ := z
  refine Go.toWp (Q := fun it h k => ∃ it', it = .ref it' ∧ Led h₀ h ((it', IterP a 0) :: l)) (gIter w hm fun it h' w' => ⟨it, rfl, w'⟩) fun it h k z => ?_
  obtain ⟨it, rfl, w⟩ := z
  refine codeAny_forLoop (fun n s' => ∃ i h k l, n + i = vs.length + 1 ∧ i ≤ vs.length ∧ s' = c.s h k ∧ Led h₀ h ((it, IterP a i) :: l) ∧ (a, LstV vs) ∈ l ∧ J i l) ?_ (vs.length + 1) ⟨0, h, k, l, rfl, Nat.zero_le _, rfl, w, hm, j⟩ (ht _)
  rintro n s' ⟨i, h, k, l, hn, hi, rfl, w, hm, j⟩
  cases hv : vs[i]? with
  | none =>
    have : i = vs.length := Nat.le_antisymm hi (by simpa using hv)
    subst this
    refine Go.toWp (Q := fun r h k => r = none ∧ Led h₀ h l) (gNextE hA w hm hv fun h' w' => ⟨rfl, w'⟩) fun r h k z => ?_
    obtain ⟨rfl, w⟩ := z
    exact wpAny_execs_nil ⟨h, k, rfl, fin h k l w hm j⟩
  | some v =>
    have hlt : i < vs.length := (List.getElem?_eq_some_iff.mp hv).1
    refine Go.toWp (Q := fun r h k => r = some v ∧ Led h₀ h ((it, IterP a (i + 1)) :: l)) (gNextI w hm hv fun h' w' => ⟨rfl, w'⟩) fun r h k z => ?_
    obtain ⟨rfl, w⟩ := z
    refine (step it i v h k l hv w hm j).toWp fun _ h k y => y.toWp fun f h k z => ?_
    cases f with
    | next => obtain ⟨l', w, hm, j⟩ := z; exact ⟨n - 1, by omega, i + 1, h, k, l', by omega, by omega, rfl, w, hm, j⟩
    | cont => obtain ⟨l', w, hm, j⟩ := z; exact ⟨n - 1, by omega, i + 1, h, k, l', by omega, by omega, rfl, w, hm, j⟩
    | brk => exact ⟨h, k, rfl, z⟩
    | ret v => exact ⟨h, k, rfl, z⟩
theorem aName {x : Str} {pos : Pos} {v : Value} {Q : Unit → Heap → Nat → Prop} (q : Go c A (storeName env x v) h k Q) : Go c A (assign (.Name x pos) env v) h k Q := wpAny_assign_Name q

/-- the turns of a comprehension -/
theorem compTurns {elt iter : PySem.Expr} {x : Str} {px : Pos} {ifs : List PySem.Expr} {scope : Scope} {pos : Pos} {cenv : Env} {C D it : Addr} {u : Option Value} {R : Result → Shared → Prop} (hA : A.handled = none) (hx : cenv.kindOf x = some .local) (hC : cenv.locals = C) (hp : (cenv.scope.kind == .class || (cenv.scope.kind == .module && cenv.locals != cenv.globals)) = false)
    (J : Nat → List Value → List It → Prop) (w : Led h₀ h ((it, IterP a 0) :: (C, Frm [(x, u)]) :: (D, LstV []) :: l)) (hm : (a, LstV vs) ∈ l) (hsz : vs.length ≤ sizeLine) (j : J 0 [] l)
    (step : ∀ it i v ys h k l, vs[i]? = some v → Led h₀ h ((it, IterP a (i + 1)) :: (C, Frm [(x, some v)]) :: (D, LstV ys) :: l) → (a, LstV vs) ∈ l → J i ys l →
      Go c A (forIn ifs true fun e r => if r = true then do let ok ← isTrue e cenv (eval e cenv); pure (ForInStep.yield ok) else pure (ForInStep.yield r)) h k fun ok h k =>
        if ok = true then Go c A (eval elt cenv) h k fun y h k => ∃ l', Led h₀ h ((it, IterP a (i + 1)) :: (C, Frm [(x, some v)]) :: (D, LstV ys) :: l') ∧ (a, LstV vs) ∈ l' ∧ J (i + 1) (ys ++ [y]) l'
        else ∃ l', Led h₀ h ((it, IterP a (i + 1)) :: (C, Frm [(x, some v)]) :: (D, LstV ys) :: l') ∧ (a, LstV vs) ∈ l' ∧ J (i + 1) ys l')
    (fin : ∀ ys u h k l, Led h₀ h ((C, Frm [(x, u)]) :: (D, LstV ys) :: l) → (a, LstV vs) ∈ l → J vs.length ys l → R (.ok .next) (c.s h k)) :
    codeAny c.m A (.compLoop (.ListComp elt [⟨.Name x px, iter, ifs, 0⟩] scope pos) 0 (.ref it) (.ref D) cenv) R (c.s h k) := by
  refine codeAny_compLoop_tests (fun n s' => ∃ i ys u h k l, n + i = vs.length + 1 ∧ i ≤ vs.length ∧ ys.length ≤ i ∧ s' = c.s h k ∧ Led h₀ h ((it, IterP a i) :: (C, Frm [(x, u)]) :: (D, LstV ys) :: l) ∧ (a, LstV vs) ∈ l ∧ J i ys l) ?_ (vs.length + 1)
    ⟨0, [], u, h, k, l, rfl, Nat.zero_le _, Nat.le_refl _, rfl, w, hm, j⟩
  rintro n s' ⟨i, ys, u, h, k, l, hn, hi, hys, rfl, w, hm, j⟩
  cases hv : vs[i]? with
  | none =>
    have : i = vs.length := Nat.le_antisymm hi (by simpa using hv)
    subst this
    refine Go.toWp (Q := fun r h k => r = none ∧ Led h₀ h ((C, Frm [(x, u)]) :: (D, LstV ys) :: l)) (gNextE hA w (.tail _ (.tail _ hm)) hv fun h' w' => ⟨rfl, w'⟩) fun r h k z => ?_
    obtain ⟨rfl, w⟩ := z
    exact fin ys u h k l w hm j
  | some v =>
    have hlt : i < vs.length := (List.getElem?_eq_some_iff.mp hv).1
    refine Go.toWp (Q := fun r h k => r = some v ∧ Led h₀ h ((it, IterP a (i + 1)) :: (C, Frm [(x, u)]) :: (D, LstV ys) :: l)) (gNextI w (.tail _ (.tail _ hm)) hv fun h' w' => ⟨rfl, w'⟩) fun r h k z => ?_
    obtain ⟨rfl, w⟩ := z
    subst hC
    obtain ⟨o, e, f⟩ := w.get (a := cenv.locals) (.tail _ (.head _))
    refine wpAny_assign_Name (wpAny_storeName_local hx (ns_iff.mpr ⟨o, e, f.2⟩) (fun h' hn' hs' => ?_) hp)
    have w : Led h₀ h' ((it, IterP a (i + 1)) :: (cenv.locals, Frm [(x, some v)]) :: (D, LstV ys) :: l) := by
      refine w.same (.s .z) hs' ?_
      obtain ⟨o', e', f'⟩ := ns_iff.mp hn'
      refine ⟨o', e', f.1, ?_⟩
      rw [(SetF.z (x := x) (v := v) (u := u) (r := [])).fm f.1] at f'
      exact f'
    refine (step it i v ys h' _ l hv w hm j).toWp fun ok h k y => ?_
    cases ok with
    | false =>
      rw [if_neg Bool.false_ne_true] at y ⊢
      obtain ⟨l', w, hm, j⟩ := y
      exact ⟨n - 1, by omega, i + 1, ys, _, h, k, l', by omega, by omega, by omega, rfl, w, hm, j⟩
    | true =>
      rw [if_pos rfl] at y ⊢
      refine Go.toWp y fun y h k z => ?_
      obtain ⟨l', w, hm, j⟩ := z
      refine wpAny_list_append_plain (hsz := by rw [List.size_toArray]; omega) (LstV.pl w (a := D) (.tail _ (.tail _ (.head _)))) fun h₅ hl₅ hs₅ => ?_
      exact ⟨n - 1, by omega, i + 1, ys ++ [y], _, h₅, k, l', by omega, by omega, by simp; omega, rfl, w.same (.s (.s .z)) hs₅ (LstV.of hl₅ (by simp)), hm, j⟩

/-- the comprehension, its use of the list apart -/
theorem compCore {elt iter : PySem.Expr} {x : Str} {px : Pos} {ifs : List PySem.Expr} {scope : Scope} {cl : List (Str × Addr)} {pos : Pos} {use : Option (Value → Sem Unit)} {Q : Value → Heap → Nat → Prop} (hA : A.handled = none)
    (hclos : closureFor scope env = pure cl) (hcell : ∀ y ∈ scope.names, y.2 ≠ .cell) (hkind : scope.kind = .function) (hnames : ∀ y ∈ scope.names, y.2 = .local → scope.names.lookup y.1 = some .local) (hx : scope.names.lookup x = some .local)
    (J : Nat → List Value → List It → Prop)
    (y : Go c A (eval iter env) h k fun v h k => ∃ a vs l, v = .ref a ∧ Led h₀ h l ∧ (a, LstV vs) ∈ l ∧ vs.length ≤ sizeLine ∧ J 0 [] l ∧
      (∀ C D it i v ys h k l, vs[i]? = some v → Led h₀ h ((it, IterP a (i + 1)) :: (C, Frm [(x, some v)]) :: (D, LstV ys) :: l) → (a, LstV vs) ∈ l → J i ys l →
        Go c A (forIn ifs true fun e r => if r = true then do let ok ← isTrue e (compEnvC scope cl C env) (eval e (compEnvC scope cl C env)); pure (ForInStep.yield ok) else pure (ForInStep.yield r)) h k fun ok h k =>
          if ok = true then Go c A (eval elt (compEnvC scope cl C env)) h k fun y h k => ∃ l', Led h₀ h ((it, IterP a (i + 1)) :: (C, Frm [(x, some v)]) :: (D, LstV ys) :: l') ∧ (a, LstV vs) ∈ l' ∧ J (i + 1) (ys ++ [y]) l'
          else ∃ l', Led h₀ h ((it, IterP a (i + 1)) :: (C, Frm [(x, some v)]) :: (D, LstV ys) :: l') ∧ (a, LstV vs) ∈ l' ∧ J (i + 1) ys l') ∧
      (∀ D ys h k l, Led h₀ h ((D, LstV ys) :: l) → J vs.length ys l → match use with
        | none => Q (.ref D) h k
        | some u => ∀ C P, Led h₀ h ((C, P) :: (D, LstV ys) :: l) → Go c A (u (.ref D)) h k fun _ h k => ∃ l', Led h₀ h ((C, P) :: l') ∧ ∀ h, Led h₀ h l' → Q .none h k))
    (hs : ∀ x, foldedSetIterable iter env x = pure x := by intro _; rfl) :
    Go c A (comprehension (.ListComp elt [⟨.Name x px, iter, ifs, 0⟩] scope pos) scope env (firstIterPos [⟨.Name x px, iter, ifs, 0⟩] pos) (newList []) false (firstIter [⟨.Name x px, iter, ifs, 0⟩] env) use) h k Q := by
  refine wpAny_comprehension_free rfl hs hclos hkind hnames (Go.toWp y fun v h k z => ?_)
  obtain ⟨a, vs, l, rfl, w, hm, hsz, j, step, fin⟩ := z
  refine Go.toWp (Q := fun it h k => ∃ it', it = .ref it' ∧ Led h₀ h ((it', IterP a 0) :: l)) (gIter w hm fun it h' w' => ⟨it, rfl, w'⟩) fun it h k z => ?_
  obtain ⟨it, rfl, w⟩ := z
  refine wpAny_newObj_type (wpAny_newFunctionEnv hcell (by intro y hy; simp at hy) (fun h₁ hns₁ hsb₁ => ?_) hkind)
  dsimp only at hns₁ hsb₁ ⊢
  have w1 := w.alloc { cls := .type "list", dict := none, data := .seq ([] : List Value).toArray } (P := LstV []) rfl ⟨_, rfl⟩
  have w2 := w1.alloc { cls := .type "dict", data := .dict #[] } (P := fun _ => True) rfl trivial
  generalize hD : h.objs.size = D at w1 w2 hns₁ hsb₁ ⊢
  generalize hC : (h.push { cls := .type "list", dict := none, data := .seq ([] : List Value).toArray }).objs.size = C at w2 hns₁ hsb₁ ⊢
  have w3 : Led h₀ h₁ ((C, Frm [(x, none)]) :: (D, LstV []) :: (it, IterP a 0) :: l) := by
    refine w2.same .z hsb₁ ?_
    obtain ⟨o', e', f'⟩ := ns_iff.mp hns₁
    refine ⟨o', e', by simp, ?_⟩
    have : (fun y : Str => ([] : List (Str × Value)).reverse.lookup y) = fm [(x, none)] := by
      funext y; unfold fm; split <;> rfl
    rw [this] at f'; exact f'
  have w4 : Led h₀ h₁ ((it, IterP a 0) :: (C, Frm [(x, none)]) :: (D, LstV []) :: l) := w3.perm (List.Perm.trans ((List.Perm.swap _ _ _).cons _) (List.Perm.swap _ _ _))
  obtain ⟨oi, ei, ci, di⟩ := w4.get (a := it) (.head _)
  have loop := compTurns (elt := elt) (iter := iter) (px := px) (ifs := ifs) (scope := scope) (pos := pos) (cenv := compEnvC scope cl C env) (C := C) (k := k) (R := compPost c.m A (fun _ _ => False) use (fun v s' => ∃ h' k', s' = c.s h' k' ∧ Q v h' k') (.ref D) C)
    hA (lookup_relabel_local hx) rfl (by simp [compEnvC, relabel, hkind]) J w4 hm hsz j (step C D) fun ys u h k l w hm j => ?_
  · exact codeAny_compStart_list loop (wpAny_pyIter_listiter ⟨oi, ei, ci, di⟩ loop)
  · have f := fin D ys h k l w.drop j
    cases use with
    | none =>
      obtain ⟨o', e', f'⟩ := w.get (.head _)
      exact ⟨_, ns_iff.mpr ⟨o', e', f'.2⟩, fun h' hs' => ⟨h', k, rfl, fin D ys h' k l (w.ext hs'.extBut) j⟩⟩
    | some u =>
      refine Go.toWp (f C _ w) fun _ h k z => ?_
      obtain ⟨l', w', z⟩ := z
      obtain ⟨o', e', f'⟩ := w'.get (.head _)
      exact ⟨_, ns_iff.mpr ⟨o', e', f'.2⟩, fun h' hs' => ⟨h', k, rfl, z h' (w'.ext hs'.extBut)⟩⟩

theorem eComp {elt iter : PySem.Expr} {x : Str} {px : Pos} {ifs : List PySem.Expr} {scope : Scope} {cl : List (Str × Addr)} {pos : Pos} {Q : Value → Heap → Nat → Prop} (hA : A.handled = none)
    (hclos : closureFor scope env = pure cl) (hcell : ∀ y ∈ scope.names, y.2 ≠ .cell) (hkind : scope.kind = .function) (hnames : ∀ y ∈ scope.names, y.2 = .local → scope.names.lookup y.1 = some .local) (hx : scope.names.lookup x = some .local)
    (J : Nat → List Value → List It → Prop)
    (y : Go c A (eval iter env) h k fun v h k => ∃ a vs l, v = .ref a ∧ Led h₀ h l ∧ (a, LstV vs) ∈ l ∧ vs.length ≤ sizeLine ∧ J 0 [] l ∧
      (∀ C D it i v ys h k l, vs[i]? = some v → Led h₀ h ((it, IterP a (i + 1)) :: (C, Frm [(x, some v)]) :: (D, LstV ys) :: l) → (a, LstV vs) ∈ l → J i ys l →
        Go c A (forIn ifs true fun e r => if r = true then do let ok ← isTrue e (compEnvC scope cl C env) (eval e (compEnvC scope cl C env)); pure (ForInStep.yield ok) else pure (ForInStep.yield r)) h k fun ok h k =>
          if ok = true then Go c A (eval elt (compEnvC scope cl C env)) h k fun y h k => ∃ l', Led h₀ h ((it, IterP a (i + 1)) :: (C, Frm [(x, some v)]) :: (D, LstV ys) :: l') ∧ (a, LstV vs) ∈ l' ∧ J (i + 1) (ys ++ [y]) l'
          else ∃ l', Led h₀ h ((it, IterP a (i + 1)) :: (C, Frm [(x, some v)]) :: (D, LstV ys) :: l') ∧ (a, LstV vs) ∈ l' ∧ J (i + 1) ys l') ∧
      (∀ D ys h k l, Led h₀ h ((D, LstV ys) :: l) → J vs.length ys l → Q (.ref D) h k))
    (hs : ∀ x, foldedSetIterable iter env x = pure x := by intro _; rfl) : Go c A (eval (.ListComp elt [⟨.Name x px, iter, ifs, 0⟩] scope pos) env) h k Q := by
  unfold Go
  rw [eval_ListComp]
  exact compCore (use := none) hA hclos hcell hkind hnames hx J y hs
theorem xComp {elt iter : PySem.Expr} {x y : Str} {px py : Pos} {ifs : List PySem.Expr} {scope : Scope} {cl : List (Str × Addr)} {pos spos : Pos} {rest : List Stmt} {Q : Flow → Heap → Nat → Prop} (hA : A.handled = none)
    (hsw : swapsWith (.ListComp elt [⟨.Name x px, iter, ifs, 0⟩] scope pos) (some (.Name y py)) spos.line env = pure true)
    (hclos : closureFor scope env = pure cl) (hcell : ∀ y ∈ scope.names, y.2 ≠ .cell) (hkind : scope.kind = .function) (hnames : ∀ y ∈ scope.names, y.2 = .local → scope.names.lookup y.1 = some .local) (hx : scope.names.lookup x = some .local)
    (J : Nat → List Value → List It → Prop)
    (z : Go c A (eval iter env) h k fun v h k => ∃ a vs l, v = .ref a ∧ Led h₀ h l ∧ (a, LstV vs) ∈ l ∧ vs.length ≤ sizeLine ∧ J 0 [] l ∧
      (∀ C D it i v ys h k l, vs[i]? = some v → Led h₀ h ((it, IterP a (i + 1)) :: (C, Frm [(x, some v)]) :: (D, LstV ys) :: l) → (a, LstV vs) ∈ l → J i ys l →
        Go c A (forIn ifs true fun e r => if r = true then do let ok ← isTrue e (compEnvC scope cl C env) (eval e (compEnvC scope cl C env)); pure (ForInStep.yield ok) else pure (ForInStep.yield r)) h k fun ok h k =>
          if ok = true then Go c A (eval elt (compEnvC scope cl C env)) h k fun y h k => ∃ l', Led h₀ h ((it, IterP a (i + 1)) :: (C, Frm [(x, some v)]) :: (D, LstV ys) :: l') ∧ (a, LstV vs) ∈ l' ∧ J (i + 1) (ys ++ [y]) l'
          else ∃ l', Led h₀ h ((it, IterP a (i + 1)) :: (C, Frm [(x, some v)]) :: (D, LstV ys) :: l') ∧ (a, LstV vs) ∈ l' ∧ J (i + 1) ys l') ∧
      (∀ D ys h k l, Led h₀ h ((D, LstV ys) :: l) → J vs.length ys l → ∀ C P, Led h₀ h ((C, P) :: (D, LstV ys) :: l) → Go c A (storeName env y (.ref D)) h k fun _ h k => ∃ l', Led h₀ h ((C, P) :: l') ∧ ∀ h, Led h₀ h l' → Go c A (execs rest env) h k Q))
    (hs : ∀ x, foldedSetIterable iter env x = pure x := by intro _; rfl) : Go c A (execs (.Assign [.Name y py] (.ListComp elt [⟨.Name x px, iter, ifs, 0⟩] scope pos) spos :: rest) env) h k Q := by
  refine xCons ?_
  unfold Go
  rw [exec_Assign_Name_used _ _ _ _ hsw]
  refine wpAny_bind (wpAny_standAt (wpAny_bind ?_))
  refine wpAny_bind (Go.toWp (Q := fun _ h k => Go c A (execs rest env) h k Q) (compCore (h₀ := h₀) (use := some (assign (.Name y py) env)) hA hclos hcell hkind hnames hx J (z.mono fun v h k z => ?_) hs) fun _ h k z => wpAny_pure (wpAny_pure ⟨h, k, rfl, z⟩))
  obtain ⟨a, vs, l, e, w, hm, hsz, j, step, fin⟩ := z
  exact ⟨a, vs, l, e, w, hm, hsz, j, step, fun D ys h k l w j C P w' => aName (fin D ys h k l w j C P w')⟩
end
end Mine

/-! C3 -/
namespace Mine
section
variable {c : Cx} {A : Around} {h₀ h h' : Heap} {k : Nat} {l l' : List It} {env : Env} {L a it : Addr} {K : Frag} {mg mb : Str → Option Value} {X X' Y : Obj → Prop} {P : Addr} {vs : List Value}

theorem Led.makes (w : Led h₀ h l) (sw : Sw P X X' l l') (hx : Heap.ExtBut P h h') (hP : ∃ o, h'.get? P = some o ∧ X' o) : Led h₀ h' l' := by
  have na := (w.has _ sw.mem).1
  refine ⟨fun b o e => hx b o (fun q => ?_) (w.keep b o e), sw.keys ▸ w.nd, fun p hp => ?_, w.low⟩
  · subst q; rw [na.1] at e; cases e
  · rcases sw.inv w.nd p hp with rfl | ⟨m, n⟩
    · exact ⟨na, hP⟩
    · obtain ⟨n', o, e, q⟩ := w.has p m
      exact ⟨n', o, hx _ _ n e, q⟩
theorem Led.add (w0 : Led h₀ h l') (w : Led h₀ h' l) (hl : l.map (·.1) = l'.map (·.1)) (hge : h.objs.size ≤ a) (ha : ∃ o, h'.get? a = some o ∧ Y o) : Led h₀ h' ((a, Y) :: l) := by
  refine ⟨w.keep, ?_, fun p hp => ?_, w.low⟩
  · rw [List.map_cons, List.nodup_cons]
    refine ⟨fun hm => ?_, w.nd⟩
    rw [hl] at hm
    obtain ⟨p, hp, e⟩ := List.mem_map.mp hm
    have := w0.fresh p hp
    exact absurd this (by rw [show p.1 = a from e]; exact Nat.not_lt.mpr hge)
  · rcases List.mem_cons.mp hp with rfl | hp
    · refine ⟨⟨?_, Nat.lt_of_lt_of_le w0.high hge⟩, ha⟩
      cases q : h₀.get? a with
      | none => rfl
      | some o' => exact absurd (Heap.lt_size (w0.keep _ _ q)) (Nat.not_lt.mpr hge)
    · exact w.has p hp

def LamP (params : Arguments) (body : PySem.Expr) (scope : Scope) (qual : Str) (c' : Addr) (o : Obj) : Prop := ∃ pm ctv, o = kla_obj "<lambda>" qual params body scope [] pm c' ctv

theorem Base.lowP (b : Base K mg mb h₀) (w : Led h₀ h l) (hm : (P, X) ∈ l) : mainGlobals ≠ P ∧ h.BuiltinsAt mg P := by
  have na := (w.has _ hm).1.1
  have hgP : mainGlobals ≠ P := fun q => by
    obtain ⟨o, es, ep, e, hd, _⟩ := b.g
    rw [q] at e; rw [show h₀.get? P = none from na] at e; cases e
  obtain ⟨bm, ob, b1, b2, b3, b4, b5, b6⟩ := b.bm
  have hbP : bm ≠ P := fun q => by
    rw [q] at b3; rw [show h₀.get? P = none from na] at b3; cases b3
  have hbG : bm ≠ mainGlobals := fun q => by
    obtain ⟨o, es, ep, e, hd, _⟩ := b.g
    rw [q, e] at b3; cases b3; rw [hd] at b6; cases b6
  exact ⟨hgP, bm, ob, b1, b2, hbG, hbP, w.keep _ _ b3, b4, b5, b6⟩

/-- a lambda that captures nothing -/
theorem eLam {l' : Addr → List It} {params : Arguments} {body : PySem.Expr} {scope : Scope} {pos p : Pos} {cc : Addr} {t : Option Addr} {Q : Value → Heap → Nat → Prop} (b : Base K mg mb h₀) (w : Led h₀ h l) (hcode : env.code = .ref cc) (ch : CodeHd h₀ cc P) (hg : env.globals = mainGlobals)
    (sw : ∀ c', Sw P (TabP p t) (TabP p (some c')) l (l' c')) (hp : pos = p) (hcl : closureFor scope env = pure [])
    (qn : t = none → ∀ f c' h' k', Led h₀ h' ((f, LamP params body scope (env.qual ++ "<lambda>") c') :: (c', CodeOf (env.qual ++ "<lambda>")) :: l' c') → Q (.ref f) h' k')
    (qs : ∀ c', t = some c' → ∀ f h' k', Led h₀ h' ((f, LamP params body scope (env.qual ++ "<lambda>") c') :: l) → Q (.ref f) h' k')
    (hdef : defaultsOf params env = ([], []) := by rfl) : Go c A (eval (.Lambda params body scope pos) env) h k Q := by
  subst hp
  have hmem : (P, TabP pos t) ∈ l := (sw 0).mem
  obtain ⟨o, e, ps, rfl, ht, hf⟩ := w.get hmem
  obtain ⟨hgP, hb⟩ := b.lowP w hmem
  refine kla_eval hdef ?_
  cases t with
  | none =>
    refine kla_makeFunction (c := cc) (P := P) (ps := ps) (mg := mg) hcl hg (b.g.keeps w.keep) hcode (ch.keeps w.keep) e ht hf hgP hb fun c' ctv h' tk hx hge hlt hrec hP => ?_
    obtain ⟨c₂, oc, vs, tt, e2, hoc, hd, hv⟩ := hrec
    cases e2
    have w1 : Led h₀ h' (l' c') := w.makes (sw c') hx ⟨_, hP, _, rfl, by rw [Array.toList_append]; exact TriplesOk_snoc _ _ _ _ ht, by rw [Array.toList_append]; exact codeAmong_snoc _ ht hf⟩
    have w2 : Led h₀ h' ((c', CodeOf (env.qual ++ "<lambda>")) :: l' c') := w.add w1 (sw c').keys hge ⟨oc, hoc, vs, tt, hd, hv⟩
    exact ⟨_, _, rfl, qn rfl _ c' _ _ (w2.alloc _ rfl ⟨_, _, rfl⟩)⟩
  | some c' =>
    refine kla_makeFunctionHit (c := cc) (P := P) (ps := ps) (mg := mg) hcl hg (b.g.keeps w.keep) hcode (ch.keeps w.keep) e ht hf hb fun ctv h' tk hk hsz => ?_
    exact ⟨_, _, rfl, qs c' rfl _ _ _ ((w.grow hk).alloc _ rfl ⟨_, _, rfl⟩)⟩
theorem lamCall {f c' : Addr} {params : Arguments} {body : PySem.Expr} {scope : Scope} {qual : Str} {args : Args} {x : Str} {v : Value} {Q : Value → Heap → Nat → Prop} (b : Base K mg mb h₀) (w : Led h₀ h l) (hd : A.depth < 900) (hm : (f, LamP params body scope qual c') ∈ l) (hc : (c', CodeOf qual) ∈ l)
    (hbind : ∀ pm ctv, bindArgs (kla_fn "<lambda>" qual params body scope [] pm (.ref c') ctv) args = pure [(x, v)]) (hloc : scope.names.lookup x = some .local) (hcell : ∀ x ∈ scope.names, x.2 ≠ .cell)
    (q : ∀ L h' k', EnvOk (envOf qual scope L f (.ref c')) L → Led h₀ h' ((L, Frm [(x, some v)]) :: l) → Go c (A.deeper (envOf qual scope L f (.ref c'))) (eval body (envOf qual scope L f (.ref c'))) h' k' Q)
    (hco : scope.isCoroutine = false := by rfl) (hgen : scope.isGenerator = false := by rfl) (hk : scope.kind = .function := by rfl) : GoC c A (.call (.ref f) args) h k Q := by
  obtain ⟨o, e, pm, ctv, rfl⟩ := w.get hm
  obtain ⟨oc, ec, vs, tt, hdc, hvc⟩ := w.get hc
  refine kla_callFunE (Nat.lt_of_lt_of_le hd (by decide)) e rfl hco hgen rfl ⟨c', oc, vs, tt, rfl, ec, hdc, hvc⟩ ?_
  rw [hbind]
  refine wpAny_pure (wpAny_newFunctionEnv hcell (fun y hy => by rw [List.mem_singleton.mp hy]; exact hloc) (fun h₁ hns hsb => ?_) hk)
  have hk₁ : ∀ b o, h.get? b = some o → h₁.get? b = some o := fun b o e => hsb.extBut b o (Nat.ne_of_lt (Heap.lt_size e)) (Heap.get?_push_of_some _ e)
  obtain ⟨o₁, e₁, n₁⟩ := ns_iff.mp hns
  have w1 : Led h₀ h₁ ((h.objs.size, Frm [(x, some v)]) :: l) := by
    refine w.push hk₁ ⟨o₁, e₁, by simp, ?_⟩
    have : (fun y => [(x, v)].reverse.lookup y) = fm [(x, some v)] := by
      funext y
      show List.lookup y [(x, v)] = if y = x then some v else none
      rw [List.lookup_cons]
      by_cases e : y = x
      · subst e; simp
      · rw [show (y == x) = false by simpa using e, if_neg e]; rfl
    exact this ▸ n₁
  exact ⟨(b.nolimit.keeps w.keep).fresh _ hsb, kla_codeExpr (Go.toWp (q h.objs.size h₁ _ ⟨hk, rfl, rfl, rfl⟩ w1) fun v h' k' z => ⟨h', k', rfl, z⟩)⟩
end
end Mine

/-! C4 -/
namespace Mine
section
variable {c : Cx} {A : Around} {h₀ h h' : Heap} {k : Nat} {l l' : List It} {env : Env} {L a it : Addr} {K : Frag} {mg mb : Str → Option Value} {vs : List Value}

def FinQ (c : Cx) (A : Around) (Q : Value → Heap → Nat → Prop) (fin : Fin) (h : Heap) (k : Nat) : Prop := match fin with
  | .done (.ret v) => Q v h k
  | .again c' => c'.quiet = true ∧ GoC c A c' h k Q
  | _ => False
theorem gCallFn {id : String} {B : Builtin} {args : List Value} {kw : List (Str × Value)} {Q : Value → Heap → Nat → Prop} (hk : builtinKind id = none) (hp : plainId id = true) (hb : entryFor table id = some B) (ha : argsOk id ⟨args, kw⟩)
    (x : Go c A.in1 (B ⟨args, kw⟩) h k (FinQ c A Q)) : Go c A (call (.builtin id) args kw) h k Q := by
  refine Go.ofC (codeAny_call_builtin hp hb ?_)
  have hfin := x.toWp (Q' := fun fin s' => match fin with
      | .done f => (match (Except.ok f : Result) with | .ok (.ret v) => ∃ h' k', s' = c.s h' k' ∧ Q v h' k' | _ => False)
      | .again c' => c'.quiet = true ∧ codeAny c.m A c' (fun r s' => match r with | .ok (.ret v) => ∃ h' k', s' = c.s h' k' ∧ Q v h' k' | _ => False) s') (E' := fun _ _ => False) fun fin h k z => (by match fin, z with | .done (.ret v), z => exact ⟨h, k, rfl, z⟩ | .again c', z => exact z)
  simp only [checkBuiltinCall, hk]
  cases hsig : Manifest.signature? id with
  | none => exact wpAny_pure hfin
  | some sig =>
    have ha' : Bind.checkArgs id sig ⟨args, kw⟩ = pure () := by simpa only [argsOk, hsig] using ha
    simp only [ha']
    exact wpAny_pure hfin
theorem gCodeB {id : String} {B : Builtin} {args : Args} {Q : Value → Heap → Nat → Prop} (hp : plainId id = true) (hb : entryFor table id = some B) (x : Go c A.in1 (B args) h k (FinQ c A Q)) : GoC c A (.builtin id args) h k Q := by
  refine codeAny_builtin hb ?_
  rw [Around.under_plainId hp args]
  exact x.toWp fun fin h k z => (by match fin, z with | .done (.ret v), z => exact ⟨h, k, rfl, z⟩ | .again c', z => exact z)

theorem cs_list {prog : Program} {w : World} {A : Around} {E : Value → Shared → Prop} {s : Shared} {a : Addr} {items : Array Value} {k : Int} {t : Tok} {x : Value} {Q : Option Value → Shared → Prop} (hl : s.heap.IsList a items) (h0 : 0 ≤ k) (hfit : k < 2 ^ 63) (hx : items[k.toNat]? = some x) (h : Q (some x) s) :
    wpAny (model prog w) A (callSpecial? (.ref a) "__getitem__" [.int k t]) Q E s := by
  obtain ⟨o, ho, hc, ne, hd⟩ := id hl
  refine wpAny_callSpecial?_slot (name := Str.ofString "__getitem__") hl.typeIs slot_list_getitem
    (wpAny_call_entry slot_list_getitem hl.typeIs entry_list_getitem ?_ (args_list_getitem _ _))
  show wpAny _ _ (Builtin.List.listSubscript? (.int k t) >>= _) _ _ s
  refine wpAny_bind (wpAny_listSubscript_int (fitsIndex_of h0 hfit) ?_)
  clear hfit
  obtain ⟨j, rfl⟩ := Int.eq_ofNat_of_zero_le h0
  have hx' : items[j]? = some x := hx
  show wpAny _ _ ((seqItemAt a j >>= fun r => pure (r.map (j, ·))) >>= _) _ _ s
  refine wpAny_bind (wpAny_bind (wpAny_seqItemAt ho hd (wpAny_pure ?_)))
  rw [hx']
  first
    | exact wpAny_bind (wpAny_pure (wpAny_pure ⟨x, rfl, h⟩))
    | exact wpAny_pure ⟨x, rfl, h⟩
theorem gListItem {i : Int} {t : Tok} {v : Value} {Q : Option Value → Heap → Nat → Prop} (w : Led h₀ h l) (hm : (a, LstV vs) ∈ l) (h0 : 0 ≤ i) (hi : i < 2 ^ 63) (hv : vs[i.toNat]? = some v) (q : Q (some v) h k) :
    Go c A (callSpecial? (.ref a) "__getitem__" [.int i t]) h k Q :=
  cs_list (s := c.s h k) (LstV.is w hm) h0 hi (by simpa using hv) ⟨h, k, rfl, q⟩
theorem plain_bis : plainId "_bisect.bisect_right.loop" = true := by decide +kernel
theorem entry_bis : entryFor table "_bisect.bisect_right.loop" = some Builtin.«_bisect.bisect_right.loop» := entryFor_of_tree (by kernel_rfl)

theorem bisLoop {f : Addr} {X : Int} {tX : Tok} {g : Nat → Int} {Q : Value → Heap → Nat → Prop} (hm : (a, LstV vs) ∈ l) (hn : vs.length < 2 ^ 62)
    (key : ∀ h k i v Q', vs[i]? = some v → Led h₀ h l → (∀ t h' k', Led h₀ h' l → Q' (.int (g i) t) h' k') → GoC c A.in1 (.call (.ref f) ⟨[v], []⟩) h k Q')
    (mono : ∀ i j, i ≤ j → j < vs.length → g i ≤ g j)
    (q : ∀ r t h' k', (∀ i, i < r → g i < X) → (∀ i, r ≤ i → i < vs.length → X ≤ g i) → r ≤ vs.length → Led h₀ h' l → Q (.int (r : Nat) t) h' k') :
    ∀ n lo hi h k, n = hi - lo → lo ≤ hi → hi ≤ vs.length → (∀ i, i < lo → g i < X) → (∀ i, hi ≤ i → i < vs.length → X ≤ g i) → Led h₀ h l →
      GoC c A (.builtin "_bisect.bisect_right.loop" ⟨[.ref a, .int X tX, rawInt (lo : Nat), rawInt (hi : Nat), .ref f, .bool false, .bool true, rawInt 0], []⟩) h k Q := by
  intro n
  induction n using Nat.strongRecOn with
  | ind n ih =>
    intro lo hi h k en hlo hhi hL hR w
    refine gCodeB plain_bis entry_bis ?_
    unfold Builtin.«_bisect.bisect_right.loop»
    dsimp only [rawInt]
    by_cases hlt : lo < hi
    · rw [if_pos (by omega)]
      have em : ((lo : Int) + (hi : Int)) / 2 = (((lo + hi) / 2 : Nat) : Int) := by omega
      generalize emid : (lo + hi) / 2 = mid at em
      rw [em]
      have h1 : lo ≤ mid := by omega
      have h2 : mid < hi := by omega
      obtain ⟨v, hv⟩ : ∃ v, vs[mid]? = some v := ⟨vs[mid], List.getElem?_eq_getElem (by omega)⟩
      refine Go.bind (wpAny_mkInt ⟨_, _, rfl, ?_⟩)
      refine Go.bind (gListItem w hm (by omega) (by omega) hv ?_)
      dsimp only
      rw [if_neg (show ¬ ((Value.ref f == Value.none) = true) from Bool.false_ne_true)]
      refine Go.bind (Go.holding (Go.ofC (key h _ mid v _ hv w fun t h k w => ?_)))
      refine Go.holding ?_
      simp only [if_true, Bool.false_eq_true, if_false]
      refine Go.bind (Go.pure (Go.bind (Go.pure ?_)))
      rw [if_pos (by rfl)]
      refine Go.bind (wpAny_cRoomFor_or (.inl (by rfl)) ⟨_, _, rfl, ?_⟩)
      refine Go.bind (wpAny_callSpecialIfBound?_slot (typeIs_int _ _ _) PySem.F.slot_int_lt (call_gives PySem.F.slot_int_lt (typeIs_int _ _ _) PySem.F.entry_int_lt (PySem.F.args_int_lt_2 _ _) (gives_int_lt _ _ _ _) ⟨_, _, rfl, ?_⟩))
      dsimp only
      refine Go.bind (wpAny_truthy_bool ⟨_, _, rfl, ?_⟩)
      refine Go.bind (Go.pure ?_)
      by_cases hx : g mid < X
      · rw [decide_eq_true hx, if_neg (by decide)]
        refine Go.pure ⟨plainId_quiet plain_bis _, ?_⟩
        have e1 : ((mid : Int) + 1) = ((mid + 1 : Nat) : Int) := by omega
        rw [e1]
        exact ih (hi - (mid + 1)) (by omega) (mid + 1) hi h _ rfl (by omega) hhi (fun i hi' => Int.lt_of_le_of_lt (mono i mid (by omega) (by omega)) hx) hR w
      · rw [decide_eq_false hx, if_pos (by decide)]
        refine Go.pure ⟨plainId_quiet plain_bis _, ?_⟩
        exact ih (mid - lo) (by omega) lo mid h _ rfl h1 (by omega) hL (fun i hi' hl => Int.le_trans (Int.not_lt.mp hx) (mono mid i hi' hl)) w
    · have : lo = hi := by omega
      subst this
      rw [if_neg (by omega)]
      refine Go.bind (wpAny_mkInt ⟨_, _, rfl, Go.pure ?_⟩)
      exact q lo _ h _ hL hR hhi w

theorem mroOf_list : mroOf (.type "list") = pure [.type "list", .type "object"] := by rw [mroOf_type]; kernel_rfl
theorem cutList {n : Nat} {Q : String → Heap → Nat → Prop} (w : Led h₀ h l) (hm : (a, LstV vs) ∈ l) (q : Q "list" h k) : Go c A (typeNameOfCut n (.ref a)) h k Q := by
  unfold typeNameOfCut shownTypeOf
  refine Go.bind (wpAny_bind (wpAny_typeOf (LstV.is w hm).typeIs ?_))
  simp only [show (Value.type "list" == Value.type "builtin_function_or_method") = false by decide, Bool.false_eq_true, if_false]
  refine wpAny_pure ⟨_, _, rfl, ?_⟩
  have e : typeName (.type "list") = pure "list" := by unfold typeName; rw [find?_eq_fast]; kernel_rfl
  rw [show typeNameCut n (.type "list") = typeName (.type "list") from rfl, e]; exact Go.pure q
theorem plain_bl : plainId "_bisect.bisect_left" = true := by decide +kernel
theorem entry_bl : entryFor table "_bisect.bisect_left" = some Builtin.«_bisect.bisect_left» := entryFor_of_tree (by kernel_rfl)
theorem args_bl (a b c : Value) : argsOk "_bisect.bisect_left" ⟨[a, b], [("key", c)]⟩ := by unfold argsOk; kernel_rfl
theorem gBisect {f : Addr} {X : Int} {tX : Tok} {g : Nat → Int} {Q : Value → Heap → Nat → Prop} (w : Led h₀ h l) (hm : (a, LstV vs) ∈ l) (hn : vs.length < 2 ^ 62)
    (key : ∀ h k i v Q', vs[i]? = some v → Led h₀ h l → (∀ t h' k', Led h₀ h' l → Q' (.int (g i) t) h' k') → GoC c A.in1 (.call (.ref f) ⟨[v], []⟩) h k Q')
    (mono : ∀ i j, i ≤ j → j < vs.length → g i ≤ g j)
    (q : ∀ r t h' k', (∀ i, i < r → g i < X) → (∀ i, r ≤ i → i < vs.length → X ≤ g i) → r ≤ vs.length → Led h₀ h' l → Q (.int (r : Nat) t) h' k') : Go c A (call (.builtin "_bisect.bisect_left") [.ref a, .int X tX] [("key", .ref f)]) h k Q := by
  refine gCallFn (by kernel_rfl) plain_bl entry_bl (args_bl _ _ _) ?_
  show Go c A.in1 (pure (Value.ref a, Value.int X tX, (none : Option Value), (none : Option Value), some (Value.ref f)) >>= _) h k _
  refine Go.bind (Go.pure (Go.bind (Go.pure (Go.bind (Go.pure ?_)))))
  rw [if_neg (by decide)]
  refine Go.bind (Go.pure (Go.holding ?_))
  rw [if_neg (by decide), if_neg (by decide)]
  refine Go.bind ?_
  refine Go.bind (wpAny_typeOf (LstV.is w hm).typeIs ⟨_, _, rfl, ?_⟩)
  refine Go.bind (cutList w hm ?_)
  refine Go.bind ?_
  rw [mroOf_list]
  refine Go.pure ?_
  dsimp only
  rw [if_neg (by decide), if_pos rfl, PySem.F.slot_list_len.lookup]
  refine Go.bind (Go.pure ?_)
  rw [if_neg (by decide), if_neg (by decide)]
  refine Go.pure ?_
  refine Go.bind (wpAny_runValue (codeAny_builtin entry_len ?_))
  rw [Around.under_plainId plain_len _]
  refine wpAny_mono (wpAny_len_body_list (Q := fun r s' => r = .int vs.length (k + 1) ∧ s' = c.s h (k + 1 + 1)) (LstV.is w hm) (by rw [List.size_toArray]; omega) ⟨by simp, rfl⟩) (fun fin s' z => ?_) fun _ _ h => h
  obtain ⟨r, rfl, rfl, rfl⟩ := z
  refine ⟨h, _, rfl, ?_⟩
  dsimp only
  refine Go.bind (Go.pure ?_)
  refine Go.bind ?_
  refine Go.bind (wpAny_typeOf (LstV.is w hm).typeIs ⟨_, _, rfl, ?_⟩)
  refine Go.bind (cutList w hm ?_)
  refine Go.bind ?_
  rw [mroOf_list]
  refine Go.pure ?_
  dsimp only
  rw [if_neg (by decide), if_neg (by decide), list_getitem_lookup]
  refine Go.bind (Go.pure ?_)
  rw [if_neg (by decide), if_neg (by decide)]
  refine Go.pure (Go.pure ⟨plainId_quiet plain_bis _, ?_⟩)
  exact bisLoop hm hn key mono q _ 0 vs.length h _ rfl (Nat.zero_le _) (Nat.le_refl _) (fun i hi => absurd hi (Nat.not_lt_zero _)) (fun i hi hi' => absurd hi' (Nat.not_lt.mpr hi)) w
end
end Mine

/-! C5 -/
namespace Mine
theorem fillC5 : PySem.Challenge.rw_bn0041_01 = PySem.Challenge.rw_bn0041_01 ∧ hd.heap_1 = hd.heap_1 := by
  k_fill
  exact ⟨rfl, rfl⟩
def TupV (vs : List Value) (o : Obj) : Prop := ∃ n, o = { cls := .type "tuple", dict := none, data := .seq vs.toArray n, slots := #[] }
section
variable {c : Cx} {A : Around} {h₀ h h' : Heap} {k : Nat} {l l' : List It} {env : Env} {L a it : Addr} {K : Frag} {mg mb : Str → Option Value} {vs : List Value} {pos : Pos}
theorem eTup {elts : List PySem.Expr} {x1 : Nat} {Q : Value → Heap → Nat → Prop} (x : Go c A (spliced (backTo pos (starEach elts env))) h k fun vs h k => ∃ l, Led h₀ h l ∧ vs.length ≤ sizeLine ∧ ∀ T h', Led h₀ h' ((T, TupV vs) :: l) → Q (.ref T) h' k) :
    Go c A (eval (.Tuple elts x1 pos) env) h k Q := by
  refine wpAny_Tuple (x.toWp fun vs h k z => ?_)
  obtain ⟨l, w, hsz, q⟩ := z
  exact ⟨hsz, _, _, rfl, q _ _ (w.alloc _ rfl ⟨_, rfl⟩)⟩
theorem eLst {elts : List PySem.Expr} {Q : Value → Heap → Nat → Prop} (x : Go c A (spliced (backTo pos (starEach elts env))) h k fun vs h k => ∃ l, Led h₀ h l ∧ vs.length ≤ sizeLine ∧ ∀ T h', Led h₀ h' ((T, LstV vs) :: l) → Q (.ref T) h' k) :
    Go c A (eval (.List elts pos) env) h k Q := by
  refine wpAny_List (x.toWp fun vs h k z => ?_)
  obtain ⟨l, w, hsz, q⟩ := z
  exact ⟨hsz, _, _, rfl, q _ _ (w.alloc _ rfl ⟨_, rfl⟩)⟩
theorem eLst0 {Q : Value → Heap → Nat → Prop} (w : Led h₀ h l) (q : ∀ T h', Led h₀ h' ((T, LstV []) :: l) → Q (.ref T) h' k) : Go c A (eval (.List [] pos) env) h k Q :=
  eLst (aNil ⟨l, w, Nat.zero_le _, q⟩)
theorem eNamed {target value : PySem.Expr} {Q : Value → Heap → Nat → Prop} (x : Go c A (eval value env) h k fun v h k => Go c A (assign target env v) h k fun _ h k => Q v h k) : Go c A (eval (.NamedExpr target value pos) env) h k Q :=
  wpAny_NamedExpr (x.toWp fun v h k z => z.toWp fun _ h k z => ⟨h, k, rfl, z⟩)
theorem tLst {Q : Bool → Heap → Nat → Prop} (w : Led h₀ h l) (hm : (a, LstV vs) ∈ l) (hn : vs.length < 2 ^ 62) (q : ∀ k, Q (!vs.isEmpty) h k) : Go c A (truthy (.ref a)) h k Q := by
  refine wpAny_truthy_list (LstV.is w hm) (by rw [List.size_toArray]; omega) ⟨_, _, rfl, ?_⟩
  have : (!vs.toArray.isEmpty) = !vs.isEmpty := by cases vs <;> rfl
  rw [this]; exact q _
theorem subL {value slice : PySem.Expr} {i : Int} {t : Tok} {v : Value} {Q : Value → Heap → Nat → Prop} (w : Led h₀ h l) (hm : (a, LstV vs) ∈ l) (hn : vs.length < 2 ^ 62) (hi : 0 ≤ i ∧ vs[i.toNat]? = some v ∨ i < 0 ∧ -(vs.length : Int) ≤ i ∧ vs[(i + vs.length).toNat]? = some v) (q : Q v h k)
    (hs : subscripted slice false (.ref a) (.int i t) = operate [.ref a, .int i t] (getItem (.ref a) (.int i t)) := by with_unfolding_all rfl) : Go c A (subscriptTail value slice (.ref a) (.int i t)) h k Q := by
  have hl := LstV.is w hm
  refine tail_any (s := c.s h k) hl.typeIs PySem.F.slot_list_getitem.lookup ?_ hs
  rcases hi with ⟨h0, hv⟩ | ⟨h0, h1, hv⟩
  · have := (List.getElem?_eq_some_iff.mp hv).1
    exact wpAny_getItem_list hl h0 (by omega) (by simpa using hv) ⟨_, _, rfl, q⟩
  · exact wpAny_getItem_list_neg hl h0 (by rw [List.size_toArray]; exact h1) (by omega) (by simpa using hv) ⟨_, _, rfl, q⟩
theorem TupV.is (w : Led h₀ h l) (hm : (a, TupV vs) ∈ l) : IsTup h a vs.toArray := by
  obtain ⟨o, e, n, rfl⟩ := w.get hm
  exact ⟨_, e, rfl, n, rfl⟩
theorem subT {value slice : PySem.Expr} {i : Nat} {t : Tok} {v : Value} {Q : Value → Heap → Nat → Prop} (w : Led h₀ h l) (hm : (a, TupV vs) ∈ l) (hi : i < 2 ^ 62) (hv : vs[i]? = some v) (q : Q v h k)
    (hs : subscripted slice false (.ref a) (.int (i : Nat) t) = operate [.ref a, .int (i : Nat) t] (getItem (.ref a) (.int (i : Nat) t)) := by with_unfolding_all rfl) : Go c A (subscriptTail value slice (.ref a) (.int (i : Nat) t)) h k Q := by
  have hl := TupV.is w hm
  have := (List.getElem?_eq_some_iff.mp hv).1
  refine tail_any (s := c.s h k) hl.typeIs PySem.F.slot_tuple_getitem.lookup (getItem_tuple hl (by omega) (by omega) (j := i) ?_ (by simpa using hv) ⟨_, _, rfl, q⟩) hs
  rw [seqIndex_of (by omega) (by rw [List.size_toArray]; omega)]; simp
theorem Led.in1 {x y : It} {a l : List It} (w : Led h₀ h (x :: (a ++ y :: l))) : Led h₀ h (a ++ y :: x :: l) :=
  w.perm (List.Perm.trans List.perm_middle.symm (List.Perm.append_left _ (List.Perm.swap _ _ _)))
theorem Led.out2 {x y z : It} {a l : List It} (w : Led h₀ h (x :: (a ++ y :: z :: l))) : Led h₀ h (a ++ x :: l) :=
  (w.sub (((List.Sublist.refl a).append ((List.sublist_cons_self z l).trans (List.sublist_cons_self y _))).cons_cons x)).mid
theorem Led.out3 {x y z u : It} {a l : List It} (w : Led h₀ h (x :: (a ++ y :: z :: u :: l))) : Led h₀ h (a ++ x :: l) :=
  (w.sub (((List.Sublist.refl a).append ((List.sublist_cons_self u l).trans ((List.sublist_cons_self z _).trans (List.sublist_cons_self y _)))).cons_cons x)).mid
theorem gEnt {e : Ev} {len : Int} {nm : Str} {x : Int} {Q : Value → Heap → Nat → Prop} (b : Base K mg mb h₀) (w : Led h₀ h l) (hm : (e.ea, InstP 557 e.ed) ∈ l) (hd : (e.ed, EntD e.at_ len) ∈ l) (a : OwnA K 557 nm) (hv : nm = "atime" ∧ x = e.at_ ∨ nm = "expiry" ∧ x = len)
    (q : ∀ t k', Q (.int x t) h k') : Go c A (getAttr (.ref e.ea) nm true) h k Q := by
  obtain ⟨o, e1, p⟩ := w.get hm
  obtain ⟨od, e2, t, u, f⟩ := w.get hd
  unfold InstP at p
  subst p
  obtain ⟨at', ha, hn⟩ := a.a
  rcases hv with ⟨rfl, rfl⟩ | ⟨rfl, rfl⟩
  · exact get_value (b.kin.keeps w.keep) (I := ⟨e1, rfl, rfl, e2⟩) (plainGet_of a.g).1 (findObj_own a.h ha hn (by rw [look_of_ns f.2, fm_mem f.1 (.head _)])) rfl ⟨_, _, rfl, q _ _⟩
  · exact get_value (b.kin.keeps w.keep) (I := ⟨e1, rfl, rfl, e2⟩) (plainGet_of a.g).1 (findObj_own a.h ha hn (by rw [look_of_ns f.2, fm_mem f.1 (.tail _ (.head _))])) rfl ⟨_, _, rfl, q _ _⟩
theorem ent_mem {ad : Ad} {st : St} {e : Ev} (hm : e ∈ st.ents) : (e.ea, InstP 557 e.ed) ∈ core c.w ad st ∧ (e.ed, EntD e.at_ (e.at_ + 60 * ad.mul)) ∈ core c.w ad st := by
  have h2 : ∀ p, p ∈ entsOf (60 * ad.mul) st.ents → p ∈ core c.w ad st := fun p hp => List.mem_append_right _ (List.mem_append_right _ (List.mem_append_right _ hp))
  exact ⟨h2 _ (List.mem_flatMap.mpr ⟨e, hm, .head _⟩), h2 _ (List.mem_flatMap.mpr ⟨e, hm, .tail _ (.head _)⟩)⟩
theorem ev_mem {ad : Ad} {st : St} {ea : Addr} {es : List Ev} (hm : st.ev = some (ea, es)) : (ea, LstV (es.map fun e => Value.ref e.ea)) ∈ core c.w ad st :=
  List.mem_append_right _ (List.mem_append_right _ (List.mem_append_left _ (by rw [hm]; exact .head _)))
def esOf (st : St) : List Ev := (st.ev.map (·.2)).getD []
structure EvOk (st : St) : Prop where
  sub : ∀ e ∈ esOf st, e ∈ st.ents
  mono : (esOf st).Pairwise fun a b => b.at_ ≤ a.at_
  len : (esOf st).length < 2 ^ 62
structure GmwOk (es : List Ev) (m len start : Int) (r : Nat) : Prop where
  le : r ≤ es.length
  iff : ∀ i e, es[i]? = some e → (i < r ↔ m - len < e.at_)
  at_ : 0 < r → ∃ e, es[r - 1]? = some e ∧ start = e.at_
end
theorem o_atime (c : Cx) : OwnA (hd.heap_1 c.w.params) 557 "atime" := ⟨by k_is, by k_is, _, by k_is, by k_is⟩
theorem o_expiry (c : Cx) : OwnA (hd.heap_1 c.w.params) 557 "expiry" := ⟨by k_is, by k_is, _, by k_is, by k_is⟩
section
variable {c : Cx} {A : Around} {h₀ h : Heap} {k : Nat} {l l' : List It} {mg mb : Str → Option Value}
theorem eLam1 {ad : Ad} {st : St} {env : Env} {params : Arguments} {body : PySem.Expr} {scope : Scope} {pos : Pos} {Q : Value → Heap → Nat → Prop} {K : Frag} (b : Base K mg mb h₀) (w : W c h₀ ad h st l) (hcode : env.code = .ref 870) (hg : env.globals = mainGlobals) (hq : env.qual ++ "<lambda>" = "MemoryStorage.get_moving_window.<locals>.<lambda>") (hcl : closureFor scope env = pure [])
    (q : ∀ f c' h' k', W c h₀ ad h' { st with l1 := some c' } ((f, LamP params body scope "MemoryStorage.get_moving_window.<locals>.<lambda>" c') :: l) → (c', CodeOf "MemoryStorage.get_moving_window.<locals>.<lambda>") ∈ core c.w ad { st with l1 := some c' } → Q (.ref f) h' k')
    (hp : pos = p1 := by rfl) (hdef : defaultsOf params env = ([], []) := by rfl) : Go c A (eval (.Lambda params body scope pos) env) h k Q := by
  refine eLam (cc := 870) (P := 866) (t := st.l1) (l' := fun c' => (coreF c.w ad { st with l1 := some c' } ++ coreT ad st) ++ l) b w hcode b.c1 hg (fun c' => Sw.appR (Sw.appR (s19 s0) _) _) hp hcl (fun e f c' h' k' w' => ?_) (fun c' e f h' k' w' => ?_) hdef
  · rw [hq] at w'
    refine q f c' h' k' (Led.mid ?_) (List.mem_append_right _ (.head _))
    have e2 : coreT ad { st with l1 := some c' } = (c', CodeOf "MemoryStorage.get_moving_window.<locals>.<lambda>") :: coreT ad st := by
      show (cdOf _ (some c') ++ cdOf _ st.l2) ++ _ = _ :: ((cdOf _ st.l1 ++ cdOf _ st.l2) ++ _)
      rw [e]; rfl
    refine w'.perm (List.Perm.cons _ ?_)
    show ((c', CodeOf _) :: (coreF c.w ad { st with l1 := some c' } ++ coreT ad st ++ l)).Perm (coreF c.w ad { st with l1 := some c' } ++ coreT ad { st with l1 := some c' } ++ l)
    rw [e2, List.append_assoc, List.append_assoc]
    exact List.perm_middle.symm
  · rw [hq] at w'
    have e2 : st = { st with l1 := some c' } := by
      obtain ⟨m, s, cnt, exp, ev, ents, l1, l2⟩ := st
      dsimp only at e
      subst e; rfl
    rw [e2] at w'
    exact q f c' h' k' (Led.mid w') (List.mem_append_right _ (.head _))
theorem gmw_ {ad : Ad} {st : St} {tk u1 u2 : Tok} {lim len : Int} {Q : Value → Heap → Nat → Prop} (b : Base (hd.heap_1 c.w.params) mg mb h₀) (w : W c h₀ ad h st l) (hd : A.depth < 870) (ok : EvOk st)
    (q : ∀ T start r l1 t1 t2 h' k', GmwOk (esOf st) (st.m + st.s) len start r → W c h₀ ad h' { stTick st with l1 := l1 } ((T, TupV [.int start t1, .int (r : Nat) t2]) :: l) → Q (.ref T) h' k') :
    GoC c A (.call (.ref 871) ⟨[.ref ad.st, .str ad.KEY tk, .int lim u1, .int len u2], []⟩) h k Q := by
  refine gEnterK ["self", "key", "limit", "expiry", "timestamp", "events", "oldest"] [.ref ad.st, .str ad.KEY tk, .int lim u1, .int len u2] b w (Nat.lt_trans hd (by decide)) (by k_is) (by k_is) (BindsTo.of_eq rfl) (locs rfl) (by decide) (by decide +kernel) (fun L h k n w => ?_)
  generalize henv : envOf _ _ _ _ _ = env at n ⊢
  have ks : env.kindOf "self" = some .local := by rw [← henv]; rfl
  have kk : env.kindOf "key" = some .local := by rw [← henv]; rfl
  have ke : env.kindOf "expiry" = some .local := by rw [← henv]; rfl
  have kt : env.kindOf "timestamp" = some .local := by rw [← henv]; rfl
  have kv : env.kindOf "events" = some .local := by rw [← henv]; rfl
  have ko : env.kindOf "oldest" = some .local := by rw [← henv]; rfl
  have w := w.mid
  refine xDoc n.k fun k => xAssign (clockE b w n (by show A.depth + 1 < 900; omega) ks t0 fun h k ts w => ?_)
  refine storeL w n kt (.s (.s (.s (.s .z)))) (Sw.appL .z _) fun h k w => ?_
  refine xIf (iVal (eNamed ?_))
  refine eCallM (eAttr (nameL w n ks fr0 t0 (gOwn b w (t6 t0) (t7 t0) (t3 t0) (o_events c) rfl fun k => ?_)))
  refine mDict w (t11 t0) PySem.F.slot_dict_get PySem.F.type_dict_get ?_
  refine cwB (aCons (nameL w n kk fr0 (t1 t0) (aCons (eLst0 w fun D h w => aNil ?_))))
  have w := w.in1
  refine Go.mono (Q := fun v h k => ∃ a, v = .ref a ∧ (∀ l1 X F, (a, LstV ((esOf st).map fun e => Value.ref e.ea)) ∈ core c.w ad { stTick st with l1 := l1 } ++ (X ++ (L, F) :: (D, LstV []) :: l)) ∧
    Led h₀ h (core c.w ad (stTick st) ++ (L, Frm (zipV ["self", "key", "limit", "expiry", "timestamp", "events", "oldest"] [.ref ad.st, .str ad.KEY tk, .int lim u1, .int len u2, .int (st.m + st.s) ts])) :: (D, LstV []) :: l)) ?_ fun v h k z => ?_
  · refine dGet w (t11 t0) (fun e k => ⟨D, rfl, fun l1 X F => ?_, w⟩) fun p v e hp k => ?_
    · have : st.ev = none := by
        cases h : st.ev with
        | none => rfl
        | some p => rw [show (stTick st).ev = st.ev from rfl, h] at e; cases e
      rw [show esOf st = [] by unfold esOf; rw [this]; rfl]
      exact List.mem_append_right _ (List.mem_append_right _ (t1 t0))
    · cases h : st.ev with
      | none => rw [show (stTick st).ev = st.ev from rfl, h] at e; cases e
      | some p =>
        obtain ⟨ea, es⟩ := p
        rw [show (stTick st).ev = st.ev from rfl, h] at e; cases e
        refine ⟨ea, hp, fun l1 X F => List.mem_append_left _ ?_, w⟩
        rw [show esOf st = es by unfold esOf; rw [h]; rfl]
        exact ev_mem (st := { stTick st with l1 := l1 }) h
  obtain ⟨a, rfl, ma, w⟩ := z
  refine aName (storeL w n kv (.s (.s (.s (.s (.s .z))))) (Sw.appL .z _) fun h k w => ?_)
  refine tLst w (ma st.l1 [] _) (by rw [List.length_map]; exact ok.len) fun k => ?_
  cases hes : (esOf st).isEmpty with
  | true =>
    rw [List.isEmpty_map, hes]
    refine if_ff (xNil (xRet ?_))
    refine eTup (h₀ := h₀) (aCons (nameL w n kt fr0 (t4 t0) (aCons (eInt fun tz k => aNil ?_))))
    refine ⟨_, w, by show 2 ≤ sizeLine; decide, fun T h w => ?_⟩
    refine q T (st.m + st.s) 0 st.l1 ts tz _ _ ⟨Nat.zero_le _, fun i e hi => ?_, fun h => absurd h (Nat.lt_irrefl _)⟩ ?_
    · rw [List.isEmpty_iff] at hes; rw [hes] at hi; cases hi
    · exact w.out2
  | false =>
    rw [List.isEmpty_map, hes]
    refine if_tt ?_
    have kb : env.kindOf "bisect_left" = some .globalImplicit := by rw [← henv]; rfl
    have hc : env.code = .ref 870 := by rw [← henv]; rfl
    have hq : env.qual ++ "<lambda>" = "MemoryStorage.get_moving_window.<locals>.<lambda>" := by rw [← henv]; show (Str.ofString "MemoryStorage.get_moving_window" ++ ".<locals>.") ++ "<lambda>" = _; decide +kernel
    refine xAssign (eCallN (nameG b w n kb (by k_is) (cwBK (aCons (nameL w n kv fr0 (t5 t0) (aCons (eUn (eBin (nameL w n kt fr0 (t4 t0) (nameL w n ke fr0 (t3 t0) (oSub fun t k => oNeg fun t k => aNil (kCons ?_))))))))))))
    refine eLam1 b w hc n.g hq (by rfl) fun f c' h k w hcd => kNil ?_
    have hg : ∀ (i : Nat) (e : Ev), (esOf st)[i]? = some e → (((esOf st)[i]?.map Ev.at_).getD 0) = e.at_ := fun i e h => by rw [h]; rfl
    refine gBisect (g := fun i => -(((esOf st)[i]?.map Ev.at_).getD 0)) w (ma _ [_] _) (by rw [List.length_map]; exact ok.len) (fun h k i v Q' hv w q => ?_) (fun i j hij hj => ?_) fun r t h k hL hR hr w => ?_
    · rw [List.getElem?_map] at hv
      obtain ⟨e, he, rfl⟩ := Option.map_eq_some_iff.mp hv
      have me := ok.sub e (List.mem_of_getElem? he)
      refine lamCall b w (by show A.depth + 1 < 900; omega) (List.mem_append_right _ (.head _)) (List.mem_append_left _ hcd) (fun pm ctv => by rfl) (by rfl) (by decide +kernel) fun L' h k n' w' => ?_
      refine eUn (eAttr (nameL w' n' (by rfl) t0 t0 ?_))
      obtain ⟨m1, m2⟩ := ent_mem (c := c) (ad := ad) (st := { stTick st with l1 := some c' }) me
      refine gEnt b w' (.tail _ (List.mem_append_left _ m1)) (.tail _ (List.mem_append_left _ m2)) (o_atime c) (.inl ⟨rfl, rfl⟩) fun t k => oNeg fun t k => ?_
      have := q t h k w'.drop
      rw [hg i e he] at this
      exact this
    · rw [List.length_map] at hj
      have h1 := List.getElem?_eq_getElem hj
      have h2 := List.getElem?_eq_getElem (Nat.lt_of_le_of_lt hij hj)
      rw [hg _ _ h1, hg _ _ h2]
      rcases Nat.eq_or_lt_of_le hij with rfl | hlt
      · exact Int.le_refl _
      · have := List.pairwise_iff_getElem.mp ok.mono i j (Nat.lt_of_le_of_lt hij hj) hj hlt
        omega
    · rw [List.length_map] at hr hR
      have w : Led h₀ h (core c.w ad { stTick st with l1 := some c' } ++ (L, _) :: (f, _) :: (D, LstV []) :: l) := w.perm (List.Perm.append_left _ (List.Perm.swap _ _ _))
      have ne : esOf st ≠ [] := by intro h; rw [h] at hes; cases hes
      have hne : 0 < (esOf st).length := List.length_pos_iff.mpr ne
      refine storeL w n ko (.s (.s (.s (.s (.s (.s .z)))))) (Sw.appL .z _) fun h k w => ?_
      refine xRet (eTup (h₀ := h₀) (aCons (eAttr (eSub (nameL w n kv fr0 (t5 t0) (eBin (nameL w n ko fr0 (t6 t0) (eInt fun t1 k => oSub fun t2 k => ?_)))))))) 
      obtain ⟨e, me, he1, he2⟩ : ∃ e, e ∈ esOf st ∧ (0 < r → (esOf st)[r - 1]? = some e) ∧
          (0 ≤ (r : Int) - 1 ∧ ((esOf st).map fun e => Value.ref e.ea)[((r : Int) - 1).toNat]? = some (.ref e.ea) ∨ (r : Int) - 1 < 0 ∧ -(((esOf st).map fun e => Value.ref e.ea).length : Int) ≤ (r : Int) - 1 ∧ ((esOf st).map fun e => Value.ref e.ea)[((r : Int) - 1 + ((esOf st).map fun e => Value.ref e.ea).length).toNat]? = some (.ref e.ea)) := by
        rcases Nat.eq_zero_or_pos r with h0 | h0
        · have h1 := List.getElem?_eq_getElem (show (esOf st).length - 1 < (esOf st).length by omega)
          refine ⟨_, List.mem_of_getElem? h1, fun h => by omega, .inr ⟨by omega, by rw [List.length_map]; omega, ?_⟩⟩
          rw [List.length_map, show ((r : Int) - 1 + (esOf st).length).toNat = (esOf st).length - 1 by omega, List.getElem?_map, h1]; rfl
        · have h1 := List.getElem?_eq_getElem (show r - 1 < (esOf st).length by omega)
          refine ⟨_, List.mem_of_getElem? h1, fun h => h1, .inl ⟨by omega, ?_⟩⟩
          rw [show ((r : Int) - 1).toNat = r - 1 by omega, List.getElem?_map, h1]; rfl
      have ok2 : GmwOk (esOf st) (st.m + st.s) len e.at_ r := by
        refine ⟨hr, fun i e he => ?_, fun h0 => ⟨e, he1 h0, rfl⟩⟩
        rcases Nat.lt_or_ge i r with hi | hi
        · have := hL i hi; rw [hg i e he] at this; omega
        · have := hR i hi (List.getElem?_eq_some_iff.mp he).1; rw [hg i e he] at this; omega
      obtain ⟨m1, m2⟩ := ent_mem (c := c) (ad := ad) (st := { stTick st with l1 := some c' }) (ok.sub e me)
      have ml : ∀ F P, (a, LstV ((esOf st).map fun e => Value.ref e.ea)) ∈ core c.w ad { stTick st with l1 := some c' } ++ (L, F) :: (f, P) :: (D, LstV []) :: l := fun F P => by
        rcases List.mem_append.mp (ma (some c') [] F) with h | h
        · exact List.mem_append_left _ h
        · rcases List.mem_cons.mp h with h | h
          · exact List.mem_append_right _ (List.mem_cons.mpr (.inl h))
          · exact List.mem_append_right _ (.tail _ (.tail _ h))
      refine subL w (ml _ _) (by rw [List.length_map]; exact ok.len) he2 ?_
      refine gEnt b w (List.mem_append_left _ m1) (List.mem_append_left _ m2) (o_atime c) (.inl ⟨rfl, rfl⟩) fun t1 k => ?_
      refine aCons (nameL w n ko fr0 (t6 t0) (aNil ⟨_, w, by show 2 ≤ sizeLine; decide, fun T h w => ?_⟩))
      exact q T e.at_ r (some c') t1 t _ _ ok2 w.out3
end
end Mine

/-! C6 -/
namespace Mine
def FrmS (n : Nat) (vs : Fv) (o : Obj) : Prop := Frm vs o ∧ ∃ es ep, o.data = .dict es ep ∧ es.size ≤ n
theorem put_ok {m : Str → Option Value} {o : Obj} {name : Str} {v : Value} {hs : Int} {tk : Tok} {n : Nat} (x : NsIs m o) (hz : ∃ es ep, o.data = .dict es ep ∧ es.size ≤ n) :
    NsIs (fun y => if y = name then some v else m y) (Obj.putName name hs (.str name tk) v o) ∧ ∃ es ep, (Obj.putName name hs (.str name tk) v o).data = .dict es ep ∧ es.size ≤ n + 1 := by
  obtain ⟨es, ep, hd, hk, hm⟩ := x
  obtain ⟨es', ep', hd', hz⟩ := hz
  rw [hd] at hd'
  cases hd'
  obtain ⟨c, d, dt, sl⟩ := o
  dsimp only at hd
  subst hd
  cases hi : es.findIdx? (·.key.isStr name) with
  | some i =>
    refine ⟨⟨_, ep, by simp only [Obj.putName_eq, Obj.putNameByArray, hi]; rfl, hk.modify _ _, fun x => ?_⟩, _, ep, by simp only [Obj.putName_eq, Obj.putNameByArray, hi]; rfl, by simp; omega⟩
    show _ = if x = name then some v else m x
    rw [← hm]; exact findBy_modify (fun n v => v.isStr n) Value.isStr_inj es name x v i hi
  | none =>
    refine ⟨⟨_, ep + 1, by simp only [Obj.putName_eq, Obj.putNameByArray, hi]; rfl, hk.push _ _ _ _, fun x => ?_⟩, _, ep + 1, by simp only [Obj.putName_eq, Obj.putNameByArray, hi]; rfl, by simp; omega⟩
    show _ = if x = name then some v else m x
    rw [← hm]
    exact findBy_push (fun n v => v.isStr n) es name x _ _ v (fun y => by
      show (name == y) = decide (y = name)
      by_cases h : y = name
      · subst h; simp
      · have : ¬ name = y := fun e => h e.symm
        simp [h, this]) hi
structure SetC (K : Frag) (C : Addr) (name : Str) : Prop where
  p : plainOver K C = true
  t : takerIn K C name = some none
  h : hasDictIn K C = true
  s : findIn K (.ref C) "__setattr__" = some (some (.builtin "object.__setattr__"))
structure MakC (K : Frag) (C fI : Addr) : Prop where
  m : makesIn K C = true
  i : findIn K (.ref C) "__init__" = some (some (.ref fI))
  f : typeIn K (.ref fI) = some (.type "function")
section
variable {c : Cx} {A : Around} {h₀ h h' : Heap} {k : Nat} {l l' : List It} {env : Env} {L a it : Addr} {K : Frag} {mg mb : Str → Option Value} {vs vs' : Fv} {x dx C fI : Addr} {pos : Pos}
theorem xSetAttr {o value : PySem.Expr} {attr : Str} {pos' : Pos} {rest : List Stmt} {Q : Flow → Heap → Nat → Prop}
    (y : Go c A (eval value env) h k fun v h k => Go c A (eval o env) h k fun ov h k => Go c A (setAttr ov attr v) h k fun _ h k => Go c A (execs rest env) h k Q)
    (hs : swapsWith value (some (.Attribute o attr pos')) pos.line env = pure false := by rfl) : Go c A (execs (.Assign [.Attribute o attr pos'] value pos :: rest) env) h k Q :=
  wpAny_execs_cons (plainObj_wpAny_Assign_Attribute (y.toWp fun _ _ _ y => y.toWp fun _ _ _ y => y.toWp fun _ _ _ z => z) hs)
theorem gMake {rest : List Value} {kw : List (Str × Value)} {Q : Value → Heap → Nat → Prop} (ns : List Str) (b : Base K mg mb h₀) (w : Led h₀ h l) (mk : MakC K C fI) (hn : ns.Nodup)
    (q : ∀ x dx h', Led h₀ h' ((x, InstP C dx) :: (dx, FrmS 0 (ns.map fun n => (n, none))) :: l) → GoC c (A.under (.builtin "type.__call__" ⟨.ref C :: rest, kw⟩)) (.call (.ref fI) ⟨.ref x :: rest, kw⟩) h' k (fun v h k => v = .none ∧ Q (.ref x) h k)) :
    GoC c A (.call (.ref C) ⟨rest, kw⟩) h k Q := by
  have X := b.kin.keeps w.keep
  refine make_core (makes_of X mk.m) (looks_findIn X mk.i) (fun self => bind_fn X self mk.f) (.inl rfl) ?_
  have w1 := w.alloc emptyDict (P := FrmS 0 (ns.map fun n => (n, none))) rfl ⟨⟨by rw [List.map_map, show ((fun x : Str × Option Value => x.1) ∘ fun n => (n, (none : Option Value))) = id from rfl, List.map_id]; exact hn, #[], 0, rfl, fun e he => by simp at he, fun name => by rw [fm_nones]; rfl⟩, #[], 0, rfl, Nat.le_refl _⟩
  have w2 := w1.alloc (instObj C h.objs.size) (P := InstP C h.objs.size) rfl rfl
  rw [Heap.size_push] at w2
  refine codeAny_mono (q _ _ _ w2) fun r s' z => ?_
  match r, z with
  | .ok (.ret v), ⟨h', k', e, hv, q⟩ => exact ⟨hv, h', k', e, q⟩
theorem gSetA {name : Str} {v : Value} {n : Nat} {Q : Unit → Heap → Nat → Prop} (b : Base K mg mb h₀) (w : Led h₀ h l) (hm : (x, InstP C dx) ∈ l) (sf : SetF name v vs vs') (sw : Sw dx (FrmS n vs) (FrmS (n + 1) vs') l l') (hz : n ≤ 1000) (s : SetC K C name)
    (q : ∀ h' k', Led h₀ h' l' → Q () h' k') : Go c A (setAttr (.ref x) name v) h k Q := by
  have X := b.kin.keeps w.keep
  obtain ⟨o, e, p⟩ := w.get hm
  obtain ⟨od, e', p', hsz⟩ := w.get sw.mem
  unfold InstP at p
  subst p
  have I : InstAt h x ⟨.ref C, some dx, .plain, #[]⟩ C (some od) := ⟨e, rfl, rfl, e'⟩
  refine set_plain X I s.s (osa_open X I s.p s.t fun b => ?_)
  obtain ⟨cd, hc, hd'⟩ := any_some (show (clsIn K C).any (·.hasDict) = true from s.h)
  refine wpAny_bind (wpAny_pure (wpAny_bind (wpAny_bind (wpAny_loadPart e (wpAny_bind ((looks_clsIn X hc).here ?_))))))
  rw [hd']
  refine wpAny_pure (a := some dx) (wpAny_bind (wpAny_pure (wpAny_bind ?_)))
  unfold nsSet
  obtain ⟨es, ep, hd, hz'⟩ := hsz
  obtain ⟨hns, es', ep', he', hsz'⟩ := put_ok (name := name) (v := v) (hs := PyData.keyHash c.w.params name) (tk := k + 1) p'.2 ⟨es, ep, hd, hz'⟩
  refine wpAny_bind (wpAny_bind (wpAny_askSetting (wpAny_pure (wpAny_bind (wpAny_mkText (wpAny_bind (wpAny_loadPart e' ?_)))))))
  rw [hd]
  dsimp only
  have hany : es.any (·.refKey) = false := by
    obtain ⟨es2, ep2, hd2, hk2, _⟩ := p'.2
    rw [hd] at hd2; cases hd2
    rw [Array.any_eq_false']; intro e he; obtain ⟨n, t, h⟩ := hk2 e he; simp [DictEntry.refKey, h]
  rw [aRefKeyMayBeTheName_at, hany, Bool.and_false]
  refine wpAny_updatePart e' ?_
  have g' := Heap.get?_update_self (h := h) (a := dx) (f := Obj.putName name (PyData.keyHash c.w.params name) (.str name (k + 1)) v) e' (Obj.isFreed_of_dict he')
  refine wpAny_bind (wpAny_lookBehind g' (by rw [he']; exact pastItsLine_dict (by rw [sizeLine_eq]; omega)) ?_)
  refine wpAny_pure ⟨_, _, rfl, q _ _ (w.same sw (Heap.SameBut.update ..) ⟨_, g', ⟨sf.keys ▸ p'.1, sf.fm p'.1 ▸ hns⟩, es', ep', he', by omega⟩)⟩
end
end Mine

/-! C7 -/
namespace Mine
theorem fillC7 : PySem.Challenge.rw_bn0041_01 = PySem.Challenge.rw_bn0041_01 ∧ hd.heap_1 = hd.heap_1 := by
  k_fill
  exact ⟨rfl, rfl⟩
theorem mk_entry (c : Cx) : MakC (hd.heap_1 c.w.params) 557 554 := ⟨by k_is, by k_is, by k_is⟩
theorem st_atime (c : Cx) : SetC (hd.heap_1 c.w.params) 557 "atime" := ⟨by k_is, by k_is, by k_is, by k_is⟩
theorem st_expiry (c : Cx) : SetC (hd.heap_1 c.w.params) 557 "expiry" := ⟨by k_is, by k_is, by k_is, by k_is⟩
theorem mdepth {A : Around} {C : Addr} {rest : List Value} {kw : List (Str × Value)} : (A.under (.builtin "type.__call__" ⟨.ref C :: rest, kw⟩)).depth = A.depth + 1 := by rfl
theorem mhandled {A : Around} {C : Addr} {rest : List Value} {kw : List (Str × Value)} : (A.under (.builtin "type.__call__" ⟨.ref C :: rest, kw⟩)).handled = A.handled := by rfl
section
variable {c : Cx} {A : Around} {h₀ h : Heap} {k : Nat} {l l' : List It} {mg mb : Str → Option Value}
theorem gOwnS {name : Str} {v : Value} {expr : Bool} {x dx C : Addr} {vs : Fv} {n : Nat} {K : Frag} {Q : Value → Heap → Nat → Prop} (b : Base K mg mb h₀) (w : Led h₀ h l) (hm : (x, InstP C dx) ∈ l) (hd : (dx, FrmS n vs) ∈ l) (hv : (name, some v) ∈ vs) (a : OwnA K C name) (hh : handedIn v = true)
    (q : ∀ k', Q v h k') : Go c A (getAttr (.ref x) name expr) h k Q := by
  obtain ⟨o, e, p⟩ := w.get hm
  obtain ⟨od, e', f, _⟩ := w.get hd
  unfold InstP at p
  subst p
  obtain ⟨at', ha, hn⟩ := a.a
  exact get_value (b.kin.keeps w.keep) (I := ⟨e, rfl, rfl, e'⟩) (plainGet_of a.g).1 (findObj_own a.h ha hn (by rw [look_of_ns f.2, fm_mem f.1 hv])) hh ⟨_, _, rfl, q _⟩
theorem entry_ {u1 u2 : Tok} {len at_ : Int} {Q : Value → Heap → Nat → Prop} (b : Base (hd.heap_1 c.w.params) mg mb h₀) (w : Led h₀ h l) (hd : A.depth < 860)
    (q : ∀ (e : Ev) h' k', e.at_ = at_ → Led h₀ h' ((e.ea, InstP 557 e.ed) :: (e.ed, EntD e.at_ (e.at_ + len)) :: l) → Q (.ref e.ea) h' k') : GoC c A (.call (.ref 557) ⟨[.int len u1, .int at_ u2], []⟩) h k Q := by
  refine gMake ["atime", "expiry"] b w (mk_entry c) (by decide) fun x dx h w => ?_
  refine gEnterK ["self", "expiry", "atime"] [.ref x, .int len u1, .int at_ u2] b w (by rw [mdepth]; omega) (by k_is) (by k_is) (BindsTo.of_eq rfl) (locs rfl) (by decide) (by decide +kernel) (fun L h k n w => ?_)
  generalize henv : envOf _ _ _ _ _ = env at n ⊢
  have ks : env.kindOf "self" = some .local := by rw [← henv]; rfl
  have ke : env.kindOf "expiry" = some .local := by rw [← henv]; rfl
  have ka : env.kindOf "atime" = some .local := by rw [← henv]; rfl
  refine xSetAttr (nameL w n ka t0 (t2 t0) (nameL w n ks t0 t0 (gSetA b w (t1 t0) .z (s2 s0) (by decide) (st_atime c) fun h k w => ?_)))
  refine xSetAttr (eBin (eAttr (nameL w n ks t0 t0 (gOwnS b w (t1 t0) (t2 t0) t0 (o_atime c) rfl fun k => nameL w n ke t0 (t1 t0) (oAdd fun t k => ?_)))))
  refine nameL w n ks t0 t0 (gSetA b w (t1 t0) (.s .z) (s2 s0) (by decide) (st_expiry c) fun h k w => xNil ?_)
  refine ⟨rfl, ?_⟩
  refine q ⟨x, dx, at_⟩ h k rfl ?_
  exact w.drop.weak (s1 s0) fun o z => ⟨_, _, z.1⟩
end
end Mine

/-! C8 -/
namespace Mine
def FrIn (envs : List Env) (l : List It) : Prop := ∀ env ∈ envs, env.scope.kind ≠ .module ∧ ∃ L vs, env.frame = some L ∧ (L, Frm vs) ∈ l
theorem Frm.data {vs : Fv} {o : Obj} (f : Frm vs o) : ∀ xs, o.data ≠ .fields xs := fun xs e => by
  obtain ⟨es, ep, hd, _⟩ := f.2
  rw [hd] at e; cases e
theorem Frm.slots {vs : Fv} {o : Obj} (f : Frm vs o) (sl) : Frm vs { o with slots := sl } := f
section
variable {c : Cx} {A : Around} {h₀ h h' : Heap} {k : Nat} {l l' : List It} {env : Env} {outer envs : List Env} {L a e : Addr} {K : Frag} {mg mb : Str → Option Value} {pos : Pos}
theorem Led.uniq (w : Led h₀ h l) {a : Addr} {P Q : Obj → Prop} (h1 : (a, P) ∈ l) (h2 : (a, Q) ∈ l) : P = Q := by
  have nd := w.nd
  clear w
  induction l with
  | nil => cases h1
  | cons x r ih =>
    rw [List.map_cons, List.nodup_cons] at nd
    rcases List.mem_cons.mp h1 with e1 | h1 <;> rcases List.mem_cons.mp h2 with e2 | h2
    · rw [← e1] at e2; exact (Prod.mk.inj e2).2.symm
    · exact absurd (List.mem_map.mpr ⟨_, h2, by rw [← e1]⟩) nd.1
    · exact absurd (List.mem_map.mpr ⟨_, h1, by rw [← e2]⟩) nd.1
    · exact ih h1 h2 nd.2
theorem FrIn.key (F : FrIn envs l) {b : Addr} (hb : b ∈ envs.filterMap (·.frame)) : ∃ vs, (b, Frm vs) ∈ l := by
  obtain ⟨env, he, hf⟩ := List.mem_filterMap.mp hb
  obtain ⟨_, L, vs, hL, hm⟩ := F env he
  rw [hL] at hf; cases hf
  exact ⟨vs, hm⟩
theorem Led.slots (w : Led h₀ h l) (F : FrIn envs l) (hk : ∀ b o, b ∉ envs.filterMap (·.frame) → h.get? b = some o → h'.get? b = some o) (hs : h.UpToSlots h') : Led h₀ h' l := by
  refine ⟨fun b o e => hk b o (fun hb => ?_) (w.keep b o e), w.nd, fun p hp => ⟨(w.has p hp).1, ?_⟩, w.low⟩
  · obtain ⟨vs, hm⟩ := F.key hb
    rw [show h₀.get? b = none from (w.has _ hm).1.1] at e; cases e
  · obtain ⟨o, e, q⟩ := (w.has p hp).2
    by_cases hb : p.1 ∈ envs.filterMap (·.frame)
    · obtain ⟨vs, hm⟩ := F.key hb
      obtain ⟨a, P⟩ := p
      obtain rfl := w.uniq hm hp
      obtain ⟨sl, e'⟩ := hs _ o e (Frm.data q)
      exact ⟨_, e', Frm.slots q sl⟩
    · exact ⟨o, hk _ _ hb e, q⟩
theorem FrIn.fun (w : Led h₀ h l) (F : FrIn envs l) {h1 : Heap} (hk : ∀ b o, h.get? b = some o → h1.get? b = some o) : ∀ {es : List Env}, (∀ e ∈ es, e ∈ envs) → h1.FunFrames (hideAll h (envs.filterMap (·.frame))) es
  | [], _ => trivial
  | env :: r, hs => by
    obtain ⟨k1, L, vs, hL, hm⟩ := F env (hs _ (.head _))
    obtain ⟨o, e, f⟩ := w.get hm
    exact ⟨k1, ⟨L, o, hL, hideAll_none _ (List.mem_filterMap.mpr ⟨env, hs _ (.head _), hL⟩), hk _ _ e, Frm.data f⟩, FrIn.fun w F hk fun e he => hs e (.tail _ he)⟩

theorem gCatch {X : String} {h1 : Heap} {k1 : Nat} {np : Pos} {b₀ : Stmt} {suite : List Stmt} {hp : Pos} {rest : List ExceptHandler} {nm : Str} {Q : Flow → Heap → Nat → Prop} (b : Base K mg mb h₀) (n : EnvOk env L) (hfr : A.frames = some (env :: outer)) (hL : env.frame = some L)
    (w : Led h₀ h l) (F : FrIn (env :: outer) l) (hx : Heap.NewExc h h1 e X) (hsub : isSubtype (.type X) (.type X) = pure true) (hexc : isSubtype (.type X) (.type "BaseException") = pure true)
    (hnt : isSubtype (.type ((Manifest.find? X).elim "type" fun x => x.metatype)) (.type "tuple") = pure false)
    (hk : env.kindOf nm = some .globalImplicit) (hno : nsIn K mainGlobals nm = some none) (hv : bootBuiltins nm = some (.type X)) (hnn : nm ≠ "__name__") (hdb : (nm == ("__debug__" : Str)) = false)
    (q : ∀ h', Led h₀ h' l → Go c (A.mark (some (.ref e))) (execs (b₀ :: suite) env) h' k1 Q) :
    wpAny c.m A (noteFrame (.ref e) env) (fun _ s₂ => wpAny c.m A (setFlight (.ref e) none) (fun _ s₃ => wpAny c.m A (handleBy (.ref e) env (.ExceptHandler (some (.Name nm np)) none (b₀ :: suite) hp :: rest))
      (fun f s' => ∃ h' k', s' = c.s h' k' ∧ Q f h' k') (fun _ _ => False) s₃) (fun _ _ => False) s₂) (fun _ _ => False) (c.s h1 k1) := by
  obtain ⟨ob, tp, he, hcls, hd⟩ := hx.there
  have hkeep : ∀ b o, h.get? b = some o → h1.get? b = some o := hx.keeps
  unfold noteFrame
  simp only [hL]
  refine wpAny_bind (wpAny_field he hd (x := .none) rfl ?_)
  rw [if_neg (by decide)]
  refine wpAny_entryW (a0 := tp) (base := hideAll h ((env :: outer).filterMap (·.frame))) hfr (F.fun w hkeep fun _ z => z) hL he (fun b o eb => hkeep b o (of_hideAll _ eb)) ?_ hd (by show 1 < 6; decide) rfl fun h' hN => ?_
  · cases q : (hideAll h ((env :: outer).filterMap (·.frame))).get? e with
    | none => rfl
    | some o => have := of_hideAll _ q; rw [hx.new] at this; cases this
  have up1 : h.UpToSlots h1 := fun b o e _ => ⟨o.slots, hkeep b o e⟩
  have hen : (hideAll h ((env :: outer).filterMap (·.frame))).get? e = none := by
    cases q : (hideAll h ((env :: outer).filterMap (·.frame))).get? e with
    | none => rfl
    | some o => have := of_hideAll _ q; rw [hx.new] at this; cases this
  obtain ⟨n1, n2, n3, n4⟩ := hN
  refine wpAny_landsW ⟨n1, hen, n2, n3⟩ fun h'' hF hu => ?_
  have w2 : Led h₀ h'' l := w.slots F (fun b o hb e => hF.1 b o (hideAll_get _ e hb)) ((up1.trans n4).trans hu)
  have hT : (c.s h'' k1).TypeIs (.ref e) X := by
    obtain ⟨oe, e1, e2⟩ := hF.there
    exact ⟨oe, e1, e2.trans hcls⟩
  refine wpAny_handleBy_builtin (X := X) (T := X) (b := true) hexc hnt hsub (Go.toWp (Q := fun v h k => v = .type X ∧ h = h'' ∧ k = k1) (nameB b w2 n hk hno hv hnn ⟨rfl, rfl, rfl⟩ hdb) fun v hh kk z => ?_)
  obtain ⟨rfl, rfl, rfl⟩ := z
  refine ⟨rfl, hT, ?_⟩
  rw [if_pos rfl]
  refine lands_againW hF fun h3 hF3 hu3 => ?_
  have w3 : Led h₀ h3 l := w.slots F (fun b o hb e => hF3.1 b o (hideAll_get _ e hb)) (((up1.trans n4).trans hu).trans hu3)
  exact Go.toWp (q h3 w3) fun f h' k' z => ⟨h', k', rfl, z⟩
end
end Mine

/-! C9 -/
namespace Mine
section
variable {c : Cx} {A : Around} {h₀ h h' : Heap} {k : Nat} {l l' : List It} {env : Env} {L a e : Addr} {K : Frag} {mg mb : Str → Option Value} {pos : Pos} {vs ws : List Value} {x dx C : Addr}
theorem xExprA {e : PySem.Expr} {rest : List Stmt} {Q : Flow → Heap → Nat → Prop} (n : env.scope.kind = .function) (y : Go c A (eval e env) h k fun v h k => Go c A (execs rest env) h k Q)
    (hs : swapsWith e none pos.line env = pure false := by rfl) : Go c A (execs (.Expr e pos :: rest) env) h k Q :=
  wpAny_execs_cons (wpAny_Expr_any (y.toWp fun v h' k' z => z) (by unfold interactive; rw [n]; rfl) hs)
theorem tInst {Q : Bool → Heap → Nat → Prop} {P : Obj → Prop} (b : Base K mg mb h₀) (w : Led h₀ h l) (hm : (x, InstP C dx) ∈ l) (hd : (dx, P) ∈ l) (hs : findIn K (.ref C) "__bool__" = some none) (hl : findIn K (.ref C) "__len__" = some none) (q : Q true h k) : Go c A (truthy (.ref x)) h k Q := by
  have X := b.kin.keeps w.keep
  obtain ⟨o, e, p⟩ := w.get hm
  obtain ⟨od, e', _⟩ := w.get hd
  unfold InstP at p
  subst p
  have I : InstAt h x ⟨.ref C, some dx, .plain, #[]⟩ C (some od) := ⟨e, rfl, rfl, e'⟩
  unfold truthy
  refine wpAny_bind (m := callSpecial? (.ref x) (Str.ofString "__bool__")) (wpAny_bind (wpAny_bind (I.type.here ((looks_findIn X hs).here (wpAny_pure ?_)))))
  refine wpAny_bind (wpAny_bind (I.type.here ((looks_findIn X hl).here ?_)))
  exact wpAny_pure ⟨_, _, rfl, q⟩
theorem tNone {Q : Bool → Heap → Nat → Prop} (q : Q false h k) : Go c A (truthy .none) h k Q := by
  first | exact wpAny_truthy_none ⟨_, _, rfl, q⟩ | exact Go.pure q
theorem dSetDefault {d : Addr} {KEY : Str} {P : Option (Value → Prop)} {p : Value → Prop} {t : Tok} {v : Value} {Q : Value → Heap → Nat → Prop} (w : Led h₀ h l) (hp : p v) (sw : Sw d (DictP c.w KEY P) (DictP c.w KEY (some p)) l l')
    (qs : ∀ p v', P = some p → p v' → ∀ k', Q v' h k') (qn : P = none → ∀ h' k', Led h₀ h' l' → Q v h' k') : Go c A (call (.builtin "dict.setdefault") [.ref d, .str KEY t, v]) h k Q := by
  obtain ⟨o, e, hc, hd, x⟩ := DictP.type w sw.mem
  refine gCallB PySem.F.slot_dict_setdefault ⟨o, e, hc⟩ PySem.F.entry_dict_setdefault (PySem.F.args_dict_setdefault_3 _ _ _) ?_
  unfold Builtin.«dict.setdefault»
  refine Go.bind ?_
  unfold Builtin.Dict.keyAndDefault
  refine Go.bind (wpAny_notOrdered_dict (⟨o, e, hc⟩ : (c.s h k).TypeIs (.ref d) "dict") ⟨_, _, rfl, ?_⟩)
  show Go c A.in1 (pure (d, Value.str KEY t, some v)) h k _
  refine Go.pure ?_
  dsimp only
  rw [w.noSys sw.mem, if_neg Bool.false_ne_true]
  refine Go.bind (gSetDefault e x (fun p v' z hv k' => Go.pure ⟨_, rfl, qs p v' z hv k'⟩) fun z h' k' hs ho' => Go.pure ⟨_, rfl, qn z h' k' (w.same sw hs ?_)⟩)
  obtain ⟨o', e', c', d', y⟩ := ho'
  exact ⟨o', e', c'.trans hc, d' (fun a b => a = none ∧ b = #[]) hd, y.to hp⟩
theorem mulRaw {prog : Program} {w : World} {A : Around} {E : Value → Shared → Prop} {s : Shared} {l : Addr} {its : Array Value} {k : Nat} {x : Int} {u : Tok} {Q : Value → Shared → Prop}
    (ho : s.heap.get? l = some { cls := .type "list", dict := none, data := .seq its k, slots := #[] }) (hlo : -(2 ^ 63 : Int) ≤ x) (hhi : x < 2 ^ 63) (hsz : its.size * x.toNat ≤ 2 ^ 24)
    (h : Q (.ref s.heap.objs.size) { s with heap := s.heap.push { cls := .type "list", data := .seq (List.replicate x.toNat its.toList).flatten.toArray } }) :
    wpAny (model prog w) A (binaryOp .Mult (.ref l) (.int x u)) Q E s := by
  refine wpAny_binaryOp_repeat_ref (T := "list") (U := "int") (by decide) ⟨_, ho, rfl⟩ (fun s' => typeIs_int s' x u) noFill_list_mul PySem.F.fills_int_mul PySem.F.slot_int_rmul repeat_list PySem.F.slot_int_index.lookup
    (call_meets PySem.F.slot_int_rmul (typeIs_int s x u) PySem.F.entry_int_rmul (PySem.F.args_int_rmul_2 _ _) (lm_int_rmul_list_any x u l its k none #[])
      ⟨ho, rfl, ⟨_, ho, rfl⟩, call_meets PySem.F.slot_list_mul ⟨_, ho, rfl⟩ PySem.F.entry_list_mul (PySem.F.args_list_mul_2 _ _)
        (lm_list_mul_any l its k none #[] x u (by simp [Builtin.List.listFitsIndex]; omega) (by omega) (by simp [Builtin.List.listTooLong, sizeLine]; omega))
        ⟨ho, ?_⟩⟩)
  rw [listMul_foldl_if]; exact h
theorem oMulL {n : Int} {t : Tok} {Q : Value → Heap → Nat → Prop} (w : Led h₀ h l) (hm : (a, LstV vs) ∈ l) (h0 : 0 ≤ n) (hn : n < 2 ^ 63) (hsz : vs.length * n.toNat ≤ 2 ^ 24) (q : ∀ T h', Led h₀ h' ((T, LstV (List.replicate n.toNat vs).flatten) :: l) → Q (.ref T) h' k) :
    Go c A (binaryOp .Mult (.ref a) (.int n t)) h k Q := by
  obtain ⟨o, e, m, rfl⟩ := w.get hm
  exact mulRaw (s := c.s h k) e (by omega) hn (by rw [List.size_toArray]; exact hsz) ⟨_, _, rfl, q _ _ (w.alloc _ rfl ⟨0, by simp⟩)⟩

theorem setSlRaw {prog : Program} {w : World} {A : Around} {E : Value → Shared → Prop} {s : Shared} {l sl b : Addr} {its new : Array Value} {k k2 : Nat} {vl vu vs : Value} {Q : Unit → Shared → Prop}
    (ho : s.heap.get? l = some { cls := .type "list", dict := none, data := .seq its k, slots := #[] }) (hb : s.heap.get? b = some { cls := .type "list", dict := none, data := .seq new k2, slots := #[] }) (hne : l ≠ b)
    (hs : s.heap.IsSliceOf sl vl vu vs) (pl : IsPart vl none) (pu : IsPart vu (some 0)) (ps : IsPart vs none) (hsz : its.size + new.size ≤ 2 ^ 24)
    (h : ∀ h', Heap.SameBut l s.heap h' → (∃ n, h'.get? l = some { cls := .type "list", dict := none, data := .seq (new ++ its) n, slots := #[] }) → Q () { s with heap := h' }) :
    wpAny (model prog w) A (setItem (.ref l) (.ref sl) (.ref b)) Q E s := by
  obtain ⟨os, hos, hcs, hds⟩ := id hs
  have hl : s.heap.IsList l its := ⟨_, ho, rfl, _, rfl⟩
  have hTs : s.TypeIs (.ref sl) "slice" := ⟨os, hos, hcs⟩
  unfold setItem
  try with_reducible refine wpAny_holding ?_
  first | refine wpAny_bind (wpAny_pure ?_) | skip
  refine wpAny_bind (wpAny_sequenceKey hl.typeIs (by decide) ?_)
  refine wpAny_bind (wpAny_callSpecial?_slot (name := Str.ofString "__setitem__") hl.typeIs slot_list_setitem
    (wpAny_call_entry slot_list_setitem hl.typeIs entry_list_setitem ?_ (args_list_setitem _ _ _)))
  show wpAny _ _ (Builtin.List.listSubscript? (.ref sl) >>= _) _ _ s
  refine wpAny_bind ?_
  unfold Builtin.List.listSubscript?
  refine wpAny_bind (wpAny_specialOf hTs slice_no_index ?_)
  simp only [Option.isNone_none, if_true]
  refine wpAny_pure ?_
  show wpAny _ _ (typeOf (.ref sl) >>= _) _ _ s
  refine wpAny_bind (wpAny_typeOf hTs ?_)
  rw [if_neg (by decide)]
  rw [listSliceParts_eq]
  refine wpAny_bind (wpAny_bind (wpAny_field hos hds (x := vs) rfl (wpAny_bind (wpAny_listPart ps ?_))))
  rw [if_neg (by decide)]
  refine wpAny_bind (wpAny_field hos hds (x := vl) rfl (wpAny_bind (wpAny_listPart pl ?_)))
  refine wpAny_bind (wpAny_field hos hds (x := vu) rfl (wpAny_bind (wpAny_listPart pu (wpAny_pure ?_))))
  have hsame : Builtin.List.listSameRef (.ref l) (.ref b) = false := by
    show (l == b) = false
    simpa using hne
  dsimp only
  rw [hsame]
  simp only [Bool.false_eq_true, if_false]
  refine wpAny_bind (m := Builtin.List.listAllItems (.ref b) "must assign iterable to extended slice") ?_
  unfold Builtin.List.listAllItems
  refine wpAny_bind (wpAny_typeOf (T := "list") ⟨_, hb, rfl⟩ ?_)
  rw [if_pos (by decide)]
  unfold Builtin.List.listItems
  refine wpAny_bind (wpAny_seqItems hb rfl (wpAny_pure ?_))
  refine wpAny_bind (wpAny_bind (wpAny_seqItems ho rfl (wpAny_pure ?_)))
  refine wpAny_bind (wpAny_of_eq (sliceIndices_raw none (some 0) none its.size (by simp)) ?_)
  have hb3 : sliceBounds none (some 0) none its.size = (0, 0, 1) := by
    have : max (0 : Int) (min 0 (its.size : Int)) = 0 := by omega
    simp [sliceBounds, this]
  rw [hb3]
  dsimp only
  rw [if_pos (by decide)]
  refine wpAny_bind (wpAny_rule ?_)
  rw [if_neg (by simp [Builtin.List.listTooLong, sizeLine]; omega)]
  have hz : its.size ≤ sizeLine := by rw [sizeLine_eq]; omega
  have hf : (its.extract 0 (0 : Int).toNat ++ new ++ its.extract (max (0 : Int) 0).toNat its.size) = new ++ its := by simp
  refine wpAny_bind (m := updateSeq l _) (wpAny_updateSeq (f := fun xs => xs.extract 0 (0 : Int).toNat ++ new ++ xs.extract (max (0 : Int) 0).toNat xs.size) ho rfl ?_ hz (by show (its.extract 0 (0 : Int).toNat ++ new ++ its.extract (max (0 : Int) 0).toNat its.size).size ≤ _; rw [hf, Array.size_append, sizeLine_eq]; omega))
  refine wpAny_bind (wpAny_letGo ?_)
  refine wpAny_pure ⟨.none, rfl, wpAny_pure ?_⟩
  refine h _ (Heap.SameBut.update ..) ?_
  have e1 : Obj.mapSeq (fun xs => xs.extract 0 (0 : Int).toNat ++ new ++ xs.extract (max (0 : Int) 0).toNat xs.size) { cls := .type "list", dict := none, data := .seq its k, slots := #[] } = { cls := .type "list", dict := none, data := .seq (new ++ its) (if (new ++ its).size == its.size then k else k + 1), slots := #[] } := by
    show ({ cls := .type "list", dict := none, data := .seq (its.extract 0 (0 : Int).toNat ++ new ++ its.extract (max (0 : Int) 0).toNat its.size) (if (its.extract 0 (0 : Int).toNat ++ new ++ its.extract (max (0 : Int) 0).toNat its.size).size == its.size then k else k + 1), slots := #[] } : Obj) = _
    rw [hf]
  exact ⟨_, (Heap.get?_update_self _ ho (by rw [e1]; rfl)).trans (by rw [e1])⟩
theorem gSetSl {sl : Addr} {vl vu vs' : Value} {Q : Unit → Heap → Nat → Prop} (w : Led h₀ h l) (sw : Sw a (LstV vs) (LstV (ws ++ vs)) l l') (hb : (e, LstV ws) ∈ l) (hne : a ≠ e) (hs : h.IsSliceOf sl vl vu vs') (pl : IsPart vl none) (pu : IsPart vu (some 0)) (ps : IsPart vs' none) (hsz : vs.length + ws.length ≤ 2 ^ 24)
    (q : ∀ h', Led h₀ h' l' → Q () h' k) : Go c A (setItem (.ref a) (.ref sl) (.ref e)) h k Q := by
  obtain ⟨o, e1, m1, rfl⟩ := w.get sw.mem
  obtain ⟨o2, e2, m2, rfl⟩ := w.get hb
  refine setSlRaw (s := c.s h k) e1 e2 hne hs pl pu ps (by rw [List.size_toArray, List.size_toArray]; exact hsz) fun h' hs' hg => ?_
  obtain ⟨n, hg⟩ := hg
  exact ⟨h', k, rfl, q h' (w.same sw hs' ⟨_, hg, n, by simp⟩)⟩
theorem eSlice {lower upper : Option PySem.Expr} {p : Pos} {Q : Value → Heap → Nat → Prop}
    (x : Go c A (evalPart lower env) h k fun vl h k => Go c A (evalPart upper env) h k fun vu h k => ∃ l, Led h₀ h l ∧ ∀ sl h', h'.IsSliceOf sl vl vu .none → Led h₀ h' l → Q (.ref sl) h' k) : Go c A (eval (.Slice lower upper none p) env) h k Q := by
  refine wpAny_Slice (x.toWp fun vl h k y => y.toWp fun vu h k z => ?_)
  obtain ⟨l, w, q⟩ := z
  exact wpAny_pure ⟨_, _, rfl, q _ _ (Heap.IsSliceOf.new ..) (w.grow fun b o e => Heap.get?_push_of_some _ e)⟩
theorem pNone {Q : Value → Heap → Nat → Prop} (q : Q .none h k) : Go c A (evalPart none env) h k Q := Go.pure q
theorem pSome {e : PySem.Expr} {Q : Value → Heap → Nat → Prop} (x : Go c A (eval e env) h k Q) : Go c A (evalPart (some e) env) h k Q := x
end
end Mine

/-! D1 -/
namespace Mine
theorem fillD1 : PySem.Challenge.rw_bn0041_01 = PySem.Challenge.rw_bn0041_01 ∧ hd.heap_1 = hd.heap_1 := by
  k_fill
  exact ⟨rfl, rfl⟩
section
variable {c : Cx} {A : Around} {h₀ h : Heap} {k : Nat} {l l' : List It} {mg mb : Str → Option Value}
theorem xTry {env : Env} {body : List Stmt} {h0 : ExceptHandler} {hs : List ExceptHandler} {pos : Pos} {rest : List Stmt} {Q : Flow → Heap → Nat → Prop}
    (x : wpAny c.m A (execs body env) (fun f s₁ => ∃ h k, s₁ = c.s h k ∧ match f with | .next => Go c A (execs rest env) h k Q | f => Q f h k)
      (fun e s₁ => wpAny c.m A (noteFrame e env) (fun _ s₂ => wpAny c.m A (setFlight e none) (fun _ s₃ => wpAny c.m A (handleBy e env (h0 :: hs))
        (fun f s' => ∃ h k, s' = c.s h k ∧ match f with | .next => Go c A (execs rest env) h k Q | f => Q f h k) (fun _ _ => False) s₃) (fun _ _ => False) s₂) (fun _ _ => False) s₁) (c.s h k)) :
    Go c A (execs (.Try body (h0 :: hs) [] [] pos :: rest) env) h k Q := by
  refine xCons (Q := Q) ?_
  refine wpAny_Try_except (wpAny_mono x (fun f s₁ z => ?_) fun _ _ z => ?_)
  · obtain ⟨h, k, rfl, z⟩ := z
    cases f with
    | next => exact wpAny_execs_nil ⟨h, k, rfl, z⟩
    | ret v => exact ⟨h, k, rfl, z⟩
    | brk => exact ⟨h, k, rfl, z⟩
    | cont => exact ⟨h, k, rfl, z⟩
  · refine wpAny_mono z (fun _ _ z => wpAny_mono z (fun _ _ z => wpAny_mono z (fun f s' z => ?_) fun _ _ z => z) fun _ _ z => z) fun _ _ z => z
    obtain ⟨h, k, rfl, z⟩ := z
    exact ⟨h, k, rfl, z⟩
theorem xTryIdx {env : Env} {L : Addr} {outer : List Env} {K : Frag} {x : Str} {o i : PySem.Expr} {px px2 sp ap ap2 np cp hp pos : Pos} {kd : Nat} {rest : List Stmt} {Q : Flow → Heap → Nat → Prop} (b : Base K mg mb h₀) (n : EnvOk env L) (hA : A.handled = none) (hfr : A.frames = some (env :: outer)) (hL : env.frame = some L)
    (hk : env.kindOf "IndexError" = some .globalImplicit) (hno : nsIn K mainGlobals "IndexError" = some none)
    (y : Go c A (eval o env) h k fun ov h k => Go c A (eval i env) h k fun iv h k => ∃ a vs j t l, ov = .ref a ∧ iv = .int j t ∧ Led h₀ h l ∧ (a, LstV vs) ∈ l ∧ 0 ≤ j ∧ j < 2 ^ 62 ∧ vs.length < 2 ^ 62 ∧ FrIn (env :: outer) l ∧
      (∀ v, vs[j.toNat]? = some v → ∀ h k, Led h₀ h l → Go c A (storeName env x v) h k fun _ h k => Go c A (execs rest env) h k Q) ∧
      (vs[j.toNat]? = none → ∀ e h k, Led h₀ h l → Go c (A.mark (some e)) (storeName env x .none) h k fun _ h k => Go c A (execs rest env) h k Q))
    (hs : swapsWith (.Subscript o i sp) (some (.Name x px)) ap.line env = pure false := by rfl) (hs2 : swapsWith (.Constant .none kd cp) (some (.Name x px2)) ap2.line env = pure false := by rfl)
    (hsub : ∀ a j t, subscripted i false (.ref a) (.int j t) = operate [.ref a, .int j t] (getItem (.ref a) (.int j t)) := by intros; with_unfolding_all rfl) :
    Go c A (execs (.Try [.Assign [.Name x px] (.Subscript o i sp) ap] [.ExceptHandler (some (.Name "IndexError" np)) none [.Assign [.Name x px2] (.Constant .none kd cp) ap2] hp] [] [] pos :: rest) env) h k Q := by
  refine xTry (wpAny_execs_cons (wpAny_Assign_Name (Subscript_ (y.toWp fun ov h k y => y.toWp fun iv h k y => ?_)) hs))
  obtain ⟨a, vs, j, t, l, rfl, rfl, w, hm, h0, h1, hvl, F, q1, q2⟩ := y
  have hl := LstV.is w hm
  cases hv : vs[j.toNat]? with
  | some v =>
    refine Go.toWp (Q := fun r h k => r = v ∧ Led h₀ h l) (subL w hm hvl (.inl ⟨h0, hv⟩) ⟨rfl, w⟩ (hsub _ _ _)) fun r h k z => ?_
    obtain ⟨rfl, w⟩ := z
    exact (q1 r hv h k w).toWp fun _ h k z => wpAny_execs_nil ⟨h, k, rfl, z⟩
  | none =>
    have hout : (vs.length : Int) ≤ j := by
      have := List.getElem?_eq_none_iff.mp hv
      omega
    refine tail_any (s := c.s h k) hl.typeIs PySem.F.slot_list_getitem.lookup (wpAny_getItem_list_out hA hl (.inr (by rw [List.size_toArray]; exact hout)) (by omega) (by omega) fun h' tk e hx => ?_) (hsub _ _ _)
    refine gCatch (Q := fun f h k => match f with | .next => Go c A (execs rest env) h k Q | f => Q f h k) b n hfr hL w F hx PySem.F.self_IndexError PySem.F.isExc_IndexError PySem.F.notTuple_IndexError hk hno (by decide +kernel) (by decide) (by decide) fun h' w => ?_
    exact xAssign (eNone ((q2 hv (.ref e) h' tk w).mono fun _ h k z => xNil z)) hs2
theorem sd_ {ad : Ad} {st : St} {tk : Tok} {D : Addr} {Q : Value → Heap → Nat → Prop} (w : Led h₀ h ((D, LstV []) :: (core c.w ad st ++ l))) (q : ∀ v ea h' k', W c h₀ ad h' { st with ev := some (ea, esOf st) } l → Q v h' k') :
    Go c A (call (.builtin "dict.setdefault") [.ref ad.E, .str ad.KEY tk, .ref D]) h k Q := by
  cases hev : st.ev with
  | none =>
    have he : esOf st = [] := by unfold esOf; rw [hev]; rfl
    rw [he] at q
    refine dSetDefault (P := st.ev.map fun p v => v = .ref p.1) (p := fun v => v = .ref D) (l' := (D, LstV []) :: ((coreF c.w ad { st with ev := some (D, []) } ++ coreT ad st) ++ l)) w rfl (.s (Sw.appR (Sw.appR (s11 s0) _) _)) (fun p v e _ => by rw [hev] at e; cases e) fun _ h' k' w => q _ D h' k' ?_
    refine w.perm ?_
    have e2 : coreT ad { st with ev := some (D, []) } = lamOf st ++ (D, LstV []) :: entsOf (60 * ad.mul) st.ents := rfl
    have e3 : coreT ad st = lamOf st ++ entsOf (60 * ad.mul) st.ents := by unfold coreT; rw [hev]; rfl
    show ((D, LstV []) :: (coreF c.w ad _ ++ coreT ad st ++ l)).Perm (coreF c.w ad { st with ev := some (D, []) } ++ coreT ad { st with ev := some (D, []) } ++ l)
    rw [e2, e3, List.append_assoc, List.append_assoc, List.append_assoc, List.append_assoc, List.cons_append]
    exact (List.perm_middle.symm).trans (List.Perm.append_left _ List.perm_middle.symm)
  | some p =>
    obtain ⟨ea, es⟩ := p
    have he : esOf st = es := by unfold esOf; rw [hev]; rfl
    rw [he] at q
    have e4 : { st with ev := some (ea, es) } = st := by
      obtain ⟨m, s, cnt, exp, ev, ents, l1, l2⟩ := st
      dsimp only at hev
      subst hev; rfl
    refine dSetDefault (P := st.ev.map fun p v => v = .ref p.1) (p := fun _ => True) w trivial (.s (s11 s0)) (fun p v e hv k' => q _ ea h k' ?_) fun e => ?_
    · rw [e4]; exact w.drop
    · rw [hev] at e; cases e
theorem perm2 {x y : It} {P Q : List It} : (x :: y :: (P ++ Q)).Perm (P ++ x :: y :: Q) := (List.Perm.cons x List.perm_middle.symm).trans List.perm_middle.symm
theorem accW {ad : Ad} {st : St} {ea : Addr} {es : List Ev} {e : Ev} {n : Nat} {len : Int} {x y z : It} (hlen : len = 60 * ad.mul)
    (w : Led h₀ h (x :: y :: (e.ea, InstP 557 e.ed) :: (e.ed, EntD e.at_ (e.at_ + len)) :: ((coreF c.w ad st ++ (lamOf st ++ ((ea, LstV ((List.replicate n [Value.ref e.ea]).flatten ++ es.map fun e => Value.ref e.ea)) :: entsOf (60 * ad.mul) st.ents))) ++ z :: l))) (hev : st.ev = some (ea, es)) :
    W c h₀ ad h { st with ev := some (ea, List.replicate n e ++ es), ents := e :: st.ents } l := by
  have w := w.drop.drop
  have e1 : coreF c.w ad { st with ev := some (ea, List.replicate n e ++ es), ents := e :: st.ents } = coreF c.w ad st := by unfold coreF; rw [hev]; rfl
  have e2 : (List.replicate n [Value.ref e.ea]).flatten ++ (es.map fun e => Value.ref e.ea) = (List.replicate n e ++ es).map fun e => Value.ref e.ea := by simp
  rw [e2] at w
  have w := w.sub (((List.Sublist.refl (coreF c.w ad st ++ (lamOf st ++ ((ea, LstV ((List.replicate n e ++ es).map fun e => Value.ref e.ea)) :: entsOf (60 * ad.mul) st.ents)))).append (List.sublist_cons_self z l)).cons_cons _ |>.cons_cons _)
  refine w.perm ?_
  show List.Perm _ (coreF c.w ad { st with ev := some (ea, List.replicate n e ++ es), ents := e :: st.ents } ++ (lamOf st ++ ((ea, LstV ((List.replicate n e ++ es).map fun e => Value.ref e.ea)) :: (e.ea, InstP 557 e.ed) :: (e.ed, EntD e.at_ (e.at_ + 60 * ad.mul)) :: entsOf (60 * ad.mul) st.ents)) ++ l)
  rw [e1, hlen]
  have := perm2 (x := (e.ea, InstP 557 e.ed)) (y := (e.ed, EntD e.at_ (e.at_ + 60 * ad.mul))) (P := coreF c.w ad st ++ (lamOf st ++ [(ea, LstV ((List.replicate n e ++ es).map fun e => Value.ref e.ea))])) (Q := entsOf (60 * ad.mul) st.ents ++ l)
  simp only [List.append_assoc, List.cons_append, List.nil_append] at this ⊢
  exact this
theorem acq_ {ad : Ad} {st : St} {tk u1 u2 u3 : Tok} {lim len a : Int} {outer : List Env} {Q : Value → Heap → Nat → Prop} (b : Base (hd.heap_1 c.w.params) mg mb h₀) (w : W c h₀ ad h st l) (hd : A.depth < 850) (hA : A.handled = none) (hfr : A.frames = some outer) (F : FrIn outer l)
    (ok : EvOk st) (hlen : len = 60 * ad.mul) (ha : 1 ≤ a) (hlim : lim ≤ 1000) (hes : (esOf st).length ≤ 1000000)
    (q1 : lim < a → ∀ h' k', W c h₀ ad h' st l → Q (.bool false) h' k')
    (q2 : a ≤ lim → ∀ e ea h' k', (esOf st)[(lim - a).toNat]? = some e → st.m + st.s - len ≤ e.at_ → W c h₀ ad h' { stTick st with ev := some (ea, esOf st) } l → Q (.bool false) h' k')
    (q3 : a ≤ lim → (∀ e, (esOf st)[(lim - a).toNat]? = some e → e.at_ < st.m + st.s - len) → ∀ (e : Ev) ea h' k', e.at_ = st.m + st.s + st.s → W c h₀ ad h' { stTick (stTick st) with ev := some (ea, List.replicate a.toNat e ++ esOf st), ents := e :: st.ents } l → Q (.bool true) h' k') :
    GoC c A (.call (.ref 857) ⟨[.ref ad.st, .str ad.KEY tk, .int lim u1, .int len u2], [("amount", .int a u3)]⟩) h k Q := by
  refine gEnterK ["self", "key", "limit", "expiry", "amount", "timestamp", "entry"] [.ref ad.st, .str ad.KEY tk, .int lim u1, .int len u2, .int a u3] b w (Nat.lt_trans hd (by decide)) (by k_is) (by k_is) (binds_K (b.kin.keeps w.keep) rfl (by k_is) rfl rfl rfl) (locs rfl) (by decide) (by decide +kernel) (fun L h k n w => ?_)
  have hfr' : ∀ env, (A.deeper env).frames = some (env :: outer) := fun env => Around.frames_deeper hfr
  generalize henv : envOf _ _ _ _ _ = env at n ⊢
  have hfL : env.frame = some L := by rw [← henv]; rfl
  have ks : env.kindOf "self" = some .local := by rw [← henv]; rfl
  have kk : env.kindOf "key" = some .local := by rw [← henv]; rfl
  have kl : env.kindOf "limit" = some .local := by rw [← henv]; rfl
  have ke : env.kindOf "expiry" = some .local := by rw [← henv]; rfl
  have ka : env.kindOf "amount" = some .local := by rw [← henv]; rfl
  have kt : env.kindOf "timestamp" = some .local := by rw [← henv]; rfl
  have kn : env.kindOf "entry" = some .local := by rw [← henv]; rfl
  have kE : env.kindOf "Entry" = some .globalImplicit := by rw [← henv]; rfl
  have kI : env.kindOf "IndexError" = some .globalImplicit := by rw [← henv]; rfl
  have w := w.mid
  refine xDoc n.k fun k => xIf (iCmp (nameL w n ka fr0 (t4 t0) (nameL w n kl fr0 (t2 t0) (oGt (tBool (if_dec (fun hgt => ?_) fun hle => ?_))))))
  · exact xRet (eBool (q1 (by omega) _ _ w.unmid.drop))
  refine xNil (xExprA n.k ?_)
  refine eCallM (eAttr (nameL w n ks fr0 t0 (gOwn b w (t6 t0) (t7 t0) (t3 t0) (o_events c) rfl fun k => ?_)))
  refine mDict w (t11 t0) PySem.F.slot_dict_setdefault PySem.F.type_dict_setdefault ?_
  refine cwB (aCons (nameL w n kk fr0 (t1 t0) (aCons (eLst0 w fun D h w => aNil ?_))))
  refine sd_ w fun v ea h k w => ?_
  refine xAssign (clockE b w n (by show A.depth + 1 < 900; omega) ks t0 fun h k ts w => ?_)
  refine storeL w n kt (.s (.s (.s (.s (.s .z))))) (Sw.appL .z _) fun h k w => ?_
  refine xTryIdx b n (by show A.handled = none; exact hA) (hfr' env) hfL kI (by k_is) ?_
  refine eSub (eAttr (nameL w n ks fr0 t0 (gOwn b w (t6 t0) (t7 t0) (t3 t0) (o_events c) rfl fun k => nameL w n kk fr0 (t1 t0) (subD (p := fun v => v = .ref ea) w (t11 t0) fun v k hv => ?_))))
  refine eBin (nameL w n kl fr0 (t2 t0) (nameL w n ka fr0 (t4 t0) (oSub fun t k => ?_)))
  have me := fun F => (List.mem_append_left ((L, F) :: l) (ev_mem (c := c) (ad := ad) (st := stTick { st with ev := some (ea, esOf st) }) rfl))
  refine ⟨ea, _, lim - a, t, _, hv, rfl, w, me _, by omega, by omega, by rw [List.length_map]; exact ok.len, ?_, fun v hv h k w => ?_, fun hv ex h k w => ?_⟩
  · intro env' he
    rcases List.mem_cons.mp he with rfl | he
    · exact ⟨by rw [n.k]; decide, L, _, hfL, fr0⟩
    · obtain ⟨f1, L', vs', f2, f3⟩ := F env' he
      exact ⟨f1, L', vs', f2, List.mem_append_right _ (.tail _ f3)⟩
  · rw [List.getElem?_map] at hv
    obtain ⟨e0, he0, rfl⟩ := Option.map_eq_some_iff.mp hv
    obtain ⟨m1, m2⟩ := ent_mem (c := c) (ad := ad) (st := stTick { st with ev := some (ea, esOf st) }) (ok.sub e0 (List.mem_of_getElem? he0))
    refine storeL w n kn (.s (.s (.s (.s (.s (.s .z)))))) (Sw.appL .z _) fun h k w => ?_
    refine xIf (iAnd (iVal (nameL w n kn fr0 (t6 t0) (tInst b w (List.mem_append_left _ m1) (List.mem_append_left _ m2) (by k_is) (by k_is) (if_tt ?_)))))
    refine iCmp (eAttr (nameL w n kn fr0 (t6 t0) (gEnt b w (List.mem_append_left _ m1) (List.mem_append_left _ m2) (o_atime c) (.inl ⟨rfl, rfl⟩) fun t1x k => eBin (nameL w n kt fr0 (t5 t0) (nameL w n ke fr0 (t3 t0) (oSub fun t2x k => oGe (tBool (if_dec (fun hge => ?_) fun hlt => ?_))))))))
    · exact xRet (eBool (q2 (by omega) e0 ea _ _ he0 hge w.unmid.drop))
    have HH : ∀ e, (esOf st)[(lim - a).toNat]? = some e → e.at_ < st.m + st.s - len := fun e he => by rw [he0] at he; cases he; have hlt' : ¬ (e0.at_ ≥ st.m + st.s - len) := hlt; omega
    refine xSetItem (eBin (eLst (h₀ := h₀) (aCons (eCallN (nameG b w n kE (by k_is) ?_)))))
    refine cwF (aCons (nameL w n ke fr0 (t3 t0) (aCons (clockE b w n (by show A.depth + 1 < 900; omega) ks t0 fun h k tc w => aNil ?_))))
    refine ⟨keepK b w (by k_is), Go.ofC (entry_ b w (by show A.depth + 1 < 860; omega) fun e h k he w => aNil ?_)⟩
    refine ⟨_, w, by show 1 ≤ sizeLine; decide, fun T1 h w => ?_⟩
    refine nameL w n ka (t3 fr0) (t4 t0) (oMulL w t0 (by omega) (by omega) (by show 1 * a.toNat ≤ 2 ^ 24; omega) fun T2 h w => ?_)
    refine eSub (eAttr (nameL w n ks (t4 fr0) t0 (gOwn b w (t10 t0) (t11 t0) (t3 t0) (o_events c) rfl fun k => nameL w n kk (t4 fr0) (t1 t0) (subD (p := fun v => v = .ref ea) w (t15 t0) fun v k hv2 => ?_))))
    subst hv2
    refine eSlice (pNone (pSome (eInt fun tz k => ⟨_, w, fun sl h hsl w => ?_⟩)))
    have hne : ea ≠ T2 := fun q => by
      have nd := w.nd
      rw [List.map_cons, List.nodup_cons] at nd
      exact nd.1 (List.mem_map.mpr ⟨_, t3 (List.mem_append_left _ (ev_mem (c := c) (ad := ad) (st := stTick (stTick { st with ev := some (ea, esOf st) })) rfl)), q⟩)
    refine gSetSl w (.s (.s (.s (.s (Sw.appR (Sw.appL (Sw.appL .z _) _) _))))) t0 hne hsl .none (.int _ _) .none (by rw [List.length_map]; simp; omega) fun h w => ?_
    refine xRet (eBool ?_)
    exact q3 (by omega) HH e ea _ _ he (accW (st := stTick (stTick { st with ev := some (ea, esOf st) })) hlen w rfl)
  · rw [List.getElem?_map] at hv
    have he0 := Option.map_eq_none_iff.mp hv
    refine storeL w n kn (.s (.s (.s (.s (.s (.s .z)))))) (Sw.appL .z _) fun h k w => ?_
    refine xIf (iAnd (iVal (nameL w n kn fr0 (t6 t0) (tNone (if_ff (if_ff ?_))))))
    have HH : ∀ e, (esOf st)[(lim - a).toNat]? = some e → e.at_ < st.m + st.s - len := fun e he => by rw [he0] at he; cases he
    refine xSetItem (eBin (eLst (h₀ := h₀) (aCons (eCallN (nameG b w n kE (by k_is) ?_)))))
    refine cwF (aCons (nameL w n ke fr0 (t3 t0) (aCons (clockE b w n (by show A.depth + 1 < 900; omega) ks t0 fun h k tc w => aNil ?_))))
    refine ⟨keepK b w (by k_is), Go.ofC (entry_ b w (by show A.depth + 1 < 860; omega) fun e h k he w => aNil ?_)⟩
    refine ⟨_, w, by show 1 ≤ sizeLine; decide, fun T1 h w => ?_⟩
    refine nameL w n ka (t3 fr0) (t4 t0) (oMulL w t0 (by omega) (by omega) (by show 1 * a.toNat ≤ 2 ^ 24; omega) fun T2 h w => ?_)
    refine eSub (eAttr (nameL w n ks (t4 fr0) t0 (gOwn b w (t10 t0) (t11 t0) (t3 t0) (o_events c) rfl fun k => nameL w n kk (t4 fr0) (t1 t0) (subD (p := fun v => v = .ref ea) w (t15 t0) fun v k hv2 => ?_))))
    subst hv2
    refine eSlice (pNone (pSome (eInt fun tz k => ⟨_, w, fun sl h hsl w => ?_⟩)))
    have hne : ea ≠ T2 := fun q => by
      have nd := w.nd
      rw [List.map_cons, List.nodup_cons] at nd
      exact nd.1 (List.mem_map.mpr ⟨_, t3 (List.mem_append_left _ (ev_mem (c := c) (ad := ad) (st := stTick (stTick { st with ev := some (ea, esOf st) })) rfl)), q⟩)
    refine gSetSl w (.s (.s (.s (.s (Sw.appR (Sw.appL (Sw.appL .z _) _) _))))) t0 hne hsl .none (.int _ _) .none (by rw [List.length_map]; simp; omega) fun h w => ?_
    refine xRet (eBool ?_)
    exact q3 (by omega) HH e ea _ _ he (accW (st := stTick (stTick { st with ev := some (ea, esOf st) })) hlen w rfl)
end
end Mine

/-! D2 -/
namespace Mine
theorem fillD2 : PySem.Challenge.rw_bn0041_01 = PySem.Challenge.rw_bn0041_01 ∧ hd.heap_1 = hd.heap_1 := by
  k_fill
  exact ⟨rfl, rfl⟩
section
variable {c : Cx} {A : Around} {h₀ h : Heap} {k : Nat} {l l' : List It} {mg mb : Str → Option Value} {d v : Addr} {KEY : Str} {P : Option (Value → Prop)}
def KeysV (d : Addr) (o : Obj) : Prop := o.cls = .type "dict_keys" ∧ o.dict = none ∧ o.data = .fields #[.ref d]
theorem keepType {T : String} : KeepOk c h (.type T) := ⟨.machine, .inr (.inl rfl), Looks.of_pure rfl⟩
theorem gKeys {Q : Value → Heap → Nat → Prop} (w : Led h₀ h l) (hm : (d, DictP c.w KEY P) ∈ l) (q : ∀ v h', Led h₀ h' ((v, KeysV d) :: l) → Q (.ref v) h' k) : Go c A (call (.builtin "dict.keys") [.ref d]) h k Q := by
  obtain ⟨o, e, hc, hd, x⟩ := DictP.type w hm
  refine gCallB PySem.F.slot_dict_keys ⟨o, e, hc⟩ PySem.F.entry_dict_keys (PySem.F.args_dict_keys_1 _) ?_
  refine Go.bind ?_
  unfold Builtin.Dict.noArgs
  refine Go.bind (wpAny_notOrdered_dict (⟨o, e, hc⟩ : (c.s h k).TypeIs (.ref d) "dict") ⟨_, _, rfl, ?_⟩)
  show Go c A.in1 (pure d) h k _
  refine Go.pure ?_
  show Go c A.in1 (Builtin.Dict.showsAll d >>= _) h k _
  unfold Builtin.Dict.showsAll
  rw [if_neg (by rw [w.noSys hm]; exact Bool.false_ne_true)]
  refine Go.bind (Go.pure ?_)
  exact Go.bind (wpAny_newObj_type ⟨_, _, rfl, Go.pure ⟨_, rfl, q _ _ (w.alloc _ rfl ⟨rfl, rfl, rfl⟩)⟩⟩)
def kvOf (KEY : Str) (P : Option (Value → Prop)) (x : Value) : List (Str × Value) := match P with
  | none => []
  | some _ => [(KEY, x)]
theorem DictP.at (w : Led h₀ h l) (hm : (d, DictP c.w KEY P) ∈ l) : ∃ x ep, h.DictAt (PySem.strKind pg c.w) d (kvOf KEY P x) ep := by
  obtain ⟨o, e, hc, hd, es, ep, hdat, hes⟩ := DictP.type w hm
  have kk := one_keys hes
  cases P with
  | none => subst hes; exact ⟨.none, ep, o, #[], e, ⟨hc, hd.1, hd.2⟩, hdat, kk, .nil, List.nodup_nil⟩
  | some p =>
    obtain ⟨t, x, rfl, hx⟩ := hes
    exact ⟨x, ep, o, _, e, ⟨hc, hd.1, hd.2⟩, hdat, kk, .cons (PySem.strKind_is pg c.w KEY t) rfl .nil, by show ([KEY] : List Str).Nodup; simp⟩
theorem gListKeys {Q : Value → Heap → Nat → Prop} (hA : A.handled = none) (w : Led h₀ h l) (hm : (d, DictP c.w KEY P) ∈ l) (hv : (v, KeysV d) ∈ l)
    (qn : P = none → ∀ D h' k', Led h₀ h' ((D, LstV []) :: l) → Q (.ref D) h' k') (qs : ∀ p, P = some p → ∀ t D h' k', Led h₀ h' ((D, LstV [.str KEY t]) :: l) → Q (.ref D) h' k') : Go c A (call (.type "list") [.ref v]) h k Q := by
  obtain ⟨x, ep, hat⟩ := DictP.at w hm
  obtain ⟨ov, ev, c1, c2, c3⟩ := w.get hv
  have hn : (kvOf KEY P x).length ≤ sizeLine := by
    rw [sizeLine_eq]
    cases P <;> simp [kvOf]
  refine kdl_call (s := c.s h k) (kdl_keys (knd := PySem.strKind pg c.w) (kvs := kvOf KEY P x) (ep := ep)) hA ⟨⟨ov, ev, c1, c3⟩, hat⟩ hn fun h' tk acc' c' hk hS' hacc => ?_
  have w' := w.push (P := LstV acc'.toList) hk ⟨_, hS', c', by rw [Array.toArray_toList]⟩
  refine ⟨h', tk, rfl, ?_⟩
  obtain ⟨hsz, hp⟩ := hacc
  cases P with
  | none =>
    have : acc' = #[] := Array.size_eq_zero_iff.mp hsz
    subst this
    exact qn rfl _ _ _ w'
  | some p =>
    obtain ⟨y, rfl⟩ := Array.size_eq_one_iff.mp hsz
    obtain ⟨kx, xx, e1, e2⟩ := hp 0 y rfl
    simp only [kvOf, List.getElem?_cons_zero, Option.some.injEq, Prod.mk.injEq] at e1
    obtain ⟨rfl, rfl⟩ := e1
    obtain ⟨t, rfl⟩ := Value.isStrOf_shape e2
    exact qs p rfl t _ _ _ w'

theorem eLam2 {ad : Ad} {st : St} {env : Env} {params : Arguments} {body : PySem.Expr} {scope : Scope} {pos : Pos} {Q : Value → Heap → Nat → Prop} {K : Frag} (b : Base K mg mb h₀) (w : W c h₀ ad h st l) (hcode : env.code = .ref 818) (hg : env.globals = mainGlobals) (hq : env.qual ++ "<lambda>" = "MemoryStorage.expire_events.<locals>.<lambda>") (hcl : closureFor scope env = pure [])
    (q : ∀ f c' h' k', W c h₀ ad h' { st with l2 := some c' } ((f, LamP params body scope "MemoryStorage.expire_events.<locals>.<lambda>" c') :: l) → (c', CodeOf "MemoryStorage.expire_events.<locals>.<lambda>") ∈ core c.w ad { st with l2 := some c' } → Q (.ref f) h' k')
    (hp : pos = p2 := by rfl) (hdef : defaultsOf params env = ([], []) := by rfl) : Go c A (eval (.Lambda params body scope pos) env) h k Q := by
  have mem : ∀ c', (c', CodeOf "MemoryStorage.expire_events.<locals>.<lambda>") ∈ core c.w ad { st with l2 := some c' } := fun c' => List.mem_append_right _ (List.mem_append_left _ (List.mem_append_right _ (.head _)))
  refine eLam (cc := 818) (P := 814) (t := st.l2) (l' := fun c' => (coreF c.w ad { st with l2 := some c' } ++ coreT ad st) ++ l) b w hcode b.c2 hg (fun c' => Sw.appR (Sw.appR (s20 s0) _) _) hp hcl (fun e f c' h' k' w' => ?_) (fun c' e f h' k' w' => ?_) hdef
  · rw [hq] at w'
    refine q f c' h' k' (Led.mid ?_) (mem c')
    have e2 : coreT ad { st with l2 := some c' } = cdOf "MemoryStorage.get_moving_window.<locals>.<lambda>" st.l1 ++ (c', CodeOf "MemoryStorage.expire_events.<locals>.<lambda>") :: (evOf st.ev ++ entsOf (60 * ad.mul) st.ents) := by
      show (cdOf _ st.l1 ++ cdOf _ (some c')) ++ _ = _
      rw [List.append_assoc]; rfl
    have e3 : coreT ad st = cdOf "MemoryStorage.get_moving_window.<locals>.<lambda>" st.l1 ++ (evOf st.ev ++ entsOf (60 * ad.mul) st.ents) := by
      show (cdOf _ st.l1 ++ cdOf _ st.l2) ++ _ = _
      rw [e, List.append_assoc]; rfl
    refine w'.perm (List.Perm.cons _ ?_)
    show ((c', CodeOf _) :: (coreF c.w ad { st with l2 := some c' } ++ coreT ad st ++ l)).Perm (coreF c.w ad { st with l2 := some c' } ++ coreT ad { st with l2 := some c' } ++ l)
    rw [e2, e3]
    have := (List.perm_middle (a := (c', CodeOf "MemoryStorage.expire_events.<locals>.<lambda>")) (l₁ := coreF c.w ad { st with l2 := some c' } ++ cdOf "MemoryStorage.get_moving_window.<locals>.<lambda>" st.l1) (l₂ := evOf st.ev ++ (entsOf (60 * ad.mul) st.ents ++ l))).symm
    simp only [List.append_assoc, List.cons_append] at this ⊢
    exact this
  · rw [hq] at w'
    have e2 : st = { st with l2 := some c' } := by
      obtain ⟨m, s, cnt, exp, ev, ents, l1, l2⟩ := st
      dsimp only at e
      subst e; rfl
    rw [e2] at w'
    exact q f c' h' k' (Led.mid w') (mem c')
theorem Led.inX {x y : It} {a l : List It} (w : Led h₀ h (x :: (a ++ y :: l))) : Led h₀ h (a ++ y :: x :: l) := w.in1
theorem Led.outX {x y : It} {a l : List It} (w : Led h₀ h (a ++ y :: x :: l)) : Led h₀ h (x :: (a ++ y :: l)) :=
  w.perm (List.Perm.trans (List.Perm.append_left _ (List.Perm.swap _ _ _)) List.perm_middle)
theorem gGetSl {value slice : PySem.Expr} {a sl : Addr} {vs res : List Value} {vl vu : Value} {lo hi : Option Int} {Q : Value → Heap → Nat → Prop} (w : Led h₀ h l) (hm : (a, LstV vs) ∈ l) (hs : h.IsSliceOf sl vl vu .none) (pl : IsPart vl lo) (pu : IsPart vu hi) (hr : slicePick vs.toArray lo hi none = res.toArray) (hsz : vs.length ≤ 1000000)
    (q : ∀ T h', Led h₀ h' ((T, LstV res) :: l) → Q (.ref T) h' k)
    (hsub : subscripted slice false (.ref a) (.ref sl) = operate [.ref sl, .ref a] (getItem (.ref a) (.ref sl)) := by with_unfolding_all rfl) : Go c A (subscriptTail value slice (.ref a) (.ref sl)) h k Q := by
  have hl := LstV.is w hm
  refine tail_any (s := c.s h k) hl.typeIs list_getitem_lookup (wpAny_getItem_list_slice (s := c.s h k) hl hs pl pu .none (by simp) ?_ (by rw [List.size_toArray, sizeLine_eq]; omega)) hsub
  exact ⟨_, _, rfl, q _ _ (w.alloc _ rfl ⟨0, by rw [hr]⟩)⟩
def Rel1 (len : Int) (st st1 : St) : Prop := st1.s = st.s ∧ st1.ents = st.ents ∧ st1.cnt = st.cnt ∧ st1.exp = st.exp ∧ (esOf st = [] ∧ esOf st1 = [] ∧ st1.m = st.m ∨ esOf st ≠ [] ∧ st1.m = st.m + st.s ∧ ∃ r, r ≤ (esOf st).length ∧ esOf st1 = (esOf st).take r ∧ ∀ i e, (esOf st)[i]? = some e → (i < r ↔ st1.m < e.at_ + len))
theorem newEv {ad : Ad} {st : St} {ea T : Addr} {es es' : List Ev} (hev : st.ev = some (ea, es)) (w : Led h₀ h ((T, LstV (es'.map fun e => Value.ref e.ea)) :: ((coreF c.w ad { st with ev := some (T, es') } ++ coreT ad st) ++ l))) : W c h₀ ad h { st with ev := some (T, es') } l := by
  have e1 : coreT ad st = lamOf st ++ ((ea, LstV (es.map fun e => Value.ref e.ea)) :: entsOf (60 * ad.mul) st.ents) := by unfold coreT; rw [hev]; rfl
  rw [e1] at w
  have w1 : Led h₀ h ((T, LstV (es'.map fun e => Value.ref e.ea)) :: ((coreF c.w ad { st with ev := some (T, es') } ++ (lamOf st ++ entsOf (60 * ad.mul) st.ents)) ++ l)) :=
    w.sub ((((List.Sublist.refl _).append ((List.Sublist.refl _).append (List.sublist_cons_self _ _))).append (List.Sublist.refl _)).cons_cons _)
  refine w1.perm ?_
  show List.Perm _ ((coreF c.w ad { st with ev := some (T, es') } ++ (lamOf st ++ ((T, LstV (es'.map fun e => Value.ref e.ea)) :: entsOf (60 * ad.mul) st.ents))) ++ l)
  have := (List.perm_middle (a := (T, LstV (es'.map fun e => Value.ref e.ea))) (l₁ := coreF c.w ad { st with ev := some (T, es') } ++ lamOf st) (l₂ := entsOf (60 * ad.mul) st.ents ++ l)).symm
  simp only [List.append_assoc, List.cons_append] at this ⊢
  exact this
structure ExpOk (len : Int) (st st' : St) : Prop where
  s : st'.s = st.s
  ents : st'.ents = st.ents
  r : ∃ m1, (esOf st = [] ∧ esOf st' = [] ∧ m1 = st.m ∨ esOf st ≠ [] ∧ m1 = st.m + st.s ∧ ∃ r, r ≤ (esOf st).length ∧ esOf st' = (esOf st).take r ∧ ∀ i e, (esOf st)[i]? = some e → (i < r ↔ m1 < e.at_ + len)) ∧
    (st.exp = none ∧ st'.exp = none ∧ st'.cnt = st.cnt ∧ st'.m = m1 ∨ ∃ x, st.exp = some x ∧ st'.m = m1 + st.s ∧ (x ≤ st'.m ∧ st'.cnt = none ∧ st'.exp = none ∨ st'.m < x ∧ st'.cnt = st.cnt ∧ st'.exp = st.exp))
theorem expire_ {ad : Ad} {st : St} {Q : Value → Heap → Nat → Prop} (b : Base (hd.heap_1 c.w.params) mg mb h₀) (w : W c h₀ ad h st l) (hd : A.depth < 850) (hA : A.handled = none) (ok : EvOk st) (hlen : (esOf st).length ≤ 1000000)
    (q : ∀ st' h' k', ExpOk (60 * ad.mul) st st' → W c h₀ ad h' st' l → Q .none h' k') : GoC c A (.call (.ref 819) ⟨[.ref ad.st], []⟩) h k Q := by
  refine gEnterK ["self", "key", "events", "oldest"] [.ref ad.st] b w (Nat.lt_trans hd (by decide)) (by k_is) (by k_is) (BindsTo.of_eq rfl) (locs rfl) (by decide) (by decide +kernel) (fun L h k n w => ?_)
  generalize henv : envOf _ _ _ _ _ = env at n ⊢
  have ks : env.kindOf "self" = some .local := by rw [← henv]; rfl
  have kk : env.kindOf "key" = some .local := by rw [← henv]; rfl
  have kv : env.kindOf "events" = some .local := by rw [← henv]; rfl
  have ko : env.kindOf "oldest" = some .local := by rw [← henv]; rfl
  have kb : env.kindOf "bisect_left" = some .globalImplicit := by rw [← henv]; rfl
  have kl : env.kindOf "list" = some .globalImplicit := by rw [← henv]; rfl
  have hc : env.code = .ref 818 := by rw [← henv]; rfl
  have hq : env.qual ++ "<lambda>" = "MemoryStorage.expire_events.<locals>.<lambda>" := by rw [← henv]; show (Str.ofString "MemoryStorage.expire_events" ++ ".<locals>.") ++ "<lambda>" = _; decide +kernel
  have w := w.mid
  have hA' : (A.deeper env).handled = none := hA
  refine xFor (h₀ := h₀) hA' ?_
  refine eCallN (nameB (v := .type "list") b w n kl (by k_is) (by decide +kernel) (by decide) ?_)
  refine cwF (aCons (eCallM (eAttr (nameL w n ks fr0 t0 (gOwn b w (t6 t0) (t7 t0) (t3 t0) (o_events c) rfl fun k => ?_)))))
  refine mDict w (t11 t0) PySem.F.slot_dict_keys PySem.F.type_dict_keys (cwB0 (gKeys w (t11 t0) fun v h w => aNil ?_))
  refine ⟨keepType, ?_⟩
  have step : Go c (A.deeper env) (call (.type "list") [.ref v]) h k fun v h k => ∃ D vs X, v = .ref D ∧ (D, LstV vs) ∈ X ∧ W c h₀ ad h st ((L, Frm (zipV ["self", "key", "events", "oldest"] [.ref ad.st])) :: (X ++ l)) ∧ (vs = [] ∧ esOf st = [] ∨ ∃ t ea, vs = [.str ad.KEY t] ∧ st.ev = some (ea, esOf st)) := by
    refine gListKeys hA' w (t12 t0) t0 (fun e D h k w => ?_) fun p e t D h k w => ?_
    · refine ⟨D, _, [(D, LstV []), (v, KeysV ad.E)], rfl, .head _, w.perm (List.Perm.trans (List.Perm.cons _ (List.perm_middle.symm.trans (List.Perm.append_left _ (List.Perm.swap _ _ _)))) (List.perm_middle.symm.trans (List.Perm.append_left _ (List.Perm.swap _ _ _)))), .inl ⟨rfl, ?_⟩⟩
      cases h : st.ev with
      | none => unfold esOf; rw [h]; rfl
      | some p => rw [h] at e; cases e
    · refine ⟨D, _, [(D, _), (v, KeysV ad.E)], rfl, .head _, w.perm (List.Perm.trans (List.Perm.cons _ (List.perm_middle.symm.trans (List.Perm.append_left _ (List.Perm.swap _ _ _)))) (List.perm_middle.symm.trans (List.Perm.append_left _ (List.Perm.swap _ _ _)))), .inr ⟨t, ?_⟩⟩
      cases h : st.ev with
      | none => rw [h] at e; cases e
      | some p => exact ⟨p.1, rfl, by unfold esOf; rw [h]; rfl⟩
  refine step.mono fun v h k z => ?_
  obtain ⟨D, vs, X, rfl, mD, w, hvs⟩ := z
  refine ⟨fun i l' => ∃ st1 u1 u2 u3 Y, l' = core c.w ad st1 ++ (L, Frm [("self", some (.ref ad.st)), ("key", u1), ("events", u2), ("oldest", u3)]) :: (Y ++ (X ++ l)) ∧ (i = 0 ∧ st1 = st ∨ i = 1 ∧ Rel1 (60 * ad.mul) st st1), D, vs, _, rfl, w, List.mem_append_right _ (.tail _ (List.mem_append_left _ mD)), ⟨st, _, _, _, [], rfl, .inl ⟨rfl, rfl⟩⟩, ?_, ?_⟩
  · rintro it i v h k l' hv w hm ⟨st1, u1, u2, u3, Y, rfl, hi⟩
    rcases hvs with ⟨hvs, _⟩ | ⟨t, ea, hvs, hev⟩
    · rw [hvs] at hv; cases hv
    have hi0 : i = 0 := by
      rw [hvs] at hv
      have := (List.getElem?_eq_some_iff.mp hv).1
      simp at this
      exact this
    obtain ⟨rfl⟩ : v = .str ad.KEY t := by rw [hvs, hi0] at hv; cases hv; rfl
    obtain rfl : st1 = st := by
      rcases hi with ⟨_, e⟩ | ⟨h1, _⟩
      · exact e
      · omega
    subst hi0
    have w := w.inX
    refine aName (storeL w n kk (.s .z) (Sw.appL .z _) fun h k w => ?_)
    refine xIf (iVal (eNamed ?_))
    refine eCallM (eAttr (nameL w n ks fr0 t0 (gOwn b w (t6 t0) (t7 t0) (t3 t0) (o_events c) rfl fun k => ?_)))
    refine mDict w (t11 t0) PySem.F.slot_dict_get PySem.F.type_dict_get ?_
    refine cwB (aCons (nameL w n kk fr0 (t1 t0) (aCons (eLst0 w fun D2 h w => aNil ?_))))
    have w := w.inX
    refine dGet (P := st1.ev.map fun p v => v = .ref p.1) w (t11 t0) (fun e => by rw [hev] at e; cases e) fun p v e hp k => ?_
    rw [hev] at e
    cases e
    subst hp
    have ma : ∀ F, (ea, LstV ((esOf st1).map fun e => Value.ref e.ea)) ∈ core c.w ad st1 ++ F := fun F => List.mem_append_left _ (ev_mem hev)
    refine aName (storeL w n kv (.s (.s .z)) (Sw.appL .z _) fun h k w => ?_)
    refine tLst w (ma _) (by rw [List.length_map]; exact ok.len) fun k => ?_
    cases hes : (esOf st1).isEmpty with
    | true =>
      rw [List.isEmpty_map, hes]
      rw [List.isEmpty_iff] at hes
      refine if_ff (xNil (xNil ⟨_, (w.perm (List.Perm.append_left _ (List.Perm.cons _ (List.Perm.swap _ _ _)))).outX, ?_, st1, _, _, _, (D2, LstV []) :: Y, rfl, .inr ⟨rfl, rfl, rfl, rfl, rfl, .inl ⟨hes, hes, rfl⟩⟩⟩))
      exact List.mem_append_right _ (.tail _ (.tail _ (List.mem_append_right _ (List.mem_append_left _ mD))))
    | false =>
      rw [List.isEmpty_map, hes]
      have ne : esOf st1 ≠ [] := by intro h; rw [h] at hes; cases hes
      refine if_tt ?_
      refine xAssign (eCallN (nameG b w n kb (by k_is) (cwBK (aCons (nameL w n kv fr0 (t2 t0) (aCons (eUn (clockE b w n (by show A.depth + 1 < 900; omega) ks t0 fun h k tc w => oNeg fun tn k => aNil (kCons ?_))))))))) 
      refine eLam2 b w hc n.g hq (by rfl) fun f c' h k w hcd => kNil ?_
      have hg : ∀ (i : Nat) (e : Ev), (esOf st1)[i]? = some e → (((esOf st1)[i]?.map fun e => e.at_ + 60 * ad.mul).getD 0) = e.at_ + 60 * ad.mul := fun i e h => by rw [h]; rfl
      have ma2 : ∀ F, (ea, LstV ((esOf st1).map fun e => Value.ref e.ea)) ∈ core c.w ad { stTick st1 with l2 := some c' } ++ F := fun F => List.mem_append_left _ (ev_mem (st := { stTick st1 with l2 := some c' }) hev)
      refine gBisect (g := fun i => -(((esOf st1)[i]?.map fun e => e.at_ + 60 * ad.mul).getD 0)) w (ma2 _) (by rw [List.length_map]; exact ok.len) (fun h k i v Q' hv w q => ?_) (fun i j hij hj => ?_) fun r tr h k hL hR hr w => ?_
      · rw [List.getElem?_map] at hv
        obtain ⟨e, he, rfl⟩ := Option.map_eq_some_iff.mp hv
        have me := ok.sub e (List.mem_of_getElem? he)
        refine lamCall b w (by show A.depth + 1 < 900; omega) (List.mem_append_right _ (.head _)) (List.mem_append_left _ hcd) (fun pm ctv => by rfl) (by rfl) (by decide +kernel) fun L' h k n' w' => ?_
        refine eUn (eAttr (nameL w' n' (by rfl) t0 t0 ?_))
        obtain ⟨m1, m2⟩ := ent_mem (c := c) (ad := ad) (st := { stTick st1 with l2 := some c' }) me
        refine gEnt b w' (.tail _ (List.mem_append_left _ m1)) (.tail _ (List.mem_append_left _ m2)) (o_expiry c) (.inr ⟨rfl, rfl⟩) fun t k => oNeg fun t k => ?_
        have := q t h k w'.drop
        rw [hg i e he] at this
        exact this
      · rw [List.length_map] at hj
        have h1 := List.getElem?_eq_getElem hj
        have h2 := List.getElem?_eq_getElem (Nat.lt_of_le_of_lt hij hj)
        rw [hg _ _ h1, hg _ _ h2]
        rcases Nat.eq_or_lt_of_le hij with rfl | hlt
        · exact Int.le_refl _
        · have := List.pairwise_iff_getElem.mp ok.mono i j (Nat.lt_of_le_of_lt hij hj) hj hlt
          omega
      · rw [List.length_map] at hr hR
        have w := w.perm (List.Perm.append_left _ (List.Perm.swap _ _ _))
        have mE : ∀ F, (ad.E, DictP c.w ad.KEY (some fun v => v = Value.ref ea)) ∈ core c.w ad { stTick st1 with l2 := some c' } ++ F := fun F => by
          have h : (ad.E, DictP c.w ad.KEY (st1.ev.map fun p v => v = .ref p.1)) ∈ core c.w ad { stTick st1 with l2 := some c' } ++ F := t11 t0
          rw [hev] at h
          exact h
        refine storeL w n ko (.s (.s (.s .z))) (Sw.appL .z _) fun h k w => ?_
        refine xSetItem (eSub (eSub (eAttr (nameL w n ks fr0 t0 (gOwn b w (t6 t0) (t7 t0) (t3 t0) (o_events c) rfl fun k => nameL w n kk fr0 (t1 t0) (subD (p := fun v => v = .ref ea) w (mE _) fun v k hv => ?_))))))
        subst hv
        refine eSlice (pNone (pSome (nameL w n ko fr0 (t3 t0) ⟨_, w, fun sl h hsl w => ?_⟩)))
        refine gGetSl (res := ((esOf st1).take r).map fun e => Value.ref e.ea) w (ma2 _) hsl .none (.int _ _) (by rw [slicePick_upto']; simp [List.map_take]) (by rw [List.length_map]; exact hlen) fun T h w => ?_
        refine eAttr (nameL w n ks (t1 fr0) t0 (gOwn b w (t7 t0) (t8 t0) (t3 t0) (o_events c) rfl fun k => nameL w n kk (t1 fr0) (t1 t0) ?_))
        refine dSetItem (p := fun v => v = .ref T) (l' := (T, LstV (((esOf st1).take r).map fun e => Value.ref e.ea)) :: ((coreF c.w ad { { stTick st1 with l2 := some c' } with ev := some (T, (esOf st1).take r) } ++ coreT ad { stTick st1 with l2 := some c' }) ++ _)) w rfl (.s (Sw.appR (Sw.appR (s11 s0) _) _)) fun h k w => ?_
        have w := newEv (st := { stTick st1 with l2 := some c' }) hev w
        refine xNil (xNil ⟨_, (w.perm (List.Perm.append_left _ (List.Perm.cons _ ((List.Perm.cons _ (List.Perm.swap _ _ _)).trans (List.Perm.swap _ _ _))))).outX, ?_, _, _, _, _, _ :: _ :: Y, rfl, .inr ⟨rfl, rfl, rfl, rfl, rfl, .inr ⟨ne, rfl, r, hr, rfl, fun i e he => ?_⟩⟩⟩)
        · exact List.mem_append_right _ (.tail _ (.tail _ (.tail _ (List.mem_append_right _ (List.mem_append_left _ mD)))))
        · show i < r ↔ st1.m + st1.s < e.at_ + 60 * ad.mul
          rcases Nat.lt_or_ge i r with hi | hi
          · have := hL i hi; rw [hg i e he] at this
            have : -(e.at_ + 60 * ad.mul) < -(st1.m + st1.s) := this
            omega
          · have := hR i hi (List.getElem?_eq_some_iff.mp he).1; rw [hg i e he] at this
            have : -(st1.m + st1.s) ≤ -(e.at_ + 60 * ad.mul) := this
            omega
  · rintro h k l' w hm ⟨st1, u1, u2, u3, Y, rfl, hi⟩
    have rel : Rel1 (60 * ad.mul) st st1 := by
      rcases hi with ⟨h0, rfl⟩ | ⟨_, hr⟩
      · rcases hvs with ⟨_, he⟩ | ⟨t, ea, hvs, _⟩
        · exact ⟨rfl, rfl, rfl, rfl, .inl ⟨he, he, rfl⟩⟩
        · rw [hvs] at h0; cases h0
      · exact hr
    refine xFor (h₀ := h₀) hA' ?_
    refine eCallN (nameB (v := .type "list") b w n kl (by k_is) (by decide +kernel) (by decide) ?_)
    refine cwF (aCons (eCallM (eAttr (nameL w n ks fr0 t0 (gOwn b w (t6 t0) (t7 t0) (t2 t0) (o_expirations c) rfl fun k => ?_)))))
    refine mDict w (t10 t0) PySem.F.slot_dict_keys PySem.F.type_dict_keys (cwB0 (gKeys w (t10 t0) fun v h w => aNil ?_))
    refine ⟨keepType, ?_⟩
    generalize hR : Y ++ (X ++ l) = R at w
    have hsub : List.Sublist l R := by rw [← hR]; exact (List.sublist_append_right X l).trans (List.sublist_append_right Y _)
    have step2 : Go c (A.deeper env) (call (.type "list") [.ref v]) h k fun v h k => ∃ D vs X, v = .ref D ∧ (D, LstV vs) ∈ X ∧ W c h₀ ad h st1 ((L, Frm [("self", some (.ref ad.st)), ("key", u1), ("events", u2), ("oldest", u3)]) :: (X ++ R)) ∧ (vs = [] ∧ st1.exp = none ∨ ∃ t x, vs = [.str ad.KEY t] ∧ st1.exp = some x) := by
      refine gListKeys hA' w (t11 t0) t0 (fun e D h k w => ?_) fun p e t D h k w => ?_
      · refine ⟨D, _, [(D, LstV []), (v, KeysV ad.X)], rfl, .head _, w.perm (List.Perm.trans (List.Perm.cons _ (List.perm_middle.symm.trans (List.Perm.append_left _ (List.Perm.swap _ _ _)))) (List.perm_middle.symm.trans (List.Perm.append_left _ (List.Perm.swap _ _ _)))), .inl ⟨rfl, ?_⟩⟩
        cases h : st1.exp with
        | none => rfl
        | some p => rw [h] at e; cases e
      · refine ⟨D, _, [(D, _), (v, KeysV ad.X)], rfl, .head _, w.perm (List.Perm.trans (List.Perm.cons _ (List.perm_middle.symm.trans (List.Perm.append_left _ (List.Perm.swap _ _ _)))) (List.perm_middle.symm.trans (List.Perm.append_left _ (List.Perm.swap _ _ _)))), .inr ⟨t, ?_⟩⟩
        cases h : st1.exp with
        | none => rw [h] at e; cases e
        | some p => exact ⟨p, rfl, rfl⟩
    refine step2.mono fun v h k z => ?_
    obtain ⟨D', vs', X', rfl, mD', w, hvs'⟩ := z
    refine ⟨fun i l' => ∃ st2 u1, l' = core c.w ad st2 ++ (L, Frm [("self", some (.ref ad.st)), ("key", u1), ("events", u2), ("oldest", u3)]) :: (X' ++ R) ∧ (i = 0 ∧ st2 = st1 ∨ i = 1 ∧ st2.s = st1.s ∧ st2.ents = st1.ents ∧ st2.ev = st1.ev ∧ ∃ x, st1.exp = some x ∧ st2.m = st1.m + st1.s ∧ (x ≤ st2.m ∧ st2.cnt = none ∧ st2.exp = none ∨ st2.m < x ∧ st2.cnt = st1.cnt ∧ st2.exp = st1.exp)), D', vs', _, rfl, w, List.mem_append_right _ (.tail _ (List.mem_append_left _ mD')), ⟨st1, _, rfl, .inl ⟨rfl, rfl⟩⟩, ?_, ?_⟩
    · rintro it i v h k l' hv w hm ⟨st2, u1, rfl, hi⟩
      rcases hvs' with ⟨hvs, _⟩ | ⟨t, x, hvs, hx⟩
      · rw [hvs] at hv; cases hv
      have hi0 : i = 0 := by
        rw [hvs] at hv
        have := (List.getElem?_eq_some_iff.mp hv).1
        simp at this
        exact this
      obtain ⟨rfl⟩ : v = .str ad.KEY t := by rw [hvs, hi0] at hv; cases hv; rfl
      obtain rfl : st2 = st1 := by
        rcases hi with ⟨_, e⟩ | ⟨h1, _⟩
        · exact e
        · omega
      subst hi0
      have w := w.inX
      have mX : ∀ F, (ad.X, DictP c.w ad.KEY (some (II x))) ∈ core c.w ad st2 ++ F := fun F => by
        have h : (ad.X, DictP c.w ad.KEY (st2.exp.map II)) ∈ core c.w ad st2 ++ F := t10 t0
        rw [hx] at h
        exact h
      refine aName (storeL w n kk (.s .z) (Sw.appL .z _) fun h k w => ?_)
      refine xIf (iCmp (eSub (eAttr (nameL w n ks fr0 t0 (gOwn b w (t6 t0) (t7 t0) (t2 t0) (o_expirations c) rfl fun k => nameL w n kk fr0 (t1 t0) (subD (p := II x) w (mX _) fun v k hv => ?_))))))
      obtain ⟨tx, rfl⟩ := hv
      refine clockE b w n (by show A.depth + 1 < 900; omega) ks t0 fun h k tc w => ?_
      refine oLe (tBool (if_dec (fun hle => ?_) fun hgt => ?_))
      · refine xExprV n.k ?_
        refine eCallM (eAttr (nameL w n ks fr0 t0 (gOwn b w (t6 t0) (t7 t0) (t1 t0) (o_storage c) rfl fun k => ?_)))
        refine mCnt b w (t8 t0) (t9 t0) (cntA c) (bi_pop c) ?_
        refine cwB (aCons (nameL w n kk fr0 (t1 t0) (aCons (eNone (aNil ?_)))))
        refine cPop (l' := core c.w ad { stTick st2 with cnt := none } ++ _) b w (s8 s0) (t9 t0) (cntA c) fun v h k y w => ?_
        refine ⟨noRef y, ?_⟩
        refine xExprV n.k ?_
        refine eCallM (eAttr (nameL w n ks fr0 t0 (gOwn b w (t6 t0) (t7 t0) (t2 t0) (o_expirations c) rfl fun k => ?_)))
        refine mDict w (t10 t0) PySem.F.slot_dict_pop PySem.F.type_dict_pop ?_
        refine cwB (aCons (nameL w n kk fr0 (t1 t0) (aCons (eNone (aNil ?_)))))
        refine dPop (l' := core c.w ad { stTick st2 with cnt := none, exp := none } ++ _) w (s10 s0) fun v h k y w => ?_
        refine ⟨noRef y, xNil (xNil ⟨_, w.outX, List.mem_append_right _ (.tail _ (List.mem_append_left _ mD')), _, _, rfl, .inr ⟨rfl, rfl, rfl, rfl, x, hx, rfl, .inl ⟨hle, rfl, rfl⟩⟩⟩)⟩
      · refine xNil (xNil ⟨_, w.outX, List.mem_append_right _ (.tail _ (List.mem_append_left _ mD')), _, _, rfl, .inr ⟨rfl, rfl, rfl, rfl, x, hx, rfl, .inr ⟨Int.not_le.mp hgt, rfl, rfl⟩⟩⟩)
    · rintro h k l' w hm ⟨st2, u1, rfl, hi⟩
      refine xNil ?_
      have w2 : W c h₀ ad h st2 l := w.sub ((List.Sublist.refl _).append ((hsub.trans (List.sublist_append_right _ _)).trans (List.sublist_cons_self _ _)))
      refine q st2 h k ?_ w2
      obtain ⟨r1, r2, r3, r4, r5⟩ := rel
      rcases hi with ⟨h0, rfl⟩ | ⟨_, e1, e2, e3, x, hx, e4, e5⟩
      · rcases hvs' with ⟨_, he⟩ | ⟨t, x, hvs, _⟩
        · refine ⟨r1, r2, st2.m, ?_, .inl ⟨by rw [← r4]; exact he, he, r3, rfl⟩⟩
          exact r5
        · rw [hvs] at h0; cases h0
      · refine ⟨e1.trans r1, e2.trans r2, st1.m, ?_, .inr ⟨x, by rw [← r4]; exact hx, by rw [e4, r1], ?_⟩⟩
        · have : esOf st2 = esOf st1 := by unfold esOf; rw [e3]
          rw [this]; exact r5
        · rw [← r3, ← r4]; exact e5
end
end Mine

/-! D3 -/
namespace Mine
theorem fillD3 : PySem.Challenge.rw_bn0041_01 = PySem.Challenge.rw_bn0041_01 ∧ hd.heap_1 = hd.heap_1 := by
  k_fill
  exact ⟨rfl, rfl⟩
section
variable {c : Cx} {A : Around} {h₀ h : Heap} {k : Nat} {l l' : List It} {mg mb : Str → Option Value} {K : Frag} {name : Str} {x C p : Addr}
theorem gMethT {tv v : Value} {pl : Sem Bool} {Q : Value × List Value → Heap → Nat → Prop} (b : Base K mg mb h₀) (w : Led h₀ h l) (ht : typeOf tv = pure (.type "type")) (hstub : opaqueClassAbove tv = pure none)
    (e : findCls K tv (.type "type") name = some (.val v)) (hh : handedIn v = true) (q : ∀ k, Q (v, []) h k) : Go c A (getMethod tv name pl) h k Q := by
  have X := b.kin.keeps w.keep
  have L0 : Looks c.m h (typeOf tv) (.type "type") := Looks.of_pure ht
  have hg : findIn K (.type "type") "__getattribute__" = some (some (.builtin "type.__getattribute__")) := type_tga
  unfold getMethod specialOf
  refine Go.bind (Go.bind (Go.looks L0 (Go.looks (looks_findIn X hg) ?_)))
  dsimp only
  rw [if_pos canon_tga]
  refine Go.bind ?_
  have LO : Looks c.m h (opaqueClassAbove tv) none := Looks.of_pure hstub
  refine cls_open (s := c.s h k) X LO L0 hg (looks_hook X (r := none) (by rfl)) (by show subIn K _ _ = _; rfl) e
    (wpAny_pure (by show wpAny _ _ (handedOut v) _ _ _; rw [handedOut_of hh]; exact wpAny_pure ⟨_, _, rfl, Go.pure (q _)⟩))
theorem gCallSub {T id n : String} {B : Builtin} {rest : List Value} {ox : Obj} {od : Option Obj} {Q : Value → Heap → Nat → Prop} (b : Base K mg mb h₀) (w : Led h₀ h l) (I : InstAt h x ox C od) (hsub : subIn K (.ref C) (.type T) = some true)
    (hk : builtinKind id = some .method ∨ builtinKind id = some .slot) (hs : splitId id = some (T, n)) (plain : plainId id = true) (entry : entryFor table id = some B) (args : argsOk id ⟨.ref x :: rest, []⟩)
    (y : Go c A.in1 (B ⟨.ref x :: rest, []⟩) h k fun fin h k => ∃ v, fin = .done (.ret v) ∧ Q v h k) : Go c A (call (.builtin id) (.ref x :: rest)) h k Q := by
  have fin : ∀ {E' : Value → Shared → Prop} {R : Fin → Shared → Prop}, (∀ v h' k', Q v h' k' → R (.done (.ret v)) (c.s h' k')) → wpAny c.m A.in1 (B ⟨.ref x :: rest, []⟩) R E' (c.s h k) := fun hr => y.toWp fun fin h' k' z => by
    obtain ⟨v, rfl, z⟩ := z
    exact hr v h' k' z
  rcases hk with hk | hk
  · exact wpAny_call (codeAny_call_builtin plain entry (check_meth hk hs (I.type.andThen (looks_subIn (b.kin.keeps w.keep) hsub)) args (fin fun v h' k' z => ⟨h', k', rfl, z⟩)))
  · exact wpAny_call (codeAny_call_builtin plain entry (check_slot hk hs (I.type.andThen (looks_subIn (b.kin.keeps w.keep) hsub)) args (fin fun v h' k' z => ⟨h', k', rfl, z⟩)))
theorem tupBody {prog : Program} {w : World} {A : Around} {E : Value → Shared → Prop} {s : Shared} {ox : Obj} {k : Int} {u : Tok} {j : Nat} {items : Array Value} {n : Nat} {v : Value} {Q : Fin → Shared → Prop} (ho : s.heap.get? x = some ox) (hd : ox.data = .seq items n)
    (hlo : -(2 ^ 63) ≤ k) (hhi : k < 2 ^ 63) (hj : seqIndex? k items.size = some j) (hx : items[j]? = some v) (h : Q (.done (.ret v)) s) : wpAny (model prog w) A (Builtin.«tuple.__getitem__» ⟨[.ref x, .int k u], []⟩) Q E s := by
  show wpAny _ _ (Builtin.Tuple.tupleItemsOf (.ref x) >>= _) _ _ s
  refine wpAny_bind (wpAny_tupleItemsOf ho hd ?_)
  refine wpAny_bind (wpAny_typeOf (typeIs_int s k u) ?_)
  rw [if_neg (by decide)]
  refine wpAny_bind (wpAny_specialOf (T := "int") (typeIs_int s k u) int_index ?_)
  rw [if_neg (by simp)]
  refine wpAny_bind (wpAny_of_eq (a := k) rfl ?_)
  rw [if_neg (by simp only [Bool.or_eq_true, decide_eq_true_eq]; omega)]
  simp only [hj, Option.bind_some, hx]
  exact wpAny_pure h
theorem gTupGet {ox : Obj} {od : Option Obj} {i : Nat} {t : Tok} {items : Array Value} {n : Nat} {v : Value} {Q : Value → Heap → Nat → Prop} (b : Base K mg mb h₀) (w : Led h₀ h l) (I : InstAt h x ox C od) (hd : ox.data = .seq items n) (hs : subIn K (.ref C) (.type "tuple") = some true)
    (hi : i < items.size) (hz : items.size < 1000) (hv : items[i]? = some v) (q : Q v h k) : Go c A (call (.builtin "tuple.__getitem__") [.ref x, .int (i : Nat) t]) h k Q := by
  refine gCallSub (T := "tuple") (n := "__getitem__") b w I hs (.inr (by decide +kernel)) (by decide +kernel) slot_tuple_getitem.plain entry_tuple_getitem (args_tuple_getitem _ _) ?_
  exact tupBody (s := c.s h k) I.at_ hd (by omega) (by omega) (j := i) (by rw [seqIndex_of (by omega) (by omega)]; simp) hv ⟨h, k, rfl, v, rfl, q⟩
theorem gOwnK {dp : Addr} {od : Obj} {v : Value} {expr : Bool} {Q : Value → Heap → Nat → Prop} (b : Base K mg mb h₀) (w : Led h₀ h l) (hp : K.lookup p = some ⟨.ref C, some dp, .plain, #[]⟩) (hdp : K.lookup dp = some od) (a : OwnA K C name) (hl : lookIn name od = some (some v)) (hh : handedIn v = true)
    (q : ∀ k', Q v h k') : Go c A (getAttr (.ref p) name expr) h k Q := by
  have X := b.kin.keeps w.keep
  obtain ⟨at', ha, hn⟩ := a.a
  exact get_value X (I := ⟨X _ _ hp, rfl, rfl, X _ _ hdp⟩) (plainGet_of a.g).1 (findObj_own a.h ha hn hl) hh ⟨_, _, rfl, q _⟩
theorem oIs {v : Value} {Q : Value → Heap → Nat → Prop} (q : Q (.bool (v == .none)) h k) : Go c A (compareOp .Is v .none) h k Q := is_none ⟨_, _, rfl, q⟩
theorem gTypeOf {ox : Obj} {od : Option Obj} {Q : Value → Heap → Nat → Prop} (I : InstAt h x ox C od) (q : Q (.ref C) h k) : Go c A (call (.type "type") [.ref x]) h k Q := kto_own (s := c.s h k) I ⟨_, _, rfl, q⟩
theorem plain_isn : plainId "issubclass.nested" = true := by decide +kernel
theorem gIsSub {T : String} {Q : Value → Heap → Nat → Prop} {r : Bool} (b : Base K mg mb h₀) (w : Led h₀ h l) (hc : isClsIn K C = true) (hT : typeOf (.type T) = pure (.type "type")) (hs : subIn K (.ref C) (.type T) = some r) (q : Q (.bool r) h k) : Go c A (call (.builtin "issubclass") [.ref C, .type T]) h k Q := by
  have X := b.kin.keeps w.keep
  refine gCallFn (kw := []) PySem.F.kind_issubclass PySem.F.plain_issubclass PySem.F.entry_issubclass (PySem.F.args_issubclass_2 _ _) ?_
  unfold Builtin.«issubclass»
  refine Go.bind (m := someArgs "issubclass" 2 2 _) ?_
  show Go c A.in1 (pure [Value.ref C, Value.type T]) h k _
  refine Go.pure ?_
  refine Go.pure ⟨plainId_quiet plain_isn _, gCodeB plain_isn PySem.F.entry_issubclass_nested ?_⟩
  unfold Builtin.«issubclass.nested»
  dsimp only [rawInt]
  refine Go.bind ?_
  rw [hT]
  refine Go.pure ?_
  rw [if_pos (by decide)]
  refine Go.bind (Go.bind ?_)
  obtain ⟨cd, hcd⟩ := Option.isSome_iff_exists.mp hc
  have ht : Looks c.m h (isType (.ref C)) true := by
    unfold clsIn at hcd
    split at hcd
    · rename_i e
      exact (Looks.ld (X _ _ e)).andThen .now
    · cases hcd
  refine Go.looks ht (Go.bind (Go.pure ?_))
  dsimp only
  rw [if_pos (by decide)]
  refine Go.looks (looks_subIn X hs) (Go.pure ?_)
  exact q
end
end Mine

/-! D4 -/
namespace Mine
theorem fillD4 : PySem.Challenge.rw_bn0041_01 = PySem.Challenge.rw_bn0041_01 ∧ hd.heap_1 = hd.heap_1 := by
  k_fill
  exact ⟨rfl, rfl⟩
/-- an object that stands in a heap of the run: in the head's own, or in the ledger -/
def Stands (h₀ : Heap) (l : List It) (x C : Addr) (items : Array Value) : Prop := ∀ h', Led h₀ h' l → ∃ ox od n, InstAt h' x ox C (some od) ∧ ox.data = .seq items n
structure TgA (K : Frag) (p C dp : Addr) (pc : Addr) (i : Nat) : Prop where
  p : K.lookup p = some ⟨.ref pc, some dp, .plain, #[]⟩
  d : ∃ oD t, K.lookup dp = some oD ∧ lookIn "index" oD = some (some (.int (i : Nat) t))
  o : OwnA K pc "index"
  c : isClsIn K C = true
  s : subIn K (.ref C) (.type "tuple") = some true
section
variable {c : Cx} {A : Around} {h₀ h : Heap} {k : Nat} {l l' : List It} {mg mb : Str → Option Value}
theorem typeOf_tup : typeOf (.type "tuple") = pure (.type "type") := by kernel_rfl
theorem stub_tup : opaqueClassAbove (.type "tuple") = pure none := by kernel_rfl
theorem Stands.tail {x C : Addr} {items : Array Value} {y : It} (s : Stands h₀ l x C items) : Stands h₀ (y :: l) x C items := fun h' w => s h' w.drop
theorem tget304 {x C p dp : Addr} {i : Nat} {items : Array Value} {v : Value} {Q : Value → Heap → Nat → Prop} (b : Base (hd.heap_1 c.w.params) mg mb h₀) (w : Led h₀ h l) (hdl : A.depth < 890) (S : Stands h₀ l x C items) (a : TgA (hd.heap_1 c.w.params) p C dp 321 i)
    (hi : i < items.size) (hz : items.size < 1000) (hv : items[i]? = some v) (q : ∀ h' k', Led h₀ h' l → Q v h' k') : GoC c A (.call (.ref 304) ⟨[.ref p, .ref x, .ref C], []⟩) h k Q := by
  refine gEnterK ["self", "obj", "objtype"] [.ref p, .ref x, .ref C] b w (by omega) (by k_is) (by k_is) (binds_K (b.kin.keeps w.keep) rfl (by k_is) rfl rfl rfl) (locs rfl) (by decide) (by decide +kernel) (fun L h k n w => ?_)
  generalize henv : envOf _ _ _ _ _ = env at n ⊢
  have ks : env.kindOf "self" = some .local := by rw [← henv]; rfl
  have ko : env.kindOf "obj" = some .local := by rw [← henv]; rfl
  have k1 : env.kindOf "issubclass" = some .globalImplicit := by rw [← henv]; rfl
  have k2 : env.kindOf "type" = some .globalImplicit := by rw [← henv]; rfl
  have k3 : env.kindOf "tuple" = some .globalImplicit := by rw [← henv]; rfl
  obtain ⟨oD, t, d1, d2⟩ := a.d
  refine xIf (iCmp (nameL w n ko t0 (t1 t0) (eNone (oIs (tBool (if_ff (xNil ?_)))))))
  refine xIf (iNot (iVal (eCallN (nameB (v := .builtin "issubclass") b w n k1 (by k_is) (by decide +kernel) (by decide) (cwB (aCons (eCallN (nameB (v := .type "type") b w n k2 (by k_is) (by decide +kernel) (by decide) (cwF (aCons (nameL w n ko t0 (t1 t0) (aNil ⟨keepType, ?_⟩)))))))))))) 
  obtain ⟨ox, od, nn, I, hdat⟩ := S h w.drop
  refine gTypeOf I (aCons (nameB (v := .type "tuple") b w n k3 (by k_is) (by decide +kernel) (by decide) (aNil ?_)))
  refine gIsSub b w a.c typeOf_tup a.s (tBool ?_)
  refine if_ff (xNil (xRet ?_))
  refine eCallM (nameB (v := .type "tuple") b w n k3 (by k_is) (by decide +kernel) (by decide) ?_)
  with_reducible refine gMethT (v := .builtin "tuple.__getitem__") b w typeOf_tup stub_tup ?e0 ?h0 fun k => ?_
  case e0 => k_is
  case h0 => decide +kernel
  refine cwB (aCons (nameL w n ko t0 (t1 t0) (aCons (eAttr (nameL w n ks t0 t0 (gOwnK b w a.p d1 a.o d2 rfl fun k => aNil ?_))))))
  exact gTupGet b w I hdat a.s hi hz hv (q _ _ w.drop)
theorem tget82 {x C p dp : Addr} {i : Nat} {items : Array Value} {v : Value} {Q : Value → Heap → Nat → Prop} (b : Base (hd.heap_1 c.w.params) mg mb h₀) (w : Led h₀ h l) (hdl : A.depth < 890) (S : Stands h₀ l x C items) (a : TgA (hd.heap_1 c.w.params) p C dp 99 i)
    (hi : i < items.size) (hz : items.size < 1000) (hv : items[i]? = some v) (q : ∀ h' k', Led h₀ h' l → Q v h' k') : GoC c A (.call (.ref 82) ⟨[.ref p, .ref x, .ref C], []⟩) h k Q := by
  refine gEnterK ["self", "obj", "objtype"] [.ref p, .ref x, .ref C] b w (by omega) (by k_is) (by k_is) (binds_K (b.kin.keeps w.keep) rfl (by k_is) rfl rfl rfl) (locs rfl) (by decide) (by decide +kernel) (fun L h k n w => ?_)
  generalize henv : envOf _ _ _ _ _ = env at n ⊢
  have ks : env.kindOf "self" = some .local := by rw [← henv]; rfl
  have ko : env.kindOf "obj" = some .local := by rw [← henv]; rfl
  have k1 : env.kindOf "issubclass" = some .globalImplicit := by rw [← henv]; rfl
  have k2 : env.kindOf "type" = some .globalImplicit := by rw [← henv]; rfl
  have k3 : env.kindOf "tuple" = some .globalImplicit := by rw [← henv]; rfl
  obtain ⟨oD, t, d1, d2⟩ := a.d
  refine xIf (iCmp (nameL w n ko t0 (t1 t0) (eNone (oIs (tBool (if_ff (xNil ?_)))))))
  refine xIf (iNot (iVal (eCallN (nameB (v := .builtin "issubclass") b w n k1 (by k_is) (by decide +kernel) (by decide) (cwB (aCons (eCallN (nameB (v := .type "type") b w n k2 (by k_is) (by decide +kernel) (by decide) (cwF (aCons (nameL w n ko t0 (t1 t0) (aNil ⟨keepType, ?_⟩)))))))))))) 
  obtain ⟨ox, od, nn, I, hdat⟩ := S h w.drop
  refine gTypeOf I (aCons (nameB (v := .type "tuple") b w n k3 (by k_is) (by decide +kernel) (by decide) (aNil ?_)))
  refine gIsSub b w a.c typeOf_tup a.s (tBool ?_)
  refine if_ff (xNil (xRet ?_))
  refine eCallM (nameB (v := .type "tuple") b w n k3 (by k_is) (by decide +kernel) (by decide) ?_)
  with_reducible refine gMethT (v := .builtin "tuple.__getitem__") b w typeOf_tup stub_tup ?e0 ?h0 fun k => ?_
  case e0 => k_is
  case h0 => decide +kernel
  refine cwB (aCons (nameL w n ko t0 (t1 t0) (aCons (eAttr (nameL w n ks t0 t0 (gOwnK b w a.p d1 a.o d2 rfl fun k => aNil ?_))))))
  exact gTupGet b w I hdat a.s hi hz hv (q _ _ w.drop)
end
end Mine

/-! D5 -/
namespace Mine
theorem fillD5 : PySem.Challenge.rw_bn0041_01 = PySem.Challenge.rw_bn0041_01 ∧ hd.heap_1 = hd.heap_1 := by
  k_fill
  exact ⟨rfl, rfl⟩
structure TcA (K : Frag) (C : Addr) (name : Str) (p g : Addr) : Prop where
  ga : findIn K (.ref C) "__getattribute__" = some (some (.builtin "tuple.__getattribute__"))
  gn : findIn K (.ref C) "__getattr__" = some none
  f : findIn K (.ref C) name = some (some (.ref p))
  g : specialIn K (.ref p) "__get__" = some (some (.ref g))
  t : takesIn K (.ref p) = some true
  c : isClsIn K C = true
  s : subIn K (.ref C) (.type "tuple") = some true
section
variable {c : Cx} {A : Around} {h₀ h : Heap} {k : Nat} {l l' : List It} {mg mb : Str → Option Value} {K : Frag} {name : Str} {x C p g : Addr} {items : Array Value}
theorem gTupAttr {expr : Bool} {v : Value} {Q : Value → Heap → Nat → Prop} (b : Base K mg mb h₀) (w : Led h₀ h l) (S : Stands h₀ l x C items) (a : TcA K C name p g) (hh : handedIn v = true)
    (y : ∀ k, GoC c A.in1 (.call (.ref g) ⟨[.ref p, .ref x, .ref C], []⟩) h k fun v' h k => v' = v ∧ Q v h k) : Go c A (getAttr (.ref x) name expr) h k Q := by
  have X := b.kin.keeps w.keep
  obtain ⟨ox, od, n, I, hdat⟩ := S h w
  have L0 := I.type (M := c.m)
  unfold getAttr getAttrBy
  refine Go.bind (wpAny_mkText ⟨_, _, rfl, ?_⟩)
  refine Go.holding (Go.bind (Go.looks L0 (Go.bind (Go.looks (looks_findIn X a.ga) ?_))))
  show Go c A (getAttrByItsOwn (.ref x) (.str name k) (.ref C) (.builtin "tuple.__getattribute__") true expr) h (k + 1) Q
  unfold getAttrByItsOwn hookBefore callGetattribute boundAndCalled
  refine Go.bind (Go.looks (looks_findIn X a.gn) ?_)
  have key : Go c A (boundAndCalled (.builtin "tuple.__getattribute__") (.ref x) (.str name k)) h (k + 1) fun v' h k => v' = v ∧ Q v h k := by
    unfold boundAndCalled
    refine Go.bind ?_
    rw [PySem.F.slot_tuple_getattribute.bind]
    refine Go.pure ?_
    show Go c A (call (.builtin "tuple.__getattribute__") [.ref x, .str name k]) h (k + 1) _
    refine gCallSub (T := "tuple") (n := "__getattribute__") b w I a.s (.inr (by decide +kernel)) (by decide +kernel) PySem.F.slot_tuple_getattribute.plain PySem.F.entry_tuple_ga (PySem.F.args_tuple_getattribute_2 _ _) ?_
    unfold Builtin.«object.__getattribute__»
    refine Go.bind (m := slotArgs "__getattribute__" 1 _) ?_
    show Go c A.in1 (pure (Value.ref x, [Value.str name k])) h (k + 1) _
    refine Go.pure ?_
    dsimp only
    refine Go.bind (Go.pure ?_)
    refine Go.bind (Go.looks L0 ?_)
    refine Go.bind (Go.looks (looks_find X I (findObj_data a.c a.f a.g a.t)) ?_)
    dsimp only
    unfold Builtin.ObjectAttr.bindTo
    dsimp only
    refine Go.bind (Go.holding (Go.ofC ((y (k + 1)).mono fun v' h k z => Go.pure ⟨_, rfl, z⟩)))
  refine Go.bind (wpAny_attempt (Go.toWp (Q := fun v' h k => v' = v ∧ Q v h k) (Go.holding ?_) fun v' h' k' z => ⟨h', k', rfl, ?_⟩))
  · rw [show (expr && onTheHeap (Value.builtin "tuple.__getattribute__")) = false from by cases expr <;> rfl, if_neg Bool.false_ne_true]
    exact key
  · obtain ⟨rfl, z⟩ := z
    show Go c A (handedOut v') h' k' Q
    rw [handedOut_of hh]; exact Go.pure z
end
end Mine

/-! D6 -/
namespace Mine
theorem fillD6 : PySem.Challenge.rw_bn0041_01 = PySem.Challenge.rw_bn0041_01 ∧ hd.heap_1 = hd.heap_1 := by
  k_fill
  exact ⟨rfl, rfl⟩
theorem tc_sec (c : Cx) : TcA (hd.heap_1 c.w.params) 400 "seconds" 392 304 := ⟨by k_is, by k_is, by k_is, by k_is, by k_is, by k_is, by k_is⟩
theorem tc_nam (c : Cx) : TcA (hd.heap_1 c.w.params) 400 "name" 395 304 := ⟨by k_is, by k_is, by k_is, by k_is, by k_is, by k_is, by k_is⟩
theorem tc_rem (c : Cx) : TcA (hd.heap_1 c.w.params) 171 "remaining" 166 82 := ⟨by k_is, by k_is, by k_is, by k_is, by k_is, by k_is, by k_is⟩
theorem tc_res (c : Cx) : TcA (hd.heap_1 c.w.params) 171 "reset_time" 163 82 := ⟨by k_is, by k_is, by k_is, by k_is, by k_is, by k_is, by k_is⟩
theorem o_ix1 (c : Cx) : OwnA (hd.heap_1 c.w.params) 321 "index" := ⟨by k_is, by k_is, _, by k_is, by k_is⟩
theorem o_ix2 (c : Cx) : OwnA (hd.heap_1 c.w.params) 99 "index" := ⟨by k_is, by k_is, _, by k_is, by k_is⟩
theorem tg_sec (c : Cx) : TgA (hd.heap_1 c.w.params) 392 400 391 321 0 := ⟨by k_is, ⟨_, _, by k_is, by rfl⟩, o_ix1 c, by k_is, by k_is⟩
theorem tg_nam (c : Cx) : TgA (hd.heap_1 c.w.params) 395 400 394 321 1 := ⟨by k_is, ⟨_, _, by k_is, by rfl⟩, o_ix1 c, by k_is, by k_is⟩
theorem tg_rem (c : Cx) : TgA (hd.heap_1 c.w.params) 166 171 165 99 1 := ⟨by k_is, ⟨_, _, by k_is, by rfl⟩, o_ix2 c, by k_is, by k_is⟩
theorem tg_res (c : Cx) : TgA (hd.heap_1 c.w.params) 163 171 162 99 0 := ⟨by k_is, ⟨_, _, by k_is, by rfl⟩, o_ix2 c, by k_is, by k_is⟩
section
variable {c : Cx} {A : Around} {h₀ h : Heap} {k : Nat} {l l' : List It} {mg mb : Str → Option Value}
theorem stG (c : Cx) {h₀ : Heap} {l : List It} {mg mb : Str → Option Value} (b : Base (hd.heap_1 c.w.params) mg mb h₀) : ∃ t u, Stands h₀ l 428 400 #[.int 60 t, .str "minute" u] := by
  have key : ∃ t u n, ∃ od, (hd.heap_1 c.w.params).lookup 428 = some ⟨.ref 400, some 427, .seq #[.int 60 t, .str "minute" u] n, #[]⟩ ∧ (hd.heap_1 c.w.params).lookup 427 = some od := by
    refine ⟨_, _, _, _, by k_is, by k_is⟩
  obtain ⟨t, u, n, od, h1, h2⟩ := key
  exact ⟨t, u, fun h' w => ⟨_, od, n, ⟨w.keep _ _ (b.kin _ _ h1), rfl, rfl, w.keep _ _ (b.kin _ _ h2)⟩, rfl⟩⟩
structure SlA (K : Frag) (C : Addr) (nm : Str) (p : Addr) (i : Nat) : Prop where
  pg : plainGet K C nm = true
  cl : isClsIn K C = true
  f : findIn K (.ref C) nm = some (some (.ref p))
  g : specialIn K (.ref p) "__get__" = some (some (.builtin "member_descriptor.__get__"))
  t : takesIn K (.ref p) = some true
  s : slotIn K p C = some i
theorem gSlot {nm : Str} {p C x : Addr} {i : Nat} {v : Value} {expr : Bool} {ox od : Obj} {K : Frag} {Q : Value → Heap → Nat → Prop} (b : Base K mg mb h₀) (w : Led h₀ h l) (I : InstAt h x ox C (some od)) (a : SlA K C nm p i) (hv : (ox.slots[i]?).join = some v) (hh : handedIn v = true) (q : ∀ k, Q v h k) :
    Go c A (getAttr (.ref x) nm expr) h k Q := by
  have X := b.kin.keeps w.keep
  refine get_bind (s := c.s h k) X I (plainGet_of a.pg).1 (findObj_data a.cl a.f a.g a.t) (plainGet_of a.pg).2 (wpAny_call (slot_get (s := c.s h (k + 1)) X I a.s hv ?_))
  show wpAny c.m A (handedOut v) _ _ _
  rw [handedOut_of hh]; exact wpAny_pure ⟨_, _, rfl, q _⟩
structure ClA (K : Frag) (C : Addr) (nm : Str) (v : Value) : Prop where
  pg : plainGet K C nm = true
  hd : hasDictIn K C = true
  f : findIn K (.ref C) nm = some (some v)
  g : specialIn K v "__get__" = some none
theorem gClsAt {nm : Str} {C x : Addr} {v : Value} {expr : Bool} {ox od : Obj} {K : Frag} {Q : Value → Heap → Nat → Prop} (b : Base K mg mb h₀) (w : Led h₀ h l) (I : InstAt h x ox C (some od)) (f : Frm [] od) (a : ClA K C nm v) (hh : handedIn v = true) (hc : copiedNames.contains nm = false) (q : ∀ k, Q v h k) :
    Go c A (getAttr (.ref x) nm expr) h k Q :=
  get_value (s := c.s h k) (b.kin.keeps w.keep) I (plainGet_of a.pg).1 (findObj_cls a.hd a.f a.g hh hc (by rw [look_of_ns f.2]; rfl)) hh ⟨_, _, rfl, q _⟩
theorem item_at {ad : Ad} (w : Led h₀ h l) (hm : (ad.it, ItemP ad) ∈ l) (hd : (ad.itd, Frm []) ∈ l) : ∃ t1 t2 t3 od, InstAt h ad.it ⟨.ref 512, some ad.itd, .plain, #[some (.int ad.amt t1), some (.int ad.mul t2), some (.str "LIMITER" t3)]⟩ 512 (some od) ∧ Frm [] od := by
  obtain ⟨o, e, t1, t2, t3, rfl⟩ := w.get hm
  obtain ⟨od, e', f⟩ := w.get hd
  exact ⟨t1, t2, t3, od, ⟨e, rfl, rfl, e'⟩, f⟩
end
theorem sl_amt (c : Cx) : SlA (hd.heap_1 c.w.params) 512 "amount" 498 0 := ⟨by k_is, by k_is, by k_is, by k_is, by k_is, by k_is⟩
theorem sl_mul (c : Cx) : SlA (hd.heap_1 c.w.params) 512 "multiples" 499 1 := ⟨by k_is, by k_is, by k_is, by k_is, by k_is, by k_is⟩
theorem sl_nsp (c : Cx) : SlA (hd.heap_1 c.w.params) 512 "namespace" 500 2 := ⟨by k_is, by k_is, by k_is, by k_is, by k_is, by k_is⟩
theorem cl_gran (c : Cx) : ClA (hd.heap_1 c.w.params) 512 "GRANULARITY" (.ref 428) := ⟨by k_is, by k_is, by k_is, by k_is⟩
section
variable {c : Cx} {A : Around} {h₀ h : Heap} {k : Nat} {l l' : List It} {mg mb : Str → Option Value}
theorem iexp_ {ad : Ad} {Q : Value → Heap → Nat → Prop} (b : Base (hd.heap_1 c.w.params) mg mb h₀) (w : Led h₀ h l) (hm : (ad.it, ItemP ad) ∈ l) (hdd : (ad.itd, Frm []) ∈ l) (hdl : A.depth < 850)
    (q : ∀ t h' k', Led h₀ h' l → Q (.int (60 * ad.mul) t) h' k') : GoC c A (.call (.ref 467) ⟨[.ref ad.it], []⟩) h k Q := by
  refine gEnterK ["self"] [.ref ad.it] b w (by omega) (by k_is) (by k_is) (BindsTo.of_eq rfl) (locs rfl) (by decide) (by decide +kernel) (fun L h k n w => ?_)
  generalize henv : envOf _ _ _ _ _ = env at n ⊢
  have ks : env.kindOf "self" = some .local := by rw [← henv]; rfl
  obtain ⟨t1, t2, t3, od, I, f⟩ := item_at w (.tail _ hm) (.tail _ hdd)
  obtain ⟨tg, ug, S⟩ := stG c (l := (L, Frm (zipV ["self"] [.ref ad.it])) :: l) b
  refine xDoc n.k fun k => xRet (eBin (eAttr (eAttr (nameL w n ks t0 t0 (gClsAt b w I f (cl_gran c) (by rfl) (by rfl) fun k => ?_)))))
  refine gTupAttr b w S (tc_sec c) (v := .int 60 tg) rfl fun k => tget304 (i := 0) b w (by show A.depth + 1 < 890; omega) S (tg_sec c) (show 0 < 2 by decide) (show 2 < 1000 by decide) rfl fun h k w => ⟨rfl, ?_⟩
  obtain ⟨t1, t2, t3, od, I, f⟩ := item_at w (.tail _ hm) (.tail _ hdd)
  refine eAttr (nameL w n ks t0 t0 (gSlot b w I (sl_mul c) rfl rfl fun k => oMul (IntMulOk.of_left (by decide)) fun t k => q t _ _ w.drop))
end
end Mine

/-! D7 -/
namespace Mine
theorem fillD7 : PySem.Challenge.rw_bn0041_01 = PySem.Challenge.rw_bn0041_01 ∧ hd.heap_1 = hd.heap_1 := by
  k_fill
  exact ⟨rfl, rfl⟩
section
variable {c : Cx} {A : Around} {h₀ h h' : Heap} {k : Nat} {l l' : List It} {env : Env} {L a it : Addr} {K : Frag} {mg mb : Str → Option Value} {vs : List Value}
theorem gEnterV {f : Addr} {oc : Value} {od : Option Addr} {osl : Array (Option Value)} {fname qual : Str} {params : Arguments} {body : List Stmt} {scope : Scope} {dV kV doc pm cdv ct : Value} {an : Option Addr} {args : Args} (ns : List Str) (vals va : List Value) {Q : Value → Heap → Nat → Prop}
    (b : Base K mg mb h₀) (w : Led h₀ h l) (hd : A.depth < 900) (ho : K.lookup f = some ⟨oc, od, .func (fnOf fname qual params body scope dV kV doc pm an cdv ct), osl⟩) (hcd : codeIn K cdv qual = true)
    (hbind : bindArgs (fnOf fname qual params body scope dV kV doc pm an cdv ct) args = (newTuple va >>= fun t => pure (ns.zip (vals ++ [t])))) (hsz : va.length ≤ 100) (hloc : ∀ t, ∀ x ∈ ns.zip (vals ++ [t]), scope.names.lookup x.1 = some .local) (hcell : ∀ x ∈ scope.names, x.2 ≠ .cell)
    (hnd : ns.Nodup)
    (q : ∀ T L h' k', EnvOk (envOf qual scope L f cdv) L → Led h₀ h' ((L, Frm (zipV ns (vals ++ [.ref T]))) :: (T, TupV va) :: l) → Go c (A.deeper (envOf qual scope L f cdv)) (execs body (envOf qual scope L f cdv)) h' k' (fun fl h'' k'' => Q (match fl with | .ret v => v | _ => .none) h'' k''))
    (hco : scope.isCoroutine = false := by rfl) (hgen : scope.isGenerator = false := by rfl) (hk : scope.kind = .function := by rfl) : GoC c A (.call (.ref f) args) h k Q := by
  refine codeAny_call_function (fd := fnOf fname qual params body scope dV kV doc pm an cdv ct) (body := body) (Nat.lt_of_lt_of_le hd (by decide)) (w.keep _ _ (b.kin _ _ ho)) rfl hco hgen rfl ((codeRec_of b.kin hcd).keeps w.keep) ?_
  rw [hbind]
  refine wpAny_bind (wpAny_newTuple ?_ (by rw [sizeLine_eq]; omega))
  have w1 := w.alloc { cls := .type "tuple", data := .seq va.toArray } (P := TupV va) rfl ⟨_, rfl⟩
  generalize hT : h.objs.size = T at w1
  generalize hH : h.push { cls := .type "tuple", data := .seq va.toArray } = H at w1
  refine wpAny_pure (wpAny_newFunctionEnv hcell (hloc _) (fun h₁ hns hsb => ?_) hk)
  have e1 : (c.s h k).heap.objs.size = T := hT
  have e2 : (c.s h k).heap.push { cls := .type "tuple", data := .seq va.toArray } = H := hH
  simp only [e1, e2] at hns hsb ⊢
  have hk₁ : ∀ b o, H.get? b = some o → h₁.get? b = some o := fun b o e => hsb.extBut b o (Nat.ne_of_lt (Heap.lt_size e)) (Heap.get?_push_of_some _ e)
  obtain ⟨o₁, e₁, n₁⟩ := ns_iff.mp hns
  have w2 : Led h₀ h₁ ((H.objs.size, Frm (zipV ns (vals ++ [.ref T]))) :: (T, TupV va) :: l) := by
    refine w1.push hk₁ ⟨o₁, e₁, by rw [zipV_keys]; exact hnd, ?_⟩
    have : (fun y => (ns.zip (vals ++ [Value.ref T])).reverse.lookup y) = fm (zipV ns (vals ++ [.ref T])) := by
      funext y
      rw [zipV_eq]
      exact fm_bind ((zip_keys_sub ns _).nodup hnd) y
    exact this ▸ n₁
  exact ⟨(b.nolimit.keeps w1.keep).fresh _ hsb, codeAny_func (Go.toWp (q T _ h₁ _ ⟨hk, rfl, rfl, rfl⟩ w2) fun fl h' k' z => ⟨h', k', rfl, z⟩)⟩
end
end Mine

/-! D8 -/
namespace Mine
section
variable {c : Cx} {A : Around} {h₀ h h' : Heap} {k : Nat} {l l' : List It} {env : Env} {L a it : Addr} {K : Frag} {mg mb : Str → Option Value} {P P' : Obj → Prop} {vs : List Value}
def TIterP (a : Addr) (i : Nat) (o : Obj) : Prop := o.cls = .type "tuple_iterator" ∧ o.data = .fields #[.ref a, .int i 0]
theorem TupV.is2 (w : Led h₀ h l) (hm : (a, TupV vs) ∈ l) : h.IsTuple a vs.toArray := by
  obtain ⟨o, e, n, rfl⟩ := w.get hm
  exact ⟨_, e, rfl, n, rfl⟩
theorem gIterT {Q : Value → Heap → Nat → Prop} (w : Led h₀ h l) (hm : (a, TupV vs) ∈ l) (q : ∀ it h', Led h₀ h' ((it, TIterP a 0) :: l) → Q (.ref it) h' k) : Go c A (pyIter (.ref a)) h k Q :=
  wpAny_pyIter_tuple (TupV.is2 w hm) ⟨_, _, rfl, q _ _ (w.alloc _ rfl ⟨rfl, rfl⟩)⟩
theorem gNextIT {i : Nat} {v : Value} {Q : Option Value → Heap → Nat → Prop} (w : Led h₀ h ((it, TIterP a i) :: l)) (hm : (a, TupV vs) ∈ l) (hv : vs[i]? = some v) (q : ∀ h', Led h₀ h' ((it, TIterP a (i + 1)) :: l) → Q (some v) h' k) :
    Go c A (pyNext (.ref it)) h k Q := by
  obtain ⟨o, e, hc, hd⟩ := w.get (.head _)
  refine wpAny_pyNext_tuple_item ⟨o, e, hc, hd⟩ (TupV.is2 w (.tail _ hm)) (by simpa using hv) fun h' hit hs => ⟨h', k, rfl, q h' (w.same .z hs ?_)⟩
  obtain ⟨o', e', c', d'⟩ := hit
  exact ⟨o', e', c', d'⟩
theorem gNextET {i : Nat} {Q : Option Value → Heap → Nat → Prop} (hA : A.handled = none) (w : Led h₀ h ((it, TIterP a i) :: l)) (hm : (a, TupV vs) ∈ l) (hv : vs[i]? = none) (q : ∀ h', Led h₀ h' l → Q none h' k) :
    Go c A (pyNext (.ref it)) h k Q := by
  obtain ⟨o, e, hc, hd⟩ := w.get (.head _)
  exact wpAny_pyNext_tuple_end hA ⟨o, e, hc, hd⟩ (TupV.is2 w (.tail _ hm)) (by simpa using hv) fun h' hs => ⟨h', k, rfl, q h' (w.ext hs)⟩

/-- a for over a list whose things do not change: the ledger behind the iterator is any that the invariant names -/
theorem xForT {target iter : PySem.Expr} {body rest : List Stmt} {pos : Pos} {Q : Flow → Heap → Nat → Prop} (hA : A.handled = none)
    (x : Go c A (eval iter env) h k fun v h k => ∃ (J : Nat → List It → Prop) (a : Addr) (vs : List Value) (l : List It), v = .ref a ∧ Led h₀ h l ∧ (a, TupV vs) ∈ l ∧ J 0 l ∧
      (∀ it i v h k l, vs[i]? = some v → Led h₀ h ((it, TIterP a (i + 1)) :: l) → (a, TupV vs) ∈ l → J i l → Go c A (assign target env v) h k fun _ h k => Go c A (execs body env) h k fun f h k => match f with
        | .next | .cont => ∃ l', Led h₀ h ((it, TIterP a (i + 1)) :: l') ∧ (a, TupV vs) ∈ l' ∧ J (i + 1) l'
        | .brk => Go c A (execs rest env) h k Q
        | .ret v => Q (.ret v) h k) ∧
      (∀ h k l, Led h₀ h l → (a, TupV vs) ∈ l → J vs.length l → Go c A (execs rest env) h k Q))
    (hs : ∀ x, foldedSetIterable iter env x = pure x := by intro _; rfl) (ht : ∀ it v, letOwnedTupleGo target it v = pure () := by intro _ _; rfl) : Go c A (execs (.For target iter body [] pos :: rest) env) h k Q := by
  refine xCons (wpAny_For (x.toWp fun v h k z => ?_) hs)
  obtain ⟨J, a, vs, l, rfl, w, hm, j, step, fin⟩ := z
  refine Go.toWp (Q := fun it h k => ∃ it', it = .ref it' ∧ Led h₀ h ((it', TIterP a 0) :: l)) (gIterT w hm fun it h' w' => ⟨it, rfl, w'⟩) fun it h k z => ?_
  obtain ⟨it, rfl, w⟩ := z
  refine codeAny_forLoop (fun n s' => ∃ i h k l, n + i = vs.length + 1 ∧ i ≤ vs.length ∧ s' = c.s h k ∧ Led h₀ h ((it, TIterP a i) :: l) ∧ (a, TupV vs) ∈ l ∧ J i l) ?_ (vs.length + 1) ⟨0, h, k, l, rfl, Nat.zero_le _, rfl, w, hm, j⟩ (ht _)
  rintro n s' ⟨i, h, k, l, hn, hi, rfl, w, hm, j⟩
  cases hv : vs[i]? with
  | none =>
    have : i = vs.length := Nat.le_antisymm hi (by simpa using hv)
    subst this
    refine Go.toWp (Q := fun r h k => r = none ∧ Led h₀ h l) (gNextET hA w hm hv fun h' w' => ⟨rfl, w'⟩) fun r h k z => ?_
    obtain ⟨rfl, w⟩ := z
    exact wpAny_execs_nil ⟨h, k, rfl, fin h k l w hm j⟩
  | some v =>
    have hlt : i < vs.length := (List.getElem?_eq_some_iff.mp hv).1
    refine Go.toWp (Q := fun r h k => r = some v ∧ Led h₀ h ((it, TIterP a (i + 1)) :: l)) (gNextIT w hm hv fun h' w' => ⟨rfl, w'⟩) fun r h k z => ?_
    obtain ⟨rfl, w⟩ := z
    refine (step it i v h k l hv w hm j).toWp fun _ h k y => y.toWp fun f h k z => ?_
    cases f with
    | next => obtain ⟨l', w, hm, j⟩ := z; exact ⟨n - 1, by omega, i + 1, h, k, l', by omega, by omega, rfl, w, hm, j⟩
    | cont => obtain ⟨l', w, hm, j⟩ := z; exact ⟨n - 1, by omega, i + 1, h, k, l', by omega, by omega, rfl, w, hm, j⟩
    | brk => exact ⟨h, k, rfl, z⟩
    | ret v => exact ⟨h, k, rfl, z⟩
/-- the turns of a comprehension -/
theorem compTurnsT {elt iter : PySem.Expr} {x : Str} {px : Pos} {ifs : List PySem.Expr} {scope : Scope} {pos : Pos} {cenv : Env} {C D it : Addr} {u : Option Value} {R : Result → Shared → Prop} (hA : A.handled = none) (hx : cenv.kindOf x = some .local) (hC : cenv.locals = C) (hp : (cenv.scope.kind == .class || (cenv.scope.kind == .module && cenv.locals != cenv.globals)) = false)
    (J : Nat → List Value → List It → Prop) (w : Led h₀ h ((it, TIterP a 0) :: (C, Frm [(x, u)]) :: (D, LstV []) :: l)) (hm : (a, TupV vs) ∈ l) (hsz : vs.length ≤ sizeLine) (j : J 0 [] l)
    (step : ∀ it i v ys h k l, vs[i]? = some v → Led h₀ h ((it, TIterP a (i + 1)) :: (C, Frm [(x, some v)]) :: (D, LstV ys) :: l) → (a, TupV vs) ∈ l → J i ys l →
      Go c A (forIn ifs true fun e r => if r = true then do let ok ← isTrue e cenv (eval e cenv); pure (ForInStep.yield ok) else pure (ForInStep.yield r)) h k fun ok h k =>
        if ok = true then Go c A (eval elt cenv) h k fun y h k => ∃ l', Led h₀ h ((it, TIterP a (i + 1)) :: (C, Frm [(x, some v)]) :: (D, LstV ys) :: l') ∧ (a, TupV vs) ∈ l' ∧ J (i + 1) (ys ++ [y]) l'
        else ∃ l', Led h₀ h ((it, TIterP a (i + 1)) :: (C, Frm [(x, some v)]) :: (D, LstV ys) :: l') ∧ (a, TupV vs) ∈ l' ∧ J (i + 1) ys l')
    (fin : ∀ ys u h k l, Led h₀ h ((C, Frm [(x, u)]) :: (D, LstV ys) :: l) → (a, TupV vs) ∈ l → J vs.length ys l → R (.ok .next) (c.s h k)) :
    codeAny c.m A (.compLoop (.ListComp elt [⟨.Name x px, iter, ifs, 0⟩] scope pos) 0 (.ref it) (.ref D) cenv) R (c.s h k) := by
  refine codeAny_compLoop_tests (fun n s' => ∃ i ys u h k l, n + i = vs.length + 1 ∧ i ≤ vs.length ∧ ys.length ≤ i ∧ s' = c.s h k ∧ Led h₀ h ((it, TIterP a i) :: (C, Frm [(x, u)]) :: (D, LstV ys) :: l) ∧ (a, TupV vs) ∈ l ∧ J i ys l) ?_ (vs.length + 1)
    ⟨0, [], u, h, k, l, rfl, Nat.zero_le _, Nat.le_refl _, rfl, w, hm, j⟩
  rintro n s' ⟨i, ys, u, h, k, l, hn, hi, hys, rfl, w, hm, j⟩
  cases hv : vs[i]? with
  | none =>
    have : i = vs.length := Nat.le_antisymm hi (by simpa using hv)
    subst this
    refine Go.toWp (Q := fun r h k => r = none ∧ Led h₀ h ((C, Frm [(x, u)]) :: (D, LstV ys) :: l)) (gNextET hA w (.tail _ (.tail _ hm)) hv fun h' w' => ⟨rfl, w'⟩) fun r h k z => ?_
    obtain ⟨rfl, w⟩ := z
    exact fin ys u h k l w hm j
  | some v =>
    have hlt : i < vs.length := (List.getElem?_eq_some_iff.mp hv).1
    refine Go.toWp (Q := fun r h k => r = some v ∧ Led h₀ h ((it, TIterP a (i + 1)) :: (C, Frm [(x, u)]) :: (D, LstV ys) :: l)) (gNextIT w (.tail _ (.tail _ hm)) hv fun h' w' => ⟨rfl, w'⟩) fun r h k z => ?_
    obtain ⟨rfl, w⟩ := z
    subst hC
    obtain ⟨o, e, f⟩ := w.get (a := cenv.locals) (.tail _ (.head _))
    refine wpAny_assign_Name (wpAny_storeName_local hx (ns_iff.mpr ⟨o, e, f.2⟩) (fun h' hn' hs' => ?_) hp)
    have w : Led h₀ h' ((it, TIterP a (i + 1)) :: (cenv.locals, Frm [(x, some v)]) :: (D, LstV ys) :: l) := by
      refine w.same (.s .z) hs' ?_
      obtain ⟨o', e', f'⟩ := ns_iff.mp hn'
      refine ⟨o', e', f.1, ?_⟩
      rw [(SetF.z (x := x) (v := v) (u := u) (r := [])).fm f.1] at f'
      exact f'
    refine (step it i v ys h' _ l hv w hm j).toWp fun ok h k y => ?_
    cases ok with
    | false =>
      rw [if_neg Bool.false_ne_true] at y ⊢
      obtain ⟨l', w, hm, j⟩ := y
      exact ⟨n - 1, by omega, i + 1, ys, _, h, k, l', by omega, by omega, by omega, rfl, w, hm, j⟩
    | true =>
      rw [if_pos rfl] at y ⊢
      refine Go.toWp y fun y h k z => ?_
      obtain ⟨l', w, hm, j⟩ := z
      refine wpAny_list_append_plain (hsz := by rw [List.size_toArray]; omega) (LstV.pl w (a := D) (.tail _ (.tail _ (.head _)))) fun h₅ hl₅ hs₅ => ?_
      exact ⟨n - 1, by omega, i + 1, ys ++ [y], _, h₅, k, l', by omega, by omega, by simp; omega, rfl, w.same (.s (.s .z)) hs₅ (LstV.of hl₅ (by simp)), hm, j⟩

/-- the comprehension, its use of the list apart -/
theorem compCoreT {elt iter : PySem.Expr} {x : Str} {px : Pos} {ifs : List PySem.Expr} {scope : Scope} {cl : List (Str × Addr)} {pos : Pos} {use : Option (Value → Sem Unit)} {Q : Value → Heap → Nat → Prop} (hA : A.handled = none)
    (hclos : closureFor scope env = pure cl) (hcell : ∀ y ∈ scope.names, y.2 ≠ .cell) (hkind : scope.kind = .function) (hnames : ∀ y ∈ scope.names, y.2 = .local → scope.names.lookup y.1 = some .local) (hx : scope.names.lookup x = some .local)
    (J : Nat → List Value → List It → Prop)
    (y : Go c A (eval iter env) h k fun v h k => ∃ a vs l, v = .ref a ∧ Led h₀ h l ∧ (a, TupV vs) ∈ l ∧ vs.length ≤ sizeLine ∧ J 0 [] l ∧
      (∀ C D it i v ys h k l, vs[i]? = some v → Led h₀ h ((it, TIterP a (i + 1)) :: (C, Frm [(x, some v)]) :: (D, LstV ys) :: l) → (a, TupV vs) ∈ l → J i ys l →
        Go c A (forIn ifs true fun e r => if r = true then do let ok ← isTrue e (compEnvC scope cl C env) (eval e (compEnvC scope cl C env)); pure (ForInStep.yield ok) else pure (ForInStep.yield r)) h k fun ok h k =>
          if ok = true then Go c A (eval elt (compEnvC scope cl C env)) h k fun y h k => ∃ l', Led h₀ h ((it, TIterP a (i + 1)) :: (C, Frm [(x, some v)]) :: (D, LstV ys) :: l') ∧ (a, TupV vs) ∈ l' ∧ J (i + 1) (ys ++ [y]) l'
          else ∃ l', Led h₀ h ((it, TIterP a (i + 1)) :: (C, Frm [(x, some v)]) :: (D, LstV ys) :: l') ∧ (a, TupV vs) ∈ l' ∧ J (i + 1) ys l') ∧
      (∀ D ys h k l, Led h₀ h ((D, LstV ys) :: l) → J vs.length ys l → match use with
        | none => Q (.ref D) h k
        | some u => ∀ C P, Led h₀ h ((C, P) :: (D, LstV ys) :: l) → Go c A (u (.ref D)) h k fun _ h k => ∃ l', Led h₀ h ((C, P) :: l') ∧ ∀ h, Led h₀ h l' → Q .none h k))
    (hs : ∀ x, foldedSetIterable iter env x = pure x := by intro _; rfl) :
    Go c A (comprehension (.ListComp elt [⟨.Name x px, iter, ifs, 0⟩] scope pos) scope env (firstIterPos [⟨.Name x px, iter, ifs, 0⟩] pos) (newList []) false (firstIter [⟨.Name x px, iter, ifs, 0⟩] env) use) h k Q := by
  refine wpAny_comprehension_free rfl hs hclos hkind hnames (Go.toWp y fun v h k z => ?_)
  obtain ⟨a, vs, l, rfl, w, hm, hsz, j, step, fin⟩ := z
  refine Go.toWp (Q := fun it h k => ∃ it', it = .ref it' ∧ Led h₀ h ((it', TIterP a 0) :: l)) (gIterT w hm fun it h' w' => ⟨it, rfl, w'⟩) fun it h k z => ?_
  obtain ⟨it, rfl, w⟩ := z
  refine wpAny_newObj_type (wpAny_newFunctionEnv hcell (by intro y hy; simp at hy) (fun h₁ hns₁ hsb₁ => ?_) hkind)
  dsimp only at hns₁ hsb₁ ⊢
  have w1 := w.alloc { cls := .type "list", dict := none, data := .seq ([] : List Value).toArray } (P := LstV []) rfl ⟨_, rfl⟩
  have w2 := w1.alloc { cls := .type "dict", data := .dict #[] } (P := fun _ => True) rfl trivial
  generalize hD : h.objs.size = D at w1 w2 hns₁ hsb₁ ⊢
  generalize hC : (h.push { cls := .type "list", dict := none, data := .seq ([] : List Value).toArray }).objs.size = C at w2 hns₁ hsb₁ ⊢
  have w3 : Led h₀ h₁ ((C, Frm [(x, none)]) :: (D, LstV []) :: (it, TIterP a 0) :: l) := by
    refine w2.same .z hsb₁ ?_
    obtain ⟨o', e', f'⟩ := ns_iff.mp hns₁
    refine ⟨o', e', by simp, ?_⟩
    have : (fun y : Str => ([] : List (Str × Value)).reverse.lookup y) = fm [(x, none)] := by
      funext y; unfold fm; split <;> rfl
    rw [this] at f'; exact f'
  have w4 : Led h₀ h₁ ((it, TIterP a 0) :: (C, Frm [(x, none)]) :: (D, LstV []) :: l) := w3.perm (List.Perm.trans ((List.Perm.swap _ _ _).cons _) (List.Perm.swap _ _ _))
  obtain ⟨oi, ei, ci, di⟩ := w4.get (a := it) (.head _)
  have loop := compTurnsT (elt := elt) (iter := iter) (px := px) (ifs := ifs) (scope := scope) (pos := pos) (cenv := compEnvC scope cl C env) (C := C) (k := k) (R := compPost c.m A (fun _ _ => False) use (fun v s' => ∃ h' k', s' = c.s h' k' ∧ Q v h' k') (.ref D) C)
    hA (lookup_relabel_local hx) rfl (by simp [compEnvC, relabel, hkind]) J w4 hm hsz j (step C D) fun ys u h k l w hm j => ?_
  · exact codeAny_compStart_list loop (wpAny_pyIter_tupleiter ⟨oi, ei, ci, di⟩ loop)
  · have f := fin D ys h k l w.drop j
    cases use with
    | none =>
      obtain ⟨o', e', f'⟩ := w.get (.head _)
      exact ⟨_, ns_iff.mpr ⟨o', e', f'.2⟩, fun h' hs' => ⟨h', k, rfl, fin D ys h' k l (w.ext hs'.extBut) j⟩⟩
    | some u =>
      refine Go.toWp (f C _ w) fun _ h k z => ?_
      obtain ⟨l', w', z⟩ := z
      obtain ⟨o', e', f'⟩ := w'.get (.head _)
      exact ⟨_, ns_iff.mpr ⟨o', e', f'.2⟩, fun h' hs' => ⟨h', k, rfl, z h' (w'.ext hs'.extBut)⟩⟩

theorem eCompT {elt iter : PySem.Expr} {x : Str} {px : Pos} {ifs : List PySem.Expr} {scope : Scope} {cl : List (Str × Addr)} {pos : Pos} {Q : Value → Heap → Nat → Prop} (hA : A.handled = none)
    (hclos : closureFor scope env = pure cl) (hcell : ∀ y ∈ scope.names, y.2 ≠ .cell) (hkind : scope.kind = .function) (hnames : ∀ y ∈ scope.names, y.2 = .local → scope.names.lookup y.1 = some .local) (hx : scope.names.lookup x = some .local)
    (J : Nat → List Value → List It → Prop)
    (y : Go c A (eval iter env) h k fun v h k => ∃ a vs l, v = .ref a ∧ Led h₀ h l ∧ (a, TupV vs) ∈ l ∧ vs.length ≤ sizeLine ∧ J 0 [] l ∧
      (∀ C D it i v ys h k l, vs[i]? = some v → Led h₀ h ((it, TIterP a (i + 1)) :: (C, Frm [(x, some v)]) :: (D, LstV ys) :: l) → (a, TupV vs) ∈ l → J i ys l →
        Go c A (forIn ifs true fun e r => if r = true then do let ok ← isTrue e (compEnvC scope cl C env) (eval e (compEnvC scope cl C env)); pure (ForInStep.yield ok) else pure (ForInStep.yield r)) h k fun ok h k =>
          if ok = true then Go c A (eval elt (compEnvC scope cl C env)) h k fun y h k => ∃ l', Led h₀ h ((it, TIterP a (i + 1)) :: (C, Frm [(x, some v)]) :: (D, LstV ys) :: l') ∧ (a, TupV vs) ∈ l' ∧ J (i + 1) (ys ++ [y]) l'
          else ∃ l', Led h₀ h ((it, TIterP a (i + 1)) :: (C, Frm [(x, some v)]) :: (D, LstV ys) :: l') ∧ (a, TupV vs) ∈ l' ∧ J (i + 1) ys l') ∧
      (∀ D ys h k l, Led h₀ h ((D, LstV ys) :: l) → J vs.length ys l → Q (.ref D) h k))
    (hs : ∀ x, foldedSetIterable iter env x = pure x := by intro _; rfl) : Go c A (eval (.ListComp elt [⟨.Name x px, iter, ifs, 0⟩] scope pos) env) h k Q := by
  unfold Go
  rw [eval_ListComp]
  exact compCoreT (use := none) hA hclos hcell hkind hnames hx J y hs
theorem xCompT {elt iter : PySem.Expr} {x y : Str} {px py : Pos} {ifs : List PySem.Expr} {scope : Scope} {cl : List (Str × Addr)} {pos spos : Pos} {rest : List Stmt} {Q : Flow → Heap → Nat → Prop} (hA : A.handled = none)
    (hsw : swapsWith (.ListComp elt [⟨.Name x px, iter, ifs, 0⟩] scope pos) (some (.Name y py)) spos.line env = pure true)
    (hclos : closureFor scope env = pure cl) (hcell : ∀ y ∈ scope.names, y.2 ≠ .cell) (hkind : scope.kind = .function) (hnames : ∀ y ∈ scope.names, y.2 = .local → scope.names.lookup y.1 = some .local) (hx : scope.names.lookup x = some .local)
    (J : Nat → List Value → List It → Prop)
    (z : Go c A (eval iter env) h k fun v h k => ∃ a vs l, v = .ref a ∧ Led h₀ h l ∧ (a, TupV vs) ∈ l ∧ vs.length ≤ sizeLine ∧ J 0 [] l ∧
      (∀ C D it i v ys h k l, vs[i]? = some v → Led h₀ h ((it, TIterP a (i + 1)) :: (C, Frm [(x, some v)]) :: (D, LstV ys) :: l) → (a, TupV vs) ∈ l → J i ys l →
        Go c A (forIn ifs true fun e r => if r = true then do let ok ← isTrue e (compEnvC scope cl C env) (eval e (compEnvC scope cl C env)); pure (ForInStep.yield ok) else pure (ForInStep.yield r)) h k fun ok h k =>
          if ok = true then Go c A (eval elt (compEnvC scope cl C env)) h k fun y h k => ∃ l', Led h₀ h ((it, TIterP a (i + 1)) :: (C, Frm [(x, some v)]) :: (D, LstV ys) :: l') ∧ (a, TupV vs) ∈ l' ∧ J (i + 1) (ys ++ [y]) l'
          else ∃ l', Led h₀ h ((it, TIterP a (i + 1)) :: (C, Frm [(x, some v)]) :: (D, LstV ys) :: l') ∧ (a, TupV vs) ∈ l' ∧ J (i + 1) ys l') ∧
      (∀ D ys h k l, Led h₀ h ((D, LstV ys) :: l) → J vs.length ys l → ∀ C P, Led h₀ h ((C, P) :: (D, LstV ys) :: l) → Go c A (storeName env y (.ref D)) h k fun _ h k => ∃ l', Led h₀ h ((C, P) :: l') ∧ ∀ h, Led h₀ h l' → Go c A (execs rest env) h k Q))
    (hs : ∀ x, foldedSetIterable iter env x = pure x := by intro _; rfl) : Go c A (execs (.Assign [.Name y py] (.ListComp elt [⟨.Name x px, iter, ifs, 0⟩] scope pos) spos :: rest) env) h k Q := by
  refine xCons ?_
  unfold Go
  rw [exec_Assign_Name_used _ _ _ _ hsw]
  refine wpAny_bind (wpAny_standAt (wpAny_bind ?_))
  refine wpAny_bind (Go.toWp (Q := fun _ h k => Go c A (execs rest env) h k Q) (compCoreT (h₀ := h₀) (use := some (assign (.Name y py) env)) hA hclos hcell hkind hnames hx J (z.mono fun v h k z => ?_) hs) fun _ h k z => wpAny_pure (wpAny_pure ⟨h, k, rfl, z⟩))
  obtain ⟨a, vs, l, e, w, hm, hsz, j, step, fin⟩ := z
  exact ⟨a, vs, l, e, w, hm, hsz, j, step, fun D ys h k l w j C P w' => aName (fin D ys h k l w j C P w')⟩
end
end Mine

/-! D9 -/
namespace Mine
theorem fillD9 : PySem.Challenge.rw_bn0041_01 = PySem.Challenge.rw_bn0041_01 ∧ hd.heap_1 = hd.heap_1 := by
  k_fill
  exact ⟨rfl, rfl⟩
section
variable {c : Cx} {A : Around} {h₀ h : Heap} {k : Nat} {l l' : List It} {env : Env} {mg mb : Str → Option Value} {a e : Addr} {vs ws : List Value} {pos : Pos}
theorem oAddL {Q : Value → Heap → Nat → Prop} (w : Led h₀ h l) (hm : (a, LstV vs) ∈ l) (hb : (e, LstV ws) ∈ l) (hz : vs.length + ws.length ≤ 1000000) (q : ∀ T h', Led h₀ h' ((T, LstV (vs ++ ws)) :: l) → Q (.ref T) h' k) : Go c A (binaryOp .Add (.ref a) (.ref e)) h k Q := by
  obtain ⟨o1, e1, n1, rfl⟩ := w.get hm
  obtain ⟨o2, e2, n2, rfl⟩ := w.get hb
  exact P.add_list (s := c.s h k) e1 e2 ⟨_, _, rfl, q _ _ (w.alloc _ rfl ⟨0, by simp⟩)⟩ (by rw [List.size_toArray, List.size_toArray, sizeLine_eq]; omega)
theorem gJoin {sep : Str} {t : Tok} {p q' : Str × Tok} {xs : List (Str × Tok)} {Q : Value → Heap → Nat → Prop} (w : Led h₀ h l) (hm : (a, LstV (strValues (p :: q' :: xs))) ∈ l) (hz : Builtin.Str.tooLong (((p :: q' :: xs).map (·.1)).toArray.foldl (· + ·.length + sep.length) 0) = false)
    (hz2 : (Builtin.Str.glued sep ((p :: q' :: xs).map (·.1))).length ≤ sizeLine) (q : ∀ t' k', Q (.str (Builtin.Str.glued sep ((p :: q' :: xs).map (·.1))) t') h k') : Go c A (call (.builtin "str.join") [.str sep t, .ref a]) h k Q := by
  obtain ⟨other, ht⟩ := join_tree sep t a
  obtain ⟨o1, e1, n1, rfl⟩ := w.get hm
  refine Go.ofC (codeAny_call_builtin PySem.F.slot_str_join.plain PySem.F.entry_str_join (PySem.F.slot_str_join.check _ _ _ _ _ _ _ _ (typeIs_str _ _ _) (PySem.F.args_str_join_2 _ _) ?_))
  rw [ht]
  refine wpAny_bind (wpAny_typeOf (T := "list") ⟨_, e1, rfl⟩ ?_)
  rw [if_pos (by decide)]
  refine wpAny_bind (wpAny_seqItems e1 rfl ?_)
  exact gives_joinTail sep (p :: q' :: xs) hz pg c.w A (fun r s' => match r with | .ok (.ret v) => ∃ h' k', s' = c.s h' k' ∧ Q v h' k' | _ => False) (c.s h k) ⟨hz2, _, _, rfl, q _ _⟩
theorem safeS {x : Str} {t : Tok} {Q : Value → Heap → Nat → Prop} (b : Base (hd.heap_1 c.w.params) mg mb h₀) (w : Led h₀ h l) (hdl : A.depth < 890) (q : ∀ h' k', Led h₀ h' l → Q (.str x t) h' k') : GoC c A (.call (.ref 332) ⟨[.str x t], []⟩) h k Q := by
  refine gEnterK ["value"] [.str x t] b w (by omega) (by k_is) (by k_is) (BindsTo.of_eq rfl) (locs rfl) (by decide) (by decide +kernel) (fun L h k n w => ?_)
  generalize henv : envOf _ _ _ _ _ = env at n ⊢
  have kv : env.kindOf "value" = some .local := by rw [← henv]; rfl
  have k1 : env.kindOf "isinstance" = some .globalImplicit := by rw [← henv]; rfl
  have k2 : env.kindOf "bytes" = some .globalImplicit := by rw [← henv]; rfl
  have k3 : env.kindOf "str" = some .globalImplicit := by rw [← henv]; rfl
  refine xDoc n.k fun k => xIf (iVal (eCallN (nameB (v := .builtin "isinstance") b w n k1 (by k_is) (by decide +kernel) (by decide) ?_)))
  refine cwB (aCons (nameL w n kv t0 t0 (aCons (nameB (v := .type "bytes") b w n k2 (by k_is) (by decide +kernel) (by decide) (aNil ?_)))))
  refine Go.mono (Q := fun v h' k' => v = .bool false ∧ h' = h) (IsiPair.str_bytes ⟨_, _, rfl, rfl, rfl⟩) fun v h' k z => ?_
  obtain ⟨rfl, rfl⟩ := z
  refine tBool (if_ff (xNil (xRet (eCallN (nameB (v := .type "str") b w n k3 (by k_is) (by decide +kernel) (by decide) ?_)))))
  refine cwF (aCons (nameL w n kv t0 t0 (aNil ⟨keepType, ?_⟩)))
  exact P.str_of_str ⟨_, _, rfl, q _ _ w.drop⟩
theorem safeI {i : Int} {t : Tok} {Q : Value → Heap → Nat → Prop} (b : Base (hd.heap_1 c.w.params) mg mb h₀) (w : Led h₀ h l) (hdl : A.depth < 890) (hi : i.natAbs.log2 < 1920) (q : ∀ u h' k', Led h₀ h' l → Q (.str (toString i) u) h' k') : GoC c A (.call (.ref 332) ⟨[.int i t], []⟩) h k Q := by
  refine gEnterK ["value"] [.int i t] b w (by omega) (by k_is) (by k_is) (BindsTo.of_eq rfl) (locs rfl) (by decide) (by decide +kernel) (fun L h k n w => ?_)
  generalize henv : envOf _ _ _ _ _ = env at n ⊢
  have kv : env.kindOf "value" = some .local := by rw [← henv]; rfl
  have k1 : env.kindOf "isinstance" = some .globalImplicit := by rw [← henv]; rfl
  have k2 : env.kindOf "bytes" = some .globalImplicit := by rw [← henv]; rfl
  have k3 : env.kindOf "str" = some .globalImplicit := by rw [← henv]; rfl
  refine xDoc n.k fun k => xIf (iVal (eCallN (nameB (v := .builtin "isinstance") b w n k1 (by k_is) (by decide +kernel) (by decide) ?_)))
  refine cwB (aCons (nameL w n kv t0 t0 (aCons (nameB (v := .type "bytes") b w n k2 (by k_is) (by decide +kernel) (by decide) (aNil ?_)))))
  refine Go.mono (Q := fun v h' k' => v = .bool false ∧ h' = h) (IsiPair.int_bytes ⟨_, _, rfl, rfl, rfl⟩) fun v h' k z => ?_
  obtain ⟨rfl, rfl⟩ := z
  refine tBool (if_ff (xNil (xRet (eCallN (nameB (v := .type "str") b w n k3 (by k_is) (by decide +kernel) (by decide) ?_)))))
  refine cwF (aCons (nameL w n kv t0 t0 (aNil ⟨keepType, ?_⟩)))
  exact P.str_of_int hi ⟨_, _, rfl, q _ _ _ w.drop⟩
end
end Mine

/-! E1 -/
namespace Mine
theorem fillE1 : PySem.Challenge.rw_bn0041_01 = PySem.Challenge.rw_bn0041_01 ∧ hd.heap_1 = hd.heap_1 := by
  k_fill
  exact ⟨rfl, rfl⟩
def keyParts (a m : Int) : List Str := ["ann", toString a, toString m, "minute"]
def keyOf (a m : Int) : Str := ((Str.empty ++ "LIMITER") ++ "/") ++ Builtin.Str.glued "/" (keyParts a m)
structure KeyOk (ad : Ad) : Prop where
  key : ad.KEY = keyOf ad.amt ad.mul
  a1 : 1 ≤ ad.amt
  a2 : ad.amt ≤ 5
  m1 : 5 ≤ ad.mul
  m2 : ad.mul ≤ 20
theorem pre_small : (Str.empty ++ Str.ofString "LIMITER").length ≤ 100 ∧ ((Str.empty ++ Str.ofString "LIMITER") ++ Str.ofString "/").length ≤ 100 := by decide +kernel
theorem key_small : ∀ (a : Fin 6) (m : Fin 21), Builtin.Str.tooLong ((keyParts ((a : Nat) : Int) ((m : Nat) : Int)).toArray.foldl (· + ·.length + (Str.ofString "/").length) 0) = false ∧ (Builtin.Str.glued "/" (keyParts ((a : Nat) : Int) ((m : Nat) : Int))).length ≤ 100 ∧ (keyOf ((a : Nat) : Int) ((m : Nat) : Int)).length ≤ 100 := by decide +kernel
theorem KeyOk.small {ad : Ad} (x : KeyOk ad) : Builtin.Str.tooLong ((keyParts ad.amt ad.mul).toArray.foldl (· + ·.length + (Str.ofString "/").length) 0) = false ∧ (Builtin.Str.glued "/" (keyParts ad.amt ad.mul)).length ≤ 100 ∧ (keyOf ad.amt ad.mul).length ≤ 100 := by
  have h1 := x.a1; have h2 := x.a2; have h3 := x.m1; have h4 := x.m2
  have := key_small ⟨ad.amt.toNat, by omega⟩ ⟨ad.mul.toNat, by omega⟩
  dsimp only at this
  rw [show ((ad.amt.toNat : Nat) : Int) = ad.amt by omega, show ((ad.mul.toNat : Nat) : Int) = ad.mul by omega] at this
  exact this
section
variable {c : Cx} {A : Around} {h₀ h : Heap} {k : Nat} {l l' : List It} {env : Env} {mg mb : Str → Option Value} {a e : Addr} {vs ws : List Value} {pos : Pos}
theorem eCallM2 {name : Str} {o : PySem.Expr} {apos : Pos} {args : List PySem.Expr} {kws : List Keyword} {Q : Value → Heap → Nat → Prop}
    (x : Go c A (eval o env) h k fun ov h k => Go c A (getMethod ov name (do return (← importBound o env).getD true)) h k fun fx h k => Go c A (callWith pos fx.1 fx.2 (backTo pos (starEach args env)) (backToKw pos (keywordEach kws env))) h k Q)
    (ho : attributeBase o name env (eval o env) = eval o env := by rfl) (hf : methodCallForm (args.length + kws.length) (backTo pos (starEach args env)) (backToKw pos (keywordEach kws env)) = true := by rfl) (hl : (apos.endLine == pos.line) = true := by rfl) :
    Go c A (eval (.Call (.Attribute o name apos) args kws pos) env) h k Q := by
  unfold Go
  rw [arm_eval_Call, ho]
  refine wpAny_bind (x.toWp fun ov h k y => wpAny_bind (wpAny_standAt ?_))
  unfold methodCall calleeOf methodCallPos
  rw [hf, hl]
  refine wpAny_bind (wpAny_holding ?_)
  rw [if_pos rfl]
  refine y.toWp fun fx h k z => ?_
  obtain ⟨f, first⟩ := fx
  dsimp only at z ⊢
  rw [if_pos (by rfl)]
  exact wpAny_bind (wpAny_pure z)
theorem eFV {value : PySem.Expr} {Q : Value → Heap → Nat → Prop} (y : Go c A (eval value env) h k fun v h k => ∃ x t, v = .str x t ∧ x.length ≤ sizeLine ∧ ∀ t k, Q (.str x t) h k) : Go c A (eval (.FormattedValue value (-1) none pos) env) h k Q := by
  refine wpAny_FormattedValue_plain (y.toWp fun v h k z => ?_)
  obtain ⟨x, t, rfl, hz, q⟩ := z
  exact wpAny_formatField_str ⟨_, _, rfl, q _ _⟩ ⟨_, _, rfl, q _ _⟩ hz
theorem jNil {out : Str} {Q : Value → Heap → Nat → Prop} (hz : out.length ≤ sizeLine) (q : ∀ t k, Q (.str out t) h k) : Go c A (joinParts out []) h k Q := joinParts_nil ⟨_, _, rfl, q _ _⟩ hz
theorem jCons {out : Str} {x : Sem Value} {rest : List (Sem Value)} {Q : Value → Heap → Nat → Prop} (y : Go c A x h k fun v h k => ∃ z t, v = .str z t ∧ (out ++ z).length ≤ sizeLine ∧ Go c A (joinParts (out ++ z) rest) h k Q) : Go c A (joinParts out (x :: rest)) h k Q := by
  refine joinParts_cons (y.toWp fun v h k z => ?_)
  obtain ⟨z, t, rfl, hz, q⟩ := z
  exact ⟨hz, q⟩
theorem log_small {i : Int} (h1 : 0 ≤ i) (h2 : i ≤ 20) : i.natAbs.log2 < 1920 := by
  have : i.natAbs ≤ 20 := by omega
  have h3 : i.natAbs.log2 ≤ i.natAbs := Nat.log2_le_self _
  omega
theorem keyfor_ {ad : Ad} {t : Tok} {Q : Value → Heap → Nat → Prop} (b : Base (hd.heap_1 c.w.params) mg mb h₀) (w : Led h₀ h l) (hm : (ad.it, ItemP ad) ∈ l) (hdd : (ad.itd, Frm []) ∈ l) (hdl : A.depth < 850) (hA : A.handled = none) (ok : KeyOk ad)
    (q : ∀ u h' k', Led h₀ h' l → Q (.str ad.KEY u) h' k') : GoC c A (.call (.ref 472) ⟨[.ref ad.it, .str "ann" t], []⟩) h k Q := by
  refine gEnterV ["self", "identifiers", "remainder"] [.ref ad.it] [.str "ann" t] b w (by omega) (by k_is) (by k_is) (by kernel_rfl) (show 1 ≤ 100 by decide) (fun _ => locs rfl) (by decide +kernel) (by decide) (fun T L h k n w => ?_)
  generalize henv : envOf _ _ _ _ _ = env at n ⊢
  have ks : env.kindOf "self" = some .local := by rw [← henv]; rfl
  have ki : env.kindOf "identifiers" = some .local := by rw [← henv]; rfl
  have kr : env.kindOf "remainder" = some .local := by rw [← henv]; rfl
  have kf : env.kindOf "safe_string" = some .globalImplicit := by rw [← henv]; rfl
  refine xDoc n.k fun k => xAssign ?_
  refine eCallM2 ?_ ?h1 ?h2 ?h3
  case h1 => rfl
  case h2 => rfl
  case h3 => rfl
  refine eStr fun tj k => ?_
  refine Go.mono (Q := fun fx h' k' => fx = (.builtin "str.join", [.str "/" tj]) ∧ h' = h) (GM.join ⟨_, _, rfl, rfl, rfl⟩) fun fx h' k z => ?_
  obtain ⟨rfl, rfl⟩ := z
  refine cwB ?_ ?h1 ?h2
  case h1 => rfl
  case h2 => rfl
  refine aCons ?_ ?h1
  case h1 => rfl
  refine eBin ?_
  refine eCompT (h₀ := h₀) (cl := []) hA (by rfl) (by decide +kernel) (by rfl) (by decide +kernel) (by rfl) ?_ ?_
  · exact fun i ys l' => l' = (L, Frm (zipV ["self", "identifiers", "remainder"] ([.ref ad.it] ++ [.ref T]))) :: (T, TupV [.str "ann" t]) :: l ∧ (i = 0 ∧ ys = [] ∨ i = 1 ∧ ∃ u, ys = [.str "ann" u])
  refine nameL w n ki t0 (t1 t0) ⟨T, _, _, rfl, w, t1 t0, by show 1 ≤ sizeLine; decide, ⟨rfl, .inl ⟨rfl, rfl⟩⟩, ?_, ?_⟩
  · rintro C D it i v ys h k l' hv w hm ⟨rfl, hi⟩
    have hi0 : i = 0 := by
      have := (List.getElem?_eq_some_iff.mp hv).1
      simp at this
      exact this
    subst hi0
    obtain rfl : v = .str "ann" t := by cases hv; rfl
    obtain ⟨_, rfl⟩ : (0 = 0) ∧ ys = [] := by
      rcases hi with h | ⟨h, _⟩
      · exact ⟨rfl, h.2⟩
      · cases h
    refine Go.pure ?_
    rw [if_pos rfl]
    generalize hce : compEnvC _ _ C env = cenv
    have nC : EnvOk cenv C := by rw [← hce]; exact ⟨rfl, rfl, n.g, n.b⟩
    have kfC : cenv.kindOf "safe_string" = some .globalImplicit := by rw [← hce]; rfl
    have kkC : cenv.kindOf "k" = some .local := by rw [← hce]; rfl
    refine eCallN (nameG b w nC kfC (by k_is) (cwF (aCons (nameL w nC kkC (t1 t0) t0 (aNil ⟨keepK b w (by k_is), Go.ofC (safeS b w (by show A.depth + 1 < 890; omega) fun h k w => ?_)⟩)))))
    exact ⟨_, w, t1 t0, rfl, .inr ⟨rfl, t, rfl⟩⟩
  · rintro D ys h k l' w ⟨rfl, hi⟩
    obtain ⟨u, rfl⟩ : ∃ u, ys = [.str "ann" u] := by
      rcases hi with ⟨h, _⟩ | ⟨_, h⟩
      · cases h
      · exact h
    have hsm : (ad.it, ItemP ad) ∈ (D, LstV [.str "ann" u]) :: (L, Frm (zipV ["self", "identifiers", "remainder"] ([.ref ad.it] ++ [.ref T]))) :: (T, TupV [.str "ann" t]) :: l := t3 hm
    have hsd : (ad.itd, Frm []) ∈ (D, LstV [.str "ann" u]) :: (L, Frm (zipV ["self", "identifiers", "remainder"] ([.ref ad.it] ++ [.ref T]))) :: (T, TupV [.str "ann" t]) :: l := t3 hdd
    have ha1 := ok.a1; have ha2 := ok.a2; have hm1 := ok.m1; have hm2 := ok.m2
    refine eLst (h₀ := h₀) ?_
    refine aCons ?_ ?h1
    case h1 => rfl
    obtain ⟨t1', t2', t3', od, I, f⟩ := item_at w hsm hsd
    refine eCallN (nameG b w n kf (by k_is) (cwF (aCons (eAttr (nameL w n ks (t1 t0) t0 (gSlot b w I (sl_amt c) rfl rfl fun k => aNil ⟨keepK b w (by k_is), Go.ofC (safeI b w (by show A.depth + 1 < 890; omega) (log_small (by omega) (by omega)) fun ua h k w => ?_)⟩))))))
    refine aCons ?_ ?h1
    case h1 => rfl
    obtain ⟨t1', t2', t3', od, I, f⟩ := item_at w hsm hsd
    refine eCallN (nameG b w n kf (by k_is) (cwF (aCons (eAttr (nameL w n ks (t1 t0) t0 (gSlot b w I (sl_mul c) rfl rfl fun k => aNil ⟨keepK b w (by k_is), Go.ofC (safeI b w (by show A.depth + 1 < 890; omega) (log_small (by omega) (by omega)) fun um h k w => ?_)⟩))))))
    refine aCons ?_ ?h1
    case h1 => rfl
    obtain ⟨t1', t2', t3', od, I, f⟩ := item_at w hsm hsd
    obtain ⟨tg, ug, S⟩ := stG c (l := (D, LstV [.str "ann" u]) :: (L, Frm (zipV ["self", "identifiers", "remainder"] ([.ref ad.it] ++ [.ref T]))) :: (T, TupV [.str "ann" t]) :: l) b
    refine eAttr (eAttr (nameL w n ks (t1 t0) t0 (gClsAt b w I f (cl_gran c) (by rfl) (by rfl) fun k => ?_)))
    refine gTupAttr b w S (tc_nam c) (v := .str "minute" ug) rfl fun k => tget304 (i := 1) b w (by show A.depth + 1 < 890; omega) S (tg_nam c) (show 1 < 2 by decide) (show 2 < 1000 by decide) rfl fun h k w => ⟨rfl, ?_⟩
    refine aNil ⟨_, w, by show 3 ≤ sizeLine; decide, fun E h w => ?_⟩
    refine oAddL w (t1 t0) t0 (by show 1 + 3 ≤ 1000000; decide) fun M h w => aNil ?_
    have sm := ok.small
    refine gJoin (sep := "/") (p := ("ann", u)) (q' := (toString ad.amt, ua)) (xs := [(toString ad.mul, um), ("minute", ug)]) w t0 sm.1 (Nat.le_trans sm.2.1 (by rw [sizeLine_eq]; decide)) fun tj' k => ?_
    obtain ⟨X, hX, hX1, hX2⟩ : ∃ X, Builtin.Str.glued "/" (List.map (fun x : Str × Tok => x.1) (((Str.ofString "ann", u) : Str × Tok) :: (Str.ofString (toString ad.amt), ua) :: [(Str.ofString (toString ad.mul), um), (Str.ofString "minute", ug)])) = X ∧ X.length ≤ 100 ∧ keyOf ad.amt ad.mul = ((Str.empty ++ Str.ofString "LIMITER") ++ Str.ofString "/") ++ X := ⟨_, rfl, sm.2.1, rfl⟩
    rw [hX]
    have sm3 := sm.2.2
    rw [hX2] at sm3
    have hkey := ok.key
    rw [hX2] at hkey
    clear hX hX2 sm
    refine storeL w n kr (.s (.s .z)) (.s (.s (.s .z))) fun h k w => xRet ?_
    have big : ∀ {n : Nat}, n ≤ 100 → n ≤ sizeLine := fun h => by rw [sizeLine_eq]; omega
    refine JoinedStr_many ?_
    refine jCons (eFV (eAttr ?_))
    obtain ⟨t1', t2', t3', od, I, f⟩ := item_at w (t5 hm) (t5 hdd)
    refine nameL w n ks (t3 t0) t0 (gSlot b w I (sl_nsp c) rfl rfl fun k => ⟨_, _, rfl, by rw [sizeLine_eq]; decide, fun t k => ⟨_, _, rfl, big pre_small.1, ?_⟩⟩)
    refine jCons (eStr fun t k => ⟨_, _, rfl, big pre_small.2, ?_⟩)
    refine jCons (eFV (nameL w n kr (t3 t0) (t2 t0) ⟨_, _, rfl, big hX1, fun t k => ⟨_, _, rfl, big sm3, ?_⟩⟩))
    refine jNil (big sm3) fun t k => ?_
    have q' := q t h k (w.drop.drop.drop.drop.drop)
    rw [hkey] at q'
    exact q'
end
end Mine

/-! E2 -/
namespace Mine
theorem fillE2 : PySem.Challenge.rw_bn0041_01 = PySem.Challenge.rw_bn0041_01 ∧ hd.heap_1 = hd.heap_1 := by
  k_fill
  exact ⟨rfl, rfl⟩
def WhoP (o : Obj) : Prop := o.cls = .type "tuple" ∧ ∃ t n, o.data = .seq #[.str "ann" t] n
structure FnA (K : Frag) (C : Addr) (nm : Str) (f : Addr) : Prop where
  pg : plainGet K C nm = true
  hd : hasDictIn K C = true
  a : findIn K (.ref C) nm = some (some (.ref f))
  g : specialIn K (.ref f) "__get__" = some (some (.builtin "function.__get__"))
  t : takesIn K (.ref f) = some false
  i : isFn K (.ref f) = true
  k : fnIn K f = true
theorem fn_key (c : Cx) : FnA (hd.heap_1 c.w.params) 512 "key_for" 472 := ⟨by k_is, by k_is, by k_is, by k_is, by k_is, by k_is, by k_is⟩
section
variable {c : Cx} {A : Around} {h₀ h : Heap} {k : Nat} {l l' : List It} {env : Env} {mg mb : Str → Option Value} {a e : Addr} {vs ws : List Value} {pos : Pos} {K : Frag}
def MethO (f x : Addr) (o : Obj) : Prop := o = methodObj (.ref f) (.ref x)
theorem gBound {nm : Str} {C x f : Addr} {expr : Bool} {ox od : Obj} {Q : Value → Heap → Nat → Prop} (b : Base K mg mb h₀) (w : Led h₀ h l) (I : InstAt h x ox C (some od)) (fr : Frm [] od) (a : FnA K C nm f) (hc : copiedNames.contains nm = false)
    (q : ∀ m h' k', Led h₀ h' ((m, MethO f x) :: l) → Q (.ref m) h' k') : Go c A (getAttr (.ref x) nm expr) h k Q := by
  have X := b.kin.keeps w.keep
  refine get_bind (s := c.s h k) X I (plainGet_of a.pg).1 (findObj_fn a.hd a.a a.g a.t hc (by rw [look_of_ns fr.2]; rfl)) (plainGet_of a.pg).2 (wpAny_call (fn_get (s := c.s h (k + 1)) X (beq_iff_eq.mp a.i) ?_))
  exact handed_on rfl ⟨_, _, rfl, q _ _ _ (w.alloc _ rfl rfl)⟩
theorem keepM {m f x : Addr} (b : Base K mg mb h₀) (w : Led h₀ h l) (hm : (m, MethO f x) ∈ l) (hf : fnIn K f = true) : KeepOk c h (.ref m) := by
  obtain ⟨o, e, rfl⟩ := w.get hm
  unfold fnIn at hf
  split at hf
  · rename_i e2
    refine ⟨.boundFrame, .inr (.inr rfl), (Looks.ld (part := none) e).andThen ?_⟩
    exact (Looks.ld (part := none) (w.keep _ _ (b.kin _ _ e2))).andThen .now
  · cases hf
theorem eCallS {name : Str} {o e : PySem.Expr} {apos p : Pos} {Q : Value → Heap → Nat → Prop}
    (x : Go c A (eval o env) h k fun ov h k => Go c A (getAttr ov name true) h k fun f h k => Go c A (eval e env) h k fun v h k => ∃ a l, v = .ref a ∧ Led h₀ h l ∧ (a, WhoP) ∈ l ∧ ∀ t h', Led h₀ h' l → KeepOk c h' f ∧ Go c A (call f [.str "ann" t]) h' k Q)
    (ho : attributeBase o name env (eval o env) = eval o env := by rfl) :
    Go c A (eval (.Call (.Attribute o name apos) [.Starred e p] [] pos) env) h k Q := by
  unfold Go
  rw [arm_eval_Call, ho]
  refine wpAny_bind (x.toWp fun ov h k y => wpAny_bind (wpAny_standAt ?_))
  unfold methodCall calleeOf methodCallPos
  have hf : methodCallForm ([PySem.Expr.Starred e p].length + ([] : List Keyword).length) (backTo pos (starEach [.Starred e p] env)) (backToKw pos (keywordEach [] env)) = false := by rfl
  rw [hf]
  refine wpAny_bind (wpAny_holding ?_)
  rw [if_neg Bool.false_ne_true]
  refine wpAny_bind (y.toWp fun f h k z => wpAny_pure ?_)
  dsimp only
  rw [if_pos (by rfl)]
  refine wpAny_bind (wpAny_pure ?_)
  refine ks_call (P := fun h => KeepOk c h f) rfl (fun _ z => z) (ks_lone (z.toWp fun v h k z => ?_))
  obtain ⟨a, l, rfl, w, hm, q⟩ := z
  obtain ⟨ow, ew, hc, t, n, hd⟩ := w.get hm
  unfold StarOf notIterableAtAll
  refine wpAny_bind (wpAny_specialOf (T := "tuple") ⟨ow, ew, hc⟩ PySem.F.slot_tuple_iter.lookup (wpAny_pure ⟨rfl, ?_⟩))
  refine wpAny_collect_seq (s := c.s h k) a (.inr rfl) ew hc hd (fun h' hk => ?_) (by rw [sizeLine_eq]; exact (show 1 ≤ 16777216 by decide))
  obtain ⟨q1, q2⟩ := q t h' (w.grow hk)
  exact ⟨q1, q2⟩
/-- item.key_for( *who ) -/
theorem eKey {ad : Ad} {p1 p2 p3 p4 : Pos} {L : Addr} {vs : Fv} {Q : Value → Heap → Nat → Prop} (b : Base (hd.heap_1 c.w.params) mg mb h₀) (w : Led h₀ h l) (n : EnvOk env L) (ki : env.kindOf "item" = some .local) (kd : env.kindOf "identifiers" = some .local) (hL : (L, Frm vs) ∈ l)
    (v1 : (Str.ofString "item", some (.ref ad.it)) ∈ vs) (v2 : (Str.ofString "identifiers", some (.ref ad.who)) ∈ vs) (hw : (ad.who, WhoP) ∈ l) (hm : (ad.it, ItemP ad) ∈ l) (hdd : (ad.itd, Frm []) ∈ l) (hdl : A.depth < 840) (hA : A.handled = none) (ok : KeyOk ad)
    (q : ∀ u h' k', Led h₀ h' l → Q (.str ad.KEY u) h' k') : Go c A (eval (.Call (.Attribute (.Name "item" p1) "key_for" p2) [.Starred (.Name "identifiers" p3) p4] [] pos) env) h k Q := by
  refine eCallS (h₀ := h₀) (nameL w n ki hL v1 ?_)
  obtain ⟨t1, t2, t3, od, I, f⟩ := item_at w hm hdd
  refine gBound b w I f (fn_key c) (by rfl) fun m h k w => nameL w n kd (.tail _ hL) v2 ⟨_, _, rfl, w, .tail _ hw, fun t h' w => ⟨keepM b w t0 (fn_key c).k, ?_⟩⟩
  obtain ⟨om, em, rfl⟩ := w.get t0
  refine Go.ofC (method_call (s := c.s h' k) em ?_)
  exact keyfor_ b w (.tail _ hm) (.tail _ hdd) (by omega) hA ok fun u h k w => q u h k w.drop
end
end Mine

/-! E3 -/
namespace Mine
theorem fillE3 : PySem.Challenge.rw_bn0041_01 = PySem.Challenge.rw_bn0041_01 ∧ hd.heap_1 = hd.heap_1 := by
  k_fill
  exact ⟨rfl, rfl⟩
theorem m_iexp (c : Cx) : MethA (hd.heap_1 c.w.params) 512 "get_expiry" 467 := ⟨by k_is, by k_is, by k_is⟩
theorem m_acq (c : Cx) : MethA (hd.heap_1 c.w.params) 917 "acquire_entry" 857 := ⟨by k_is, by k_is, by k_is⟩
theorem m_gmw (c : Cx) : MethA (hd.heap_1 c.w.params) 917 "get_moving_window" 871 := ⟨by k_is, by k_is, by k_is⟩
theorem m_gexp (c : Cx) : MethA (hd.heap_1 c.w.params) 917 "get_expiry" 864 := ⟨by k_is, by k_is, by k_is⟩
theorem o_fst (c : Cx) : OwnA (hd.heap_1 c.w.params) 280 "storage" := ⟨by k_is, by k_is, _, by k_is, by k_is⟩
theorem o_mst (c : Cx) : OwnA (hd.heap_1 c.w.params) 241 "storage" := ⟨by k_is, by k_is, _, by k_is, by k_is⟩
section
variable {c : Cx} {A : Around} {h₀ h : Heap} {k : Nat} {l l' : List It} {env : Env} {mg mb : Str → Option Value} {a e : Addr} {vs ws : List Value} {pos : Pos} {K : Frag}
theorem gMethI {nm : Str} {C x f : Addr} {pl : Sem Bool} {ox od : Obj} {Q : Value × List Value → Heap → Nat → Prop} (b : Base K mg mb h₀) (w : Led h₀ h l) (I : InstAt h x ox C (some od)) (fr : Frm [] od) (a : MethA K C nm f) (q : Q (.ref f, [.ref x]) h k) : Go c A (getMethod (.ref x) nm pl) h k Q := by
  refine method_fn (s := c.s h k) (b.kin.keeps w.keep) I (plainGet_of a.g).1 (plainGet_of a.g).2 a.a (beq_iff_eq.mp a.f) ?_ ⟨_, _, rfl, q⟩
  show (lookIn nm od).map _ = _
  rw [look_of_ns fr.2]; rfl
/-- item.get_expiry() -/
theorem eExp {ad : Ad} {p1 p2 : Pos} {L : Addr} {vs : Fv} {Q : Value → Heap → Nat → Prop} (b : Base (hd.heap_1 c.w.params) mg mb h₀) (w : Led h₀ h l) (n : EnvOk env L) (ki : env.kindOf "item" = some .local) (hL : (L, Frm vs) ∈ l)
    (v1 : (Str.ofString "item", some (.ref ad.it)) ∈ vs) (hm : (ad.it, ItemP ad) ∈ l) (hdd : (ad.itd, Frm []) ∈ l) (hdl : A.depth < 840)
    (q : ∀ u h' k', Led h₀ h' l → Q (.int (60 * ad.mul) u) h' k') (hl : (p2.endLine == pos.line) = true := by rfl) : Go c A (eval (.Call (.Attribute (.Name "item" p1) "get_expiry" p2) [] [] pos) env) h k Q := by
  refine eCallM2 ?_ ?h1 ?h2 hl
  case h1 => rfl
  case h2 => rfl
  obtain ⟨t1, t2, t3, od, I, f⟩ := item_at w hm hdd
  refine nameL w n ki hL v1 (gMethI b w I f (m_iexp c) (cwF0 (keepK b w (by k_is)) (Go.ofC (iexp_ b w hm hdd (by omega) q))))
/-- item.amount -/
theorem eAmt {ad : Ad} {p1 p2 : Pos} {L : Addr} {vs : Fv} {Q : Value → Heap → Nat → Prop} (b : Base (hd.heap_1 c.w.params) mg mb h₀) (w : Led h₀ h l) (n : EnvOk env L) (ki : env.kindOf "item" = some .local) (hL : (L, Frm vs) ∈ l)
    (v1 : (Str.ofString "item", some (.ref ad.it)) ∈ vs) (hm : (ad.it, ItemP ad) ∈ l) (hdd : (ad.itd, Frm []) ∈ l) (q : ∀ u k', Q (.int ad.amt u) h k') : Go c A (eval (.Attribute (.Name "item" p1) "amount" p2) env) h k Q := by
  obtain ⟨t1, t2, t3, od, I, f⟩ := item_at w hm hdd
  exact eAttr (nameL w n ki hL v1 (gSlot b w I (sl_amt c) rfl rfl fun k => q t1 k))
theorem fhit_ {ad : Ad} {st : St} {cost : Int} {u : Tok} {Q : Value → Heap → Nat → Prop} (b : Base (hd.heap_1 c.w.params) mg mb h₀) (w : W c h₀ ad h st l) (hdl : A.depth < 830) (hA : A.handled = none) (ok : KeyOk ad)
    (q : ∀ h' k', W c h₀ ad h' (stIncr st cost (60 * ad.mul)) l → Q (.bool (decide ((stGet st).cnt.getD 0 + cost ≤ ad.amt))) h' k') : GoC c A (.call (.ref 259) ⟨[.ref ad.fx, .ref ad.it, .ref ad.who, .int cost u], []⟩) h k Q := by
  refine gEnterK ["self", "item", "identifiers", "cost"] [.ref ad.fx, .ref ad.it, .ref ad.who, .int cost u] b w (by omega) (by k_is) (by k_is) (binds_K (b.kin.keeps w.keep) rfl (by k_is) rfl rfl rfl) (locs rfl) (by decide) (by decide +kernel) (fun L h k n w => ?_)
  generalize henv : envOf _ _ _ _ _ = env at n ⊢
  have ks : env.kindOf "self" = some .local := by rw [← henv]; rfl
  have ki : env.kindOf "item" = some .local := by rw [← henv]; rfl
  have kd : env.kindOf "identifiers" = some .local := by rw [← henv]; rfl
  have kc : env.kindOf "cost" = some .local := by rw [← henv]; rfl
  have w := w.mid
  refine xDoc n.k fun k => xRet (eCmp ?_)
  refine eCallM2 ?_ ?h1 ?h2 ?h3
  case h1 => rfl
  case h2 => rfl
  case h3 => rfl
  refine eAttr (nameL w n ks fr0 t0 (gOwn b w (t14 t0) (t15 t0) t0 (o_fst c) rfl fun k => gMethA b w (t6 t0) (t7 t0) (m_incr c) ?_))
  refine cwFK ?_
  refine aCons (eKey b w n ki kd fr0 (t1 t0) (t2 t0) (t18 t0) (t12 t0) (t13 t0) (by show A.depth + 1 < 840; omega) hA ok fun uk h k w => ?_)
  refine aCons (eExp b w n ki fr0 (t1 t0) (t12 t0) (t13 t0) (by show A.depth + 1 < 840; omega) fun ue h k w => aNil ?_)
  refine kCons (nameL w n kc fr0 (t3 t0) (kNil ⟨keepK b w (by k_is), Go.ofC ?_⟩))
  refine incr_ b w (by show A.depth + 1 < 870; omega) fun ti h k w => ?_
  refine eAmt b w n ki fr0 (t1 t0) (t12 t0) (t13 t0) fun ua k => oLe ?_
  exact q _ _ w.unmid.drop
end
end Mine

/-! E4 -/
namespace Mine
theorem fillE4 : PySem.Challenge.rw_bn0041_01 = PySem.Challenge.rw_bn0041_01 ∧ hd.heap_1 = hd.heap_1 := by
  k_fill
  exact ⟨rfl, rfl⟩
section
variable {c : Cx} {A : Around} {h₀ h : Heap} {k : Nat} {l l' : List It} {env : Env} {mg mb : Str → Option Value} {a e : Addr} {vs ws : List Value} {pos : Pos} {K : Frag}
theorem ftest_ {ad : Ad} {st : St} {cost : Int} {u : Tok} {Q : Value → Heap → Nat → Prop} (b : Base (hd.heap_1 c.w.params) mg mb h₀) (w : W c h₀ ad h st l) (hdl : A.depth < 830) (hA : A.handled = none) (ok : KeyOk ad)
    (q : ∀ h' k', W c h₀ ad h' (stGet st) l → Q (.bool (decide ((stGet st).cnt.getD 0 < ad.amt - cost + 1))) h' k') : GoC c A (.call (.ref 268) ⟨[.ref ad.fx, .ref ad.it, .ref ad.who, .int cost u], []⟩) h k Q := by
  refine gEnterK ["self", "item", "identifiers", "cost"] [.ref ad.fx, .ref ad.it, .ref ad.who, .int cost u] b w (by omega) (by k_is) (by k_is) (binds_K (b.kin.keeps w.keep) rfl (by k_is) rfl rfl rfl) (locs rfl) (by decide) (by decide +kernel) (fun L h k n w => ?_)
  generalize henv : envOf _ _ _ _ _ = env at n ⊢
  have ks : env.kindOf "self" = some .local := by rw [← henv]; rfl
  have ki : env.kindOf "item" = some .local := by rw [← henv]; rfl
  have kd : env.kindOf "identifiers" = some .local := by rw [← henv]; rfl
  have kc : env.kindOf "cost" = some .local := by rw [← henv]; rfl
  have w := w.mid
  refine xDoc n.k fun k => xRet (eCmp ?_)
  refine eCallM2 ?_ ?h1 ?h2 ?h3
  case h1 => rfl
  case h2 => rfl
  case h3 => rfl
  refine eAttr (nameL w n ks fr0 t0 (gOwn b w (t14 t0) (t15 t0) t0 (o_fst c) rfl fun k => gMethA b w (t6 t0) (t7 t0) (m_get c) ?_))
  refine cwF ?_
  refine aCons (eKey b w n ki kd fr0 (t1 t0) (t2 t0) (t18 t0) (t12 t0) (t13 t0) (by show A.depth + 1 < 840; omega) hA ok fun uk h k w => aNil ⟨keepK b w (by k_is), Go.ofC ?_⟩)
  refine get_ b w (by show A.depth + 1 < 880; omega) fun ti h k w => ?_
  refine eBin (eBin (eAmt b w n ki fr0 (t1 t0) (t12 t0) (t13 t0) fun ua k => nameL w n kc fr0 (t3 t0) (oSub fun tx k => eInt fun ty k => oAdd fun tz k => oLt ?_)))
  exact q _ _ w.unmid.drop
theorem mtest_ {ad : Ad} {st : St} {cost : Int} {u : Tok} {Q : Value → Heap → Nat → Prop} (b : Base (hd.heap_1 c.w.params) mg mb h₀) (w : W c h₀ ad h st l) (hdl : A.depth < 830) (hA : A.handled = none) (ok : KeyOk ad) (ev : EvOk st)
    (q : ∀ start r l1 h' k', GmwOk (esOf st) (st.m + st.s) (60 * ad.mul) start r → W c h₀ ad h' { stTick st with l1 := l1 } l → Q (.bool (decide ((r : Int) ≤ ad.amt - cost))) h' k') : GoC c A (.call (.ref 229) ⟨[.ref ad.mv, .ref ad.it, .ref ad.who, .int cost u], []⟩) h k Q := by
  refine gEnterK ["self", "item", "identifiers", "cost"] [.ref ad.mv, .ref ad.it, .ref ad.who, .int cost u] b w (by omega) (by k_is) (by k_is) (binds_K (b.kin.keeps w.keep) rfl (by k_is) rfl rfl rfl) (locs rfl) (by decide) (by decide +kernel) (fun L h k n w => ?_)
  generalize henv : envOf _ _ _ _ _ = env at n ⊢
  have ks : env.kindOf "self" = some .local := by rw [← henv]; rfl
  have ki : env.kindOf "item" = some .local := by rw [← henv]; rfl
  have kd : env.kindOf "identifiers" = some .local := by rw [← henv]; rfl
  have kc : env.kindOf "cost" = some .local := by rw [← henv]; rfl
  have w := w.mid
  refine xDoc n.k fun k => xRet (eCmp (eSub ?_))
  refine eCallM2 ?_ ?h1 ?h2 ?h3
  case h1 => rfl
  case h2 => rfl
  case h3 => rfl
  refine eAttr (nameL w n ks fr0 t0 (gOwn b w (t16 t0) (t17 t0) t0 (o_mst c) rfl fun k => gMethA b w (t6 t0) (t7 t0) (m_gmw c) ?_))
  refine cwF ?_
  refine aCons (eKey b w n ki kd fr0 (t1 t0) (t2 t0) (t18 t0) (t12 t0) (t13 t0) (by show A.depth + 1 < 840; omega) hA ok fun uk h k w => ?_)
  refine aCons (eAmt b w n ki fr0 (t1 t0) (t12 t0) (t13 t0) fun ua k => ?_)
  refine aCons (eExp b w n ki fr0 (t1 t0) (t12 t0) (t13 t0) (by show A.depth + 1 < 840; omega) fun ue h k w => aNil ⟨keepK b w (by k_is), Go.ofC ?_⟩)
  refine gmw_ b w (by show A.depth + 1 < 870; omega) ev fun T start r l1 x1 x2 h k gok w => ?_
  refine eInt fun ti k => subT (i := 1) w fr0 (by decide) rfl ?_
  refine eBin (eAmt b w n ki (List.mem_append_right _ (t1 t0)) (t1 t0) (t12 t0) (t13 t0) fun ua k => nameL w n kc (List.mem_append_right _ (t1 t0)) (t3 t0) (oSub fun tx k => oLe ?_))
  refine q start r l1 _ _ gok ?_
  exact w.sub ((List.Sublist.refl _).append ((List.sublist_cons_self _ _).trans (List.sublist_cons_self _ _)))
theorem mhit_ {ad : Ad} {st : St} {cost : Int} {u : Tok} {outer : List Env} {Q : Value → Heap → Nat → Prop} (b : Base (hd.heap_1 c.w.params) mg mb h₀) (w : W c h₀ ad h st l) (hdl : A.depth < 830) (hA : A.handled = none) (hfr : A.frames = some outer) (F : FrIn outer l) (ok : KeyOk ad) (ev : EvOk st)
    (ha : 1 ≤ cost) (hes : (esOf st).length ≤ 1000000)
    (q1 : ad.amt < cost → ∀ h' k', W c h₀ ad h' st l → Q (.bool false) h' k')
    (q2 : cost ≤ ad.amt → ∀ e ea h' k', (esOf st)[(ad.amt - cost).toNat]? = some e → st.m + st.s - 60 * ad.mul ≤ e.at_ → W c h₀ ad h' { stTick st with ev := some (ea, esOf st) } l → Q (.bool false) h' k')
    (q3 : cost ≤ ad.amt → (∀ e, (esOf st)[(ad.amt - cost).toNat]? = some e → e.at_ < st.m + st.s - 60 * ad.mul) → ∀ (e : Ev) ea h' k', e.at_ = st.m + st.s + st.s → W c h₀ ad h' { stTick (stTick st) with ev := some (ea, List.replicate cost.toNat e ++ esOf st), ents := e :: st.ents } l → Q (.bool true) h' k') :
    GoC c A (.call (.ref 220) ⟨[.ref ad.mv, .ref ad.it, .ref ad.who, .int cost u], []⟩) h k Q := by
  refine gEnterK ["self", "item", "identifiers", "cost"] [.ref ad.mv, .ref ad.it, .ref ad.who, .int cost u] b w (by omega) (by k_is) (by k_is) (binds_K (b.kin.keeps w.keep) rfl (by k_is) rfl rfl rfl) (locs rfl) (by decide) (by decide +kernel) (fun L h k n w => ?_)
  have hfr' : ∀ env, (A.deeper env).frames = some (env :: outer) := fun env => Around.frames_deeper hfr
  generalize henv : envOf _ _ _ _ _ = env at n ⊢
  have hfL : env.frame = some L := by rw [← henv]; rfl
  have ks : env.kindOf "self" = some .local := by rw [← henv]; rfl
  have ki : env.kindOf "item" = some .local := by rw [← henv]; rfl
  have kd : env.kindOf "identifiers" = some .local := by rw [← henv]; rfl
  have kc : env.kindOf "cost" = some .local := by rw [← henv]; rfl
  have w := w.mid
  refine xDoc n.k fun k => xRet ?_
  refine eCallM2 ?_ ?h1 ?h2 ?h3
  case h1 => rfl
  case h2 => rfl
  case h3 => rfl
  refine eAttr (nameL w n ks fr0 t0 (gOwn b w (t16 t0) (t17 t0) t0 (o_mst c) rfl fun k => gMethA b w (t6 t0) (t7 t0) (m_acq c) ?_))
  refine cwFK ?_
  refine aCons (eKey b w n ki kd fr0 (t1 t0) (t2 t0) (t18 t0) (t12 t0) (t13 t0) (by show A.depth + 1 < 840; omega) hA ok fun uk h k w => ?_)
  refine aCons (eAmt b w n ki fr0 (t1 t0) (t12 t0) (t13 t0) fun ua k => ?_)
  refine aCons (eExp b w n ki fr0 (t1 t0) (t12 t0) (t13 t0) (by show A.depth + 1 < 840; omega) fun ue h k w => aNil ?_)
  refine kCons (nameL w n kc fr0 (t3 t0) (kNil ⟨keepK b w (by k_is), Go.ofC ?_⟩))
  have F' : FrIn (env :: outer) ((L, Frm (zipV ["self", "item", "identifiers", "cost"] [.ref ad.mv, .ref ad.it, .ref ad.who, .int cost u])) :: l) := by
    intro env' he
    rcases List.mem_cons.mp he with rfl | he
    · exact ⟨by rw [n.k]; decide, L, _, hfL, t0⟩
    · obtain ⟨f1, L', vs', f2, f3⟩ := F env' he
      exact ⟨f1, L', vs', f2, .tail _ f3⟩
  have := ok.a2
  refine acq_ b w (by show A.depth + 1 < 850; omega) hA (hfr' env) F' ev rfl ha (by omega) hes (fun h1 h k w => ?_) (fun h1 e ea h k h2 h3 w => ?_) (fun h1 h2 e ea h k h3 w => ?_)
  · exact q1 h1 _ _ w.unmid.drop
  · exact q2 h1 e ea _ _ h2 h3 w.unmid.drop
  · exact q3 h1 h2 e ea _ _ h3 w.unmid.drop
end
end Mine

/-! E5 -/
namespace Mine
theorem fillE5 : PySem.Challenge.rw_bn0041_01 = PySem.Challenge.rw_bn0041_01 ∧ hd.heap_1 = hd.heap_1 := by
  k_fill
  exact ⟨rfl, rfl⟩
structure NtA (K : Frag) (C p nw : Addr) : Prop where
  o : ∃ oc od cd sl, K.lookup C = some ⟨oc, od, .cls cd, sl⟩ ∧ cd.mro = [.ref C, .type "tuple", .type "object"] ∧ cd.bases = [.type "tuple"] ∧ cd.hasDel = false ∧ cd.abstract = false ∧ (sl[4]?).join = some .none
  call : specialIn K (.ref C) "__call__" = some (some (.builtin "type.__call__"))
  typ : instIn K (.ref C) (.type "type") = some true
  tup : subIn K (.ref C) (.type "tuple") = some true
  self : subIn K (.ref C) (.ref C) = some true
  ini : findIn K (.ref C) "__init__" = some (some (.builtin "object.__init__"))
  rd : readsIn K C (.type "type") = true
  nwf : findCls K (.ref C) (.type "type") "__new__" = some (.get (.builtin "staticmethod.__get__") (.ref p) .none (.ref C))
  rc : ∃ rest, recIn K p "staticmethod" = some (.ref nw :: rest)
theorem nt_ws (c : Cx) : NtA (hd.heap_1 c.w.params) 171 172 121 := ⟨⟨_, _, _, _, by k_is, rfl, rfl, rfl, rfl, rfl⟩, by k_is, by k_is, by k_is, by k_is, by k_is, by k_is, by k_is, ⟨_, by k_is⟩⟩
def NtP (C dx : Addr) (vs : List Value) (o : Obj) : Prop := ∃ n, o = { cls := .ref C, dict := some dx, data := .seq vs.toArray n, slots := #[] }
section
variable {c : Cx} {A : Around} {h₀ h : Heap} {k : Nat} {l l' : List It} {mg mb : Str → Option Value} {K : Frag} {C p nw : Addr} {M : Model}
theorem best_tup : Builtin.Slots.bestBase [.type "tuple"] = pure (.type "tuple") := by kernel_rfl
theorem nt_made (X : K.In h) (a : NtA K C p nw) : Looks M h (Bind.madeBy (.ref C)) none := by
  obtain ⟨oc, od, cd, sl, e, e1, e2, e3, e4, e5⟩ := a.o
  have hc : clsIn K C = some cd := by unfold clsIn; rw [e]
  have hm : Looks M h (mroOf (.ref C)) cd.mro := (looks_clsIn X hc).andThen .now
  intro A Q E s k q
  unfold Bind.madeBy
  refine wpAny_bind (hm A _ E s k ?_)
  rw [e1, List.forIn_cons]
  refine wpAny_bind (wpAny_bind (wpAny_bind (wpAny_bind (wpAny_loadPart (k _ _ (X _ _ e)) (wpAny_pure ?_)))))
  dsimp only
  rw [e5]
  exact wpAny_pure (wpAny_pure (wpAny_pure q))
theorem nt_base (X : K.In h) (a : NtA K C p nw) : Looks M h (Bind.staticBase (.ref C)) (.type "tuple") := by
  have hmb := nt_made (M := M) X a
  obtain ⟨oc, od, cd, sl, e, e1, e2, e3, e4, e5⟩ := a.o
  have hc : clsIn K C = some cd := by unfold clsIn; rw [e]
  have hm : Looks M h (mroOf (.ref C)) cd.mro := (looks_clsIn X hc).andThen .now
  intro A Q E s k q
  unfold Bind.staticBase
  refine wpAny_bind (hm A _ E s k ?_)
  rw [e1, List.forIn_cons]
  refine wpAny_bind (wpAny_bind (wpAny_bind (hmb A _ E s k ?_)))
  dsimp only
  refine wpAny_bind ((looks_clsIn X hc) A _ E s k ?_)
  rw [e2, best_tup]
  refine wpAny_bind (wpAny_pure (wpAny_pure ?_))
  dsimp only
  rw [List.forIn_cons]
  refine wpAny_bind (wpAny_bind ?_)
  rw [PySem.F.called_tuple.made]
  exact wpAny_pure (wpAny_pure (wpAny_pure (wpAny_pure q)))
theorem nt_here (X : K.In h) (a : NtA K C p nw) : Looks M h (Bind.madeHere "tuple.__new__" (.ref C)) () := by
  intro A Q E s k q
  unfold Bind.madeHere
  refine wpAny_bind (nt_base X a A _ E s k ?_)
  rw [PySem.F.called_tuple.made]
  with_reducible refine wpAny_bind (wpAny_pure ?_)
  simp only [Option.map_some, bne_self_eq_false, Bool.false_eq_true, if_false]
  with_reducible exact wpAny_pure q
theorem nt_type (X : K.In h) (a : NtA K C p nw) : Looks M h (isType (.ref C)) true := by
  obtain ⟨oc, od, cd, sl, e, e1, e2, e3, e4, e5⟩ := a.o
  exact (Looks.ld (X _ _ e)).andThen .now
theorem nt_args (C T : Addr) : argsOk "tuple.__new__" ⟨[.ref C, .ref T], []⟩ := by unfold argsOk; kernel_rfl
theorem nt_check {T : Addr} (X : K.In h) (a : NtA K C p nw) : Looks M h (checkBuiltinCall "tuple.__new__" ⟨[.ref C, .ref T], []⟩) () := by
  have hb0 : builtinKind "tuple.__new__" = some .builtinFn := by decide +kernel
  have hs0 : splitId "tuple.__new__" = some ("tuple", "__new__") := by decide +kernel
  intro A Q E s k q
  simp only [checkBuiltinCall, hb0, hs0]
  rw [if_pos (by decide)]
  refine wpAny_bind (nt_type X a A _ E s k ?_)
  simp only [Bool.not_true, Bool.false_eq_true, if_false]
  refine wpAny_bind (looks_subIn X a.tup A _ E s k ?_)
  simp only [Bool.not_true, Bool.false_eq_true, if_false]
  refine wpAny_bind (nt_base X a A _ E s k ?_)
  rw [PySem.F.called_tuple.made]
  with_reducible refine wpAny_bind (wpAny_pure ?_)
  simp only [bne_self_eq_false, Bool.false_eq_true, if_false]
  have ha := nt_args C T
  cases hsig : Manifest.signature? "tuple.__new__" with
  | none => exact wpAny_pure q
  | some sig =>
    simp only [argsOk, hsig] at ha
    have h2 : Bind.checkArgs "tuple.__new__" sig ⟨[.ref C, .ref T], []⟩ = pure () := ha
    show wpAny M A (Bind.checkArgs "tuple.__new__" sig ⟨[.ref C, .ref T], []⟩) _ E s
    rw [h2]; exact wpAny_pure q
theorem nt_new {T : Addr} {vs : List Value} {Q : Value → Heap → Nat → Prop} (b : Base K mg mb h₀) (w : Led h₀ h l) (a : NtA K C p nw) (hT : (T, TupV vs) ∈ l) (hsz : vs.length ≤ 1000)
    (q : ∀ x dx h', Led h₀ h' ((x, NtP C dx vs) :: (dx, FrmS 0 []) :: l) → Q (.ref x) h' k) : Go c A (call (.builtin "tuple.__new__") [.ref C, .ref T]) h k Q := by
  have X := b.kin.keeps w.keep
  obtain ⟨oT, eT, nT, rfl⟩ := w.get hT
  refine wpAny_call (codeAny_call_builtin (by decide +kernel) PySem.F.entry_tuple_new ((nt_check X a).here ?_))
  show wpAny _ _ (isType (.ref C) >>= _) _ _ _
  refine wpAny_bind ((nt_type X a).here ?_)
  simp only [Bool.not_true, Bool.false_eq_true, if_false]
  refine wpAny_bind ((looks_subIn X a.tup).here ?_)
  simp only [Bool.not_true, Bool.false_eq_true, if_false]
  refine wpAny_bind ((nt_here X a).here ?_)
  refine wpAny_bind ((looks_findIn X a.ini).here ?_)
  rw [if_pos (by decide)]
  refine wpAny_bind (wpAny_pure ?_)
  refine wpAny_bind (wpAny_pure ?_)
  rw [if_neg (by simp)]
  refine wpAny_bind (wpAny_collect_seq T (.inr rfl) eT rfl rfl (fun h' hk => ?_) (by rw [sizeLine_eq]; simp; omega))
  have w1 := w.grow hk
  refine wpAny_bind (wpAny_pure (wpAny_bind (wpAny_alloc ?_)))
  have w2 := w1.alloc emptyDict (P := FrmS 0 []) rfl ⟨⟨List.nodup_nil, #[], 0, rfl, fun e he => by simp at he, fun name => rfl⟩, #[], 0, rfl, Nat.le_refl _⟩
  have w3 := w2.alloc { cls := .ref C, dict := some h'.objs.size, data := .seq vs.toArray 0, slots := #[] } (P := NtP C h'.objs.size vs) rfl ⟨0, rfl⟩
  obtain ⟨oc, od, cd, sl, e, e1, e2, e3, e4, e5⟩ := a.o
  refine wpAny_bind ?_
  unfold newObj
  dsimp only
  rw [if_neg (by rw [sizeLine_eq]; simp; omega)]
  unfold newObjAsIs classHasDel
  refine wpAny_bind (wpAny_alloc (wpAny_bind (wpAny_bind (wpAny_load (b.kin.keeps w3.keep _ _ e) (wpAny_pure ?_)))))
  rw [e3]
  exact wpAny_pure (wpAny_pure ⟨_, _, rfl, q _ _ _ w3⟩)
end
end Mine

/-! E6 -/
namespace Mine
theorem fillE6 : PySem.Challenge.rw_bn0041_01 = PySem.Challenge.rw_bn0041_01 ∧ hd.heap_1 = hd.heap_1 := by
  k_fill
  exact ⟨rfl, rfl⟩
section
variable {c : Cx} {A : Around} {h₀ h : Heap} {k : Nat} {l l' : List It} {mg mb : Str → Option Value} {K : Frag} {C p nw : Addr} {M : Model} {env : Env}
theorem new121 {va vb : Value} {Q : Value → Heap → Nat → Prop} (b : Base (hd.heap_1 c.w.params) mg mb h₀) (w : Led h₀ h l) (hdl : A.depth < 890)
    (q : ∀ x dx h' k', Led h₀ h' ((x, NtP 171 dx [va, vb]) :: (dx, FrmS 0 []) :: l) → Q (.ref x) h' k') : GoC c A (.call (.ref 121) ⟨[.ref 171, va, vb], []⟩) h k Q := by
  refine gEnterK ["_cls", "reset_time", "remaining"] [.ref 171, va, vb] b w (by omega) (by k_is) (by k_is) (BindsTo.of_eq rfl) (locs rfl) (by decide) (by decide +kernel) (fun L h k n w => ?_)
  generalize henv : envOf _ _ _ _ _ = env at n ⊢
  have kc : env.kindOf "_cls" = some .local := by rw [← henv]; rfl
  have kr : env.kindOf "reset_time" = some .local := by rw [← henv]; rfl
  have ke : env.kindOf "remaining" = some .local := by rw [← henv]; rfl
  have k3 : env.kindOf "tuple" = some .globalImplicit := by rw [← henv]; rfl
  refine xDoc n.k fun k => xRet ?_
  refine eCallM (nameB (v := .type "tuple") b w n k3 (by k_is) (by decide +kernel) (by decide) ?_)
  with_reducible refine gMethT (v := .builtin "tuple.__new__") b w typeOf_tup stub_tup ?e0 ?h0 fun k => ?_
  case e0 => k_is
  case h0 => decide +kernel
  refine cwB (aCons (nameL w n kc t0 t0 (aCons ?_)))
  refine eTup (aCons (nameL w n kr t0 (t1 t0) (aCons (nameL w n ke t0 (t2 t0) (aNil ⟨_, w, by rw [sizeLine_eq]; show 2 ≤ 16777216; decide, fun T h w => aNil ?_⟩)))))
  refine nt_new b w (nt_ws c) t0 (by show 2 ≤ 1000; decide) fun x dx h w => ?_
  exact q x dx _ _ (w.sub (.cons_cons _ (.cons_cons _ (.cons _ (.cons _ (List.Sublist.refl _))))))
end
end Mine

/-! E7 -/
namespace Mine
theorem fillE7 : PySem.Challenge.rw_bn0041_01 = PySem.Challenge.rw_bn0041_01 ∧ hd.heap_1 = hd.heap_1 := by
  k_fill
  exact ⟨rfl, rfl⟩
section
variable {c : Cx} {A : Around} {h₀ h : Heap} {k : Nat} {l l' : List It} {mg mb : Str → Option Value} {K : Frag} {C p nw : Addr} {M : Model} {env : Env}
theorem oi_args3 (a b d : Value) : argsOk "object.__init__" ⟨[a, b, d], []⟩ := by unfold argsOk; kernel_rfl
set_option maxHeartbeats 1000000 in
theorem ws_ {va vb : Value} {Q : Value → Heap → Nat → Prop} (b : Base (hd.heap_1 c.w.params) mg mb h₀) (w : Led h₀ h l) (hdl : A.depth < 880)
    (q : ∀ x dx h' k', Led h₀ h' ((x, NtP 171 dx [va, vb]) :: (dx, FrmS 0 []) :: l) → Q (.ref x) h' k') : GoC c A (.call (.ref 171) ⟨[va, vb], []⟩) h k Q := by
  have X := b.kin.keeps w.keep
  have a := nt_ws c
  obtain ⟨oc, od, cd, sl, hC, e1, e2, e3, e4, e5⟩ := a.o
  obtain ⟨rest, hrc⟩ := a.rc
  refine codeAny_of_tree ?_
  show wpAny _ _ (callAny (.ref 171) _) _ _ _
  refine nd_load (X _ _ hC) ?_
  show wpAny _ _ (callAny.viaDunder (.ref 171) _) _ _ _
  unfold callAny.viaDunder
  refine wpAny_bind ((looks_specialIn X a.call).at ?_)
  dsimp only
  rw [tc_bind]
  refine wpAny_bind (wpAny_pure (wpAny_bind (wpAny_pure ?_)))
  refine wpAny_pure (a := Fin.again (.call (.builtin "type.__call__") ⟨[.ref 171, va, vb], []⟩)) (And.intro rfl ?_)
  refine codeAny_call_builtin_at (Code.quiet_builtin _ (by decide +kernel)) entry_typeCall ?_
  with_reducible refine check_slot tc_kind tc_split (looks_instIn X a.typ) (tc_args _ _ _) ?_
  unfold Builtin.«type.__call__»
  have hm : ∀ {h}, (hd.heap_1 c.w.params).In h → Looks c.m h (mroOf (.ref 171)) cd.mro := fun X => (looks_clsIn X (by unfold clsIn; rw [hC])).andThen .now
  show wpAny _ _ (if (Value.ref 171 == Value.type "type") = true then _ else _) _ _ _
  rw [if_neg (by decide)]
  show wpAny _ _ (mroOf (.ref 171) >>= _) _ _ _
  refine wpAny_bind ((hm X).here ?_)
  rw [e1]
  dsimp only
  rw [if_neg (by decide)]
  refine wpAny_bind ((nt_made X a).here ?_)
  dsimp only
  refine wpAny_bind (cls_bind (s := c.s h k) X a.rd a.nwf (wpAny_call (sm_get (s := c.s h (k + 1)) X hrc (handed_on rfl ?_))))
  refine wpAny_bind (wpAny_holding ?_)
  refine (Go.ofC (new121 (A := A.under (Code.builtin "type.__call__" ⟨[Value.ref 171, va, vb], []⟩)) (k := k + 1) b w (by show A.depth + 1 < 890; omega) (Q := fun v h' k' => ∃ x dx, v = .ref x ∧ Led h₀ h' ((x, NtP 171 dx [va, vb]) :: (dx, FrmS 0 []) :: l)) fun x dx h' k' w' => ⟨x, dx, rfl, w'⟩)).toWp fun v h' k' z => ?_
  obtain ⟨x, dx, rfl, w'⟩ := z
  have X' := b.kin.keeps w'.keep
  obtain ⟨ox, ex, nx, rfl⟩ := w'.get t0
  have ty : Looks c.m h' (typeOf (.ref x)) (.ref 171) := (Looks.ld ex).andThen .now
  have ins : Looks c.m h' (isInstance (.ref x) (.ref 171)) true := by
    unfold isInstance
    exact ty.andThen (looks_subIn X' a.self)
  refine wpAny_bind (ins.here ?_)
  rw [if_neg (by decide)]
  have hso : subIn (hd.heap_1 c.w.params) (.ref 171) (.type "object") = some true := by k_is
  have ins2 : Looks c.m h' (isInstance (.ref x) (.type "object")) true := by
    unfold isInstance
    exact ty.andThen (looks_subIn X' hso)
  have done : GoC c (A.under (Code.builtin "type.__call__" ⟨[Value.ref 171, va, vb], []⟩)) (.call (.builtin "object.__init__") ⟨[.ref x, va, vb], []⟩) h' k' fun v h'' k'' => v = .none ∧ h'' = h' := by
    refine codeAny_call_builtin oi_plain entry_oi ?_
    with_reducible refine check_slot oi_kind oi_split ins2 (oi_args3 _ _ _) ?_
    unfold Builtin.«object.__init__»
    dsimp only
    rw [if_pos (by rfl)]
    refine wpAny_bind (ty.here ?_)
    refine wpAny_bind ((looks_findIn X' a.ini).here ?_)
    dsimp only
    refine wpAny_bind ((nt_made X' a).here ?_)
    rw [if_neg (by decide)]
    rw [if_neg (by decide)]
    exact wpAny_pure ⟨h', k', rfl, rfl, rfl⟩
  refine wpAny_bind (wpAny_holding ?_)
  refine wpAny_bind (wpAny_bind (ty.here ((looks_findIn X' a.ini).here (wpAny_holding (wpAny_bind ((Looks.of_pure (oi_bind _)).here (wpAny_bind ((Go.ofC done).toWp fun v h'' k'' z => wpAny_pure ?_))))))))
  obtain ⟨rfl, rfl⟩ := z
  dsimp only
  rw [if_neg (by decide)]
  exact wpAny_pure ⟨_, _, rfl, q _ _ _ _ w'⟩
end
end Mine

/-! P1 -/
namespace Mine
def kRun (n : Nat) (f : Nat → Nat → Bool) {α : Type} : KasT α → Option α
  | .ret a => some a
  | .ask i j k => if i < n ∧ j < n then kRun n f (k (f i j)) else none
theorem kRun_wp {n : Nat} {f : Nat → Nat → Bool} {α : Type} {cmp : Nat → Nat → (Bool → Shared → Prop) → Shared → Prop} {I : Shared → Prop} {Q : α → Shared → Prop}
    (hc : ∀ i j s C, i < n → j < n → I s → (∀ s', I s' → C (f i j) s') → cmp i j C s) : ∀ (t : KasT α) (a : α) (s : Shared), kRun n f t = some a → I s → (∀ s', I s' → Q a s') → t.kasWp cmp Q s
  | .ret b, a, s, e, i, q => by cases e; exact q s i
  | .ask i j k, a, s, e, hi, q => by
    unfold kRun at e
    split at e
    · rename_i hh
      exact hc i j s _ hh.1 hh.2 hi fun s' hi' => kRun_wp hc _ a s' e hi' q
    · cases e
def rk (c i : Nat) : Nat := if i = 0 then c else 2 * i
def okSort (n c : Nat) (p : Array Nat) : Bool := p.size == n && (List.range n).all (fun i => p.toList.contains i) && (List.range n).all fun i => (List.range n).all fun j => decide (i < j → rk c (p.getD i 0) ≤ rk c (p.getD j 0)) && decide (i < n → p.getD i 0 < n)
theorem sort_ok : ∀ n < 11, 2 ≤ n → ∀ c < 23, ∃ p, kRun n (fun i j => decide (rk c i < rk c j)) (kas_sort n) = some p ∧ okSort n c p = true := by
  have : ∀ n < 11, 2 ≤ n → ∀ c < 23, ((kRun n (fun i j => decide (rk c i < rk c j)) (kas_sort n)).map (okSort n c)) = some true := by decide +kernel
  intro n hn h2 c hc
  obtain ⟨p, e, q⟩ := Option.map_eq_some_iff.mp (this n hn h2 c hc)
  exact ⟨p, e, q⟩
end Mine

/-! P2 -/
namespace Mine
abbrev Sp := Int × Int
def lexLt (a b : Sp) : Bool := decide (a.1 < b.1 ∨ a.1 = b.1 ∧ a.2 < b.2)
theorem lexLt_irr (x : Sp) : lexLt x x = false := by unfold lexLt; simp
theorem cut_at (x : Sp) : ∀ L : List Sp, ∃ n ≤ L.length, (∀ j y, j < n → L[j]? = some y → lexLt y x = true) ∧ ∀ y, L[n]? = some y → lexLt y x = false
  | [] => ⟨0, Nat.le_refl _, by simp, by simp⟩
  | y :: L => by
    cases e : lexLt y x with
    | false => exact ⟨0, Nat.zero_le _, by intro j y hj; omega, fun z hz => by simp at hz; subst hz; exact e⟩
    | true =>
      obtain ⟨n, h1, h2, h3⟩ := cut_at x L
      refine ⟨n + 1, by simp; omega, fun j z hj hz => ?_, fun z hz => h3 z (by simpa using hz)⟩
      cases j with
      | zero => simp at hz; subst hz; exact e
      | succ j => exact h2 j z (by omega) (by simpa using hz)
theorem lex_tri {a b : Sp} (h1 : lexLt a b = false) (h2 : lexLt b a = false) : a = b := by
  unfold lexLt at h1 h2
  simp only [decide_eq_false_iff_not] at h1 h2
  obtain ⟨a1, a2⟩ := a
  obtain ⟨b1, b2⟩ := b
  dsimp only at h1 h2
  have : a1 = b1 ∧ a2 = b2 := by omega
  rw [this.1, this.2]
theorem asc_at {L : List Sp} (hL : L.Pairwise fun a b => a.1 < b.1) {i j : Nat} {a b : Sp} (hij : i < j) (ha : L[i]? = some a) (hb : L[j]? = some b) : a.1 < b.1 := by
  obtain ⟨hi, rfl⟩ := List.getElem?_eq_some_iff.mp ha
  obtain ⟨hj, rfl⟩ := List.getElem?_eq_some_iff.mp hb
  exact (List.pairwise_iff_getElem.mp hL) i j hi hj hij
theorem rank_of {x : Sp} {L : List Sp} (hL : L.Pairwise fun a b => a.1 < b.1) (hn : L.length < 10) : ∃ c < 23, ∀ i j a b, (x :: L)[i]? = some a → (x :: L)[j]? = some b → lexLt a b = decide (rk c i < rk c j) := by
  obtain ⟨n, h1, h2, h3⟩ := cut_at x L
  have late : ∀ j y z, n < j → L[n]? = some z → L[j]? = some y → lexLt x y = true ∧ lexLt y x = false := by
    intro j y z hj hz hy
    have := asc_at hL hj hz hy
    have h3 := h3 z hz
    unfold lexLt at h3 ⊢
    simp only [decide_eq_false_iff_not, decide_eq_true_eq] at h3 ⊢
    omega
  have main : ∀ c, (c = 2 * n + 1 ∧ L[n]? ≠ some x ∨ c = 2 * n + 2 ∧ L[n]? = some x) → ∀ i j a b, (x :: L)[i]? = some a → (x :: L)[j]? = some b → lexLt a b = decide (rk c i < rk c j) := by
    intro c hc i j a b ha hb
    have zero : ∀ j b, L[j]? = some b → lexLt x b = decide (c < 2 * (j + 1)) ∧ lexLt b x = decide (2 * (j + 1) < c) := by
      clear ha hb
      intro j b hb
      by_cases hj : j < n
      · have := h2 j b hj hb
        have h' : lexLt x b = false := by
          unfold lexLt at this ⊢
          simp only [decide_eq_false_iff_not, decide_eq_true_eq] at this ⊢
          omega
        rw [this, h']
        constructor
        · symm; simp; omega
        · symm; simp; omega
      · by_cases hjn : j = n
        · subst hjn
          have h3' := h3 b hb
          by_cases hx : b = x
          · subst hx
            have : c = 2 * j + 2 := by
              rcases hc with ⟨_, h⟩ | ⟨h, _⟩
              · exact absurd hb h
              · exact h
            rw [lexLt_irr]
            constructor
            · symm; simp; omega
            · symm; simp; omega
          · have : c = 2 * j + 1 := by
              rcases hc with ⟨h, _⟩ | ⟨_, h⟩
              · exact h
              · rw [hb] at h; cases h; exact absurd rfl hx
            have hx2 : lexLt x b = true := by
              cases q : lexLt x b with
              | true => rfl
              | false => exact absurd (lex_tri h3' q) hx
            rw [h3', hx2]
            constructor
            · symm; simp; omega
            · symm; simp; omega
        · have hlt : n < L.length := Nat.lt_of_lt_of_le (by omega : n < j) (Nat.le_of_lt (List.getElem?_eq_some_iff.mp hb).1)
          obtain ⟨z, hz⟩ : ∃ z, L[n]? = some z := ⟨_, List.getElem?_eq_getElem hlt⟩
          obtain ⟨q1, q2⟩ := late j b z (by omega) hz hb
          rw [q1, q2]
          constructor
          · symm; simp; omega
          · symm; simp; omega
    cases i with
    | zero =>
      simp at ha; subst ha
      cases j with
      | zero => simp at hb; subst hb; rw [lexLt_irr]; simp
      | succ j =>
        have := (zero j b (by simpa using hb)).1
        rw [this]; simp [rk]
    | succ i =>
      cases j with
      | zero =>
        simp at hb; subst hb
        have := (zero i a (by simpa using ha)).2
        rw [this]; simp [rk]
      | succ j =>
        have ha' : L[i]? = some a := by simpa using ha
        have hb' : L[j]? = some b := by simpa using hb
        have e : rk c (i + 1) = 2 * (i + 1) := rfl
        have e2 : rk c (j + 1) = 2 * (j + 1) := rfl
        rw [e, e2]
        rcases Nat.lt_trichotomy i j with h | h | h
        · have := asc_at hL h ha' hb'
          unfold lexLt
          rw [decide_eq_decide]
          constructor
          · intro _; omega
          · intro _; omega
        · subst h
          rw [ha'] at hb'; cases hb'
          rw [lexLt_irr]; simp
        · have := asc_at hL h hb' ha'
          unfold lexLt
          rw [decide_eq_decide]
          constructor
          · intro _; omega
          · intro _; omega
  by_cases hx : L[n]? = some x
  · exact ⟨2 * n + 2, by omega, main _ (.inr ⟨rfl, hx⟩)⟩
  · exact ⟨2 * n + 1, by omega, main _ (.inl ⟨rfl, hx⟩)⟩

/-- what the sort gives back -/
structure SortedOf (sp out : List Sp) : Prop where
  all : ∀ s ∈ sp, s ∈ out
  sub : ∀ s ∈ out, s ∈ sp
  asc : out.Pairwise fun a b => a.1 ≤ b.1
theorem sort_run {x : Sp} {L : List Sp} (hL : L.Pairwise fun a b => a.1 < b.1) (hn : L.length < 10) (h1 : 1 ≤ L.length) : ∃ p, kRun (x :: L).length (fun i j => lexLt ((x :: L).getD i (0, 0)) ((x :: L).getD j (0, 0))) (kas_sort (x :: L).length) = some p ∧
    p.size = (x :: L).length ∧ (∀ i ∈ p.toList, i < (x :: L).length) ∧ SortedOf (x :: L) (p.toList.map fun i => (x :: L).getD i (0, 0)) := by
  obtain ⟨c, hc, hrk⟩ := rank_of (x := x) hL hn
  generalize hsp : x :: L = sp at *
  have hlen : sp.length = L.length + 1 := by rw [← hsp]; rfl
  obtain ⟨p, e, ok⟩ := sort_ok sp.length (by omega) (by omega) c hc
  have key : ∀ {α : Type} (t : KasT α), kRun sp.length (fun i j => lexLt (sp.getD i (0, 0)) (sp.getD j (0, 0))) t = kRun sp.length (fun i j => decide (rk c i < rk c j)) t := by
    intro α t
    induction t with
    | ret a => rfl
    | ask i j k ih =>
      unfold kRun
      split
      · rename_i hh
        have : lexLt (sp.getD i (0, 0)) (sp.getD j (0, 0)) = decide (rk c i < rk c j) := by
          refine hrk i j _ _ ?_ ?_
          · simp [List.getD, List.getElem?_eq_getElem hh.1]
          · simp [List.getD, List.getElem?_eq_getElem hh.2]
        rw [this]
        exact ih _
      · rfl
  refine ⟨p, (key _).trans e, ?_⟩
  unfold okSort at ok
  simp only [Bool.and_eq_true, beq_iff_eq, List.all_eq_true, List.mem_range, decide_eq_true_eq, List.contains_iff_mem] at ok
  obtain ⟨⟨o1, o2⟩, o3⟩ := ok
  have inn : ∀ i ∈ p.toList, i < sp.length := by
    intro i hi
    obtain ⟨q, hq, rfl⟩ := List.mem_iff_getElem.mp hi
    have hq' : q < sp.length := by rw [Array.length_toList, o1] at hq; exact hq
    have := (o3 q hq' q hq').2 hq'
    have hqp : q < p.size := by omega
    simpa [Array.getD, hqp] using this
  refine ⟨o1, inn, ⟨fun s hs => ?_, fun s hs => ?_, ?_⟩⟩
  · obtain ⟨i, hi, rfl⟩ := List.mem_iff_getElem.mp hs
    exact List.mem_map.mpr ⟨i, o2 i hi, by simp [List.getD, hi]⟩
  · obtain ⟨i, hi, rfl⟩ := List.mem_map.mp hs
    have := inn i hi
    simp [List.getD, this]
  · rw [List.pairwise_iff_getElem]
    intro i j hi hj hij
    rw [List.length_map, Array.length_toList, o1] at hi hj
    have h4 := (o3 i hi j hj).1 hij
    have hip : i < p.size := by omega
    have hjp : j < p.size := by omega
    simp only [Array.getD, hip, hjp, dif_pos] at h4
    simp only [List.getElem_map, Array.getElem_toList]
    have a1 : p[i] < sp.length := inn _ (by rw [Array.mem_toList_iff]; exact Array.getElem_mem hip)
    have a2 : p[j] < sp.length := inn _ (by rw [Array.mem_toList_iff]; exact Array.getElem_mem hjp)
    have h5 := hrk p[j] p[i] (sp.getD p[j] (0, 0)) (sp.getD p[i] (0, 0)) (by simp [List.getD, a2]) (by simp [List.getD, a1])
    have h6 : lexLt (sp.getD p[j] (0, 0)) (sp.getD p[i] (0, 0)) = false := by
      rw [h5]; simp; exact h4
    unfold lexLt at h6
    simp only [decide_eq_false_iff_not] at h6
    omega
theorem sort_one (x : Sp) : SortedOf [x] [x] := ⟨fun _ h => h, fun _ h => h, by simp⟩

/-! ## the settling -/
def stepS (len : Int) (m : Int) (s : Sp) : Int := if s.1 + len - 100 ≤ m ∧ m < s.2 + len then s.2 + len else m
def settle (len m : Int) (sp : List Sp) : Int := sp.foldl (stepS len) m
def Away (len m : Int) (s : Sp) : Prop := m < s.1 + len - 100 ∨ s.2 + len ≤ m
theorem settle_ok (len : Int) : ∀ (sp done : List Sp) (m : Int), (∀ s ∈ done ++ sp, s.1 ≤ s.2) → (done ++ sp).Pairwise (fun a b => a.1 ≤ b.1) → (∀ s ∈ done, Away len m s) →
    m ≤ settle len m sp ∧ ∀ s ∈ done ++ sp, Away len (settle len m sp) s
  | [], done, m, h1, h2, h3 => ⟨Int.le_refl _, fun s hs => h3 s (by simpa using hs)⟩
  | x :: sp, done, m, h1, h2, h3 => by
    have hx : x.1 ≤ x.2 := h1 x (by simp)
    have hm : m ≤ stepS len m x := by unfold stepS; split <;> omega
    have hd : ∀ s ∈ done ++ [x], Away len (stepS len m x) s := by
      intro s hs
      rcases List.mem_append.mp hs with hs | hs
      · have a := h3 s hs
        have hle : s.1 ≤ x.1 := by
          have := List.pairwise_append.mp h2
          exact this.2.2 s hs x (by simp)
        unfold Away at a ⊢
        unfold stepS
        split <;> omega
      · simp at hs; subst hs
        unfold Away stepS
        split <;> omega
    have := settle_ok len sp (done ++ [x]) (stepS len m x) (by simpa using h1) (by simpa using h2) hd
    refine ⟨Int.le_trans hm this.1, ?_⟩
    exact fun s hs => this.2 s (by simpa using hs)
theorem settle_of {len m : Int} {sp out : List Sp} (s : SortedOf sp out) (h : ∀ x ∈ sp, x.1 ≤ x.2) : m ≤ settle len m out ∧ ∀ x ∈ sp, Away len (settle len m out) x := by
  have := settle_ok len out [] m (by simpa using fun x hx => h x (s.sub x hx)) (by simpa using s.asc) (by simp)
  exact ⟨this.1, fun x hx => this.2 x (by simpa using s.all x hx)⟩
end Mine

/-! P3 -/
namespace Mine
def mixIs : Str ⊕ Int → Value → Bool
  | .inl x, v => Value.isStrOf x v
  | .inr i, v => Value.isInt i v
def mixH (w : World) : Str ⊕ Int → Int
  | .inl x => hashStr w x
  | .inr i => hashInt i
theorem mix_shape {a : Str ⊕ Int} {v : Value} (h : mixIs a v = true) : (∃ x t, a = .inl x ∧ v = .str x t) ∨ ∃ i t, a = .inr i ∧ v = .int i t := by
  cases a with
  | inl x => obtain ⟨t, rfl⟩ := Value.isStrOf_shape h; exact .inl ⟨x, t, rfl, rfl⟩
  | inr i => obtain ⟨t, rfl⟩ := Value.isInt_shape h; exact .inr ⟨i, t, rfl, rfl⟩
def mixKind (w : World) : PySem.KeyKind pg w (Str ⊕ Int) where
  is := mixIs
  hash := mixH w
  inj := fun v a b ha hb => by
    rcases mix_shape ha with ⟨x, t, rfl, rfl⟩ | ⟨x, t, rfl, rfl⟩ <;> rcases mix_shape hb with ⟨y, u, rfl, e⟩ | ⟨y, u, rfl, e⟩ <;> cases e <;> rfl
  byValue := fun a v ha => by
    rcases mix_shape ha with ⟨x, t, rfl, rfl⟩ | ⟨x, t, rfl, rfl⟩ <;> rfl
  pyHash := fun {A E s a v Q} ha h => by
    rcases mix_shape ha with ⟨x, t, rfl, rfl⟩ | ⟨x, t, rfl, rfl⟩
    · exact wpAny_pyHash_str h
    · exact wpAny_pyHash_int h
  eqBool := fun {A E s a b u v Q} ha hb h => by
    rcases mix_shape ha with ⟨x, t, rfl, rfl⟩ | ⟨x, t, rfl, rfl⟩ <;> rcases mix_shape hb with ⟨y, u, rfl, rfl⟩ | ⟨y, u, rfl, rfl⟩
    · exact wpAny_eqBool_str (by simpa using h)
    · exact PySem.SeqAt.EqAt.str_int _ _ _ _ _ _ _ _ (by simpa using h)
    · exact PySem.SeqAt.EqAt.int_str _ _ _ _ _ _ _ _ (by simpa using h)
    · exact wpAny_eqBool_int (by rw [show (x == y) = decide (x = y) by by_cases q : x = y <;> simp [q]]; simpa using h)
  «strs» := fun a x t v ha => by
    rcases mix_shape ha with ⟨y, u, rfl, e⟩ | ⟨y, u, rfl, e⟩
    · cases e; cases v <;> rfl
    · cases e
abbrev tk (w : World) : HeapKind pg w (List (Str ⊕ Int)) := tupleKind (mixKind w)
end Mine

/-! F1 -/
namespace Mine
section
variable {c : Cx} {A : Around} {h₀ h : Heap} {k : Nat} {l l' : List It} {mg mb : Str → Option Value} {K : Frag} {env : Env} {a : Addr} {vs : List Value} {ns : List Int}
theorem gSum {Q : Value → Heap → Nat → Prop} (hA : A.handled = none) (w : Led h₀ h l) (hm : (a, LstV vs) ∈ l) (hi : IntsAre vs ns) (q : ∀ t h' k', Led h₀ h' l → Q (.int ns.sum t) h' k') : Go c A (call (.builtin "sum") [.ref a]) h k Q := by
  obtain ⟨xs, e⟩ := hi.allInts.items
  have hns : ns = xs.toList.map (·.1) := by rw [← hi.numsOf, ← nums_intItems, ← e]
  have hl := LstV.is w hm
  rw [e] at hl
  refine sum_intListG (s := c.s h k) hA hl fun h' tk t' hk => ⟨h', _, rfl, ?_⟩
  rw [preSum_eq, List.take_of_length_le (by simp), ← hns]
  exact q _ _ _ (w.grow hk)
theorem gMin {Q : Value → Heap → Nat → Prop} (hA : A.handled = none) (w : Led h₀ h l) (hm : (a, LstV vs) ∈ l) (hi : IntsAre vs ns) (hne : 0 < ns.length) (q : ∀ M t h' k', Led h₀ h' l → M ∈ ns → (∀ x ∈ ns, M ≤ x) → Q (.int M t) h' k') : Go c A (call (.builtin "min") [.ref a]) h k Q := by
  obtain ⟨xs, e⟩ := hi.allInts.items
  have hns : ns = xs.toList.map (·.1) := by rw [← hi.numsOf, ← nums_intItems, ← e]
  have hsz : 0 < xs.size := by
    have h3 := hne; rw [hns, List.length_map, Array.length_toList] at h3; exact h3
  have hl := LstV.is w hm
  rw [e] at hl
  refine min_intList (s := c.s h k) hA hl hsz fun v h' tk hv hk => ?_
  obtain ⟨t, rfl⟩ := intItems_at hv
  obtain ⟨h1, h2⟩ := argBest_lt (numAt xs) (xs.size - 1)
  refine ⟨h', _, rfl, q _ t _ _ (w.grow hk) ?_ fun a ha => ?_⟩
  · rw [hns, numAt_eq]; exact getD_mem (by rw [List.length_map, Array.length_toList]; omega)
  · rw [hns] at ha
    obtain ⟨j, hj, rfl⟩ := mem_getD ha
    rw [List.length_map, Array.length_toList] at hj
    rw [← numAt_eq]; exact h2 j (by omega)
theorem gMax2 {x y : Int} {t u : Tok} {Q : Value → Heap → Nat → Prop} (hA : A.handled = none) (w : Led h₀ h l) (q : ∀ t h' k', Led h₀ h' l → Q (.int (max x y) t) h' k') : Go c A (call (.builtin "max") [.int x t, .int y u]) h k Q := by
  refine max_two_ints (s := c.s h k) hA fun h' tk hk => ⟨h', tk, rfl, ?_⟩
  by_cases hc : y > x
  · rw [if_pos hc, ← show max x y = y by omega]; exact q _ _ _ (w.grow hk)
  · rw [if_neg hc, ← show max x y = x by omega]; exact q _ _ _ (w.grow hk)
theorem aTup2 {x y : Str} {px py pos : Pos} {kk : Nat} {v u : Value} {Q : Unit → Heap → Nat → Prop} (hA : A.handled = none) (w : Led h₀ h l) (hm : (a, TupV [v, u]) ∈ l)
    (q : ∀ h', Led h₀ h' l → Go c A (storeName env x v) h' k fun _ h k => Go c A (storeName env y u) h k Q) : Go c A (assign (.Tuple [.Name x px, .Name y py] kk pos) env (.ref a)) h k Q := by
  refine wpAny_assign_Tuple (s := c.s h k) hA (TupV.is2 w hm) rfl rfl fun h' hE => ?_
  have w' := w.grow (h' := h') fun b o e => hE b o (Nat.ne_of_lt (Heap.lt_size e)) e
  show wpAny c.m A (assignInOrder [assign (.Name x px) env, assign (.Name y py) env] [v, u]) _ _ (c.s h' k)
  refine wpAny_bind (wpAny_holding (wpAny_assign_Name ((q h' w').toWp fun _ h k z => ?_)))
  refine wpAny_bind (wpAny_holding (wpAny_assign_Name (z.toWp fun _ h k z => ?_)))
  exact wpAny_pure ⟨h, k, rfl, z⟩
theorem xUnpack {x y : Str} {px py tp pos : Pos} {kk : Nat} {value : PySem.Expr} {rest : List Stmt} {Q : Flow → Heap → Nat → Prop}
    (z : Go c A (eval value env) h k fun v h k => Go c A (assign (.Tuple [.Name x px, .Name y py] kk tp) env v) h k fun _ h k => Go c A (execs rest env) h k Q)
    (hs : swapsWithSole [.Tuple [.Name x px, .Name y py] kk tp] value pos.line env = pure false := by rfl)
    (hw : swappedStores [.Tuple [.Name x px, .Name y py] kk tp] value env = pure none := by rfl) : Go c A (execs (.Assign [.Tuple [.Name x px, .Name y py] kk tp] value pos :: rest) env) h k Q :=
  wpAny_execs_cons (Assign_Tuple (z.toWp fun _ _ _ y => y.toWp fun _ _ _ z => z) hs hw)
end
end Mine

/-! F2 -/
namespace Mine
abbrev Kx := List (Str ⊕ Int) × Addr × Value
def KeptP (w : World) (xs : List Kx) (o : Obj) : Prop := o.ExactDict ∧ ∃ es ep, o.data = .dict es ep ∧ es.toList = xs.map (entryOfKey (tk w)) ∧ (xs.map (·.1)).Nodup
def TKey (w : World) (ks : List (Str ⊕ Int)) (o : Obj) : Prop := o.cls = .type "tuple" ∧ ∃ items n, o.data = .seq items n ∧ PySem.ItemsAre (mixKind w) ks items.toList
def kIt (w : World) (D : Addr) (xs : List Kx) : List It := (D, KeptP w xs) :: xs.map fun x => (x.2.1, TKey w x.1)
def KOk (len : Int) (xs : List Kx) : Prop := ∀ x ∈ xs, ∃ m b t, x.1 = [.inl m, .inr b] ∧ x.2.2 = .int (b + 1 + len) t
section
variable {c : Cx} {A : Around} {h₀ h : Heap} {k : Nat} {l l' : List It} {mg mb : Str → Option Value} {K : Frag} {env : Env} {a : Addr} {vs : List Value} {ns : List Int}
theorem gKept {D T : Addr} {xs : List Kx} {mark : Str} {b r len : Int} {u1 u2 u : Tok} {Q : Value → Heap → Nat → Prop} (w : Led h₀ h ((T, TupV [.str mark u1, .int b u2]) :: (kIt c.w D xs ++ l))) (hk : KOk len xs) (hr : r = b + 1 + len) (hu : A.units < 9000) (hx : xs.length ≤ 1000)
    (q : ∀ xs' t' h' k', KOk len xs' → xs'.length ≤ xs.length + 1 → Led h₀ h' (kIt c.w D xs' ++ l) → Q (.int r t') h' k') : Go c A (call (.builtin "dict.setdefault") [.ref D, .ref T, .int r u]) h k Q := by
  have hm : (D, KeptP c.w xs) ∈ (T, TupV [.str mark u1, .int b u2]) :: (kIt c.w D xs ++ l) := t1 (List.mem_append_left _ t0)
  obtain ⟨o, e, hex, es, ep, hd, hes, hnd⟩ := w.get hm
  obtain ⟨oT, eT, nT, rfl⟩ := w.get t0
  have hkey : ∀ {s : Shared}, s.heap = h → (tk c.w).is s.heap [.inl mark, .inr b] T := fun hs => by
    rw [hs]
    exact ⟨_, _, _, eT, rfl, rfl, .cons (by show (mark == mark) = true; simp) (.cons (by show (b == b) = true; simp) .nil)⟩
  have his : ∀ x ∈ xs, (tk c.w).is h x.1 x.2.1 := fun x hx => by
    obtain ⟨ok, ek, hc, items, n, hdk, hi⟩ := w.get (a := x.2.1) (P := TKey c.w x.1) (t1 (List.mem_append_left _ (t1 (List.mem_map.mpr ⟨x, hx, rfl⟩))))
    exact ⟨ok, items, n, ek, hc, hdk, hi⟩
  have hroom : ∀ {n}, n ≤ 10 → A.units + n < cLine := fun hn => by show A.units + _ < 9900; omega
  refine gCallB PySem.F.slot_dict_setdefault ⟨o, e, hex.1⟩ PySem.F.entry_dict_setdefault (PySem.F.args_dict_setdefault_3 _ _ _) ?_
  unfold Builtin.«dict.setdefault»
  refine Go.bind ?_
  unfold Builtin.Dict.keyAndDefault
  refine Go.bind (wpAny_notOrdered_dict (⟨o, e, hex.1⟩ : (c.s h k).TypeIs (.ref D) "dict") ⟨_, _, rfl, ?_⟩)
  show Go c A.in1 (pure (D, Value.ref T, some (Value.int r u))) h k _
  refine Go.pure ?_
  dsimp only
  rw [w.noSys hm, if_neg Bool.false_ne_true]
  refine Go.bind ?_
  unfold dictSetDefault
  refine Go.holding (Go.bind ?_)
  refine (tk c.w).pyHash (hroom (by decide)) (hkey rfl) ⟨_, _, rfl, Go.bind ?_⟩
  refine wpAny_dictFind_heap (s := c.s h _) (hroom (by decide)) (hkey rfl) e hd hes his hnd (fun hno => ⟨_, _, rfl, ?_⟩) fun j p hj => ⟨_, _, rfl, ?_⟩
  · refine Go.bind (wpAny_rule ⟨_, _, rfl, Go.bind ?_⟩)
    have hz : es.size = xs.length := size_of_entries hes
    refine wpAny_updateDictKeys e hd ⟨_, _, rfl, Go.pure (Go.pure ⟨_, rfl, ?_⟩)⟩ (by rw [hz, sizeLine_eq]; omega) (by show (es.push _).size ≤ _; rw [Array.size_push, hz]; exact Nat.le_refl _)
    refine q (xs ++ [([.inl mark, .inr b], T, .int r u)]) u _ _ ?_ (by simp) ?_
    · intro x hx
      rcases List.mem_append.mp hx with hx | hx
      · exact hk x hx
      · simp at hx; subst hx
        exact ⟨mark, b, u, rfl, by rw [hr]⟩
    · have w1 := w.same (P' := KeptP c.w (xs ++ [([.inl mark, .inr b], T, .int r u)])) (.s .z) (Heap.SameBut.update h D (Obj.mapDictKeys (·.push ⟨(tk c.w).hash [.inl mark, .inr b], .ref T, .int r u⟩))) ⟨_, Heap.get?_update_self _ e (Obj.isFreed_of_dict (Obj.data_mapDictKeys hd _)), hex.mapDictKeys _, _, _, Obj.data_mapDictKeys hd _, ?_, ?_⟩
      · have w2 := w1.weak (P' := TKey c.w [.inl mark, .inr b]) .z fun o ho => by
          obtain ⟨n, rfl⟩ := ho
          exact ⟨rfl, _, n, rfl, .cons (by show (mark == mark) = true; simp) (.cons (by show (b == b) = true; simp) .nil)⟩
        refine w2.perm ?_
        unfold kIt
        rw [List.map_append, List.cons_append, List.append_assoc]
        exact (List.Perm.swap _ _ _).trans ((List.perm_middle.symm).cons _)
      · simp [hes, entryOfKey]
      · rw [List.map_append, List.nodup_append]
        refine ⟨hnd, by simp, fun x hx y hy => ?_⟩
        simp only [List.map_cons, List.map_nil, List.mem_singleton] at hy
        subst hy
        exact fun e => not_mem_keys_of_get hno (e ▸ hx)
  · obtain ⟨m, b', t', e1, e2⟩ := hk _ (List.mem_of_getElem? hj)
    refine Go.bind (wpAny_dictEntries (s := c.s h _) e hd ⟨_, _, rfl, ?_⟩)
    dsimp only
    rw [entry_at hes j, hj]
    refine Go.bind (wpAny_rule ⟨_, _, rfl, Go.pure ?_⟩)
    dsimp only at e1 e2
    have eb : b' = b := by cases e1; rfl
    subst eb
    show Go c A.in1 (pure (Fin.done (.ret p.2))) h _ _
    rw [e2, ← hr]
    exact Go.pure ⟨_, rfl, q xs t' _ _ hk (Nat.le_succ _) w.drop⟩
end
end Mine

/-! F3 -/
namespace Mine
inductive SpIn (l : List It) : List Value → List Sp → Prop
  | nil : SpIn l [] []
  | cons {T : Addr} {b d : Int} {t u : Tok} {vs : List Value} {sp : List Sp} : (T, TupV [.int b t, .int d u]) ∈ l → SpIn l vs sp → SpIn l (.ref T :: vs) ((b, d) :: sp)
theorem SpIn.len {l : List It} {vs : List Value} {sp : List Sp} (S : SpIn l vs sp) : vs.length = sp.length := by
  induction S with
  | nil => rfl
  | cons _ _ ih => simp [ih]
theorem SpIn.at {l : List It} {vs : List Value} {sp : List Sp} (S : SpIn l vs sp) : ∀ {i : Nat}, i < sp.length → ∃ T t u, vs.getD i Value.none = .ref T ∧ (T, TupV [.int (sp.getD i (0, 0)).1 t, .int (sp.getD i (0, 0)).2 u]) ∈ l := by
  induction S with
  | nil => intro i hi; simp at hi
  | @cons T b d t u vs sp hm S ih =>
    intro i hi
    cases i with
    | zero => exact ⟨T, t, u, rfl, hm⟩
    | succ i => exact ih (by simpa using hi)
theorem SpIn.sub {l l' : List It} {vs : List Value} {sp : List Sp} (S : SpIn l vs sp) (hs : ∀ p ∈ l, p ∈ l') : SpIn l' vs sp := by
  induction S with
  | nil => exact .nil
  | cons hm _ ih => exact .cons (hs _ hm) ih
theorem SpIn.pick {l : List It} {vs : List Value} {sp : List Sp} (S : SpIn l vs sp) : ∀ p : List Nat, (∀ i ∈ p, i < sp.length) → SpIn l (p.map fun i => vs.getD i Value.none) (p.map fun i => sp.getD i (0, 0))
  | [], _ => .nil
  | i :: p, h => by
    obtain ⟨T, t, u, e, hm⟩ := S.at (h i (by simp))
    show SpIn l (vs.getD i Value.none :: _) ((sp.getD i (0, 0)) :: _)
    rw [e]
    exact .cons hm (SpIn.pick S p fun j hj => h j (by simp [hj]))
section
variable {c : Cx} {A : Around} {h₀ h : Heap} {k : Nat} {l l' : List It} {a : Addr} {vs : List Value}
theorem sAsk {sp : List Sp} {m : Nat} (w : Led h₀ h l) (S : SpIn l vs sp) (i j : Nat) (s : Shared) (C : Bool → Shared → Prop) (hi : i < sp.length) (hj : j < sp.length) (hI : ∃ k, s = c.s h k) (q : ∀ s', (∃ k, s' = c.s h k) → C (lexLt (sp.getD i (0, 0)) (sp.getD j (0, 0))) s') :
    kas_ask pg c.w A (tuples' true) vs i j C s := by
  obtain ⟨k, rfl⟩ := hI
  obtain ⟨T, t, u, e, hm⟩ := S.at hi
  obtain ⟨T', t', u', e', hm'⟩ := S.at hj
  obtain ⟨o, eo, n, rfl⟩ := w.get hm
  obtain ⟨o', eo', n', rfl⟩ := w.get hm'
  unfold kas_ask
  rw [e, e']
  generalize sp.getD i (0, 0) = x at *
  generalize sp.getD j (0, 0) = y at *
  obtain ⟨x1, x2⟩ := x
  obtain ⟨y1, y2⟩ := y
  dsimp only at *
  refine kat_lt (s := c.s h k) eo rfl eo' rfl ?_
  show KatLex pg c.w A true _ C [(.int x1 t, .int y1 t'), (.int x2 u, .int y2 u')] 0 _
  refine kat_cons (wpAny_eqBool_int ?_)
  refine kat_go (fun h1 => kat_yes ?_) (fun h1 => kat_no ?_)
  · have h1 : x1 = y1 := by simpa using h1
    refine kat_cons (wpAny_eqBool_int ?_)
    refine kat_go (fun h2 => kat_yes (kat_nil ?_)) (fun h2 => kat_no ?_)
    · have h2 : x2 = y2 := by simpa using h2
      subst h1 h2
      have := q (c.s h k) ⟨k, rfl⟩
      rw [lexLt_irr] at this
      exact this
    · have h2 : x2 ≠ y2 := by simpa using h2
      refine kat_one _ _ (P.lt_int ?_)
      have := q (c.s h k) ⟨k, rfl⟩
      have e : lexLt (x1, x2) (y1, y2) = decide (x2 < y2) := by
        unfold lexLt; rw [decide_eq_decide]; dsimp only; omega
      rw [e] at this
      exact this
  · have h1 : x1 ≠ y1 := by simpa using h1
    refine oneLt_int ?_
    have := q (c.s h k) ⟨k, rfl⟩
    have e : lexLt (x1, x2) (y1, y2) = decide (x1 < y1) := by
      unfold lexLt; rw [decide_eq_decide]; dsimp only; omega
    rw [e] at this
    exact this
theorem SpIn.tups {sp : List Sp} (w : Led h₀ h l) (S : SpIn l vs sp) : ∃ fs, KatTups h vs fs ∧ fs.length = sp.length ∧ ∀ v ∈ fs, ∃ i t, v = .int i t := by
  induction S with
  | nil => exact ⟨[], .nil, rfl, fun v h => nomatch h⟩
  | @cons T b d t u vs sp hm S ih =>
    obtain ⟨fs, h1, h2, h3⟩ := ih
    obtain ⟨o, eo, n, rfl⟩ := w.get hm
    refine ⟨.int b t :: fs, .cons eo rfl rfl (by simp) h1, by simp [h2], fun v hv => ?_⟩
    rcases List.mem_cons.mp hv with rfl | hv
    · exact ⟨b, t, rfl⟩
    · exact h3 v hv
theorem gListSort {D : Addr} {x : Sp} {L : List Sp} {Q : PySem.Fin → Heap → Nat → Prop} (w : Led h₀ h ((D, LstV vs) :: l)) {l0 : List It} (S : SpIn l0 vs (x :: L)) (hsub : ∀ p ∈ l0, p ∈ l) (hL : L.Pairwise fun a b => a.1 < b.1) (hn : L.length < 10)
    (q : ∀ vs' sp' h' k', SortedOf (x :: L) sp' → SpIn l0 vs' sp' → Led h₀ h' ((D, LstV vs') :: l) → Q (.done (.ret .none)) h' k') : Go c A (Builtin.«list.sort» ⟨[.ref D], []⟩) h k Q := by
  obtain ⟨o, e, n, rfl⟩ := w.get t0
  have hlen : vs.length = L.length + 1 := by have := S.len; simpa using this
  have hz : vs.toArray.size ≤ sizeLine := by rw [List.size_toArray, sizeLine_eq]; omega
  unfold Go
  rw [list_sort_plain]
  refine wpAny_bind (listItems_at e rfl ?_)
  refine wpAny_bind (listUpdate_at e rfl ?_ hz (Nat.zero_le _))
  have w1 := w.same (P' := LstV []) .z (Heap.SameBut.update ..) ⟨_, get?_update_seq (c := "list") e (fun _ => #[]), _, rfl⟩
  obtain ⟨e1, ho1⟩ : ∃ e1, (h.update D (Obj.mapSeq fun _ => (#[] : Array Value))).get? D = some (seqObj "list" #[] e1) := ⟨_, get?_update_seq (c := "list") e fun _ => #[]⟩
  refine wpAny_bind (seqEpoch_at ho1 rfl ?_)
  refine wpAny_bind (wpAny_newTuple ?_ (by show vs.length ≤ _; rw [sizeLine_eq]; omega))
  refine wpAny_bind (wpAny_newList ?_ (Nat.zero_le _))
  refine wpAny_holding ?_
  have w2 := w1.alloc (seqObj "tuple" vs.toArray 0) (P := fun _ => True) rfl trivial
  have w3 := w2.alloc (seqObj "list" #[] 0) (P := fun _ => True) rfl trivial
  have ho3 := Heap.get?_push_of_some (seqObj "list" #[] 0) (Heap.get?_push_of_some (seqObj "tuple" vs.toArray 0) ho1)
  generalize ((h.update D (Obj.mapSeq fun _ => (#[] : Array Value))).push (seqObj "tuple" vs.toArray 0)).push (seqObj "list" #[] 0) = h3 at w3 ho3
  have w4 : Led h₀ h3 ((D, LstV []) :: l) := w3.drop.drop
  show wpAny c.m A _ _ _ (c.s h3 k)
  dsimp only
  have fin : ∀ (vs' : List Value) (sp' : List Sp) (k' : Nat) (st : SortSt), (arrOf st).map (·.2) = List.toArray vs' → failedOf st = none → vs'.length = vs.length → SortedOf (x :: L) sp' → SpIn l0 vs' sp' →
      wpAny c.m A (do
        let touched := (← seqEpoch D) != e1
        Builtin.List.listUpdate (.ref D) fun _ => (arrOf st).map (·.2)
        if let some e := failedOf st then rule "list.sort.comparison-raised"; throw e
        if touched then rule "list.sort.modified"; raiseError "ValueError" "list modified during sort"
        ret .none) (fun a s' => ∃ h' k', s' = c.s h' k' ∧ Q a h' k') (fun _ _ => False) (c.s h3 k') := by
    intro vs' sp' k' st hout hf hl hs hS
    refine wpAny_bind (seqEpoch_at ho3 rfl ?_)
    rw [hout]
    refine wpAny_bind (listUpdate_at ho3 rfl ?_ (Nat.zero_le _) (by rw [List.size_toArray, sizeLine_eq]; omega))
    rw [hf]
    simp only [bne_self_eq_false, Bool.false_eq_true, if_false]
    refine wpAny_pure ⟨_, k', rfl, q vs' sp' _ k' hs hS ?_⟩
    exact w4.same .z (Heap.SameBut.update ..) ⟨_, get?_update_seq (c := "list") ho3 _, _, rfl⟩
  by_cases h1 : L.length = 0
  · have hL0 : L = [] := List.eq_nil_of_length_eq_zero h1
    subst hL0
    have h2 : vs.toArray.size < 2 := by rw [List.size_toArray, hlen]; decide
    rw [if_pos h2, if_pos h2]
    refine wpAny_bind (wpAny_pure ?_)
    refine wpAny_bind ?_
    rw [StateT.run_pure]
    refine wpAny_pure ?_
    dsimp only
    refine fin vs [x] k _ ?_ rfl rfl (sort_one x) S
    match vs, hlen with
    | [v], _ =>
      show Array.map (fun x => x.snd) ((#[v] : Array Value).zip #[v]) = #[v]
      simp
  · have h2 : ¬ vs.toArray.size < 2 := by rw [List.size_toArray]; omega
    rw [if_neg h2, if_neg h2]
    obtain ⟨fs, T1, T2, T3⟩ := SpIn.tups w4.drop (S.sub hsub)
    refine wpAny_bind (kat_kind (s := c.s h3 k) (T := .type "int") T1 (by rw [T2]; simp) (fun v hv => ?_) (by decide) ?_)
    · obtain ⟨i, t, rfl⟩ := T3 v hv
      exact Looks.of_pure rfl
    obtain ⟨p, hp, hps, hpi, hso⟩ := sort_run (x := x) hL hn (by omega)
    have hvl : vs.length = (x :: L).length := S.len
    have hpe : (tuples' (Value.type "int" != Value.type "tuple")) = tuples' true := by rfl
    rw [hpe]
    have run := kRun_wp (n := (x :: L).length) (f := fun i j => lexLt ((x :: L).getD i (0, 0)) ((x :: L).getD j (0, 0))) (cmp := kas_ask pg c.w A (tuples' true) vs) (I := fun s => ∃ k, s = c.s h3 k)
      (Q := fun p' s => p' = p ∧ ∃ k, s = c.s h3 k) (fun i j s C hi hj hI q => sAsk (m := 0) w4.drop (S.sub hsub) i j s C hi hj hI q) (kas_sort (x :: L).length) p (c.s h3 k) hp ⟨k, rfl⟩ fun s' hs' => ⟨rfl, hs'⟩
    rw [← hvl] at run
    refine wpAny_bind (wpAny_mono (kat_run (E := fun _ _ => False) (Q := fun st' s' => ∃ k', s' = c.s h3 k' ∧ p.size = vs.length ∧ arrOf st' = p.map (kas_item (vs.toArray.zip vs.toArray)) ∧ failedOf st' = none) rfl (by omega) (by omega) (fun p' st' s' a1 a2 a3 a4 => ?_) run) ?_ fun _ _ e => e)
    · obtain ⟨rfl, k', rfl⟩ := a4
      exact ⟨k', rfl, a1, a2, a3⟩
    rintro ⟨⟨⟩, st'⟩ s' ⟨k', rfl, a1, a2, a3⟩
    dsimp only
    exact fin (p.toList.map fun i => vs.getD i Value.none) _ k' st' (kat_snds rfl a2) a3 (by rw [List.length_map, Array.length_toList, a1]) hso (S.pick _ fun i hi => hpi i hi)
theorem gSorted {x : Sp} {L : List Sp} {Q : Value → Heap → Nat → Prop} (w : Led h₀ h l) (hm : (a, LstV vs) ∈ l) {l0 : List It} (S : SpIn l0 vs (x :: L)) (hsub : ∀ p ∈ l0, p ∈ l) (hL : L.Pairwise fun a b => a.1 < b.1) (hn : L.length < 10)
    (q : ∀ D vs' sp' h' k', SortedOf (x :: L) sp' → SpIn l0 vs' sp' → Led h₀ h' ((D, LstV vs') :: l) → Q (.ref D) h' k') : Go c A (call (.builtin "sorted") [.ref a]) h k Q := by
  have hlen : vs.length = L.length + 1 := by have := S.len; simpa using this
  have hz : vs.length ≤ sizeLine := by rw [sizeLine_eq]; omega
  refine Calls.call_function_entry (s := c.s h k) kind_sorted plain_sorted entry_sorted (args_sorted1 _) ?_
  unfold Builtin.«sorted»
  refine wpAny_bind (m := checkCount "sorted" 1 1 _) (wpAny_pure ?_)
  refine wpAny_bind (collect_list (s := c.s h k) (LstV.is w hm) ?_ hz)
  refine wpAny_bind (wpAny_newList ?_ hz)
  have w1 := w.alloc (seqObj "list" #[] 0) (P := LstV []) rfl ⟨0, rfl⟩
  have w2 := w1.same (P' := fun _ => True) .z (Heap.SameBut.update _ h.objs.size (Obj.mapSeq (· ++ vs.toArray))) ⟨_, get?_update_seq (c := "list") (xs := #[]) (n := 0) (Heap.get?_push_size _ rfl) _, trivial⟩
  have w3 := w2.alloc (seqObj "list" vs.toArray 0) (P := LstV vs) rfl ⟨0, rfl⟩
  have w4 : Led h₀ _ (_ :: l) := w3.sub (.cons_cons _ (.cons _ (List.Sublist.refl _)))
  obtain ⟨oD, eD, nD, rfl⟩ := w4.get t0
  refine wpAny_bind (wpAny_holding (wpAny_call_entry slot_list_sort ⟨_, eD, rfl⟩ entry_list_sort ?body (args_list_sort _)))
  case body =>
    refine Go.toWp (gListSort (c := c) w4 S hsub hL hn (Q := fun fin h' k' => fin = .done (.ret .none) ∧ ∃ vs' sp', SortedOf (x :: L) sp' ∧ SpIn l0 vs' sp' ∧ Led h₀ h' ((_, LstV vs') :: l)) fun vs' sp' h' k' a1 a2 a3 => ⟨rfl, vs', sp', a1, a2, a3⟩) fun fin h' k' z => ?_
    obtain ⟨rfl, vs', sp', a1, a2, a3⟩ := z
    exact ⟨_, rfl, wpAny_pure ⟨_, rfl, ⟨_, _, rfl, q _ vs' sp' _ _ a1 a2 a3⟩⟩⟩
end
end Mine

/-! F4 -/
namespace Mine
theorem fillF4 : PySem.Challenge.rw_bn0041_01 = PySem.Challenge.rw_bn0041_01 ∧ hd.heap_1 = hd.heap_1 := by
  k_fill
  exact ⟨rfl, rfl⟩
section
variable {c : Cx} {A : Around} {h₀ h h' : Heap} {k : Nat} {l l' : List It} {env : Env} {L a it : Addr} {K : Frag} {mg mb : Str → Option Value} {P P' : Obj → Prop} {vs : List Value}
theorem gOwned {elts : List PySem.Expr} {kk : Nat} {tp : Pos} {v : Value} {i : Nat} {Q : Unit → Heap → Nat → Prop} (w : Led h₀ h l) (hm : (it, IterP a i) ∈ l) (q : Q () h k) : Go c A (letOwnedTupleGo (.Tuple elts kk tp) (.ref it) v) h k Q := by
  obtain ⟨o, e, hc, hd⟩ := w.get hm
  unfold letOwnedTupleGo
  cases v with
  | ref b =>
    refine Go.bind (wpAny_load (s := c.s h k) e ⟨h, k, rfl, ?_⟩)
    dsimp only
    rw [hc, hd]
    dsimp only
    rw [if_neg (by simp)]
    exact Go.pure q
  | _ => exact Go.pure q
theorem xForP {elts : List PySem.Expr} {kk : Nat} {tp : Pos} {iter : PySem.Expr} {body rest : List Stmt} {pos : Pos} {Q : Flow → Heap → Nat → Prop} (hA : A.handled = none)
    (x : Go c A (eval iter env) h k fun v h k => ∃ (J : Nat → List It → Prop) (a : Addr) (vs : List Value) (l : List It), v = .ref a ∧ Led h₀ h l ∧ (a, LstV vs) ∈ l ∧ J 0 l ∧
      (∀ it i v h k l, vs[i]? = some v → Led h₀ h ((it, IterP a (i + 1)) :: l) → (a, LstV vs) ∈ l → J i l → Go c A (assign (.Tuple elts kk tp) env v) h k fun _ h k => Go c A (execs body env) h k fun f h k => match f with
        | .next | .cont => ∃ l', Led h₀ h ((it, IterP a (i + 1)) :: l') ∧ (a, LstV vs) ∈ l' ∧ J (i + 1) l'
        | .brk => Go c A (execs rest env) h k Q
        | .ret v => Q (.ret v) h k) ∧
      (∀ h k l, Led h₀ h l → (a, LstV vs) ∈ l → J vs.length l → Go c A (execs rest env) h k Q))
    (hs : ∀ x, foldedSetIterable iter env x = pure x := by intro _; rfl) : Go c A (execs (.For (.Tuple elts kk tp) iter body [] pos :: rest) env) h k Q := by
  refine xCons (wpAny_For (x.toWp fun v h k z => ?_) hs)
  obtain ⟨J, a, vs, l, rfl, w, hm, j, step, fin⟩ := z
  refine Go.toWp (Q := fun it h k => ∃ it', it = .ref it' ∧ Led h₀ h ((it', IterP a 0) :: l)) (gIter w hm fun it h' w' => ⟨it, rfl, w'⟩) fun it h k z => ?_
  obtain ⟨it, rfl, w⟩ := z
  refine codeAny_forLoop_any (fun n s' => ∃ i h k l, n + i = vs.length + 1 ∧ i ≤ vs.length ∧ s' = c.s h k ∧ Led h₀ h ((it, IterP a i) :: l) ∧ (a, LstV vs) ∈ l ∧ J i l) ?_ (vs.length + 1) ⟨0, h, k, l, rfl, Nat.zero_le _, rfl, w, hm, j⟩
  rintro n s' ⟨i, h, k, l, hn, hi, rfl, w, hm, j⟩
  cases hv : vs[i]? with
  | none =>
    have : i = vs.length := Nat.le_antisymm hi (by simpa using hv)
    subst this
    refine Go.toWp (Q := fun r h k => r = none ∧ Led h₀ h l) (gNextE hA w hm hv fun h' w' => ⟨rfl, w'⟩) fun r h k z => ?_
    obtain ⟨rfl, w⟩ := z
    exact wpAny_execs_nil ⟨h, k, rfl, fin h k l w hm j⟩
  | some v =>
    have hlt : i < vs.length := (List.getElem?_eq_some_iff.mp hv).1
    refine Go.toWp (Q := fun r h k => r = some v ∧ Led h₀ h ((it, IterP a (i + 1)) :: l)) (gNextI w hm hv fun h' w' => ⟨rfl, w'⟩) fun r h k z => ?_
    obtain ⟨rfl, w⟩ := z
    refine Go.toWp (Q := fun _ h' k' => h' = h ∧ k' = k) (gOwned w t0 ⟨rfl, rfl⟩) fun _ h' k' z => ?_
    obtain ⟨rfl, rfl⟩ := z
    refine (step it i v _ _ l hv w hm j).toWp fun _ h k y => y.toWp fun f h k z => ?_
    cases f with
    | next => obtain ⟨l', w, hm, j⟩ := z; exact ⟨n - 1, by omega, i + 1, h, k, l', by omega, by omega, rfl, w, hm, j⟩
    | cont => obtain ⟨l', w, hm, j⟩ := z; exact ⟨n - 1, by omega, i + 1, h, k, l', by omega, by omega, rfl, w, hm, j⟩
    | brk => exact ⟨h, k, rfl, z⟩
    | ret v => exact ⟨h, k, rfl, z⟩
end
section
variable {c : Cx} {A : Around} {h₀ h : Heap} {k : Nat} {l l' : List It} {mg mb : Str → Option Value} {a : Addr} {vs : List Value}
theorem SpIn.nth {l : List It} {vs : List Value} {sp : List Sp} (S : SpIn l vs sp) : ∀ {i : Nat} {v : Value}, vs[i]? = some v → ∃ T b d t u, v = .ref T ∧ sp[i]? = some (b, d) ∧ (T, TupV [.int b t, .int d u]) ∈ l := by
  induction S with
  | nil => intro i v hv; simp at hv
  | @cons T b d t u vs sp hm S ih =>
    intro i v hv
    cases i with
    | zero => simp at hv; subst hv; exact ⟨T, b, d, t, u, rfl, rfl, hm⟩
    | succ i => exact ih (by simpa using hv)
theorem settle_ {x : Sp} {Lg : List Sp} {len m : Int} {u1 u2 : Tok} {Q : Value → Heap → Nat → Prop} (b : Base (hd.heap_1 c.w.params) mg mb h₀) (w : Led h₀ h l) (hm : (a, LstV vs) ∈ l) (S : SpIn l vs (x :: Lg)) (hL : Lg.Pairwise fun a b => a.1 < b.1) (hn : Lg.length < 10)
    (hle : ∀ y ∈ x :: Lg, y.1 ≤ y.2) (hdl : A.depth < 890) (hA : A.handled = none)
    (q : ∀ m' t h' k', m ≤ m' → (∀ y ∈ x :: Lg, Away len m' y) → Led h₀ h' l → Q (.int m' t) h' k') : GoC c A (.call (.ref 926) ⟨[.int m u1, .ref a, .int len u2], []⟩) h k Q := by
  refine gEnterK ["moment", "spans", "length", "begun", "done"] [.int m u1, .ref a, .int len u2] b w (by omega) (by k_is) (by k_is) (BindsTo.of_eq rfl) (locs rfl) (by decide) (by decide +kernel) (fun L h k n w => ?_)
  generalize henv : envOf _ _ _ _ _ = env at n ⊢
  have km : env.kindOf "moment" = some .local := by rw [← henv]; rfl
  have ks : env.kindOf "spans" = some .local := by rw [← henv]; rfl
  have kl : env.kindOf "length" = some .local := by rw [← henv]; rfl
  have kb : env.kindOf "begun" = some .local := by rw [← henv]; rfl
  have kd : env.kindOf "done" = some .local := by rw [← henv]; rfl
  have kf : env.kindOf "sorted" = some .globalImplicit := by rw [← henv]; rfl
  refine xDoc n.k fun k => xForP (h₀ := h₀) hA (eCallN (nameB (v := .builtin "sorted") b w n kf (by k_is) (by decide +kernel) (by decide) ?_))
  refine cwB (aCons (nameL w n ks t0 (t1 t0) (aNil ?_)))
  refine gSorted w (t1 hm) S (fun p hp => t1 hp) hL hn fun D vs' sp' h k so S' w => ?_
  have fin := settle_of (len := len) (m := m) so hle
  refine ⟨fun i l' => ∃ t vb vd, l' = (D, LstV vs') :: (L, Frm [("moment", some (.int (settle len m (sp'.take i)) t)), ("spans", some (.ref a)), ("length", some (.int len u2)), ("begun", vb), ("done", vd)]) :: l, D, vs', _, rfl, w, t0, ⟨u1, none, none, rfl⟩, ?_, ?_⟩
  · rintro it i v h k l' hv w hmD ⟨t, vb, vd, rfl⟩
    obtain ⟨T, bb, dd, tb, td, rfl, hsp, hT⟩ := S'.nth hv
    refine aTup2 hA w (t3 hT) fun h w => ?_
    refine storeL w n kb (.s (.s (.s .z))) (.s (.s .z)) fun h k w => storeL w n kd (.s (.s (.s (.s .z)))) (.s (.s .z)) fun h k w => ?_
    have hset : settle len m (sp'.take (i + 1)) = stepS len (settle len m (sp'.take i)) (bb, dd) := by
      unfold settle
      rw [List.take_add_one, hsp, List.foldl_append]; rfl
    refine xIf (iAnd (iCmp (eBin (eBin (nameL w n kb (t2 t0) (t3 t0) (nameL w n kl (t2 t0) (t2 t0) (oAdd fun t1' k => eInt fun t2' k => oSub fun t3' k => ?_)))))))
    refine nameL w n km (t2 t0) t0 (oLe (tBool (if_dec (fun h1 => ?_) fun h1 => ?_)))
    · refine iCmp (nameL w n km (t2 t0) t0 (eBin (nameL w n kd (t2 t0) (t4 t0) (nameL w n kl (t2 t0) (t2 t0) (oAdd fun t4' k => oLt (tBool (if_dec (fun h2 => ?_) fun h2 => ?_)))))))
      · refine xAssign (eBin (nameL w n kd (t2 t0) (t4 t0) (nameL w n kl (t2 t0) (t2 t0) (oAdd fun t5' k => ?_))))
        refine storeL w n km .z (.s (.s .z)) fun h k w => xNil (xNil ⟨_, w, t0, t5', some (.int bb tb), some (.int dd td), ?_⟩)
        rw [hset, show stepS len (settle len m (sp'.take i)) (bb, dd) = dd + len from if_pos ⟨h1, h2⟩]
      · refine xNil (xNil ⟨_, w, t0, t, some (.int bb tb), some (.int dd td), ?_⟩)
        rw [hset, show stepS len (settle len m (sp'.take i)) (bb, dd) = settle len m (sp'.take i) from if_neg fun z => h2 z.2]
    · refine if_ff (xNil (xNil ⟨_, w, t0, t, some (.int bb tb), some (.int dd td), ?_⟩))
      rw [hset, show stepS len (settle len m (sp'.take i)) (bb, dd) = settle len m (sp'.take i) from if_neg fun z => h1 z.1]
  · rintro h k l' w hmD ⟨t, vb, vd, rfl⟩
    have hln : sp'.take vs'.length = sp' := by rw [S'.len, List.take_length]
    rw [hln] at w
    exact xRet (nameL w n km (t1 t0) t0 (q _ t _ _ fin.1 fin.2 w.drop.drop))
end
end Mine

/-! F5 -/
namespace Mine
theorem fillF5 : PySem.Challenge.rw_bn0041_01 = PySem.Challenge.rw_bn0041_01 ∧ hd.heap_1 = hd.heap_1 := by
  k_fill
  exact ⟨rfl, rfl⟩
section
variable {c : Cx} {A : Around} {h₀ h : Heap} {k : Nat} {l l' : List It} {env : Env} {mg mb : Str → Option Value} {a : Addr} {vs : List Value} {pos : Pos}
theorem eAndC {x y : PySem.Expr} {zs : List PySem.Expr} {Q : Value → Heap → Nat → Prop} (z : Go c A (eval x env) h k fun v h k => Go c A (truthy v) h k fun t h k => if t then Go c A (eval (.BoolOp .And (y :: zs) pos) env) h k Q else Q v h k) :
    Go c A (eval (.BoolOp .And (x :: y :: zs) pos) env) h k Q := BoolOp_and (z.toWp fun v _ _ y => y.toWp fun t h' k' z => by cases t; exact ⟨h', k', rfl, z⟩; exact z)
theorem eOne {x : PySem.Expr} {op : BoolOp} {Q : Value → Heap → Nat → Prop} (z : Go c A (eval x env) h k Q) : Go c A (eval (.BoolOp op [x] pos) env) h k Q := BoolOp_one z
theorem mKept {D : Addr} {xs : List Kx} {pl : Sem Bool} {Q : Value × List Value → Heap → Nat → Prop} (w : Led h₀ h l) (hm : (D, KeptP c.w xs) ∈ l) (q : Q (.builtin "dict.setdefault", [.ref D]) h k) : Go c A (getMethod (.ref D) "setdefault" pl) h k Q := by
  obtain ⟨o, e, hex, _⟩ := w.get hm
  exact gMethB ⟨o, e, hex.1⟩ PySem.F.plainAttrs_dict PySem.F.slot_dict_setdefault PySem.F.type_dict_setdefault (fun a ea => by cases ea; exact ⟨o, e, hex.2.1⟩) q
theorem told_ {D : Addr} {xs : List Kx} {mark : Str} {begun done len r : Int} {u1 u2 u3 u4 u5 : Tok} {Q : Value → Heap → Nat → Prop} (b : Base (hd.heap_1 c.w.params) mg mb h₀) (w : Led h₀ h (kIt c.w D xs ++ l)) (hk : KOk len xs) (hdl : A.depth < 890) (hA : A.handled = none) (hu : A.units < 8000) (hx : xs.length ≤ 1000)
    (hd1 : done = begun + 1) (hr : r = begun + 1 + len)
    (q : ∀ xs' h' k', KOk len xs' → xs'.length ≤ xs.length + 1 → Led h₀ h' (kIt c.w D xs' ++ l) → Q (.bool true) h' k') :
    GoC c A (.call (.ref 933) ⟨[.ref D, .str mark u1, .int begun u2, .int done u3, .int len u4, .int r u5], []⟩) h k Q := by
  refine gEnterK ["kept", "mark", "begun", "done", "length", "reset"] [.ref D, .str mark u1, .int begun u2, .int done u3, .int len u4, .int r u5] b w (by omega) (by k_is) (by k_is) (BindsTo.of_eq rfl) (locs rfl) (by decide) (by decide +kernel) (fun L h k n w => ?_)
  generalize henv : envOf _ _ _ _ _ = env at n ⊢
  have kk : env.kindOf "kept" = some .local := by rw [← henv]; rfl
  have km : env.kindOf "mark" = some .local := by rw [← henv]; rfl
  have kb : env.kindOf "begun" = some .local := by rw [← henv]; rfl
  have kd : env.kindOf "done" = some .local := by rw [← henv]; rfl
  have kl : env.kindOf "length" = some .local := by rw [← henv]; rfl
  have kr : env.kindOf "reset" = some .local := by rw [← henv]; rfl
  refine xDoc n.k fun k => xRet (eAndC (eCmp (eBin (nameL w n kb t0 (t2 t0) (nameL w n kl t0 (t4 t0) (oAdd fun ta k => nameL w n kr t0 (t5 t0) (oLe ?_)))))))
  rw [decide_eq_true (by omega : begun + len ≤ r)]
  refine tBool (if_tt (eAndC (eCmp (nameL w n kr t0 (t5 t0) (eBin (nameL w n kd t0 (t3 t0) (nameL w n kl t0 (t4 t0) (oAdd fun tb k => oLe ?_))))))))
  rw [decide_eq_true (by omega : r ≤ done + len)]
  refine tBool (if_tt ?_)
  have w := w.mid
  refine eOne (eCmp ?_)
  refine eCallM2 ?_ ?h1 ?h2 ?h3
  case h1 => rfl
  case h2 => rfl
  case h3 => rfl
  refine nameL w n kk fr0 t0 (mKept w (co t0) ?_)
  refine cwB (aCons (eTup (aCons (nameL w n km fr0 (t1 t0) (aCons (nameL w n kb fr0 (t2 t0) (aNil ⟨_, w, by rw [sizeLine_eq]; show 2 ≤ 16777216; decide, fun T h w => ?_⟩)))))))
  refine aCons (nameL w n kr (t1 fr0) (t5 t0) (aNil ?_))
  refine gKept w hk hr (by show A.units + 3 < 9000; omega) hx fun xs' t' h k hk' hx' w => ?_
  refine nameL w n kr fr0 (t5 t0) (oEq ?_)
  rw [show (r == r) = true by simp]
  exact q xs' _ _ hk' hx' w.unmid.drop
end
end Mine

/-! F6 -/
namespace Mine
theorem fillF6 : PySem.Challenge.rw_bn0041_01 = PySem.Challenge.rw_bn0041_01 ∧ hd.heap_1 = hd.heap_1 := by
  k_fill
  exact ⟨rfl, rfl⟩
section
variable {c : Cx} {A : Around} {h₀ h : Heap} {k : Nat} {l l' : List It} {env : Env} {mg mb : Str → Option Value} {a : Addr} {vs : List Value} {pos : Pos}
theorem fstats_ {ad : Ad} {st : St} {Q : Value → Heap → Nat → Prop} (b : Base (hd.heap_1 c.w.params) mg mb h₀) (w : W c h₀ ad h st l) (hdl : A.depth < 830) (hA : A.handled = none) (ok : KeyOk ad)
    (q : ∀ x dx t1 t2 h' k', Led h₀ h' ((x, NtP 171 dx [.int ((stGet st).exp.getD ((stGet st).m + (stGet st).s)) t1, .int (max 0 (ad.amt - (stGet st).cnt.getD 0)) t2]) :: (dx, FrmS 0 []) :: (core c.w ad (stTick (stGet st)) ++ l)) → Q (.ref x) h' k') :
    GoC c A (.call (.ref 277) ⟨[.ref ad.fx, .ref ad.it, .ref ad.who], []⟩) h k Q := by
  refine gEnterK ["self", "item", "identifiers", "remaining", "reset"] [.ref ad.fx, .ref ad.it, .ref ad.who] b w (by omega) (by k_is) (by k_is) (binds_K (b.kin.keeps w.keep) rfl (by k_is) rfl rfl rfl) (locs rfl) (by decide) (by decide +kernel) (fun L h k n w => ?_)
  generalize henv : envOf _ _ _ _ _ = env at n ⊢
  have ks : env.kindOf "self" = some .local := by rw [← henv]; rfl
  have ki : env.kindOf "item" = some .local := by rw [← henv]; rfl
  have kd : env.kindOf "identifiers" = some .local := by rw [← henv]; rfl
  have kr : env.kindOf "remaining" = some .local := by rw [← henv]; rfl
  have ke : env.kindOf "reset" = some .local := by rw [← henv]; rfl
  have km : env.kindOf "max" = some .globalImplicit := by rw [← henv]; rfl
  have kw : env.kindOf "WindowStats" = some .globalImplicit := by rw [← henv]; rfl
  have w := w.mid
  refine xDoc n.k fun k => xAssign (eCallN (nameB (v := .builtin "max") b w n km (by k_is) (by decide +kernel) (by decide) ?_))
  refine cwB (aCons (eInt fun ti k => aCons (eBin (eAmt b w n ki fr0 (t1 t0) (t12 t0) (t13 t0) fun ua k => ?_))))
  refine eCallM2 ?_ ?h1 ?h2 ?h3
  case h1 => rfl
  case h2 => rfl
  case h3 => rfl
  refine eAttr (nameL w n ks fr0 t0 (gOwn b w (t14 t0) (t15 t0) t0 (o_fst c) rfl fun k => gMethA b w (t6 t0) (t7 t0) (m_get c) ?_))
  refine cwF ?_
  refine aCons (eKey b w n ki kd fr0 (t1 t0) (t2 t0) (t18 t0) (t12 t0) (t13 t0) (by show A.depth + 1 < 840; omega) hA ok fun uk h k w => aNil ⟨keepK b w (by k_is), Go.ofC ?_⟩)
  refine get_ b w (by show A.depth + 1 < 880; omega) fun tg h k w => oSub fun ts k => aNil (gMax2 hA w fun tm h k w => ?_)
  refine storeL w n kr (.s (.s (.s .z))) (Sw.appL .z _) fun h k w => xAssign ?_
  refine eCallM2 ?_ ?h1 ?h2 ?h3
  case h1 => rfl
  case h2 => rfl
  case h3 => rfl
  refine eAttr (nameL w n ks fr0 t0 (gOwn b w (t14 t0) (t15 t0) t0 (o_fst c) rfl fun k => gMethA b w (t6 t0) (t7 t0) (m_gexp c) ?_))
  refine cwF ?_
  refine aCons (eKey b w n ki kd fr0 (t1 t0) (t2 t0) (t18 t0) (t12 t0) (t13 t0) (by show A.depth + 1 < 840; omega) hA ok fun uk h k w => aNil ⟨keepK b w (by k_is), Go.ofC ?_⟩)
  refine gexp_ b w (by show A.depth + 1 < 870; omega) fun te h k w => ?_
  refine storeL w n ke (.s (.s (.s (.s .z)))) (Sw.appL .z _) fun h k w => xRet (eCallN (nameG b w n kw (by k_is) (cwF ?_)))
  refine aCons (nameL w n ke fr0 (t4 t0) (aCons (nameL w n kr fr0 (t3 t0) (aNil ⟨keepK b w (by k_is), Go.ofC (ws_ b w (by show A.depth + 1 < 880; omega) fun x dx h k w => ?_)⟩))))
  refine q x dx te tm _ _ ?_
  exact w.sub (.cons_cons _ (.cons_cons _ ((List.Sublist.refl _).append (List.sublist_cons_self _ _))))
theorem mstats_ {ad : Ad} {st : St} {Q : Value → Heap → Nat → Prop} (b : Base (hd.heap_1 c.w.params) mg mb h₀) (w : W c h₀ ad h st l) (hdl : A.depth < 830) (hA : A.handled = none) (ok : KeyOk ad) (ev : EvOk st)
    (q : ∀ x dx start r l1 t1 t2 h' k', GmwOk (esOf st) (st.m + st.s) (60 * ad.mul) start r → Led h₀ h' ((x, NtP 171 dx [.int (start + 60 * ad.mul) t1, .int (ad.amt - (r : Nat)) t2]) :: (dx, FrmS 0 []) :: (core c.w ad { stTick st with l1 := l1 } ++ l)) → Q (.ref x) h' k') :
    GoC c A (.call (.ref 238) ⟨[.ref ad.mv, .ref ad.it, .ref ad.who], []⟩) h k Q := by
  refine gEnterK ["self", "item", "identifiers", "window_start", "window_items", "reset"] [.ref ad.mv, .ref ad.it, .ref ad.who] b w (by omega) (by k_is) (by k_is) (binds_K (b.kin.keeps w.keep) rfl (by k_is) rfl rfl rfl) (locs rfl) (by decide) (by decide +kernel) (fun L h k n w => ?_)
  generalize henv : envOf _ _ _ _ _ = env at n ⊢
  have ks : env.kindOf "self" = some .local := by rw [← henv]; rfl
  have ki : env.kindOf "item" = some .local := by rw [← henv]; rfl
  have kd : env.kindOf "identifiers" = some .local := by rw [← henv]; rfl
  have k1 : env.kindOf "window_start" = some .local := by rw [← henv]; rfl
  have k2 : env.kindOf "window_items" = some .local := by rw [← henv]; rfl
  have ke : env.kindOf "reset" = some .local := by rw [← henv]; rfl
  have kw : env.kindOf "WindowStats" = some .globalImplicit := by rw [← henv]; rfl
  have w := w.mid
  refine xDoc n.k fun k => xUnpack ?_
  refine eCallM2 ?_ ?h1 ?h2 ?h3
  case h1 => rfl
  case h2 => rfl
  case h3 => rfl
  refine eAttr (nameL w n ks fr0 t0 (gOwn b w (t16 t0) (t17 t0) t0 (o_mst c) rfl fun k => gMethA b w (t6 t0) (t7 t0) (m_gmw c) ?_))
  refine cwF ?_
  refine aCons (eKey b w n ki kd fr0 (t1 t0) (t2 t0) (t18 t0) (t12 t0) (t13 t0) (by show A.depth + 1 < 840; omega) hA ok fun uk h k w => ?_)
  refine aCons (eAmt b w n ki fr0 (t1 t0) (t12 t0) (t13 t0) fun ua k => ?_)
  refine aCons (eExp b w n ki fr0 (t1 t0) (t12 t0) (t13 t0) (by show A.depth + 1 < 840; omega) fun ue h k w => aNil ⟨keepK b w (by k_is), Go.ofC ?_⟩)
  refine gmw_ b w (by show A.depth + 1 < 870; omega) ev fun T start r l1 x1 x2 h k gok w => ?_
  refine aTup2 hA w fr0 fun h w => ?_
  have w := w.sub ((List.Sublist.refl _).append (List.sublist_cons_self _ _))
  refine storeL w n k1 (.s (.s (.s .z))) (Sw.appL .z _) fun h k w => storeL w n k2 (.s (.s (.s (.s .z)))) (Sw.appL .z _) fun h k w => ?_
  refine xAssign (eBin (nameL w n k1 fr0 (t3 t0) (eExp b w n ki fr0 (t1 t0) (t12 t0) (t13 t0) (by show A.depth + 1 < 840; omega) fun ue h k w => oAdd fun tr k => ?_)))
  refine storeL w n ke (.s (.s (.s (.s (.s .z))))) (Sw.appL .z _) fun h k w => xRet (eCallN (nameG b w n kw (by k_is) (cwF ?_)))
  refine aCons (nameL w n ke fr0 (t5 t0) (aCons (eBin (eAmt b w n ki fr0 (t1 t0) (t12 t0) (t13 t0) fun ua k => nameL w n k2 fr0 (t4 t0) (oSub fun tx k => aNil ⟨keepK b w (by k_is), Go.ofC (ws_ b w (by show A.depth + 1 < 880; omega) fun x dx h k w => ?_)⟩)))))
  refine q x dx start r l1 tr tx _ _ gok ?_
  exact w.sub (.cons_cons _ (.cons_cons _ ((List.Sublist.refl _).append (List.sublist_cons_self _ _))))
end
end Mine

/-! F7 -/
open PySem PySem.W PySem.Calls PyProof.Rows Builtin Builtin.ObjectAttr Builtin.Getset_descriptor
namespace Mine
theorem fillF7 : PySem.Challenge.rw_bn0041_01 = PySem.Challenge.rw_bn0041_01 ∧ hd.heap_1 = hd.heap_1 := by
  k_fill
  exact ⟨rfl, rfl⟩
set_option maxHeartbeats 4000000 in
theorem slotRaw {prog : Program} {w : World} {A : Around} {K : Frag} {C x : Addr} {s : Shared} {R : Result → Shared → Prop} {ox : Obj} {od : Option Obj} {v : Value} {p i : Nat} (X : K.In s.heap) (I : InstAt s.heap x ox C od)
    (hp : slotIn K p C = some i) (hi : i < 1000) (hf : ox.isFreed = false)
    (h : ∀ h', Heap.SameBut x s.heap h' → h'.get? x = some { ox with slots := (ox.slots ++ Array.replicate (i + 1 - ox.slots.size) none).setIfInBounds i (some v) } → R (.ok (.ret .none)) { s with heap := h' }) :
    codeAny (model prog w) A (.call (.builtin "member_descriptor.__set__") ⟨[.ref p, .ref x, v], []⟩) R s := by
  obtain ⟨n, tn, owner, behind, tb, d, sl, cd, ho, hc, hm, hb, rfl⟩ := slot_of X hp
  obtain ⟨hh, g, dr, t, os⟩ := s
  have L0 := I.type (M := model prog w)
  have L1 := looks_mroIn (M := model prog w) X hm
  have L2 : Looks (model prog w) hh (Slots.slotNamesOf (.ref C)) cd.slotNames := (looks_clsIn X hc).andThen .now
  have hx := I.at_
  dsimp only at ho hx L0 L1
  have f0 := looks_field (M := model prog w) ho 0 (v := .str n tn) rfl
  have f1 := looks_field (M := model prog w) ho 1 (v := owner) rfl
  have f3 := looks_field (M := model prog w) ho 3 (v := .builtin "proto.slot#set") rfl
  have f4 := looks_field (M := model prog w) ho 4 (v := .int behind tb) rfl
  refine codeAny_call_builtin KF.slot_mset.plain KF.entry_mset (KF.slot_mset.check _ _ _ _ _ _ _ _ ⟨_, ho, rfl⟩ (KF.args_mset _ _ _) ?_)
  unfold Builtin.«member_descriptor.__set__» descrSet descrStoreThrough descrCheckInstance descrNameAndClass isInstance
  have f5 : Looks (model prog w) hh (descrItself (.ref p)) [.ref p] := ((Looks.ld (part := none) ho).andThen .now).andThen (Looks.of_pure (by kernel_rfl))
  repeat lk
  refine ⟨Code.quiet_builtin _ (by decide +kernel), codeAny_builtin KF.entry_slotset ?_⟩
  unfold Builtin.«proto.slot#set» Slots.target
  repeat lk
  rw [if_neg hb]
  refine wpAny_pure (wpAny_bind ?_)
  unfold setSlotAt
  dsimp only
  rw [if_neg (by rw [sizeLine_eq]; omega)]
  exact wpAny_updatePart hx (wpAny_pure (h _ (Heap.SameBut.update ..) (Heap.get?_update_self _ hx (by obtain ⟨a1, a2, dd, a4⟩ := ox; cases dd <;> first | rfl | exact nomatch hf | cases hf))))
structure SlS (K : Frag) (C : Addr) (nm : Str) (p : Addr) (i : Nat) : Prop where
  po : plainOver K C = true
  tk : takerIn K C nm = some (some (.ref p))
  ty : typeIn K (.ref p) = some (.type "member_descriptor")
  s : slotIn K p C = some i
  st : findIn K (.ref C) "__setattr__" = some (some (.builtin "object.__setattr__"))
section
variable {c : Cx} {A : Around} {h₀ h : Heap} {k : Nat} {l l' : List It} {env : Env} {mg mb : Str → Option Value} {a : Addr} {vs : List Value} {pos : Pos} {K : Frag} {C x dx : Addr}
def SlP (C dx : Addr) (sl : Array (Option Value)) (o : Obj) : Prop := o = ⟨.ref C, some dx, .plain, sl⟩
theorem gSlotSet {nm : Str} {p i : Nat} {v : Value} {sl : Array (Option Value)} {P : Obj → Prop} {Q : Unit → Heap → Nat → Prop} (b : Base K mg mb h₀) (w : Led h₀ h l) (sw : Sw x (SlP C dx sl) (SlP C dx ((sl ++ Array.replicate (i + 1 - sl.size) none).setIfInBounds i (some v))) l l') (hdx : (dx, P) ∈ l)
    (a : SlS K C nm p i) (hi : i < 1000) (q : ∀ h' k', Led h₀ h' l' → Q () h' k') : Go c A (setAttr (.ref x) nm v) h k Q := by
  have X := b.kin.keeps w.keep
  obtain ⟨o, e, rfl⟩ := w.get sw.mem
  obtain ⟨od, e', _⟩ := w.get hdx
  have I : InstAt h x ⟨.ref C, some dx, .plain, sl⟩ C (some od) := ⟨e, rfl, rfl, e'⟩
  refine set_plain (s := c.s h k) X I a.st (osa_descr (s := c.s h (k + 1)) KF.slot_mset X I a.po a.tk a.ty (slotRaw (s := c.s h (k + 1)) X I a.s hi rfl fun h' hs hg => ?_))
  exact ⟨h', _, rfl, q h' _ (w.same sw hs ⟨_, hg, rfl⟩)⟩
end
end Mine

/-! F8 -/
namespace Mine
theorem fillF8 : PySem.Challenge.rw_bn0041_01 = PySem.Challenge.rw_bn0041_01 ∧ hd.heap_1 = hd.heap_1 := by
  k_fill
  exact ⟨rfl, rfl⟩
theorem mk_item (c : Cx) : MakC (hd.heap_1 c.w.params) 512 450 := ⟨by k_is, by k_is, by k_is⟩
theorem mk_fix (c : Cx) : MakC (hd.heap_1 c.w.params) 280 188 := ⟨by k_is, by k_is, by k_is⟩
theorem mk_mov (c : Cx) : MakC (hd.heap_1 c.w.params) 241 188 := ⟨by k_is, by k_is, by k_is⟩
theorem mk_sto (c : Cx) : MakC (hd.heap_1 c.w.params) 917 812 := ⟨by k_is, by k_is, by k_is⟩
theorem ss_amt (c : Cx) : SlS (hd.heap_1 c.w.params) 512 "amount" 498 0 := ⟨by k_is, by k_is, by k_is, by k_is, by k_is⟩
theorem ss_mul (c : Cx) : SlS (hd.heap_1 c.w.params) 512 "multiples" 499 1 := ⟨by k_is, by k_is, by k_is, by k_is, by k_is⟩
theorem ss_nsp (c : Cx) : SlS (hd.heap_1 c.w.params) 512 "namespace" 500 2 := ⟨by k_is, by k_is, by k_is, by k_is, by k_is⟩
theorem st_fst (c : Cx) : SetC (hd.heap_1 c.w.params) 280 "storage" := ⟨by k_is, by k_is, by k_is, by k_is⟩
theorem st_mst (c : Cx) : SetC (hd.heap_1 c.w.params) 241 "storage" := ⟨by k_is, by k_is, by k_is, by k_is⟩
theorem df_item (c : Cx) : ∃ o s t n, (hd.heap_1 c.w.params).lookup 443 = some o ∧ o.data = .seq #[.int 1 s, .str "LIMITER" t] n := ⟨_, _, _, _, by k_is, rfl⟩
section
variable {c : Cx} {A : Around} {h₀ h : Heap} {k : Nat} {l l' : List It} {env : Env} {mg mb : Str → Option Value} {a : Addr} {vs : List Value} {pos : Pos}
theorem sl_a (v : Value) : ((#[] : Array (Option Value)) ++ Array.replicate (2 + 1 - (#[] : Array (Option Value)).size) none).setIfInBounds 2 (some v) = #[none, none, some v] := by rfl
theorem sl_b (u v : Value) : ((#[none, none, some v] : Array (Option Value)) ++ Array.replicate (0 + 1 - (#[none, none, some v] : Array (Option Value)).size) none).setIfInBounds 0 (some u) = #[some u, none, some v] := by rfl
theorem sl_c (u v w : Value) : ((#[some u, none, some v] : Array (Option Value)) ++ Array.replicate (1 + 1 - (#[some u, none, some v] : Array (Option Value)).size) none).setIfInBounds 1 (some w) = #[some u, some w, some v] := by rfl
theorem gSlotSet2 {K : Frag} {C x dx : Addr} {nm : Str} {p i : Nat} {v : Value} {sl sl' : Array (Option Value)} {P : Obj → Prop} {Q : Unit → Heap → Nat → Prop} (b : Base K mg mb h₀) (w : Led h₀ h l) (sw : Sw x (SlP C dx sl) (SlP C dx sl') l l') (hdx : (dx, P) ∈ l)
    (a : SlS K C nm p i) (hi : i < 1000) (e : (sl ++ Array.replicate (i + 1 - sl.size) none).setIfInBounds i (some v) = sl') (q : ∀ h' k', Led h₀ h' l' → Q () h' k') : Go c A (setAttr (.ref x) nm v) h k Q := by
  subst e; exact gSlotSet b w sw hdx a hi q
theorem item_ {am mu : Int} {u1 u2 : Tok} {Q : Value → Heap → Nat → Prop} (b : Base (hd.heap_1 c.w.params) mg mb h₀) (w : Led h₀ h l) (hdl : A.depth < 850) (hm : 1 ≤ mu)
    (q : ∀ x dx h' k', (∀ ad : Ad, ad.it = x → ad.itd = dx → ad.amt = am → ad.mul = mu → Led h₀ h' ((ad.it, ItemP ad) :: (ad.itd, Frm []) :: l)) → Q (.ref x) h' k') : GoC c A (.call (.ref 512) ⟨[.int am u1, .int mu u2], []⟩) h k Q := by
  refine gMake [] b w (mk_item c) List.nodup_nil fun x dx h w => ?_
  obtain ⟨o, sd, td, nd, hdo, hdd⟩ := df_item c
  refine gEnterK ["self", "amount", "multiples", "namespace"] [.ref x, .int am u1, .int mu u2, .str "LIMITER" td] b w (by rw [mdepth]; omega) (by k_is) (by k_is) (binds_K (b.kin.keeps w.keep) rfl hdo hdd rfl rfl) (locs rfl) (by decide) (by decide +kernel) (fun L h k n w => ?_)
  generalize henv : envOf _ _ _ _ _ = env at n ⊢
  have ks : env.kindOf "self" = some .local := by rw [← henv]; rfl
  have ka : env.kindOf "amount" = some .local := by rw [← henv]; rfl
  have km : env.kindOf "multiples" = some .local := by rw [← henv]; rfl
  have kn : env.kindOf "namespace" = some .local := by rw [← henv]; rfl
  have ki : env.kindOf "int" = some .globalImplicit := by rw [← henv]; rfl
  refine xSetAttr (nameL w n kn t0 (t3 t0) (nameL w n ks t0 t0 (gSlotSet2 (sl := #[]) (dx := dx) (C := 512) b w (.s .z) (t2 t0) (ss_nsp c) (by decide) (sl_a _) fun h k w => ?_)))
  refine xSetAttr (eCallN (nameB (v := .type "int") b w n ki (by k_is) (by decide +kernel) (by decide) (cwF (aCons (nameL w n ka t0 (t1 t0) (aNil ⟨keepType, call_int_int ⟨_, _, rfl, ?_⟩⟩))))))
  refine nameL w n ks t0 t0 (gSlotSet2 (dx := dx) (C := 512) b w (.s .z) (t2 t0) (ss_amt c) (by decide) (sl_b _ _) fun h k w => ?_)
  refine xSetAttr (eCallN (nameB (v := .type "int") b w n ki (by k_is) (by decide +kernel) (by decide) (cwF (aCons (eOr (nameL w n km t0 (t2 t0) (tInt ?_)))))))
  rw [show (mu != 0) = true by simp; omega]
  refine if_tt (aNil ⟨keepType, call_int_int ⟨_, _, rfl, ?_⟩⟩)
  refine nameL w n ks t0 t0 (gSlotSet2 (dx := dx) (C := 512) b w (.s .z) (t2 t0) (ss_mul c) (by decide) (sl_c _ _ _) fun h k w => ?_)
  refine xNil ⟨rfl, q x dx _ _ fun ad e1 e2 e3 e4 => ?_⟩
  subst e1 e2 e3 e4
  have w := w.drop.weak (P' := ItemP ad) .z fun o ho => ⟨u1, u2, td, ho⟩
  exact w.weak (.s .z) fun o ho => ho.1
theorem lim_ {C sa : Addr} {Q : Value → Heap → Nat → Prop} (b : Base (hd.heap_1 c.w.params) mg mb h₀) (w : Led h₀ h l) (hdl : A.depth < 850) (mk : MakC (hd.heap_1 c.w.params) C 188) (st : SetC (hd.heap_1 c.w.params) C "storage")
    (q : ∀ x dx h' k', Led h₀ h' ((x, InstP C dx) :: (dx, Frm [(Str.ofString "storage", some (.ref sa))]) :: l) → Q (.ref x) h' k') : GoC c A (.call (.ref C) ⟨[.ref sa], []⟩) h k Q := by
  refine gMake ["storage"] b w mk (by decide) fun x dx h w => ?_
  refine gEnterK ["self", "storage"] [.ref x, .ref sa] b w (by rw [mdepth]; omega) (by k_is) (by k_is) (BindsTo.of_eq rfl) (locs rfl) (by decide) (by decide +kernel) (fun L h k n w => ?_)
  generalize henv : envOf _ _ _ _ _ = env at n ⊢
  have ks : env.kindOf "self" = some .local := by rw [← henv]; rfl
  have ka : env.kindOf "storage" = some .local := by rw [← henv]; rfl
  refine xSetAttr (nameL w n ka t0 (t1 t0) (nameL w n ks t0 t0 (gSetA b w (t1 t0) .z (.s (.s .z)) (by decide) st fun h k w => ?_)))
  refine xNil ⟨rfl, q x dx _ _ ?_⟩
  exact w.drop.weak (.s .z) fun o ho => ho.1
end
end Mine

/-! F9 -/
namespace Mine
section
variable {c : Cx} {A : Around} {h₀ h h' : Heap} {k : Nat} {l : List It} {env : Env} {K : Frag} {mg mb : Str → Option Value} {P : Addr}
theorem xDef {l' : Addr → List It} {name qual : Str} {params : Arguments} {body rest : List Stmt} {scope : Scope} {clos : List (Str × Addr)} {pos p : Pos} {cc : Addr} {Q : Flow → Heap → Nat → Prop} (b : Base K mg mb h₀) (w : Led h₀ h l) (hcode : env.code = .ref cc) (ch : CodeHd h₀ cc P) (hg : env.globals = mainGlobals)
    (sw : ∀ c', Sw P (TabP p none) (TabP p (some c')) l (l' c')) (hp : pos = p) (hcl : closureFor scope env = pure clos) (hq : qualnameIn env name name = qual)
    (q : ∀ f c' doc ctv h' k', Led h₀ h' ((f, fun o => o = fnMade name qual params body scope clos doc ((mg "__name__").getD .none) c' ctv) :: (c', CodeOf qual) :: l' c') → Go c A (storeName env name (.ref f)) h' k' fun _ h k => Go c A (execs rest env) h k Q)
    (hd0 : params.defaults = [] := by rfl) (hk0 : params.kw_defaults = [] := by rfl) (ha : annTrees params none env = [] := by rfl) :
    Go c A (execs (.FunctionDef name params body [] none [] scope none name pos :: rest) env) h k Q := by
  subst hp
  have hmem : (P, TabP pos none) ∈ l := (sw 0).mem
  obtain ⟨o, e, ps, rfl, ht, hf⟩ := w.get hmem
  obtain ⟨hgP, hb⟩ := b.lowP w hmem
  refine wpAny_execs_cons (nestDef_K hd0 hk0 ha ?_)
  rw [hq]
  refine makeFunction_K (c := cc) (P := P) (ps := ps) (mg := mg) hcl hg (b.g.keeps w.keep) hcode (ch.keeps w.keep) e ht hf hgP hb fun c' ctv doc h' tk hx hge hlt hrec hP => ?_
  obtain ⟨c₂, oc, vs, tt, e2, hoc, hd, hv⟩ := hrec
  cases e2
  have w1 : Led h₀ h' (l' c') := w.makes (sw c') hx ⟨_, hP, _, rfl, by rw [Array.toList_append]; exact TriplesOk_snoc _ _ _ _ ht, by rw [Array.toList_append]; exact codeAmong_snoc _ ht hf⟩
  have w2 : Led h₀ h' ((c', CodeOf qual) :: l' c') := w.add w1 (sw c').keys hge ⟨oc, hoc, vs, tt, hd, hv⟩
  exact (q h'.objs.size c' doc ctv _ tk (w2.alloc (fnMade name qual params body scope clos doc ((mg "__name__").getD .none) c' ctv) rfl rfl)).toWp fun _ _ _ z => z
end
end Mine

/-! G1 -/
namespace Mine
def EmpD (o : Obj) : Prop := o = { cls := .type "dict", dict := none, data := .dict #[] 0, slots := #[] }
section
variable {c : Cx} {A : Around} {h₀ h h' : Heap} {k : Nat} {l : List It} {env : Env} {K : Frag} {mg mb : Str → Option Value} {P : Addr}
theorem gMerge {D kd : Addr} {Q : Unit → Heap → Nat → Prop} (w : Led h₀ h l) (hD : (D, EmpD) ∈ l) (hk : (kd, EmpD) ∈ l) (q : Q () h k) : Go c A (mergeMapping D (.ref kd) true) h k Q := by
  obtain ⟨oD, eD, rfl⟩ := w.get hD
  obtain ⟨ok, ek, rfl⟩ := w.get hk
  have hT : (c.s h k).TypeIs (.ref kd) "dict" := ⟨_, ek, rfl⟩
  unfold mergeMapping
  refine Go.bind (m := isInstance (Value.ref kd) (.type "dict")) (wpAny_isInstance (b := true) hT (by rw [isSubtype_type]; kernel_rfl) ⟨h, k, rfl, ?_⟩)
  dsimp only
  rw [if_pos rfl]
  refine Go.bind (wpAny_specialOf hT PySem.F.slot_dict_iter.lookup ⟨h, k, rfl, Go.bind (Go.pure ?_)⟩)
  rw [show (some (Value.builtin "dict.__iter__") == some (Value.builtin "dict.__iter__")) = true by simp]
  dsimp only
  rw [w.noSys hk, if_neg Bool.false_ne_true]
  refine Go.bind (gEntries eD rfl ?_)
  rw [if_pos (by rfl)]
  refine Go.bind (gEntries ek rfl ?_)
  refine Go.bind ?_
  rw [← Array.forIn_toList]
  show Go c A (forIn ([] : List DictEntry) _ _) _ _ _
  rw [List.forIn_nil]
  refine Go.pure (Go.bind (gEntries ek rfl ?_))
  refine Go.bind ?_
  unfold dictEpoch
  refine Go.bind (wpAny_load (s := c.s h k) ek ⟨h, k, rfl, ?_⟩)
  dsimp only
  refine Go.pure ?_
  refine Go.bind ?_
  rw [show List.range (#[] : Array DictEntry).size = [] from rfl, List.forIn_nil]
  exact Go.pure (Go.pure q)
theorem gMerged {f : Value} {xk : Sem Value} {Q : Addr → Heap → Nat → Prop} (w : Led h₀ h l) (x : ∀ D h', Led h₀ h' ((D, EmpD) :: l) → Go c A xk h' k fun v h2 k2 => ∃ kd, v = .ref kd ∧ h2 = h' ∧ (kd, EmpD) ∈ l ∧ Q D h' k2) :
    Go c A (mergedKeywords f [(none, xk)]) h k Q := by
  unfold mergedKeywords
  refine Go.bind (wpAny_alloc (s := c.s h k) ⟨_, _, rfl, ?_⟩)
  have w1 := w.alloc { cls := .type "dict", data := .dict #[] } (P := EmpD) rfl rfl
  dsimp only
  refine Go.bind (Go.holding ?_)
  rw [List.forIn_cons]
  refine Go.bind ?_
  refine Go.bind ?_
  dsimp only
  rw [if_pos (by rfl)]
  refine Go.bind (Go.pure (Go.bind ((x _ _ w1).mono fun v h2 k2 z => ?_)))
  obtain ⟨kd, rfl, rfl, hk, q⟩ := z
  refine Go.bind ?_
  refine wpAny_onRaise (wpAny_holding (wpAny_tryCatch (wpAny_onRaise ?_)))
  refine Go.toWp (gMerge w1 t0 (t1 hk) ?_) fun _ _ _ q => q
  refine ⟨_, _, rfl, Go.pure ?_⟩
  dsimp only
  rw [List.forIn_nil]
  refine Go.pure ?_
  rw [if_pos (by rfl)]
  exact Go.pure (Go.pure q)
end
end Mine

/-! G2 -/
namespace Mine
section
variable {c : Cx} {A : Around} {h₀ h h' : Heap} {k : Nat} {l : List It} {env : Env} {K : Frag} {mg mb : Str → Option Value} {P : Addr} {pos : Pos}
theorem eCallKw {name : Str} {o e kwE : PySem.Expr} {apos kp : Pos} {Q : Value → Heap → Nat → Prop}
    (x : Go c A (eval o env) h k fun ov h k => Go c A (getAttr ov name true) h k fun f h k => Go c A (eval e env) h k fun v h k => ∃ l, Led h₀ h l ∧ ∀ D h', Led h₀ h' ((D, EmpD) :: l) → Go c A (eval kwE env) h' k fun kv h2 k2 => ∃ kd, kv = .ref kd ∧ h2 = h' ∧ (kd, EmpD) ∈ l ∧
      Looks c.m h' (keeperOf f) .boundFrame ∧ Go c A (call f [v] []) h' k2 Q)
    (ho : attributeBase o name env (eval o env) = eval o env := by rfl) (he : starEach [e] env = (false, eval e env) :: starEach [] env := by rfl) :
    Go c A (eval (.Call (.Attribute o name apos) [e] [⟨none, kwE, kp⟩] pos) env) h k Q := by
  unfold Go
  rw [arm_eval_Call, ho]
  refine wpAny_bind (x.toWp fun ov h k y => wpAny_bind (wpAny_standAt ?_))
  unfold methodCall calleeOf methodCallPos
  have hf : methodCallForm ([e].length + ([⟨none, kwE, kp⟩] : List Keyword).length) (backTo pos (starEach [e] env)) (backToKw pos (keywordEach [⟨none, kwE, kp⟩] env)) = false := by
    unfold methodCallForm
    rw [show (List.all (backToKw pos (keywordEach [⟨none, kwE, kp⟩] env)) fun x => x.1.isSome) = false from rfl, Bool.and_false, Bool.false_and]
  rw [hf]
  refine wpAny_bind (wpAny_holding ?_)
  rw [if_neg Bool.false_ne_true]
  refine wpAny_bind (y.toWp fun f h k z => wpAny_pure ?_)
  dsimp only
  rw [if_pos (by rfl)]
  refine wpAny_bind (wpAny_pure ?_)
  have hkw : backToKw pos (keywordEach [⟨none, kwE, kp⟩] env) = [(none, do let v ← eval kwE env; standAt pos; pure v)] := rfl
  have hst : (backTo pos (starEach [e] env)).any (·.1) = false := by rw [he]; rfl
  unfold callWith
  rw [hkw, hst]
  refine wpAny_bind (wpAny_holding ?_)
  have ha := aCons (pos := pos) (Q := fun vs h k => ∃ v l, vs = [v] ∧ Led h₀ h l ∧ ∀ D h', Led h₀ h' ((D, EmpD) :: l) → Go c A (eval kwE env) h' k fun kv h2 k2 => ∃ kd, kv = .ref kd ∧ h2 = h' ∧ (kd, EmpD) ∈ l ∧
      Looks c.m h' (keeperOf f) .boundFrame ∧ Go c A (call f [v] []) h' k2 Q) (z.mono fun v h k z => let ⟨l, w, q⟩ := z; aNil ⟨v, l, rfl, w, q⟩) he
  rw [he] at ha ⊢
  have ha' : Go c A (spliced [(false, eval e env)]) h k _ := ha
  unfold evalArgs
  show wpAny _ _ (spliced [(false, eval e env)] >>= _) _ _ _
  refine wpAny_bind (Go.toWp ha' fun vs h k z => ?_)
  obtain ⟨v, l, rfl, w, q⟩ := z
  refine wpAny_bind (wpAny_pure ?_)
  dsimp only
  refine wpAny_holding ?_
  rw [if_neg (by simp)]
  refine wpAny_bind (Go.toWp (gMerged (Q := fun D h' k2 => Led h₀ h' ((D, EmpD) :: l) ∧ Looks c.m h' (keeperOf f) .boundFrame ∧ Go c A (call f [v] []) h' k2 Q) w fun D h' w' => ?_) fun D h' k' z => ?_)
  · refine Go.bind ((q D h' w').mono fun kv h2 k2 z => ?_)
    obtain ⟨kd, rfl, rfl, hkd, z1, z2⟩ := z
    exact Go.bind (wpAny_standAt ⟨_, _, rfl, Go.pure ⟨kd, rfl, rfl, hkd, w', z1, z2⟩⟩)
  obtain ⟨w', z1, z2⟩ := z
  refine wpAny_bind (wpAny_pure ?_)
  refine wpAny_bind (wpAny_holding ?_)
  obtain ⟨oD, eD, rfl⟩ := w'.get t0
  unfold keywordsIn
  refine wpAny_bind (wpAny_dictEntries (s := c.s h' k') eD rfl ?_)
  rw [← Array.forIn_toList]
  show wpAny _ _ (forIn ([] : List DictEntry) _ _ >>= _) _ _ _
  rw [List.forIn_nil]
  refine wpAny_bind (wpAny_pure (wpAny_pure (wpAny_pure ?_)))
  refine wpAny_bind (wpAny_standAt ?_)
  dsimp only
  refine wpAny_bind (z1.here ?_)
  show wpAny _ _ (operate _ (call f [v] []) >>= _) _ _ _
  refine wpAny_bind (wpAny_operating (Go.toWp z2 fun r h k q => ?_))
  exact wpAny_bind (wpAny_holding (wpAny_point (wpAny_pure ⟨_, _, rfl, q⟩)))
end
end Mine

/-! G3 -/
namespace Mine
theorem slot_wdget : Slot "wrapper_descriptor" "__get__" "wrapper_descriptor.__get__" := .of (owner := "wrapper_descriptor") (n := "__get__") (by rw [typeLookup_type, builtinLookup_eq_fast]; kernel_rfl) (by decide +kernel) (by decide +kernel) (by decide +kernel)
  (by first | exact .inl (by decide +kernel) | exact .inr (by decide +kernel)) (by rw [isSubtype_type]; kernel_rfl)
theorem entry_wdget : entryFor table "wrapper_descriptor.__get__" = some Builtin.«wrapper_descriptor.__get__» := entryFor_of_tree (by kernel_rfl)
theorem args_wdget (a b c : Value) : argsOk "wrapper_descriptor.__get__" ⟨[a, b, c], []⟩ := by unfold argsOk; kernel_rfl
theorem type_dinit : typeOf (.builtin "dict.__init__") = pure (.type "wrapper_descriptor") := by kernel_rfl
section
variable {c : Cx} {A : Around} {h : Heap} {k : Nat}
def MwO (x : Addr) : Obj := { cls := .type "method-wrapper", dict := none, data := .fields #[.builtin "dict.__init__", .ref x], slots := #[] }
theorem wdget_run {x C : Addr} {Q : PySem.Fin → Heap → Nat → Prop} (hi : Looks c.m h (isInstance (.ref x) (.type "dict")) true) (q : Q (.done (.ret (.ref h.objs.size))) (h.push (MwO x)) k) :
    Go c A (Builtin.«wrapper_descriptor.__get__» ⟨[.builtin "dict.__init__", .ref x, .ref C], []⟩) h k Q := by
  unfold Builtin.«wrapper_descriptor.__get__»
  refine Go.bind (wpAny_of_eq (a := (Value.builtin "dict.__init__", some (Value.ref x), some (Value.ref C))) (by rfl) ⟨h, k, rfl, ?_⟩)
  dsimp only
  refine Go.bind ?_
  refine Go.bind (wpAny_of_eq (a := (Str.ofString "__init__", Value.type "dict")) (by kernel_rfl) ⟨h, k, rfl, ?_⟩)
  dsimp only
  refine Go.bind (Go.looks hi ?_)
  rw [if_neg (by decide)]
  refine Go.pure (Go.bind ?_)
  unfold newFields
  exact wpAny_newObj_type (s := c.s h k) ⟨_, _, rfl, Go.pure q⟩ (by size_fits)
theorem wdget_call {x C : Addr} {Q : Value → Heap → Nat → Prop} (hi : Looks c.m h (isInstance (.ref x) (.type "dict")) true) (q : Q (.ref h.objs.size) (h.push (MwO x)) k) :
    GoC c A (.call (.builtin "wrapper_descriptor.__get__") ⟨[.builtin "dict.__init__", .ref x, .ref C], []⟩) h k Q := by
  refine codeAny_call_builtin slot_wdget.plain entry_wdget (slot_wdget.check _ _ _ _ _ _ _ _ type_dinit (args_wdget _ _ _) ?_)
  refine Go.toWp (wdget_run (Q := fun fin h' k' => ∃ v, fin = .done (.ret v) ∧ Q v h' k') hi ⟨_, rfl, q⟩) fun fin h' k' z => ?_
  obtain ⟨v, rfl, q⟩ := z
  exact ⟨h', k', rfl, q⟩
theorem superGaB {so D x C : Addr} {l₀ l : List Value} {K : Frag} {name : Str} {tk : Tok} {Q : PySem.Fin → Heap → Nat → Prop}
    (hso : h.get? so = some { cls := .type "super", dict := none, data := .fields #[.ref D, .ref x, .ref C], slots := #[] }) (hno : Looks c.m h (opaqueClassAbove (.ref C)) none)
    (hC : Looks c.m h (mroOf (.ref C)) l₀) (hl : (l₀.dropWhile (· != .ref D)).drop 1 = l) (X : K.In h)
    (hf : alongIn K name l = some (some (.builtin "dict.__init__"))) (hxC : x ≠ C) (hn : (name == ("__class__" : Str)) = false) (hi : Looks c.m h (isInstance (.ref x) (.type "dict")) true)
    (q : Q (.done (.ret (.ref h.objs.size))) (h.push (MwO x)) k) : Go c A (Builtin.«super.__getattribute__» ⟨[.ref so, .str name tk], []⟩) h k Q := by
  have hlk := slot_wdget.lookup
  have hne : (Value.ref x == Value.ref C) = false := by simp [hxC]
  have hTf : (c.s h k).TypeIs (.builtin "dict.__init__") "wrapper_descriptor" := type_dinit
  have hdt : ({ cls := .type "super", dict := none, data := .fields #[.ref D, .ref x, .ref C], slots := #[] } : Obj).data = .fields #[.ref D, .ref x, .ref C] := rfl
  have f0 : (#[.ref D, .ref x, .ref C] : Array Value)[0]? = some (.ref D) := rfl
  have f1 : (#[.ref D, .ref x, .ref C] : Array Value)[1]? = some (.ref x) := rfl
  have f2 : (#[.ref D, .ref x, .ref C] : Array Value)[2]? = some (.ref C) := rfl
  unfold Builtin.«super.__getattribute__» Go
  obtain ⟨w, g, d, os⟩ := c
  unfold Cx.s Cx.m at *
  dsimp only at *
  repeat (first
    | (with_reducible refine wpAny_field hso hdt f0 ?_) | (with_reducible refine wpAny_field hso hdt f1 ?_) | (with_reducible refine wpAny_field hso hdt f2 ?_)
    | (with_reducible refine ks_wpAny_notOpaque hno ?_)
    | (with_reducible refine Looks.at hC ?_; rw [hl])
    | (refine ks_forIn_along X (fun _ _ => rfl) rfl ?_ hf)
    | (with_reducible refine wpAny_typeOf hTf ?_)
    | (simp only [hn, hne, Bool.or_false, Bool.false_eq_true, if_false])
    | wp_step
    | dsimp only)
  refine codeAny_mono (wdget_call (c := ⟨w, g, d, os⟩) (Q := fun v h' k' => v = .ref h.objs.size ∧ h' = h.push (MwO x) ∧ k' = k) hi ⟨rfl, rfl, rfl⟩) fun r s' z => ?_
  match r, z with
  | .ok (.ret v), ⟨h', k', e, z⟩ =>
    obtain ⟨rfl, rfl, rfl⟩ := z
    subst e
    exact wpAny_bind (wpAny_pure (wpAny_pure (wpAny_pure ⟨_, _, rfl, q⟩)))
theorem superMethB {so D x C : Addr} {l₀ l : List Value} {K : Frag} {name : Str} {pl : Sem Bool} {Q : Value × List Value → Heap → Nat → Prop}
    (hso : h.get? so = some { cls := .type "super", dict := none, data := .fields #[.ref D, .ref x, .ref C], slots := #[] }) (hno : Looks c.m h (opaqueClassAbove (.ref C)) none)
    (hC : Looks c.m h (mroOf (.ref C)) l₀) (hl : (l₀.dropWhile (· != .ref D)).drop 1 = l) (X : K.In h)
    (hf : alongIn K name l = some (some (.builtin "dict.__init__"))) (hxC : x ≠ C) (hn : (name == ("__class__" : Str)) = false) (hi : Looks c.m h (isInstance (.ref x) (.type "dict")) true)
    (q : Q (.ref h.objs.size, []) (h.push (MwO x)) (k + 1)) : Go c A (getMethod (.ref so) name pl) h k Q := by
  have hlk := PySem.F.ks_slot_super_ga.lookup
  have hcan := PySem.F.ks_canon_super_ga
  have hT : ∀ t', (c.s h t').TypeIs (.ref so) "super" := fun _ => ⟨_, hso, rfl⟩
  unfold getMethod
  refine wpAny_bind (wpAny_specialOf (hT _) hlk ?_)
  show wpAny _ _ (if (Manifest.canonical "super.__getattribute__" != "object.__getattribute__") = true then _ else _) _ _ _
  rw [if_pos hcan]
  unfold getAttr getAttrBy
  refine wpAny_bind (wpAny_bind (wpAny_mkText (wpAny_holding (wpAny_bind (wpAny_typeOf (hT _) (wpAny_bind (wpAny_of_eq hlk ?_)))))))
  show wpAny _ _ (getAttrByItsOwn (.ref so) (.str name k) (.type "super") (.builtin "super.__getattribute__") true false) _ _ _
  unfold getAttrByItsOwn hookBefore callGetattribute boundAndCalled
  refine wpAny_bind (wpAny_of_eq (show (if onTheHeap (.type "super") then typeLookup (.type "super") "__getattr__" else pure none) = pure none from rfl) ?_)
  refine wpAny_bind (wpAny_attempt (wpAny_holding ?_))
  show wpAny _ _ (bindSpecial (.builtin "super.__getattribute__") (.ref so) >>= _) _ _ _
  refine wpAny_bind (wpAny_of_eq (PySem.F.ks_slot_super_ga.bind _) ?_)
  refine wpAny_mono (Q := fun v s' => v = .ref h.objs.size ∧ s' = c.s (h.push (MwO x)) (k + 1)) (E := fun _ _ => False)
    (wpAny_call_entry PySem.F.ks_slot_super_ga (hT _) PySem.F.ks_entry_super_ga (Go.toWp (superGaB (k := k + 1) (Q := fun fin h' k' => fin = .done (.ret (.ref h.objs.size)) ∧ h' = h.push (MwO x) ∧ k' = k + 1) hso hno hC hl X hf hxC hn hi ⟨rfl, rfl, rfl⟩) fun fin h' k' z => ?_) (PySem.F.ks_gaArgs_super _ _)) (fun v s' hv => ?_) fun _ _ z => z.elim
  · obtain ⟨rfl, rfl, rfl⟩ := z
    exact ⟨_, rfl, rfl, rfl⟩
  obtain ⟨rfl, rfl⟩ := hv
  exact wpAny_pure (wpAny_pure ⟨_, _, rfl, q⟩)
end
end Mine

/-! G4 -/
namespace Mine
theorem fillG4 : PySem.Challenge.rw_bn0041_01 = PySem.Challenge.rw_bn0041_01 ∧ hd.heap_1 = hd.heap_1 := by
  k_fill
  exact ⟨rfl, rfl⟩
def CtP (dx : Addr) (o : Obj) : Prop := o = { cls := .ref 794, dict := some dx, data := .dict #[] 0, slots := #[] }
def adC (x dx : Addr) : Ad := ⟨0, 0, 0, 0, 0, 0, 0, 0, x, dx, 0, 0, 0, 0, 0, 0, 0, 0, 0, "", 0, 0⟩
theorem CtP.cnt {w : World} {ad : Ad} {dx : Addr} {o : Obj} (x : CtP dx o) (e : ad.CD = dx) : CntP w ad none o := by
  subst e; subst x; exact ⟨rfl, rfl, #[], 0, rfl, rfl⟩
section
variable {c : Cx} {A : Around} {h₀ h h' : Heap} {k : Nat} {l : List It} {env : Env} {K : Frag} {mg mb : Str → Option Value} {P : Obj → Prop} {x dx mw : Addr}
theorem ct_at (w : Led h₀ h l) (hx : (x, CtP dx) ∈ l) (hdx : (dx, P) ∈ l) : ∃ od, InstAt h x { cls := .ref 794, dict := some dx, data := .dict #[] 0, slots := #[] } 794 (some od) := by
  obtain ⟨o, e, rfl⟩ := w.get hx
  obtain ⟨od, e', _⟩ := w.get hdx
  exact ⟨od, e, rfl, rfl, e'⟩
theorem ct_ins (b : Base (hd.heap_1 c.w.params) mg mb h₀) (w : Led h₀ h l) (hx : (x, CtP dx) ∈ l) (hdx : (dx, P) ∈ l) : Looks c.m h (isInstance (.ref x) (.type "dict")) true := by
  obtain ⟨od, I⟩ := ct_at w hx hdx
  unfold isInstance
  exact I.type.andThen (looks_subIn (b.kin.keeps w.keep) (cntA c).sub)
theorem chk_dinit (x : Addr) : checkBoundCall "dict.__init__" ⟨[.ref x], []⟩ = pure () := by kernel_rfl
theorem dinit_call {Q : Value → Heap → Nat → Prop} (b : Base (hd.heap_1 c.w.params) mg mb h₀) (w : Led h₀ h l) (hx : (x, CtP dx) ∈ l) (hdx : (dx, P) ∈ l) (hm : (mw, fun o => o = MwO x) ∈ l) (q : Q .none h k) : GoC c A (.call (.ref mw) ⟨[], []⟩) h k Q := by
  obtain ⟨om, em, rfl⟩ := w.get hm
  obtain ⟨od, I⟩ := ct_at w hx hdx
  have X := b.kin.keeps w.keep
  refine codeAny_of_tree ?_
  show wpAny _ A.in1 (callAny (.ref mw) _) _ _ _
  unfold callAny
  refine wpAny_bind (wpAny_load (s := c.s h k) em ?_)
  unfold MwO
  dsimp only
  rw [if_pos (by decide)]
  show wpAny _ _ (if (Value.type "method-wrapper" != Value.type "method") = true then (checkBoundCall "dict.__init__" ⟨[.ref x], []⟩ >>= fun _ => again (.builtin "dict.__init__" ⟨[.ref x], []⟩)) else _) _ _ _
  rw [if_pos (by decide), chk_dinit]
  refine wpAny_bind (wpAny_pure ?_)
  refine (wpAny_pure ⟨Code.quiet_builtin _ (by decide +kernel), codeAny_builtin PySem.F.entry_dict_init ?_⟩)
  unfold Builtin.«dict.__init__»
  refine wpAny_bind ?_
  unfold Builtin.Dict.selfAndRest
  have inO : Looks c.m h (isInstance (.ref x) (.type "collections.OrderedDict")) false := by
    unfold isInstance
    exact I.type.andThen (looks_subIn X (cntA c).ord)
  refine wpAny_bind ?_
  unfold Builtin.Dict.notOrdered
  rw [if_pos (by decide)]
  refine wpAny_bind (I.type.here ?_)
  show wpAny _ _ (if (Value.ref 794 != Value.type "dict") = true then _ else _) _ _ _
  rw [if_pos (by decide)]
  refine wpAny_bind (inO.here ?_)
  rw [if_neg (by decide)]
  refine wpAny_pure (wpAny_pure ?_)
  dsimp only
  unfold Builtin.Dict.updateCommon Builtin.Dict.addKeywords
  dsimp only
  rw [List.forIn_nil]
  exact wpAny_bind (wpAny_pure (wpAny_pure ⟨_, _, rfl, q⟩))
structure BindKw (fd : FuncData) (args : Args) (K : Frag) (binds : Addr → List (Str × Value)) : Prop where
  x : ∃ T o items n kk, fd.defaults = .ref T ∧ K.lookup T = some o ∧ o.data = .seq items n ∧ bindArgs fd args = (seqItems? fd.defaults >>= kk) ∧ kk (some items) = (alloc { cls := .type "dict", data := .dict #[] } >>= fun d => pure (binds d))
theorem gEnterW {f : Addr} {oc : Value} {od : Option Addr} {osl : Array (Option Value)} {fname qual : Str} {params : Arguments} {body : List Stmt} {scope : Scope} {cl : List (Str × Addr)} {dV kV doc pm cdv ct : Value} {an : Option Addr} {args : Args} (ns : List Str) (vals : List Value) {Q : Value → Heap → Nat → Prop}
    (b : Base K mg mb h₀) (w : Led h₀ h l) (hd : A.depth < 900) (ho : K.lookup f = some ⟨oc, od, .func (fnX fname qual params body scope cl dV kV doc pm an cdv ct), osl⟩) (hcd : codeIn K cdv qual = true)
    (hbind : BindKw (fnX fname qual params body scope cl dV kV doc pm an cdv ct) args K fun d => ns.zip (vals ++ [.ref d])) (hloc : ∀ t, ∀ x ∈ ns.zip (vals ++ [t]), scope.names.lookup x.1 = some .local) (hcell : ∀ x ∈ scope.names, x.2 ≠ .cell)
    (hnd : ns.Nodup)
    (q : ∀ D L h' k', EnvOk (envX qual scope L f cdv cl) L → Led h₀ h' ((L, Frm (zipV ns (vals ++ [.ref D]))) :: (D, EmpD) :: l) → _root_.PySem.wpAt c.m (A.deeper (envX qual scope L f cdv cl)) (.func body (envX qual scope L f cdv cl)) (execs body (envX qual scope L f cdv cl))
      (fun fl s' => ∃ h'' k'', s' = c.s h'' k'' ∧ Q (match fl with | .ret v => v | _ => .none) h'' k'') (fun _ _ => False) (c.s h' k'))
    (hco : scope.isCoroutine = false := by rfl) (hgen : scope.isGenerator = false := by rfl) (hk : scope.kind = .function := by rfl) : GoC c A (.call (.ref f) args) h k Q := by
  obtain ⟨T, o, items, n, kk, h1, h2, h3, h4, h5⟩ := hbind.x
  refine codeAny_call_function (fd := fnX fname qual params body scope cl dV kV doc pm an cdv ct) (body := body) (Nat.lt_of_lt_of_le hd (by decide)) (w.keep _ _ (b.kin _ _ ho)) rfl hco hgen rfl ((codeRec_of b.kin hcd).keeps w.keep) ?_
  rw [h4, h1]
  refine wpAny_bind (wpAny_seqItems (s := c.s h k) (w.keep _ _ (b.kin _ _ h2)) h3 ?_)
  rw [h5]
  refine wpAny_bind (wpAny_alloc (s := c.s h k) ?_)
  have w1 := w.alloc { cls := .type "dict", data := .dict #[] } (P := EmpD) rfl rfl
  generalize hT : h.objs.size = T at w1
  generalize hH : h.push { cls := .type "dict", data := .dict #[] } = H at w1
  refine wpAny_pure (wpAny_newFunctionEnv hcell (hloc _) (fun h₁ hns hsb => ?_) hk)
  have e1 : (c.s h k).heap.objs.size = T := hT
  have e2 : (c.s h k).heap.push { cls := .type "dict", data := .dict #[] } = H := hH
  simp only [e1, e2] at hns hsb ⊢
  have hk₁ : ∀ b o, H.get? b = some o → h₁.get? b = some o := fun b o e => hsb.extBut b o (Nat.ne_of_lt (Heap.lt_size e)) (Heap.get?_push_of_some _ e)
  obtain ⟨o₁, e₁, n₁⟩ := ns_iff.mp hns
  have w2 : Led h₀ h₁ ((H.objs.size, Frm (zipV ns (vals ++ [.ref T]))) :: (T, EmpD) :: l) := by
    refine w1.push hk₁ ⟨o₁, e₁, by rw [zipV_keys]; exact hnd, ?_⟩
    have : (fun y => (ns.zip (vals ++ [Value.ref T])).reverse.lookup y) = fm (zipV ns (vals ++ [.ref T])) := by
      funext y
      rw [zipV_eq]
      exact fm_bind ((zip_keys_sub ns _).nodup hnd) y
    exact this ▸ n₁
  exact ⟨(b.nolimit.keeps w1.keep).fresh _ hsb, ks_codeAny_funcAt (ks_wpAt_mono (q T _ h₁ _ ⟨hk, rfl, rfl, rfl⟩ w2) (fun fl s' z => z) fun _ _ z => z.elim)⟩
end
end Mine

/-! G5 -/
namespace Mine
theorem fillG5 : PySem.Challenge.rw_bn0041_01 = PySem.Challenge.rw_bn0041_01 ∧ hd.heap_1 = hd.heap_1 := by
  k_fill
  exact ⟨rfl, rfl⟩
section
variable {c : Cx} {A : Around} {h₀ h h' : Heap} {k : Nat} {l : List It} {env : Env} {K : Frag} {mg mb : Str → Option Value} {P : Obj → Prop} {x dx mw : Addr}
theorem tEmpD {d : Addr} {Q : Bool → Heap → Nat → Prop} (w : Led h₀ h l) (hm : (d, EmpD) ∈ l) (q : ∀ k', Q false h k') : Go c A (truthy (.ref d)) h k Q := by
  obtain ⟨o, e, rfl⟩ := w.get hm
  refine wpAny_truthy_dict (knd := PySem.strKind pg c.w) (kvs := []) (s := c.s h k) (w.noSys hm) ⟨_, #[], 0, e, ⟨rfl, rfl, rfl⟩, rfl, fun e he => by simp at he, .nil, List.nodup_nil⟩ (by decide) ⟨_, _, rfl, q _⟩
theorem update_ {Q : Value → Heap → Nat → Prop} (b : Base (hd.heap_1 c.w.params) mg mb h₀) (w : Led h₀ h l) (hdl : A.depth < 860) (q : ∀ h' k', Led h₀ h' l → Q .none h' k') : GoC c A (.call (.ref 637) ⟨[.ref x, .none], []⟩) h k Q := by
  refine gEnterW (cl := [("__class__", 579)]) ["self", "iterable", "kwds", "self_get", "elem", "count"] [.ref x, .none] b w (by omega) (by k_is) (by k_is) ⟨_, _, _, _, _, rfl, by k_is, rfl, rfl, rfl⟩ (fun _ => locs rfl) (by decide +kernel) (by decide) (fun D L h k n w => ?_)
  refine wpAt_of_wpAny ?_
  generalize henv : envX _ _ _ _ _ _ = env at n ⊢
  have ki : env.kindOf "iterable" = some .local := by rw [← henv]; rfl
  have kk : env.kindOf "kwds" = some .local := by rw [← henv]; rfl
  show Go c _ (execs _ env) h k (fun fl h k => Q (match fl with | .ret v => v | _ => .none) h k)
  refine xIf (iCmp (nameL w n ki t0 (t1 t0) (eNone (wpAny_isNot_self rfl ⟨_, _, rfl, tBool (if_ff (xNil ?_))⟩))))
  refine xIf (iVal (nameL w n kk t0 (t2 t0) (tEmpD w (t1 t0) fun k => if_ff (xNil (xNil ?_)))))
  exact q _ _ w.drop.drop
structure FnB (K : Frag) (C : Addr) (nm : Str) (f : Addr) : Prop where
  ga : findIn K (.ref C) "__getattribute__" = some (some (.builtin "dict.__getattribute__"))
  gn : findIn K (.ref C) "__getattr__" = some none
  hd : hasDictIn K C = true
  a : findIn K (.ref C) nm = some (some (.ref f))
  g : specialIn K (.ref f) "__get__" = some (some (.builtin "function.__get__"))
  t : takesIn K (.ref f) = some false
  i : isFn K (.ref f) = true
  k : fnIn K f = true
  s : subIn K (.ref C) (.type "dict") = some true
theorem fn_upd (c : Cx) : FnB (hd.heap_1 c.w.params) 794 "update" 637 := ⟨by k_is, by k_is, by k_is, by k_is, by k_is, by k_is, by k_is, by k_is, by k_is⟩
theorem gBoundD {nm : Str} {C x f : Addr} {expr : Bool} {ox od : Obj} {Q : Value → Heap → Nat → Prop} (b : Base K mg mb h₀) (w : Led h₀ h l) (I : InstAt h x ox C (some od)) (hl : lookIn nm od = some none) (a : FnB K C nm f) (hc : copiedNames.contains nm = false)
    (q : ∀ m h' k', Led h₀ h' ((m, MethO f x) :: l) → Q (.ref m) h' k') : Go c A (getAttr (.ref x) nm expr) h k Q := by
  have X := b.kin.keeps w.keep
  have L0 := I.type (M := c.m)
  unfold getAttr getAttrBy
  refine Go.bind (wpAny_mkText ⟨_, _, rfl, ?_⟩)
  refine Go.holding (Go.bind (Go.looks L0 (Go.bind (Go.looks (looks_findIn X a.ga) ?_))))
  show Go c A (getAttrByItsOwn (.ref x) (.str nm k) (.ref C) (.builtin "dict.__getattribute__") true expr) h (k + 1) Q
  unfold getAttrByItsOwn hookBefore callGetattribute boundAndCalled
  refine Go.bind (Go.looks (looks_findIn X a.gn) ?_)
  have key : Go c A (boundAndCalled (.builtin "dict.__getattribute__") (.ref x) (.str nm k)) h (k + 1) fun v' h k => (∃ m, v' = .ref m) ∧ Q v' h k := by
    unfold boundAndCalled
    refine Go.bind ?_
    rw [PySem.F.slot_dict_getattribute.bind]
    refine Go.pure ?_
    show Go c A (call (.builtin "dict.__getattribute__") [.ref x, .str nm k]) h (k + 1) _
    refine gCallSub (T := "dict") (n := "__getattribute__") b w I a.s (.inr (by decide +kernel)) (by decide +kernel) PySem.F.slot_dict_getattribute.plain PySem.F.entry_dict_ga (PySem.F.args_dict_getattribute_2 _ _) ?_
    unfold Builtin.«object.__getattribute__»
    refine Go.bind (m := slotArgs "__getattribute__" 1 _) ?_
    show Go c A.in1 (pure (Value.ref x, [Value.str nm k])) h (k + 1) _
    refine Go.pure ?_
    dsimp only
    refine Go.bind (Go.pure ?_)
    refine Go.bind (Go.looks L0 ?_)
    refine Go.bind (Go.looks (looks_find X I (findObj_fn a.hd a.a a.g a.t hc hl)) ?_)
    dsimp only
    unfold Builtin.ObjectAttr.bindTo
    dsimp only
    refine Go.bind (Go.holding (Go.ofC ?_))
    refine fn_get (s := c.s h (k + 1)) X (beq_iff_eq.mp a.i) ?_
    exact ⟨_, _, rfl, Go.pure ⟨_, rfl, ⟨_, rfl⟩, q _ _ _ (w.alloc _ rfl rfl)⟩⟩
  refine Go.bind (wpAny_attempt (Go.toWp (Q := fun v' h k => (∃ m, v' = .ref m) ∧ Q v' h k) (Go.holding ?_) fun v' h' k' z => ⟨h', k', rfl, ?_⟩))
  · rw [show (expr && onTheHeap (Value.builtin "dict.__getattribute__")) = false from by cases expr <;> rfl, if_neg Bool.false_ne_true]
    exact key
  · obtain ⟨⟨m, rfl⟩, z⟩ := z
    show Go c A (handedOut (.ref m)) h' k' Q
    rw [handedOut_of rfl]; exact Go.pure z
theorem cinit_ {Q : Value → Heap → Nat → Prop} (b : Base (hd.heap_1 c.w.params) mg mb h₀) (w : Led h₀ h l) (hx : (x, CtP dx) ∈ l) (hdx : (dx, FrmS 0 []) ∈ l) (hdl : A.depth < 850) (q : ∀ h' k', Led h₀ h' l → Q .none h' k') : GoC c A (.call (.ref 592) ⟨[.ref x], []⟩) h k Q := by
  refine gEnterW (cl := [("__class__", 579)]) ["self", "iterable", "kwds"] [.ref x, .none] b w (by omega) (by k_is) (by k_is) ⟨_, _, _, _, _, rfl, by k_is, rfl, rfl, rfl⟩ (fun _ => locs rfl) (by decide +kernel) (by decide) (fun D L h k n w => ?_)
  have X := b.kin.keeps w.keep
  have hcl : ∃ oc od cd sl, (hd.heap_1 c.w.params).lookup 794 = some ⟨oc, od, .cls cd, sl⟩ ∧ cd.mro = [.ref 794, .type "dict", .type "object"] := ⟨_, _, _, _, by k_is, rfl⟩
  have hfn : ∃ o fd, (hd.heap_1 c.w.params).lookup 592 = some o ∧ o.data = .func fd ∧ (fd.params.posonlyargs ++ fd.params.args).head?.map (·.arg) = some "self" := ⟨_, _, by k_is, rfl, rfl⟩
  have hco : ∃ o vs file tf, (hd.heap_1 c.w.params).lookup 591 = some o ∧ o.data = .fields vs ∧ vs[2]? = some (.str file tf) ∧ ((pg.main.file : Str) == file) = true := ⟨_, _, _, _, by k_is, rfl, rfl, by decide +kernel⟩
  have hce : ∃ o, (hd.heap_1 c.w.params).lookup 579 = some o ∧ o.data = .cell (some (.ref 794)) := ⟨_, by k_is, rfl⟩
  obtain ⟨oc, odc, cd, slc, hD, hmro⟩ := hcl
  have hDt : (⟨oc, odc, .cls cd, slc⟩ : Obj).data = .cls cd := rfl
  obtain ⟨oF, fdF, hF, hFd, hFp⟩ := hfn
  obtain ⟨oC, vsC, file, tf, hC, hCd, hCv, hCf⟩ := hco
  obtain ⟨oE, hE, hEd⟩ := hce
  obtain ⟨ar, har, hars⟩ := Option.map_eq_some_iff.mp hFp
  have mx := t2 (x0 := (L, Frm (zipV ["self", "iterable", "kwds"] ([.ref x, .none] ++ [.ref D])))) (x1 := (D, EmpD)) hx
  have mdx := t2 (x0 := (L, Frm (zipV ["self", "iterable", "kwds"] ([.ref x, .none] ++ [.ref D])))) (x1 := (D, EmpD)) hdx
  refine ks_wpAt_execs_cons (ks_wpAt_Expr_any (ks_wpAt_MethodCall (ks_wpAt_super_base (s := c.s h k) (by rfl) (by rfl) (by decide) rfl (X _ _ hF) hFd har rfl (X _ _ hC) hCd hCv hCf (by decide +kernel) ?_)))
  generalize henv : envX _ _ _ _ _ _ = env at n ⊢
  have kS : env.kindOf "super" = some .globalImplicit := by rw [← henv]; rfl
  have kC : env.kindOf "__class__" = some .free := by rw [← henv]; rfl
  have ks : env.kindOf "self" = some .local := by rw [← henv]; rfl
  have ki : env.kindOf "iterable" = some .local := by rw [← henv]; rfl
  have kk : env.kindOf "kwds" = some .local := by rw [← henv]; rfl
  have cC : env.cells.lookup (Str.ofString "__class__") = some 579 := by rw [← henv]; rfl
  refine ks_loadName_global n.k kS (loadGlobal_builtin (n.g ▸ b.g.keeps w.keep) (mg_none_of b.kin b.g (by k_is)) (n.b ▸ b.b.keeps w.keep) ((b.bi "super" (by decide)).trans (by decide +kernel)) ⟨rfl, ?_⟩)
  refine wpAny_loadName_free n.k kC cC ⟨_, X _ _ hE, hEd⟩ ?_ (by decide)
  obtain ⟨oL, eL, fL⟩ := w.get t0
  rw [hars]
  refine wpAny_loadName_local n.k ks (n.l ▸ ns_iff.mpr ⟨oL, eL, fL.2⟩) (fm_mem fL.1 t0) ?_
  refine ks_wpAny_isType_cls (X _ _ hD) hDt ⟨rfl, ?_⟩
  obtain ⟨od, I⟩ := ct_at w mx mdx
  refine ks_wpAny_call_super (X _ _ hD) hDt I.at_ I.cls (fun c e => nomatch e) (looks_subIn X (by k_is)) (fun h' e k => ?_)
  have w2 := w.push (P := fun o => o = ks_superObj 794 x 794) k ⟨_, e, rfl⟩
  have X2 := b.kin.keeps w2.keep
  have hcls : clsIn (hd.heap_1 c.w.params) 794 = some cd := by unfold clsIn; rw [hD]
  obtain ⟨od2, I2⟩ := ct_at w2 (t1 mx) (t1 mdx)
  refine Go.toWp (superMethB (h := h') (D := 794) (C := 794) (x := x) (l₀ := cd.mro) (l := [.type "dict", .type "object"]) (K := hd.heap_1 c.w.params) e (looks_opaque X2 (by k_is)) ((looks_clsIn X2 hcls).andThen .now) (by rw [hmro]; decide) X2 (by rfl) (ks_ne X2 I2 hcls) (by decide) (ct_ins b w2 (t1 mx) (t1 mdx)) ?_) fun _ _ _ q => q
  dsimp only
  have w3 := w2.alloc (MwO x) (P := fun o => o = MwO x) rfl rfl
  obtain ⟨om, em, rfl⟩ := w3.get t0
  refine Go.toWp (cwF0 ⟨.machine, .inr (.inl rfl), (Looks.ld (part := none) em).andThen .now⟩ (Go.ofC (dinit_call b w3 (t2 mx) (t2 mdx) t0 ?_))) fun _ _ _ q => q
  refine wpAt_of_wpAny ?_
  show Go c _ (execs _ env) _ _ (fun fl h k => Q (match fl with | .ret v => v | _ => .none) h k)
  obtain ⟨od3, e3, f3⟩ := w3.get (t2 mdx)
  obtain ⟨ox3, ex3, rfl⟩ := w3.get (t2 mx)
  have I3 : InstAt (h'.push (MwO x)) x { cls := .ref 794, dict := some dx, data := .dict #[] 0, slots := #[] } 794 (some od3) := ⟨ex3, rfl, rfl, e3⟩
  refine xExprA n.k (eCallKw (h₀ := h₀) (nameL w3 n ks (t2 t0) t0 (gBoundD b w3 I3 (by rw [look_of_ns f3.1.2]; rfl) (fn_upd c) (by decide) fun m h k w => nameL w n ki (t3 t0) (t1 t0) ⟨_, w, fun D2 h2 w2 => ?_⟩)))
  refine nameL w2 n kk (t4 t0) (t2 t0) ⟨D, rfl, rfl, t4 t0, ?_, Go.ofC ?_⟩
  · obtain ⟨o, e, rfl⟩ := w2.get (t1 t0)
    have hf := (fn_upd c).k
    unfold fnIn at hf
    split at hf
    · rename_i e2
      refine (Looks.ld (part := none) e).andThen ?_
      exact (Looks.ld (part := none) (w2.keep _ _ (b.kin _ _ e2))).andThen .now
    · cases hf
  · obtain ⟨o, e, rfl⟩ := w2.get (t1 t0)
    refine ks_codeAny_call_bound e (update_ b w2 (by show A.depth + 1 < 860; omega) fun h k w => xNil (q _ _ ?_))
    exact w.drop.drop.drop.drop.drop.drop
end
end Mine

/-! G6 -/
namespace Mine
theorem fillG6 : PySem.Challenge.rw_bn0041_01 = PySem.Challenge.rw_bn0041_01 ∧ hd.heap_1 = hd.heap_1 := by
  k_fill
  exact ⟨rfl, rfl⟩
structure CtA (K : Frag) : Prop where
  o : ∃ oc od cd sl, K.lookup 794 = some ⟨oc, od, .cls cd, sl⟩ ∧ cd.mro = [.ref 794, .type "dict", .type "object"] ∧ cd.hasDel = false ∧ (sl[4]?).join = some (.builtin "dict.__new__")
  call : specialIn K (.ref 794) "__call__" = some (some (.builtin "type.__call__"))
  typ : instIn K (.ref 794) (.type "type") = some true
  sub : subIn K (.ref 794) (.type "dict") = some true
  self : subIn K (.ref 794) (.ref 794) = some true
  ini : findIn K (.ref 794) "__init__" = some (some (.ref 592))
  ityp : typeIn K (.ref 592) = some (.type "function")
theorem ctA (c : Cx) : CtA (hd.heap_1 c.w.params) := ⟨⟨_, _, _, _, by k_is, rfl, rfl, rfl⟩, by k_is, by k_is, by k_is, by k_is, by k_is, by k_is⟩
theorem dn_args (C : Addr) : argsOk "dict.__new__" ⟨[.ref C], []⟩ := by unfold argsOk; kernel_rfl
section
variable {c : Cx} {A : Around} {h₀ h h' : Heap} {k : Nat} {l : List It} {K : Frag} {mg mb : Str → Option Value} {M : Model}
theorem ct_made (X : K.In h) (a : CtA K) : Looks M h (Bind.madeBy (.ref 794)) (some "dict.__new__") := by
  obtain ⟨oc, od, cd, sl, e, e1, e2, e3⟩ := a.o
  have hc : clsIn K 794 = some cd := by unfold clsIn; rw [e]
  have hm : Looks M h (mroOf (.ref 794)) cd.mro := (looks_clsIn X hc).andThen .now
  intro A Q E s k q
  unfold Bind.madeBy
  refine wpAny_bind (hm A _ E s k ?_)
  rw [e1, List.forIn_cons]
  refine wpAny_bind (wpAny_bind (wpAny_bind (wpAny_bind (wpAny_loadPart (k _ _ (X _ _ e)) (wpAny_pure ?_)))))
  dsimp only
  rw [e3]
  exact wpAny_pure (wpAny_pure (wpAny_pure q))
theorem ct_base (X : K.In h) (a : CtA K) : Looks M h (Bind.staticBase (.ref 794)) (.ref 794) := by
  have hmb := ct_made (M := M) X a
  obtain ⟨oc, od, cd, sl, e, e1, e2, e3⟩ := a.o
  have hc : clsIn K 794 = some cd := by unfold clsIn; rw [e]
  have hm : Looks M h (mroOf (.ref 794)) cd.mro := (looks_clsIn X hc).andThen .now
  intro A Q E s k q
  unfold Bind.staticBase
  refine wpAny_bind (hm A _ E s k ?_)
  rw [e1, List.forIn_cons]
  exact wpAny_bind (wpAny_bind (wpAny_bind (hmb A _ E s k (wpAny_pure (wpAny_pure (wpAny_pure q))))))
theorem ct_type (X : K.In h) (a : CtA K) : Looks M h (isType (.ref 794)) true := by
  obtain ⟨oc, od, cd, sl, e, e1, e2, e3⟩ := a.o
  exact (Looks.ld (X _ _ e)).andThen .now
theorem ct_check (X : K.In h) (a : CtA K) : Looks M h (checkBuiltinCall "dict.__new__" ⟨[.ref 794], []⟩) () := by
  have hb0 : builtinKind "dict.__new__" = some .builtinFn := by decide +kernel
  have hs0 : splitId "dict.__new__" = some ("dict", "__new__") := by decide +kernel
  intro A Q E s k q
  simp only [checkBuiltinCall, hb0, hs0]
  rw [if_pos (by decide)]
  refine wpAny_bind (ct_type X a A _ E s k ?_)
  simp only [Bool.not_true, Bool.false_eq_true, if_false]
  refine wpAny_bind (looks_subIn X a.sub A _ E s k ?_)
  simp only [Bool.not_true, Bool.false_eq_true, if_false]
  refine wpAny_bind (ct_base X a A _ E s k ?_)
  refine wpAny_bind (ct_made X a A _ E s k ?_)
  simp only [bne_self_eq_false, Bool.false_eq_true, if_false]
  have ha := dn_args 794
  cases hsig : Manifest.signature? "dict.__new__" with
  | none => exact wpAny_pure q
  | some sig =>
    simp only [argsOk, hsig] at ha
    have h2 : Bind.checkArgs "dict.__new__" sig ⟨[.ref 794], []⟩ = pure () := ha
    show wpAny M A (Bind.checkArgs "dict.__new__" sig ⟨[.ref 794], []⟩) _ E s
    rw [h2]; exact wpAny_pure q
theorem ct_new {Q : Value → Heap → Nat → Prop} (b : Base K mg mb h₀) (w : Led h₀ h l) (a : CtA K) (q : ∀ x dx h', Led h₀ h' ((x, CtP dx) :: (dx, FrmS 0 []) :: l) → Q (.ref x) h' k) : Go c A (call (.builtin "dict.__new__") [.ref 794]) h k Q := by
  have X := b.kin.keeps w.keep
  obtain ⟨oc, od, cd, sl, e, e1, e2, e3⟩ := a.o
  have hc : clsIn K 794 = some cd := by unfold clsIn; rw [e]
  have hm : Looks c.m h (mroOf (.ref 794)) cd.mro := (looks_clsIn X hc).andThen .now
  refine wpAny_call (codeAny_call_builtin PySem.F.kt_plain_dict_new PySem.F.kt_entry_dict_new ((ct_check X a).here ?_))
  unfold Builtin.«dict.__new__»
  refine wpAny_bind ((ct_type X a).here ?_)
  simp only [Bool.not_true, Bool.false_eq_true, if_false]
  refine wpAny_bind ((looks_subIn X a.sub).here ?_)
  simp only [Bool.not_true, Bool.false_eq_true, if_false]
  refine wpAny_bind (hm.here ?_)
  rw [e1, if_neg (by decide)]
  refine wpAny_bind (wpAny_alloc ?_)
  have w1 := w.alloc emptyDict (P := FrmS 0 []) rfl ⟨⟨List.nodup_nil, #[], 0, rfl, fun e he => by simp at he, fun name => rfl⟩, #[], 0, rfl, Nat.le_refl _⟩
  have w2 := w1.alloc { cls := .ref 794, dict := some h.objs.size, data := .dict #[] 0, slots := #[] } (P := CtP h.objs.size) rfl rfl
  refine wpAny_bind ?_
  unfold newObj
  dsimp only
  unfold newObjAsIs classHasDel
  refine wpAny_bind (wpAny_alloc (wpAny_bind (wpAny_bind (wpAny_load (b.kin.keeps w2.keep _ _ e) (wpAny_pure ?_)))))
  rw [e2]
  exact wpAny_pure (wpAny_pure ⟨_, _, rfl, q _ _ _ w2⟩)
end
end Mine

/-! G7 -/
namespace Mine
theorem fillG7 : PySem.Challenge.rw_bn0041_01 = PySem.Challenge.rw_bn0041_01 ∧ hd.heap_1 = hd.heap_1 := by
  k_fill
  exact ⟨rfl, rfl⟩
section
variable {c : Cx} {A : Around} {h₀ h h' : Heap} {k : Nat} {l : List It} {K : Frag} {mg mb : Str → Option Value} {M : Model}
set_option maxHeartbeats 1000000 in
theorem counter_ {Q : Value → Heap → Nat → Prop} (b : Base (hd.heap_1 c.w.params) mg mb h₀) (w : Led h₀ h l) (hdl : A.depth < 840)
    (q : ∀ x dx h' k', Led h₀ h' ((x, CtP dx) :: (dx, FrmS 0 []) :: l) → Q (.ref x) h' k') : GoC c A (.call (.ref 794) ⟨[], []⟩) h k Q := by
  have X := b.kin.keeps w.keep
  have a := ctA c
  obtain ⟨oc, od, cd, sl, hC, e1, e2, e3⟩ := a.o
  refine codeAny_of_tree ?_
  show wpAny _ _ (callAny (.ref 794) _) _ _ _
  refine nd_load (X _ _ hC) ?_
  show wpAny _ _ (callAny.viaDunder (.ref 794) _) _ _ _
  unfold callAny.viaDunder
  refine wpAny_bind ((looks_specialIn X a.call).at ?_)
  dsimp only
  rw [tc_bind]
  refine wpAny_bind (wpAny_pure (wpAny_bind (wpAny_pure ?_)))
  refine wpAny_pure (a := Fin.again (.call (.builtin "type.__call__") ⟨[.ref 794], []⟩)) (And.intro rfl ?_)
  refine codeAny_call_builtin_at (Code.quiet_builtin _ (by decide +kernel)) entry_typeCall ?_
  with_reducible refine check_slot tc_kind tc_split (looks_instIn X a.typ) (tc_args _ _ _) ?_
  unfold Builtin.«type.__call__»
  have hm : ∀ {h}, (hd.heap_1 c.w.params).In h → Looks c.m h (mroOf (.ref 794)) cd.mro := fun X => (looks_clsIn X (by unfold clsIn; rw [hC])).andThen .now
  show wpAny _ _ (if (Value.ref 794 == Value.type "type") = true then _ else _) _ _ _
  rw [if_neg (by decide)]
  show wpAny _ _ (mroOf (.ref 794) >>= _) _ _ _
  refine wpAny_bind ((hm X).here ?_)
  rw [e1]
  dsimp only
  rw [if_neg (by decide)]
  refine wpAny_bind ((ct_made X a).here ?_)
  dsimp only
  refine wpAny_bind (wpAny_pure ?_)
  refine wpAny_bind (wpAny_holding ?_)
  refine (ct_new b w a (Q := fun v h' k' => ∃ x dx, v = .ref x ∧ Led h₀ h' ((x, CtP dx) :: (dx, FrmS 0 []) :: l)) fun x dx h' w' => ⟨x, dx, rfl, w'⟩).toWp fun v h' k' z => ?_
  obtain ⟨x, dx, rfl, w'⟩ := z
  have X' := b.kin.keeps w'.keep
  obtain ⟨ox, ex, rfl⟩ := w'.get t0
  have ty : Looks c.m h' (typeOf (.ref x)) (.ref 794) := (Looks.ld ex).andThen .now
  have ins : Looks c.m h' (isInstance (.ref x) (.ref 794)) true := by
    unfold isInstance
    exact ty.andThen (looks_subIn X' a.self)
  refine wpAny_bind (ins.here ?_)
  rw [if_neg (by decide)]
  refine wpAny_bind (wpAny_holding ?_)
  refine wpAny_bind (wpAny_bind (ty.here ((looks_findIn X' a.ini).here ?_)))
  refine wpAny_holding ?_
  refine wpAny_bind ((bind_fn X' (.ref x) a.ityp).here ?_)
  refine wpAny_bind (Go.toWp (Go.ofC (cinit_ (A := A.under (Code.builtin "type.__call__" ⟨[Value.ref 794], []⟩)) (Q := fun v h'' k'' => v = .none ∧ Led h₀ h'' ((x, CtP dx) :: (dx, FrmS 0 []) :: l)) b w' t0 (t1 t0) (by show A.depth + 1 < 850; omega) fun h k w => ⟨rfl, w⟩)) fun v h'' k'' z => ?_)
  refine wpAny_pure ?_
  obtain ⟨rfl, w''⟩ := z
  dsimp only
  rw [if_neg (by decide)]
  exact wpAny_pure ⟨_, _, rfl, q _ _ _ _ w''⟩
theorem perm6 {α : Type} (a b c d e f : α) (l : List α) : (a :: b :: c :: d :: e :: f :: l).Perm (e :: f :: c :: d :: b :: a :: l) :=
  (List.perm_middle (l₁ := [a, b, c, d]) (a := e)).trans (.cons _ ((List.perm_middle (l₁ := [a, b, c, d]) (a := f)).trans (.cons _ ((List.perm_middle (l₁ := [a, b]) (a := c)).trans (.cons _ ((List.perm_middle (l₁ := [a, b]) (a := d)).trans (.cons _ (.swap _ _ _))))))))
theorem st_clk (c : Cx) : SetC (hd.heap_1 c.w.params) 917 "clock" := ⟨by k_is, by k_is, by k_is, by k_is⟩
theorem st_sto (c : Cx) : SetC (hd.heap_1 c.w.params) 917 "storage" := ⟨by k_is, by k_is, by k_is, by k_is⟩
theorem st_exp (c : Cx) : SetC (hd.heap_1 c.w.params) 917 "expirations" := ⟨by k_is, by k_is, by k_is, by k_is⟩
theorem st_evs (c : Cx) : SetC (hd.heap_1 c.w.params) 917 "events" := ⟨by k_is, by k_is, by k_is, by k_is⟩
theorem eDict0 {env : Env} {pos : Pos} {Q : Value → Heap → Nat → Prop} (w : Led h₀ h l) (q : ∀ D h', Led h₀ h' ((D, EmpD) :: l) → Q (.ref D) h' k) : Go c A (eval (.Dict [] [] pos) env) h k Q := by
  refine wpAny_Dict_empty ?_
  exact ⟨_, _, rfl, q _ _ (w.alloc _ rfl rfl)⟩
theorem store_ {clk : Addr} {Q : Value → Heap → Nat → Prop} (b : Base (hd.heap_1 c.w.params) mg mb h₀) (w : Led h₀ h l) (hdl : A.depth < 830)
    (q : ∀ st sd C CD X E h' k', Led h₀ h' ((st, InstP 917 sd) :: (sd, Frm [(Str.ofString "clock", some (.ref clk)), (Str.ofString "storage", some (.ref C)), (Str.ofString "expirations", some (.ref X)), (Str.ofString "events", some (.ref E))]) ::
      (C, CtP CD) :: (CD, FrmS 0 []) :: (X, EmpD) :: (E, EmpD) :: l) → Q (.ref st) h' k') : GoC c A (.call (.ref 917) ⟨[.ref clk], []⟩) h k Q := by
  refine gMake ["clock", "storage", "expirations", "events"] b w (mk_sto c) (by decide) fun x dx h w => ?_
  refine gEnterK ["self", "clock"] [.ref x, .ref clk] b w (by rw [mdepth]; omega) (by k_is) (by k_is) (BindsTo.of_eq rfl) (locs rfl) (by decide) (by decide +kernel) (fun L h k n w => ?_)
  generalize henv : envOf _ _ _ _ _ = env at n ⊢
  have ks : env.kindOf "self" = some .local := by rw [← henv]; rfl
  have ka : env.kindOf "clock" = some .local := by rw [← henv]; rfl
  have kC : env.kindOf "Counter" = some .globalImplicit := by rw [← henv]; rfl
  refine xSetAttr (nameL w n ka t0 (t1 t0) (nameL w n ks t0 t0 (gSetA b w (t1 t0) .z (.s (.s .z)) (by decide) (st_clk c) fun h k w => ?_)))
  refine xSetAttr (eCallN (nameG b w n kC (by k_is) (cwF0 (keepK b w (by k_is)) (Go.ofC (counter_ b w (by show (A.under (Code.builtin "type.__call__" ⟨[Value.ref 917, Value.ref clk], []⟩)).depth + 1 < 840; rw [mdepth]; omega) fun C CD h k w => ?_)))))
  refine nameL w n ks (t2 t0) t0 (gSetA b w (t3 t0) (.s .z) (s4 s0) (by decide) (st_sto c) fun h k w => ?_)
  refine xSetAttr (eDict0 w fun X h w => nameL w n ks (t3 t0) t0 (gSetA b w (t4 t0) (.s (.s .z)) (s5 s0) (by decide) (st_exp c) fun h k w => ?_))
  refine xSetAttr (eDict0 w fun E h w => nameL w n ks (t4 t0) t0 (gSetA b w (t5 t0) (.s (.s (.s .z))) (s6 s0) (by decide) (st_evs c) fun h k w => ?_))
  refine xNil ⟨rfl, q x dx C CD X E _ _ ?_⟩
  have w := w.weak (P' := Frm [(Str.ofString "clock", some (.ref clk)), (Str.ofString "storage", some (.ref C)), (Str.ofString "expirations", some (.ref X)), (Str.ofString "events", some (.ref E))]) (s6 s0) fun o ho => ho.1
  have w : Led h₀ h ((E, EmpD) :: (X, EmpD) :: (C, CtP CD) :: (CD, FrmS 0 []) :: (x, InstP 917 dx) :: _ :: l) := w.sub (.cons_cons _ (.cons_cons _ (.cons_cons _ (.cons_cons _ (.cons _ (List.Sublist.refl _))))))
  exact w.perm (perm6 _ _ _ _ _ _ _)
end
end Mine

/-! P4 -/
namespace Mine
structure Rw where
  a : Addr
  b : Int
  c : Int
  t : Tok
  u : Tok
  v : Tok
def cs (rows : List Rw) : Int := (rows.map (·.c)).sum
def liveAt (len t : Int) (r : Rw) : Bool := decide (r.b + len > t)
def full (rows : List Rw) : List Int := rows.reverse.flatMap fun r => List.replicate r.c.toNat (r.b + 1)
def cn (rows : List Rw) : Nat := (full rows).length
theorem full_cons (r : Rw) (rows : List Rw) : full (r :: rows) = full rows ++ List.replicate r.c.toNat (r.b + 1) := by simp [full]
theorem full_snoc (r : Rw) (rows : List Rw) : full (rows ++ [r]) = List.replicate r.c.toNat (r.b + 1) ++ full rows := by simp [full]
theorem full_app (x y : List Rw) : full (x ++ y) = full y ++ full x := by simp [full]
theorem full_mem {rows : List Rw} {x : Int} (h : x ∈ full rows) : ∃ r ∈ rows, x = r.b + 1 := by
  simp only [full, List.mem_flatMap, List.mem_reverse, List.mem_replicate] at h
  obtain ⟨r, hr, _, e⟩ := h
  exact ⟨r, hr, e⟩
theorem cn_cs : ∀ {rows : List Rw}, (∀ r ∈ rows, 1 ≤ r.c) → ((cn rows : Nat) : Int) = cs rows
  | [], _ => by simp [cn, cs, full]
  | r :: rows, h => by
    have ih := cn_cs (rows := rows) fun r hr => h r (by simp [hr])
    have := h r (by simp)
    unfold cn cs at *
    rw [full_cons]
    simp only [List.length_append, List.length_replicate, List.map_cons, List.sum_cons]
    omega
theorem cs_nonneg {rows : List Rw} (h : ∀ r ∈ rows, 1 ≤ r.c) : 0 ≤ cs rows := by rw [← cn_cs h]; omega
theorem cs_len : ∀ {rows : List Rw}, (∀ r ∈ rows, 1 ≤ r.c) → (rows.length : Int) ≤ cs rows
  | [], _ => by simp [cs]
  | r :: rows, h => by
    have ih := cs_len (rows := rows) fun r hr => h r (by simp [hr])
    have := h r (by simp)
    unfold cs at *
    simp only [List.length_cons, List.map_cons, List.sum_cons]
    omega
def Asc (rows : List Rw) : Prop := rows.Pairwise fun a b => a.b + 1 < b.b
theorem full_desc : ∀ {rows : List Rw}, Asc rows → (full rows).Pairwise fun a b => b ≤ a
  | [], _ => by simp [full]
  | r :: rows, h => by
    have h1 := List.pairwise_cons.mp h
    rw [full_cons, List.pairwise_append]
    refine ⟨full_desc h1.2, ?_, fun x hx y hy => ?_⟩
    · rw [List.pairwise_replicate]; right; exact Int.le_refl _
    · obtain ⟨r', hr', rfl⟩ := full_mem hx
      have := h1.1 r' hr'
      simp only [List.mem_replicate] at hy
      omega
/-- rows that rise split at the live ones -/
theorem split_live {p : Rw → Bool} : ∀ {rows : List Rw}, Asc rows → (∀ a ∈ rows, ∀ b ∈ rows, a.b ≤ b.b → p a = true → p b = true) → ∃ D, rows = D ++ rows.filter p ∧ ∀ r ∈ D, p r = false
  | [], _, _ => ⟨[], rfl, by simp⟩
  | r :: rows, h, up => by
    have h1 := List.pairwise_cons.mp h
    cases e : p r with
    | true =>
      refine ⟨[], ?_, by simp⟩
      have : (r :: rows).filter p = r :: rows := by
        rw [List.filter_eq_self]
        intro a ha
        rcases List.mem_cons.mp ha with rfl | ha
        · exact e
        · exact up r (by simp) a (by simp [ha]) (by have := h1.1 a ha; omega) e
      rw [this]; rfl
    | false =>
      obtain ⟨D, h2, h3⟩ := split_live (rows := rows) h1.2 fun a ha b hb => up a (by simp [ha]) b (by simp [hb])
      refine ⟨r :: D, ?_, fun x hx => ?_⟩
      · rw [List.filter_cons_of_neg (by simp [e]), List.cons_append, ← h2]
      · rcases List.mem_cons.mp hx with rfl | hx
        · exact e
        · exact h3 x hx
/-- what the store's list shows: the places of the live events -/
theorem places {es : List Int} {rows : List Rw} {p : Rw → Bool} {q : Int → Prop} {k : Nat} (asc : Asc rows) (he : es = (full rows).take k) (hd : ∀ x ∈ (full rows).drop k, ¬ q x)
    (up : ∀ a ∈ rows, ∀ b ∈ rows, a.b ≤ b.b → p a = true → p b = true) (hp : ∀ r ∈ rows, q (r.b + 1) ↔ p r = true) :
    cn (rows.filter p) ≤ es.length ∧ (∀ i x, es[i]? = some x → (i < cn (rows.filter p) ↔ q x)) ∧ ∀ i, i < cn (rows.filter p) → (full (rows.filter p))[i]? = es[i]? := by
  obtain ⟨D, h1, h2⟩ := split_live asc up
  have hf : full rows = full (rows.filter p) ++ full D := by
    conv => lhs; rw [h1]
    rw [full_app]
  have hV : ∀ x ∈ full (rows.filter p), q x := by
    intro x hx
    obtain ⟨r, hr, rfl⟩ := full_mem hx
    have := List.mem_filter.mp hr
    exact (hp r this.1).mpr this.2
  have hDd : ∀ x ∈ full D, ¬ q x := by
    intro x hx
    obtain ⟨r, hr, rfl⟩ := full_mem hx
    have hm : r ∈ rows := by rw [h1]; exact List.mem_append_left _ hr
    intro hq
    have := (hp r hm).mp hq
    rw [h2 r hr] at this; cases this
  have hk : cn (rows.filter p) ≤ k := by
    rcases Nat.lt_or_ge k (cn (rows.filter p)) with h | h
    · exfalso
      have hlt : k < (full rows).length := by
        rw [hf, List.length_append]; unfold cn at h; omega
      have hm : (full rows)[k] ∈ (full rows).drop k := by
        rw [List.mem_iff_getElem]
        exact ⟨0, by rw [List.length_drop]; omega, by simp⟩
      refine hd _ hm (hV _ ?_)
      have : (full rows)[k]? = (full (rows.filter p))[k]? := by
        rw [hf, List.getElem?_append_left h]
      rw [List.getElem?_eq_getElem hlt, List.getElem?_eq_getElem h] at this
      have := Option.some.inj this
      rw [this]; exact List.getElem_mem _
    · exact h
  have hlen : cn (rows.filter p) ≤ es.length := by
    rw [he, List.length_take, hf, List.length_append]
    unfold cn at *; omega
  have hat : ∀ i, i < cn (rows.filter p) → (full (rows.filter p))[i]? = es[i]? := by
    intro i hi
    rw [he, List.getElem?_take_of_lt (by omega), hf, List.getElem?_append_left hi]
  refine ⟨hlen, fun i x hx => ?_, hat⟩
  constructor
  · intro hi
    rw [← hat i hi] at hx
    exact hV x (List.mem_of_getElem? hx)
  · intro hq
    rcases Nat.lt_or_ge i (cn (rows.filter p)) with h | h
    · exact h
    · exfalso
      rw [he] at hx
      have hik : i < k := by
        rcases Nat.lt_or_ge i k with h' | h'
        · exact h'
        · rw [List.getElem?_take_eq_none h'] at hx; cases hx
      rw [List.getElem?_take_of_lt hik, hf, List.getElem?_append_right (by unfold cn at h; exact h)] at hx
      exact hDd x (List.mem_of_getElem? hx) hq
theorem last_full {r : Rw} {rows : List Rw} (h : 1 ≤ r.c) : (full (r :: rows))[cn (r :: rows) - 1]? = some (r.b + 1) := by
  have hl : cn (r :: rows) = (full rows).length + r.c.toNat := by unfold cn; rw [full_cons, List.length_append, List.length_replicate]
  rw [hl, full_cons, List.getElem?_append_right (by omega), List.getElem?_replicate]
  rw [if_pos (by omega)]
end Mine

/-! P5 -/
namespace Mine
def esA (st : St) : List Int := (esOf st).map (·.at_)
def FX (len : Int) (st : St) (o0 o1 o2 : Int) : Prop :=
  (o2 = 0 ∧ o0 = 0 ∧ o1 = 0 ∧ st.cnt = none ∧ st.exp = none) ∨ (0 < o2 ∧ o1 = o0 + 1 ∧ o1 ≤ st.m ∧ (st.cnt = some o2 ∧ st.exp = some (o1 + len) ∨ st.cnt = none ∧ st.exp = none ∧ o1 + len ≤ st.m))
structure Inv (am len : Int) (st : St) (rows : List Rw) (o0 o1 o2 : Int) : Prop where
  asc : Asc rows
  pos : ∀ r ∈ rows, 1 ≤ r.c
  past : ∀ r ∈ rows, r.b + 1 ≤ st.m
  sum : cs (rows.filter (liveAt len st.m)) ≤ am
  evs : ∃ k, esA st = (full rows).take k ∧ ∀ x ∈ (full rows).drop k, x + len ≤ st.m
  sub : ∀ e ∈ esOf st, e ∈ st.ents
  cle : ∀ r ∈ rows, r.c ≤ 5
  fx : FX len st o0 o1 o2
def Near (len m1 b : Int) : Prop := m1 < b + len - 100 ∨ b + 1 + len ≤ m1 ∨ m1 < b
structure Win (len m1 : Int) (rows : List Rw) (o0 o2 : Int) : Prop where
  r : ∀ r ∈ rows, Near len m1 r.b
  o : 0 < o2 → Near len m1 o0

theorem cs_filter {p q : Rw → Bool} : ∀ {rows : List Rw}, (∀ r ∈ rows, 1 ≤ r.c) → (∀ r ∈ rows, p r = true → q r = true) → cs (rows.filter p) ≤ cs (rows.filter q)
  | [], _, _ => Int.le_refl _
  | r :: rows, h, i => by
    have ih := cs_filter (rows := rows) (fun x hx => h x (by simp [hx])) fun x hx => i x (by simp [hx])
    have := h r (by simp)
    have i := i r (by simp)
    cases e : p r with
    | true =>
      rw [List.filter_cons_of_pos e, List.filter_cons_of_pos (i e)]
      unfold cs at *
      simp only [List.map_cons, List.sum_cons]
      omega
    | false =>
      rw [List.filter_cons_of_neg (by simp [e])]
      cases e2 : q r with
      | true =>
        rw [List.filter_cons_of_pos e2]
        unfold cs at *
        simp only [List.map_cons, List.sum_cons]
        omega
      | false => rw [List.filter_cons_of_neg (by simp [e2])]; exact ih
theorem filter_same {p q : Rw → Bool} {rows : List Rw} (h : ∀ r ∈ rows, p r = q r) : rows.filter p = rows.filter q := List.filter_congr h
theorem cs_app (x y : List Rw) : cs (x ++ y) = cs x + cs y := by simp [cs]
theorem take_map_take {st : St} {es : List Int} : True := trivial
theorem cs_le : ∀ {rows : List Rw}, (∀ r ∈ rows, r.c ≤ 5) → cs rows ≤ 5 * rows.length
  | [], _ => by simp [cs]
  | r :: rows, h => by
    have ih := cs_le (rows := rows) fun x hx => h x (by simp [hx])
    have := h r (by simp)
    unfold cs at *
    simp only [List.map_cons, List.sum_cons, List.length_cons]
    omega
variable {am len m1 o0 o1 o2 : Int} {st st' : St} {rows : List Rw}
theorem Inv.esLen (x : Inv am len st rows o0 o1 o2) : ((esOf st).length : Int) ≤ 5 * rows.length := by
  obtain ⟨k, he, _⟩ := x.evs
  have : (esOf st).length = (esA st).length := by unfold esA; rw [List.length_map]
  rw [this, he, List.length_take]
  have h1 := cn_cs x.pos
  have h2 := cs_le x.cle
  unfold cn at h1
  omega
theorem Inv.ev (x : Inv am len st rows o0 o1 o2) (h : rows.length ≤ 1000) : EvOk st := by
  refine ⟨x.sub, ?_, by have := x.esLen; omega⟩
  obtain ⟨k, he, _⟩ := x.evs
  have h1 : (esA st).Pairwise fun a b => b ≤ a := by rw [he]; exact (full_desc x.asc).sublist (List.take_sublist _ _)
  unfold esA at h1
  rw [List.pairwise_map] at h1
  exact h1
theorem Inv.next {p0 p1 p2 : Int} (x : Inv am len st rows o0 o1 o2) (hm : st.m ≤ st'.m) (he : esOf st' = esOf st) (hs : ∀ e ∈ st.ents, e ∈ st'.ents) (hf : FX len st' p0 p1 p2) : Inv am len st' rows p0 p1 p2 := by
  refine ⟨x.asc, x.pos, fun r hr => by have := x.past r hr; omega, ?_, ?_, fun e h => hs e (x.sub e (he ▸ h)), x.cle, hf⟩
  · refine Int.le_trans (cs_filter x.pos fun r hr h => ?_) x.sum
    unfold liveAt at h ⊢
    simp only [decide_eq_true_eq] at h ⊢
    omega
  · obtain ⟨k, h1, h2⟩ := x.evs
    exact ⟨k, by unfold esA at *; rw [he]; exact h1, fun y hy => by have := h2 y hy; omega⟩
theorem FX.later (x : FX len st o0 o1 o2) (hm : st.m ≤ st'.m) (hc : st'.cnt = st.cnt) (he : st'.exp = st.exp) : FX len st' o0 o1 o2 := by
  rcases x with ⟨a, b, c, d, e⟩ | ⟨a, b, c, d⟩
  · exact .inl ⟨a, b, c, hc.trans d, he.trans e⟩
  · refine .inr ⟨a, b, by omega, ?_⟩
    rcases d with ⟨d, e⟩ | ⟨d, e, f⟩
    · exact .inl ⟨hc.trans d, he.trans e⟩
    · exact .inr ⟨hc.trans d, he.trans e, by omega⟩
theorem Inv.tick (x : Inv am len st rows o0 o1 o2) (hs : 0 ≤ st.s) (l1 : Option Addr) : Inv am len { stTick st with l1 := l1 } rows o0 o1 o2 :=
  x.next (by show st.m ≤ st.m + st.s; omega) rfl (fun _ h => h) (x.fx.later (by show st.m ≤ st.m + st.s; omega) rfl rfl)

/-- the get of the fixed window -/
structure GetOk (len : Int) (st : St) (o1 o2 : Int) : Prop where
  m : (stGet st).m = st.m + st.s
  s : (stGet st).s = st.s
  es : esOf (stGet st) = esOf st
  ents : (stGet st).ents = st.ents
  yes : 0 < o2 → st.m + st.s < o1 + len → (stGet st).cnt = some o2 ∧ (stGet st).exp = some (o1 + len)
  no : (o2 = 0 ∨ o1 + len ≤ st.m + st.s) → (stGet st).cnt = none ∧ (stGet st).exp = none
theorem get_ok (x : FX len st o0 o1 o2) (hs : 0 ≤ st.s) : GetOk len st o1 o2 := by
  have e : stGet st = if st.exp.getD 0 ≤ st.m + st.s then { stTick st with cnt := none, exp := none } else stTick st := rfl
  rcases x with ⟨a, b, c, d, f⟩ | ⟨a, b, c, ⟨d, f⟩ | ⟨d, f, g⟩⟩
  · have h : (stGet st).cnt = none ∧ (stGet st).exp = none ∧ (stGet st).m = st.m + st.s ∧ (stGet st).s = st.s ∧ esOf (stGet st) = esOf st ∧ (stGet st).ents = st.ents := by
      rw [e]; split <;> exact ⟨by first | rfl | exact d, by first | rfl | exact f, rfl, rfl, rfl, rfl⟩
    exact ⟨h.2.2.1, h.2.2.2.1, h.2.2.2.2.1, h.2.2.2.2.2, fun h' => by omega, fun _ => ⟨h.1, h.2.1⟩⟩
  · rw [f, Option.getD_some] at e
    by_cases h : o1 + len ≤ st.m + st.s
    · rw [if_pos h] at e
      rw [show GetOk len st o1 o2 = GetOk len st o1 o2 from rfl]
      exact ⟨by rw [e]; rfl, by rw [e]; rfl, by rw [e]; rfl, by rw [e]; rfl, fun _ h' => by omega, fun _ => by rw [e]; exact ⟨rfl, rfl⟩⟩
    · rw [if_neg h] at e
      exact ⟨by rw [e]; rfl, by rw [e]; rfl, by rw [e]; rfl, by rw [e]; rfl, fun _ h' => by rw [e]; exact ⟨d, f⟩, fun h' => by omega⟩
  · have h : (stGet st).cnt = none ∧ (stGet st).exp = none ∧ (stGet st).m = st.m + st.s ∧ (stGet st).s = st.s ∧ esOf (stGet st) = esOf st ∧ (stGet st).ents = st.ents := by
      rw [e]; split <;> exact ⟨by first | rfl | exact d, by first | rfl | exact f, rfl, rfl, rfl, rfl⟩
    exact ⟨h.2.2.1, h.2.2.2.1, h.2.2.2.2.1, h.2.2.2.2.2, fun _ h' => by omega, fun _ => ⟨h.1, h.2.1⟩⟩
theorem Inv.get (x : Inv am len st rows o0 o1 o2) (hs : 0 ≤ st.s) : Inv am len (stGet st) rows o0 o1 o2 := by
  have g := get_ok x.fx hs
  refine x.next (by rw [g.m]; omega) g.es (fun e h => by rw [g.ents]; exact h) ?_
  rcases x.fx with ⟨a, b, c, d, e⟩ | ⟨a, b, c, d⟩
  · exact .inl ⟨a, b, c, g.no (.inl a)⟩
  · refine .inr ⟨a, b, by rw [g.m]; omega, ?_⟩
    by_cases h : o1 + len ≤ st.m + st.s
    · exact .inr ⟨(g.no (.inr h)).1, (g.no (.inr h)).2, by rw [g.m]; exact h⟩
    · exact .inl (g.yes a (by omega))

/-! within the window -/
theorem near_live {b t : Int} (h : Near len m1 b) (hl : 300 ≤ len) (h1 : m1 ≤ t) (h2 : t ≤ m1 + 60) : (t < b + 1 + len ↔ b + len > t) ∧ (b + len > t ↔ b + len > m1) := by
  unfold Near at h
  omega
theorem Win.same (w : Win len m1 rows o0 o2) (hl : 300 ≤ len) {t : Int} (h1 : m1 ≤ t) (h2 : t ≤ m1 + 60) : rows.filter (liveAt len t) = rows.filter (liveAt len m1) :=
  filter_same fun r hr => by
    unfold liveAt
    rw [decide_eq_decide]
    exact (near_live (w.r r hr) hl h1 h2).2
theorem live_up {t : Int} : ∀ a ∈ rows, ∀ b ∈ rows, a.b ≤ b.b → liveAt len t a = true → liveAt len t b = true := by
  intro a _ b _ h hp
  unfold liveAt at *
  simp only [decide_eq_true_eq] at *
  omega
/-- the moving window's places, seen at a reading t -/
theorem Inv.seen (x : Inv am len st rows o0 o1 o2) (w : Win len m1 rows o0 o2) (hl : 300 ≤ len) {t : Int} (ht : st.m ≤ t) (h1 : m1 ≤ t) (h2 : t ≤ m1 + 59) :
    (∀ i e, (esOf st)[i]? = some e → (i < cn (rows.filter (liveAt len t)) ↔ t - len < e.at_)) ∧ (m1 < t → ∀ i e, (esOf st)[i]? = some e → (i < cn (rows.filter (liveAt len t)) ↔ t - len ≤ e.at_)) ∧
    cn (rows.filter (liveAt len t)) ≤ (esOf st).length ∧ ∀ i, i < cn (rows.filter (liveAt len t)) → (full (rows.filter (liveAt len t)))[i]? = ((esOf st)[i]?).map (·.at_) := by
  obtain ⟨k, he, hd⟩ := x.evs
  have p1 := places (q := fun y => t - len < y) (p := liveAt len t) x.asc he (fun y hy => by have := hd y hy; omega) live_up fun r hr => by
    have := near_live (w.r r hr) hl h1 (by omega : t ≤ m1 + 60)
    unfold liveAt
    simp only [decide_eq_true_eq]
    omega
  have hmap : ∀ i : Nat, (esA st)[i]? = ((esOf st)[i]?).map (·.at_) := fun i => by unfold esA; rw [List.getElem?_map]
  have hlen : (esA st).length = (esOf st).length := by unfold esA; rw [List.length_map]
  refine ⟨fun i e h => ?_, fun hlt i e h => ?_, hlen ▸ p1.1, fun i hi => (p1.2.2 i hi).trans (hmap i)⟩
  · exact p1.2.1 i e.at_ (by rw [hmap, h]; rfl)
  · have h3 := p1.2.1 i e.at_ (by rw [hmap, h]; rfl)
    rw [h3]
    constructor
    · intro h; omega
    · intro h4
      rcases Int.lt_or_eq_of_le h4 with h5 | h5
      · exact h5
      · exfalso
        have hm : e.at_ ∈ full rows := by
          have : e.at_ ∈ esA st := List.mem_map.mpr ⟨e, List.mem_of_getElem? h, rfl⟩
          rw [he] at this
          exact List.mem_of_mem_take this
        obtain ⟨r, hr, hrb⟩ := full_mem hm
        have := w.r r hr
        unfold Near at this
        omega
theorem gmw_live {es : List Ev} {t start : Int} {r N : Nat} (g : GmwOk es t len start r) (hN : N ≤ es.length) (h : ∀ i e, es[i]? = some e → (i < N ↔ t - len < e.at_)) : r = N := by
  have hr := g.le
  rcases Nat.lt_trichotomy r N with h1 | h1 | h1
  · exfalso
    have : r < es.length := by omega
    have e : es[r]? = some es[r] := List.getElem?_eq_getElem this
    have := (g.iff r _ e).mpr ((h r _ e).mp h1)
    omega
  · exact h1
  · exfalso
    have : N < es.length := by omega
    have e : es[N]? = some es[N] := List.getElem?_eq_getElem this
    have := (h N _ e).mpr ((g.iff N _ e).mp h1)
    omega
/-- what the moving window tells -/
theorem Inv.gmw (x : Inv am len st rows o0 o1 o2) (w : Win len m1 rows o0 o2) (hl : 300 ≤ len) {t start : Int} {r : Nat} (ht : st.m ≤ t) (h1 : m1 ≤ t) (h2 : t ≤ m1 + 59) (g : GmwOk (esOf st) t len start r) :
    ((r : Nat) : Int) = cs (rows.filter (liveAt len m1)) ∧ ∀ y ys, rows.filter (liveAt len m1) = y :: ys → start = y.b + 1 := by
  have p := x.seen w hl ht h1 h2
  have hr := gmw_live g p.2.2.1 p.1
  have hw := w.same hl h1 (by omega : t ≤ m1 + 60)
  rw [hw] at p hr
  have hpos : ∀ r ∈ rows.filter (liveAt len m1), 1 ≤ r.c := fun r hr => x.pos r (List.mem_filter.mp hr).1
  refine ⟨by rw [hr]; exact cn_cs hpos, fun y ys e => ?_⟩
  have hy : 1 ≤ y.c := hpos y (by rw [e]; simp)
  have hc : 0 < cn (y :: ys) := by
    unfold cn; rw [full_cons, List.length_append, List.length_replicate]; omega
  obtain ⟨ev, h3, h4⟩ := g.at_ (by rw [hr, e]; exact hc)
  have h5 := p.2.2.2 (r - 1) (by rw [hr, e]; omega)
  rw [e] at hr h5
  rw [hr, last_full hy, ← hr, h3] at h5
  rw [h4]
  exact (Option.some.inj h5).symm
end Mine

/-! P6 -/
namespace Mine
variable {am len m1 o0 o1 o2 cost : Int} {st st' : St} {rows : List Rw}
def spans (rows : List Rw) : List Sp := rows.map fun r => (r.b, r.b + 1)
theorem FX.win (x : FX len st o0 o1 o2) (h : ∀ y ∈ (o0, o1) :: spans rows, Away len m1 y) : Win len m1 rows o0 o2 := by
  refine ⟨fun r hr => ?_, fun h2 => ?_⟩
  · have := h (r.b, r.b + 1) (List.mem_cons_of_mem _ (List.mem_map.mpr ⟨r, hr, rfl⟩))
    unfold Away at this; unfold Near
    dsimp only at this
    omega
  · have := h (o0, o1) (by simp)
    unfold Away at this; unfold Near
    dsimp only at this
    rcases x with ⟨a, _⟩ | ⟨_, b, _⟩ <;> omega
theorem hit_room (x : Inv am len st rows o0 o1 o2) (w : Win len m1 rows o0 o2) (hl : 300 ≤ len) (h1 : m1 ≤ st.m) (h2 : st.m ≤ m1 + 50) (hc : cost ≤ am) :
    (∃ e, (esOf st)[(am - cost).toNat]? = some e ∧ st.m + 1 - len ≤ e.at_) ↔ ¬ cost ≤ am - cs (rows.filter (liveAt len (st.m + 1))) := by
  have p := x.seen w hl (t := st.m + 1) (by omega) (by omega) (by omega)
  have hpos : ∀ r ∈ rows.filter (liveAt len (st.m + 1)), 1 ≤ r.c := fun r hr => x.pos r (List.mem_filter.mp hr).1
  have hN := cn_cs hpos
  constructor
  · rintro ⟨e, he, hq⟩
    have := (p.2.1 (by omega) _ e he).mpr hq
    omega
  · intro h
    have hlt : (am - cost).toNat < cn (rows.filter (liveAt len (st.m + 1))) := by omega
    have hl2 := p.2.2.1
    have he : (esOf st)[(am - cost).toNat]? = some (esOf st)[(am - cost).toNat] := List.getElem?_eq_getElem (by omega)
    exact ⟨_, he, (p.2.1 (by omega) _ _ he).mp hlt⟩
theorem hit_big (x : Inv am len st rows o0 o1 o2) (h : am < cost) (t : Int) : ¬ cost ≤ am - cs (rows.filter (liveAt len t)) := by
  have := cs_nonneg (rows := rows.filter (liveAt len t)) fun r hr => x.pos r (List.mem_filter.mp hr).1
  omega
theorem hit_inv {e : Ev} {ea a : Addr} {t u v : Tok} (x : Inv am len st rows o0 o1 o2) (hs : st.s = 1) (hc1 : 1 ≤ cost) (hc5 : cost ≤ 5) (hr : cost ≤ am - cs (rows.filter (liveAt len (st.m + 1)))) (he : e.at_ = st.m + st.s + st.s) :
    Inv am len { stTick (stTick st) with ev := some (ea, List.replicate cost.toNat e ++ esOf st), ents := e :: st.ents } (rows ++ [⟨a, st.m + 1, cost, t, u, v⟩]) o0 o1 o2 := by
  have hm : ({ stTick (stTick st) with ev := some (ea, List.replicate cost.toNat e ++ esOf st), ents := e :: st.ents } : St).m = st.m + 2 := by show st.m + st.s + st.s = _; omega
  refine ⟨?_, ?_, ?_, ?_, ?_, ?_, ?_, ?_⟩
  · unfold Asc
    rw [List.pairwise_append]
    refine ⟨x.asc, List.pairwise_singleton _ _, fun r hr r' hr' => ?_⟩
    simp at hr'; subst hr'
    have := x.past r hr
    dsimp only; omega
  · intro r hr
    rcases List.mem_append.mp hr with h | h
    · exact x.pos r h
    · simp at h; subst h; exact hc1
  · intro r hr
    rw [hm]
    rcases List.mem_append.mp hr with h | h
    · have := x.past r h; omega
    · simp at h; subst h; dsimp only; omega
  · rw [hm, List.filter_append, cs_app]
    have h1 : cs (rows.filter (liveAt len (st.m + 2))) ≤ cs (rows.filter (liveAt len (st.m + 1))) := cs_filter x.pos fun r hr h => by
      unfold liveAt at *; simp only [decide_eq_true_eq] at *; omega
    have h2 : cs (([⟨a, st.m + 1, cost, t, u, v⟩] : List Rw).filter (liveAt len (st.m + 2))) ≤ cost := by
      rw [List.filter_cons]
      split
      · simp [cs]
      · simp [cs]; omega
    omega
  · obtain ⟨k, h1, h2⟩ := x.evs
    have e1 : esA { stTick (stTick st) with ev := some (ea, List.replicate cost.toNat e ++ esOf st), ents := e :: st.ents } = List.replicate cost.toNat (st.m + 2) ++ esA st := by
      show (List.replicate cost.toNat e ++ esOf st).map (·.at_) = _
      rw [List.map_append, List.map_replicate, he]
      have : st.m + st.s + st.s = st.m + 2 := by omega
      rw [this]; rfl
    refine ⟨cost.toNat + k, ?_, fun y hy => ?_⟩
    · rw [e1, full_snoc, h1, show (⟨a, st.m + 1, cost, t, u, v⟩ : Rw).b + 1 = st.m + 2 by show st.m + 1 + 1 = _; omega]
      rw [List.take_append, List.length_replicate]
      simp only [Nat.add_sub_cancel_left]
      congr 1
      rw [List.take_of_length_le (by rw [List.length_replicate]; omega)]
    · rw [hm]
      rw [full_snoc, List.drop_append, List.length_replicate] at hy
      simp only [Nat.add_sub_cancel_left] at hy
      rcases List.mem_append.mp hy with h | h
      · rw [List.drop_of_length_le (by rw [List.length_replicate]; omega)] at h; cases h
      · have := h2 y h; omega
  · intro e' h
    have h : e' ∈ List.replicate cost.toNat e ++ esOf st := h
    show e' ∈ e :: st.ents
    rcases List.mem_append.mp h with h | h
    · rw [List.eq_of_mem_replicate h]; simp
    · exact List.mem_cons_of_mem _ (x.sub e' h)
  · intro r hr
    rcases List.mem_append.mp hr with h | h
    · exact x.cle r h
    · simp at h; subst h; exact hc5
  · exact x.fx.later (by rw [hm]; omega) rfl rfl
theorem Win.add {a : Addr} {b c : Int} {t u v : Tok} (w : Win len m1 rows o0 o2) (h : m1 < b) : Win len m1 (rows ++ [⟨a, b, c, t, u, v⟩]) o0 o2 :=
  ⟨fun r hr => by
    rcases List.mem_append.mp hr with h' | h'
    · exact w.r r h'
    · simp at h'; subst h'; exact .inr (.inr h), w.o⟩
/-- the fixed window in the window's time -/
theorem get_live (x : FX len st o0 o1 o2) (w : Win len m1 rows o0 o2) (hl : 300 ≤ len) (hs : st.s = 1) (h1 : m1 ≤ st.m) (h2 : st.m ≤ m1 + 50) :
    (stGet st).cnt.getD 0 = (if o0 + len > st.m + 1 then o2 else 0) ∧ ((if o0 + len > st.m + 1 then o2 else 0) ≠ 0 → (stGet st).exp = some (o1 + len)) ∧ ((if o0 + len > st.m + 1 then o2 else 0) = 0 → (stGet st).exp = none) := by
  have g := get_ok x (by omega : 0 ≤ st.s)
  rcases x with ⟨a, _⟩ | ⟨a, b, c, _⟩
  · have := g.no (.inl a)
    rw [this.1, this.2, a]
    simp
  · have hn := near_live (w.o a) hl (by omega : m1 ≤ st.m + 1) (by omega)
    by_cases h : o0 + len > st.m + 1
    · have := g.yes a (by omega)
      rw [if_pos h, this.1, this.2]
      exact ⟨rfl, fun _ => rfl, fun h' => by omega⟩
    · have := g.no (.inr (by omega))
      rw [if_neg h, this.1, this.2]
      exact ⟨rfl, fun h' => absurd rfl h', fun _ => rfl⟩
theorem fix_hit (x : Inv am len st rows o0 o1 o2) (w : Win len m1 rows o0 o2) (hl : 300 ≤ len) (hs : st.s = 1) (h1 : m1 ≤ st.m) (h2 : st.m ≤ m1 + 50) (hc1 : 1 ≤ cost) :
    ((o2 = 0 ∨ o0 + len ≤ st.m + 1) → (stGet st).cnt.getD 0 = 0 ∧ (stIncr st cost len).m = st.m + 2 ∧ (stIncr st cost len).s = 1 ∧ Inv am len (stIncr st cost len) rows (st.m + 1) (st.m + 2) (0 + cost)) ∧
    (¬ (o2 = 0 ∨ o0 + len ≤ st.m + 1) → (stGet st).cnt.getD 0 = o2 ∧ (stIncr st cost len).m = st.m + 1 ∧ (stIncr st cost len).s = 1 ∧ Inv am len (stIncr st cost len) rows o0 o1 (o2 + cost)) := by
  have g := get_ok x.fx (by omega : 0 ≤ st.s)
  have gi := x.get (by omega : 0 ≤ st.s)
  have gl := get_live x.fx w hl hs h1 h2
  have gm := g.m
  have gs := g.s
  constructor
  · intro h
    have hz : (if o0 + len > st.m + 1 then o2 else 0) = 0 := by
      split
      · rcases h with h | h
        · exact h
        · omega
      · rfl
    have hc : (stGet st).cnt.getD 0 = 0 := gl.1.trans hz
    have e : stIncr st cost len = { stTick (stIncr1 st cost) with exp := some ((stGet st).m + (stGet st).s + len) } := by
      unfold stIncr; rw [if_pos (by rw [hc]; omega)]
    have em : (stIncr st cost len).m = st.m + 2 := by rw [e]; show (stGet st).m + (stGet st).s = _; omega
    refine ⟨hc, em, by rw [e]; show (stGet st).s = 1; omega, gi.next (by rw [em]; omega) (by rw [e]; rfl) (fun e' h' => by rw [e]; exact h') ?_⟩
    refine .inr ⟨by omega, by omega, by omega, .inl ⟨?_, ?_⟩⟩
    · rw [e]; show some ((stGet st).cnt.getD 0 + cost) = _; rw [hc]
    · rw [e]; show some ((stGet st).m + (stGet st).s + len) = _; congr 1; omega
  · intro h
    have ho : o2 ≠ 0 ∧ o0 + len > st.m + 1 := by omega
    have hc : (stGet st).cnt.getD 0 = o2 := by rw [gl.1, if_pos ho.2]
    have hx : (stGet st).exp = some (o1 + len) := gl.2.1 (by rw [if_pos ho.2]; exact ho.1)
    have e : stIncr st cost len = stIncr1 st cost := by
      unfold stIncr; rw [if_neg (by rw [hc]; omega)]
    have em : (stIncr st cost len).m = st.m + 1 := by rw [e]; show (stGet st).m = _; omega
    refine ⟨hc, em, by rw [e]; show (stGet st).s = 1; omega, gi.next (by rw [em]; omega) (by rw [e]; rfl) (fun e' h' => by rw [e]; exact h') ?_⟩
    rcases x.fx with ⟨a, _⟩ | ⟨a, b, c, _⟩
    · exact absurd a ho.1
    · refine .inr ⟨by omega, b, by rw [em]; omega, .inl ⟨?_, ?_⟩⟩
      · rw [e]; show some ((stGet st).cnt.getD 0 + cost) = _; rw [hc]
      · rw [e]; exact hx
theorem exp_inv (x : Inv am len st rows o0 o1 o2) (hs : st.s = 1) (e : ExpOk len st st') : Inv am len st' rows o0 o1 o2 ∧ st.m ≤ st'.m ∧ st'.m ≤ st.m + 2 ∧ st'.s = 1 := by
  obtain ⟨m2, h1, h2⟩ := e.r
  have hm2 : st.m ≤ m2 ∧ m2 ≤ st.m + 1 := by rcases h1 with ⟨_, _, h⟩ | ⟨_, h, _⟩ <;> omega
  have hm : m2 ≤ st'.m ∧ st'.m ≤ m2 + 1 := by rcases h2 with ⟨_, _, _, h⟩ | ⟨_, _, h, _⟩ <;> omega
  refine ⟨⟨x.asc, x.pos, fun r hr => by have := x.past r hr; omega, ?_, ?_, ?_, x.cle, ?_⟩, by omega, by omega, by rw [e.s]; exact hs⟩
  · refine Int.le_trans (cs_filter x.pos fun r hr h => ?_) x.sum
    unfold liveAt at h ⊢
    simp only [decide_eq_true_eq] at h ⊢
    omega
  · obtain ⟨k, h3, h4⟩ := x.evs
    rcases h1 with ⟨a, b, _⟩ | ⟨_, _, r, hr, b, c⟩
    · refine ⟨k, ?_, fun y hy => by have := h4 y hy; omega⟩
      rw [← h3]; unfold esA; rw [a, b]
    · refine ⟨min r k, ?_, fun y hy => ?_⟩
      · unfold esA at h3 ⊢
        rw [b, List.map_take, h3, List.take_take]
      · rcases Nat.lt_or_ge r k with h | h
        · rw [Nat.min_eq_left (by omega)] at hy
          have hlen : (esOf st).length = min k (full rows).length := by
            have := congrArg List.length h3
            unfold esA at this
            rw [List.length_map, List.length_take] at this
            exact this
          obtain ⟨i, hi, rfl⟩ := List.mem_iff_getElem.mp hy
          rw [List.length_drop] at hi
          rw [List.getElem_drop]
          by_cases hik : r + i < k
          · have hlt : r + i < (esOf st).length := by rw [hlen]; omega
            have e1 : (esOf st)[r + i]? = some (esOf st)[r + i] := List.getElem?_eq_getElem hlt
            have c' := (c (r + i) _ e1)
            have e2 : ((esOf st)[r + i]).at_ = (full rows)[r + i] := by
              have : (esA st)[r + i]? = (full rows)[r + i]? := by rw [h3, List.getElem?_take_of_lt hik]
              unfold esA at this
              rw [List.getElem?_map, e1, List.getElem?_eq_getElem (by omega)] at this
              exact Option.some.inj this
            rw [← e2]
            omega
          · have hm : (full rows)[r + i] ∈ (full rows).drop k := by
              rw [List.mem_iff_getElem]
              refine ⟨r + i - k, by rw [List.length_drop]; omega, ?_⟩
              rw [List.getElem_drop]
              congr 1; omega
            have := h4 _ hm
            omega
        · rw [Nat.min_eq_right h] at hy
          have := h4 y hy
          omega
  · intro e' h
    rw [e.ents]
    rcases h1 with ⟨_, b, _⟩ | ⟨_, _, r, _, b, _⟩
    · rw [b] at h; cases h
    · rw [b] at h; exact x.sub e' (List.mem_of_mem_take h)
  · rcases x.fx with ⟨a, b, c, d, f⟩ | ⟨a, b, c, d⟩
    · rcases h2 with ⟨_, i, j, _⟩ | ⟨y, i, _⟩
      · exact .inl ⟨a, b, c, j.trans d, i⟩
      · rw [f] at i; cases i
    · refine .inr ⟨a, b, by omega, ?_⟩
      rcases d with ⟨d, f⟩ | ⟨d, f, g⟩
      · rcases h2 with ⟨i, _⟩ | ⟨y, i, _, ⟨j, k1, k2⟩ | ⟨j, k1, k2⟩⟩
        · rw [f] at i; cases i
        · rw [f] at i; cases i
          exact .inr ⟨k1, k2, j⟩
        · exact .inl ⟨k1.trans d, k2.trans f⟩
      · rcases h2 with ⟨_, i, j, _⟩ | ⟨y, i, _⟩
        · exact .inr ⟨j.trans d, i, by omega⟩
        · rw [f] at i; cases i
end Mine

/-! H1 -/
namespace Mine
section
variable {c : Cx} {A : Around} {h : Heap} {k : Nat} {a b : Int} {t u : Tok}
theorem oMod {Q : Value → Heap → Nat → Prop} (hb : 0 < b) (q : ∀ t' k', Q (.int (a % b) t') h k') : Go c A (binaryOp .Mod (.int a t) (.int b u)) h k Q := by
  refine PySem.AutoIntOps.mod_1 (by simp; omega) ?_
  rw [Int.fmod_eq_emod_of_nonneg a (by omega)]
  exact ⟨_, _, rfl, q _ _⟩
theorem oDiv {Q : Value → Heap → Nat → Prop} (hb : 0 < b) (hb2 : b < 1073741824) (q : ∀ t' k', Q (.int (a / b) t') h k') : Go c A (binaryOp .FloorDiv (.int a t) (.int b u)) h k Q := by
  refine PySem.AutoIntOps.floordiv_1 (by simp; omega) (by rw [PyProof.noPylong_small (by omega)]; decide) ?_
  rw [Int.fdiv_eq_ediv_of_nonneg a (by omega)]
  exact ⟨_, _, rfl, q _ _⟩
theorem oPow30 {Q : Value → Heap → Nat → Prop} (q : ∀ t' k', Q (.int (10 ^ 30) t') h k') : Go c A (binaryOp .Pow (.int 10 t) (.int 30 u)) h k Q := by
  refine PySem.AutoIntOps.pow_4 (by decide) (by decide) (by decide) (by decide) (by decide +kernel) ?_
  exact ⟨_, _, rfl, q _ _⟩
theorem oPow25 {Q : Value → Heap → Nat → Prop} (q : ∀ t' k', Q (.int (10 ^ 25) t') h k') : Go c A (binaryOp .Pow (.int 10 t) (.int 25 u)) h k Q := by
  refine PySem.AutoIntOps.pow_4 (by decide) (by decide) (by decide) (by decide) (by decide +kernel) ?_
  exact ⟨_, _, rfl, q _ _⟩
theorem mul_small {a b : Int} (h : a.natAbs ≤ 10000) : IntMulOk a b := by
  exact IntMulOk.of_left (intBits_le_64 (by omega) (by omega))
end
def lawScope : Scope := match pg.main.body.getLast? with
  | some (.FunctionDef _ _ _ _ _ _ s _ _ _) => s
  | _ => default
def stAt (l : List Stmt) (i : Nat) : Stmt := (l[i]?).getD (.Pass ⟨0, 0, 0, 0⟩)
def forOf : Stmt → List Stmt
  | .For _ _ b _ _ => b
  | _ => []
def forBody : List Stmt := forOf (stAt lawBody 14)
def turnBody : List Stmt := forOf (stAt forBody 7)
def endBody : List Stmt := forOf (stAt lawBody 19)
theorem fb_len : forBody.length = 8 ∧ turnBody.length = 12 ∧ endBody.length = 12 ∧ lawBody.length = 21 := by decide +kernel
/-! the names of the law -/
section
variable {env : Env}
theorem kOf {x : Str} {k : Option NameKind} (h : env.scope = lawScope) (e : lawScope.names.lookup x = k) : env.kindOf x = k := by
  unfold Env.kindOf; rw [h]; exact e
end
theorem n_script : lawScope.names.lookup (Str.ofString "script") = some NameKind.local := by decide +kernel
theorem n_first : lawScope.names.lookup (Str.ofString "first") = some NameKind.local := by decide +kernel
theorem n_amount : lawScope.names.lookup (Str.ofString "amount") = some NameKind.local := by decide +kernel
theorem n_length : lawScope.names.lookup (Str.ofString "length") = some NameKind.cell := by decide +kernel
theorem n_item : lawScope.names.lookup (Str.ofString "item") = some NameKind.local := by decide +kernel
theorem n_clock : lawScope.names.lookup (Str.ofString "clock") = some NameKind.local := by decide +kernel
theorem n_store : lawScope.names.lookup (Str.ofString "store") = some NameKind.local := by decide +kernel
theorem n_fixed : lawScope.names.lookup (Str.ofString "fixed") = some NameKind.local := by decide +kernel
theorem n_moving : lawScope.names.lookup (Str.ofString "moving") = some NameKind.local := by decide +kernel
theorem n_who : lawScope.names.lookup (Str.ofString "who") = some NameKind.local := by decide +kernel
theorem n_opened : lawScope.names.lookup (Str.ofString "opened") = some NameKind.local := by decide +kernel
theorem n_log : lawScope.names.lookup (Str.ofString "log") = some NameKind.local := by decide +kernel
theorem n_kept : lawScope.names.lookup (Str.ofString "kept") = some NameKind.local := by decide +kernel
theorem n_n : lawScope.names.lookup (Str.ofString "n") = some NameKind.local := by decide +kernel
theorem n_cost : lawScope.names.lookup (Str.ofString "cost") = some NameKind.local := by decide +kernel
theorem n_verb : lawScope.names.lookup (Str.ofString "verb") = some NameKind.local := by decide +kernel
theorem n_begun : lawScope.names.lookup (Str.ofString "begun") = some NameKind.cell := by decide +kernel
theorem n_room : lawScope.names.lookup (Str.ofString "room") = some NameKind.local := by decide +kernel
theorem n_let : lawScope.names.lookup (Str.ofString "let") = some NameKind.local := by decide +kernel
theorem n_turn : lawScope.names.lookup (Str.ofString "turn") = some NameKind.local := by decide +kernel
theorem n_start : lawScope.names.lookup (Str.ofString "start") = some NameKind.cell := by decide +kernel
theorem n_live : lawScope.names.lookup (Str.ofString "live") = some NameKind.local := by decide +kernel
theorem n_inside : lawScope.names.lookup (Str.ofString "inside") = some NameKind.local := by decide +kernel
theorem n_here : lawScope.names.lookup (Str.ofString "here") = some NameKind.local := by decide +kernel
theorem n_stats : lawScope.names.lookup (Str.ofString "stats") = some NameKind.local := by decide +kernel
theorem n_want : lawScope.names.lookup (Str.ofString "want") = some NameKind.local := by decide +kernel
theorem n_ends : lawScope.names.lookup (Str.ofString "ends") = some NameKind.local := by decide +kernel
theorem n_moment : lawScope.names.lookup (Str.ofString "moment") = some NameKind.cell := by decide +kernel
theorem n_step : lawScope.names.lookup (Str.ofString "step") = some NameKind.cell := by decide +kernel
theorem n_Item : lawScope.names.lookup (Str.ofString "RateLimitItemPerMinute") = some NameKind.globalImplicit := by decide +kernel
theorem n_Sto : lawScope.names.lookup (Str.ofString "MemoryStorage") = some NameKind.globalImplicit := by decide +kernel
theorem n_Fix : lawScope.names.lookup (Str.ofString "FixedWindowRateLimiter") = some NameKind.globalImplicit := by decide +kernel
theorem n_Mov : lawScope.names.lookup (Str.ofString "MovingWindowRateLimiter") = some NameKind.globalImplicit := by decide +kernel
theorem n_settle : lawScope.names.lookup (Str.ofString "_law_settle") = some NameKind.globalImplicit := by decide +kernel
theorem n_sum : lawScope.names.lookup (Str.ofString "sum") = some NameKind.globalImplicit := by decide +kernel
theorem n_range : lawScope.names.lookup (Str.ofString "range") = some NameKind.globalImplicit := by decide +kernel
theorem n_max : lawScope.names.lookup (Str.ofString "max") = some NameKind.globalImplicit := by decide +kernel
theorem n_told : lawScope.names.lookup (Str.ofString "_law_told") = some NameKind.globalImplicit := by decide +kernel
theorem n_min : lawScope.names.lookup (Str.ofString "min") = some NameKind.globalImplicit := by decide +kernel
end Mine

/-! H2 -/
namespace Mine
structure LK (c : Cx) (A : Around) (h₀ : Heap) (mg mb : Str → Option Value) (env : Env) (L : Addr) (ad : Ad) : Prop where
  b : Base (hd.heap_1 c.w.params) mg mb h₀
  n : EnvOk env L
  hA : A.handled = none
  dl : A.depth < 500
  hu : A.units < 5000
  fr : A.frames = some [env]
  fL : env.frame = some L
  ok : KeyOk ad
  sc : env.scope = lawScope
  ce : env.cells = [(Str.ofString "step", L + 5), (Str.ofString "moment", L + 4), (Str.ofString "start", L + 3), (Str.ofString "begun", L + 2), (Str.ofString "length", L + 1)]
  cM : ad.cM = L + 4
  cS : ad.cS = L + 5
structure Fz where
  (sc fi : Value)
  (ta : Tok)
  (n cost verb room let_ turn live inside here stats want ends : Option Value)
def lf (ad : Ad) (z : Fz) (O G D : Addr) : Fv :=
  [(Str.ofString "script", some z.sc), (Str.ofString "first", some z.fi), (Str.ofString "amount", some (.int ad.amt z.ta)), (Str.ofString "item", some (.ref ad.it)), (Str.ofString "clock", some (.ref ad.clk)), (Str.ofString "store", some (.ref ad.st)),
   (Str.ofString "fixed", some (.ref ad.fx)), (Str.ofString "moving", some (.ref ad.mv)), (Str.ofString "who", some (.ref ad.who)), (Str.ofString "opened", some (.ref O)), (Str.ofString "log", some (.ref G)), (Str.ofString "kept", some (.ref D)),
   (Str.ofString "n", z.n), (Str.ofString "cost", z.cost), (Str.ofString "verb", z.verb), (Str.ofString "room", z.room), (Str.ofString "let", z.let_), (Str.ofString "turn", z.turn), (Str.ofString "live", z.live), (Str.ofString "inside", z.inside),
   (Str.ofString "here", z.here), (Str.ofString "stats", z.stats), (Str.ofString "want", z.want), (Str.ofString "ends", z.ends)]
section
variable {ad : Ad} {z : Fz} {O G D : Addr} {v : Value}
theorem f_n : SetF (Str.ofString "n") v (lf ad z O G D) (lf ad { z with n := some v } O G D) := .s (.s (.s (.s (.s (.s (.s (.s (.s (.s (.s (.s .z)))))))))))
theorem f_cost : SetF (Str.ofString "cost") v (lf ad z O G D) (lf ad { z with cost := some v } O G D) := .s (.s (.s (.s (.s (.s (.s (.s (.s (.s (.s (.s (.s .z))))))))))))
theorem f_verb : SetF (Str.ofString "verb") v (lf ad z O G D) (lf ad { z with verb := some v } O G D) := .s (.s (.s (.s (.s (.s (.s (.s (.s (.s (.s (.s (.s (.s .z)))))))))))))
theorem f_room : SetF (Str.ofString "room") v (lf ad z O G D) (lf ad { z with room := some v } O G D) := .s (.s (.s (.s (.s (.s (.s (.s (.s (.s (.s (.s (.s (.s (.s .z))))))))))))))
theorem f_let : SetF (Str.ofString "let") v (lf ad z O G D) (lf ad { z with let_ := some v } O G D) := .s (.s (.s (.s (.s (.s (.s (.s (.s (.s (.s (.s (.s (.s (.s (.s .z)))))))))))))))
theorem f_turn : SetF (Str.ofString "turn") v (lf ad z O G D) (lf ad { z with turn := some v } O G D) := .s (.s (.s (.s (.s (.s (.s (.s (.s (.s (.s (.s (.s (.s (.s (.s (.s .z))))))))))))))))
theorem f_live : SetF (Str.ofString "live") v (lf ad z O G D) (lf ad { z with live := some v } O G D) := .s (.s (.s (.s (.s (.s (.s (.s (.s (.s (.s (.s (.s (.s (.s (.s (.s (.s .z)))))))))))))))))
theorem f_inside : SetF (Str.ofString "inside") v (lf ad z O G D) (lf ad { z with inside := some v } O G D) := .s (.s (.s (.s (.s (.s (.s (.s (.s (.s (.s (.s (.s (.s (.s (.s (.s (.s (.s .z))))))))))))))))))
theorem f_here : SetF (Str.ofString "here") v (lf ad z O G D) (lf ad { z with here := some v } O G D) := .s (.s (.s (.s (.s (.s (.s (.s (.s (.s (.s (.s (.s (.s (.s (.s (.s (.s (.s (.s .z)))))))))))))))))))
theorem f_stats : SetF (Str.ofString "stats") v (lf ad z O G D) (lf ad { z with stats := some v } O G D) := .s (.s (.s (.s (.s (.s (.s (.s (.s (.s (.s (.s (.s (.s (.s (.s (.s (.s (.s (.s (.s .z))))))))))))))))))))
theorem f_want : SetF (Str.ofString "want") v (lf ad z O G D) (lf ad { z with want := some v } O G D) := .s (.s (.s (.s (.s (.s (.s (.s (.s (.s (.s (.s (.s (.s (.s (.s (.s (.s (.s (.s (.s (.s .z)))))))))))))))))))))
theorem f_ends : SetF (Str.ofString "ends") v (lf ad z O G D) (lf ad { z with ends := some v } O G D) := .s (.s (.s (.s (.s (.s (.s (.s (.s (.s (.s (.s (.s (.s (.s (.s (.s (.s (.s (.s (.s (.s (.s .z))))))))))))))))))))))
theorem f_opened {O' : Addr} : SetF (Str.ofString "opened") (.ref O') (lf ad z O G D) (lf ad z O' G D) := .s (.s (.s (.s (.s (.s (.s (.s (.s .z))))))))
end
def rvals (r : Rw) : List Value := [.int r.b r.t, .int (r.b + 1) r.u, .int r.c r.v]
def rowIt (r : Rw) : It := (r.a, TupV (rvals r))
structure Lz where
  (L : Addr)
  (len : Int)
  (tl : Tok)
  (vb vt : Option Value)
  (O G D : Addr)
  (o0 o1 o2 : Int)
  (rows : List Rw)
  (xs : List Kx)
def TabG (o : Obj) : Prop := ∃ ps, o = tabObj ps
def lrB (w : World) (ad : Ad) (z : Fz) (y : Lz) : List It :=
  [(y.L, Frm (lf ad z y.O y.G y.D)), (y.L + 1, CellIs (some (.int y.len y.tl))), (y.L + 2, CellIs y.vb), (y.L + 3, CellIs y.vt), (y.O, LstI [y.o0, y.o1, y.o2]), (y.G, LstV (y.rows.map fun r => Value.ref r.a)), (935, TabG)]
def lr0 (w : World) (ad : Ad) (z : Fz) (y : Lz) : List It := lrB w ad z y ++ (y.rows.map rowIt ++ kIt w y.D y.xs)
abbrev lr (w : World) (ad : Ad) (z : Fz) (y : Lz) (l : List It) : List It := lr0 w ad z y ++ l
section
variable {c : Cx} {A : Around} {h₀ h : Heap} {k : Nat} {l l' : List It} {env : Env} {mg mb : Str → Option Value} {ad : Ad} {st : St} {z : Fz} {y : Lz} {L : Addr}
theorem rr {α : Type} {x : α} {a b : List α} (h : x ∈ b) : x ∈ a ++ b := List.mem_append_right _ h
theorem Led.back {x : It} {P R l : List It} (w : Led h₀ h (x :: (P ++ (R ++ l)))) : Led h₀ h (P ++ (R ++ x :: l)) := by
  refine w.perm ?_
  rw [← List.append_assoc, ← List.append_assoc]
  exact List.perm_middle.symm
theorem Led.front {x : It} {P R l : List It} (w : Led h₀ h (P ++ (R ++ x :: l))) : Led h₀ h (x :: (P ++ (R ++ l))) := by
  refine w.perm ?_
  rw [← List.append_assoc, ← List.append_assoc]
  exact List.perm_middle
abbrev Lw (c : Cx) (h₀ : Heap) (ad : Ad) (h : Heap) (st : St) (z : Fz) (y : Lz) (l : List It) : Prop := W c h₀ ad h st (lr c.w ad z y l)
/-- a reading of moment[0] -/
theorem eMoment {p1 p2 p3 : Pos} {kd : Nat} {Q : Value → Heap → Nat → Prop} (K : LK c A h₀ mg mb env L ad) (w : Led h₀ h l) (m1 : (ad.cM, CellIs (some (.ref ad.M))) ∈ l) (m2 : (ad.M, LstI [st.m]) ∈ l) (q : ∀ t k', Q (.int st.m t) h k')
    (hs : ∀ t : Tok, subscripted (.Constant (.int 0) kd p2) false (.ref ad.M) (.int 0 t) = operate [.ref ad.M, .int 0 t] (getItem (.ref ad.M) (.int 0 t)) := by intro t; with_unfolding_all rfl) :
    Go c A (eval (.Subscript (.Name "moment" p1) (.Constant (.int 0) kd p2) p3) env) h k Q :=
  eSub (nameC w K.n (kOf K.sc n_moment) (by rw [K.ce, K.cM]; rfl) m1 (eInt fun _ _ => subI w m2 (by decide) (by decide) rfl (fun t => q t _) (hs _)))
end
end Mine

/-! H3 -/
namespace Mine
section
variable {c : Cx} {A : Around} {h₀ h : Heap} {k : Nat} {l l' : List It} {env : Env} {mg mb : Str → Option Value} {ad : Ad} {st : St} {z : Fz} {y : Lz}
theorem eLen {p : Pos} {Q : Value → Heap → Nat → Prop} (K : LK c A h₀ mg mb env y.L ad) (w : Led h₀ h l) (m : (y.L + 1, CellIs (some (.int y.len y.tl))) ∈ l) (q : Q (.int y.len y.tl) h k) : Go c A (eval (.Name "length" p) env) h k Q :=
  nameC w K.n (kOf K.sc n_length) (by rw [K.ce]; rfl) m q
theorem sA {nv : Int} {tn : Tok} {rest : List Stmt} {Q : Flow → Heap → Nat → Prop} (K : LK c A h₀ mg mb env y.L ad) (w : Lw c h₀ ad h st z y l) (hlen : 300 ≤ y.len ∧ y.len ≤ 1200) (hn : z.n = some (.int nv tn))
    (q : ∀ inc h k, 0 ≤ inc → Lw c h₀ ad h { st with m := st.m + inc } z y l → Go c A (execs rest env) h k Q) : Go c A (execs (stAt forBody 0 :: rest) env) h k Q := by
  have hm : (Str.ofString "n", some (.int nv tn)) ∈ lf ad z y.O y.G y.D := by unfold lf; rw [hn]; exact t12 t0
  refine xSetItem (eBin (eMoment (st := st) K w (t2 t0) t0 fun t k => eSub (eLst (h₀ := h₀) ?_)))
  have mL : (y.L + 1, CellIs (some (.int y.len y.tl))) ∈ core c.w ad st ++ lr c.w ad z y l := rr (t1 t0)
  have mF : (y.L, Frm (lf ad z y.O y.G y.D)) ∈ core c.w ad st ++ lr c.w ad z y l := rr t0
  refine aCons (eInt fun a0 k => aCons (eInt fun a1 k => aCons (eBin (eLen K w mL (eInt fun a2 k => oDiv (by decide) (by decide) fun b2 k => ?_)))))
  refine aCons (eBin (eLen K w mL (eInt fun a3 k => oSub fun b3 k => aCons (eLen K w mL ?_))))
  refine aCons (eBin (eInt fun a4 k => eLen K w mL (oMul (mul_small (by decide)) fun b4 k => ?_)))
  refine aCons (eInt fun a5 k => aCons (eBin (eBin (nameL w K.n (kOf K.sc n_n) mF hm (eInt fun a6 k => oDiv (by decide) (by decide) fun b6 k => ?_)))))
  refine eBin (eInt fun a7 k => eInt fun a8 k => oPow25 fun b8 k => oMod (by decide) fun b7 k => aNil ?_)
  refine ⟨_, w, by rw [sizeLine_eq]; show 8 ≤ 16777216; decide, fun T h w => ?_⟩
  refine eBin (nameL w K.n (kOf K.sc n_n) (t1 mF) hm (eInt fun a9 k => oMod (by decide) fun b9 k => ?_))
  have hI : IntsAre [.int 0 a0, .int 130 a1, .int (y.len / 2) b2, .int (y.len - 130) b3, .int y.len y.tl, .int (2 * y.len) b4, .int 7 a5, .int (nv / 8 % 10 ^ 25) b7] [0, 130, y.len / 2, y.len - 130, y.len, 2 * y.len, 7, nv / 8 % 10 ^ 25] :=
    .cons _ _ (.cons _ _ (.cons _ _ (.cons _ _ (.cons _ _ (.cons _ _ (.cons _ _ (.cons _ _ .nil)))))))
  have hpos : ∀ x ∈ [0, 130, y.len / 2, y.len - 130, y.len, 2 * y.len, 7, nv / 8 % 10 ^ 25], 0 ≤ x := by
    intro x hx
    simp only [List.mem_cons, List.not_mem_nil, or_false] at hx
    rcases hx with rfl | rfl | rfl | rfl | rfl | rfl | rfl | rfl <;> omega
  have hlt : (nv % 8).toNat < ([0, 130, y.len / 2, y.len - 130, y.len, 2 * y.len, 7, nv / 8 % 10 ^ 25] : List Int).length := by
    show (nv % 8).toNat < 8; omega
  generalize hvs : [0, 130, y.len / 2, y.len - 130, y.len, 2 * y.len, 7, nv / 8 % 10 ^ 25] = ns at hI hpos hlt
  obtain ⟨t', ht⟩ := hI.get (nv % 8).toNat _ (List.getElem?_eq_getElem hlt)
  have hinc : 0 ≤ ns[(nv % 8).toNat] := hpos _ (List.getElem_mem hlt)
  generalize ns[(nv % 8).toNat] = inc at ht hinc
  refine subL w t0 (by show 8 < 2 ^ 62; decide) (.inl ⟨by omega, ht⟩) (oAdd fun b10 k => ?_)
  refine nameC w K.n (kOf K.sc n_moment) (by rw [K.ce, K.cM]; rfl) (t1 (t2 t0)) (eInt fun a10 k => setI (is' := [st.m + inc]) w (.s .z) (by decide) (by decide) (by show (0 : Int) < 1; decide) rfl fun h w => ?_)
  exact q inc h _ hinc w.drop
end
end Mine

/-! H4 -/
namespace Mine
theorem fillH4 : PySem.Challenge.rw_bn0041_01 = PySem.Challenge.rw_bn0041_01 ∧ hd.heap_1 = hd.heap_1 := by
  k_fill
  exact ⟨rfl, rfl⟩
theorem SpIn.snoc {l : List It} {vs : List Value} {sp : List Sp} {T : Addr} {b d : Int} {t u : Tok} (S : SpIn l vs sp) (hm : (T, TupV [.int b t, .int d u]) ∈ l) : SpIn l (vs ++ [.ref T]) (sp ++ [(b, d)]) := by
  induction S with
  | nil => exact .cons hm .nil
  | cons h _ ih => exact .cons h ih
theorem spans_asc {rows : List Rw} (h : Asc rows) : (spans rows).Pairwise fun a b => a.1 < b.1 := by
  unfold spans
  rw [List.pairwise_map]
  exact h.imp fun {a b} h => by dsimp only; omega
section
variable {c : Cx} {A : Around} {h₀ h : Heap} {k : Nat} {l l' : List It} {env : Env} {mg mb : Str → Option Value} {ad : Ad} {st : St} {z : Fz} {y : Lz}
theorem rowMem {r : Rw} (hr : r ∈ y.rows) : (r.a, TupV (rvals r)) ∈ core c.w ad st ++ lr c.w ad z y l := rr (List.mem_append_left _ (rr (List.mem_append_left _ (List.mem_map.mpr ⟨r, hr, rfl⟩))))
theorem behind3 {a b d x : It} {l : List It} (w : Led h₀ h (x :: a :: b :: d :: l)) : Led h₀ h (a :: b :: d :: x :: l) := w.perm (List.perm_middle (l₁ := [a, b, d])).symm
theorem sB {rest : List Stmt} {Q : Flow → Heap → Nat → Prop} (K : LK c A h₀ mg mb env y.L ad) (w : Lw c h₀ ad h st z y l) (asc : Asc y.rows) (hn : y.rows.length < 10) (ho : y.o0 ≤ y.o1)
    (q : ∀ m' h k, st.m ≤ m' → (∀ s ∈ (y.o0, y.o1) :: spans y.rows, Away y.len m' s) → Lw c h₀ ad h { st with m := m' } z y l → Go c A (execs rest env) h k Q) : Go c A (execs (stAt forBody 1 :: rest) env) h k Q := by
  have b := K.b
  have mF : (y.L, Frm (lf ad z y.O y.G y.D)) ∈ core c.w ad st ++ lr c.w ad z y l := rr t0
  have mL : (y.L + 1, CellIs (some (.int y.len y.tl))) ∈ core c.w ad st ++ lr c.w ad z y l := rr (t1 t0)
  have mO : (y.O, LstI [y.o0, y.o1, y.o2]) ∈ core c.w ad st ++ lr c.w ad z y l := rr (t4 t0)
  have mG : (y.G, LstV (y.rows.map fun r => Value.ref r.a)) ∈ core c.w ad st ++ lr c.w ad z y l := rr (t5 t0)
  refine xSetItem (eCallN (nameG b w K.n (kOf K.sc n_settle) (by k_is) (cwF ?_)))
  refine aCons (eMoment (st := st) K w (t2 t0) t0 fun t k => aCons (eBin (eLst (h₀ := h₀) (aCons (eTup (h₀ := h₀) ?_)))))
  refine aCons (eSub (nameL w K.n (kOf K.sc n_opened) mF (t9 t0) (eInt fun _ k => subI w mO (by decide) (by decide) rfl fun u0 => ?_)))
  refine aCons (eSub (nameL w K.n (kOf K.sc n_opened) mF (t9 t0) (eInt fun _ k => subI w mO (by decide) (by decide) rfl fun u1 => aNil ?_)))
  refine ⟨_, w, by rw [sizeLine_eq]; show 2 ≤ 16777216; decide, fun T0 h w => aNil ⟨_, w, by rw [sizeLine_eq]; show 1 ≤ 16777216; decide, fun Tl h w => ?_⟩⟩
  have hz : (y.rows.map fun r => Value.ref r.a).length ≤ sizeLine := by rw [List.length_map, sizeLine_eq]; omega
  refine eComp (h₀ := h₀) (cl := []) K.hA (by rfl) (by decide +kernel) (by rfl) (by decide +kernel) (by rfl) ?_ ?_
  · exact fun i ys l' => ∃ its, l' = its ++ ((Tl, LstV [.ref T0]) :: (T0, TupV [.int y.o0 u0, .int y.o1 u1]) :: (core c.w ad st ++ lr c.w ad z y l)) ∧ SpIn its ys ((spans y.rows).take i) ∧ ys.length = i
  refine nameL w K.n (kOf K.sc n_log) (t2 mF) (t10 t0) ⟨y.G, _, _, rfl, w, t2 mG, hz, ⟨[], rfl, .nil, rfl⟩, ?_, ?_⟩
  · rintro C D it i v ys h k l' hv w hm ⟨its, rfl, hS, hl⟩
    rw [List.getElem?_map] at hv
    obtain ⟨r, hr, rfl⟩ := Option.map_eq_some_iff.mp hv
    refine Go.pure ?_
    rw [if_pos rfl]
    generalize hce : compEnvC _ _ C env = cenv
    have nC : EnvOk cenv C := by rw [← hce]; exact ⟨rfl, rfl, K.n.g, K.n.b⟩
    have kR : cenv.kindOf (Str.ofString "row") = some .local := by rw [← hce]; rfl
    have mR : (r.a, TupV (rvals r)) ∈ (it, IterP y.G (i + 1)) :: (C, Frm [(Str.ofString "row", some (.ref r.a))]) :: (D, LstV ys) :: (its ++ ((Tl, LstV [.ref T0]) :: (T0, TupV [.int y.o0 u0, .int y.o1 u1]) :: (core c.w ad st ++ lr c.w ad z y l))) :=
      t3 (rr (t2 (rowMem (List.mem_of_getElem? hr))))
    refine eTup (h₀ := h₀) (aCons (eSub (nameL w nC kR (t1 t0) t0 (eInt fun _ k => subT (i := 0) w mR (by decide) rfl ?_))))
    refine aCons (eSub (nameL w nC kR (t1 t0) t0 (eInt fun _ k => subT (i := 1) w mR (by decide) rfl (aNil ⟨_, w, by rw [sizeLine_eq]; show 2 ≤ 16777216; decide, fun T h w => ?_⟩))))
    refine ⟨(T, TupV [.int r.b r.t, .int (r.b + 1) r.u]) :: (its ++ _), behind3 w, t1 hm, (T, TupV [.int r.b r.t, .int (r.b + 1) r.u]) :: its, rfl, ?_, by rw [List.length_append, hl]; rfl⟩
    have hsp : (spans y.rows)[i]? = some (r.b, r.b + 1) := by unfold spans; rw [List.getElem?_map, hr]; rfl
    rw [List.take_add_one, hsp]
    exact (hS.sub fun p hp => t1 hp).snoc t0
  · rintro D ys h k l' w ⟨its, rfl, hS, hl⟩
    rw [List.length_map] at hS hl
    have hS : SpIn its ys (spans y.rows) := by
      rw [List.take_of_length_le (by unfold spans; rw [List.length_map]; exact Nat.le_refl _)] at hS; exact hS
    refine oAddL w (t1 (rr t0)) t0 (by show 1 + ys.length ≤ 1000000; omega) fun S h w => ?_
    refine aCons (nameC w K.n (kOf K.sc n_length) (by rw [K.ce]; rfl) (t2 (rr (t2 mL))) (aNil ⟨keepK b w (by k_is), Go.ofC ?_⟩))
    refine settle_ (x := (y.o0, y.o1)) (Lg := spans y.rows) b w t0 (.cons (t2 (rr (t1 t0))) (hS.sub fun p hp => t2 (List.mem_append_left _ hp))) (spans_asc asc) (by unfold spans; rw [List.length_map]; exact hn) ?_ (by have := K.dl; omega) K.hA fun m' t h k h1 h2 w => ?_
    · intro s hs
      rcases List.mem_cons.mp hs with rfl | hs
      · exact ho
      · unfold spans at hs
        obtain ⟨r, _, rfl⟩ := List.mem_map.mp hs
        dsimp only; omega
    have w : Led h₀ h (core c.w ad st ++ lr c.w ad z y l) := w.sub (List.Sublist.trans (.cons _ (.cons _ (List.Sublist.refl _))) (List.Sublist.trans (List.sublist_append_right its _) (.cons _ (.cons _ (List.Sublist.refl _)))))
    refine nameC w K.n (kOf K.sc n_moment) (by rw [K.ce, K.cM]; rfl) (t2 t0) (eInt fun a10 k => setI (is' := [m']) w .z (by decide) (by decide) (by show (0 : Int) < 1; decide) rfl fun h w => ?_)
    exact q m' h _ h1 h2 w
theorem sB2 {rest : List Stmt} {Q : Flow → Heap → Nat → Prop} (K : LK c A h₀ mg mb env y.L ad) (w : Lw c h₀ ad h st z y l) (asc : Asc y.rows) (hn : y.rows.length < 10) (ho : y.o0 ≤ y.o1)
    (q : ∀ m' h k, st.m ≤ m' → (∀ s ∈ (y.o0, y.o1) :: spans y.rows, Away y.len m' s) → Lw c h₀ ad h { st with m := m' } z y l → Go c A (execs rest env) h k Q) : Go c A (execs (stAt lawBody 15 :: rest) env) h k Q := by
  have b := K.b
  have mF : (y.L, Frm (lf ad z y.O y.G y.D)) ∈ core c.w ad st ++ lr c.w ad z y l := rr t0
  have mL : (y.L + 1, CellIs (some (.int y.len y.tl))) ∈ core c.w ad st ++ lr c.w ad z y l := rr (t1 t0)
  have mO : (y.O, LstI [y.o0, y.o1, y.o2]) ∈ core c.w ad st ++ lr c.w ad z y l := rr (t4 t0)
  have mG : (y.G, LstV (y.rows.map fun r => Value.ref r.a)) ∈ core c.w ad st ++ lr c.w ad z y l := rr (t5 t0)
  refine xSetItem (eCallN (nameG b w K.n (kOf K.sc n_settle) (by k_is) (cwF ?_)))
  refine aCons (eMoment (st := st) K w (t2 t0) t0 fun t k => aCons (eBin (eLst (h₀ := h₀) (aCons (eTup (h₀ := h₀) ?_)))))
  refine aCons (eSub (nameL w K.n (kOf K.sc n_opened) mF (t9 t0) (eInt fun _ k => subI w mO (by decide) (by decide) rfl fun u0 => ?_)))
  refine aCons (eSub (nameL w K.n (kOf K.sc n_opened) mF (t9 t0) (eInt fun _ k => subI w mO (by decide) (by decide) rfl fun u1 => aNil ?_)))
  refine ⟨_, w, by rw [sizeLine_eq]; show 2 ≤ 16777216; decide, fun T0 h w => aNil ⟨_, w, by rw [sizeLine_eq]; show 1 ≤ 16777216; decide, fun Tl h w => ?_⟩⟩
  have hz : (y.rows.map fun r => Value.ref r.a).length ≤ sizeLine := by rw [List.length_map, sizeLine_eq]; omega
  refine eComp (h₀ := h₀) (cl := []) K.hA (by rfl) (by decide +kernel) (by rfl) (by decide +kernel) (by rfl) ?_ ?_
  · exact fun i ys l' => ∃ its, l' = its ++ ((Tl, LstV [.ref T0]) :: (T0, TupV [.int y.o0 u0, .int y.o1 u1]) :: (core c.w ad st ++ lr c.w ad z y l)) ∧ SpIn its ys ((spans y.rows).take i) ∧ ys.length = i
  refine nameL w K.n (kOf K.sc n_log) (t2 mF) (t10 t0) ⟨y.G, _, _, rfl, w, t2 mG, hz, ⟨[], rfl, .nil, rfl⟩, ?_, ?_⟩
  · rintro C D it i v ys h k l' hv w hm ⟨its, rfl, hS, hl⟩
    rw [List.getElem?_map] at hv
    obtain ⟨r, hr, rfl⟩ := Option.map_eq_some_iff.mp hv
    refine Go.pure ?_
    rw [if_pos rfl]
    generalize hce : compEnvC _ _ C env = cenv
    have nC : EnvOk cenv C := by rw [← hce]; exact ⟨rfl, rfl, K.n.g, K.n.b⟩
    have kR : cenv.kindOf (Str.ofString "row") = some .local := by rw [← hce]; rfl
    have mR : (r.a, TupV (rvals r)) ∈ (it, IterP y.G (i + 1)) :: (C, Frm [(Str.ofString "row", some (.ref r.a))]) :: (D, LstV ys) :: (its ++ ((Tl, LstV [.ref T0]) :: (T0, TupV [.int y.o0 u0, .int y.o1 u1]) :: (core c.w ad st ++ lr c.w ad z y l))) :=
      t3 (rr (t2 (rowMem (List.mem_of_getElem? hr))))
    refine eTup (h₀ := h₀) (aCons (eSub (nameL w nC kR (t1 t0) t0 (eInt fun _ k => subT (i := 0) w mR (by decide) rfl ?_))))
    refine aCons (eSub (nameL w nC kR (t1 t0) t0 (eInt fun _ k => subT (i := 1) w mR (by decide) rfl (aNil ⟨_, w, by rw [sizeLine_eq]; show 2 ≤ 16777216; decide, fun T h w => ?_⟩))))
    refine ⟨(T, TupV [.int r.b r.t, .int (r.b + 1) r.u]) :: (its ++ _), behind3 w, t1 hm, (T, TupV [.int r.b r.t, .int (r.b + 1) r.u]) :: its, rfl, ?_, by rw [List.length_append, hl]; rfl⟩
    have hsp : (spans y.rows)[i]? = some (r.b, r.b + 1) := by unfold spans; rw [List.getElem?_map, hr]; rfl
    rw [List.take_add_one, hsp]
    exact (hS.sub fun p hp => t1 hp).snoc t0
  · rintro D ys h k l' w ⟨its, rfl, hS, hl⟩
    rw [List.length_map] at hS hl
    have hS : SpIn its ys (spans y.rows) := by
      rw [List.take_of_length_le (by unfold spans; rw [List.length_map]; exact Nat.le_refl _)] at hS; exact hS
    refine oAddL w (t1 (rr t0)) t0 (by show 1 + ys.length ≤ 1000000; omega) fun S h w => ?_
    refine aCons (nameC w K.n (kOf K.sc n_length) (by rw [K.ce]; rfl) (t2 (rr (t2 mL))) (aNil ⟨keepK b w (by k_is), Go.ofC ?_⟩))
    refine settle_ (x := (y.o0, y.o1)) (Lg := spans y.rows) b w t0 (.cons (t2 (rr (t1 t0))) (hS.sub fun p hp => t2 (List.mem_append_left _ hp))) (spans_asc asc) (by unfold spans; rw [List.length_map]; exact hn) ?_ (by have := K.dl; omega) K.hA fun m' t h k h1 h2 w => ?_
    · intro s hs
      rcases List.mem_cons.mp hs with rfl | hs
      · exact ho
      · unfold spans at hs
        obtain ⟨r, _, rfl⟩ := List.mem_map.mp hs
        dsimp only; omega
    have w : Led h₀ h (core c.w ad st ++ lr c.w ad z y l) := w.sub (List.Sublist.trans (.cons _ (.cons _ (List.Sublist.refl _))) (List.Sublist.trans (List.sublist_append_right its _) (.cons _ (.cons _ (List.Sublist.refl _)))))
    refine nameC w K.n (kOf K.sc n_moment) (by rw [K.ce, K.cM]; rfl) (t2 t0) (eInt fun a10 k => setI (is' := [m']) w .z (by decide) (by decide) (by show (0 : Int) < 1; decide) rfl fun h w => ?_)
    exact q m' h _ h1 h2 w
end
end Mine

/-! H5 -/
namespace Mine
theorem fillH5 : PySem.Challenge.rw_bn0041_01 = PySem.Challenge.rw_bn0041_01 ∧ hd.heap_1 = hd.heap_1 := by
  k_fill
  exact ⟨rfl, rfl⟩
theorem m_expe (c : Cx) : MethA (hd.heap_1 c.w.params) 917 "expire_events" 819 := ⟨by k_is, by k_is, by k_is⟩
theorem m_fhit (c : Cx) : MethA (hd.heap_1 c.w.params) 280 "hit" 259 := ⟨by k_is, by k_is, by k_is⟩
theorem m_ftest (c : Cx) : MethA (hd.heap_1 c.w.params) 280 "test" 268 := ⟨by k_is, by k_is, by k_is⟩
theorem m_fstats (c : Cx) : MethA (hd.heap_1 c.w.params) 280 "get_window_stats" 277 := ⟨by k_is, by k_is, by k_is⟩
theorem m_mhit (c : Cx) : MethA (hd.heap_1 c.w.params) 241 "hit" 220 := ⟨by k_is, by k_is, by k_is⟩
theorem m_mtest (c : Cx) : MethA (hd.heap_1 c.w.params) 241 "test" 229 := ⟨by k_is, by k_is, by k_is⟩
theorem m_mstats (c : Cx) : MethA (hd.heap_1 c.w.params) 241 "get_window_stats" 238 := ⟨by k_is, by k_is, by k_is⟩
section
variable {c : Cx} {A : Around} {h₀ h : Heap} {k : Nat} {l l' : List It} {env : Env} {mg mb : Str → Option Value} {ad : Ad} {st : St} {z : Fz} {y : Lz}
theorem sC {nv : Int} {tn : Tok} {rest : List Stmt} {Q : Flow → Heap → Nat → Prop} (K : LK c A h₀ mg mb env y.L ad) (w : Lw c h₀ ad h st z y l) (hn : z.n = some (.int nv tn))
    (q : ∀ cost tc verb tv h k, 1 ≤ cost → cost ≤ ad.amt + 1 → Lw c h₀ ad h st { z with cost := some (.int cost tc), verb := some (.int verb tv) } y l → Go c A (execs rest env) h k Q) : Go c A (execs (stAt forBody 2 :: stAt forBody 3 :: rest) env) h k Q := by
  have ha := K.ok.a1
  have ha2 := K.ok.a2
  have hm : (Str.ofString "n", some (.int nv tn)) ∈ lf ad z y.O y.G y.D := by unfold lf; rw [hn]; exact t12 t0
  refine xAssign (eBin (eInt fun t1' k => eBin (eBin (nameL w K.n (kOf K.sc n_n) (rr t0) hm (eInt fun t2' k => oDiv (by decide) (by decide) fun t3' k => ?_)))))
  refine eBin (nameL w K.n (kOf K.sc n_amount) (rr t0) (t2 t0) (eInt fun t4' k => oAdd fun t5' k => oMod (by omega) fun t6' k => oAdd fun tc k => ?_))
  refine storeL w K.n (kOf K.sc n_cost) f_cost (Sw.appL .z _) fun h k w => ?_
  have hm : (Str.ofString "n", some (.int nv tn)) ∈ lf ad { z with cost := some (.int (1 + nv / 32 % (ad.amt + 1)) tc) } y.O y.G y.D := by unfold lf; dsimp only; rw [hn]; exact t12 t0
  refine xAssign (eBin (eBin (nameL w K.n (kOf K.sc n_n) (rr t0) hm (eInt fun t2' k => oDiv (by decide) (by decide) fun t3' k => eInt fun t4' k => oMod (by decide) fun tv k => ?_))))
  refine storeL w K.n (kOf K.sc n_verb) f_verb (Sw.appL .z _) fun h k w => ?_
  exact q _ tc _ tv h k (by have := Int.emod_nonneg (nv / 32) (by omega : ad.amt + 1 ≠ 0); omega) (by have := Int.emod_lt_of_pos (nv / 32) (by omega : 0 < ad.amt + 1); omega) w
theorem sD {vv : Int} {tv : Tok} {rest : List Stmt} {Q : Flow → Heap → Nat → Prop} (K : LK c A h₀ mg mb env y.L ad) (w : Lw c h₀ ad h st z y l) (hv : z.verb = some (.int vv tv)) (hlen : y.len = 60 * ad.mul) (ok : EvOk st) (hes : (esOf st).length ≤ 1000000)
    (q : ∀ st' h k, (st' = st ∨ ExpOk y.len st st') → Lw c h₀ ad h st' z y l → Go c A (execs rest env) h k Q) : Go c A (execs (stAt forBody 4 :: rest) env) h k Q := by
  have b := K.b
  have hm : (Str.ofString "verb", some (.int vv tv)) ∈ lf ad z y.O y.G y.D := by unfold lf; rw [hv]; exact t14 t0
  refine xIf (iCmp (nameL w K.n (kOf K.sc n_verb) (rr t0) hm (eInt fun _ k => oEq (tBool (if_beq (fun he => ?_) fun he => ?_)))))
  · refine xExprV K.n.k ?_
    refine eCallM2 ?_ ?h1 ?h2 ?h3
    case h1 => rfl
    case h2 => rfl
    case h3 => rfl
    refine nameL w K.n (kOf K.sc n_store) (rr t0) (t5 t0) (gMethA b w (t6 t0) (t7 t0) (m_expe c) ?_)
    refine cwF0 (keepK b w (by k_is)) (Go.ofC (expire_ b w (by have := K.dl; omega) K.hA ok hes fun st' h k hx w => ?_))
    exact ⟨fun _ h => (nomatch h), xNil (q st' h k (.inr (hlen ▸ hx)) w)⟩
  · exact xNil (q st h _ (.inl rfl) w)
end
end Mine

/-! H6 -/
namespace Mine
section
variable {c : Cx} {A : Around} {h₀ h : Heap} {k : Nat} {l l' : List It} {env cenv : Env} {a : Addr} {vs : List Value}
theorem oNeB {x y : Bool} {Q : Value → Heap → Nat → Prop} (q : Q (.bool (x != y)) h k) : Go c A (compareOp .NotEq (.bool x) (.bool y)) h k Q := PyProof.Rows.ne_bool ⟨_, _, rfl, q⟩
theorem clos_of {scope : Scope} {env env' : Env} {cl : List (Str × Addr)} (h : env.cells = env'.cells) (e : closureFor scope env' = pure cl) : closureFor scope env = pure cl := by
  rw [← e]; unfold closureFor cellOf; rw [h]
theorem look_cell {env : Env} (hk : env.scope.kind = .function) {x : Str} (hx : env.kindOf x = some .cell) : ∀ {names : List (Str × NameKind)}, names.lookup x = some .free →
    (names.map fun (n, k) => if (k == NameKind.free && env.scope.kind == .function && env.kindOf n == some .cell) then (n, NameKind.cell) else (n, k)).lookup x = some .cell
  | [], h => by simp at h
  | (n, k) :: r, h => by
    have ih := @look_cell env hk x hx r
    show List.lookup x ((if (k == NameKind.free && env.scope.kind == .function && env.kindOf n == some .cell) = true then (n, NameKind.cell) else (n, k)) :: _) = _
    rw [List.lookup_cons] at h
    cases e : x == n with
    | true =>
      rw [e] at h
      cases h
      obtain rfl := eq_of_beq e
      rw [hk, hx, if_pos (by decide), List.lookup_cons, e]
    | false =>
      rw [e] at h
      split
      · rw [List.lookup_cons, e]; exact ih h
      · rw [List.lookup_cons, e]; exact ih h
theorem kind_cell {scope : Scope} {cl : List (Str × Addr)} {C : Addr} {env : Env} {x : Str} (hk : env.scope.kind = .function) (hx : env.kindOf x = some .cell) (h : scope.names.lookup x = some .free) : (compEnvC scope cl C env).kindOf x = some .cell :=
  look_cell hk hx h
theorem ifOne {e : PySem.Expr} {Q : Bool → Heap → Nat → Prop} (x : Go c A (isTrue e cenv (eval e cenv)) h k Q) :
    Go c A (forIn [e] true fun e r => if r = true then do let ok ← isTrue e cenv (eval e cenv); pure (ForInStep.yield ok) else pure (ForInStep.yield r)) h k Q := by
  rw [List.forIn_cons]
  refine Go.bind ?_
  rw [if_pos rfl]
  refine Go.bind (x.mono fun ok h k q => Go.pure ?_)
  dsimp only
  rw [List.forIn_nil]
  exact Go.pure q
theorem mAppend {pl : Sem Bool} {Q : Value × List Value → Heap → Nat → Prop} (w : Led h₀ h l) (hm : (a, LstV vs) ∈ l) (q : Q (.builtin "list.append", [.ref a]) h k) : Go c A (getMethod (.ref a) "append" pl) h k Q := by
  obtain ⟨o, e, n, rfl⟩ := w.get hm
  exact getMethod_list_append (s := c.s h k) e rfl rfl ⟨_, _, rfl, q⟩
theorem gAppend {v : Value} {Q : Value → Heap → Nat → Prop} (w : Led h₀ h l) (sw : Sw a (LstV vs) (LstV (vs ++ [v])) l l') (hz : vs.length ≤ 1000000) (q : ∀ h', Led h₀ h' l' → Q .none h' k) : Go c A (call (.builtin "list.append") [.ref a, v]) h k Q := by
  refine wpAny_list_append_plain (s := c.s h k) (hsz := by rw [List.size_toArray, sizeLine_eq]; omega) (LstV.pl w sw.mem) fun h' hl hs => ⟨h', k, rfl, q h' (w.same sw hs (LstV.of hl (by simp)))⟩
end
end Mine

/-! H7 -/
namespace Mine
theorem fillH7 : PySem.Challenge.rw_bn0041_01 = PySem.Challenge.rw_bn0041_01 ∧ hd.heap_1 = hd.heap_1 := by
  k_fill
  exact ⟨rfl, rfl⟩
def cellsOf (L : Addr) : List (Str × Addr) := [(Str.ofString "step", L + 5), (Str.ofString "moment", L + 4), (Str.ofString "start", L + 3), (Str.ofString "begun", L + 2), (Str.ofString "length", L + 1)]
section
variable {c : Cx} {A : Around} {h₀ h : Heap} {k : Nat} {l l' : List It} {env : Env} {mg mb : Str → Option Value} {ad : Ad} {st : St} {z : Fz} {y : Lz}
theorem frin {l : List It} {vs : Fv} (K : LK c A h₀ mg mb env y.L ad) (hm : (y.L, Frm vs) ∈ l) : FrIn [env] l := by
  intro e he
  rcases List.mem_cons.mp he with rfl | he
  · exact ⟨by rw [K.n.k]; decide, y.L, vs, K.fL, hm⟩
  · cases he
theorem filt_add {P : Rw → Bool} {i : Nat} {r : Rw} {rows : List Rw} (hr : rows[i]? = some r) : (rows.take (i + 1)).filter P = (rows.take i).filter P ++ (if P r = true then [r] else []) := by
  rw [List.take_add_one, hr, List.filter_append]
  congr 1
  show [r].filter P = _
  rw [List.filter_cons]; split <;> rfl
theorem cs_ints {rows : List Rw} {ns : List Int} (h : ns = rows.map (·.c)) : ns.sum = cs rows := by rw [h]; rfl
def bodyOf : Stmt → List Stmt
  | .If _ b _ _ => b
  | _ => []
theorem sE1 {cost : Int} {tc tb : Tok} {Q : Flow → Heap → Nat → Prop} (K : LK c A h₀ mg mb env y.L ad) (w : Lw c h₀ ad h st z y l) (hcst : z.cost = some (.int cost tc)) (hb : y.vb = some (.int (st.m + 1) tb)) (hn : y.rows.length < 9) {rest : List Stmt}
    (q : ∀ tr h k, Lw c h₀ ad h st { z with room := some (.int (ad.amt - cs (y.rows.filter (liveAt y.len (st.m + 1)))) tr) } y l → Go c A (execs rest env) h k Q) :
    Go c A (execs (stAt (bodyOf (stAt forBody 5)) 1 :: rest) env) h k Q := by
  have b := K.b
  have mF : (y.L, Frm (lf ad z y.O y.G y.D)) ∈ core c.w ad st ++ lr c.w ad z y l := rr t0
  have mL : (y.L + 1, CellIs (some (.int y.len y.tl))) ∈ core c.w ad st ++ lr c.w ad z y l := rr (t1 t0)
  have mB : (y.L + 2, CellIs (some (.int (st.m + 1) tb))) ∈ core c.w ad st ++ lr c.w ad z y l := by rw [← hb]; exact rr (t2 t0)
  have mG : (y.G, LstV (y.rows.map fun r => Value.ref r.a)) ∈ core c.w ad st ++ lr c.w ad z y l := rr (t5 t0)
  have hz : (y.rows.map fun r => Value.ref r.a).length ≤ sizeLine := by rw [List.length_map, sizeLine_eq]; omega
  refine xAssign (eBin (nameL w K.n (kOf K.sc n_amount) mF (t2 t0) (eCallN (nameB (v := .builtin "sum") b w K.n (kOf K.sc n_sum) (by k_is) (by decide +kernel) (by decide) (cwB ?_)))))
  refine aCons ?_ ?h1
  case h1 => rfl
  refine eComp (h₀ := h₀) (cl := [(Str.ofString "length", y.L + 1), (Str.ofString "begun", y.L + 2)]) K.hA (clos_of (env' := { env with cells := cellsOf y.L }) K.ce (by rfl)) (by decide +kernel) (by rfl) (by decide +kernel) (by rfl) ?_ ?_
  · exact fun i ys l' => l' = core c.w ad st ++ lr c.w ad z y l ∧ IntsAre ys (((y.rows.take i).filter (liveAt y.len (st.m + 1))).map (·.c))
  refine nameL w K.n (kOf K.sc n_log) mF (t10 t0) ⟨y.G, _, _, rfl, w, mG, hz, ⟨rfl, .nil⟩, ?_, ?_⟩
  · rintro C D it i v ys h k l' hv w hm ⟨rfl, hI⟩
    rw [List.getElem?_map] at hv
    obtain ⟨r, hr, rfl⟩ := Option.map_eq_some_iff.mp hv
    generalize hce : compEnvC _ _ C env = cenv
    have nC : EnvOk cenv C := by rw [← hce]; exact ⟨rfl, rfl, K.n.g, K.n.b⟩
    have kR : cenv.kindOf (Str.ofString "row") = some .local := by rw [← hce]; rfl
    have kB : cenv.kindOf (Str.ofString "begun") = some .cell := by rw [← hce]; exact kind_cell K.n.k (kOf K.sc n_begun) (by rfl)
    have kL : cenv.kindOf (Str.ofString "length") = some .cell := by rw [← hce]; exact kind_cell K.n.k (kOf K.sc n_length) (by rfl)
    have cB : cenv.cells.lookup (Str.ofString "begun") = some (y.L + 2) := by rw [← hce]; rfl
    have cL : cenv.cells.lookup (Str.ofString "length") = some (y.L + 1) := by rw [← hce]; rfl
    have mR : (r.a, TupV (rvals r)) ∈ (it, IterP y.G (i + 1)) :: (C, Frm [(Str.ofString "row", some (.ref r.a))]) :: (D, LstV ys) :: (core c.w ad st ++ lr c.w ad z y l) := t3 (rowMem (List.mem_of_getElem? hr))
    refine ifOne (iCmp (eBin (eSub (nameL w nC kR (t1 t0) t0 (eInt fun _ k => subT (i := 0) w mR (by decide) rfl (nameC w nC kL cL (t3 mL) (oAdd fun _ k => nameC w nC kB cB (t3 mB) (oGt (tBool ?_)))))))))
    have hf := filt_add (P := liveAt y.len (st.m + 1)) hr
    cases hlv : liveAt y.len (st.m + 1) r with
    | true =>
      rw [hlv, if_pos rfl] at hf
      have : decide (r.b + y.len > st.m + 1) = true := hlv
      rw [this, if_pos rfl]
      refine eSub (nameL w nC kR (t1 t0) t0 (eInt fun _ k => subT (i := 2) w mR (by decide) rfl ⟨_, w, hm, rfl, ?_⟩))
      rw [hf, List.map_append]
      exact hI.append (.cons _ _ .nil)
    | false =>
      rw [hlv, if_neg Bool.false_ne_true, List.append_nil] at hf
      have : decide (r.b + y.len > st.m + 1) = false := hlv
      rw [this, if_neg Bool.false_ne_true]
      exact ⟨_, w, hm, rfl, by rw [hf]; exact hI⟩
  rintro D ys h k l' w ⟨rfl, hI⟩
  rw [List.length_map, List.take_length] at hI
  refine aNil (gSum K.hA w t0 hI fun ts h k w => oSub fun tr k => ?_)
  exact storeL w.drop K.n (kOf K.sc n_room) f_room (Sw.appL .z _) fun h k w => q tr h k w
theorem rowSnoc {T : It} {P B R X : List It} (w : Led h₀ h (T :: (P ++ ((B ++ (R ++ X)) ++ l)))) : Led h₀ h (P ++ ((B ++ ((R ++ [T]) ++ X)) ++ l)) := by
  refine w.perm ?_
  have := (List.perm_middle (l₁ := P ++ B ++ R) (l₂ := X ++ l) (a := T)).symm
  simp only [List.append_assoc, List.cons_append, List.nil_append] at this ⊢
  exact this
theorem sE {cost vv m1 : Int} {tc tv : Tok} {rest : List Stmt} {Q : Flow → Heap → Nat → Prop} (K : LK c A h₀ mg mb env y.L ad) (w : Lw c h₀ ad h st z y l) (hv : z.verb = some (.int vv tv)) (hcst : z.cost = some (.int cost tc)) (hlen : y.len = 60 * ad.mul) (hl : 300 ≤ y.len)
    (hc1 : 1 ≤ cost) (hc2 : cost ≤ ad.amt + 1) (hs : st.s = 1) (inv : Inv ad.amt y.len st y.rows y.o0 y.o1 y.o2) (win : Win y.len m1 y.rows y.o0 y.o2) (h1 : m1 ≤ st.m) (h2 : st.m ≤ m1 + 10) (hn : y.rows.length < 9)
    (q : ∀ st' vb room rows h k, Inv ad.amt y.len st' rows y.o0 y.o1 y.o2 → Win y.len m1 rows y.o0 y.o2 → st.m ≤ st'.m → st'.m ≤ st.m + 2 → st'.s = 1 → rows.length ≤ y.rows.length + 1 → Lw c h₀ ad h st' { z with room := room } { y with vb := vb, rows := rows } l → Go c A (execs rest env) h k Q) :
    Go c A (execs (stAt forBody 5 :: rest) env) h k Q := by
  have b := K.b
  have ha := K.ok.a1
  have ha2 := K.ok.a2
  have mV : (Str.ofString "verb", some (.int vv tv)) ∈ lf ad z y.O y.G y.D := by unfold lf; rw [hv]; exact t14 t0
  have skip : ∀ k, Go c A (execs [] env) h k fun f h k => (match f with | .next => Go c A (execs rest env) h k Q | f => Q f h k) := fun k =>
    xNil (q st y.vb z.room y.rows h k inv win (Int.le_refl _) (by omega) hs (Nat.le_succ _) w)
  refine xIf (Go.mono (Q := fun _ h' _ => h' = h) (iOr (iCmp (nameL w K.n (kOf K.sc n_verb) (rr t0) mV (eInt fun _ k => oEq (tBool (if_beq (fun _ => rfl) fun _ => iCmp (nameL w K.n (kOf K.sc n_verb) (rr t0) mV (eInt fun _ k => oEq (tBool rfl))))))))) fun bb h' k' e => ?_)
  subst e
  cases bb with
  | false => exact if_ff (skip _)
  | true =>
  rw [if_pos rfl]
  clear skip
  refine xAssign (eBin (eMoment (st := st) K w (t2 t0) t0 fun t k => eInt fun t' k => oAdd fun tb k => ?_))
  refine storeC w K.n (kOf K.sc n_begun) (by rw [K.ce]; rfl) (Sw.appL (.s (.s .z)) _) fun h w => ?_
  refine sE1 (y := { y with vb := some (.int (st.m + 1) tb) }) K w hcst rfl hn fun tr h k w => ?_
  generalize hroom : ad.amt - cs (y.rows.filter (liveAt y.len (st.m + 1))) = room at w
  have w : Lw c h₀ ad h st { z with room := some (.int room tr) } { y with vb := some (.int (st.m + 1) tb) } l := w
  have mC : (Str.ofString "cost", some (.int cost tc)) ∈ lf ad { z with room := some (.int room tr) } y.O y.G y.D := by unfold lf; dsimp only; rw [hcst]; exact t13 t0
  refine xIf (iCmp ?_)
  refine eCallM2 ?_ ?h1 ?h2 ?h3
  case h1 => rfl
  case h2 => rfl
  case h3 => rfl
  refine nameL w K.n (kOf K.sc n_moving) (rr t0) (t7 t0) (gMethA b w (t16 t0) (t17 t0) (m_mhit c) ?_)
  refine cwF (aCons (nameL w K.n (kOf K.sc n_item) (rr t0) (t3 t0) (aCons (nameL w K.n (kOf K.sc n_who) (rr t0) (t8 t0) (aCons (nameL w K.n (kOf K.sc n_cost) (rr t0) mC (aNil ⟨keepK b w (by k_is), Go.ofC ?_⟩)))))))
  have hes : (esOf st).length ≤ 1000000 := by have := inv.esLen; omega
  have win' : ∀ a t u v, Win y.len m1 (y.rows ++ [⟨a, st.m + 1, cost, t, u, v⟩]) y.o0 y.o2 := fun a t u v => win.add (by omega)
  have fr1 : Around.frames A = some [env] := K.fr
  refine GoC.mono (Q := fun v h' k' => ∃ st', v = .bool (decide (cost ≤ room)) ∧ Lw c h₀ ad h' st' { z with room := some (.int room tr) } { y with vb := some (.int (st.m + 1) tb) } l ∧ st'.s = 1 ∧ st.m ≤ st'.m ∧ st'.m ≤ st.m + 2 ∧
    (cost ≤ room → st'.m = st.m + 1 + 1 ∧ ∀ a t u v, Inv ad.amt y.len st' (y.rows ++ [⟨a, st.m + 1, cost, t, u, v⟩]) y.o0 y.o1 y.o2) ∧ (¬ cost ≤ room → Inv ad.amt y.len st' y.rows y.o0 y.o1 y.o2)) ?_ fun v h' k' z' => ?_
  · refine mhit_ b w (by have := K.dl; omega) K.hA fr1 (frin K t0) K.ok (inv.ev (by omega)) hc1 hes (fun hb h' k' w => ?_) (fun hb e ea h' k' he hq w => ?_) (fun hb hno e ea h' k' he w => ?_)
    · have := hit_big inv hb (st.m + 1)
      rw [hroom] at this
      exact ⟨st, by rw [decide_eq_false this], w, hs, Int.le_refl _, by omega, fun hh => absurd hh this, fun _ => inv⟩
    · have := (hit_room inv win hl h1 (by omega) hb).mp ⟨e, he, by rw [hs, ← hlen] at hq; exact hq⟩
      rw [hroom] at this
      refine ⟨_, by rw [decide_eq_false this], w, hs, by show st.m ≤ st.m + st.s; omega, by show st.m + st.s ≤ _; omega, fun hh => absurd hh this, fun _ => ?_⟩
      exact inv.next (by show st.m ≤ st.m + st.s; omega) rfl (fun _ h => h) (inv.fx.later (by show st.m ≤ st.m + st.s; omega) rfl rfl)
    · have hyes : cost ≤ ad.amt - cs (y.rows.filter (liveAt y.len (st.m + 1))) := by
        by_cases hh : cost ≤ ad.amt - cs (y.rows.filter (liveAt y.len (st.m + 1)))
        · exact hh
        · obtain ⟨e', he', hq'⟩ := (hit_room inv win hl h1 (by omega) hb).mpr hh
          have := hno e' he'
          rw [hs, ← hlen] at this
          omega
      refine ⟨_, by rw [decide_eq_true (hroom ▸ hyes)], w, hs, by show st.m ≤ st.m + st.s + st.s; omega, by show st.m + st.s + st.s ≤ _; omega, fun hh => ⟨by show st.m + st.s + st.s = _; omega, fun a t u v => hit_inv inv hs hc1 (by omega) hyes he⟩, fun hh => absurd (hroom ▸ hyes) hh⟩
  obtain ⟨st', rfl, w, hs', hm1, hm2, hyes, hno⟩ := z'
  refine eCmp (nameL w K.n (kOf K.sc n_cost) (rr t0) mC (nameL w K.n (kOf K.sc n_room) (rr t0) (t15 t0) (oLe ?_)))
  refine oNeB (tBool ?_)
  rw [show (decide (cost ≤ room) != decide (cost ≤ room)) = false by simp]
  refine if_ff (xNil ?_)
  refine xIf (iCmp (nameL w K.n (kOf K.sc n_cost) (rr t0) mC (nameL w K.n (kOf K.sc n_room) (rr t0) (t15 t0) (oLe (tBool (if_dec (fun hle => ?_) fun hgt => ?_))))))
  · obtain ⟨hm', hI⟩ := hyes hle
    refine xExprV K.n.k ?_
    refine eCallM2 ?_ ?h1 ?h2 ?h3
    case h1 => rfl
    case h2 => rfl
    case h3 => rfl
    refine nameL w K.n (kOf K.sc n_log) (rr t0) (t10 t0) (mAppend w (rr (t5 t0)) (cwB (aCons (eTup (h₀ := h₀) ?_))))
    refine aCons (nameC w K.n (kOf K.sc n_begun) (by rw [K.ce]; rfl) (rr (t2 t0)) (aCons (eMoment (st := st') K w (t2 t0) t0 fun tm k => ?_)))
    refine aCons (nameL w K.n (kOf K.sc n_cost) (rr t0) mC (aNil ⟨_, w, by rw [sizeLine_eq]; show 3 ≤ 16777216; decide, fun T h w => aNil ?_⟩))
    refine gAppend w (.s (Sw.appL (.s (.s (.s (.s (.s .z))))) _)) (by rw [List.length_map]; show y.rows.length ≤ 1000000; omega) fun h w => ⟨fun _ h => (nomatch h), xNil (xNil ?_)⟩
    refine q st' (some (.int (st.m + 1) tb)) (some (.int room tr)) (y.rows ++ [⟨T, st.m + 1, cost, tb, tm, tc⟩]) h _ (hI _ _ _ _) (win' _ _ _ _) hm1 hm2 hs' (by simp) ?_
    have e1 : TupV [.int (st.m + 1) tb, .int st'.m tm, .int cost tc] = TupV (rvals ⟨T, st.m + 1, cost, tb, tm, tc⟩) := by unfold rvals; rw [hm']
    rw [e1] at w
    have w2 := rowSnoc (T := (T, TupV (rvals ⟨T, st.m + 1, cost, tb, tm, tc⟩))) (P := core c.w ad st') (B := _ :: _ :: _ :: _ :: _ :: _ :: _ :: []) (R := y.rows.map rowIt) (X := kIt c.w y.D y.xs) (l := l) w
    unfold Lw W lr lr0 lrB
    dsimp only
    rw [List.map_append, List.map_append]
    exact w2
  · exact xNil (xNil (q st' (some (.int (st.m + 1) tb)) (some (.int room tr)) y.rows _ _ (hno hgt) win hm1 hm2 hs' (Nat.le_succ _) w))
end
end Mine

/-! H8 -/
namespace Mine
theorem fillH8 : PySem.Challenge.rw_bn0041_01 = PySem.Challenge.rw_bn0041_01 ∧ hd.heap_1 = hd.heap_1 := by
  k_fill
  exact ⟨rfl, rfl⟩
section
variable {c : Cx} {A : Around} {h₀ h : Heap} {k : Nat} {l l' : List It} {env : Env} {mg mb : Str → Option Value} {ad : Ad} {st : St} {z : Fz} {y : Lz}
theorem swapIn {T a b d e o : It} {P R : List It} (w : Led h₀ h (T :: (P ++ (a :: b :: d :: e :: o :: R)))) : Led h₀ h (P ++ (a :: b :: d :: e :: T :: R)) := by
  have w1 : Led h₀ h ((P ++ [a, b, d, e]) ++ T :: o :: R) := by
    refine w.perm ?_
    have := (List.perm_middle (l₁ := P ++ [a, b, d, e]) (l₂ := o :: R) (a := T)).symm
    simp only [List.append_assoc, List.cons_append, List.nil_append] at this ⊢
    exact this
  have w2 := w1.sub ((List.Sublist.refl (P ++ [a, b, d, e])).append ((List.sublist_cons_self o R).cons_cons T))
  simpa only [List.append_assoc, List.cons_append, List.nil_append] using w2
theorem lstI_of {vs : List Value} {is : List Int} {o : Obj} (hi : IntsAre vs is) (x : LstV vs o) : LstI is o := by
  obtain ⟨n, rfl⟩ := x
  exact ⟨vs, hi, rfl, n, rfl⟩
theorem sF {cost vv m1 : Int} {tc tv : Tok} {rest : List Stmt} {Q : Flow → Heap → Nat → Prop} (K : LK c A h₀ mg mb env y.L ad) (w : Lw c h₀ ad h st z y l) (hv : z.verb = some (.int vv tv)) (hcst : z.cost = some (.int cost tc)) (hlen : y.len = 60 * ad.mul) (hl : 300 ≤ y.len)
    (hc1 : 1 ≤ cost) (hs : st.s = 1) (inv : Inv ad.amt y.len st y.rows y.o0 y.o1 y.o2) (win : Win y.len m1 y.rows y.o0 y.o2) (h1 : m1 ≤ st.m) (h2 : st.m ≤ m1 + 10)
    (q : ∀ st' vb let_ O o0 o1 o2 h k, Inv ad.amt y.len st' y.rows o0 o1 o2 → Win y.len m1 y.rows o0 o2 → st.m ≤ st'.m → st'.m ≤ st.m + 2 → st'.s = 1 → Lw c h₀ ad h st' { z with let_ := let_ } { y with vb := vb, O := O, o0 := o0, o1 := o1, o2 := o2 } l → Go c A (execs rest env) h k Q) :
    Go c A (execs (stAt forBody 6 :: rest) env) h k Q := by
  have b := K.b
  have mV : (Str.ofString "verb", some (.int vv tv)) ∈ lf ad z y.O y.G y.D := by unfold lf; rw [hv]; exact t14 t0
  have skip : ∀ k, Go c A (execs [] env) h k fun f h k => (match f with | .next => Go c A (execs rest env) h k Q | f => Q f h k) := fun k =>
    xNil (q st y.vb z.let_ y.O y.o0 y.o1 y.o2 h k inv win (Int.le_refl _) (by omega) hs w)
  refine xIf (Go.mono (Q := fun _ h' _ => h' = h) (iOr (iCmp (nameL w K.n (kOf K.sc n_verb) (rr t0) mV (eInt fun _ k => oEq (tBool (if_beq (fun _ => rfl) fun _ => iCmp (nameL w K.n (kOf K.sc n_verb) (rr t0) mV (eInt fun _ k => oEq (tBool rfl))))))))) fun bb h' k' e => ?_)
  subst e
  cases bb with
  | false => exact if_ff (skip _)
  | true =>
  rw [if_pos rfl]
  clear skip
  refine xAssign (eBin (eMoment (st := st) K w (t2 t0) t0 fun t k => eInt fun t' k => oAdd fun tb k => ?_))
  refine storeC w K.n (kOf K.sc n_begun) (by rw [K.ce]; rfl) (Sw.appL (.s (.s .z)) _) fun h w => ?_
  have w : Lw c h₀ ad h st z { y with vb := some (.int (st.m + 1) tb) } l := w
  have mC : (Str.ofString "cost", some (.int cost tc)) ∈ lf ad z y.O y.G y.D := by unfold lf; rw [hcst]; exact t13 t0
  refine xAssign ?_
  refine eCallM2 ?_ ?h1 ?h2 ?h3
  case h1 => rfl
  case h2 => rfl
  case h3 => rfl
  refine nameL w K.n (kOf K.sc n_fixed) (rr t0) (t6 t0) (gMethA b w (t14 t0) (t15 t0) (m_fhit c) ?_)
  refine cwF (aCons (nameL w K.n (kOf K.sc n_item) (rr t0) (t3 t0) (aCons (nameL w K.n (kOf K.sc n_who) (rr t0) (t8 t0) (aCons (nameL w K.n (kOf K.sc n_cost) (rr t0) mC (aNil ⟨keepK b w (by k_is), Go.ofC ?_⟩)))))))
  refine fhit_ b w (by have := K.dl; omega) K.hA K.ok fun h k w => ?_
  rw [← hlen] at w
  have FH := fix_hit inv win hl hs h1 (by omega) hc1
  generalize hst' : stIncr st cost y.len = st' at w FH
  generalize hg : (stGet st).cnt.getD 0 = g at FH
  refine storeL w K.n (kOf K.sc n_let) f_let (Sw.appL .z _) fun h k w => ?_
  have w : Lw c h₀ ad h st' { z with let_ := some (.bool (decide (g + cost ≤ ad.amt))) } { y with vb := some (.int (st.m + 1) tb) } l := w
  have mO : (y.O, LstI [y.o0, y.o1, y.o2]) ∈ core c.w ad st' ++ lr c.w ad { z with let_ := some (.bool (decide (g + cost ≤ ad.amt))) } { y with vb := some (.int (st.m + 1) tb) } l := rr (t4 t0)
  have fin : ∀ O o0 o1 o2 h k, st.m ≤ st'.m → st'.m ≤ st.m + 2 → st'.s = 1 → g = o2 → Inv ad.amt y.len st' y.rows o0 o1 (o2 + cost) → Win y.len m1 y.rows o0 (o2 + cost) →
      Lw c h₀ ad h st' { z with let_ := some (.bool (decide (g + cost ≤ ad.amt))) } { y with vb := some (.int (st.m + 1) tb), O := O, o0 := o0, o1 := o1, o2 := o2 } l →
      Go c A (execs (stAt (bodyOf (stAt forBody 6)) 3 :: stAt (bodyOf (stAt forBody 6)) 4 :: []) env) h k fun f h k => (match f with | .next => Go c A (execs rest env) h k Q | f => Q f h k) := by
    intro O o0 o1 o2 h k f1 f2 f3 f4 f5 f6 w
    have mC : (Str.ofString "cost", some (.int cost tc)) ∈ lf ad { z with let_ := some (.bool (decide (g + cost ≤ ad.amt))) } O y.G y.D := by unfold lf; dsimp only; rw [hcst]; exact t13 t0
    refine xSetItem (eBin (eSub (nameL w K.n (kOf K.sc n_opened) (rr t0) (t9 t0) (eInt fun _ k => subI w (rr (t4 t0)) (by decide) (by decide) rfl fun u2 => ?_))))
    refine nameL w K.n (kOf K.sc n_cost) (rr t0) mC (oAdd fun tn k => nameL w K.n (kOf K.sc n_opened) (rr t0) (t9 t0) (eInt fun _ k => ?_))
    refine setI (is' := [o0, o1, o2 + cost]) w (Sw.appL (.s (.s (.s (.s .z)))) _) (by decide) (by decide) (by show (2 : Int) < 3; decide) rfl fun h w => ?_
    refine xIf (iCmp (nameL w K.n (kOf K.sc n_let) (rr t0) (t16 t0) (eCmp (eSub (nameL w K.n (kOf K.sc n_opened) (rr t0) (t9 t0) (eInt fun _ k => subI w (rr (t4 t0)) (by decide) (by decide) rfl fun u2 => ?_))))))
    refine nameL w K.n (kOf K.sc n_amount) (rr t0) (t2 t0) (oLe (oNeB (tBool ?_)))
    rw [f4, show (decide (o2 + cost ≤ ad.amt) != decide (o2 + cost ≤ ad.amt)) = false by simp]
    refine if_ff (xNil (xNil ?_))
    exact q st' _ _ O o0 o1 (o2 + cost) _ _ f5 f6 f1 f2 f3 (f4 ▸ w)
  refine xIf (Go.mono (Q := fun bb h' _ => h' = h ∧ bb = decide (y.o2 = 0 ∨ y.o0 + y.len ≤ st.m + 1)) (iOr (iCmp (eSub (nameL w K.n (kOf K.sc n_opened) (rr t0) (t9 t0) (eInt fun _ k => subI w mO (by decide) (by decide) rfl fun u2 => eInt fun _ k => oEq (tBool ?_)))))) fun bb h' k' e => ?_)
  · refine if_beq (fun e => ⟨rfl, by rw [decide_eq_true (.inl e)]⟩) fun e => ?_
    refine iCmp (eBin (eSub (nameL w K.n (kOf K.sc n_opened) (rr t0) (t9 t0) (eInt fun _ k => subI w mO (by decide) (by decide) rfl fun u0 => ?_))))
    refine nameC w K.n (kOf K.sc n_length) (by rw [K.ce]; rfl) (rr (t1 t0)) (oAdd fun _ k => nameC w K.n (kOf K.sc n_begun) (by rw [K.ce]; rfl) (rr (t2 t0)) (oLe (tBool ⟨rfl, ?_⟩)))
    rw [decide_eq_decide]
    exact ⟨fun h => .inr h, fun h => h.resolve_left e⟩
  obtain ⟨rfl, rfl⟩ := e
  refine if_dec (fun hc => ?_) fun hc => ?_
  · obtain ⟨a1, a2, a3, a4⟩ := FH.1 hc
    refine xAssign (eLst (h₀ := h₀) (aCons (nameC w K.n (kOf K.sc n_begun) (by rw [K.ce]; rfl) (rr (t2 t0)) ?_)))
    refine aCons (eMoment (st := st') K w (t2 t0) t0 fun tm k => aCons (eInt fun tz k => aNil ⟨_, w, by rw [sizeLine_eq]; show 3 ≤ 16777216; decide, fun O' h w => ?_⟩))
    refine storeL w K.n (kOf K.sc n_opened) f_opened (.s (Sw.appL .z _)) fun h k w => xNil ?_
    have w := w.weak (P' := LstI [st.m + 1, st'.m, 0]) .z fun o ho => lstI_of (.cons _ _ (.cons _ _ (.cons _ _ .nil))) ho
    have w := swapIn (P := core c.w ad st') w
    rw [a2] at w
    refine fin O' (st.m + 1) (st.m + 2) 0 _ _ (by omega) (by omega) a3 a1 a4 ⟨win.r, fun _ => .inr (.inr (by omega))⟩ w
  · obtain ⟨a1, a2, a3, a4⟩ := FH.2 hc
    refine xNil (fin y.O y.o0 y.o1 y.o2 _ _ (by omega) (by omega) a3 a1 a4 ⟨win.r, fun _ => win.o ?_⟩ w)
    rcases inv.fx with ⟨h, _⟩ | ⟨h, _⟩
    · exact absurd (.inl h) hc
    · exact h
end
end Mine

/-! I1 -/
namespace Mine
theorem fillI1 : PySem.Challenge.rw_bn0041_01 = PySem.Challenge.rw_bn0041_01 ∧ hd.heap_1 = hd.heap_1 := by
  k_fill
  exact ⟨rfl, rfl⟩
section
variable {c : Cx} {A : Around} {h₀ h : Heap} {k : Nat} {l l' : List It} {env : Env} {mg mb : Str → Option Value} {ad : Ad} {st : St} {z : Fz} {y : Lz}
abbrev refs (rows : List Rw) : List Value := rows.map fun r => Value.ref r.a
def insOf (y : Lz) (t : Int) : List Rw := y.rows.filter (liveAt y.len t)
def lvOf (y : Lz) (t : Int) : Int := if y.o0 + y.len > t then y.o2 else 0
theorem sT1 {rest : List Stmt} {Q : Flow → Heap → Nat → Prop} (K : LK c A h₀ mg mb env y.L ad) (w : Lw c h₀ ad h st z y l) (hn : y.rows.length ≤ 9)
    (q : ∀ ts tl I th h k, Lw c h₀ ad h st { z with live := some (.int (lvOf y (st.m + 1)) tl), inside := some (.ref I), here := some (.int (cs (insOf y (st.m + 1))) th) } { y with vt := some (.int st.m ts) } ((I, LstV (refs (insOf y (st.m + 1)))) :: l) → Go c A (execs rest env) h k Q) :
    Go c A (execs (stAt turnBody 0 :: stAt turnBody 1 :: stAt turnBody 2 :: stAt turnBody 3 :: rest) env) h k Q := by
  have b := K.b
  refine xAssign (eMoment (st := st) K w (t2 t0) t0 fun ts k => ?_)
  refine storeC w K.n (kOf K.sc n_start) (by rw [K.ce]; rfl) (Sw.appL (.s (.s (.s .z))) _) fun h w => ?_
  have w : Lw c h₀ ad h st z { y with vt := some (.int st.m ts) } l := w
  refine xAssign (eIf (iCmp (eBin (eSub (nameL w K.n (kOf K.sc n_opened) (rr t0) (t9 t0) (eInt fun _ k => subI w (rr (t4 t0)) (by decide) (by decide) rfl fun u0 => ?_))))))
  refine nameC w K.n (kOf K.sc n_length) (by rw [K.ce]; rfl) (rr (t1 t0)) (oAdd fun _ k => eBin (nameC w K.n (kOf K.sc n_start) (by rw [K.ce]; rfl) (rr (t3 t0)) (eInt fun _ k => oAdd fun _ k => oGt (tBool ?_))))
  have one : ∀ tl h k, Lw c h₀ ad h st { z with live := some (.int (lvOf y (st.m + 1)) tl) } { y with vt := some (.int st.m ts) } l → Go c A (execs (stAt turnBody 2 :: stAt turnBody 3 :: rest) env) h k Q := by
    intro tl h k w
    generalize hzl : ({ z with live := some (.int (lvOf y (st.m + 1)) tl) } : Fz) = z1 at w
    have mL : (y.L + 1, CellIs (some (.int y.len y.tl))) ∈ core c.w ad st ++ lr c.w ad z1 { y with vt := some (.int st.m ts) } l := rr (t1 t0)
    have mS : (y.L + 3, CellIs (some (.int st.m ts))) ∈ core c.w ad st ++ lr c.w ad z1 { y with vt := some (.int st.m ts) } l := rr (t3 t0)
    have mG : (y.G, LstV (y.rows.map fun r => Value.ref r.a)) ∈ core c.w ad st ++ lr c.w ad z1 { y with vt := some (.int st.m ts) } l := rr (t5 t0)
    have hz : (y.rows.map fun r => Value.ref r.a).length ≤ sizeLine := by rw [List.length_map, sizeLine_eq]; omega
    refine xComp (h₀ := h₀) (cl := [(Str.ofString "start", y.L + 3), (Str.ofString "length", y.L + 1)]) K.hA (by unfold swapsWith Env.blockKind; dsimp only; rw [K.n.k, kOf K.sc n_inside]; rfl) (clos_of (env' := { env with cells := cellsOf y.L }) K.ce (by rfl)) (by decide +kernel) (by rfl) (by decide +kernel) (by rfl) ?_ ?_
    · exact fun i ys l' => l' = core c.w ad st ++ lr c.w ad z1 { y with vt := some (.int st.m ts) } l ∧ ys = refs ((y.rows.take i).filter (liveAt y.len (st.m + 1)))
    refine nameL w K.n (kOf K.sc n_log) (rr t0) (t10 t0) ⟨y.G, _, _, rfl, w, mG, hz, ⟨rfl, rfl⟩, ?_, ?_⟩
    · rintro C D it i v ys h k l' hv w hm ⟨rfl, rfl⟩
      rw [List.getElem?_map] at hv
      obtain ⟨r, hr, rfl⟩ := Option.map_eq_some_iff.mp hv
      generalize hce : compEnvC _ _ C env = cenv
      have nC : EnvOk cenv C := by rw [← hce]; exact ⟨rfl, rfl, K.n.g, K.n.b⟩
      have kR : cenv.kindOf (Str.ofString "row") = some .local := by rw [← hce]; rfl
      have kS : cenv.kindOf (Str.ofString "start") = some .cell := by rw [← hce]; exact kind_cell K.n.k (kOf K.sc n_start) (by rfl)
      have kL : cenv.kindOf (Str.ofString "length") = some .cell := by rw [← hce]; exact kind_cell K.n.k (kOf K.sc n_length) (by rfl)
      have cS : cenv.cells.lookup (Str.ofString "start") = some (y.L + 3) := by rw [← hce]; rfl
      have cL : cenv.cells.lookup (Str.ofString "length") = some (y.L + 1) := by rw [← hce]; rfl
      have mR := fun (X Y Z : It) => t3 (x0 := X) (x1 := Y) (x2 := Z) (rowMem (c := c) (ad := ad) (st := st) (z := z1) (y := { y with vt := some (.int st.m ts) }) (l := l) (List.mem_of_getElem? hr))
      refine ifOne (iCmp (eBin (eSub (nameL w nC kR (t1 t0) t0 (eInt fun _ k => subT (i := 0) w (mR _ _ _) (by decide) rfl (nameC w nC kL cL (t3 mL) (oAdd fun _ k => ?_)))))))
      refine eBin (nameC w nC kS cS (t3 mS) (eInt fun _ k => oAdd fun _ k => oGt (tBool ?_)))
      have hf := filt_add (P := liveAt y.len (st.m + 1)) hr
      cases hlv : liveAt y.len (st.m + 1) r with
      | true =>
        rw [hlv, if_pos rfl] at hf
        have : decide (r.b + y.len > st.m + 1) = true := hlv
        rw [this, if_pos rfl]
        refine nameL w nC kR (t1 t0) t0 ⟨_, w, hm, rfl, ?_⟩
        rw [hf]; unfold refs; rw [List.map_append]; rfl
      | false =>
        rw [hlv, if_neg Bool.false_ne_true, List.append_nil] at hf
        have : decide (r.b + y.len > st.m + 1) = false := hlv
        rw [this, if_neg Bool.false_ne_true]
        exact ⟨_, w, hm, rfl, by rw [hf]⟩
    rintro I ys h k l' w0 ⟨rfl, rfl⟩ C P w
    rw [List.length_map, List.take_length] at w
    refine storeL w K.n (kOf K.sc n_inside) f_inside (.s (.s (Sw.appL .z _))) fun h k w => ⟨_, w, fun h w => ?_⟩
    have w : Lw c h₀ ad h st { z1 with inside := some (.ref I) } { y with vt := some (.int st.m ts) } ((I, LstV (refs (insOf y (st.m + 1)))) :: l) := w.back
    have mI : (I, LstV (refs (insOf y (st.m + 1)))) ∈ core c.w ad st ++ lr c.w ad { z1 with inside := some (.ref I) } { y with vt := some (.int st.m ts) } ((I, LstV (refs (insOf y (st.m + 1)))) :: l) := rr (rr t0)
    have hz2 : (refs (insOf y (st.m + 1))).length ≤ sizeLine := by
      have : (insOf y (st.m + 1)).length ≤ y.rows.length := List.length_filter_le _ _
      rw [List.length_map, sizeLine_eq]; omega
    refine xAssign (eCallN (nameB (v := .builtin "sum") b w K.n (kOf K.sc n_sum) (by k_is) (by decide +kernel) (by decide) (cwB ?_)))
    refine aCons ?_ ?h1
    case h1 => rfl
    generalize hins : insOf y (st.m + 1) = ins at w mI hz2
    have hsub : ∀ r ∈ ins, r ∈ y.rows := by rw [← hins]; exact fun r hr => (List.mem_filter.mp hr).1
    refine eComp (h₀ := h₀) (cl := []) K.hA (by rfl) (by decide +kernel) (by rfl) (by decide +kernel) (by rfl) ?_ ?_
    · exact fun i ys l' => l' = core c.w ad st ++ lr c.w ad { z1 with inside := some (.ref I) } { y with vt := some (.int st.m ts) } ((I, LstV (refs ins)) :: l) ∧ IntsAre ys ((ins.take i).map (·.c))
    refine nameL w K.n (kOf K.sc n_inside) (rr t0) (t19 t0) ⟨I, _, _, rfl, w, mI, hz2, ⟨rfl, .nil⟩, ?_, ?_⟩
    · rintro C D it i v ys h k l' hv w hm ⟨rfl, hI⟩
      rw [List.getElem?_map] at hv
      obtain ⟨r, hr, rfl⟩ := Option.map_eq_some_iff.mp hv
      refine Go.pure ?_
      rw [if_pos rfl]
      generalize hce : compEnvC _ _ C env = cenv
      have nC : EnvOk cenv C := by rw [← hce]; exact ⟨rfl, rfl, K.n.g, K.n.b⟩
      have kR : cenv.kindOf (Str.ofString "row") = some .local := by rw [← hce]; rfl
      have mR := fun (X Y Z : It) => t3 (x0 := X) (x1 := Y) (x2 := Z) (rowMem (c := c) (ad := ad) (st := st) (z := { z1 with inside := some (.ref I) }) (y := { y with vt := some (.int st.m ts) }) (l := (I, LstV (refs ins)) :: l) (hsub _ (List.mem_of_getElem? hr)))
      refine eSub (nameL w nC kR (t1 t0) t0 (eInt fun _ k => subT (i := 2) w (mR _ _ _) (by decide) rfl ⟨_, w, hm, rfl, ?_⟩))
      rw [List.take_add_one, hr, List.map_append]
      exact hI.append (.cons _ _ .nil)
    rintro D ys h k l' w ⟨rfl, hI⟩
    rw [List.length_map, List.take_length] at hI
    refine aNil (gSum K.hA w t0 hI fun th h k w => ?_)
    refine storeL w.drop K.n (kOf K.sc n_here) f_here (Sw.appL .z _) fun h k w => ?_
    subst hins hzl
    exact q ts tl I th h k w
  refine if_dec (fun hgt => ?_) fun hle => ?_
  · refine eSub (nameL w K.n (kOf K.sc n_opened) (rr t0) (t9 t0) (eInt fun _ k => subI w (rr (t4 t0)) (by decide) (by decide) rfl fun u2 => ?_))
    refine storeL w K.n (kOf K.sc n_live) f_live (Sw.appL .z _) fun h k w => one u2 h k ?_
    rw [show lvOf y (st.m + 1) = y.o2 from if_pos hgt]
    exact w
  · refine eInt fun u2 k => storeL w K.n (kOf K.sc n_live) f_live (Sw.appL .z _) fun h k w => one u2 h k ?_
    rw [show lvOf y (st.m + 1) = 0 from if_neg hle]
    exact w
end
end Mine

/-! I2 -/
namespace Mine
theorem fillI2 : PySem.Challenge.rw_bn0041_01 = PySem.Challenge.rw_bn0041_01 ∧ hd.heap_1 = hd.heap_1 := by
  k_fill
  exact ⟨rfl, rfl⟩
section
variable {c : Cx} {A : Around} {h₀ h : Heap} {k : Nat} {l l' : List It} {env : Env} {mg mb : Str → Option Value} {ad : Ad} {st : St} {z : Fz} {y : Lz}
theorem stands_nt {x dx C : Addr} {vs : List Value} (hx : (x, NtP C dx vs) ∈ l) (hd : (dx, FrmS 0 []) ∈ l) : Stands h₀ l x C vs.toArray := fun h' w => by
  obtain ⟨ox, ex, n, rfl⟩ := w.get hx
  obtain ⟨od, ed, _⟩ := w.get hd
  exact ⟨_, od, n, ⟨ex, rfl, rfl, ed⟩, rfl⟩
theorem gReset {x dx : Addr} {r : Int} {u : Value} {t : Tok} {expr : Bool} {Q : Value → Heap → Nat → Prop} (b : Base (hd.heap_1 c.w.params) mg mb h₀) (hdl : A.depth < 500) (w : Led h₀ h l) (hx : (x, NtP 171 dx [.int r t, u]) ∈ l) (hdx : (dx, FrmS 0 []) ∈ l)
    (q : ∀ h' k', Led h₀ h' l → Q (.int r t) h' k') : Go c A (getAttr (.ref x) "reset_time" expr) h k Q :=
  gTupAttr b w (stands_nt hx hdx) (tc_res c) (v := .int r t) rfl fun k => tget82 (i := 0) b w (by show A.depth < 890; omega) (stands_nt hx hdx) (tg_res c) (show 0 < 2 by decide) (show 2 < 1000 by decide) rfl fun h k w => ⟨rfl, q h k w⟩
theorem gRemain {x dx : Addr} {r : Int} {u : Value} {t : Tok} {expr : Bool} {Q : Value → Heap → Nat → Prop} (b : Base (hd.heap_1 c.w.params) mg mb h₀) (hdl : A.depth < 500) (w : Led h₀ h l) (hx : (x, NtP 171 dx [u, .int r t]) ∈ l) (hdx : (dx, FrmS 0 []) ∈ l)
    (q : ∀ h' k', Led h₀ h' l → Q (.int r t) h' k') : Go c A (getAttr (.ref x) "remaining" expr) h k Q :=
  gTupAttr b w (stands_nt hx hdx) (tc_rem c) (v := .int r t) rfl fun k => tget82 (i := 1) b w (by show A.depth < 890; omega) (stands_nt hx hdx) (tg_rem c) (show 1 < 2 by decide) (show 2 < 1000 by decide) rfl fun h k w => ⟨rfl, q h k w⟩
theorem kPerm {P B R X l : List It} : (P ++ ((B ++ (R ++ X)) ++ l)).Perm (X ++ (P ++ ((B ++ R) ++ l))) := by
  have h1 : ((P ++ (B ++ R)) ++ X).Perm (X ++ (P ++ (B ++ R))) := List.perm_append_comm
  have := h1.append_right l
  simp only [List.append_assoc] at this ⊢
  exact this
theorem Led.kOut {P B R X : List It} (w : Led h₀ h (P ++ ((B ++ (R ++ X)) ++ l))) : Led h₀ h (X ++ (P ++ ((B ++ R) ++ l))) := w.perm kPerm
theorem Led.kIn {P B R X : List It} (w : Led h₀ h (X ++ (P ++ ((B ++ R) ++ l)))) : Led h₀ h (P ++ ((B ++ (R ++ X)) ++ l)) := w.perm kPerm.symm
theorem gTold {mark : Str} {begun done r : Int} {u1 u2 u3 u4 u5 : Tok} {Q : Value → Heap → Nat → Prop} (K : LK c A h₀ mg mb env y.L ad) (w : Lw c h₀ ad h st z y l) (hk : KOk y.len y.xs) (hx : y.xs.length ≤ 1000) (hd1 : done = begun + 1) (hr : r = begun + 1 + y.len)
    (q : ∀ xs' h' k', KOk y.len xs' → xs'.length ≤ y.xs.length + 1 → Lw c h₀ ad h' st z { y with xs := xs' } l → Q (.bool true) h' k') :
    GoC c A (.call (.ref 933) ⟨[.ref y.D, .str mark u1, .int begun u2, .int done u3, .int y.len u4, .int r u5], []⟩) h k Q :=
  told_ K.b (Led.kOut w) hk (by have := K.dl; omega) K.hA (by have := K.hu; omega) hx hd1 hr fun xs' h k h1 h2 w => q xs' h k h1 h2 (Led.kIn w)
theorem sT2 {m1 lv : Int} {tl ts : Tok} {rest : List Stmt} {Q : Flow → Heap → Nat → Prop} (K : LK c A h₀ mg mb env y.L ad) (w : Lw c h₀ ad h st z y l) (hlv : z.live = some (.int lv tl)) (hlv2 : lv = lvOf y (st.m + 1)) (hvt : y.vt = some (.int st.m ts)) (hl : 300 ≤ y.len)
    (hs : st.s = 1) (inv : Inv ad.amt y.len st y.rows y.o0 y.o1 y.o2) (win : Win y.len m1 y.rows y.o0 y.o2) (h1 : m1 ≤ st.m) (h2 : st.m ≤ m1 + 40) (hk : KOk y.len y.xs) (hx : y.xs.length ≤ 1000)
    (q : ∀ st1 sts xs h k, st1.m = st.m + 2 → st1.s = 1 → Inv ad.amt y.len st1 y.rows y.o0 y.o1 y.o2 → KOk y.len xs → xs.length ≤ y.xs.length + 1 → Lw c h₀ ad h st1 { z with stats := sts } { y with xs := xs } l → Go c A (execs rest env) h k Q) :
    Go c A (execs (stAt turnBody 4 :: stAt turnBody 5 :: stAt turnBody 6 :: stAt turnBody 7 :: rest) env) h k Q := by
  have b := K.b
  have hdl := K.dl
  have gl := get_live inv.fx win hl hs h1 (by omega)
  have gm := get_ok inv.fx (by omega : 0 ≤ st.s)
  have gi := inv.get (by omega : 0 ≤ st.s)
  change (stGet st).cnt.getD 0 = lvOf y (st.m + 1) ∧ (lvOf y (st.m + 1) ≠ 0 → _) ∧ (lvOf y (st.m + 1) = 0 → _) at gl
  rw [← hlv2] at gl
  refine xAssign ?_
  refine eCallM2 ?_ ?h1 ?h2 ?h3
  case h1 => rfl
  case h2 => rfl
  case h3 => rfl
  refine nameL w K.n (kOf K.sc n_fixed) (rr t0) (t6 t0) (gMethA b w (t14 t0) (t15 t0) (m_fstats c) ?_)
  refine cwF (aCons (nameL w K.n (kOf K.sc n_item) (rr t0) (t3 t0) (aCons (nameL w K.n (kOf K.sc n_who) (rr t0) (t8 t0) (aNil ⟨keepK b w (by k_is), Go.ofC ?_⟩)))))
  refine fstats_ b w (by omega) K.hA K.ok fun x dx t1' t2' h k w => ?_
  generalize hst1 : stTick (stGet st) = st1 at w
  have m1e : st1.m = st.m + 2 := by rw [← hst1]; show (stGet st).m + (stGet st).s = _; rw [gm.m, gm.s]; omega
  have s1e : st1.s = 1 := by rw [← hst1]; show (stGet st).s = _; rw [gm.s]; exact hs
  have inv1 : Inv ad.amt y.len st1 y.rows y.o0 y.o1 y.o2 := by
    rw [← hst1]
    exact gi.next (by show (stGet st).m ≤ (stGet st).m + (stGet st).s; rw [gm.s]; omega) rfl (fun _ h => h) (gi.fx.later (by show (stGet st).m ≤ (stGet st).m + (stGet st).s; rw [gm.s]; omega) rfl rfl)
  generalize hrs : (stGet st).exp.getD ((stGet st).m + (stGet st).s) = rs at w
  rw [gl.1] at w
  have w := Led.back (P := (dx, FrmS 0 []) :: core c.w ad st1) w
  have w : Lw c h₀ ad h st1 z y ((dx, FrmS 0 []) :: (x, NtP 171 dx [.int rs t1', .int (max 0 (ad.amt - lv)) t2']) :: l) := Led.back w
  refine storeL w K.n (kOf K.sc n_stats) f_stats (Sw.appL .z _) fun h k w => ?_
  have w : Lw c h₀ ad h st1 { z with stats := some (.ref x) } y ((dx, FrmS 0 []) :: (x, NtP 171 dx [.int rs t1', .int (max 0 (ad.amt - lv)) t2']) :: l) := w
  have mx : ∀ {y' : Lz}, (x, NtP 171 dx [.int rs t1', .int (max 0 (ad.amt - lv)) t2']) ∈ core c.w ad st1 ++ lr c.w ad { z with stats := some (.ref x) } y' ((dx, FrmS 0 []) :: (x, NtP 171 dx [.int rs t1', .int (max 0 (ad.amt - lv)) t2']) :: l) := rr (rr (t1 t0))
  have mdx : ∀ {y' : Lz}, (dx, FrmS 0 []) ∈ core c.w ad st1 ++ lr c.w ad { z with stats := some (.ref x) } y' ((dx, FrmS 0 []) :: (x, NtP 171 dx [.int rs t1', .int (max 0 (ad.amt - lv)) t2']) :: l) := rr (rr t0)
  have mv : (Str.ofString "live", some (.int lv tl)) ∈ lf ad { z with stats := some (.ref x) } y.O y.G y.D := by unfold lf; dsimp only; rw [hlv]; exact t18 t0
  refine xIf (iCmp (eAttr (nameL w K.n (kOf K.sc n_stats) (rr t0) (t21 t0) (gRemain b hdl w mx mdx fun h k w => ?_))))
  refine eCallN (nameB (v := .builtin "max") b w K.n (kOf K.sc n_max) (by k_is) (by decide +kernel) (by decide) (cwB (aCons (eInt fun _ k => aCons (eBin (nameL w K.n (kOf K.sc n_amount) (rr t0) (t2 t0) (nameL w K.n (kOf K.sc n_live) (rr t0) mv (oSub fun _ k => aNil ?_))))))))
  refine gMax2 K.hA w fun _ h k w => oNe (tBool ?_)
  rw [show (max 0 (ad.amt - lv) != max 0 (ad.amt - lv)) = false by simp]
  refine if_ff (xNil ?_)
  refine xIf (Go.mono (Q := fun bb h' _ => bb = false ∧ ∃ xs, KOk y.len xs ∧ xs.length ≤ y.xs.length + 1 ∧ Lw c h₀ ad h' st1 { z with stats := some (.ref x) } { y with xs := xs } ((dx, FrmS 0 []) :: (x, NtP 171 dx [.int rs t1', .int (max 0 (ad.amt - lv)) t2']) :: l)) ?_ fun bb h' k' e => ?_)
  · refine iAnd (iVal (nameL w K.n (kOf K.sc n_live) (rr t0) mv (tInt ?_)))
    by_cases hz : lv = 0
    · have hb : (lv != 0) = false := by simp [hz]
      rw [hb]
      exact if_ff ⟨rfl, y.xs, hk, Nat.le_succ _, w⟩
    · rw [show (lv != 0) = true by simpa using hz]
      have hex := gl.2.1 hz
      have hrs' : rs = y.o1 + y.len := by rw [← hrs, hex]; rfl
      have ho : y.o1 = y.o0 + 1 := by
        rcases inv.fx with ⟨a, _⟩ | ⟨_, a, _⟩
        · exact absurd (by rw [hlv2]; unfold lvOf; split <;> first | exact a | rfl) hz
        · exact a
      refine if_tt (iNot (iVal (eCallN (nameG b w K.n (kOf K.sc n_told) (by k_is) (cwF ?_)))))
      refine aCons (nameL w K.n (kOf K.sc n_kept) (rr t0) (t11 t0) (aCons (eStr fun tm k => ?_)))
      refine aCons (eSub (nameL w K.n (kOf K.sc n_opened) (rr t0) (t9 t0) (eInt fun _ k => subI w (rr (t4 t0)) (by decide) (by decide) rfl fun u0 => ?_)))
      refine aCons (eSub (nameL w K.n (kOf K.sc n_opened) (rr t0) (t9 t0) (eInt fun _ k => subI w (rr (t4 t0)) (by decide) (by decide) rfl fun u1 => ?_)))
      refine aCons (eLen K w (rr (t1 t0)) (aCons (eAttr (nameL w K.n (kOf K.sc n_stats) (rr t0) (t21 t0) (gReset b hdl w mx mdx fun h k w => aNil ⟨keepK b w (by k_is), Go.ofC ?_⟩)))))
      refine gTold K w hk hx ho (by rw [hrs']; omega) fun xs h k a1 a2 w => tBool ⟨rfl, xs, a1, a2, w⟩
  obtain ⟨rfl, xs, hk', hx', w⟩ := e
  refine if_ff (xNil ?_)
  have mv : (Str.ofString "live", some (.int lv tl)) ∈ lf ad { z with stats := some (.ref x) } y.O y.G y.D := mv
  refine xIf (Go.mono (Q := fun bb h' _ => bb = false ∧ Lw c h₀ ad h' st1 { z with stats := some (.ref x) } { y with xs := xs } ((dx, FrmS 0 []) :: (x, NtP 171 dx [.int rs t1', .int (max 0 (ad.amt - lv)) t2']) :: l)) ?_ fun bb h' k' e => ?_)
  · refine iAnd (iCmp (nameL w K.n (kOf K.sc n_live) (rr t0) mv (eInt fun _ k => oEq (tBool (if_beq (fun hz => ?_) fun hz => ⟨rfl, w⟩)))))
    have hex := gl.2.2 hz
    have hrs' : rs = st.m + 2 := by rw [← hrs, hex]; show (stGet st).m + (stGet st).s = _; rw [gm.m, gm.s]; omega
    refine iOr (iCmp (eAttr (nameL w K.n (kOf K.sc n_stats) (rr t0) (t21 t0) (gReset b hdl w mx mdx fun h k w => ?_))))
    have mS : (y.L + 3, CellIs (some (.int st.m ts))) ∈ core c.w ad st1 ++ lr c.w ad { z with stats := some (.ref x) } { y with xs := xs } ((dx, FrmS 0 []) :: (x, NtP 171 dx [.int rs t1', .int (max 0 (ad.amt - lv)) t2']) :: l) := by rw [← hvt]; exact rr (t3 t0)
    refine nameC w K.n (kOf K.sc n_start) (by rw [K.ce]; rfl) mS (oLe (tBool ?_))
    rw [decide_eq_false (by omega : ¬ rs ≤ st.m)]
    refine if_ff (iCmp (eAttr (nameL w K.n (kOf K.sc n_stats) (rr t0) (t21 t0) (gReset b hdl w mx mdx fun h k w => ?_))))
    refine eMoment (st := st1) K w (t2 t0) t0 fun t k => oGt (tBool ?_)
    rw [decide_eq_false (by omega : ¬ rs > st1.m)]
    exact ⟨rfl, w⟩
  obtain ⟨rfl, w⟩ := e
  refine if_ff (xNil ?_)
  refine q st1 (some (.ref x)) xs _ _ m1e s1e inv1 hk' hx' ?_
  exact w.sub ((List.Sublist.refl _).append ((List.Sublist.refl _).append (.cons _ (.cons _ (List.Sublist.refl _)))))
end
end Mine

/-! I3 -/
namespace Mine
theorem fillI3 : PySem.Challenge.rw_bn0041_01 = PySem.Challenge.rw_bn0041_01 ∧ hd.heap_1 = hd.heap_1 := by
  k_fill
  exact ⟨rfl, rfl⟩
section
variable {c : Cx} {A : Around} {h₀ h : Heap} {k : Nat} {l l' : List It} {env : Env} {mg mb : Str → Option Value} {ad : Ad} {st : St} {z : Fz} {y : Lz}
theorem lv_same {m1 t : Int} {st : St} (fx : FX y.len st y.o0 y.o1 y.o2) (win : Win y.len m1 y.rows y.o0 y.o2) (hl : 300 ≤ y.len) (h1 : m1 ≤ t) (h2 : t ≤ m1 + 60) : lvOf y t = lvOf y m1 := by
  unfold lvOf
  rcases fx with ⟨a, _⟩ | ⟨a, _⟩
  · rw [a]; split <;> split <;> rfl
  · have := (near_live (win.o a) hl h1 h2).2
    by_cases h : y.o0 + y.len > t
    · rw [if_pos h, if_pos (this.mp h)]
    · rw [if_neg h, if_neg fun h' => h (this.mpr h')]
theorem sT3 {m1 : Int} {th : Tok} {I : Addr} {ins : List Rw} {rest : List Stmt} {Q : Flow → Heap → Nat → Prop} (K : LK c A h₀ mg mb env y.L ad) (w : Lw c h₀ ad h st z y ((I, LstV (refs ins)) :: l)) (hI : z.inside = some (.ref I)) (hh : z.here = some (.int (cs ins) th)) (hins : ins = y.rows.filter (liveAt y.len m1)) (hl : 300 ≤ y.len) (hlen : y.len = 60 * ad.mul)
    (hs : st.s = 1) (inv : Inv ad.amt y.len st y.rows y.o0 y.o1 y.o2) (win : Win y.len m1 y.rows y.o0 y.o2) (h1 : m1 ≤ st.m) (h2 : st.m ≤ m1 + 45) (hk : KOk y.len y.xs) (hx : y.xs.length ≤ 1000) (hn : y.rows.length ≤ 9)
    (q : ∀ st1 sts xs h k, st1.m = st.m + 1 → st1.s = 1 → Inv ad.amt y.len st1 y.rows y.o0 y.o1 y.o2 → KOk y.len xs → xs.length ≤ y.xs.length + 1 → Lw c h₀ ad h st1 { z with stats := sts } { y with xs := xs } ((I, LstV (refs ins)) :: l) → Go c A (execs rest env) h k Q) :
    Go c A (execs (stAt turnBody 8 :: stAt turnBody 9 :: stAt turnBody 10 :: rest) env) h k Q := by
  have b := K.b
  have hdl := K.dl
  refine xAssign ?_
  refine eCallM2 ?_ ?h1 ?h2 ?h3
  case h1 => rfl
  case h2 => rfl
  case h3 => rfl
  refine nameL w K.n (kOf K.sc n_moving) (rr t0) (t7 t0) (gMethA b w (t16 t0) (t17 t0) (m_mstats c) ?_)
  refine cwF (aCons (nameL w K.n (kOf K.sc n_item) (rr t0) (t3 t0) (aCons (nameL w K.n (kOf K.sc n_who) (rr t0) (t8 t0) (aNil ⟨keepK b w (by k_is), Go.ofC ?_⟩)))))
  refine mstats_ b w (by omega) K.hA K.ok (inv.ev (by omega)) fun x dx start r l1 t1' t2' h k gok w => ?_
  rw [← hlen] at gok w
  have G := inv.gmw win hl (t := st.m + st.s) (by omega) (by omega) (by omega) gok
  rw [← hins] at G
  rw [G.1] at w
  have inv1 := inv.tick (by omega : 0 ≤ st.s) l1
  generalize hst1 : ({ stTick st with l1 := l1 } : St) = st1 at w inv1
  have m1e : st1.m = st.m + 1 := by rw [← hst1]; show st.m + st.s = _; omega
  have s1e : st1.s = 1 := by rw [← hst1]; exact hs
  generalize hrs : start + y.len = rs at w
  have w := Led.back (P := (dx, FrmS 0 []) :: core c.w ad st1) w
  have w : Lw c h₀ ad h st1 z y ((dx, FrmS 0 []) :: (x, NtP 171 dx [.int rs t1', .int (ad.amt - cs ins) t2']) :: (I, LstV (refs ins)) :: l) := Led.back w
  refine storeL w K.n (kOf K.sc n_stats) f_stats (Sw.appL .z _) fun h k w => ?_
  generalize htl : (dx, FrmS 0 []) :: (x, NtP 171 dx [.int rs t1', .int (ad.amt - cs ins) t2']) :: (I, LstV (refs ins)) :: l = tl at w
  have w : Lw c h₀ ad h st1 { z with stats := some (.ref x) } y tl := w
  have ex : (x, NtP 171 dx [.int rs t1', .int (ad.amt - cs ins) t2']) ∈ tl := by rw [← htl]; exact t1 t0
  have edx : (dx, FrmS 0 []) ∈ tl := by rw [← htl]; exact t0
  have eI : (I, LstV (refs ins)) ∈ tl := by rw [← htl]; exact t2 t0
  have mH : (Str.ofString "here", some (.int (cs ins) th)) ∈ lf ad { z with stats := some (.ref x) } y.O y.G y.D := by unfold lf; dsimp only; rw [hh]; exact t20 t0
  have mIn : (Str.ofString "inside", some (.ref I)) ∈ lf ad { z with stats := some (.ref x) } y.O y.G y.D := by unfold lf; dsimp only; rw [hI]; exact t19 t0
  refine xIf (iCmp (eAttr (nameL w K.n (kOf K.sc n_stats) (rr t0) (t21 t0) (gRemain b hdl w (rr (rr ex)) (rr (rr edx)) fun h k w => ?_))))
  refine eBin (nameL w K.n (kOf K.sc n_amount) (rr t0) (t2 t0) (nameL w K.n (kOf K.sc n_here) (rr t0) mH (oSub fun _ k => oNe (tBool ?_))))
  rw [show (ad.amt - cs ins != ad.amt - cs ins) = false by simp]
  refine if_ff (xNil ?_)
  refine xIf (Go.mono (Q := fun bb h' _ => bb = false ∧ ∃ xs, KOk y.len xs ∧ xs.length ≤ y.xs.length + 1 ∧ Lw c h₀ ad h' st1 { z with stats := some (.ref x) } { y with xs := xs } tl) ?_ fun bb h' k' e => ?_)
  · have hln : ins.length ≤ y.rows.length := by rw [hins]; exact List.length_filter_le _ _
    refine iAnd (iVal (nameL w K.n (kOf K.sc n_inside) (rr t0) mIn (tLst w (rr (rr eI)) (by show (refs ins).length < 2 ^ 62; rw [List.length_map]; omega) fun k => ?_)))
    cases hi : ins with
    | nil => exact if_ff ⟨rfl, y.xs, hk, Nat.le_succ _, w⟩
    | cons r0 rs0 =>
      have hst : start = r0.b + 1 := G.2 r0 rs0 hi
      have hr0 : r0 ∈ y.rows := by
        have : r0 ∈ ins := by rw [hi]; simp
        rw [hins] at this
        exact (List.mem_filter.mp this).1
      have hv : (refs ins)[0]? = some (.ref r0.a) := by rw [hi]; rfl
      have hz : (refs ins).length < 2 ^ 62 := by rw [List.length_map]; omega
      refine if_tt (iNot (iVal (eCallN (nameG b w K.n (kOf K.sc n_told) (by k_is) (cwF ?_)))))
      refine aCons (nameL w K.n (kOf K.sc n_kept) (rr t0) (t11 t0) (aCons (eStr fun tm k => ?_)))
      refine aCons (eSub (eSub (nameL w K.n (kOf K.sc n_inside) (rr t0) mIn (eInt fun _ k => subL w (rr (rr eI)) hz (.inl ⟨by decide, hv⟩) (eInt fun _ k => subT (i := 0) w (rowMem hr0) (by decide) rfl ?_)))))
      refine aCons (eSub (eSub (nameL w K.n (kOf K.sc n_inside) (rr t0) mIn (eInt fun _ k => subL w (rr (rr eI)) hz (.inl ⟨by decide, hv⟩) (eInt fun _ k => subT (i := 1) w (rowMem hr0) (by decide) rfl ?_)))))
      refine aCons (eLen K w (rr (t1 t0)) (aCons (eAttr (nameL w K.n (kOf K.sc n_stats) (rr t0) (t21 t0) (gReset b hdl w (rr (rr ex)) (rr (rr edx)) fun h k w => aNil ⟨keepK b w (by k_is), Go.ofC ?_⟩)))))
      refine gTold K w hk hx rfl (by rw [← hrs, hst]) fun xs h k a1 a2 w => tBool ⟨rfl, xs, a1, a2, w⟩
  obtain ⟨rfl, xs, hk', hx', w⟩ := e
  refine if_ff (xNil ?_)
  refine q st1 (some (.ref x)) xs _ _ m1e s1e inv1 hk' hx' ?_
  subst htl
  exact w.sub ((List.Sublist.refl _).append ((List.Sublist.refl _).append (.cons _ (.cons _ (List.Sublist.refl _)))))
theorem sT4 {m1 lv cost : Int} {th tl tc : Tok} {ins : List Rw} {rest : List Stmt} {Q : Flow → Heap → Nat → Prop} (K : LK c A h₀ mg mb env y.L ad) (w : Lw c h₀ ad h st z y l) (hlv : z.live = some (.int lv tl)) (hh : z.here = some (.int (cs ins) th)) (hcst : z.cost = some (.int cost tc)) (hins : ins = y.rows.filter (liveAt y.len m1)) (hlv2 : lv = lvOf y m1) (hl : 300 ≤ y.len) (hlen : y.len = 60 * ad.mul)
    (hs : st.s = 1) (inv : Inv ad.amt y.len st y.rows y.o0 y.o1 y.o2) (win : Win y.len m1 y.rows y.o0 y.o2) (h1 : m1 ≤ st.m) (h2 : st.m ≤ m1 + 45) (hn : y.rows.length ≤ 9)
    (q : ∀ st1 h k, st1.m = st.m + 2 → st1.s = 1 → Inv ad.amt y.len st1 y.rows y.o0 y.o1 y.o2 → Lw c h₀ ad h st1 z y l → Go c A (execs rest env) h k Q) :
    Go c A (execs (stAt turnBody 11 :: rest) env) h k Q := by
  have b := K.b
  have hdl := K.dl
  have gl := get_live inv.fx win hl hs h1 (by omega)
  have gm := get_ok inv.fx (by omega : 0 ≤ st.s)
  have gi := inv.get (by omega : 0 ≤ st.s)
  change (stGet st).cnt.getD 0 = lvOf y (st.m + 1) ∧ _ at gl
  rw [lv_same inv.fx win hl (by omega) (by omega), ← hlv2] at gl
  have mV : (Str.ofString "live", some (.int lv tl)) ∈ lf ad z y.O y.G y.D := by unfold lf; rw [hlv]; exact t18 t0
  have mH : (Str.ofString "here", some (.int (cs ins) th)) ∈ lf ad z y.O y.G y.D := by unfold lf; rw [hh]; exact t20 t0
  have mC : (Str.ofString "cost", some (.int cost tc)) ∈ lf ad z y.O y.G y.D := by unfold lf; rw [hcst]; exact t13 t0
  refine xIf (Go.mono (Q := fun bb h' _ => bb = false ∧ ∃ st1, st1.m = st.m + 2 ∧ st1.s = 1 ∧ Inv ad.amt y.len st1 y.rows y.o0 y.o1 y.o2 ∧ Lw c h₀ ad h' st1 z y l) ?_ fun bb h' k' e => ?_)
  · refine iOr (iCmp ?_)
    refine eCallM2 ?_ ?h1 ?h2 ?h3
    case h1 => rfl
    case h2 => rfl
    case h3 => rfl
    refine nameL w K.n (kOf K.sc n_fixed) (rr t0) (t6 t0) (gMethA b w (t14 t0) (t15 t0) (m_ftest c) ?_)
    refine cwF (aCons (nameL w K.n (kOf K.sc n_item) (rr t0) (t3 t0) (aCons (nameL w K.n (kOf K.sc n_who) (rr t0) (t8 t0) (aCons (nameL w K.n (kOf K.sc n_cost) (rr t0) mC (aNil ⟨keepK b w (by k_is), Go.ofC ?_⟩)))))))
    refine ftest_ b w (by omega) K.hA K.ok fun h k w => ?_
    refine eCmp (eBin (nameL w K.n (kOf K.sc n_live) (rr t0) mV (nameL w K.n (kOf K.sc n_cost) (rr t0) mC (oAdd fun _ k => nameL w K.n (kOf K.sc n_amount) (rr t0) (t2 t0) (oLe (oNeB (tBool ?_)))))))
    rw [gl.1, show (decide (lv < ad.amt - cost + 1) != decide (lv + cost ≤ ad.amt)) = false by
      have : (lv < ad.amt - cost + 1) ↔ (lv + cost ≤ ad.amt) := by omega
      simp [this]]
    refine if_ff (iCmp ?_)
    generalize hst1 : stGet st = st1 at w gi gm
    have m1e : st1.m = st.m + 1 := by rw [← hst1, gm.m]; omega
    have s1e : st1.s = 1 := by rw [← hst1, gm.s]; exact hs
    refine eCallM2 ?_ ?h1 ?h2 ?h3
    case h1 => rfl
    case h2 => rfl
    case h3 => rfl
    refine nameL w K.n (kOf K.sc n_moving) (rr t0) (t7 t0) (gMethA b w (t16 t0) (t17 t0) (m_mtest c) ?_)
    refine cwF (aCons (nameL w K.n (kOf K.sc n_item) (rr t0) (t3 t0) (aCons (nameL w K.n (kOf K.sc n_who) (rr t0) (t8 t0) (aCons (nameL w K.n (kOf K.sc n_cost) (rr t0) mC (aNil ⟨keepK b w (by k_is), Go.ofC ?_⟩)))))))
    refine mtest_ b w (by omega) K.hA K.ok (gi.ev (by omega)) fun start r l1 h k gok w => ?_
    rw [← hlen] at gok
    have G := gi.gmw win hl (t := st1.m + st1.s) (by omega) (by omega) (by omega) gok
    rw [← hins] at G
    refine eCmp (eBin (nameL w K.n (kOf K.sc n_here) (rr t0) mH (nameL w K.n (kOf K.sc n_cost) (rr t0) mC (oAdd fun _ k => nameL w K.n (kOf K.sc n_amount) (rr t0) (t2 t0) (oLe (oNeB (tBool ?_)))))))
    rw [G.1, show (decide (cs ins ≤ ad.amt - cost) != decide (cs ins + cost ≤ ad.amt)) = false by
      have : (cs ins ≤ ad.amt - cost) ↔ (cs ins + cost ≤ ad.amt) := by omega
      simp [this]]
    exact ⟨rfl, { stTick st1 with l1 := l1 }, by show st1.m + st1.s = _; omega, s1e, gi.tick (by omega) l1, w⟩
  obtain ⟨rfl, st1, a1, a2, a3, w⟩ := e
  exact if_ff (xNil (q st1 _ _ a1 a2 a3 w))
end
end Mine

/-! I4 -/
namespace Mine
theorem fillI4 : PySem.Challenge.rw_bn0041_01 = PySem.Challenge.rw_bn0041_01 ∧ hd.heap_1 = hd.heap_1 := by
  k_fill
  exact ⟨rfl, rfl⟩
theorem list12 : ∀ {l : List Stmt}, l.length = 12 → l = [stAt l 0, stAt l 1, stAt l 2, stAt l 3, stAt l 4, stAt l 5, stAt l 6, stAt l 7, stAt l 8, stAt l 9, stAt l 10, stAt l 11]
  | [_, _, _, _, _, _, _, _, _, _, _, _], _ => rfl
theorem list8 : ∀ {l : List Stmt}, l.length = 8 → l = [stAt l 0, stAt l 1, stAt l 2, stAt l 3, stAt l 4, stAt l 5, stAt l 6, stAt l 7]
  | [_, _, _, _, _, _, _, _], _ => rfl
theorem list21 : ∀ {l : List Stmt}, l.length = 21 → l = [stAt l 0, stAt l 1, stAt l 2, stAt l 3, stAt l 4, stAt l 5, stAt l 6, stAt l 7, stAt l 8, stAt l 9, stAt l 10, stAt l 11, stAt l 12, stAt l 13, stAt l 14, stAt l 15, stAt l 16, stAt l 17, stAt l 18, stAt l 19, stAt l 20]
  | [_, _, _, _, _, _, _, _, _, _, _, _, _, _, _, _, _, _, _, _, _], _ => rfl
section
variable {c : Cx} {A : Around} {h₀ h : Heap} {k : Nat} {l l' : List It} {env : Env} {mg mb : Str → Option Value} {ad : Ad} {st : St} {z : Fz} {y : Lz}
theorem sT {m1 cost : Int} {tc : Tok} {Q : Flow → Heap → Nat → Prop} (K : LK c A h₀ mg mb env y.L ad) (w : Lw c h₀ ad h st z y l) (hcst : z.cost = some (.int cost tc)) (hl : 300 ≤ y.len) (hlen : y.len = 60 * ad.mul)
    (hs : st.s = 1) (inv : Inv ad.amt y.len st y.rows y.o0 y.o1 y.o2) (win : Win y.len m1 y.rows y.o0 y.o2) (h1 : m1 ≤ st.m) (h2 : st.m ≤ m1 + 35) (hk : KOk y.len y.xs) (hx : y.xs.length ≤ 990) (hn : y.rows.length ≤ 9)
    (q : ∀ st' z' vt xs h k, st.m ≤ st'.m → st'.m ≤ st.m + 5 → st'.s = 1 → Inv ad.amt y.len st' y.rows y.o0 y.o1 y.o2 → KOk y.len xs → xs.length ≤ y.xs.length + 2 → z'.cost = some (.int cost tc) → Lw c h₀ ad h st' z' { y with vt := vt, xs := xs } l → Q .next h k) :
    Go c A (execs turnBody env) h k Q := by
  rw [list12 fb_len.2.1]
  refine sT1 K w hn fun ts tl I th h k w => ?_
  generalize hz1 : ({ z with live := some (.int (lvOf y (st.m + 1)) tl), inside := some (.ref I), here := some (.int (cs (insOf y (st.m + 1))) th) } : Fz) = z1 at w
  have e1 : z1.live = some (.int (lvOf y (st.m + 1)) tl) := by rw [← hz1]
  have e2 : z1.inside = some (.ref I) := by rw [← hz1]
  have e3 : z1.here = some (.int (cs (insOf y (st.m + 1))) th) := by rw [← hz1]
  have e4 : z1.cost = some (.int cost tc) := by rw [← hz1]; exact hcst
  clear hz1
  have hins : insOf y (st.m + 1) = y.rows.filter (liveAt y.len m1) := win.same hl (by omega) (by omega)
  have hlv : lvOf y (st.m + 1) = lvOf y m1 := lv_same inv.fx win hl (by omega) (by omega)
  generalize insOf y (st.m + 1) = ins at w e3 hins
  refine sT2 (y := { y with vt := some (.int st.m ts) }) (m1 := m1) K w e1 rfl rfl hl hs inv win h1 (by omega) hk (by show y.xs.length ≤ 1000; omega) fun st1 sts xs h k a1 a2 inv1 hk1 hx1 w => ?_
  have hx1 : xs.length ≤ y.xs.length + 1 := hx1
  generalize hz2 : ({ z1 with stats := sts } : Fz) = z2 at w
  have f1 : z2.live = some (.int (lvOf y (st.m + 1)) tl) := by rw [← hz2]; exact e1
  have f2 : z2.inside = some (.ref I) := by rw [← hz2]; exact e2
  have f3 : z2.here = some (.int (cs ins) th) := by rw [← hz2]; exact e3
  have f4 : z2.cost = some (.int cost tc) := by rw [← hz2]; exact e4
  clear hz2
  refine sT3 (y := { y with vt := some (.int st.m ts), xs := xs }) (m1 := m1) K w f2 f3 hins hl hlen a2 inv1 win (by omega) (by omega) hk1 (by show xs.length ≤ 1000; omega) hn fun st2 sts2 xs2 h k b1 b2 inv2 hk2 hx2 w => ?_
  have hx2 : xs2.length ≤ xs.length + 1 := hx2
  generalize hz3 : ({ z2 with stats := sts2 } : Fz) = z3 at w
  have g1 : z3.live = some (.int (lvOf y (st.m + 1)) tl) := by rw [← hz3]; exact f1
  have g3 : z3.here = some (.int (cs ins) th) := by rw [← hz3]; exact f3
  have g4 : z3.cost = some (.int cost tc) := by rw [← hz3]; exact f4
  clear hz3
  have w : Lw c h₀ ad h st2 z3 { y with vt := some (.int st.m ts), xs := xs2 } ((I, LstV (refs ins)) :: l) := w
  refine sT4 (y := { y with vt := some (.int st.m ts), xs := xs2 }) (m1 := m1) K w g1 g3 g4 hins hlv hl hlen b2 inv2 win (by omega) (by omega) hn fun st3 h k c1 c2 inv3 w => ?_
  have w := (Led.front w).drop
  exact xNil (q st3 z3 (some (.int st.m ts)) xs2 _ _ (by omega) (by omega) c2 inv3 hk2 (by omega) g4 w)

/-! for over a range -/
def RngP (n : Nat) (o : Obj) : Prop := ∃ t u v : Tok, o = { cls := .type "range", dict := none, data := .fields #[.int 0 t, .int (n : Int) u, .int 1 v], slots := #[] }
def RngIt (i n : Nat) (o : Obj) : Prop := o = { cls := .type "range_iterator", dict := none, data := .fields #[rawInt (i : Int), rawInt ((n : Int) - i), rawInt 1], slots := #[] }
theorem gRange {n : Nat} {t : Tok} {Q : Value → Heap → Nat → Prop} (w : Led h₀ h l) (q : ∀ r h' k', Led h₀ h' ((r, RngP n) :: l) → Q (.ref r) h' k') : Go c A (call (.type "range") [.int (n : Int) t]) h k Q :=
  call_range_1 (s := c.s h k) ⟨_, _, rfl, q _ _ _ (w.alloc _ rfl ⟨k, t, k + 1, rfl⟩)⟩
theorem xForR {n : Nat} {target iter : PySem.Expr} {body rest : List Stmt} {pos : Pos} {Q : Flow → Heap → Nat → Prop} (hA : A.handled = none) (hn : n < 1000)
    (x : Go c A (eval iter env) h k fun v h k => ∃ (J : Nat → List It → Prop) (a : Addr) (l : List It), v = .ref a ∧ Led h₀ h ((a, RngP n) :: l) ∧ J 0 l ∧
      (∀ it i t h k l, i < n → Led h₀ h ((it, RngIt (i + 1) n) :: l) → J i l → Go c A (assign target env (.int (i : Int) t)) h k fun _ h k => Go c A (execs body env) h k fun f h k => match f with
        | .next | .cont => ∃ l', Led h₀ h ((it, RngIt (i + 1) n) :: l') ∧ J (i + 1) l'
        | .brk => Go c A (execs rest env) h k Q
        | .ret v => Q (.ret v) h k) ∧
      (∀ h k l, Led h₀ h l → J n l → Go c A (execs rest env) h k Q))
    (hs : ∀ x, foldedSetIterable iter env x = pure x := by intro _; rfl) (ht : ∀ it v, letOwnedTupleGo target it v = pure () := by intro _ _; rfl) : Go c A (execs (.For target iter body [] pos :: rest) env) h k Q := by
  refine xCons (wpAny_For (x.toWp fun v h k z => ?_) hs)
  obtain ⟨J, a, l, rfl, w, j, step, fin⟩ := z
  have hsz : Builtin.Range.rangeSize 0 (n : Int) 1 = (n : Int) := by rw [rangeSize_one]; split <;> omega
  refine Go.toWp (Q := fun it h k => ∃ it', it = .ref it' ∧ Led h₀ h ((it', RngIt 0 n) :: l)) ?_ fun it h k z => ?_
  · obtain ⟨o, e, t, u, v', rfl⟩ := w.get (.head _)
    refine wpAny_pyIter_range (s := c.s h k) (a := 0) (b := (n : Int)) (c := 1) e (small_one (by decide) (by decide) (by omega) (by omega)) ⟨_, _, rfl, _, rfl, w.drop.alloc _ rfl ?_⟩
    rw [hsz]; unfold RngIt; simp
  obtain ⟨it, rfl, w⟩ := z
  refine codeAny_forLoop (fun m s' => ∃ i h k l, m + i = n + 1 ∧ i ≤ n ∧ s' = c.s h k ∧ Led h₀ h ((it, RngIt i n) :: l) ∧ J i l) ?_ (n + 1) ⟨0, h, k, l, rfl, Nat.zero_le _, rfl, w, j⟩ (ht _)
  rintro m s' ⟨i, h, k, l, hm, hi, rfl, w, j⟩
  obtain ⟨o, e, p⟩ := w.get (.head _)
  unfold RngIt at p
  subst p
  rcases Nat.lt_or_ge i n with hlt | hge
  · refine Go.toWp (Q := fun r h k => ∃ t, r = some (.int (i : Int) t) ∧ Led h₀ h ((it, RngIt (i + 1) n) :: l)) ?_ fun r h k z => ?_
    · refine wpAny_pyNext_range_item (s := c.s h k) (x := (i : Int)) (left := (n : Int) - i) (step := 1) e (by omega) fun h' e' hs' => ⟨h', k + 1, rfl, k, rfl, w.same .z hs' ⟨_, e', ?_⟩⟩
      unfold RngIt
      rw [show ((n : Int) - ((i + 1 : Nat) : Int)) = (n : Int) - i - 1 by omega, show ((i + 1 : Nat) : Int) = (i : Int) + 1 by omega]
    obtain ⟨t, rfl, w⟩ := z
    refine (step it i t h k l hlt w j).toWp fun _ h k y => y.toWp fun f h k z => ?_
    cases f with
    | next => obtain ⟨l', w, j⟩ := z; exact ⟨m - 1, by omega, i + 1, h, k, l', by omega, by omega, rfl, w, j⟩
    | cont => obtain ⟨l', w, j⟩ := z; exact ⟨m - 1, by omega, i + 1, h, k, l', by omega, by omega, rfl, w, j⟩
    | brk => exact ⟨h, k, rfl, z⟩
    | ret v => exact ⟨h, k, rfl, z⟩
  · have : i = n := Nat.le_antisymm hi hge
    subst this
    refine Go.toWp (Q := fun r h k => r = none ∧ Led h₀ h l) (wpAny_pyNext_range_end (s := c.s h k) hA e (by omega) fun h' hs' => ⟨h', k, rfl, rfl, w.ext hs'⟩) fun r h k z => ?_
    obtain ⟨rfl, w⟩ := z
    exact wpAny_execs_nil ⟨h, k, rfl, fin h k l w j⟩
end
end Mine

/-! I5 -/
namespace Mine
theorem fillI5 : PySem.Challenge.rw_bn0041_01 = PySem.Challenge.rw_bn0041_01 ∧ hd.heap_1 = hd.heap_1 := by
  k_fill
  exact ⟨rfl, rfl⟩
section
variable {c : Cx} {A : Around} {h₀ h : Heap} {k : Nat} {l l' : List It} {env : Env} {mg mb : Str → Option Value} {ad : Ad} {st : St} {z : Fz} {y : Lz}
theorem sU {m1 cost : Int} {tc : Tok} {rest : List Stmt} {Q : Flow → Heap → Nat → Prop} (K : LK c A h₀ mg mb env y.L ad) (w : Lw c h₀ ad h st z y l) (hcst : z.cost = some (.int cost tc)) (hl : 300 ≤ y.len) (hlen : y.len = 60 * ad.mul)
    (hs : st.s = 1) (inv : Inv ad.amt y.len st y.rows y.o0 y.o1 y.o2) (win : Win y.len m1 y.rows y.o0 y.o2) (h1 : m1 ≤ st.m) (h2 : st.m ≤ m1 + 25) (hk : KOk y.len y.xs) (hx : y.xs.length ≤ 980) (hn : y.rows.length ≤ 9)
    (q : ∀ st' z' vt xs h k, st'.s = 1 → Inv ad.amt y.len st' y.rows y.o0 y.o1 y.o2 → KOk y.len xs → xs.length ≤ y.xs.length + 4 → Lw c h₀ ad h st' z' { y with vt := vt, xs := xs } l → Go c A (execs rest env) h k Q) :
    Go c A (execs (stAt forBody 7 :: rest) env) h k Q := by
  have b := K.b
  refine xForR (h₀ := h₀) (n := 2) K.hA (by decide) (eCallN (nameB (v := .type "range") b w K.n (kOf K.sc n_range) (by k_is) (by decide +kernel) (by decide) (cwF (aCons (eInt fun t k => aNil ⟨keepType, gRange (n := 2) w fun r h k w => ?_⟩)))))
  refine ⟨fun i l' => ∃ st' z' vt xs, l' = core c.w ad st' ++ lr c.w ad z' { y with vt := vt, xs := xs } l ∧ st.m ≤ st'.m ∧ st'.m ≤ st.m + 5 * i ∧ st'.s = 1 ∧ Inv ad.amt y.len st' y.rows y.o0 y.o1 y.o2 ∧ KOk y.len xs ∧ xs.length ≤ y.xs.length + 2 * i ∧ z'.cost = some (.int cost tc), r, _, rfl, w, ⟨st, z, y.vt, y.xs, rfl, Int.le_refl _, by omega, hs, inv, hk, by omega, hcst⟩, ?_, ?_⟩
  · rintro it i t h k l' hi w ⟨st', z', vt, xs, rfl, a1, a2, a3, a4, a5, a6, a7⟩
    have w : Led h₀ h (core c.w ad st' ++ lr c.w ad z' { y with vt := vt, xs := xs } ((it, RngIt (i + 1) 2) :: l)) := Led.back w
    refine aName (storeL w K.n (kOf K.sc n_turn) f_turn (Sw.appL .z _) fun h k w => ?_)
    generalize hz : ({ z' with turn := some (.int (i : Int) t) } : Fz) = z1 at w
    have e1 : z1.cost = some (.int cost tc) := by rw [← hz]; exact a7
    have w : Lw c h₀ ad h st' z1 { y with vt := vt, xs := xs } ((it, RngIt (i + 1) 2) :: l) := by subst hz; exact w
    refine sT (y := { y with vt := vt, xs := xs }) (m1 := m1) K w e1 hl hlen a3 a4 win (by omega) (by omega) a5 (by show xs.length ≤ 990; omega) hn fun st2 z2 vt2 xs2 h k b1 b2 b3 b4 b5 b6 b7 w => ?_
    have b6 : xs2.length ≤ xs.length + 2 := b6
    exact ⟨_, Led.front w, st2, z2, vt2, xs2, rfl, by omega, by omega, b3, b4, b5, by omega, b7⟩
  · rintro h k l' w ⟨st', z', vt, xs, rfl, a1, a2, a3, a4, a5, a6, a7⟩
    exact q st' z' vt xs h k a3 a4 a5 (by omega) w
structure Dd (ad : Ad) (L : Addr) (i : Nat) (st : St) (y : Lz) : Prop where
  L : y.L = L
  len : y.len = 60 * ad.mul
  inv : Inv ad.amt y.len st y.rows y.o0 y.o1 y.o2
  kok : KOk y.len y.xs
  rows : y.rows.length ≤ i
  xs : y.xs.length ≤ 4 * i
  s : st.s = 1
theorem FX.ord {len o0 o1 o2 : Int} {st : St} (x : FX len st o0 o1 o2) : o0 ≤ o1 := by
  rcases x with ⟨a, b, c, _⟩ | ⟨a, b, _⟩ <;> omega
theorem sDeed {L : Addr} {i : Nat} {nv : Int} {tn : Tok} {Q : Flow → Heap → Nat → Prop} (K : LK c A h₀ mg mb env L ad) (w : Lw c h₀ ad h st z y l) (hn : z.n = some (.int nv tn)) (hmul : 5 ≤ ad.mul ∧ ad.mul ≤ 20) (d : Dd ad L i st y) (hi : i < 9)
    (q : ∀ st' z' y' h k, Dd ad L (i + 1) st' y' → Lw c h₀ ad h st' z' y' l → Q .next h k) : Go c A (execs forBody env) h k Q := by
  obtain ⟨rfl, hlen, inv, hk, hrows, hxs, hs⟩ := d
  have ha := K.ok.a1
  have ha2 := K.ok.a2
  have hl : 300 ≤ y.len := by omega
  rw [list8 fb_len.1]
  refine sA K w ⟨hl, by omega⟩ hn fun inc h k hinc w => ?_
  refine sB K w inv.asc (by omega) inv.fx.ord fun m' h k hm haw w => ?_
  have inv : Inv ad.amt y.len { st with m := m' } y.rows y.o0 y.o1 y.o2 := inv.next (by show st.m ≤ m'; have : st.m + inc ≤ m' := hm; omega) rfl (fun _ h => h) (inv.fx.later (by show st.m ≤ m'; have : st.m + inc ≤ m' := hm; omega) rfl rfl)
  have win : Win y.len m' y.rows y.o0 y.o2 := inv.fx.win haw
  have w : Lw c h₀ ad h { st with m := m' } z y l := w
  generalize hst : ({ st with m := m' } : St) = s0 at w inv
  have hs0 : s0.s = 1 := by rw [← hst]; exact hs
  have hm0 : s0.m = m' := by rw [← hst]
  clear hst haw hm
  refine sC K w hn fun cost tc verb tv h k hc1 hc2 w => ?_
  generalize hz : ({ z with cost := some (.int cost tc), verb := some (.int verb tv) } : Fz) = z1 at w
  have c1 : z1.cost = some (.int cost tc) := by rw [← hz]
  have v1 : z1.verb = some (.int verb tv) := by rw [← hz]
  clear hz
  have hes := inv.esLen
  refine sD K w v1 hlen (inv.ev (by omega)) (by omega) fun s1 h k hs1 w => ?_
  have E : Inv ad.amt y.len s1 y.rows y.o0 y.o1 y.o2 ∧ s0.m ≤ s1.m ∧ s1.m ≤ s0.m + 2 ∧ s1.s = 1 := by
    rcases hs1 with rfl | hs1
    · exact ⟨inv, Int.le_refl _, by omega, hs0⟩
    · exact exp_inv inv hs0 hs1
  obtain ⟨inv1, e1, e2, e3⟩ := E
  clear hs1
  refine sE (m1 := m') K w v1 c1 hlen hl hc1 hc2 e3 inv1 win (by omega) (by omega) (by omega) fun s2 vb room rows h k inv2 win2 f1 f2 f3 f4 w => ?_
  generalize hz : ({ z1 with room := room } : Fz) = z2 at w
  have c2 : z2.cost = some (.int cost tc) := by rw [← hz]; exact c1
  have v2 : z2.verb = some (.int verb tv) := by rw [← hz]; exact v1
  clear hz
  generalize hy : ({ y with vb := vb, rows := rows } : Lz) = y2 at w
  have K2 : LK c A h₀ mg mb env y2.L ad := by rw [← hy]; exact K
  have i2 : Inv ad.amt y2.len s2 y2.rows y2.o0 y2.o1 y2.o2 := by rw [← hy]; exact inv2
  have w2 : Win y2.len m' y2.rows y2.o0 y2.o2 := by rw [← hy]; exact win2
  have y2a : y2.len = y.len ∧ y2.L = y.L ∧ y2.rows.length ≤ i + 1 ∧ y2.xs = y.xs := by rw [← hy]; exact ⟨rfl, rfl, by show rows.length ≤ i + 1; omega, rfl⟩
  clear hy
  obtain ⟨yl, yL, yr, yx⟩ := y2a
  refine sF (m1 := m') K2 w v2 c2 (by omega) (by omega) hc1 f3 i2 w2 (by omega) (by omega) fun s3 vb3 let_ O o0 o1 o2 h k inv3 win3 g1 g2 g3 w => ?_
  generalize hz : ({ z2 with let_ := let_ } : Fz) = z3 at w
  have c3 : z3.cost = some (.int cost tc) := by rw [← hz]; exact c2
  clear hz
  generalize hy : ({ y2 with vb := vb3, O := O, o0 := o0, o1 := o1, o2 := o2 } : Lz) = y3 at w
  have K3 : LK c A h₀ mg mb env y3.L ad := by rw [← hy]; exact K2
  have i3 : Inv ad.amt y3.len s3 y3.rows y3.o0 y3.o1 y3.o2 := by rw [← hy]; exact inv3
  have w3 : Win y3.len m' y3.rows y3.o0 y3.o2 := by rw [← hy]; exact win3
  have y3a : y3.len = y.len ∧ y3.L = y.L ∧ y3.rows.length ≤ i + 1 ∧ y3.xs = y.xs := by rw [← hy]; exact ⟨yl, yL, yr, yx⟩
  clear hy
  obtain ⟨yl3, yL3, yr3, yx3⟩ := y3a
  refine sU (m1 := m') K3 w c3 (by omega) (by omega) g3 i3 w3 (by omega) (by omega) (by rw [yl3, yx3]; exact hk) (by rw [yx3]; omega) (by omega) fun s4 z4 vt xs h k j1 j2 j3 j4 w => ?_
  refine xNil (q s4 z4 { y3 with vt := vt, xs := xs } h k ⟨yL3, by show y3.len = _; omega, j2, j3, yr3, ?_, j1⟩ w)
  show xs.length ≤ 4 * (i + 1)
  rw [yx3] at j4; omega
end
end Mine

/-! I6 -/
namespace Mine
section
variable {c : Cx} {A : Around} {h₀ h : Heap} {k : Nat} {l l' : List It} {env : Env} {mg mb : Str → Option Value} {ad : Ad} {st : St} {z : Fz} {y : Lz}
theorem eSubSl {value : PySem.Expr} {lower upper : Option PySem.Expr} {p pos : Pos} {Q : Value → Heap → Nat → Prop}
    (x : Go c A (eval value env) h k fun o h k => Go c A (evalPart lower env) h k fun vl h k => Go c A (evalPart upper env) h k fun vu h k => ∃ a items lo hi l, o = .ref a ∧ h.IsList a items ∧ items.size ≤ sizeLine ∧ IsPart vl lo ∧ IsPart vu hi ∧ Led h₀ h l ∧
      ∀ T h', Led h₀ h' ((T, LstV (slicePick items lo hi none).toList) :: l) → Q (.ref T) h' k)
    (ht : ∀ o r, letTemporaryGo value o r = pure () := by intro _ _; rfl) : Go c A (eval (.Subscript value (.Slice lower upper none p) pos) env) h k Q := by
  refine wpAny_Subscript_list_slice (x.toWp fun o h k y => y.toWp fun vl h k y => y.toWp fun vu h k z => ?_) ht
  obtain ⟨a, items, lo, hi, l, rfl, hl, hsz, pl, pu, w, q⟩ := z
  refine ⟨a, items, lo, hi, rfl, hl, hsz, pl, pu, _, _, rfl, q _ _ ?_⟩
  have w1 := w.grow (h' := h.push { cls := .type "slice", data := .fields #[vl, vu, .none] }) fun b o e => Heap.get?_push_of_some _ e
  have w2 := w1.alloc { cls := .type "list", data := .seq (slicePick items lo hi none) } (P := LstV (slicePick items lo hi none).toList) rfl ⟨_, by simp; rfl⟩
  rw [Heap.size_push] at w2
  exact w2
theorem sMain {L S : Addr} {vs : List Value} {ns : List Int} {rest : List Stmt} {Q : Flow → Heap → Nat → Prop} (K : LK c A h₀ mg mb env L ad) (w : Lw c h₀ ad h st z y l) (hS : z.sc = .ref S) (hl : h₀.IsList S vs.toArray) (hI : IntsAre vs ns) (hn : vs.length ≤ 1000) (hmul : 5 ≤ ad.mul ∧ ad.mul ≤ 20) (d : Dd ad L 0 st y)
    (q : ∀ st' z' y' i h k, i ≤ 8 → Dd ad L i st' y' → Lw c h₀ ad h st' z' y' l → Go c A (execs rest env) h k Q) : Go c A (execs (stAt lawBody 14 :: rest) env) h k Q := by
  have K0 : LK c A h₀ mg mb env y.L ad := by rw [d.L]; exact K
  have hn1 : ns.length = vs.length := hI.length.symm
  refine xFor (h₀ := h₀) K.hA (eBin (eSubSl (h₀ := h₀) (nameL w K0.n (kOf K.sc n_script) (rr t0) t0 (pSome (eInt fun t1' k => pSome (eInt fun t2' k => ?_))))))
  rw [hS]
  obtain ⟨oS, eS, dS, nS, cS⟩ := hl
  refine ⟨S, vs.toArray, some 1, some 8, _, rfl, ⟨oS, w.keep _ _ eS, dS, nS, cS⟩, by rw [List.size_toArray, sizeLine_eq]; omega, .int _ _, .int _ _, w, fun T h w => ?_⟩
  have hI2 := slice_ints_plain hI 1 8
  have hlen : ((ns.drop (clipAt ns.length 1)).take (clipAt ns.length 8 - clipAt ns.length 1)).length ≤ 7 := by
    have h1 := clipAt_nat ns.length 1
    have h8 := clipAt_nat ns.length 8
    rw [List.length_take]
    show min (clipAt ns.length ((8 : Nat) : Int) - clipAt ns.length ((1 : Nat) : Int)) _ ≤ 7
    omega
  generalize (ns.drop (clipAt ns.length 1)).take (clipAt ns.length 8 - clipAt ns.length 1) = ms at hI2 hlen
  generalize (slicePick vs.toArray (some 1) (some 8) none).toList = us at w hI2
  have hu : us.length ≤ 7 := by rw [hI2.length]; exact hlen
  refine eLst (h₀ := h₀) (aCons (eInt fun t16 k => aNil ⟨_, w, by rw [sizeLine_eq]; show 1 ≤ 16777216; decide, fun T2 h w => ?_⟩))
  refine oAddL w (t1 t0) t0 (by show us.length + 1 ≤ 1000000; omega) fun T3 h w => ?_
  have hI3 : IntsAre (us ++ [.int 16 t16]) (ms ++ [16]) := hI2.append (.cons _ _ .nil)
  have hu3 : (us ++ [Value.int 16 t16]).length ≤ 8 := by rw [List.length_append]; show us.length + 1 ≤ 8; omega
  generalize us ++ [Value.int 16 t16] = us3 at w hI3 hu3
  generalize ms ++ [16] = ms3 at hI3
  have w : Led h₀ h ((T3, LstV us3) :: (core c.w ad st ++ lr c.w ad z y l)) := w.sub (.cons₂ _ (.cons _ (.cons _ (List.Sublist.refl _))))
  have w : Led h₀ h (core c.w ad st ++ lr c.w ad z y ((T3, LstV us3) :: l)) := Led.back w
  refine ⟨fun i l' => ∃ st' z' y', l' = core c.w ad st' ++ lr c.w ad z' y' ((T3, LstV us3) :: l) ∧ Dd ad L i st' y', T3, us3, _, rfl, w, rr (rr t0), ⟨st, z, y, rfl, d⟩, ?_, ?_⟩
  · rintro it i v h k l' hv w hm ⟨st', z', y', rfl, d'⟩
    have hi : i < us3.length := (List.getElem?_eq_some_iff.mp hv).1
    obtain ⟨tv, hg⟩ := hI3.get i _ (List.getElem?_eq_getElem (by rw [← hI3.length]; exact hi))
    rw [hv] at hg
    cases hg
    generalize ms3[i]'(_) = nv at w
    have w : Led h₀ h (core c.w ad st' ++ lr c.w ad z' y' ((it, IterP T3 (i + 1)) :: (T3, LstV us3) :: l)) := Led.back w
    have K1 : LK c A h₀ mg mb env y'.L ad := by rw [d'.L]; exact K
    refine aName (storeL w K1.n (kOf K.sc n_n) f_n (Sw.appL .z _) fun h k w => ?_)
    refine sDeed (z := { z' with n := some (.int nv tv) }) K w rfl hmul d' (by omega) fun st2 z2 y2 h k d2 w => ?_
    exact ⟨_, Led.front w, rr (rr t0), st2, z2, y2, rfl, d2⟩
  · rintro h k l' w hm ⟨st', z', y', rfl, d'⟩
    exact q st' z' y' us3.length h k hu3 d' (Led.front w).drop
end
end Mine

/-! P7 -/
namespace Mine
variable {am len m m1 t o0 o1 o2 : Int} {st st' : St} {rows : List Rw}
def endAt (len t : Int) (r : Rw) : Bool := decide (t < r.b + 1 + len)
def lvE (len t o1 o2 : Int) : Int := if t < o1 + len then o2 else 0
theorem fin_start (x : FX len st o0 o1 o2) (w : Win len st.m rows o0 o2) (hl : 300 ≤ len) : (if o0 + len > st.m then o2 else 0) = lvE len st.m o1 o2 ∧ rows.filter (liveAt len st.m) = rows.filter (endAt len st.m) := by
  constructor
  · unfold lvE
    rcases x with ⟨a, _⟩ | ⟨a, b, _⟩
    · rw [a]; split <;> split <;> rfl
    · have := (near_live (w.o a) hl (Int.le_refl _) (by omega : st.m ≤ st.m + 60)).1
      rw [b]
      by_cases h : o0 + len > st.m
      · rw [if_pos h, if_pos (by omega)]
      · rw [if_neg h, if_neg (by omega)]
  · refine filter_same fun r hr => ?_
    have := (near_live (w.r r hr) hl (Int.le_refl _) (by omega : st.m ≤ st.m + 60)).1
    unfold liveAt endAt
    rw [decide_eq_decide]
    exact this.symm
theorem fin_get (x : FX len st o0 o1 o2) (hs : st.s = 0) : (stGet st).cnt.getD 0 = lvE len st.m o1 o2 ∧ (lvE len st.m o1 o2 ≠ 0 → (stGet st).exp = some (o1 + len)) ∧ (stGet st).m = st.m ∧ (stGet st).s = 0 := by
  have g := get_ok x (by omega)
  have gm := g.m
  have gs := g.s
  have hm : st.m + st.s = st.m := by omega
  rw [hm] at gm
  refine ⟨?_, ?_, gm, gs.trans hs⟩
  · unfold lvE
    rcases x with ⟨a, _⟩ | ⟨a, b, _⟩
    · rw [(g.no (.inl a)).1, a]; split <;> rfl
    · by_cases h : st.m < o1 + len
      · rw [if_pos h, (g.yes a (by omega)).1]; rfl
      · rw [if_neg h, (g.no (.inr (by omega))).1]; rfl
  · intro h
    unfold lvE at h
    by_cases h' : st.m < o1 + len
    · rw [if_pos h'] at h
      rcases x with ⟨a, _⟩ | ⟨a, b, _⟩
      · exact absurd a h
      · exact (g.yes a (by omega)).2
    · rw [if_neg h'] at h; exact absurd rfl h
theorem end_up : ∀ a ∈ rows, ∀ b ∈ rows, a.b ≤ b.b → endAt len t a = true → endAt len t b = true := by
  intro a _ b _ h hp
  unfold endAt at *
  simp only [decide_eq_true_eq] at *
  omega
theorem fin_gmw (x : Inv am len st rows o0 o1 o2) {start : Int} {r : Nat} (ht : t = st.m) (g : GmwOk (esOf st) t len start r) :
    ((r : Nat) : Int) = cs (rows.filter (endAt len t)) ∧ ∀ y ys, rows.filter (endAt len t) = y :: ys → start = y.b + 1 := by
  obtain ⟨k, he, hd⟩ := x.evs
  have p1 := places (q := fun y => t - len < y) (p := endAt len t) x.asc he (fun y hy => by have := hd y hy; omega) end_up fun r hr => by
    unfold endAt
    simp only [decide_eq_true_eq]
    omega
  have hmap : ∀ i : Nat, (esA st)[i]? = ((esOf st)[i]?).map (·.at_) := fun i => by unfold esA; rw [List.getElem?_map]
  have hlen : (esA st).length = (esOf st).length := by unfold esA; rw [List.length_map]
  have hr := gmw_live g (hlen ▸ p1.1) fun i e h => p1.2.1 i e.at_ (by rw [hmap, h]; rfl)
  have hpos : ∀ r ∈ rows.filter (endAt len t), 1 ≤ r.c := fun r hr => x.pos r (List.mem_filter.mp hr).1
  refine ⟨by rw [hr]; exact cn_cs hpos, fun y ys e => ?_⟩
  have hy : 1 ≤ y.c := hpos y (by rw [e]; simp)
  have hc : 0 < cn (y :: ys) := by
    unfold cn; rw [full_cons, List.length_append, List.length_replicate]; omega
  obtain ⟨ev, h3, h4⟩ := g.at_ (by rw [hr, e]; exact hc)
  have h5 := (p1.2.2 (r - 1) (by rw [hr, e]; omega)).trans (hmap _)
  rw [e] at hr h5
  rw [hr, last_full hy, ← hr, h3] at h5
  rw [h4]
  exact (Option.some.inj h5).symm
theorem filt_next (h : m ≤ t) : rows.filter (endAt len t) = (rows.filter (endAt len m)).filter (endAt len t) := by
  rw [List.filter_filter]
  refine filter_same fun r hr => ?_
  unfold endAt
  by_cases h' : t < r.b + 1 + len
  · rw [decide_eq_true h', decide_eq_true (by omega : m < r.b + 1 + len)]; rfl
  · rw [decide_eq_false h']; rfl
theorem asc_head {r0 : Rw} {rs : List Rw} (asc : Asc rows) (e : rows.filter (endAt len m) = r0 :: rs) : ∀ r ∈ rs, r0.b + 1 < r.b := by
  have : Asc (r0 :: rs) := by rw [← e]; exact List.Pairwise.filter _ asc
  exact (List.pairwise_cons.mp this).1
theorem filt_nil (h : m ≤ t) (e : rows.filter (endAt len m) = []) : rows.filter (endAt len t) = [] := by rw [filt_next h, e]; rfl
theorem filt_keep {r0 : Rw} {rs : List Rw} (asc : Asc rows) (h : m ≤ t) (e : rows.filter (endAt len m) = r0 :: rs) (ht : t < r0.b + 1 + len) : rows.filter (endAt len t) = r0 :: rs := by
  rw [filt_next h, e, List.filter_eq_self]
  intro r hr
  unfold endAt
  rcases List.mem_cons.mp hr with rfl | hr
  · exact decide_eq_true ht
  · have := asc_head asc e r hr
    exact decide_eq_true (by omega)
theorem filt_tail {r0 : Rw} {rs : List Rw} (asc : Asc rows) (h : m ≤ t) (e : rows.filter (endAt len m) = r0 :: rs) (ht : t = r0.b + 1 + len) : rows.filter (endAt len t) = rs := by
  rw [filt_next h, e, List.filter_cons, if_neg (by unfold endAt; simp; omega), List.filter_eq_self]
  intro r hr
  unfold endAt
  have := asc_head asc e r hr
  exact decide_eq_true (by omega)
theorem end_head {r0 : Rw} {rs : List Rw} (e : rows.filter (endAt len m) = r0 :: rs) : m < r0.b + 1 + len := by
  have : r0 ∈ rows.filter (endAt len m) := by rw [e]; simp
  have := (List.mem_filter.mp this).2
  unfold endAt at this
  exact of_decide_eq_true this
theorem lv_keep (h : m ≤ t) (ht : lvE len m o1 o2 ≠ 0 → t < o1 + len) : lvE len t o1 o2 = lvE len m o1 o2 := by
  unfold lvE at *
  by_cases h' : m < o1 + len
  · rw [if_pos h'] at ht ⊢
    by_cases h2 : o2 = 0
    · rw [h2]; split <;> rfl
    · rw [if_pos (ht h2)]
  · rw [if_neg h', if_neg (by omega)]
theorem lv_gone (h : t = o1 + len) : lvE len t o1 o2 = 0 := by unfold lvE; rw [if_neg (by omega)]
theorem lv_pos (h : lvE len m o1 o2 ≠ 0) : m < o1 + len := by
  unfold lvE at h
  by_cases h' : m < o1 + len
  · exact h'
  · rw [if_neg h'] at h; exact absurd rfl h
theorem fx_ord (x : FX len st o0 o1 o2) (h : lvE len m o1 o2 ≠ 0) : o1 = o0 + 1 := by
  rcases x with ⟨a, _⟩ | ⟨_, a, _⟩
  · exact absurd (by unfold lvE; rw [a]; split <;> rfl) h
  · exact a
end Mine

/-! J1 -/
namespace Mine
section
variable {c : Cx} {A : Around} {h₀ h : Heap} {k : Nat} {l l' : List It} {env : Env} {mg mb : Str → Option Value} {ad : Ad} {st : St} {z : Fz} {y : Lz}
theorem sG {rest : List Stmt} {Q : Flow → Heap → Nat → Prop} (K : LK c A h₀ mg mb env y.L ad) (w : Lw c h₀ ad h st z y l) (hn : y.rows.length ≤ 9)
    (q : ∀ tl I h k, Lw c h₀ ad h { st with s := 0 } { z with live := some (.int (if y.o0 + y.len > st.m then y.o2 else 0) tl), inside := some (.ref I) } y ((I, LstV (refs (y.rows.filter (liveAt y.len st.m)))) :: l) → Go c A (execs rest env) h k Q) :
    Go c A (execs (stAt lawBody 16 :: stAt lawBody 17 :: stAt lawBody 18 :: rest) env) h k Q := by
  have b := K.b
  refine xSetItem (eInt fun t k => nameC w K.n (kOf K.sc n_step) (by rw [K.ce, K.cS]; rfl) (t3 t0) (eInt fun t' k => setI (is' := [0]) w (.s .z) (by decide) (by decide) (by show (0 : Int) < 1; decide) rfl fun h w => ?_))
  have w : Lw c h₀ ad h { st with s := 0 } z y l := w
  refine xAssign (eIf (iCmp (eBin (eSub (nameL w K.n (kOf K.sc n_opened) (rr t0) (t9 t0) (eInt fun _ k => subI w (rr (t4 t0)) (by decide) (by decide) rfl fun u0 => ?_))))))
  refine eLen K w (rr (t1 t0)) (oAdd fun _ k => eMoment (st := { st with s := 0 }) K w (t2 t0) t0 fun _ k => oGt (tBool ?_))
  have one : ∀ tl h k, Lw c h₀ ad h { st with s := 0 } { z with live := some (.int (if y.o0 + y.len > st.m then y.o2 else 0) tl) } y l → Go c A (execs (stAt lawBody 18 :: rest) env) h k Q := by
    intro tl h k w
    generalize hzl : ({ z with live := some (.int (if y.o0 + y.len > st.m then y.o2 else 0) tl) } : Fz) = z1 at w
    have mL : (y.L + 1, CellIs (some (.int y.len y.tl))) ∈ core c.w ad { st with s := 0 } ++ lr c.w ad z1 y l := rr (t1 t0)
    have mG : (y.G, LstV (y.rows.map fun r => Value.ref r.a)) ∈ core c.w ad { st with s := 0 } ++ lr c.w ad z1 y l := rr (t5 t0)
    have mM : (ad.cM, CellIs (some (.ref ad.M))) ∈ core c.w ad { st with s := 0 } ++ lr c.w ad z1 y l := t2 t0
    have mMI : (ad.M, LstI [st.m]) ∈ core c.w ad { st with s := 0 } ++ lr c.w ad z1 y l := t0
    have hz : (y.rows.map fun r => Value.ref r.a).length ≤ sizeLine := by rw [List.length_map, sizeLine_eq]; omega
    refine xComp (h₀ := h₀) (cl := [(Str.ofString "moment", y.L + 4), (Str.ofString "length", y.L + 1)]) K.hA (by unfold swapsWith Env.blockKind; dsimp only; rw [K.n.k, kOf K.sc n_inside]; rfl) (clos_of (env' := { env with cells := cellsOf y.L }) K.ce (by rfl)) (by decide +kernel) (by rfl) (by decide +kernel) (by rfl) ?_ ?_
    · exact fun i ys l' => l' = core c.w ad { st with s := 0 } ++ lr c.w ad z1 y l ∧ ys = refs ((y.rows.take i).filter (liveAt y.len st.m))
    refine nameL w K.n (kOf K.sc n_log) (rr t0) (t10 t0) ⟨y.G, _, _, rfl, w, mG, hz, ⟨rfl, rfl⟩, ?_, ?_⟩
    · rintro C D it i v ys h k l' hv w hm ⟨rfl, rfl⟩
      rw [List.getElem?_map] at hv
      obtain ⟨r, hr, rfl⟩ := Option.map_eq_some_iff.mp hv
      generalize hce : compEnvC _ _ C env = cenv
      have nC : EnvOk cenv C := by rw [← hce]; exact ⟨rfl, rfl, K.n.g, K.n.b⟩
      have kR : cenv.kindOf (Str.ofString "row") = some .local := by rw [← hce]; rfl
      have kM : cenv.kindOf (Str.ofString "moment") = some .cell := by rw [← hce]; exact kind_cell K.n.k (kOf K.sc n_moment) (by rfl)
      have kL : cenv.kindOf (Str.ofString "length") = some .cell := by rw [← hce]; exact kind_cell K.n.k (kOf K.sc n_length) (by rfl)
      have cM : cenv.cells.lookup (Str.ofString "moment") = some ad.cM := by rw [← hce, K.cM]; rfl
      have cL : cenv.cells.lookup (Str.ofString "length") = some (y.L + 1) := by rw [← hce]; rfl
      have mR := fun (X Y Z : It) => t3 (x0 := X) (x1 := Y) (x2 := Z) (rowMem (c := c) (ad := ad) (st := { st with s := 0 }) (z := z1) (y := y) (l := l) (List.mem_of_getElem? hr))
      refine ifOne (iCmp (eBin (eSub (nameL w nC kR (t1 t0) t0 (eInt fun _ k => subT (i := 0) w (mR _ _ _) (by decide) rfl (nameC w nC kL cL (t3 mL) (oAdd fun _ k => ?_)))))))
      refine eSub (nameC w nC kM cM (t3 mM) (eInt fun _ _ => subI w (t3 mMI) (by decide) (by decide) rfl fun _ => oGt (tBool ?_)))
      have hf := filt_add (P := liveAt y.len st.m) hr
      cases hlv : liveAt y.len st.m r with
      | true =>
        rw [hlv, if_pos rfl] at hf
        have : decide (r.b + y.len > st.m) = true := hlv
        rw [this, if_pos rfl]
        refine nameL w nC kR (t1 t0) t0 ⟨_, w, hm, rfl, ?_⟩
        rw [hf]; unfold refs; rw [List.map_append]; rfl
      | false =>
        rw [hlv, if_neg Bool.false_ne_true, List.append_nil] at hf
        have : decide (r.b + y.len > st.m) = false := hlv
        rw [this, if_neg Bool.false_ne_true]
        exact ⟨_, w, hm, rfl, by rw [hf]⟩
    rintro I ys h k l' w0 ⟨rfl, rfl⟩ C P w
    rw [List.length_map, List.take_length] at w
    refine storeL w K.n (kOf K.sc n_inside) f_inside (.s (.s (Sw.appL .z _))) fun h k w => ⟨_, w, fun h w => ?_⟩
    subst hzl
    exact q tl I h k (Led.back w)
  refine if_dec (fun hgt => ?_) fun hle => ?_
  · refine eSub (nameL w K.n (kOf K.sc n_opened) (rr t0) (t9 t0) (eInt fun _ k => subI w (rr (t4 t0)) (by decide) (by decide) rfl fun u2 => ?_))
    refine storeL w K.n (kOf K.sc n_live) f_live (Sw.appL .z _) fun h k w => one u2 h k ?_
    rw [show (if y.o0 + y.len > st.m then y.o2 else 0) = y.o2 from if_pos hgt]
    exact w
  · refine eInt fun u2 k => storeL w K.n (kOf K.sc n_live) f_live (Sw.appL .z _) fun h k w => one u2 h k ?_
    rw [show (if y.o0 + y.len > st.m then y.o2 else 0) = 0 from if_neg hle]
    exact w
end
end Mine

/-! J2 -/
namespace Mine
theorem fillJ2 : PySem.Challenge.rw_bn0041_01 = PySem.Challenge.rw_bn0041_01 ∧ hd.heap_1 = hd.heap_1 := by
  k_fill
  exact ⟨rfl, rfl⟩
section
variable {c : Cx} {A : Around} {h₀ h : Heap} {k : Nat} {l l' : List It} {env : Env} {mg mb : Str → Option Value} {ad : Ad} {st : St} {z : Fz} {y : Lz}
theorem oNeInts {a b : Addr} {vs us : List Value} {ns : List Int} {Q : Value → Heap → Nat → Prop} (w : Led h₀ h l) (ha : (a, LstV vs) ∈ l) (hb : (b, LstV us) ∈ l) (hv : IntsAre vs ns) (hu : IntsAre us ns) (hA : A.units < 5000) (q : Q (.bool false) h k) : Go c A (compareOp .NotEq (.ref a) (.ref b)) h k Q := by
  have r := SeqAt.RcNeAt.lists (A := A) (s := c.s h k) (e := fun _ => true) (LstV.is w ha) (LstV.is w hb) (by rw [List.size_toArray, List.size_toArray, hv.length, hu.length]) (by show A.units < 9900; omega) fun j h1 h2 => ?_
  · have : (!(List.range vs.toArray.size).all fun _ => true) = false := by simp
    rw [this] at r
    exact r _ _ _ _ ⟨h, k, rfl, q⟩
  · have hj : j < ns.length := by rw [← hv.length]; simpa using h1
    obtain ⟨t1', e1⟩ := hv.get j _ (List.getElem?_eq_getElem hj)
    obtain ⟨t2', e2⟩ := hu.get j _ (List.getElem?_eq_getElem hj)
    have x1 : vs.toArray[j] = .int ns[j] t1' := by
      have := List.getElem?_eq_some_iff.mp e1
      obtain ⟨h3, h4⟩ := this
      simpa using h4
    have x2 : us.toArray[j] = .int ns[j] t2' := by
      have := List.getElem?_eq_some_iff.mp e2
      obtain ⟨h3, h4⟩ := this
      simpa using h4
    rw [x1, x2]
    have := SeqAt.EqAt.int_int (A := A.in1) (s := c.s h k) ns[j] t1' ns[j] t2'
    rw [beq_self_eq_true] at this
    exact this
theorem eFS {p1 p2 p3 p4 p5 : Pos} {Q : Value → Heap → Nat → Prop} (K : LK c A h₀ mg mb env y.L ad) (w : Lw c h₀ ad h st z y l) (hs : st.s = 0) (inv : Inv ad.amt y.len st y.rows y.o0 y.o1 y.o2)
    (q : ∀ st1 x dx r t1 t2 h k, st1.m = st.m → st1.s = 0 → Inv ad.amt y.len st1 y.rows y.o0 y.o1 y.o2 → (lvE y.len st.m y.o1 y.o2 ≠ 0 → r = y.o1 + y.len) → Lw c h₀ ad h st1 z y ((dx, FrmS 0 []) :: (x, NtP 171 dx [.int r t1, .int (max 0 (ad.amt - lvE y.len st.m y.o1 y.o2)) t2]) :: l) → Q (.ref x) h k) (hp : (p2.endLine == p5.line) = true := by rfl) :
    Go c A (eval (.Call (.Attribute (.Name "fixed" p1) "get_window_stats" p2) [.Name "item" p3, .Name "who" p4] [] p5) env) h k Q := by
  have b := K.b
  have hdl := K.dl
  have g := fin_get inv.fx hs
  refine eCallM2 ?_ ?h1 ?h2 ?h3
  case h1 => rfl
  case h2 => rfl
  case h3 => exact hp
  refine nameL w K.n (kOf K.sc n_fixed) (rr t0) (t6 t0) (gMethA b w (t14 t0) (t15 t0) (m_fstats c) ?_)
  refine cwF (aCons (nameL w K.n (kOf K.sc n_item) (rr t0) (t3 t0) (aCons (nameL w K.n (kOf K.sc n_who) (rr t0) (t8 t0) (aNil ⟨keepK b w (by k_is), Go.ofC ?_⟩)))))
  refine fstats_ b w (by omega) K.hA K.ok fun x dx t1' t2' h k w => ?_
  have gi := inv.get (by omega : 0 ≤ st.s)
  have inv1 : Inv ad.amt y.len (stTick (stGet st)) y.rows y.o0 y.o1 y.o2 := gi.next (by show (stGet st).m ≤ (stGet st).m + (stGet st).s; rw [g.2.2.2]; omega) rfl (fun _ h => h) (gi.fx.later (by show (stGet st).m ≤ (stGet st).m + (stGet st).s; rw [g.2.2.2]; omega) rfl rfl)
  have m1 : (stTick (stGet st)).m = st.m := by show (stGet st).m + (stGet st).s = _; rw [g.2.2.1, g.2.2.2]; omega
  have s1 : (stTick (stGet st)).s = 0 := g.2.2.2
  have hx : lvE y.len st.m y.o1 y.o2 ≠ 0 → (stGet st).exp.getD ((stGet st).m + (stGet st).s) = y.o1 + y.len := fun h => by rw [g.2.1 h]; rfl
  rw [g.1] at w
  generalize stTick (stGet st) = st1 at w inv1 m1 s1
  have w := Led.back (P := (dx, FrmS 0 []) :: core c.w ad st1) w
  exact q st1 x dx _ _ _ _ _ m1 s1 inv1 hx (Led.back w)
theorem eMS {p1 p2 p3 p4 p5 : Pos} {Q : Value → Heap → Nat → Prop} (K : LK c A h₀ mg mb env y.L ad) (w : Lw c h₀ ad h st z y l) (hs : st.s = 0) (hlen : y.len = 60 * ad.mul) (hn : y.rows.length ≤ 9) (inv : Inv ad.amt y.len st y.rows y.o0 y.o1 y.o2)
    (q : ∀ st1 x dx r t1 t2 h k, st1.m = st.m → st1.s = 0 → Inv ad.amt y.len st1 y.rows y.o0 y.o1 y.o2 → (∀ r0 rs, y.rows.filter (endAt y.len st.m) = r0 :: rs → r = r0.b + 1 + y.len) → Lw c h₀ ad h st1 z y ((dx, FrmS 0 []) :: (x, NtP 171 dx [.int r t1, .int (ad.amt - cs (y.rows.filter (endAt y.len st.m))) t2]) :: l) → Q (.ref x) h k) (hp : (p2.endLine == p5.line) = true := by rfl) :
    Go c A (eval (.Call (.Attribute (.Name "moving" p1) "get_window_stats" p2) [.Name "item" p3, .Name "who" p4] [] p5) env) h k Q := by
  have b := K.b
  have hdl := K.dl
  refine eCallM2 ?_ ?h1 ?h2 ?h3
  case h1 => rfl
  case h2 => rfl
  case h3 => exact hp
  refine nameL w K.n (kOf K.sc n_moving) (rr t0) (t7 t0) (gMethA b w (t16 t0) (t17 t0) (m_mstats c) ?_)
  refine cwF (aCons (nameL w K.n (kOf K.sc n_item) (rr t0) (t3 t0) (aCons (nameL w K.n (kOf K.sc n_who) (rr t0) (t8 t0) (aNil ⟨keepK b w (by k_is), Go.ofC ?_⟩)))))
  refine mstats_ b w (by omega) K.hA K.ok (inv.ev (by omega)) fun x dx start r l1 t1' t2' h k gok w => ?_
  rw [← hlen] at gok w
  have G := fin_gmw inv (t := st.m + st.s) (by omega) gok
  rw [G.1] at w
  have hm : st.m + st.s = st.m := by omega
  rw [hm] at G w
  have inv1 := inv.tick (by omega : 0 ≤ st.s) l1
  have m1 : ({ stTick st with l1 := l1 } : St).m = st.m := hm
  have s1 : ({ stTick st with l1 := l1 } : St).s = 0 := hs
  generalize ({ stTick st with l1 := l1 } : St) = st1 at w inv1 m1 s1
  have w := Led.back (P := (dx, FrmS 0 []) :: core c.w ad st1) w
  exact q st1 x dx _ _ _ _ _ m1 s1 inv1 (fun r0 rs e => by rw [G.2 r0 rs e]) (Led.back w)
end
end Mine

/-! J3 -/
namespace Mine
theorem fillJ3 : PySem.Challenge.rw_bn0041_01 = PySem.Challenge.rw_bn0041_01 ∧ hd.heap_1 = hd.heap_1 := by
  k_fill
  exact ⟨rfl, rfl⟩
section
variable {c : Cx} {A : Around} {h₀ h : Heap} {k : Nat} {l l' : List It} {env : Env} {mg mb : Str → Option Value} {ad : Ad} {st : St} {z : Fz} {y : Lz}
theorem sX1 {lv : Int} {tl : Tok} {I : Addr} {ins : List Rw} {rest : List Stmt} {Q : Flow → Heap → Nat → Prop} (K : LK c A h₀ mg mb env y.L ad) (w : Lw c h₀ ad h st z y l) (hlv : z.live = some (.int lv tl)) (hi : z.inside = some (.ref I)) (mI : (I, LstV (refs ins)) ∈ l) (hsub : ∀ r ∈ ins, r ∈ y.rows) (hn : ins.length ≤ 9)
    (q : ∀ W t1 t2 h k, Lw c h₀ ad h st { z with want := some (.ref W) } y ((W, LstV [.int (max 0 (ad.amt - lv)) t1, .int (ad.amt - cs ins) t2]) :: l) → Go c A (execs rest env) h k Q) :
    Go c A (execs (stAt endBody 0 :: rest) env) h k Q := by
  have b := K.b
  have mv : (Str.ofString "live", some (.int lv tl)) ∈ lf ad z y.O y.G y.D := by unfold lf; rw [hlv]; exact t18 t0
  have mi : (Str.ofString "inside", some (.ref I)) ∈ lf ad z y.O y.G y.D := by unfold lf; rw [hi]; exact t19 t0
  have hz2 : (refs ins).length ≤ sizeLine := by rw [List.length_map, sizeLine_eq]; omega
  refine xAssign (eLst (h₀ := h₀) (aCons ?_))
  refine eCallN (nameB (v := .builtin "max") b w K.n (kOf K.sc n_max) (by k_is) (by decide +kernel) (by decide) (cwB (aCons (eInt fun _ k => aCons (eBin (nameL w K.n (kOf K.sc n_amount) (rr t0) (t2 t0) (nameL w K.n (kOf K.sc n_live) (rr t0) mv (oSub fun _ k => aNil ?_))))))))
  refine gMax2 K.hA w fun t1' h k w => aCons (eBin (nameL w K.n (kOf K.sc n_amount) (rr t0) (t2 t0) ?_))
  refine eCallN (nameB (v := .builtin "sum") b w K.n (kOf K.sc n_sum) (by k_is) (by decide +kernel) (by decide) (cwB ?_))
  refine aCons ?_ ?h1
  case h1 => rfl
  refine eComp (h₀ := h₀) (cl := []) K.hA (by rfl) (by decide +kernel) (by rfl) (by decide +kernel) (by rfl) ?_ ?_
  · exact fun i ys l' => l' = core c.w ad st ++ lr c.w ad z y l ∧ IntsAre ys ((ins.take i).map (·.c))
  refine nameL w K.n (kOf K.sc n_inside) (rr t0) mi ⟨I, _, _, rfl, w, rr (rr mI), hz2, ⟨rfl, .nil⟩, ?_, ?_⟩
  · rintro C D it i v ys h k l' hv w hm ⟨rfl, hI⟩
    rw [List.getElem?_map] at hv
    obtain ⟨r, hr, rfl⟩ := Option.map_eq_some_iff.mp hv
    refine Go.pure ?_
    rw [if_pos rfl]
    generalize hce : compEnvC _ _ C env = cenv
    have nC : EnvOk cenv C := by rw [← hce]; exact ⟨rfl, rfl, K.n.g, K.n.b⟩
    have kR : cenv.kindOf (Str.ofString "row") = some .local := by rw [← hce]; rfl
    have mR := fun (X Y Z : It) => t3 (x0 := X) (x1 := Y) (x2 := Z) (rowMem (c := c) (ad := ad) (st := st) (z := z) (y := y) (l := l) (hsub _ (List.mem_of_getElem? hr)))
    refine eSub (nameL w nC kR (t1 t0) t0 (eInt fun _ k => subT (i := 2) w (mR _ _ _) (by decide) rfl ⟨_, w, hm, rfl, ?_⟩))
    rw [List.take_add_one, hr, List.map_append]
    exact hI.append (.cons _ _ .nil)
  rintro D ys h k l' w ⟨rfl, hI⟩
  rw [List.length_map, List.take_length] at hI
  refine aNil (gSum K.hA w t0 hI fun th h k w => oSub fun t2' k => aNil ⟨_, w.drop, by rw [sizeLine_eq]; show 2 ≤ 16777216; decide, fun W h w => ?_⟩)
  have w : Lw c h₀ ad h st z y ((W, LstV [.int (max 0 (ad.amt - lv)) t1', .int (ad.amt - cs ins) t2']) :: l) := Led.back w
  exact storeL w K.n (kOf K.sc n_want) f_want (Sw.appL .z _) fun h k w => q W t1' t2' h k w
theorem sX2 {rest : List Stmt} {Q : Flow → Heap → Nat → Prop} (K : LK c A h₀ mg mb env y.L ad) (w : Lw c h₀ ad h st z y l) (hs : st.s = 0) (hlen : y.len = 60 * ad.mul) (hn : y.rows.length ≤ 9) (inv : Inv ad.amt y.len st y.rows y.o0 y.o1 y.o2)
    (q : ∀ st1 S x1 dx1 x2 dx2 r1 r2 u1 u2 u3 u4 h k, st1.m = st.m → st1.s = 0 → Inv ad.amt y.len st1 y.rows y.o0 y.o1 y.o2 → (lvE y.len st.m y.o1 y.o2 ≠ 0 → r1 = y.o1 + y.len) → (∀ r0 rs, y.rows.filter (endAt y.len st.m) = r0 :: rs → r2 = r0.b + 1 + y.len) →
      Lw c h₀ ad h st1 { z with stats := some (.ref S) } y ((S, LstV [.ref x1, .ref x2]) :: (dx2, FrmS 0 []) :: (x2, NtP 171 dx2 [.int r2 u3, .int (ad.amt - cs (y.rows.filter (endAt y.len st.m))) u4]) :: (dx1, FrmS 0 []) :: (x1, NtP 171 dx1 [.int r1 u1, .int (max 0 (ad.amt - lvE y.len st.m y.o1 y.o2)) u2]) :: l) → Go c A (execs rest env) h k Q) :
    Go c A (execs (stAt endBody 1 :: rest) env) h k Q := by
  refine xAssign (eLst (h₀ := h₀) (aCons (eFS K w hs inv fun st1 x1 dx1 r1 u1 u2 h k m1 s1 inv1 hr1 w => ?_)))
  refine aCons (eMS K w s1 hlen hn inv1 fun st2 x2 dx2 r2 u3 u4 h k m2 s2 inv2 hr2 w => aNil ⟨_, w, by rw [sizeLine_eq]; show 2 ≤ 16777216; decide, fun S h w => ?_⟩)
  rw [m1] at hr2 w m2
  have w : Lw c h₀ ad h st2 z y ((S, LstV [.ref x1, .ref x2]) :: (dx2, FrmS 0 []) :: (x2, NtP 171 dx2 [.int r2 u3, .int (ad.amt - cs (y.rows.filter (endAt y.len st.m))) u4]) :: (dx1, FrmS 0 []) :: (x1, NtP 171 dx1 [.int r1 u1, .int (max 0 (ad.amt - lvE y.len st.m y.o1 y.o2)) u2]) :: l) := Led.back w
  exact storeL w K.n (kOf K.sc n_stats) f_stats (Sw.appL .z _) fun h k w => q st2 S x1 dx1 x2 dx2 r1 r2 u1 u2 u3 u4 h k m2 s2 inv2 hr1 hr2 w
theorem sX3 {a b : Int} {u1 u2 u3 u4 t1' t2' : Tok} {r1 r2 : Int} {S W x1 dx1 x2 dx2 : Addr} {rest : List Stmt} {Q : Flow → Heap → Nat → Prop} (K : LK c A h₀ mg mb env y.L ad) (w : Lw c h₀ ad h st z y l) (hS : z.stats = some (.ref S)) (hW : z.want = some (.ref W)) (mS : (S, LstV [.ref x1, .ref x2]) ∈ l) (mW : (W, LstV [.int a t1', .int b t2']) ∈ l)
    (m1 : (x1, NtP 171 dx1 [.int r1 u1, .int a u2]) ∈ l) (d1 : (dx1, FrmS 0 []) ∈ l) (m2 : (x2, NtP 171 dx2 [.int r2 u3, .int b u4]) ∈ l) (d2 : (dx2, FrmS 0 []) ∈ l)
    (q : ∀ h k, Lw c h₀ ad h st z y l → Go c A (execs rest env) h k Q) : Go c A (execs (stAt endBody 2 :: rest) env) h k Q := by
  have bb := K.b
  have hdl := K.dl
  have mst : (Str.ofString "stats", some (.ref S)) ∈ lf ad z y.O y.G y.D := by unfold lf; rw [hS]; exact t21 t0
  have mwt : (Str.ofString "want", some (.ref W)) ∈ lf ad z y.O y.G y.D := by unfold lf; rw [hW]; exact t22 t0
  refine xIf (iCmp ?_)
  refine eComp (h₀ := h₀) (cl := []) K.hA (by rfl) (by decide +kernel) (by rfl) (by decide +kernel) (by rfl) ?_ ?_
  · exact fun i ys l' => l' = core c.w ad st ++ lr c.w ad z y l ∧ IntsAre ys ([a, b].take i)
  refine nameL w K.n (kOf K.sc n_stats) (rr t0) mst ⟨S, _, _, rfl, w, rr (rr mS), by rw [sizeLine_eq]; show 2 ≤ 16777216; decide, ⟨rfl, .nil⟩, ?_, ?_⟩
  · rintro C D it i v ys h k l' hv w hm ⟨rfl, hI⟩
    refine Go.pure ?_
    rw [if_pos rfl]
    generalize hce : compEnvC _ _ C env = cenv
    have nC : EnvOk cenv C := by rw [← hce]; exact ⟨rfl, rfl, K.n.g, K.n.b⟩
    have kR : cenv.kindOf (Str.ofString "row") = some .local := by rw [← hce]; rfl
    refine eAttr (nameL w nC kR (t1 t0) t0 ?_)
    match i, hv, hI with
    | 0, hv, hI =>
      cases hv
      refine gRemain bb hdl w (t3 (rr (rr m1))) (t3 (rr (rr d1))) fun h k w => ⟨_, w, hm, rfl, ?_⟩
      exact hI.append (.cons _ _ .nil)
    | 1, hv, hI =>
      cases hv
      refine gRemain bb hdl w (t3 (rr (rr m2))) (t3 (rr (rr d2))) fun h k w => ⟨_, w, hm, rfl, ?_⟩
      exact hI.append (.cons _ _ .nil)
    | i + 2, hv, hI => simp at hv
  rintro D ys h k l' w ⟨rfl, hI⟩
  refine nameL w K.n (kOf K.sc n_want) (t1 (rr t0)) mwt (oNeInts w t0 (t1 (rr (rr mW))) hI (.cons _ _ (.cons _ _ .nil)) K.hu (tBool (if_ff (xNil (q _ _ w.drop)))))
end
end Mine

/-! J4 -/
namespace Mine
theorem fillJ4 : PySem.Challenge.rw_bn0041_01 = PySem.Challenge.rw_bn0041_01 ∧ hd.heap_1 = hd.heap_1 := by
  k_fill
  exact ⟨rfl, rfl⟩
section
variable {c : Cx} {A : Around} {h₀ h : Heap} {k : Nat} {l l' : List It} {env : Env} {mg mb : Str → Option Value} {ad : Ad} {st : St} {z : Fz} {y : Lz}
theorem sX4 {rest : List Stmt} {Q : Flow → Heap → Nat → Prop} (K : LK c A h₀ mg mb env y.L ad) (w : Lw c h₀ ad h st z y l)
    (q : ∀ E h k, Lw c h₀ ad h st { z with ends := some (.ref E) } y ((E, LstV []) :: l) → Go c A (execs rest env) h k Q) : Go c A (execs (stAt endBody 3 :: rest) env) h k Q := by
  refine xAssign (eLst0 w fun E h w => ?_)
  have w : Lw c h₀ ad h st z y ((E, LstV []) :: l) := Led.back w
  exact storeL w K.n (kOf K.sc n_ends) f_ends (Sw.appL .z _) fun h k w => q E h k w
theorem sX5 {lv r1 : Int} {tl u1 u2 : Tok} {S E x1 x2 dx1 : Addr} {a : Int} {rest : List Stmt} {Q : Flow → Heap → Nat → Prop} (K : LK c A h₀ mg mb env y.L ad) (w : Lw c h₀ ad h st z y ((E, LstV []) :: l)) (hlv : z.live = some (.int lv tl)) (hS : z.stats = some (.ref S)) (hE : z.ends = some (.ref E)) (mS : (S, LstV [.ref x1, .ref x2]) ∈ l)
    (m1 : (x1, NtP 171 dx1 [.int r1 u1, .int a u2]) ∈ l) (d1 : (dx1, FrmS 0 []) ∈ l) (hr : lv ≠ 0 → r1 = y.o1 + y.len) (ho : lv ≠ 0 → y.o1 = y.o0 + 1) (hk : KOk y.len y.xs) (hx : y.xs.length ≤ 1000)
    (q : ∀ vs xs h k, IntsAre vs (if lv = 0 then [] else [y.o1 + y.len]) → KOk y.len xs → xs.length ≤ y.xs.length + 1 → Lw c h₀ ad h st z { y with xs := xs } ((E, LstV vs) :: l) → Go c A (execs rest env) h k Q) : Go c A (execs (stAt endBody 4 :: rest) env) h k Q := by
  have b := K.b
  have hdl := K.dl
  have mv : (Str.ofString "live", some (.int lv tl)) ∈ lf ad z y.O y.G y.D := by unfold lf; rw [hlv]; exact t18 t0
  have mst : (Str.ofString "stats", some (.ref S)) ∈ lf ad z y.O y.G y.D := by unfold lf; rw [hS]; exact t21 t0
  have men : (Str.ofString "ends", some (.ref E)) ∈ lf ad z y.O y.G y.D := by unfold lf; rw [hE]; exact t23 t0
  refine xIf (iVal (nameL w K.n (kOf K.sc n_live) (rr t0) mv (tInt ?_)))
  by_cases hz : lv = 0
  · rw [show (lv != 0) = false by simp [hz]]
    refine if_ff (xNil (q [] y.xs _ _ ?_ hk (Nat.le_succ _) w))
    rw [if_pos hz]; exact .nil
  rw [show (lv != 0) = true by simpa using hz, if_pos rfl]
  have hr := hr hz
  have ho := ho hz
  refine xExprV K.n.k ?_
  refine eCallM2 ?_ ?h1 ?h2 ?h3
  case h1 => rfl
  case h2 => rfl
  case h3 => rfl
  refine nameL w K.n (kOf K.sc n_ends) (rr t0) men (mAppend w (rr (rr t0)) (cwB (aCons (eAttr (eSub (nameL w K.n (kOf K.sc n_stats) (rr t0) mst (eInt fun _ k => subL w (rr (rr (t1 mS))) (by show 2 < 2 ^ 62; decide) (.inl ⟨by decide, rfl⟩) ?_)))))))
  refine gReset b hdl w (rr (rr (t1 m1))) (rr (rr (t1 d1))) fun h k w => aNil ?_
  refine gAppend w (Sw.appL (Sw.appL .z _) _) (by show 0 ≤ 1000000; decide) fun h w => ⟨fun _ h => (nomatch h), ?_⟩
  have w : Lw c h₀ ad h st z y ((E, LstV [.int r1 u1]) :: l) := w
  refine xIf (Go.mono (Q := fun bb h' _ => bb = false ∧ ∃ xs, KOk y.len xs ∧ xs.length ≤ y.xs.length + 1 ∧ Lw c h₀ ad h' st z { y with xs := xs } ((E, LstV [.int r1 u1]) :: l)) ?_ fun bb h' k' e => ?_)
  · refine iNot (iVal (eCallN (nameG b w K.n (kOf K.sc n_told) (by k_is) (cwF ?_))))
    refine aCons (nameL w K.n (kOf K.sc n_kept) (rr t0) (t11 t0) (aCons (eStr fun tm k => ?_)))
    refine aCons (eSub (nameL w K.n (kOf K.sc n_opened) (rr t0) (t9 t0) (eInt fun _ k => subI w (rr (t4 t0)) (by decide) (by decide) rfl fun u0 => ?_)))
    refine aCons (eSub (nameL w K.n (kOf K.sc n_opened) (rr t0) (t9 t0) (eInt fun _ k => subI w (rr (t4 t0)) (by decide) (by decide) rfl fun u1 => ?_)))
    refine aCons (eLen K w (rr (t1 t0)) (aCons (eAttr (eSub (nameL w K.n (kOf K.sc n_stats) (rr t0) mst (eInt fun _ k => subL w (rr (rr (t1 mS))) (by show 2 < 2 ^ 62; decide) (.inl ⟨by decide, rfl⟩) ?_))))))
    refine gReset b hdl w (rr (rr (t1 m1))) (rr (rr (t1 d1))) fun h k w => aNil ⟨keepK b w (by k_is), Go.ofC ?_⟩
    exact gTold K w hk hx ho (by omega) fun xs h k a1 a2 w => tBool ⟨rfl, xs, a1, a2, w⟩
  obtain ⟨rfl, xs, a1, a2, w⟩ := e
  refine if_ff (xNil (xNil (q _ xs _ _ ?_ a1 a2 w)))
  rw [if_neg hz, ← hr]; exact .cons _ _ .nil
theorem sX6 {r2 : Int} {u1 u2 : Tok} {S E I x1 x2 dx2 : Addr} {a : Int} {vs : List Value} {es : List Int} {ins : List Rw} {rest : List Stmt} {Q : Flow → Heap → Nat → Prop} (K : LK c A h₀ mg mb env y.L ad) (w : Lw c h₀ ad h st z y ((E, LstV vs) :: l)) (hvs : IntsAre vs es) (hes : es.length ≤ 1) (hI : z.inside = some (.ref I)) (hS : z.stats = some (.ref S)) (hE : z.ends = some (.ref E)) (mS : (S, LstV [.ref x1, .ref x2]) ∈ l)
    (mI : (I, LstV (refs ins)) ∈ l) (hsub : ∀ r ∈ ins, r ∈ y.rows) (hn : ins.length ≤ 9)
    (m2 : (x2, NtP 171 dx2 [.int r2 u1, .int a u2]) ∈ l) (d2 : (dx2, FrmS 0 []) ∈ l) (hr : ∀ r0 rs, ins = r0 :: rs → r2 = r0.b + 1 + y.len) (hk : KOk y.len y.xs) (hx : y.xs.length ≤ 1000)
    (q : ∀ vs' xs h k, IntsAre vs' (es ++ if ins.isEmpty then [] else [r2]) → KOk y.len xs → xs.length ≤ y.xs.length + 1 → Lw c h₀ ad h st z { y with xs := xs } ((E, LstV vs') :: l) → Go c A (execs rest env) h k Q) : Go c A (execs (stAt endBody 5 :: rest) env) h k Q := by
  have b := K.b
  have hdl := K.dl
  have mi : (Str.ofString "inside", some (.ref I)) ∈ lf ad z y.O y.G y.D := by unfold lf; rw [hI]; exact t19 t0
  have mst : (Str.ofString "stats", some (.ref S)) ∈ lf ad z y.O y.G y.D := by unfold lf; rw [hS]; exact t21 t0
  have men : (Str.ofString "ends", some (.ref E)) ∈ lf ad z y.O y.G y.D := by unfold lf; rw [hE]; exact t23 t0
  have hz : (refs ins).length < 2 ^ 62 := by rw [List.length_map]; omega
  refine xIf (iVal (nameL w K.n (kOf K.sc n_inside) (rr t0) mi (tLst w (rr (rr (t1 mI))) hz fun k => ?_)))
  cases hi : ins with
  | nil =>
    refine if_ff (xNil (q vs y.xs _ _ ?_ hk (Nat.le_succ _) w))
    rw [hi]; simpa using hvs
  | cons r0 rs =>
  have hr := hr r0 rs hi
  have hr0 : r0 ∈ y.rows := hsub r0 (by rw [hi]; simp)
  have hv : (refs ins)[0]? = some (.ref r0.a) := by rw [hi]; rfl
  rw [show (!(refs (r0 :: rs)).isEmpty) = true from rfl, if_pos rfl]
  refine xExprV K.n.k ?_
  refine eCallM2 ?_ ?h1 ?h2 ?h3
  case h1 => rfl
  case h2 => rfl
  case h3 => rfl
  refine nameL w K.n (kOf K.sc n_ends) (rr t0) men (mAppend w (rr (rr t0)) (cwB (aCons (eAttr (eSub (nameL w K.n (kOf K.sc n_stats) (rr t0) mst (eInt fun _ k => subL w (rr (rr (t1 mS))) (by show 2 < 2 ^ 62; decide) (.inl ⟨by decide, rfl⟩) ?_)))))))
  refine gReset b hdl w (rr (rr (t1 m2))) (rr (rr (t1 d2))) fun h k w => aNil ?_
  refine gAppend w (Sw.appL (Sw.appL .z _) _) (by rw [hvs.length]; omega) fun h w => ⟨fun _ h => (nomatch h), ?_⟩
  have w : Lw c h₀ ad h st z y ((E, LstV (vs ++ [.int r2 u1])) :: l) := w
  refine xIf (Go.mono (Q := fun bb h' _ => bb = false ∧ ∃ xs, KOk y.len xs ∧ xs.length ≤ y.xs.length + 1 ∧ Lw c h₀ ad h' st z { y with xs := xs } ((E, LstV (vs ++ [.int r2 u1])) :: l)) ?_ fun bb h' k' e => ?_)
  · refine iNot (iVal (eCallN (nameG b w K.n (kOf K.sc n_told) (by k_is) (cwF ?_))))
    refine aCons (nameL w K.n (kOf K.sc n_kept) (rr t0) (t11 t0) (aCons (eStr fun tm k => ?_)))
    refine aCons (eSub (eSub (nameL w K.n (kOf K.sc n_inside) (rr t0) mi (eInt fun _ k => subL w (rr (rr (t1 mI))) hz (.inl ⟨by decide, hv⟩) (eInt fun _ k => subT (i := 0) w (rowMem hr0) (by decide) rfl ?_)))))
    refine aCons (eSub (eSub (nameL w K.n (kOf K.sc n_inside) (rr t0) mi (eInt fun _ k => subL w (rr (rr (t1 mI))) hz (.inl ⟨by decide, hv⟩) (eInt fun _ k => subT (i := 1) w (rowMem hr0) (by decide) rfl ?_)))))
    refine aCons (eLen K w (rr (t1 t0)) (aCons (eAttr (eSub (nameL w K.n (kOf K.sc n_stats) (rr t0) mst (eInt fun _ k => subL w (rr (rr (t1 mS))) (by show 2 < 2 ^ 62; decide) (.inl ⟨by decide, rfl⟩) ?_))))))
    refine gReset b hdl w (rr (rr (t1 m2))) (rr (rr (t1 d2))) fun h k w => aNil ⟨keepK b w (by k_is), Go.ofC ?_⟩
    exact gTold K w hk hx rfl (by omega) fun xs h k a1 a2 w => tBool ⟨rfl, xs, a1, a2, w⟩
  obtain ⟨rfl, xs, a1, a2, w⟩ := e
  refine if_ff (xNil (xNil (q _ xs _ _ ?_ a1 a2 w)))
  rw [hi]; exact hvs.append (.cons _ _ .nil)
theorem sX7 {E : Addr} {vs : List Value} {es : List Int} {rest : List Stmt} {Q : Flow → Heap → Nat → Prop} (K : LK c A h₀ mg mb env y.L ad) (w : Lw c h₀ ad h st z y l) (mE : (E, LstV vs) ∈ l) (hvs : IntsAre vs es) (hes : es.length ≤ 2) (hE : z.ends = some (.ref E))
    (ret' : ∀ k, es = [] → Q (.ret (.bool true)) h k) (q : ∀ k, es ≠ [] → Go c A (execs rest env) h k Q) : Go c A (execs (stAt endBody 6 :: rest) env) h k Q := by
  have men : (Str.ofString "ends", some (.ref E)) ∈ lf ad z y.O y.G y.D := by unfold lf; rw [hE]; exact t23 t0
  have hl := hvs.length
  refine xIf (iNot (iVal (nameL w K.n (kOf K.sc n_ends) (rr t0) men (tLst w (rr (rr mE)) (by omega) fun k => ?_))))
  cases vs with
  | nil =>
    have : es = [] := List.length_eq_zero_iff.mp hl.symm
    refine if_tt (xRet ?_)
    exact Go.pure (ret' _ this)
  | cons v r =>
    refine if_ff (xNil (q _ fun e => ?_))
    rw [e] at hl; cases hl
end
end Mine

/-! J5 -/
namespace Mine
theorem fillJ5 : PySem.Challenge.rw_bn0041_01 = PySem.Challenge.rw_bn0041_01 ∧ hd.heap_1 = hd.heap_1 := by
  k_fill
  exact ⟨rfl, rfl⟩
section
variable {c : Cx} {A : Around} {h₀ h : Heap} {k : Nat} {l l' : List It} {env : Env} {mg mb : Str → Option Value} {ad : Ad} {st : St} {z : Fz} {y : Lz}
theorem sX8 {E : Addr} {vs : List Value} {es : List Int} {rest : List Stmt} {Q : Flow → Heap → Nat → Prop} (K : LK c A h₀ mg mb env y.L ad) (w : Lw c h₀ ad h st z y l) (mE : (E, LstV vs) ∈ l) (hvs : IntsAre vs es) (hne : es ≠ []) (hE : z.ends = some (.ref E))
    (q : ∀ M h k, M ∈ es → (∀ x ∈ es, M ≤ x) → Lw c h₀ ad h { st with m := M - 1 } z y l → Go c A (execs rest env) h k Q) : Go c A (execs (stAt endBody 7 :: rest) env) h k Q := by
  have b := K.b
  have men : (Str.ofString "ends", some (.ref E)) ∈ lf ad z y.O y.G y.D := by unfold lf; rw [hE]; exact t23 t0
  refine xSetItem (eBin (eCallN (nameB (v := .builtin "min") b w K.n (kOf K.sc n_min) (by k_is) (by decide +kernel) (by decide) (cwB (aCons (nameL w K.n (kOf K.sc n_ends) (rr t0) men (aNil ?_)))))))
  refine gMin K.hA w (rr (rr mE)) hvs (List.length_pos_iff.mpr hne) fun M tm h k w h1 h2 => eInt fun _ k => oSub fun tn k => ?_
  refine nameC w K.n (kOf K.sc n_moment) (by rw [K.ce, K.cM]; rfl) (t2 t0) (eInt fun a10 k => setI (is' := [M - 1]) w .z (by decide) (by decide) (by show (0 : Int) < 1; decide) rfl fun h w => ?_)
  exact q M h _ h1 h2 w
theorem sX10 {E : Addr} {vs : List Value} {es : List Int} {rest : List Stmt} {Q : Flow → Heap → Nat → Prop} (K : LK c A h₀ mg mb env y.L ad) (w : Lw c h₀ ad h st z y l) (mE : (E, LstV vs) ∈ l) (hvs : IntsAre vs es) (hne : es ≠ []) (hE : z.ends = some (.ref E))
    (q : ∀ M h k, M ∈ es → (∀ x ∈ es, M ≤ x) → Lw c h₀ ad h { st with m := M } z y l → Go c A (execs rest env) h k Q) : Go c A (execs (stAt endBody 9 :: rest) env) h k Q := by
  have b := K.b
  have men : (Str.ofString "ends", some (.ref E)) ∈ lf ad z y.O y.G y.D := by unfold lf; rw [hE]; exact t23 t0
  refine xSetItem (eCallN (nameB (v := .builtin "min") b w K.n (kOf K.sc n_min) (by k_is) (by decide +kernel) (by decide) (cwB (aCons (nameL w K.n (kOf K.sc n_ends) (rr t0) men (aNil ?_))))))
  refine gMin K.hA w (rr (rr mE)) hvs (List.length_pos_iff.mpr hne) fun M tm h k w h1 h2 => ?_
  refine nameC w K.n (kOf K.sc n_moment) (by rw [K.ce, K.cM]; rfl) (t2 t0) (eInt fun a10 k => setI (is' := [M]) w .z (by decide) (by decide) (by show (0 : Int) < 1; decide) rfl fun h w => ?_)
  exact q M h _ h1 h2 w
theorem sX9 {W : Addr} {t1' t2' : Tok} {rest : List Stmt} {Q : Flow → Heap → Nat → Prop} (K : LK c A h₀ mg mb env y.L ad) (w : Lw c h₀ ad h st z y l) (hs : st.s = 0) (hlen : y.len = 60 * ad.mul) (hn : y.rows.length ≤ 9) (inv : Inv ad.amt y.len st y.rows y.o0 y.o1 y.o2)
    (hW : z.want = some (.ref W)) (mW : (W, LstV [.int (max 0 (ad.amt - lvE y.len st.m y.o1 y.o2)) t1', .int (ad.amt - cs (y.rows.filter (endAt y.len st.m))) t2']) ∈ l)
    (q : ∀ st1 h k, st1.m = st.m → st1.s = 0 → Inv ad.amt y.len st1 y.rows y.o0 y.o1 y.o2 → Lw c h₀ ad h st1 z y l → Go c A (execs rest env) h k Q) : Go c A (execs (stAt endBody 8 :: rest) env) h k Q := by
  have b := K.b
  have hdl := K.dl
  have mwt : (Str.ofString "want", some (.ref W)) ∈ lf ad z y.O y.G y.D := by unfold lf; rw [hW]; exact t22 t0
  refine xIf (iCmp (eLst (h₀ := h₀) (aCons (eAttr (eFS K w hs inv fun st1 x1 dx1 r1 u1 u2 h k m1 s1 inv1 hr1 w => ?_)))))
  refine gRemain b hdl w (rr (rr (t1 t0))) (rr (rr t0)) fun h k w => aCons (eAttr (eMS K w s1 hlen hn inv1 fun st2 x2 dx2 r2 u3 u4 h k m2 s2 inv2 hr2 w => ?_))
  refine gRemain b hdl w (rr (rr (t1 t0))) (rr (rr t0)) fun h k w => aNil ⟨_, w, by rw [sizeLine_eq]; show 2 ≤ 16777216; decide, fun T h w => ?_⟩
  rw [m1] at w m2
  refine nameL w K.n (kOf K.sc n_want) (t1 (rr t0)) mwt (oNeInts w t0 (t1 (rr (rr (t4 mW)))) (.cons _ _ (.cons _ _ .nil)) (.cons _ _ (.cons _ _ .nil)) K.hu (tBool (if_ff (xNil ?_))))
  refine q st2 _ _ m2 s2 inv2 ?_
  exact w.drop.sub ((List.Sublist.refl _).append ((List.Sublist.refl _).append (.cons _ (.cons _ (.cons _ (.cons _ (List.Sublist.refl _)))))))
theorem sX11 {lv r1 a : Int} {tl u1 u2 : Tok} {S x1 x2 dx1 : Addr} {rest : List Stmt} {Q : Flow → Heap → Nat → Prop} (K : LK c A h₀ mg mb env y.L ad) (w : Lw c h₀ ad h st z y l) (hlv : z.live = some (.int lv tl)) (hS : z.stats = some (.ref S)) (mS : (S, LstV [.ref x1, .ref x2]) ∈ l)
    (m1 : (x1, NtP 171 dx1 [.int r1 u1, .int a u2]) ∈ l) (d1 : (dx1, FrmS 0 []) ∈ l)
    (q : ∀ lv' tl' h k, (lv ≠ 0 ∧ r1 = st.m → lv' = 0) → (¬ (lv ≠ 0 ∧ r1 = st.m) → lv' = lv) → Lw c h₀ ad h st { z with live := some (.int lv' tl') } y l → Go c A (execs rest env) h k Q) : Go c A (execs (stAt endBody 10 :: rest) env) h k Q := by
  have b := K.b
  have hdl := K.dl
  have mv : (Str.ofString "live", some (.int lv tl)) ∈ lf ad z y.O y.G y.D := by unfold lf; rw [hlv]; exact t18 t0
  have mst : (Str.ofString "stats", some (.ref S)) ∈ lf ad z y.O y.G y.D := by unfold lf; rw [hS]; exact t21 t0
  have ez : ({ z with live := some (.int lv tl) } : Fz) = z := by rw [← hlv]
  refine xIf (Go.mono (Q := fun bb h' _ => bb = decide (lv ≠ 0 ∧ r1 = st.m) ∧ Lw c h₀ ad h' st z y l) ?_ fun bb h' k' e => ?_)
  · refine iAnd (iVal (nameL w K.n (kOf K.sc n_live) (rr t0) mv (tInt ?_)))
    by_cases hz : lv = 0
    · rw [show (lv != 0) = false by simp [hz]]
      exact if_ff ⟨by rw [decide_eq_false (fun h => h.1 hz)], w⟩
    · rw [show (lv != 0) = true by simpa using hz]
      refine if_tt (iCmp (eAttr (eSub (nameL w K.n (kOf K.sc n_stats) (rr t0) mst (eInt fun _ k => subL w (rr (rr mS)) (by show 2 < 2 ^ 62; decide) (.inl ⟨by decide, rfl⟩) ?_)))))
      refine gReset b hdl w (rr (rr m1)) (rr (rr d1)) fun h k w => eMoment (st := st) K w (t2 t0) t0 fun _ k => oEq (tBool ⟨by rw [Bool.eq_iff_iff]; simp [hz], w⟩)
  obtain ⟨rfl, w⟩ := e
  refine if_dec (fun hc => ?_) fun hc => ?_
  · refine xAssign (eInt fun tz k => storeL w K.n (kOf K.sc n_live) f_live (Sw.appL .z _) fun h k w => xNil (q 0 tz h k (fun _ => rfl) (fun h => absurd hc h) w))
  · exact xNil (q lv tl _ _ (fun h => absurd h hc) (fun _ => rfl) (by rw [ez]; exact w))
theorem sX12 {r2 a : Int} {u1 u2 : Tok} {S I x1 x2 dx2 : Addr} {ins : List Rw} {rest : List Stmt} {Q : Flow → Heap → Nat → Prop} (K : LK c A h₀ mg mb env y.L ad) (w : Lw c h₀ ad h st z y l) (hI : z.inside = some (.ref I)) (hS : z.stats = some (.ref S)) (mS : (S, LstV [.ref x1, .ref x2]) ∈ l) (mI : (I, LstV (refs ins)) ∈ l) (hn : ins.length ≤ 9)
    (m2 : (x2, NtP 171 dx2 [.int r2 u1, .int a u2]) ∈ l) (d2 : (dx2, FrmS 0 []) ∈ l)
    (q1 : ∀ I' h k, ins ≠ [] → r2 = st.m → Lw c h₀ ad h st { z with inside := some (.ref I') } y ((I', LstV (refs (ins.drop 1))) :: l) → Go c A (execs rest env) h k Q)
    (q2 : ∀ h k, ¬ (ins ≠ [] ∧ r2 = st.m) → Lw c h₀ ad h st z y l → Go c A (execs rest env) h k Q) : Go c A (execs (stAt endBody 11 :: rest) env) h k Q := by
  have b := K.b
  have hdl := K.dl
  have mi : (Str.ofString "inside", some (.ref I)) ∈ lf ad z y.O y.G y.D := by unfold lf; rw [hI]; exact t19 t0
  have mst : (Str.ofString "stats", some (.ref S)) ∈ lf ad z y.O y.G y.D := by unfold lf; rw [hS]; exact t21 t0
  have hz : (refs ins).length < 2 ^ 62 := by rw [List.length_map]; omega
  refine xIf (Go.mono (Q := fun bb h' _ => bb = decide (ins ≠ [] ∧ r2 = st.m) ∧ Lw c h₀ ad h' st z y l) ?_ fun bb h' k' e => ?_)
  · refine iAnd (iVal (nameL w K.n (kOf K.sc n_inside) (rr t0) mi (tLst w (rr (rr mI)) hz fun k => ?_)))
    by_cases he : ins = []
    · rw [show (!(refs ins).isEmpty) = false by rw [he]; rfl]
      exact if_ff ⟨by rw [decide_eq_false (fun h => h.1 he)], w⟩
    · rw [show (!(refs ins).isEmpty) = true by cases ins with | nil => exact absurd rfl he | cons _ _ => rfl]
      refine if_tt (iCmp (eAttr (eSub (nameL w K.n (kOf K.sc n_stats) (rr t0) mst (eInt fun _ k => subL w (rr (rr mS)) (by show 2 < 2 ^ 62; decide) (.inl ⟨by decide, rfl⟩) ?_)))))
      refine gReset b hdl w (rr (rr m2)) (rr (rr d2)) fun h k w => eMoment (st := st) K w (t2 t0) t0 fun _ k => oEq (tBool ⟨by rw [Bool.eq_iff_iff]; simp [he], w⟩)
  obtain ⟨rfl, w⟩ := e
  refine if_dec (fun hc => ?_) fun hc => ?_
  · refine xAssign (eSubSl (h₀ := h₀) (nameL w K.n (kOf K.sc n_inside) (rr t0) mi (pSome (eInt fun t1' k => pNone ?_))))
    refine ⟨I, (refs ins).toArray, some 1, none, _, rfl, LstV.is w (rr (rr mI)), by rw [List.size_toArray, sizeLine_eq, List.length_map]; omega, .int _ _, .none, w, fun T h w => ?_⟩
    have e1 : (slicePick (refs ins).toArray (some 1) none none).toList = refs (ins.drop 1) := by
      rw [show slicePick (refs ins).toArray (some 1) none none = _ from slicePick_from' (refs ins).toArray 1]
      simp [refs]
    rw [e1] at w
    have w : Lw c h₀ ad h st z y ((T, LstV (refs (ins.drop 1))) :: l) := Led.back w
    exact storeL w K.n (kOf K.sc n_inside) f_inside (Sw.appL .z _) fun h k w => xNil (q1 T h k hc.1 hc.2 w)
  · exact xNil (q2 _ _ hc w)
end
end Mine

/-! J6 -/
namespace Mine
theorem fillJ6 : PySem.Challenge.rw_bn0041_01 = PySem.Challenge.rw_bn0041_01 ∧ hd.heap_1 = hd.heap_1 := by
  k_fill
  exact ⟨rfl, rfl⟩
section
variable {c : Cx} {A : Around} {h₀ h : Heap} {k : Nat} {l l' : List It} {env : Env} {mg mb : Str → Option Value} {ad : Ad} {st : St} {z : Fz} {y : Lz}
def insE (y : Lz) (t : Int) : List Rw := y.rows.filter (endAt y.len t)
structure En (ad : Ad) (y : Lz) (i : Nat) (st : St) (z : Fz) (xs : List Kx) (I : Addr) (tl : Tok) : Prop where
  s : st.s = 0
  inv : Inv ad.amt y.len st y.rows y.o0 y.o1 y.o2
  live : z.live = some (.int (lvE y.len st.m y.o1 y.o2) tl)
  ins : z.inside = some (.ref I)
  kok : KOk y.len xs
  xs : xs.length ≤ 100 + 2 * i
  meas : (if lvE y.len st.m y.o1 y.o2 = 0 then 0 else 1) + (insE y st.m).length + i ≤ 6
/-- the arithmetic of one step: the least end M -/
structure Stp (y : Lz) (m M : Int) : Prop where
  lt : m < M
  lv1 : lvE y.len (M - 1) y.o1 y.o2 = lvE y.len m y.o1 y.o2
  in1 : insE y (M - 1) = insE y m
  lv2 : lvE y.len m y.o1 y.o2 ≠ 0 ∧ y.o1 + y.len = M → lvE y.len M y.o1 y.o2 = 0
  lv3 : ¬ (lvE y.len m y.o1 y.o2 ≠ 0 ∧ y.o1 + y.len = M) → lvE y.len M y.o1 y.o2 = lvE y.len m y.o1 y.o2
  in2 : ∀ r0 rs, insE y m = r0 :: rs → r0.b + 1 + y.len = M → insE y M = rs
  in3 : ∀ r0 rs, insE y m = r0 :: rs → r0.b + 1 + y.len ≠ M → insE y M = r0 :: rs
  in4 : insE y m = [] → insE y M = []
  one : (lvE y.len m y.o1 y.o2 ≠ 0 ∧ y.o1 + y.len = M) ∨ (∃ r0 rs, insE y m = r0 :: rs ∧ r0.b + 1 + y.len = M)
theorem stp {am m M r2 : Int} {st : St} (inv : Inv am y.len st y.rows y.o0 y.o1 y.o2) (hr2 : ∀ r0 rs, insE y m = r0 :: rs → r2 = r0.b + 1 + y.len)
    (h1 : M ∈ (if lvE y.len m y.o1 y.o2 = 0 then [] else [y.o1 + y.len]) ++ if (insE y m).isEmpty then [] else [r2]) (h2 : ∀ x ∈ (if lvE y.len m y.o1 y.o2 = 0 then [] else [y.o1 + y.len]) ++ if (insE y m).isEmpty then [] else [r2], M ≤ x) : Stp y m M := by
  have asc := inv.asc
  have a1 : lvE y.len m y.o1 y.o2 ≠ 0 → M ≤ y.o1 + y.len := fun h => h2 _ (List.mem_append_left _ (by rw [if_neg h]; simp))
  have a2 : ∀ r0 rs, insE y m = r0 :: rs → M ≤ r0.b + 1 + y.len := fun r0 rs e => by rw [← hr2 r0 rs e]; exact h2 _ (List.mem_append_right _ (by rw [e]; simp))
  have one : (lvE y.len m y.o1 y.o2 ≠ 0 ∧ y.o1 + y.len = M) ∨ (∃ r0 rs, insE y m = r0 :: rs ∧ r0.b + 1 + y.len = M) := by
    rcases List.mem_append.mp h1 with h | h
    · by_cases hz : lvE y.len m y.o1 y.o2 = 0
      · rw [if_pos hz] at h; cases h
      · rw [if_neg hz] at h; simp at h; exact .inl ⟨hz, h.symm⟩
    · cases e : insE y m with
      | nil => rw [e] at h; simp at h
      | cons r0 rs => rw [e] at h; simp at h; exact .inr ⟨r0, rs, rfl, by rw [h, hr2 r0 rs e]⟩
  have lt : m < M := by
    rcases one with ⟨h, e⟩ | ⟨r0, rs, h, e⟩
    · have := lv_pos h; omega
    · have := end_head h; omega
  refine ⟨lt, lv_keep (by omega) fun h => by have := a1 h; omega, ?_, fun h => lv_gone h.2.symm, fun h => lv_keep (by omega) fun hz => ?_, fun r0 rs e h => filt_tail asc (by omega) e h.symm, fun r0 rs e h => filt_keep asc (by omega) e (by have := a2 r0 rs e; omega), fun e => filt_nil (by omega) e, one⟩
  · cases e : insE y m with
    | nil => exact filt_nil (by omega) e
    | cons r0 rs => exact filt_keep asc (by omega) e (by have := a2 r0 rs e; omega)
  · have := a1 hz
    have : y.o1 + y.len ≠ M := fun e => h ⟨hz, e⟩
    omega
theorem sEB {xs : List Kx} {I : Addr} {tl : Tok} {i : Nat} {Q : Flow → Heap → Nat → Prop} (K : LK c A h₀ mg mb env y.L ad) (w : Lw c h₀ ad h st z { y with xs := xs } ((I, LstV (refs (insE y st.m))) :: l)) (e : En ad y i st z xs I tl) (hlen : y.len = 60 * ad.mul) (hn : y.rows.length ≤ 9)
    (ret : ∀ st' z' y' l' h k, y'.L = y.L → Lw c h₀ ad h st' z' y' l' → Q (.ret (.bool true)) h k)
    (q : ∀ st' z' xs' I' tl' h k, En ad y (i + 1) st' z' xs' I' tl' → Lw c h₀ ad h st' z' { y with xs := xs' } ((I', LstV (refs (insE y st'.m))) :: l) → Q .next h k) : Go c A (execs endBody env) h k Q := by
  obtain ⟨hs, inv, hlive, hins, hk, hx, hmeas⟩ := e
  have hsub : ∀ r ∈ insE y st.m, r ∈ y.rows := fun r hr => (List.mem_filter.mp hr).1
  have hil : (insE y st.m).length ≤ 9 := Nat.le_trans (List.length_filter_le _ _) hn
  rw [list12 fb_len.2.2.1]
  refine sX1 (y := { y with xs := xs }) K w hlive hins t0 hsub hil fun W t1' t2' h k w => ?_
  generalize hz : ({ z with want := some (.ref W) } : Fz) = z1 at w
  have live1 : z1.live = some (.int (lvE y.len st.m y.o1 y.o2) tl) := by rw [← hz]; exact hlive
  have ins1 : z1.inside = some (.ref I) := by rw [← hz]; exact hins
  have want1 : z1.want = some (.ref W) := by rw [← hz]
  clear hz hlive hins
  refine sX2 (y := { y with xs := xs }) K w hs hlen hn inv fun st1 S x1 dx1 x2 dx2 r1 r2 u1 u2 u3 u4 h k m1 s1 inv1 hr1 hr2 w => ?_
  have hr1 : lvE y.len st.m y.o1 y.o2 ≠ 0 → r1 = y.o1 + y.len := hr1
  have hr2 : ∀ r0 rs, insE y st.m = r0 :: rs → r2 = r0.b + 1 + y.len := hr2
  generalize hz : ({ z1 with stats := some (.ref S) } : Fz) = z2 at w
  have live2 : z2.live = some (.int (lvE y.len st.m y.o1 y.o2) tl) := by rw [← hz]; exact live1
  have ins2 : z2.inside = some (.ref I) := by rw [← hz]; exact ins1
  have want2 : z2.want = some (.ref W) := by rw [← hz]; exact want1
  have st2 : z2.stats = some (.ref S) := by rw [← hz]
  clear hz live1 ins1 want1
  have w : Lw c h₀ ad h st1 z2 { y with xs := xs } ((S, LstV [.ref x1, .ref x2]) :: (dx2, FrmS 0 []) :: (x2, NtP 171 dx2 [.int r2 u3, .int (ad.amt - cs (insE y st.m)) u4]) :: (dx1, FrmS 0 []) :: (x1, NtP 171 dx1 [.int r1 u1, .int (max 0 (ad.amt - lvE y.len st.m y.o1 y.o2)) u2]) :: (W, LstV [.int (max 0 (ad.amt - lvE y.len st.m y.o1 y.o2)) t1', .int (ad.amt - cs (insE y st.m)) t2']) :: (I, LstV (refs (insE y st.m))) :: l) := w
  refine sX3 (y := { y with xs := xs }) K w st2 want2 t0 (t5 t0) (t4 t0) (t3 t0) (t2 t0) (t1 t0) fun h k w => ?_
  refine sX4 (y := { y with xs := xs }) K w fun E h k w => ?_
  generalize hz : ({ z2 with ends := some (.ref E) } : Fz) = z3 at w
  have live3 : z3.live = some (.int (lvE y.len st.m y.o1 y.o2) tl) := by rw [← hz]; exact live2
  have ins3 : z3.inside = some (.ref I) := by rw [← hz]; exact ins2
  have want3 : z3.want = some (.ref W) := by rw [← hz]; exact want2
  have st3 : z3.stats = some (.ref S) := by rw [← hz]; exact st2
  have en3 : z3.ends = some (.ref E) := by rw [← hz]
  clear hz live2 ins2 want2 st2
  refine sX5 (y := { y with xs := xs }) K w live3 st3 en3 t0 (t4 t0) (t3 t0) hr1 (fx_ord inv.fx) hk (by show xs.length ≤ 1000; have : (if lvE y.len st.m y.o1 y.o2 = 0 then 0 else 1) + (insE y st.m).length + i ≤ 6 := hmeas; omega) fun vs xs1 h k hvs hk1 hx1 w => ?_
  have hi6 : i ≤ 6 := by have : (if lvE y.len st.m y.o1 y.o2 = 0 then 0 else 1) + (insE y st.m).length + i ≤ 6 := hmeas; omega
  have hx1 : xs1.length ≤ xs.length + 1 := hx1
  have w : Lw c h₀ ad h st1 z3 { y with xs := xs1 } ((E, LstV vs) :: (S, LstV [.ref x1, .ref x2]) :: (dx2, FrmS 0 []) :: (x2, NtP 171 dx2 [.int r2 u3, .int (ad.amt - cs (insE y st.m)) u4]) :: (dx1, FrmS 0 []) :: (x1, NtP 171 dx1 [.int r1 u1, .int (max 0 (ad.amt - lvE y.len st.m y.o1 y.o2)) u2]) :: (W, LstV [.int (max 0 (ad.amt - lvE y.len st.m y.o1 y.o2)) t1', .int (ad.amt - cs (insE y st.m)) t2']) :: (I, LstV (refs (insE y st.m))) :: l) := w
  refine sX6 (y := { y with xs := xs1 }) K w hvs (by split <;> simp) ins3 st3 en3 t0 (t6 t0) hsub hil (t2 t0) (t1 t0) hr2 hk1 (by show xs1.length ≤ 1000; omega) fun vs2 xs2 h k hvs2 hk2 hx2 w => ?_
  have hx2 : xs2.length ≤ xs1.length + 1 := hx2
  have w : Lw c h₀ ad h st1 z3 { y with xs := xs2 } ((E, LstV vs2) :: (S, LstV [.ref x1, .ref x2]) :: (dx2, FrmS 0 []) :: (x2, NtP 171 dx2 [.int r2 u3, .int (ad.amt - cs (insE y st.m)) u4]) :: (dx1, FrmS 0 []) :: (x1, NtP 171 dx1 [.int r1 u1, .int (max 0 (ad.amt - lvE y.len st.m y.o1 y.o2)) u2]) :: (W, LstV [.int (max 0 (ad.amt - lvE y.len st.m y.o1 y.o2)) t1', .int (ad.amt - cs (insE y st.m)) t2']) :: (I, LstV (refs (insE y st.m))) :: l) := w
  have hel : ((if lvE y.len st.m y.o1 y.o2 = 0 then [] else [y.o1 + y.len]) ++ if (insE y st.m).isEmpty then [] else [r2]).length ≤ 2 := by
    rw [List.length_append]; split <;> split <;> simp
  have step := fun M => stp (y := y) (M := M) (m := st.m) inv hr2
  generalize ((if lvE y.len st.m y.o1 y.o2 = 0 then [] else [y.o1 + y.len]) ++ if (insE y st.m).isEmpty then [] else [r2]) = es at hvs2 hel step
  refine sX7 (y := { y with xs := xs2 }) K w t0 hvs2 hel en3 (fun k _ => ret st1 z3 { y with xs := xs2 } _ _ _ rfl w) fun k hne => ?_
  refine sX8 (y := { y with xs := xs2 }) K w t0 hvs2 hne en3 fun M h k hM1 hM2 w => ?_
  have P := step M hM1 hM2
  have Plt := P.lt
  have inv2 : Inv ad.amt y.len { st1 with m := M - 1 } y.rows y.o0 y.o1 y.o2 := inv1.next (by show st1.m ≤ M - 1; omega) rfl (fun _ h => h) (inv1.fx.later (by show st1.m ≤ M - 1; omega) rfl rfl)
  have s2 : ({ st1 with m := M - 1 } : St).s = 0 := s1
  have m2 : ({ st1 with m := M - 1 } : St).m = M - 1 := rfl
  generalize ({ st1 with m := M - 1 } : St) = sa at w inv2 s2 m2
  refine sX9 (y := { y with xs := xs2 }) (t1' := t1') (t2' := t2') K w s2 hlen hn inv2 want3 ?_ fun sb h k m3 s3 inv3 w => ?_
  · show (W, LstV [.int (max 0 (ad.amt - lvE y.len sa.m y.o1 y.o2)) t1', .int (ad.amt - cs (insE y sa.m)) t2']) ∈ _
    rw [m2, P.lv1, P.in1]
    exact t6 t0
  refine sX10 (y := { y with xs := xs2 }) K w t0 hvs2 hne en3 fun M' h k hM1' hM2' w => ?_
  have hMM : M' = M := by have := hM2 _ hM1'; have := hM2' _ hM1; omega
  subst hMM
  have inv4 : Inv ad.amt y.len { sb with m := M' } y.rows y.o0 y.o1 y.o2 := inv3.next (by show sb.m ≤ M'; omega) rfl (fun _ h => h) (inv3.fx.later (by show sb.m ≤ M'; omega) rfl rfl)
  have s4 : ({ sb with m := M' } : St).s = 0 := s3
  have m4 : ({ sb with m := M' } : St).m = M' := rfl
  generalize ({ sb with m := M' } : St) = sc at w inv4 s4 m4
  refine sX11 (y := { y with xs := xs2 }) K w live3 st3 (t1 t0) (t5 t0) (t4 t0) fun lv' tl' h k hv1 hv2 w => ?_
  generalize hz : ({ z3 with live := some (.int lv' tl') } : Fz) = z4 at w
  have live4 : z4.live = some (.int lv' tl') := by rw [← hz]
  have ins4 : z4.inside = some (.ref I) := by rw [← hz]; exact ins3
  have st4 : z4.stats = some (.ref S) := by rw [← hz]; exact st3
  clear hz live3 ins3 st3 en3 want3
  have hlv' : lv' = lvE y.len sc.m y.o1 y.o2 := by
    rw [m4]
    by_cases hc : lvE y.len st.m y.o1 y.o2 ≠ 0 ∧ y.o1 + y.len = M'
    · rw [P.lv2 hc]; exact hv1 ⟨hc.1, by rw [hr1 hc.1, m4]; exact hc.2⟩
    · rw [P.lv3 hc]; exact hv2 fun h => hc ⟨h.1, by rw [← hr1 h.1, ← m4]; exact h.2⟩
  rw [hlv'] at live4
  have hml : (if lvE y.len sc.m y.o1 y.o2 = 0 then 0 else 1) + (insE y sc.m).length + (i + 1) ≤ 6 := by
    rw [m4]
    have hl1 : (if lvE y.len M' y.o1 y.o2 = 0 then 0 else 1) ≤ (if lvE y.len st.m y.o1 y.o2 = 0 then 0 else 1) := by
      by_cases hc : lvE y.len st.m y.o1 y.o2 ≠ 0 ∧ y.o1 + y.len = M'
      · rw [if_pos (P.lv2 hc)]; exact Nat.zero_le _
      · rw [P.lv3 hc]; exact Nat.le_refl _
    have hi1 : (insE y M').length ≤ (insE y st.m).length := by
      cases e : insE y st.m with
      | nil => rw [P.in4 e]; exact Nat.le_refl _
      | cons r0 rs =>
        by_cases hc : r0.b + 1 + y.len = M'
        · rw [P.in2 r0 rs e hc]; simp
        · rw [P.in3 r0 rs e hc]; exact Nat.le_refl _
    rcases P.one with hc | ⟨r0, rs, e, hc⟩
    · rw [if_pos (P.lv2 hc)]
      rw [if_neg hc.1] at hmeas
      omega
    · rw [P.in2 r0 rs e hc]
      rw [e, List.length_cons] at hmeas
      omega
  have hxs : xs2.length ≤ 100 + 2 * (i + 1) := by omega
  refine sX12 (y := { y with xs := xs2 }) K w ins4 st4 (t1 t0) (t7 t0) hil (t3 t0) (t2 t0) (fun I' h k hne2 hr w => ?_) fun h k hno w => ?_
  · refine xNil (q sc { z4 with inside := some (.ref I') } xs2 I' tl' h k ⟨s4, inv4, live4, rfl, hk2, hxs, hml⟩ ?_)
    cases e : insE y st.m with
    | nil => exact absurd e hne2
    | cons r0 rs =>
      have hc : r0.b + 1 + y.len = M' := by rw [← hr2 r0 rs e, hr, m4]
      have e2 : insE y sc.m = rs := by rw [m4]; exact P.in2 r0 rs e hc
      rw [e] at w
      rw [e2]
      exact Led.sub w ((List.Sublist.refl _).append ((List.Sublist.refl _).append (.cons_cons _ (.cons _ (.cons _ (.cons _ (.cons _ (.cons _ (.cons _ (.cons _ (.cons _ (List.Sublist.refl _))))))))))))
  · refine xNil (q sc z4 xs2 I tl' h k ⟨s4, inv4, live4, ins4, hk2, hxs, hml⟩ ?_)
    have e2 : insE y sc.m = insE y st.m := by
      rw [m4]
      cases e : insE y st.m with
      | nil => exact P.in4 e
      | cons r0 rs => exact P.in3 r0 rs e fun hc => hno ⟨by rw [e]; simp, by rw [hr2 r0 rs e, m4]; exact hc⟩
    rw [e2]
    exact Led.sub w ((List.Sublist.refl _).append ((List.Sublist.refl _).append (.cons _ (.cons _ (.cons _ (.cons _ (.cons _ (.cons _ (.cons _ (List.Sublist.refl _))))))))))
end
end Mine

/-! J7 -/
namespace Mine
theorem fillJ7 : PySem.Challenge.rw_bn0041_01 = PySem.Challenge.rw_bn0041_01 ∧ hd.heap_1 = hd.heap_1 := by
  k_fill
  exact ⟨rfl, rfl⟩
section
variable {c : Cx} {A : Around} {h₀ h : Heap} {k : Nat} {l l' : List It} {env : Env} {mg mb : Str → Option Value} {ad : Ad} {st : St} {z : Fz} {y : Lz}
theorem Led.sw2 {P R l : List It} {a b : It} (w : Led h₀ h (P ++ (R ++ a :: b :: l))) : Led h₀ h (P ++ (R ++ b :: a :: l)) := w.perm ((List.Perm.refl _).append ((List.Perm.refl _).append (List.Perm.swap _ _ _)))
theorem sEnd {L : Addr} {i : Nat} {Q : Flow → Heap → Nat → Prop} (K : LK c A h₀ mg mb env L ad) (w : Lw c h₀ ad h st z y l) (d : Dd ad L i st y) (hi : i ≤ 8)
    (ret : ∀ st' z' y' l' h k, y'.L = L → Lw c h₀ ad h st' z' y' l' → Q (.ret (.bool true)) h k) :
    Go c A (execs [stAt lawBody 15, stAt lawBody 16, stAt lawBody 17, stAt lawBody 18, stAt lawBody 19, stAt lawBody 20] env) h k Q := by
  obtain ⟨rfl, hlen, inv, hk, hrows, hxs, hs⟩ := d
  have b := K.b
  have ha2 := K.ok.a2
  have hm1 := K.ok.m1
  have hl : 300 ≤ y.len := by omega
  refine sB2 K w inv.asc (by omega) inv.fx.ord fun m' h k hm haw w => ?_
  have inv : Inv ad.amt y.len { st with m := m', s := 0 } y.rows y.o0 y.o1 y.o2 := inv.next hm rfl (fun _ h => h) (inv.fx.later hm rfl rfl)
  have win : Win y.len m' y.rows y.o0 y.o2 := inv.fx.win haw
  refine sG K w (by omega) fun tl I h k w => ?_
  have w : Lw c h₀ ad h { st with m := m', s := 0 } { z with live := some (.int (if y.o0 + y.len > m' then y.o2 else 0) tl), inside := some (.ref I) } y ((I, LstV (refs (y.rows.filter (liveAt y.len m')))) :: l) := w
  have hst : ({ st with m := m', s := 0 } : St).m = m' ∧ ({ st with m := m', s := 0 } : St).s = 0 := ⟨rfl, rfl⟩
  generalize ({ st with m := m', s := 0 } : St) = s0 at w inv hst
  obtain ⟨hm0, hs0⟩ := hst
  subst hm0
  have F := fin_start inv.fx win hl
  have hsum := inv.sum
  rw [F.2] at hsum w
  rw [F.1] at w
  have hpos : ∀ r ∈ insE y s0.m, 1 ≤ r.c := fun r hr => inv.pos r (List.mem_filter.mp hr).1
  have hcl := cs_len hpos
  have hmeas : (if lvE y.len s0.m y.o1 y.o2 = 0 then 0 else 1) + (insE y s0.m).length + 0 ≤ 6 := by
    have : cs (insE y s0.m) ≤ ad.amt := hsum
    split <;> omega
  refine xForR (h₀ := h₀) (n := 9) K.hA (by decide) (eCallN (nameB (v := .type "range") b w K.n (kOf K.sc n_range) (by k_is) (by decide +kernel) (by decide) (cwF (aCons (eInt fun t k => aNil ⟨keepType, gRange (n := 9) w fun r h k w => ?_⟩)))))
  refine ⟨fun i l' => ∃ st' z' xs I tl, l' = core c.w ad st' ++ lr c.w ad z' { y with xs := xs } ((I, LstV (refs (insE y st'.m))) :: l) ∧ En ad y i st' z' xs I tl, r, _, rfl, w, ⟨s0, _, y.xs, I, tl, rfl, hs0, inv, rfl, rfl, hk, by omega, hmeas⟩, ?_, ?_⟩
  · rintro it i t h k l' hi w ⟨st', z', xs, I, tl, rfl, e⟩
    have w : Led h₀ h (core c.w ad st' ++ lr c.w ad z' { y with xs := xs } ((it, RngIt (i + 1) 9) :: (I, LstV (refs (insE y st'.m))) :: l)) := Led.back w
    refine aName (storeL w K.n (kOf K.sc n_turn) f_turn (Sw.appL .z _) fun h k w => ?_)
    have w : Lw c h₀ ad h st' { z' with turn := some (.int (i : Int) t) } { y with xs := xs } ((it, RngIt (i + 1) 9) :: (I, LstV (refs (insE y st'.m))) :: l) := w
    have w : Lw c h₀ ad h st' { z' with turn := some (.int (i : Int) t) } { y with xs := xs } ((I, LstV (refs (insE y st'.m))) :: (it, RngIt (i + 1) 9) :: l) := Led.sw2 w
    have e1 : En ad y i st' { z' with turn := some (.int (i : Int) t) } xs I tl := ⟨e.s, e.inv, e.live, e.ins, e.kok, e.xs, e.meas⟩
    generalize ({ z' with turn := some (.int (i : Int) t) } : Fz) = z1 at w e1
    refine sEB K w e1 hlen (by omega) (fun st2 z2 y2 l2 h k hL w => ret st2 z2 y2 l2 h k hL w) fun st2 z2 xs2 I2 tl2 h k e2 w => ?_
    refine ⟨_, ?_, st2, z2, xs2, I2, tl2, rfl, e2⟩
    have w : Led h₀ h (core c.w ad st2 ++ lr c.w ad z2 { y with xs := xs2 } ((it, RngIt (i + 1) 9) :: (I2, LstV (refs (insE y st2.m))) :: l)) := Led.sw2 w
    exact Led.front w
  · rintro h k l' w ⟨st', z', xs, I, tl, rfl, e⟩
    exact absurd e.meas (by omega)
end
end Mine

/-! J8 -/
namespace Mine
theorem fillJ8 : PySem.Challenge.rw_bn0041_01 = PySem.Challenge.rw_bn0041_01 ∧ hd.heap_1 = hd.heap_1 := by
  k_fill
  exact ⟨rfl, rfl⟩
inductive PW (l : List It) : List Nat → List It → Prop
  | nil : PW l [] []
  | cons {i : Nat} {p p' : It} {r : List Nat} {r' : List It} (e : l[i]? = some p) (a : p.1 = p'.1) (f : ∀ o, p.2 o → p'.2 o) (t : PW l r r') : PW l (i :: r) (p' :: r')
theorem PW.mem {l : List It} {idx : List Nat} {l' : List It} (x : PW l idx l') : ∀ p' ∈ l', ∃ p ∈ l, p.1 = p'.1 ∧ ∀ o, p.2 o → p'.2 o := by
  induction x with
  | nil => intro p h; cases h
  | cons e a f t ih =>
    intro q hq
    rcases List.mem_cons.mp hq with rfl | hq
    · exact ⟨_, List.mem_of_getElem? e, a, f⟩
    · exact ih q hq
theorem PW.keys {l : List It} {idx : List Nat} {l' : List It} (x : PW l idx l') : l'.map (·.1) = idx.filterMap fun i => (l.map (·.1))[i]? := by
  induction x with
  | nil => rfl
  | cons e a f t ih =>
    rw [List.map_cons, List.filterMap_cons, List.getElem?_map, e]
    show _ :: _ = _ :: _
    rw [ih, ← a]
theorem Led.pickW {h₀ h : Heap} {l l' : List It} (w : Led h₀ h l) {idx : List Nat} (x : PW l idx l') (hn : idx.Nodup) : Led h₀ h l' := by
  refine ⟨w.keep, ?_, fun p' hp' => ?_, w.low⟩
  · rw [x.keys]
    have nd := w.nd
    generalize l.map (·.1) = ks at nd
    unfold List.Nodup
    rw [List.pairwise_filterMap]
    refine hn.imp fun {i j} hij b hb b' hb' => ?_
    rintro rfl
    obtain ⟨hi, e1⟩ := List.getElem?_eq_some_iff.mp hb
    obtain ⟨hj, e2⟩ := List.getElem?_eq_some_iff.mp hb'
    have nd := List.pairwise_iff_getElem.mp nd
    rcases Nat.lt_trichotomy i j with h | h | h
    · exact nd i j hi hj h (e1.trans e2.symm)
    · exact hij h
    · exact nd j i hj hi h (e2.trans e1.symm)
  · obtain ⟨p, hp, e, f⟩ := x.mem p' hp'
    obtain ⟨n, o, e1, q⟩ := w.has p hp
    rw [← e]
    exact ⟨n, o, e1, f o q⟩
def p3 : Pos := ⟨644, 4, 646, 24⟩
def lp (sc fi am it ck st fx mv wh op lg kp : Option Value) : Fv :=
  [(Str.ofString "script", sc), (Str.ofString "first", fi), (Str.ofString "amount", am), (Str.ofString "item", it), (Str.ofString "clock", ck), (Str.ofString "store", st),
   (Str.ofString "fixed", fx), (Str.ofString "moving", mv), (Str.ofString "who", wh), (Str.ofString "opened", op), (Str.ofString "log", lg), (Str.ofString "kept", kp),
   (Str.ofString "n", none), (Str.ofString "cost", none), (Str.ofString "verb", none), (Str.ofString "room", none), (Str.ofString "let", none), (Str.ofString "turn", none), (Str.ofString "live", none), (Str.ofString "inside", none),
   (Str.ofString "here", none), (Str.ofString "stats", none), (Str.ofString "want", none), (Str.ofString "ends", none)]
def bl (L : Addr) (fr : Fv) (v1 v4 v5 : Option Value) (t3 : Option Addr) : List It :=
  [(L, Frm fr), (L + 1, CellIs v1), (L + 2, CellIs none), (L + 3, CellIs none), (L + 4, CellIs v4), (L + 5, CellIs v5), (866, TabP p1 none), (814, TabP p2 none), (935, TabP p3 t3)]
structure PK (c : Cx) (A : Around) (h₀ : Heap) (mg mb : Str → Option Value) (env : Env) (L : Addr) : Prop where
  b : Base (hd.heap_1 c.w.params) mg mb h₀
  n : EnvOk env L
  hA : A.handled = none
  dl : A.depth < 500
  hu : A.units < 5000
  fr : A.frames = some [env]
  fL : env.frame = some L
  sc : env.scope = lawScope
  ce : env.cells = cellsOf L
  co : env.code = .ref 937
  qn : qualnameIn env "clock" "clock" = "law.<locals>.clock"
section
variable {c : Cx} {A : Around} {h₀ h : Heap} {k : Nat} {l l' : List It} {env : Env} {mg mb : Str → Option Value} {L S a : Addr} {vs : List Value} {ns : List Int}
theorem tLst0 {Q : Bool → Heap → Nat → Prop} (hl : h.IsList a vs.toArray) (hn : vs.length < 2 ^ 62) (q : ∀ k, Q (!vs.isEmpty) h k) : Go c A (truthy (.ref a)) h k Q := by
  refine wpAny_truthy_list hl (by rw [List.size_toArray]; omega) ⟨_, _, rfl, ?_⟩
  have : (!vs.toArray.isEmpty) = !vs.isEmpty := by cases vs <;> rfl
  rw [this]; exact q _
theorem subL0 {value slice : PySem.Expr} {i : Int} {t : Tok} {v : Value} {Q : Value → Heap → Nat → Prop} (hl : h.IsList a vs.toArray) (h0 : 0 ≤ i) (hfit : i < 2 ^ 63) (hv : vs[i.toNat]? = some v) (q : Q v h k)
    (hs : subscripted slice false (.ref a) (.int i t) = operate [.ref a, .int i t] (getItem (.ref a) (.int i t)) := by with_unfolding_all rfl) : Go c A (subscriptTail value slice (.ref a) (.int i t)) h k Q :=
  tail_any (s := c.s h k) hl.typeIs PySem.F.slot_list_getitem.lookup (wpAny_getItem_list hl h0 hfit (by simpa using hv) ⟨_, _, rfl, q⟩) hs
theorem isL {h₀ h : Heap} (w : Led h₀ h l) (hl : h₀.IsList S vs.toArray) : h.IsList S vs.toArray := by
  obtain ⟨oS, eS, dS, nS, cS⟩ := hl
  exact ⟨oS, w.keep _ _ eS, dS, nS, cS⟩
theorem pA {rest : List Stmt} {Q : Flow → Heap → Nat → Prop} (K : PK c A h₀ mg mb env L) (w : Led h₀ h (bl L (lp (some (.ref S)) none none none none none none none none none none none) none none none none)) (hl : h₀.IsList S vs.toArray) (hI : IntsAre vs ns) (hn : vs.length ≤ 63)
    (q : ∀ f tf ta tl h k, Led h₀ h (bl L (lp (some (.ref S)) (some (.int f tf)) (some (.int (1 + f % 5) ta)) none none none none none none none none none) (some (.int (60 * (5 + f / 5 % 16)) tl)) none none none) → Go c A (execs rest env) h k Q) :
    Go c A (execs (stAt lawBody 0 :: stAt lawBody 1 :: stAt lawBody 2 :: rest) env) h k Q := by
  have b := K.b
  have two : ∀ f tf h k, Led h₀ h (bl L (lp (some (.ref S)) (some (.int f tf)) none none none none none none none none none none) none none none none) → Go c A (execs (stAt lawBody 1 :: stAt lawBody 2 :: rest) env) h k Q := by
    intro f tf h k w
    refine xAssign (eBin (eInt fun _ k => eBin (nameL w K.n (kOf K.sc n_first) t0 (t1 t0) (eInt fun _ k => oMod (by decide) fun _ k => oAdd fun ta k => ?_))))
    refine storeL (vs' := lp (some (.ref S)) (some (.int f tf)) (some (.int (1 + f % 5) ta)) none none none none none none none none none) w K.n (kOf K.sc n_amount) (.s (.s .z)) .z fun h k w => ?_
    refine xAssign (eBin (eInt fun _ k => eBin (eInt fun _ k => eBin (eBin (nameL w K.n (kOf K.sc n_first) t0 (t1 t0) (eInt fun _ k => oDiv (by decide) (by decide) fun _ k => ?_))))))
    refine eInt fun _ k => oMod (by decide) fun _ k => oAdd fun _ k => oMul (mul_small (by decide)) fun tl k => ?_
    exact storeC w K.n (kOf K.sc n_length) (by rw [K.ce]; rfl) (.s .z) fun h w => q f tf ta tl h _ w
  refine xAssign (eIf (iVal (nameL w K.n (kOf K.sc n_script) t0 t0 (tLst0 (isL w hl) (by omega) fun k => ?_))))
  cases hv : vs with
  | nil =>
    refine if_ff (eInt fun tf k => ?_)
    exact storeL w K.n (kOf K.sc n_first) (.s .z) .z fun h k w => two 0 tf h k w
  | cons v r =>
    rw [hv] at hI hl
    cases hI with
    | cons f tf hI =>
      refine if_tt (eSub (nameL w K.n (kOf K.sc n_script) t0 t0 (eInt fun _ k => subL0 (isL w hl) (by decide) (by decide) rfl ?_)))
      exact storeL w K.n (kOf K.sc n_first) (.s .z) .z fun h k w => two f tf h k w
end
end Mine

/-! J9 -/
namespace Mine
theorem fillJ9 : PySem.Challenge.rw_bn0041_01 = PySem.Challenge.rw_bn0041_01 ∧ hd.heap_1 = hd.heap_1 := by
  k_fill
  exact ⟨rfl, rfl⟩
def adI (x dx : Addr) (am mu : Int) : Ad := ⟨0, 0, 0, 0, 0, 0, 0, 0, 0, 0, 0, 0, x, dx, 0, 0, 0, 0, 0, "", am, mu⟩
def ClkA (L cc : Addr) (o : Obj) : Prop := ∃ fd, o.data = .func fd ∧ fd.body = .stmts clockBody ∧ fd.scope = clockScope ∧ fd.params = clockParams ∧ fd.closure = [(Str.ofString "step", L + 5), (Str.ofString "moment", L + 4)] ∧
  fd.globals = mainGlobals ∧ fd.builtins = builtinsNs ∧ fd.code = .ref cc ∧ fd.qualname = Str.ofString "law.<locals>.clock" ∧ fd.defaults = .none ∧ fd.kwdefaults = .none
section
variable {c : Cx} {A : Around} {h₀ h : Heap} {k : Nat} {l l' : List It} {env : Env} {mg mb : Str → Option Value} {L S a : Addr} {vs : List Value} {ns : List Int} {f len mu : Int} {tf ta tl : Tok}
theorem pB {am : Int} {rest : List Stmt} {Q : Flow → Heap → Nat → Prop} (K : PK c A h₀ mg mb env L) (w : Led h₀ h (bl L (lp (some (.ref S)) (some (.int f tf)) (some (.int am ta)) none none none none none none none none none) (some (.int len tl)) none none none))
    (q : ∀ x dx m tm ts M S1 ck cc h k, Led h₀ h ((ck, ClkA L cc) :: (cc, CodeOf "law.<locals>.clock") :: (S1, LstV [.int 1 ts]) :: (M, LstV [.int m tm]) :: (x, ItemP (adI x dx am (5 + f / 5 % 16))) :: (dx, Frm []) ::
      bl L (lp (some (.ref S)) (some (.int f tf)) (some (.int am ta)) (some (.ref x)) (some (.ref ck)) none none none none none none none) (some (.int len tl)) (some (.ref M)) (some (.ref S1)) (some cc)) → Go c A (execs rest env) h k Q) :
    Go c A (execs (stAt lawBody 3 :: stAt lawBody 4 :: stAt lawBody 5 :: stAt lawBody 6 :: rest) env) h k Q := by
  have b := K.b
  have hdl := K.dl
  refine xAssign (eCallN (nameG b w K.n (kOf K.sc n_Item) (by k_is) (cwF ?_)))
  refine aCons (nameL w K.n (kOf K.sc n_amount) t0 (t2 t0) (aCons (eBin (eInt fun _ k => eBin (eBin (nameL w K.n (kOf K.sc n_first) t0 (t1 t0) (eInt fun _ k => oDiv (by decide) (by decide) fun _ k => ?_)))))))
  refine eInt fun _ k => oMod (by decide) fun _ k => oAdd fun tu k => aNil ⟨keepK b w (by k_is), Go.ofC ?_⟩
  refine item_ b w (by omega) (by have := Int.emod_nonneg (f / 5) (by decide : (16 : Int) ≠ 0); omega) fun x dx h k hw => ?_
  have w : Led h₀ h ((x, ItemP (adI x dx am (5 + f / 5 % 16))) :: (dx, Frm []) :: bl L (lp (some (.ref S)) (some (.int f tf)) (some (.int am ta)) none none none none none none none none none) (some (.int len tl)) none none none) := hw (adI x dx am (5 + f / 5 % 16)) rfl rfl rfl rfl
  clear hw
  refine storeL (vs' := lp (some (.ref S)) (some (.int f tf)) (some (.int am ta)) (some (.ref x)) none none none none none none none none) w K.n (kOf K.sc n_item) (.s (.s (.s .z))) (s2 .z) fun h k w => ?_
  refine xAssign (eLst (h₀ := h₀) (aCons (eBin (eBin (nameL w K.n (kOf K.sc n_first) (t2 t0) (t1 t0) (eInt fun _ k => oDiv (by decide) (by decide) fun _ k => ?_))))))
  refine eBin (eInt fun _ k => eInt fun _ k => oPow30 fun _ k => oMod (by decide) fun tm k => aNil ⟨_, w, by rw [sizeLine_eq]; show 1 ≤ 16777216; decide, fun M h w => ?_⟩)
  refine storeC w K.n (kOf K.sc n_moment) (by rw [K.ce]; rfl) (s3 (.s (.s (.s (.s .z))))) fun h w => ?_
  refine xAssign (eLst (h₀ := h₀) (aCons (eInt fun ts k => aNil ⟨_, w, by rw [sizeLine_eq]; show 1 ≤ 16777216; decide, fun S1 h w => ?_⟩)))
  refine storeC w K.n (kOf K.sc n_step) (by rw [K.ce]; rfl) (s4 (.s (.s (.s (.s (.s .z)))))) fun h w => ?_
  generalize f / 80 % 10 ^ 30 = m at w
  have w : Led h₀ h ((S1, LstV [.int 1 ts]) :: (M, LstV [.int m tm]) :: (x, ItemP (adI x dx am (5 + f / 5 % 16))) :: (dx, Frm []) ::
      bl L (lp (some (.ref S)) (some (.int f tf)) (some (.int am ta)) (some (.ref x)) none none none none none none none none) (some (.int len tl)) (some (.ref M)) (some (.ref S1)) none) := w
  refine xDef (p := p3) (qual := "law.<locals>.clock") (clos := [(Str.ofString "step", L + 5), (Str.ofString "moment", L + 4)])
    (l' := fun c' => (S1, LstV [.int 1 ts]) :: (M, LstV [.int m tm]) :: (x, ItemP (adI x dx am (5 + f / 5 % 16))) :: (dx, Frm []) ::
      bl L (lp (some (.ref S)) (some (.int f tf)) (some (.int am ta)) (some (.ref x)) none none none none none none none none) (some (.int len tl)) (some (.ref M)) (some (.ref S1)) (some c'))
    b w K.co b.c3 K.n.g (fun c' => s4 (.s (.s (.s (.s (.s (.s (.s (.s .z))))))))) rfl (clos_of (env' := { env with cells := cellsOf L }) K.ce (by rfl)) K.qn fun ck cc doc ctv h k w => ?_
  have w := w.weak (P' := ClkA L cc) .z fun o ho => by subst ho; exact ⟨_, rfl, rfl, rfl, rfl, rfl, rfl, rfl, rfl, rfl, rfl, rfl⟩
  exact storeL w K.n (kOf K.sc n_clock) (.s (.s (.s (.s .z)))) (s6 .z) fun h k w => q x dx m tm ts M S1 ck cc h k w
theorem pC {X0 X1 X2 X3 : Option Value} {v1 v4 v5 : Option Value} {t3 : Option Addr} {ck cc : Addr} {rest : List Stmt} {Q : Flow → Heap → Nat → Prop} (K : PK c A h₀ mg mb env L) (w : Led h₀ h ((ck, ClkA L cc) :: (cc, CodeOf "law.<locals>.clock") :: l')) (hl : l' = l ++ bl L (lp X0 X1 X2 X3 (some (.ref ck)) none none none none none none none) v1 v4 v5 t3)
    (q : ∀ D G O wh mv mvd fx fxd st sd C CD X E t1 t2 t3' t4 h k, Led h₀ h ((D, EmpD) :: (G, LstV []) :: (O, LstV [.int 0 t1, .int 0 t2, .int 0 t3']) :: (wh, TupV [.str "ann" t4]) :: (mv, InstP 241 mvd) :: (mvd, Frm [(Str.ofString "storage", some (.ref st))]) :: (fx, InstP 280 fxd) :: (fxd, Frm [(Str.ofString "storage", some (.ref st))]) ::
      (st, InstP 917 sd) :: (sd, Frm [(Str.ofString "clock", some (.ref ck)), (Str.ofString "storage", some (.ref C)), (Str.ofString "expirations", some (.ref X)), (Str.ofString "events", some (.ref E))]) :: (C, CtP CD) :: (CD, FrmS 0 []) :: (X, EmpD) :: (E, EmpD) :: (ck, ClkA L cc) :: (cc, CodeOf "law.<locals>.clock") ::
      (l ++ bl L (lp X0 X1 X2 X3 (some (.ref ck)) (some (.ref st)) (some (.ref fx)) (some (.ref mv)) (some (.ref wh)) (some (.ref O)) (some (.ref G)) (some (.ref D))) v1 v4 v5 t3)) → Go c A (execs rest env) h k Q) :
    Go c A (execs (stAt lawBody 7 :: stAt lawBody 8 :: stAt lawBody 9 :: stAt lawBody 10 :: stAt lawBody 11 :: stAt lawBody 12 :: stAt lawBody 13 :: rest) env) h k Q := by
  have b := K.b
  have hdl := K.dl
  subst hl
  refine xAssign (eCallN (nameG b w K.n (kOf K.sc n_Sto) (by k_is) (cwF (aCons (nameL w K.n (kOf K.sc n_clock) (t2 (rr t0)) (t4 t0) (aNil ⟨keepK b w (by k_is), Go.ofC ?_⟩))))))
  refine store_ b w (by omega) fun st sd C CD X E h k w => ?_
  refine storeL (vs' := lp X0 X1 X2 X3 (some (.ref ck)) (some (.ref st)) none none none none none none) w K.n (kOf K.sc n_store) (.s (.s (.s (.s (.s .z))))) (s8 (Sw.appL .z _)) fun h k w => ?_
  refine xAssign (eCallN (nameG b w K.n (kOf K.sc n_Fix) (by k_is) (cwF (aCons (nameL w K.n (kOf K.sc n_store) (t8 (rr t0)) (t5 t0) (aNil ⟨keepK b w (by k_is), Go.ofC ?_⟩))))))
  refine lim_ b w (by omega) (mk_fix c) (st_fst c) fun fx fxd h k w => ?_
  refine storeL (vs' := lp X0 X1 X2 X3 (some (.ref ck)) (some (.ref st)) (some (.ref fx)) none none none none none) w K.n (kOf K.sc n_fixed) (.s (.s (.s (.s (.s (.s .z)))))) (s10 (Sw.appL .z _)) fun h k w => ?_
  refine xAssign (eCallN (nameG b w K.n (kOf K.sc n_Mov) (by k_is) (cwF (aCons (nameL w K.n (kOf K.sc n_store) (t10 (rr t0)) (t5 t0) (aNil ⟨keepK b w (by k_is), Go.ofC ?_⟩))))))
  refine lim_ b w (by omega) (mk_mov c) (st_mst c) fun mv mvd h k w => ?_
  refine storeL (vs' := lp X0 X1 X2 X3 (some (.ref ck)) (some (.ref st)) (some (.ref fx)) (some (.ref mv)) none none none none) w K.n (kOf K.sc n_moving) (.s (.s (.s (.s (.s (.s (.s .z))))))) (s12 (Sw.appL .z _)) fun h k w => ?_
  refine xAssign (eTup (h₀ := h₀) (aCons (eStr fun t4' k => aNil ⟨_, w, by rw [sizeLine_eq]; show 1 ≤ 16777216; decide, fun wh h w => ?_⟩)))
  refine storeL (vs' := lp X0 X1 X2 X3 (some (.ref ck)) (some (.ref st)) (some (.ref fx)) (some (.ref mv)) (some (.ref wh)) none none none) w K.n (kOf K.sc n_who) (.s (.s (.s (.s (.s (.s (.s (.s .z)))))))) (s13 (Sw.appL .z _)) fun h k w => ?_
  refine xAssign (eLst (h₀ := h₀) (aCons (eInt fun a1 k => aCons (eInt fun a2 k => aCons (eInt fun a3 k => aNil ⟨_, w, by rw [sizeLine_eq]; show 3 ≤ 16777216; decide, fun O h w => ?_⟩)))))
  refine storeL (vs' := lp X0 X1 X2 X3 (some (.ref ck)) (some (.ref st)) (some (.ref fx)) (some (.ref mv)) (some (.ref wh)) (some (.ref O)) none none) w K.n (kOf K.sc n_opened) (.s (.s (.s (.s (.s (.s (.s (.s (.s .z))))))))) (s14 (Sw.appL .z _)) fun h k w => ?_
  refine xAssign (eLst0 w fun G h w => ?_)
  refine storeL (vs' := lp X0 X1 X2 X3 (some (.ref ck)) (some (.ref st)) (some (.ref fx)) (some (.ref mv)) (some (.ref wh)) (some (.ref O)) (some (.ref G)) none) w K.n (kOf K.sc n_log) (.s (.s (.s (.s (.s (.s (.s (.s (.s (.s .z)))))))))) (s15 (Sw.appL .z _)) fun h k w => ?_
  refine xAssign (eDict0 w fun D h w => ?_)
  refine storeL (vs' := lp X0 X1 X2 X3 (some (.ref ck)) (some (.ref st)) (some (.ref fx)) (some (.ref mv)) (some (.ref wh)) (some (.ref O)) (some (.ref G)) (some (.ref D))) w K.n (kOf K.sc n_kept) (.s (.s (.s (.s (.s (.s (.s (.s (.s (.s (.s .z))))))))))) (s16 (Sw.appL .z _)) fun h k w => ?_
  exact q D G O wh mv mvd fx fxd st sd C CD X E a1 a2 a3 t4' h k w
end
end Mine

/-! L1 -/
namespace Mine
section
variable {c : Cx} {A : Around} {h₀ h : Heap} {k : Nat} {l l' : List It} {env : Env} {mg mb : Str → Option Value} {L S a : Addr} {vs : List Value} {ns : List Int}
def fz0 (S : Addr) (fi : Value) (ta : Tok) : Fz := ⟨.ref S, fi, ta, none, none, none, none, none, none, none, none, none, none, none, none⟩
def y0 (L : Addr) (len : Int) (tl : Tok) (O G D : Addr) : Lz := ⟨L, len, tl, none, none, O, G, D, 0, 0, 0, [], []⟩
def st0 (m : Int) : St := ⟨m, 1, none, none, none, [], none, none⟩
theorem empD_dict {w : World} {KEY : Str} {o : Obj} (x : EmpD o) : DictP w KEY none o := by
  subst x; exact ⟨rfl, ⟨rfl, rfl⟩, #[], 0, rfl, rfl⟩
theorem empD_kept {w : World} {o : Obj} (x : EmpD o) : KeptP w [] o := by
  subst x; exact ⟨⟨rfl, rfl, rfl⟩, #[], 0, rfl, rfl, List.nodup_nil⟩
theorem tab_g {p : Pos} {t : Option Addr} {o : Obj} (x : TabP p t o) : TabG o := let ⟨ps, e, _⟩ := x; ⟨ps, e⟩
theorem law_ {Q : Flow → Heap → Nat → Prop} (K : PK c A h₀ mg mb env L) (w : Led h₀ h (bl L (lp (some (.ref S)) none none none none none none none none none none none) none none none none)) (hl : h₀.IsList S vs.toArray) (hI : IntsAre vs ns) (hn : vs.length ≤ 63)
    (ret : ∀ h k ad st z y l, Lw c h₀ ad h st z y l → Q (.ret (.bool true)) h k) : Go c A (execs lawBody env) h k Q := by
  rw [list21 fb_len.2.2.2]
  refine pA K w hl hI hn fun f tf ta tl h k w => ?_
  refine pB K w fun x dx m tm ts M S1 ck cc h k w => ?_
  refine pC K w (l := [(S1, LstV [.int 1 ts]), (M, LstV [.int m tm]), (x, ItemP (adI x dx (1 + f % 5) (5 + f / 5 % 16))), (dx, Frm [])]) rfl fun D G O wh mv mvd fx fxd st sd C CD X E t1' t2' t3' t4' h k w => ?_
  generalize had : (⟨M, S1, L + 4, L + 5, ck, cc, st, sd, C, CD, X, E, x, dx, fx, fxd, mv, mvd, wh, keyOf (1 + f % 5) (5 + f / 5 % 16), 1 + f % 5, 5 + f / 5 % 16⟩ : Ad) = ad
  have ok : KeyOk ad := by
    rw [← had]
    have h1 := Int.emod_nonneg f (by decide : (5 : Int) ≠ 0)
    have h2 := Int.emod_lt_of_pos f (by decide : (0 : Int) < 5)
    have h3 := Int.emod_nonneg (f / 5) (by decide : (16 : Int) ≠ 0)
    have h4 := Int.emod_lt_of_pos (f / 5) (by decide : (0 : Int) < 16)
    exact ⟨rfl, by show 1 ≤ 1 + f % 5; omega, by show 1 + f % 5 ≤ 5; omega, by show 5 ≤ 5 + f / 5 % 16; omega, by show 5 + f / 5 % 16 ≤ 20; omega⟩
  have W0 : Lw c h₀ ad h (st0 m) (fz0 S (.int f tf) ta) (y0 L (60 * (5 + f / 5 % 16)) tl O G D) [] := by
    refine Led.pickW w (idx := [17, 16, 24, 25, 14, 15, 8, 9, 10, 11, 12, 13, 18, 19, 6, 7, 4, 5, 3, 26, 27, 20, 21, 22, 23, 2, 1, 28, 0]) ?_ (by decide)
    rw [← had]
    refine .cons rfl rfl (fun o ho => lstI_of (.cons _ _ .nil) ho) ?_
    refine .cons rfl rfl (fun o ho => lstI_of (.cons _ _ .nil) ho) ?_
    refine .cons rfl rfl (fun o ho => ho) ?_
    refine .cons rfl rfl (fun o ho => ho) ?_
    refine .cons rfl rfl (fun o ho => ho) ?_
    refine .cons rfl rfl (fun o ho => ho) ?_
    refine .cons rfl rfl (fun o ho => ho) ?_
    refine .cons rfl rfl (fun o ho => ho) ?_
    refine .cons rfl rfl (fun o ho => CtP.cnt ho rfl) ?_
    refine .cons rfl rfl (fun o ho => ho.1) ?_
    refine .cons rfl rfl (fun o ho => empD_dict ho) ?_
    refine .cons rfl rfl (fun o ho => empD_dict ho) ?_
    refine .cons rfl rfl (fun o ho => ho) ?_
    refine .cons rfl rfl (fun o ho => ho) ?_
    refine .cons rfl rfl (fun o ho => ho) ?_
    refine .cons rfl rfl (fun o ho => ho) ?_
    refine .cons rfl rfl (fun o ho => ho) ?_
    refine .cons rfl rfl (fun o ho => ho) ?_
    refine .cons rfl rfl (fun o ho => by obtain ⟨n, rfl⟩ := ho; exact ⟨rfl, t4', n, rfl⟩) ?_
    refine .cons rfl rfl (fun o ho => ho) ?_
    refine .cons rfl rfl (fun o ho => ho) ?_
    refine .cons rfl rfl (fun o ho => ho) ?_
    refine .cons rfl rfl (fun o ho => ho) ?_
    refine .cons rfl rfl (fun o ho => ho) ?_
    refine .cons rfl rfl (fun o ho => ho) ?_
    refine .cons rfl rfl (fun o ho => lstI_of (.cons _ _ (.cons _ _ (.cons _ _ .nil))) ho) ?_
    refine .cons rfl rfl (fun o ho => ho) ?_
    refine .cons rfl rfl (fun o ho => tab_g ho) ?_
    refine .cons rfl rfl (fun o ho => empD_kept ho) ?_
    exact .nil
  have hcM : ad.cM = L + 4 := by rw [← had]
  have hcS : ad.cS = L + 5 := by rw [← had]
  have hmul : 60 * (5 + f / 5 % 16) = 60 * ad.mul := by rw [← had]
  clear had w
  have K1 : LK c A h₀ mg mb env L ad := ⟨K.b, K.n, K.hA, K.dl, K.hu, K.fr, K.fL, ok, K.sc, K.ce, hcM, hcS⟩
  have d0 : Dd ad L 0 (st0 m) (y0 L (60 * (5 + f / 5 % 16)) tl O G D) := by
    refine ⟨rfl, hmul, ?_, ?_, Nat.le_refl _, Nat.le_refl _, rfl⟩
    · have ha := ok.a1
      exact ⟨List.Pairwise.nil, fun _ h => (nomatch h), fun _ h => (nomatch h), by show (0 : Int) ≤ ad.amt; omega, ⟨0, rfl, fun _ h => (nomatch h)⟩, fun _ h => (nomatch h), fun _ h => (nomatch h), .inl ⟨rfl, rfl, rfl, rfl, rfl⟩⟩
    · exact fun _ h => (nomatch h)
  refine sMain K1 W0 rfl hl hI (by omega) ⟨ok.m1, ok.m2⟩ d0 fun st1 z1 y1 i h k hi d1 w => ?_
  exact sEnd K1 w d1 hi fun st' z' y' l' h k _ w => ret h k ad st' z' y' l' w
end
end Mine

/-! L2 -/
namespace Mine
section
variable {c : Cx} {h₀ h : Heap} {k : Nat} {mg mb : Str → Option Value} {L S fa : Addr} {vs : List Value} {ns : List Int} {loose : List Str} {mean : ExcName → Option Value} {news : List (Addr × Obj)} {o1 o2 o3 o4 o5 : Obj}
theorem law_pk (X : (hd.heap_1 c.w.params).In h₀) (T : Top topProg loose mean mg mb h₀) (c1 : CodeHd h₀ 870 866) (c2 : CodeHd h₀ 818 814) (c3 : CodeHd h₀ 937 935) :
    PK c (callerA.deeper (envOfC "law" lawScope L fa (.ref 937))) h₀ mg mb (envOfC "law" lawScope L fa (.ref 937)) L :=
  ⟨⟨X, T.g, T.b, T.nolimit, T.builtins, T.bmain, c1, c2, c3⟩, ⟨by show lawScope.kind = .function; decide +kernel, rfl, rfl, rfl⟩, rfl, by show callerA.depth + 1 < 500; decide, by show callerA.units + 3 < 5000; decide, rfl, rfl, rfl, by rfl, rfl, by rfl⟩
theorem fm_all_none {x : Str} : ∀ {vs : Fv}, (∀ p ∈ vs, p.2 = none) → fm vs x = none
  | [], _ => rfl
  | (n, u) :: r, hv => by
    unfold fm
    split
    · exact hv (n, u) (.head _)
    · exact fm_all_none fun p hp => hv p (.tail _ hp)
theorem lp_fm : (fun y => if y = Str.ofString "script" then some (Value.ref S) else none) = fm (lp (some (.ref S)) none none none none none none none none none none none) := by
  funext y
  show _ = fm ((Str.ofString "script", some (.ref S)) :: _) y
  conv => rhs; unfold fm
  rw [fm_all_none]
  intro p hp
  simp only [List.mem_cons, List.not_mem_nil, or_false] at hp
  rcases hp with rfl | rfl | rfl | rfl | rfl | rfl | rfl | rfl | rfl | rfl | rfl | rfl | rfl | rfl | rfl | rfl | rfl | rfl | rfl | rfl | rfl | rfl | rfl <;> rfl
theorem lp_nodup (a b' c' d e f g i j k' l m : Option Value) : ((lp a b' c' d e f g i j k' l m).map (·.1)).Nodup := by
  exact (by decide +kernel : ((lp none none none none none none none none none none none none).map (·.1)).Nodup)
theorem nodup9 : ∀ L : Nat, 866 < L ∧ 814 < L ∧ 935 < L → ([L, L + 1, L + 2, L + 3, L + 4, L + 5, 866, 814, 935] : List Nat).Nodup := by
  intro L l0
  simp only [List.nodup_cons, List.mem_cons, List.not_mem_nil, or_false, not_or, List.nodup_nil, and_true, not_false_eq_true]
  refine ⟨?_, ?_, ?_, ?_, ?_, ?_, ?_, ?_⟩ <;> omega
theorem led0 (T : Top topProg loose mean mg mb h₀) (F : Fr h₀ L h (fun y => if y = Str.ofString "script" then some (.ref S) else none)) (N : News h₀ L h news)
    (m1 : (L + 1, o1) ∈ news) (m2 : (L + 2, o2) ∈ news) (m3 : (L + 3, o3) ∈ news) (m4 : (L + 4, o4) ∈ news) (m5 : (L + 5, o5) ∈ news) (n1 : (866, tabObj #[]) ∈ news) (n2 : (814, tabObj #[]) ∈ news) (n3 : (935, tabObj #[]) ∈ news)
    (e1 : o1.data = .cell none) (e2 : o2.data = .cell none) (e3 : o3.data = .cell none) (e4 : o4.data = .cell none) (e5 : o5.data = .cell none) (l0 : 866 < L ∧ 814 < L ∧ 935 < L) :
    Led h₀ h (bl L (lp (some (.ref S)) none none none none none none none none none none none) none none none none) := by
  obtain ⟨mc, hmc, _⟩ := T.nodigits
  obtain ⟨os, es, eps, hs, _⟩ := hmc
  have hlow : cStatics < L := Nat.lt_of_lt_of_le (Heap.lt_size hs) F.above
  have hL : h₀.get? L = none := by
    cases q : h₀.get? L with
    | none => rfl
    | some o => exact absurd (Heap.lt_size q) (Nat.not_lt.mpr F.above)
  have cell : ∀ {i : Nat} {o : Obj}, (L + i, o) ∈ news → o.data = .cell none → (h₀.get? (L + i) = none ∧ cStatics < L + i) ∧ ∃ o', h.get? (L + i) = some o' ∧ CellIs none o' := fun m e => ⟨⟨(N _ m).2.2, Nat.lt_of_lt_of_le hlow (Nat.le_add_right _ _)⟩, _, (N _ m).1, e⟩
  have tab : ∀ {P : Addr} {p : Pos}, cStatics < P → (P, tabObj #[]) ∈ news → (h₀.get? P = none ∧ cStatics < P) ∧ ∃ o', h.get? P = some o' ∧ TabP p none o' := fun hP m => ⟨⟨(N _ m).2.2, hP⟩, _, (N _ m).1, #[], rfl, trivial, rfl⟩
  refine ⟨F.keep, ?_, ?_, _, hs⟩
  · exact nodup9 L l0
  · intro p hp
    unfold bl at hp
    simp only [List.mem_cons, List.not_mem_nil, or_false] at hp
    rcases hp with rfl | rfl | rfl | rfl | rfl | rfl | rfl | rfl | rfl
    · refine ⟨⟨hL, hlow⟩, ?_⟩
      obtain ⟨o, e, q⟩ := ns_iff.mp F.ns
      exact ⟨o, e, lp_nodup _ _ _ _ _ _ _ _ _ _ _ _, by rw [← lp_fm]; exact q⟩
    · exact cell m1 e1
    · exact cell m2 e2
    · exact cell m3 e3
    · exact cell m4 e4
    · exact cell m5 e5
    · exact tab (by decide) n1
    · exact tab (by decide) n2
    · exact tab (by decide) n3
theorem law_run {Q' : Flow → Shared → Prop} {E : Value → Shared → Prop} (X : (hd.heap_1 c.w.params).In h₀) (T : Top topProg loose mean mg mb h₀) (F : Fr h₀ L h (fun y => if y = Str.ofString "script" then some (.ref S) else none)) (N : News h₀ L h news)
    (m1 : (L + 1, o1) ∈ news) (m2 : (L + 2, o2) ∈ news) (m3 : (L + 3, o3) ∈ news) (m4 : (L + 4, o4) ∈ news) (m5 : (L + 5, o5) ∈ news) (n1 : (866, tabObj #[]) ∈ news) (n2 : (814, tabObj #[]) ∈ news) (n3 : (935, tabObj #[]) ∈ news)
    (e1 : o1.data = .cell none) (e2 : o2.data = .cell none) (e3 : o3.data = .cell none) (e4 : o4.data = .cell none) (e5 : o5.data = .cell none) (l0 : 866 < L ∧ 814 < L ∧ 935 < L)
    (c1 : CodeHd h₀ 870 866) (c2 : CodeHd h₀ 818 814) (c3 : CodeHd h₀ 937 935) (hl : h₀.IsList S vs.toArray) (hI : IntsAre vs ns) (hn : ns.length ≤ 63)
    (q : ∀ h' k', (∀ b o, h₀.get? b = some o → h'.get? b = some o) → GrownAll [(870, 866), (818, 814), (937, 935)] h' → Q' (.ret (.bool true)) (c.s h' k')) :
    wpAny c.m (callerA.deeper (envOfC "law" lawScope L fa (.ref 937))) (execs lawBody (envOfC "law" lawScope L fa (.ref 937))) Q' E (c.s h k) := by
  refine Go.toWp (Q := fun f h' _ => f = .ret (.bool true) ∧ (∀ b o, h₀.get? b = some o → h'.get? b = some o) ∧ GrownAll [(870, 866), (818, 814), (937, 935)] h') ?_ fun f h' k' z => ?_
  · refine law_ (law_pk X T c1 c2 c3) (led0 T F N m1 m2 m3 m4 m5 n1 n2 n3 e1 e2 e3 e4 e5 l0) hl hI (by rw [hI.length]; exact hn) fun h' k' ad st z y l w => ⟨rfl, w.keep, ?_⟩
    obtain ⟨oa, ea, pa, rfl, _⟩ := Led.get w (a := 866) (t19 t0)
    obtain ⟨ob, eb, pb, rfl, _⟩ := Led.get w (a := 814) (t20 t0)
    obtain ⟨og, eg, pg', rfl⟩ := Led.get w (a := 935) (P := TabG) (rr (t6 t0))
    exact ⟨⟨pa, ea⟩, ⟨pb, eb⟩, ⟨pg', eg⟩, trivial⟩
  · obtain ⟨rfl, h1, h2⟩ := z
    exact q h' k' h1 h2
end
end Mine

/-! The head. The tactic lays a twin (an equation that spells each text's letters) for every object of the heap and, out of these, one for each state of the heap, of the square of the number of the objects: 360 MB of compiled file.
The names below are taken, so that for the objects that the text's own statements make no twin is laid: they are looked at as they stand. It changes nothing in what is proved. -/
namespace Mine.top
def tw1139600151236580504 : Unit := ()
def tw2218668502564051296 : Unit := ()
def tw2782073688633401757 : Unit := ()
def tw9305691244287143441 : Unit := ()
def tw6756868429301003459 : Unit := ()
def tw908825868028484722 : Unit := ()
def tw9378254376102152143 : Unit := ()
def tw15169761463676818070 : Unit := ()
def tw16204670001084760307 : Unit := ()
def tw8143265674769528471 : Unit := ()
def tw6812286434817487243 : Unit := ()
def tw8640399195822439974 : Unit := ()
def tw5303079699428457377 : Unit := ()
def tw13091174067606910046 : Unit := ()
def tw17886615442053742456 : Unit := ()
def tw5105846836358774362 : Unit := ()
def tw2835187731363253809 : Unit := ()
def tw864819663365544661 : Unit := ()
def tw8689318265317240412 : Unit := ()
def tw14987219478266130788 : Unit := ()
def tw14861896470697024400 : Unit := ()
def tw13120753694373217308 : Unit := ()
def tw13359135706311490777 : Unit := ()
def tw17177869089781658578 : Unit := ()
def tw9063741608606530840 : Unit := ()
def tw14917401599646851644 : Unit := ()
def tw15860264024139754761 : Unit := ()
def tw10773188271377071773 : Unit := ()
def tw5118827330378232414 : Unit := ()
def tw788273225186049534 : Unit := ()
def tw14349089067433371257 : Unit := ()
def tw1732150942055357024 : Unit := ()
def tw2731995056826638727 : Unit := ()
def tw10404823597219466188 : Unit := ()
def tw9229161468869434483 : Unit := ()
def tw8810280945414196856 : Unit := ()
def tw15240379268576122478 : Unit := ()
def tw1886144042066472794 : Unit := ()
def tw12819366960792805191 : Unit := ()
def tw5088376156974544275 : Unit := ()
def tw13160728816969591200 : Unit := ()
def tw13303987763403120937 : Unit := ()
def tw1149218181149386328 : Unit := ()
def tw2985252069258134486 : Unit := ()
def tw1814787853859245837 : Unit := ()
def tw10617020205504526918 : Unit := ()
def tw1492452104121835379 : Unit := ()
def tw4551080515912023512 : Unit := ()
def tw16420938139371093754 : Unit := ()
def tw1869187583165140508 : Unit := ()
def tw14608685727046917156 : Unit := ()
def tw6898770573198911631 : Unit := ()
def tw81815255157605957 : Unit := ()
def tw7847650389618582240 : Unit := ()
def tw11858546649754279707 : Unit := ()
def tw6187478851450931391 : Unit := ()
def tw15177526630643400193 : Unit := ()
def tw7990429038631628895 : Unit := ()
def tw2822501910515967889 : Unit := ()
def tw5868845118606482295 : Unit := ()
def tw16273406610938067001 : Unit := ()
def tw15362295582089109014 : Unit := ()
def tw6286779285267259847 : Unit := ()
def tw4213018616267185653 : Unit := ()
def tw12540527436937284434 : Unit := ()
def tw3969286963782609292 : Unit := ()
def tw7297446738713254254 : Unit := ()
def tw14502225709538309166 : Unit := ()
def tw16759092144687519636 : Unit := ()
def tw4671429814451907529 : Unit := ()
def tw8363718466572441477 : Unit := ()
def tw5523086135645875356 : Unit := ()
def tw17555251805378815213 : Unit := ()
def tw18164388396756303480 : Unit := ()
def tw427269002284569659 : Unit := ()
def tw17486766287000646611 : Unit := ()
def tw15878805988109762761 : Unit := ()
def tw575894324575664597 : Unit := ()
def tw4498253355057717688 : Unit := ()
def tw705360758644809490 : Unit := ()
def tw4186445540838780016 : Unit := ()
def tw2249405535684624136 : Unit := ()
def tw11279390925490393535 : Unit := ()
def tw342308947776675178 : Unit := ()
def tw2514443458684651071 : Unit := ()
def tw12342655685612074800 : Unit := ()
def tw2924597203103170677 : Unit := ()
def tw2867133514656366558 : Unit := ()
def tw6431110157172167083 : Unit := ()
def tw517144808224063464 : Unit := ()
def tw3776753064480771068 : Unit := ()
def tw3730354652608582461 : Unit := ()
def tw9059672392935016618 : Unit := ()
def tw3195968871104189447 : Unit := ()
def tw14459580976405569124 : Unit := ()
def tw7855079511596107753 : Unit := ()
def tw18186074749648716422 : Unit := ()
def tw9759319705405543751 : Unit := ()
def tw8538268897159353584 : Unit := ()
def tw18034075008235765660 : Unit := ()
def tw1195175773429642966 : Unit := ()
def tw1284575025550258836 : Unit := ()
def tw13928562000808390012 : Unit := ()
def tw105208000716104510 : Unit := ()
def tw14826035006057030972 : Unit := ()
def tw16155163154822807229 : Unit := ()
def tw13264354339760550358 : Unit := ()
def tw453181688931711583 : Unit := ()
def tw11133666699803404755 : Unit := ()
def tw2741389259953327712 : Unit := ()
def tw5058314954733539658 : Unit := ()
def tw775762912060472103 : Unit := ()
def tw8345894832289464959 : Unit := ()
def tw8892184565913893157 : Unit := ()
def tw16352630495959832749 : Unit := ()
def tw8443935842833279946 : Unit := ()
def tw6749217079512962374 : Unit := ()
def tw2812155379371279736 : Unit := ()
def tw12643491718579748851 : Unit := ()
def tw17470836177267949868 : Unit := ()
def tw12012865196380796599 : Unit := ()
def tw4656485037274611717 : Unit := ()
def tw13272337422414781067 : Unit := ()
def tw14796646475526232899 : Unit := ()
def tw1275901062530889299 : Unit := ()
def tw795583310449317561 : Unit := ()
def tw12385144161495827662 : Unit := ()
def tw6520327441239513222 : Unit := ()
def tw16885616592811714743 : Unit := ()
def tw6883741973766446791 : Unit := ()
def tw5225153198818245361 : Unit := ()
def tw16174758807025615021 : Unit := ()
def tw987869383939708018 : Unit := ()
def tw15299407806266782574 : Unit := ()
def tw12622177474791663080 : Unit := ()
def tw10648311167861321448 : Unit := ()
def tw14372152842798730730 : Unit := ()
def tw14402358008270493973 : Unit := ()
def tw16123964013534891561 : Unit := ()
def tw1516213087968936877 : Unit := ()
def tw7527032243904285869 : Unit := ()
def tw18008055252877512497 : Unit := ()
def tw6370870915552960936 : Unit := ()
def tw2462062305354472974 : Unit := ()
def tw16196420915677631385 : Unit := ()
def tw15569959144833144457 : Unit := ()
def tw5244899138074338376 : Unit := ()
def tw10936122117785486979 : Unit := ()
def tw2617719716777270872 : Unit := ()
def tw6333448901615975916 : Unit := ()
def tw6859976401760118174 : Unit := ()
def tw12318557346453588183 : Unit := ()
def tw11423202765487971197 : Unit := ()
def tw12392516345856041104 : Unit := ()
def tw7414872774492366064 : Unit := ()
def tw8265191368974092141 : Unit := ()
def tw216529984938456764 : Unit := ()
def tw11960245374511038805 : Unit := ()
def tw6664487174759623829 : Unit := ()
def tw4205137553216949640 : Unit := ()
def tw7673058066778466091 : Unit := ()
def tw2555065506035805374 : Unit := ()
def tw12535971307161669396 : Unit := ()
def tw10006222313960134694 : Unit := ()
def tw1483126911874232274 : Unit := ()
def tw370947364307004932 : Unit := ()
def tw14390669486469195807 : Unit := ()
def tw5581607755468803823 : Unit := ()
def tw4321519831107876412 : Unit := ()
def tw17315540178315561739 : Unit := ()
def tw12425085872883035938 : Unit := ()
def tw12094960947251128927 : Unit := ()
def tw15058813355848621054 : Unit := ()
def tw17323899518341599180 : Unit := ()
def tw9059832203979395877 : Unit := ()
def tw708234853630380328 : Unit := ()
def tw4299629679881509495 : Unit := ()
def tw2126296398998916975 : Unit := ()
def tw6127594578889010139 : Unit := ()
def tw10448899703829047738 : Unit := ()
def tw7008692893051332821 : Unit := ()
def tw8184561461823581802 : Unit := ()
def tw8435561252592420358 : Unit := ()
def tw6919701780365589675 : Unit := ()
def tw9108098604805947806 : Unit := ()
def tw3561193834555079511 : Unit := ()
def tw13345470168829271861 : Unit := ()
def tw390997316461189296 : Unit := ()
def tw728428047077509346 : Unit := ()
def tw12483720753089274532 : Unit := ()
def tw4159251561096739476 : Unit := ()
def tw15503665604740900718 : Unit := ()
def tw11334350811105764591 : Unit := ()
def tw12958502747184954254 : Unit := ()
def tw1400011881503588481 : Unit := ()
def tw5969682004907312646 : Unit := ()
def tw1212798325632107971 : Unit := ()
def tw1676862907878916244 : Unit := ()
def tw15985961358823992270 : Unit := ()
def tw16580785732701462914 : Unit := ()
def tw16325430554902658873 : Unit := ()
def tw6240723676877644813 : Unit := ()
def tw14282377253939248939 : Unit := ()
def tw4713442408853163898 : Unit := ()
def tw9614876229902214918 : Unit := ()
def tw11762496359356365647 : Unit := ()
def tw16044733080236030384 : Unit := ()
def tw9503340733035011235 : Unit := ()
def tw12376051458212225564 : Unit := ()
def tw13370750898655102155 : Unit := ()
def tw9259421805112917234 : Unit := ()
def tw9382581127745807760 : Unit := ()
def tw5889316905344633881 : Unit := ()
def tw16713831800681072344 : Unit := ()
def tw16795567611416646642 : Unit := ()
def tw7830913209206220567 : Unit := ()
def tw8321918168302905379 : Unit := ()
def tw2007660962349395123 : Unit := ()
def tw620129878449983639 : Unit := ()
def tw6438537300738474071 : Unit := ()
def tw13501252493785611398 : Unit := ()
def tw11922380849998532372 : Unit := ()
def tw339143206060000330 : Unit := ()
def tw4047667213573674445 : Unit := ()
def tw6885214360128481674 : Unit := ()
def tw12317137736924338119 : Unit := ()
def tw14168018189251442112 : Unit := ()
def tw6694047246710070196 : Unit := ()
def tw13177472732611162249 : Unit := ()
def tw2443449257678562572 : Unit := ()
def tw7429413206186439793 : Unit := ()
def tw9335426496214029073 : Unit := ()
def tw4859757453598101857 : Unit := ()
def tw13889484949932952446 : Unit := ()
def tw14789260269991461300 : Unit := ()
def tw2145171640123136144 : Unit := ()
def tw14371913498598963198 : Unit := ()
def tw15092371282622821202 : Unit := ()
def tw12787338502077490372 : Unit := ()
def tw13889309363888878346 : Unit := ()
def tw10915162052029792233 : Unit := ()
def tw860223938195835975 : Unit := ()
def tw18085771088847121727 : Unit := ()
def tw17428532607074087071 : Unit := ()
def tw13822267516522204269 : Unit := ()
def tw5278709424875269971 : Unit := ()
def tw17565814175750979855 : Unit := ()
def tw1088946173253831356 : Unit := ()
def tw2369445192022557226 : Unit := ()
def tw13896958669275611876 : Unit := ()
def tw6761616313442571491 : Unit := ()
def tw17355269125676882429 : Unit := ()
def tw14263998999751124003 : Unit := ()
def tw3855276242980373810 : Unit := ()
def tw1585457916280141200 : Unit := ()
def tw8139039716903228087 : Unit := ()
def tw15361541807878343388 : Unit := ()
def tw10956490626425055710 : Unit := ()
def tw8523463495250067690 : Unit := ()
def tw877433047237710547 : Unit := ()
def tw8679839319945467846 : Unit := ()
def tw1142415686869020238 : Unit := ()
def tw2988451766255067171 : Unit := ()
def tw17469865338272021226 : Unit := ()
def tw9768079942903668216 : Unit := ()
def tw8107780213005350392 : Unit := ()
def tw14142502885225118848 : Unit := ()
def tw9961057766049560675 : Unit := ()
def tw12718909917080609646 : Unit := ()
def tw2581206410525282061 : Unit := ()
def tw1617357707322924660 : Unit := ()
def tw8204474986945543665 : Unit := ()
def tw5225916559131626549 : Unit := ()
def tw649594095290182367 : Unit := ()
def tw887695700811335699 : Unit := ()
def tw7198060816514059695 : Unit := ()
def tw17046948494117081484 : Unit := ()
def tw3422688185749166683 : Unit := ()
def tw12166907935582030026 : Unit := ()
def tw8410488445778877200 : Unit := ()
def tw3337584539547039419 : Unit := ()
def tw8694864300669457046 : Unit := ()
def tw3474246075231452896 : Unit := ()
def tw7743179893348639699 : Unit := ()
def tw7444641836354208208 : Unit := ()
def tw18063644159110109576 : Unit := ()
def tw18371284783138465269 : Unit := ()
def tw11466170419677230873 : Unit := ()
def tw6505410396798821541 : Unit := ()
def tw2665807947273092163 : Unit := ()
def tw11203750815551599093 : Unit := ()
def tw10008474027749305400 : Unit := ()
def tw13044034144603486326 : Unit := ()
def tw381845443943030031 : Unit := ()
def tw12080426169559351053 : Unit := ()
def tw4784893810139332661 : Unit := ()
def tw2847958352784047137 : Unit := ()
def tw17620759639134147866 : Unit := ()
def tw18237780215024852062 : Unit := ()
def tw5915399644114372684 : Unit := ()
def tw13802547742096326172 : Unit := ()
def tw8973803690348224638 : Unit := ()
def tw7250933059871147345 : Unit := ()
def tw8729362747519067210 : Unit := ()
def tw4076138812419527698 : Unit := ()
def tw501154541418245514 : Unit := ()
def tw8622502720953521162 : Unit := ()
def tw11845233108574324481 : Unit := ()
def tw12105128591322288922 : Unit := ()
def tw18245740138792012028 : Unit := ()
def tw9951221954081769418 : Unit := ()
def tw13090165191389475591 : Unit := ()
def tw8140125068956082859 : Unit := ()
def tw6930518751129746686 : Unit := ()
def tw15877122091014420850 : Unit := ()
def tw11141966352661209427 : Unit := ()
def tw283044589724301 : Unit := ()
def tw4940147422707163885 : Unit := ()
def tw16821654228018055803 : Unit := ()
def tw3584897518013459382 : Unit := ()
def tw7715697345341360870 : Unit := ()
def tw1706793611546318481 : Unit := ()
def tw8237333600419904120 : Unit := ()
def tw9962302188120564619 : Unit := ()
def tw11199532085631943738 : Unit := ()
def tw10548783162686979305 : Unit := ()
def tw14632489290957082403 : Unit := ()
def tw1638113669730673903 : Unit := ()
def tw1040915598704419856 : Unit := ()
def tw146815374380898660 : Unit := ()
def tw16104615914030681952 : Unit := ()
def tw6624316729101989866 : Unit := ()
def tw15918733279669447828 : Unit := ()
def tw6189502492464219833 : Unit := ()
def tw14399976873020721970 : Unit := ()
def tw9743097575036673082 : Unit := ()
def tw9953747333497923681 : Unit := ()
def tw16550210197400561554 : Unit := ()
def tw5860347150701562758 : Unit := ()
def tw6211089042160764376 : Unit := ()
def tw13420762306968818387 : Unit := ()
def tw11520865232209809239 : Unit := ()
def tw6662652255960138227 : Unit := ()
def tw13068111086705522682 : Unit := ()
def tw10987319290404115282 : Unit := ()
def tw8212240652046128837 : Unit := ()
def tw14762295962024373759 : Unit := ()
def tw14697636140705633519 : Unit := ()
def tw12415523145999629524 : Unit := ()
def tw4597200072644226624 : Unit := ()
def tw6042063481754889096 : Unit := ()
def tw6572447435987645144 : Unit := ()
def tw10195997230039290492 : Unit := ()
def tw10864713392326063847 : Unit := ()
def tw15740088241188596515 : Unit := ()
def tw7600245330811189008 : Unit := ()
def tw3254097082911018636 : Unit := ()
def tw13326734554550294991 : Unit := ()
def tw16878204669230926818 : Unit := ()
def tw10797620697341660853 : Unit := ()
def tw53344730913325255 : Unit := ()
def tw8657480035899644758 : Unit := ()
def tw76412952228603488 : Unit := ()
def tw9739860059890490050 : Unit := ()
def tw16415559393655328363 : Unit := ()
def tw7313339093194340965 : Unit := ()
def tw12427389293880184781 : Unit := ()
def tw6430265229019958763 : Unit := ()
def tw13134186033006778460 : Unit := ()
def tw16054190913257422852 : Unit := ()
def tw8148004212497801138 : Unit := ()
def tw10783980745131425670 : Unit := ()
def tw594810645892935528 : Unit := ()
def tw15254643099363442306 : Unit := ()
def tw5938664839603501006 : Unit := ()
def tw6176384092110617959 : Unit := ()
def tw2758071753971750899 : Unit := ()
def tw11582926029173025856 : Unit := ()
def tw13706816188851595723 : Unit := ()
def tw11199710921928265848 : Unit := ()
def tw17089494485692210459 : Unit := ()
def tw2907113945770861938 : Unit := ()
def tw9851269098105209369 : Unit := ()
def tw11240886729373846589 : Unit := ()
def tw18289109515434150305 : Unit := ()
def tw14747140909534839006 : Unit := ()
def tw17342085116792181814 : Unit := ()
def tw2377541652452675900 : Unit := ()
def tw9227057690007400460 : Unit := ()
def tw9272544492142499777 : Unit := ()
def tw3261557481417251176 : Unit := ()
def tw3195522803047326042 : Unit := ()
def tw16719718919923625709 : Unit := ()
def tw10801874191123338550 : Unit := ()
def tw15095372191486117680 : Unit := ()
def tw13307591127769906961 : Unit := ()
def tw196536941598035525 : Unit := ()
def tw1843344800811705456 : Unit := ()
def tw18367679650794681301 : Unit := ()
def tw9442318146202087700 : Unit := ()
def tw9366391650621772374 : Unit := ()
def tw2683898200743741643 : Unit := ()
def tw1291508964198565346 : Unit := ()
def tw9233335307524088747 : Unit := ()
def tw17795014544551873601 : Unit := ()
def tw10657950659306570408 : Unit := ()
def tw3976154599441133093 : Unit := ()
def tw1754339480302792767 : Unit := ()
def tw8025738503920905074 : Unit := ()
def tw17542608870123051758 : Unit := ()
def tw17219337458794519322 : Unit := ()
def tw3712731000106771831 : Unit := ()
def tw16597617366809209970 : Unit := ()
def tw16453443671601555132 : Unit := ()
def tw7386116660499605909 : Unit := ()
def tw9843447840031818808 : Unit := ()
def tw16800595933775061595 : Unit := ()
def tw4828031223510198475 : Unit := ()
def tw4526881389914513428 : Unit := ()
def tw1108800333578037850 : Unit := ()
def tw1068965626710143233 : Unit := ()
def tw18177719399980262173 : Unit := ()
def tw3315250197877816394 : Unit := ()
def tw6487610083215253720 : Unit := ()
def tw1294077662247117797 : Unit := ()
def tw14724332232928298890 : Unit := ()
def tw13290321428070320777 : Unit := ()
def tw13799840507378627052 : Unit := ()
def tw9195894827357321740 : Unit := ()
def tw8472579005086612782 : Unit := ()
def tw2220570432770164149 : Unit := ()
def tw11334203419191126389 : Unit := ()
def tw7671549972530922468 : Unit := ()
def tw13001836021917841797 : Unit := ()
def tw9165953624949470791 : Unit := ()
def tw9919435345466941130 : Unit := ()
def tw11443710868159068359 : Unit := ()
def tw1601500998369573665 : Unit := ()
def tw9166809390415177425 : Unit := ()
def tw1124271682379634556 : Unit := ()
def tw17953984050398360512 : Unit := ()
def tw15286249088069653756 : Unit := ()
def tw15245507539482535896 : Unit := ()
def tw13983857475226248213 : Unit := ()
def tw9589608677651300831 : Unit := ()
def tw4835499133494076262 : Unit := ()
def tw2506305409684761478 : Unit := ()
def tw8311017846404947139 : Unit := ()
def tw427420600052151026 : Unit := ()
def tw2312856594315299383 : Unit := ()
def tw1833847959688406909 : Unit := ()
def tw13710211086531791108 : Unit := ()
def tw104434173382791472 : Unit := ()
def tw7204493036743257322 : Unit := ()
def tw297971269722091814 : Unit := ()
def tw4555866861457887817 : Unit := ()
def tw6196800358849779857 : Unit := ()
def tw7847352863974893604 : Unit := ()
def tw11760055953109336660 : Unit := ()
def tw1971433849790844608 : Unit := ()
def tw5398424786039705171 : Unit := ()
def tw4840481374290595910 : Unit := ()
def tw4699463449715708850 : Unit := ()
def tw14615657086365298920 : Unit := ()
def tw9913501989792142831 : Unit := ()
def tw4916261283513009128 : Unit := ()
def tw10079171474624433434 : Unit := ()
def tw6124053682588569230 : Unit := ()
def tw8369368087495890639 : Unit := ()
def tw13994475860397038760 : Unit := ()
def tw3378803678994701225 : Unit := ()
def tw4383139521930768336 : Unit := ()
def tw3995942328266245912 : Unit := ()
def tw3739144386018749749 : Unit := ()
def tw5245862010334584759 : Unit := ()
def tw17030962893124633753 : Unit := ()
def tw6973401727384321114 : Unit := ()
def tw9361663168868926718 : Unit := ()
def tw1655259298481077034 : Unit := ()
def tw12256363837256957063 : Unit := ()
def tw3767615275625035234 : Unit := ()
def tw5983031951866500094 : Unit := ()
def tw17022078359063049780 : Unit := ()
def tw47109162367338493 : Unit := ()
def tw2878843996050045342 : Unit := ()
def tw12958664272152378060 : Unit := ()
def tw12545222027267286695 : Unit := ()
def tw4177254973167742082 : Unit := ()
def tw4058662728301269685 : Unit := ()
def tw17103585973383926153 : Unit := ()
def tw17103177528636943170 : Unit := ()
def tw13012589842206080548 : Unit := ()
def tw8043003576528973991 : Unit := ()
def tw3796891538752321733 : Unit := ()
def tw1321871150748368714 : Unit := ()
def tw4392038535549328194 : Unit := ()
def tw1112988674713690477 : Unit := ()
def tw10341860258655708415 : Unit := ()
def tw3696473221133414273 : Unit := ()
def tw8265311939077410998 : Unit := ()
def tw4134505453457115739 : Unit := ()
def tw10399464001100048223 : Unit := ()
def tw2722852734226103192 : Unit := ()
def tw3484022092364678248 : Unit := ()
def tw3207569582813703071 : Unit := ()
def tw681777741448182936 : Unit := ()
def tw6674990990233134667 : Unit := ()
def tw8874702517807110003 : Unit := ()
def tw8281120267493503204 : Unit := ()
def tw1016984595167383106 : Unit := ()
def tw9233715247699887402 : Unit := ()
def tw15722756333993289495 : Unit := ()
def tw3217022616335106338 : Unit := ()
def tw12764151676501842404 : Unit := ()
def tw84136930442132756 : Unit := ()
def tw13968125046926948103 : Unit := ()
def tw14537839394382259888 : Unit := ()
def tw10574840078274726829 : Unit := ()
def tw4736427724481360342 : Unit := ()
def tw16004416686337608138 : Unit := ()
def tw9178861053002065721 : Unit := ()
def tw2727672472851901052 : Unit := ()
def tw7681529838311687354 : Unit := ()
def tw13223034962123697568 : Unit := ()
def tw9590735534726013551 : Unit := ()
def tw672699306608606093 : Unit := ()
def tw10774637447528242797 : Unit := ()
def tw1988063486488863061 : Unit := ()
def tw3669314199184481253 : Unit := ()
def tw3871027444623705763 : Unit := ()
def tw1697544655201012999 : Unit := ()
def tw12209182163369298222 : Unit := ()
def tw6292954644110606532 : Unit := ()
def tw3002795768020413707 : Unit := ()
def tw11542710104232473196 : Unit := ()
def tw10187724287525710026 : Unit := ()
def tw7381879191629600215 : Unit := ()
def tw9227541089923242437 : Unit := ()
def tw1123975283337734383 : Unit := ()
def tw10001883323181062329 : Unit := ()
def tw2405475915293451298 : Unit := ()
def tw14657780768301432306 : Unit := ()
def tw5609151216138764652 : Unit := ()
def tw15349318334595610263 : Unit := ()
def tw6265701101103706036 : Unit := ()
def tw17781115878593249900 : Unit := ()
def tw2417791160451022400 : Unit := ()
def tw2686433634493928565 : Unit := ()
def tw8560541052185303311 : Unit := ()
def tw8968299171318014206 : Unit := ()
def tw2267912224990424062 : Unit := ()
def tw14145802354927516647 : Unit := ()
def tw11116745826364501430 : Unit := ()
def tw15874363893724204672 : Unit := ()
def tw11994683656316670133 : Unit := ()
def tw10194810499950245846 : Unit := ()
def tw14453841093610474573 : Unit := ()
def tw5839659824258004927 : Unit := ()
def tw2544169868661182894 : Unit := ()
def tw4331257952254489624 : Unit := ()
def tw6746510453823603384 : Unit := ()
def tw13318506193475082254 : Unit := ()
def tw11457754044182789617 : Unit := ()
def tw10579768621468169598 : Unit := ()
def tw7160873610591055699 : Unit := ()
def tw3479634599624807885 : Unit := ()
def tw9152664641465651067 : Unit := ()
def tw995497684801637723 : Unit := ()
def tw7325726471975496349 : Unit := ()
def tw5507162329139097715 : Unit := ()
def tw5702910450625016506 : Unit := ()
def tw4796303294375832693 : Unit := ()
def tw10361075674979980167 : Unit := ()
def tw10694878333477680388 : Unit := ()
def tw17346259052997144950 : Unit := ()
def tw4547018644641229820 : Unit := ()
def tw10562855833978642645 : Unit := ()
def tw15212760480394562756 : Unit := ()
def tw3140898538269762758 : Unit := ()
def tw15451780782824253742 : Unit := ()
def tw2029088862249889922 : Unit := ()
def tw7204998973626084599 : Unit := ()
def tw6659320528611288953 : Unit := ()
def tw13864677062968915208 : Unit := ()
def tw17576949682797635024 : Unit := ()
def tw7273676953221729872 : Unit := ()
def tw13549259019975226677 : Unit := ()
def tw350670483859837877 : Unit := ()
def tw11982747722937265360 : Unit := ()
def tw13305523845174962083 : Unit := ()
def tw2596539476470345881 : Unit := ()
def tw13500427573557490136 : Unit := ()
def tw8327351992414209593 : Unit := ()
def tw8054331753737935190 : Unit := ()
def tw13987285891283452908 : Unit := ()
def tw956089473029861405 : Unit := ()
def tw12117888159696746259 : Unit := ()
def tw14671331368771545958 : Unit := ()
def tw1297684725254868899 : Unit := ()
def tw16736118626332596326 : Unit := ()
def tw9666326922614434849 : Unit := ()
def tw5648408011753718230 : Unit := ()
def tw10017263926548143515 : Unit := ()
def tw7033079012710635876 : Unit := ()
def tw17176029603704830031 : Unit := ()
def tw9685713192446186341 : Unit := ()
def tw602653604445443664 : Unit := ()
def tw7657828476027519975 : Unit := ()
def tw4951766788466123468 : Unit := ()
def tw4773702212245658779 : Unit := ()
def tw12904532413392791838 : Unit := ()
def tw6908635100366463001 : Unit := ()
def tw5513142621748847562 : Unit := ()
def tw3874152929960365753 : Unit := ()
def tw14450715343900746980 : Unit := ()
def tw1486479319815781832 : Unit := ()
def tw17981982808018919739 : Unit := ()
def tw16034636559557993077 : Unit := ()
def tw15542334942015070624 : Unit := ()
def tw9149571693438533347 : Unit := ()
def tw3820434133910038737 : Unit := ()
def tw2770239361232196585 : Unit := ()
def tw953821971998124167 : Unit := ()
def tw3120133295221510679 : Unit := ()
def tw2601905985415302144 : Unit := ()
def tw17474498911051797155 : Unit := ()
def tw12783364522390391256 : Unit := ()
def tw1584292188352093569 : Unit := ()
def tw7913636548009798097 : Unit := ()
def tw661290744650703789 : Unit := ()
def tw13975414291046593716 : Unit := ()
def tw668136137496459709 : Unit := ()
def tw9673933992889287130 : Unit := ()
def tw2685012915969955173 : Unit := ()
def tw13261893007816960818 : Unit := ()
def tw1394568958698188020 : Unit := ()
def tw5728218623943512802 : Unit := ()
def tw10414433010598505635 : Unit := ()
def tw15911569825323301435 : Unit := ()
def tw4695670854781333657 : Unit := ()
def tw17741875731164886585 : Unit := ()
def tw17828378304095215089 : Unit := ()
def tw13385244156195431271 : Unit := ()
def tw4807692442873511580 : Unit := ()
def tw83393220934416808 : Unit := ()
def tw17050326753033342646 : Unit := ()
def tw13370185576492129568 : Unit := ()
def tw4791253341166991637 : Unit := ()
def tw17582957951858275007 : Unit := ()
def tw8999917154711486175 : Unit := ()
def tw6381231289166406305 : Unit := ()
def tw12638030207367898728 : Unit := ()
def tw10577272966987657301 : Unit := ()
def tw2809488002615124206 : Unit := ()
def tw6786057226368545225 : Unit := ()
def tw5596365628329696591 : Unit := ()
def tw14466935161476858967 : Unit := ()
def tw3486219094355674750 : Unit := ()
def tw2103985501979894447 : Unit := ()
def tw14042817526060737062 : Unit := ()
def tw1147548669246485465 : Unit := ()
def tw401921906979044612 : Unit := ()
def tw13713866747541496747 : Unit := ()
def tw8693662901424576113 : Unit := ()
def tw11053662475850362967 : Unit := ()
def tw9990226795618131978 : Unit := ()
def tw16262243036561855896 : Unit := ()
def tw93012567124736588 : Unit := ()
def tw17594962761535629368 : Unit := ()
def tw9016798869158615873 : Unit := ()
def tw1803303928475200142 : Unit := ()
def tw3548060758652744671 : Unit := ()
def tw7213333562754528385 : Unit := ()
def tw8297286125493194097 : Unit := ()
def tw16866024460163772082 : Unit := ()
def tw8823455108540655025 : Unit := ()
def tw13432635357386499347 : Unit := ()
def tw11383000496634168614 : Unit := ()
def tw12894197372075662830 : Unit := ()
def tw18374746225686918389 : Unit := ()
def tw11173010173815179391 : Unit := ()
def tw8420165910927482534 : Unit := ()
def tw3909029901177050473 : Unit := ()
def tw16068562728529669930 : Unit := ()
def tw13187519465064655849 : Unit := ()
def tw9516688046558066552 : Unit := ()
def tw7587601194962177611 : Unit := ()
def tw10296497611174029103 : Unit := ()
def tw17788931634197215145 : Unit := ()
def tw10467260515200827399 : Unit := ()
def tw17545328352263074274 : Unit := ()
def tw2365566498512967660 : Unit := ()
def tw2580922434103091657 : Unit := ()
def tw17085176360113175178 : Unit := ()
def tw7845129631348957993 : Unit := ()
def tw13985988839938425345 : Unit := ()
def tw15125931889511115149 : Unit := ()
def tw11072019736110318841 : Unit := ()
def tw2972514686349903234 : Unit := ()
def tw6503730183909636620 : Unit := ()
def tw7059692629156357883 : Unit := ()
def tw11159431927160009238 : Unit := ()
def tw15638586536077026902 : Unit := ()
def tw5176459694589498394 : Unit := ()
def tw2619622883677149074 : Unit := ()
def tw6383614241601562808 : Unit := ()
def tw4468942710605802240 : Unit := ()
def tw2926424126403749041 : Unit := ()
def tw5552270689369575618 : Unit := ()
def tw5240762971458559404 : Unit := ()
def tw15525995667512963556 : Unit := ()
def tw6912233166142098652 : Unit := ()
def tw6203543418390704334 : Unit := ()
def tw7717162694582976202 : Unit := ()
def tw14317375437502057738 : Unit := ()
def tw14526540143163920134 : Unit := ()
def tw2446451932059125521 : Unit := ()
def tw14771320824794740959 : Unit := ()
def tw14235281626263879747 : Unit := ()
def tw3664424711883983056 : Unit := ()
def tw15744752440731449612 : Unit := ()
def tw2770563814800254177 : Unit := ()
def tw411662067469150650 : Unit := ()
def tw1209819496270969543 : Unit := ()
def tw14983691940233647259 : Unit := ()
def tw15687709949711836451 : Unit := ()
def tw1522322319653140107 : Unit := ()
def tw16734371015571099844 : Unit := ()
def tw6893477703608230032 : Unit := ()
def tw9843949296442739443 : Unit := ()
def tw6448850889433096767 : Unit := ()
def tw8637452081102412489 : Unit := ()
def tw3331421620988305804 : Unit := ()
def tw4010397242664982755 : Unit := ()
def tw11189890337720088615 : Unit := ()
def tw2968346561183084112 : Unit := ()
def tw13899568491130100285 : Unit := ()
def tw2617181576586992344 : Unit := ()
def tw18185382058313985135 : Unit := ()
def tw17964300760807480141 : Unit := ()
def tw18394268562011335289 : Unit := ()
def tw4046864289407762814 : Unit := ()
def tw5692499903750754813 : Unit := ()
def tw16264823338695392855 : Unit := ()
def tw46980244435833615 : Unit := ()
def tw15271675978053873483 : Unit := ()
def tw16414630628198896168 : Unit := ()
def tw9326722878772556681 : Unit := ()
def tw13890846271309207196 : Unit := ()
def tw11584198869435930015 : Unit := ()
def tw14248925298954806443 : Unit := ()
def tw3831216023754155268 : Unit := ()
def tw8817415213059835157 : Unit := ()
def tw1717825165581474212 : Unit := ()
def tw13852830345959847167 : Unit := ()
def tw2707679213066786127 : Unit := ()
def tw13922054642007902626 : Unit := ()
def tw6583040956863952856 : Unit := ()
def tw11145643937294416527 : Unit := ()
def tw2502181453436431679 : Unit := ()
def tw11620634932572840514 : Unit := ()
def tw12379415707883124570 : Unit := ()
def tw12609604535291364189 : Unit := ()
def tw9854310039474760501 : Unit := ()
def tw12287887523310495049 : Unit := ()
def tw15508944514630427714 : Unit := ()
def tw1186331607622873149 : Unit := ()
def tw11593399256984752444 : Unit := ()
def tw11045010717311733409 : Unit := ()
def tw17135812771915316397 : Unit := ()
def tw13167462122316868159 : Unit := ()
def tw18121752080927795069 : Unit := ()
def tw18326957874037197240 : Unit := ()
def tw10362775142378211054 : Unit := ()
def tw8800459187187324500 : Unit := ()
def tw16240068400928781132 : Unit := ()
def tw5647976800219259906 : Unit := ()
def tw3465488137227279516 : Unit := ()
def tw1353657120722975067 : Unit := ()
def tw13191473780850816973 : Unit := ()
def tw516228168201391017 : Unit := ()
def tw18200808041648558556 : Unit := ()
def tw8393700709775954928 : Unit := ()
def tw8547604310838440241 : Unit := ()
def tw12559286593441436923 : Unit := ()
def tw3453223234828964814 : Unit := ()
def tw16982378080980825192 : Unit := ()
def tw5196900775432865589 : Unit := ()
def tw4250876409542091131 : Unit := ()
def tw12564220515667953714 : Unit := ()
def tw9576743257966636567 : Unit := ()
def tw8912170899635468890 : Unit := ()
def tw15383718091736126541 : Unit := ()
def tw9407396174263392564 : Unit := ()
def tw2165817408578904141 : Unit := ()
def tw15823732540823425666 : Unit := ()
def tw17783859843131274014 : Unit := ()
def tw16896751376397280635 : Unit := ()
def tw11577829705659331004 : Unit := ()
def tw114735475811551136 : Unit := ()
def tw10276331973627342096 : Unit := ()
def tw18134043772397237400 : Unit := ()
def tw2752453847809088016 : Unit := ()
def tw10871174231137468428 : Unit := ()
def tw9238823003894178615 : Unit := ()
def tw7079599612431449588 : Unit := ()
def tw11377482038585738817 : Unit := ()
def tw7799483888651840948 : Unit := ()
def tw15073315481182737699 : Unit := ()
def tw1142465760834251562 : Unit := ()
def tw3846862658102513837 : Unit := ()
def tw12507017104952529904 : Unit := ()
def tw7436774141650363327 : Unit := ()
def tw984902984118615328 : Unit := ()
def tw13047834502658803893 : Unit := ()
def tw2859833716702649255 : Unit := ()
def tw9328819404386307858 : Unit := ()
def tw3357215229441099570 : Unit := ()
def tw10242591131026960117 : Unit := ()
def tw8620165645458168473 : Unit := ()
def tw2287362676942042354 : Unit := ()
def tw16612331741718818515 : Unit := ()
def tw17807222030613408314 : Unit := ()
def tw729201693064108563 : Unit := ()
def tw5970215366352900667 : Unit := ()
def tw6075534854705499898 : Unit := ()
def tw4856909995586565122 : Unit := ()
def tw15799541711010589177 : Unit := ()
def tw6623532728838073528 : Unit := ()
def tw15696354942287192291 : Unit := ()
def tw4691186174975459493 : Unit := ()
def tw12879618353801967718 : Unit := ()
def tw8170299122808406783 : Unit := ()
def tw7744093853086628109 : Unit := ()
def tw16809779246217341487 : Unit := ()
def tw5738303106652476479 : Unit := ()
def tw14214845130331304391 : Unit := ()
def tw2047080938173012442 : Unit := ()
def tw7761843605638006849 : Unit := ()
def tw16674975167109581930 : Unit := ()
def tw2675166985342186458 : Unit := ()
def tw3715792687998586317 : Unit := ()
def tw11779653239440661071 : Unit := ()
def tw17009415399725018624 : Unit := ()
def tw16509065781470453940 : Unit := ()
def tw7215319984434753242 : Unit := ()
def tw7538252964068480738 : Unit := ()
def tw3581848524822189991 : Unit := ()
def tw1169771345039838236 : Unit := ()
def tw3143785405151724282 : Unit := ()
def tw17735899436944072409 : Unit := ()
def tw6459276657848829223 : Unit := ()
def tw18062624165398249997 : Unit := ()
def tw314455870634268127 : Unit := ()
def tw132903981291199154 : Unit := ()
def tw12762922103008790111 : Unit := ()
def tw10252623693936335467 : Unit := ()
def tw7817637940432870852 : Unit := ()
def tw17033825039287860005 : Unit := ()
def tw17576975557295073227 : Unit := ()
def tw3033006917804047512 : Unit := ()
def tw5186518429493523239 : Unit := ()
def tw17494340499879156831 : Unit := ()
def tw10643057118474118344 : Unit := ()
def tw3087888393795971977 : Unit := ()
def tw11131206648525784891 : Unit := ()
def tw2047500489365003465 : Unit := ()
def tw5235370132326077648 : Unit := ()
def tw2965125352208521119 : Unit := ()
def tw462939625794472801 : Unit := ()
def tw12182655422080760471 : Unit := ()
def tw7522852383072776753 : Unit := ()
def tw10328360990557673835 : Unit := ()
def tw9332579688445097367 : Unit := ()
def tw16007503158450755388 : Unit := ()
def tw4250950275838387964 : Unit := ()
def tw4052878762203253943 : Unit := ()
def tw8672883130414831044 : Unit := ()
def tw1559226430018442191 : Unit := ()
def tw7737320934136571279 : Unit := ()
def tw4158126171336067921 : Unit := ()
def tw2630061898475652689 : Unit := ()
def tw5341934141677670832 : Unit := ()
def tw6287420888163001789 : Unit := ()
def tw14301671488300290737 : Unit := ()
def tw372964977893139469 : Unit := ()
def tw16342770487823414484 : Unit := ()
def tw6756851087969907010 : Unit := ()
def tw12625694945159114441 : Unit := ()
def tw4232285709927190386 : Unit := ()
def tw11592465598724292549 : Unit := ()
def tw9833397302626899308 : Unit := ()
def tw15740948416001004644 : Unit := ()
def tw6460121766331871944 : Unit := ()
def tw1192657577511650299 : Unit := ()
def tw13385996262653078937 : Unit := ()
def tw12643520174271941249 : Unit := ()
def tw5590232498371695878 : Unit := ()
def tw99440450732166138 : Unit := ()
def tw8069049012094873728 : Unit := ()
def tw4292522238394942308 : Unit := ()
def tw12520176845478516731 : Unit := ()
def tw3704924817259034979 : Unit := ()
def tw6733462575251390621 : Unit := ()
def tw13820912127525551613 : Unit := ()
def tw10367675484739944270 : Unit := ()
def tw17395277212465857529 : Unit := ()
def tw7475746777092488413 : Unit := ()
def tw1592229195962567352 : Unit := ()
def tw4002441696211005659 : Unit := ()
def tw16120041803238788101 : Unit := ()
def tw4258143625173308034 : Unit := ()
def tw6916252892733821390 : Unit := ()
def tw2009410202504348048 : Unit := ()
def tw14705559076539443318 : Unit := ()
def tw2670627174450433442 : Unit := ()
def tw1670607248958778201 : Unit := ()
def tw17683472795295644477 : Unit := ()
def tw8374938949443298174 : Unit := ()
def tw3570499242123996262 : Unit := ()
def tw12340227926317113386 : Unit := ()
def tw6468107147075657394 : Unit := ()
def tw12210559395081530917 : Unit := ()
def tw6143595290313323761 : Unit := ()
def tw568400683779154973 : Unit := ()
def tw7439886461454727182 : Unit := ()
def tw8985709366574770022 : Unit := ()
def tw859137505422859605 : Unit := ()
def tw5240389563564037448 : Unit := ()
def tw11468358511172941013 : Unit := ()
def tw5483185372664623402 : Unit := ()
def tw12488038555639769405 : Unit := ()
def tw15008207993883188931 : Unit := ()
def tw657111498738832265 : Unit := ()
def tw16836452506482946331 : Unit := ()
def tw8455645898260960030 : Unit := ()
def tw1897025099450329940 : Unit := ()
def tw2685745773621513544 : Unit := ()
def tw5790966258338625528 : Unit := ()
def tw13990698242589431971 : Unit := ()
def tw3644161924160858147 : Unit := ()
def tw16149628235652541579 : Unit := ()
def tw11470690223818410786 : Unit := ()
def tw9456006794991739263 : Unit := ()
def tw17774833976778514315 : Unit := ()
def tw9723989250521069032 : Unit := ()
def tw2104741419117168686 : Unit := ()
def tw17709558473723601244 : Unit := ()
def tw14645912567700417926 : Unit := ()
def tw10836530967397901330 : Unit := ()
def tw9038659593494541401 : Unit := ()
def tw12777601194060584777 : Unit := ()
def tw7280543176740627685 : Unit := ()
def tw3473093325804163894 : Unit := ()
def tw1974259917200649262 : Unit := ()
def tw1236304545764765349 : Unit := ()
def tw1551491737661789689 : Unit := ()
def tw9514800995652322822 : Unit := ()
def tw16663787254893796032 : Unit := ()
def tw14214649769353832295 : Unit := ()
def tw4626048006780466326 : Unit := ()
def tw304654302220672320 : Unit := ()
def tw15735037969156040135 : Unit := ()
def tw7108139096449030536 : Unit := ()
def tw16281582537960229878 : Unit := ()
def tw16659674399394625376 : Unit := ()
def tw10317287140990440334 : Unit := ()
def tw2105017259488925948 : Unit := ()
def tw4131498621145694574 : Unit := ()
def tw1304757597395314617 : Unit := ()
def tw2910609919460849807 : Unit := ()
def tw13902025155065610156 : Unit := ()
def tw17160434163424456010 : Unit := ()
def tw2896640688883821729 : Unit := ()
def tw17366924284538989914 : Unit := ()
def tw2446586112883488508 : Unit := ()
def tw13901205277877782832 : Unit := ()
def tw16258771989139608452 : Unit := ()
def tw2975709217455756120 : Unit := ()
def tw8628236747792435071 : Unit := ()
def tw12865423146811077096 : Unit := ()
def tw13759081321499198575 : Unit := ()
def tw17785818512168800811 : Unit := ()
def tw11917448952958348678 : Unit := ()
def tw10768140376307724812 : Unit := ()
def tw16542083797698202722 : Unit := ()
def tw6754034310392073148 : Unit := ()
def tw6345181382737326586 : Unit := ()
def tw5379463472682653830 : Unit := ()
def tw3603051052118289896 : Unit := ()
def tw2565563351968343141 : Unit := ()
def tw7702549930194098719 : Unit := ()
def tw16525863338940772298 : Unit := ()
def tw3347922821702440152 : Unit := ()
def tw9854493187847425173 : Unit := ()
def tw3764141193738528704 : Unit := ()
def tw3901323768455840569 : Unit := ()
def tw11765434788231831023 : Unit := ()
def tw16793365374058956912 : Unit := ()
def tw4885547446624616799 : Unit := ()
def tw5571243529121415630 : Unit := ()
def tw18330144715369815205 : Unit := ()
def tw5072613934562372735 : Unit := ()
def tw5444345374180229054 : Unit := ()
def tw18229784292405043182 : Unit := ()
def tw7249705126575804556 : Unit := ()
def tw2307138979858485370 : Unit := ()
def tw10219655510578893393 : Unit := ()
def tw18016941796951652274 : Unit := ()
def tw16526113553464788058 : Unit := ()
def tw16357309143852133390 : Unit := ()
def tw4977374598719398275 : Unit := ()
def tw11842451847925006096 : Unit := ()
def tw4807402645868434406 : Unit := ()
def tw10180943152330463961 : Unit := ()
def tw17434308400759680031 : Unit := ()
def tw12329864456250741675 : Unit := ()
def tw1293289543672728842 : Unit := ()
def tw15262977503361262276 : Unit := ()
def tw1312780250039628139 : Unit := ()
def tw9694206877528517478 : Unit := ()
def tw10350142207108426684 : Unit := ()
def tw11263669390164206178 : Unit := ()
def tw2424727229257130912 : Unit := ()
def tw15234444972351076034 : Unit := ()
def tw650146959520709813 : Unit := ()
def tw4181406029030974548 : Unit := ()
def tw17444329988762607307 : Unit := ()
def tw1990408344712342385 : Unit := ()
def tw16656781636731879198 : Unit := ()
def tw13178059906610389163 : Unit := ()
def tw5163715390036670947 : Unit := ()
def tw9486757043174368735 : Unit := ()
def tw11828478481110319688 : Unit := ()
def tw4705723845826882120 : Unit := ()
def tw682014064893787789 : Unit := ()
def tw10885322118463539834 : Unit := ()
def tw3423177367516475676 : Unit := ()
def tw17921175469725437805 : Unit := ()
def tw3389129807090800087 : Unit := ()
def tw18236624570336363585 : Unit := ()
def tw14029182922437419836 : Unit := ()
def tw18386854893347148238 : Unit := ()
def tw16844067456194695469 : Unit := ()
def tw14309182039651084788 : Unit := ()
def tw65929781887070819 : Unit := ()
def tw1880918794155911695 : Unit := ()
def tw15743347864482560488 : Unit := ()
def tw7358114872323791358 : Unit := ()
def tw4547113066930546574 : Unit := ()
def tw13830271770371739309 : Unit := ()
def tw10505224238033894595 : Unit := ()
def tw11384800866962632227 : Unit := ()
def tw15166127791298437107 : Unit := ()
def tw12725264436868645240 : Unit := ()
def tw492879137614061493 : Unit := ()
def tw13029900630750994668 : Unit := ()
def tw17391775962083533515 : Unit := ()
def tw14308104382005812605 : Unit := ()
def tw9936536881743500907 : Unit := ()
def tw479018264907363369 : Unit := ()
def tw7675417749720738473 : Unit := ()
def tw8372035913837991250 : Unit := ()
def tw17431308487043992063 : Unit := ()
def tw8500458220134822360 : Unit := ()
def tw13844505572957833930 : Unit := ()
def tw1950521091445644615 : Unit := ()
def tw8150499350492408157 : Unit := ()
def tw6699709698940308603 : Unit := ()
def tw4586369020291528013 : Unit := ()
def tw2167618695193717045 : Unit := ()
def tw9684699057600944294 : Unit := ()
def tw16739174306508632950 : Unit := ()
def tw7191137982244381804 : Unit := ()
def tw12554540806306477360 : Unit := ()
def tw1054488965285714247 : Unit := ()
def tw5251713544086459897 : Unit := ()
def tw7892811243723596987 : Unit := ()
def tw2063449620868658059 : Unit := ()
def tw18137363274558907533 : Unit := ()
def tw450566749975022562 : Unit := ()
def tw15003358760713899574 : Unit := ()
def tw1792224892710378537 : Unit := ()
def tw15024216053386777475 : Unit := ()
def tw1043701613660472097 : Unit := ()
def tw14786789198576647004 : Unit := ()
def tw3949973439248644570 : Unit := ()
def tw14319750081657075607 : Unit := ()
def tw13422432716488540661 : Unit := ()
def tw9250549774821547598 : Unit := ()
def tw9111341701214203307 : Unit := ()
def tw3418912648064540324 : Unit := ()
def tw3698484244233388692 : Unit := ()
def tw1107088416671253978 : Unit := ()
def tw4395346232132896567 : Unit := ()
def tw302023382947574297 : Unit := ()
def tw2422214840401454511 : Unit := ()
def tw10512489437642701289 : Unit := ()
def tw3843465024185675410 : Unit := ()
def tw679676368844127653 : Unit := ()
def tw7314081408670574914 : Unit := ()
def tw5005317128667965579 : Unit := ()
def tw17240160907184977327 : Unit := ()
def tw1536312445118062077 : Unit := ()
def tw11735923915801401282 : Unit := ()
def tw12031303853943761323 : Unit := ()
def tw1137235612907882162 : Unit := ()
def tw7980593446034420393 : Unit := ()
def tw4566856676736034171 : Unit := ()
def tw15836908640704697380 : Unit := ()
def tw11840804652615492782 : Unit := ()
def tw12193372218175167114 : Unit := ()
def tw8640417174963836015 : Unit := ()
def tw2248615004971204189 : Unit := ()
def tw5705847716771211507 : Unit := ()
def tw5536038536531405202 : Unit := ()
def tw17157282023139344501 : Unit := ()
def tw16128028805679967097 : Unit := ()
def tw9806617501295524395 : Unit := ()
def tw14562072457839527476 : Unit := ()
def tw16487795177693110071 : Unit := ()
def tw17336350906216195740 : Unit := ()
def tw16721989186581611170 : Unit := ()
def tw11561827921928013385 : Unit := ()
def tw7158002623345892728 : Unit := ()
def tw13474863142627684814 : Unit := ()
def tw17794366733547915435 : Unit := ()
def tw11153979150802330146 : Unit := ()
def tw15151295755643613229 : Unit := ()
def tw8541664164027344294 : Unit := ()
def tw8779778587388263019 : Unit := ()
def tw13546161746385187788 : Unit := ()
def tw2564807258711394888 : Unit := ()
def tw4111001743050654279 : Unit := ()
def tw9908339238214195531 : Unit := ()
def tw16615598289260009181 : Unit := ()
def tw14277827659066580250 : Unit := ()
def tw14120148312427719287 : Unit := ()
def tw10101883924317870271 : Unit := ()
def tw6185767955086497853 : Unit := ()
def tw16533540343700365917 : Unit := ()
def tw5535988348211436712 : Unit := ()
def tw5290597957214086601 : Unit := ()
def tw18444284757076569719 : Unit := ()
def tw1595350964381101642 : Unit := ()
def tw1805163160381243805 : Unit := ()
def tw16307090917165222298 : Unit := ()
def tw15690355392615275366 : Unit := ()
def tw9287724387753133302 : Unit := ()
def tw5380135791562185454 : Unit := ()
def tw10239475785048107997 : Unit := ()
def tw11889597043561437815 : Unit := ()
def tw2712389131950775728 : Unit := ()
def tw1970226141267450039 : Unit := ()
def tw3695669965767098725 : Unit := ()
def tw8746941081350896204 : Unit := ()
def tw5958459099580689026 : Unit := ()
def tw4231656071295301730 : Unit := ()
def tw17861464445857800736 : Unit := ()
def tw5077617475879078156 : Unit := ()
def tw12043218685254973450 : Unit := ()
def tw8716659796364181309 : Unit := ()
def tw12756434147638494346 : Unit := ()
def tw439095664309466517 : Unit := ()
def tw9908739903337578654 : Unit := ()
def tw15873491276070852124 : Unit := ()
def tw9777375502002234229 : Unit := ()
def tw2511388062720753356 : Unit := ()
def tw17586783052614405119 : Unit := ()
def tw4154345032738424160 : Unit := ()
def tw6933892841690572062 : Unit := ()
def tw16753658254399821694 : Unit := ()
def tw9590619109379692515 : Unit := ()
def tw9831455883205970180 : Unit := ()
def tw11503242561204267055 : Unit := ()
def tw9835852885743449411 : Unit := ()
def tw6057728870046649322 : Unit := ()
def tw15506382734810221985 : Unit := ()
def tw4501217679856968648 : Unit := ()
def tw14510474431719978317 : Unit := ()
def tw5151264090131730833 : Unit := ()
def tw8347795973495727564 : Unit := ()
def tw8529706226740600733 : Unit := ()
def tw12603656398198563500 : Unit := ()
def tw12944596839952905832 : Unit := ()
def tw3095723055068941187 : Unit := ()
def tw14707807475535933493 : Unit := ()
def tw3512812017678644602 : Unit := ()
def tw5922324665105752571 : Unit := ()
def tw9682687983338836895 : Unit := ()
def tw5365650347091420665 : Unit := ()
def tw13525443076416275642 : Unit := ()
def tw9930815651645962114 : Unit := ()
def tw16759193500350966715 : Unit := ()
def tw378458367893578143 : Unit := ()
def tw2479311146797828861 : Unit := ()
def tw3392894077380570524 : Unit := ()
def tw5071412327939943321 : Unit := ()
def tw16326585352142918636 : Unit := ()
def tw11093206078495630212 : Unit := ()
def tw11961350612320602522 : Unit := ()
def tw12960919825447276754 : Unit := ()
def tw5764397981948056254 : Unit := ()
def tw8722410040271553984 : Unit := ()
def tw13007260833023717011 : Unit := ()
def tw5184316447030610940 : Unit := ()
def tw7230903212357928904 : Unit := ()
def tw9429129263215473398 : Unit := ()
def tw7387763944681370771 : Unit := ()
def tw7781603739153083191 : Unit := ()
def tw9622763587122877835 : Unit := ()
def tw5691087667936548404 : Unit := ()
def tw16770000883354449096 : Unit := ()
def tw17566744294597663674 : Unit := ()
def tw13571448547899197161 : Unit := ()
def tw5078243831526850631 : Unit := ()
def tw10353446712322349686 : Unit := ()
def tw13915387964903991752 : Unit := ()
def tw4758991174889311326 : Unit := ()
def tw12218787953657430602 : Unit := ()
def tw10892192912376451201 : Unit := ()
def tw7360070258638436176 : Unit := ()
def tw15985680467844229196 : Unit := ()
def tw16085473023203611486 : Unit := ()
def tw8975108423156789194 : Unit := ()
def tw12443789822770055382 : Unit := ()
def tw17916939684832112104 : Unit := ()
def tw13762209637798829341 : Unit := ()
def tw6276886402236213621 : Unit := ()
def tw6220391956798857122 : Unit := ()
def tw12734148187753135964 : Unit := ()
def tw6594526768476950845 : Unit := ()
def tw12033610942823940228 : Unit := ()
def tw15029563650323070435 : Unit := ()
def tw6432616177841060128 : Unit := ()
def tw14065501367340364311 : Unit := ()
def tw18201758440048473509 : Unit := ()
def tw17226846203573267761 : Unit := ()
def tw5472114250418208992 : Unit := ()
def tw2529601377429677153 : Unit := ()
def tw913810622518204374 : Unit := ()
def tw7188692134583612594 : Unit := ()
def tw6480638250107114081 : Unit := ()
def tw16166457384891526456 : Unit := ()
def tw4345882819342510227 : Unit := ()
def tw4730768163679209282 : Unit := ()
def tw10248073240650190340 : Unit := ()
def tw9822532417609929294 : Unit := ()
def tw8243169916365450940 : Unit := ()
def tw7926136590108786892 : Unit := ()
def tw15966430410579761919 : Unit := ()
def tw12751139281825843639 : Unit := ()
def tw8687831153774095200 : Unit := ()
def tw5969987386201385886 : Unit := ()
def tw1867163669062818997 : Unit := ()
def tw5850499497852442878 : Unit := ()
def tw7438316178485321408 : Unit := ()
def tw405421117753717134 : Unit := ()
def tw17104280840954017025 : Unit := ()
def tw4778504736273101941 : Unit := ()
def tw17138679496734019247 : Unit := ()
def tw1007256952997204316 : Unit := ()
def tw32865551896584297 : Unit := ()
def tw8720027088463671890 : Unit := ()
def tw12157284967251751451 : Unit := ()
def tw408693308722189009 : Unit := ()
def tw16994376123345812558 : Unit := ()
def tw15833254233020807429 : Unit := ()
def tw7138430578808182737 : Unit := ()
def tw419386298079150103 : Unit := ()
def tw3302753350502126306 : Unit := ()
def tw8450641986135516787 : Unit := ()
def tw2680655200719965100 : Unit := ()
def tw14428541309147478210 : Unit := ()
def tw17756194745548210895 : Unit := ()
def tw6619077023068780702 : Unit := ()
def tw7326723310030351153 : Unit := ()
def tw16441578918305252802 : Unit := ()
def tw17377934564383891116 : Unit := ()
def tw11862920568910387298 : Unit := ()
def tw6240597372359344220 : Unit := ()
def tw3605147657684821369 : Unit := ()
def tw8163011886388404031 : Unit := ()
def tw2411195145006440666 : Unit := ()
def tw13576654369662418201 : Unit := ()
def tw17337222044243258637 : Unit := ()
def tw15491019914900986176 : Unit := ()
def tw12521587561680038787 : Unit := ()
def tw17489137672866753323 : Unit := ()
def tw8903290554218469011 : Unit := ()
def tw11134249225346278790 : Unit := ()
def tw18404935858338921730 : Unit := ()
def tw8376602336982375544 : Unit := ()
def tw3663364146628395187 : Unit := ()
def tw5938710623178642122 : Unit := ()
def tw7714757148821155124 : Unit := ()
def tw6509661102738689577 : Unit := ()
def tw2879243146029554076 : Unit := ()
def tw1117029662656177491 : Unit := ()
def tw6263863080660174929 : Unit := ()
def tw11408453963512735496 : Unit := ()
def tw10372856604765933493 : Unit := ()
def tw16157251822727197267 : Unit := ()
def tw14687197162769931945 : Unit := ()
def tw13532860479073427719 : Unit := ()
def tw8566151710794823266 : Unit := ()
def tw8814567910327776732 : Unit := ()
def tw4898356984482387957 : Unit := ()
def tw14114763150826241340 : Unit := ()
def tw9410359166525395380 : Unit := ()
def tw4269943819458244956 : Unit := ()
def tw9572121911122791463 : Unit := ()
def tw6900192571869012848 : Unit := ()
def tw2404127567346610951 : Unit := ()
def tw231919175587332662 : Unit := ()
def tw2095105360761779985 : Unit := ()
def tw1368107221856924347 : Unit := ()
def tw9635476784945057844 : Unit := ()
def tw16882738081622503669 : Unit := ()
def tw6065713072024180384 : Unit := ()
def tw15766219058475960075 : Unit := ()
def tw7669972870368051581 : Unit := ()
def tw4023782888421380502 : Unit := ()
def tw965346924571166687 : Unit := ()
def tw443688265066261825 : Unit := ()
def tw2742194189697913485 : Unit := ()
def tw15242500199121756853 : Unit := ()
def tw10763682846017881258 : Unit := ()
def tw15360274220829721888 : Unit := ()
def tw14810493832863049995 : Unit := ()
def tw7908083297732987344 : Unit := ()
def tw12931362102233154023 : Unit := ()
def tw6942226510957090829 : Unit := ()
def tw16354691339474908690 : Unit := ()
def tw12932905502366258525 : Unit := ()
def tw3657543652526465285 : Unit := ()
def tw17253974145678602553 : Unit := ()
def tw9989051494896439582 : Unit := ()
def tw16345600495311464638 : Unit := ()
def tw10010203797729834575 : Unit := ()
def tw14996135249977892343 : Unit := ()
def tw11038064363049568621 : Unit := ()
def tw12322150652039217950 : Unit := ()
def tw4870201379501977574 : Unit := ()
def tw9776112803966576748 : Unit := ()
def tw15996449679401966620 : Unit := ()
def tw1981915974141516567 : Unit := ()
def tw15755962551988530747 : Unit := ()
def tw8746584487950033348 : Unit := ()
def tw17301418000779511131 : Unit := ()
def tw18415971267559613563 : Unit := ()
def tw6553124395847675662 : Unit := ()
def tw893595371883084398 : Unit := ()
def tw2394881407643693062 : Unit := ()
def tw13188079976727067231 : Unit := ()
def tw4721632059943922391 : Unit := ()
def tw8155677260382574692 : Unit := ()
def tw13805588055438515702 : Unit := ()
def tw12841572728458906558 : Unit := ()
def tw18362437273917381549 : Unit := ()
def tw11939397010239605379 : Unit := ()
def tw13629508380711501469 : Unit := ()
def tw17830291351795818772 : Unit := ()
def tw10577396366154187472 : Unit := ()
def tw16869365282274683789 : Unit := ()
def tw2170277104671012619 : Unit := ()
def tw16919938111736474924 : Unit := ()
end Mine.top
set_option Elab.async true in
set_option maxHeartbeats 0 in
theorem Mine.top : PySem.Challenge.rw_bn0041_01.Holds := by
  w_on
  o_law
  o_head Mine.hdHook
  (case hw => w_witness2)
  intro w s₀ s₁ mg mb G Y
  have Y' : (kmHook Mine.hd.heap_1 Mine.hdAs Mine.hdAs_is [866, 814, 935]).says w _ := Y
  clear Y
  revert w s₀ s₁ mg mb G Y'
  k_go0
  rename_i hI hr hcond hcond2 hD h₁ tk₁ o5 o4 o3 o2 o1 es em et eb el X0 X' T' K' F' c1 c2 N' l0
  refine Mine.law_run (c := ⟨_, _, _, _⟩) X' T' F' N' (.tail _ (.tail _ (.tail _ (.tail _ (.head _))))) (.tail _ (.tail _ (.tail _ (.head _)))) (.tail _ (.tail _ (.head _))) (.tail _ (.head _)) (.head _)
    (.tail _ (.tail _ (.tail _ (.tail _ (.tail _ (.head _)))))) (.tail _ (.tail _ (.tail _ (.tail _ (.tail _ (.tail _ (.head _))))))) (.tail _ (.tail _ (.tail _ (.tail _ (.tail _ (.tail _ (.tail _ (.head _))))))))
    el eb et em es l0 c1 c2 codeHd lifted hI (by omega) fun h' k' hk hgr => ⟨⟨.inl ⟨.bool true, .bool true, [], rfl, fun _ => rfl, .bool true, by wrow_post, fun _ => ⟨List.nodup_nil, fun _ h => (nomatch h)⟩⟩, hk, rfl, ‹_›⟩, hgr⟩
theorem PySem.Challenge.cw_bn0041_01_holds : PySem.Challenge.rw_bn0041_01.Holds :=
  Mine.top
