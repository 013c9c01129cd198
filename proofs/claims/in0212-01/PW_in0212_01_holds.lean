import PyProof.Rows.All
import Wide.All
import OpenK.AllK
import Wide.FinOn
import PySem.Challenge.RW_in0212_01
open PySem PySem.W PyProof.Rows
set_option Elab.async false
set_option maxRecDepth 100000
set_option maxHeartbeats 8000000
set_option linter.unusedVariables false
namespace Mine
def keepAt {α : Type} : List Bool → List α → List α
  | b :: bs, x :: xs => match b with | true => x :: keepAt bs xs | false => keepAt bs xs
  | [], xs => xs
  | _, [] => []
def viewQ : Program := { PySem.Challenge.pw_in0212_01 with main := { PySem.Challenge.pw_in0212_01.main with body := keepAt [true, false, true, false, true, true, false, true, true, false, true, true, false] PySem.Challenge.pw_in0212_01.main.body } }
theorem fst_of {P : Prop} (h : P) (_ : True) : P := h
end Mine
-- the written part of the heap (hd.heap_39) and the looks at the law; the row's own claim is left as the walk
section
local macro_rules | `(tactic| o_head $_) => `(tactic| refine Mine.fst_of ?hc ?hw)
local macro_rules | `(tactic| w_witness2) => `(tactic| trivial)
open_top hd for PySem.Challenge.rw_in0212_01
end
namespace Mine
open PySem.Challenge
def adrs : List Addr := [2, 3, 32, 34, 35, 37, 38, 42, 43, 44, 46, 47, 49, 50, 52, 56, 58, 59, 61, 62, 63, 65, 66, 68, 69, 70, 72, 73, 75,
  76, 77, 79, 80, 82, 83, 84, 87, 88, 89, 92, 93, 94, 97, 98, 99, 101, 102, 104, 105, 106, 108, 109, 111, 112,
  113, 116, 117, 118, 120, 121, 123, 124, 125, 127, 128, 130, 131, 132, 134, 135, 137, 138, 139, 141, 142, 144,
  145, 146, 148, 149, 151, 152, 153, 155, 156, 158, 159]
def loose : List Str := [Str.ofString "_twin_re_1", Str.ofString "_special_chars_map"]
theorem adrs_eq (P : Params) : adrs = (hd.heap_39 P).map (·.1) := by kernel_rfl
def Chk (w : World) : Prop :=
  Option.map (fun s => (openSeen viewQ loose (importedModules pw_in0212_01.main.body) (fun s => xlAt viewQ [] s && recOk (RowW.records (OpenRow.toRowW (OpenLaw.row rw_in0212_01))) s) true s,
      (Hook.obs (kmHook hd.heap_39 adrs adrs_eq [64]) s))) (openEnds treeTable pw_in0212_01 w 4016) =
    some (openGood viewQ loose, Hook.val (kmHook hd.heap_39 adrs adrs_eq [64]) w)
-- the whole run of the top, one check a case of the world's two rows, each a declaration of its own
theorem chk00 (w : World) : Chk ((w.withFollow "comprehension-iter-twice" false).withFollow "special-get-raises" false) := by
  unfold Chk openEnds fencedOpening topFrom
  rw [PySem.W.Fast.te14082659384304107361, PySem.W.Fast.te10274390034422433532, PySem.W.Fast.te14289696077712309145, PySem.W.Fast.te1435165496053646825, PySem.W.Fast.te5923862056798008813, PySem.W.Fast.te8920871248978507458, PySem.W.Fast.te4187177175401517315, PySem.W.Fast.te4929344070887871891]
  kernel_rfl
theorem chk01 (w : World) : Chk ((w.withFollow "comprehension-iter-twice" false).withFollow "special-get-raises" true) := by
  unfold Chk openEnds fencedOpening topFrom
  rw [PySem.W.Fast.te14082659384304107361, PySem.W.Fast.te10274390034422433532, PySem.W.Fast.te14289696077712309145, PySem.W.Fast.te1435165496053646825, PySem.W.Fast.te5923862056798008813, PySem.W.Fast.te8920871248978507458, PySem.W.Fast.te4187177175401517315, PySem.W.Fast.te4929344070887871891]
  kernel_rfl
theorem chk10 (w : World) : Chk ((w.withFollow "comprehension-iter-twice" true).withFollow "special-get-raises" false) := by
  unfold Chk openEnds fencedOpening topFrom
  rw [PySem.W.Fast.te14082659384304107361, PySem.W.Fast.te10274390034422433532, PySem.W.Fast.te14289696077712309145, PySem.W.Fast.te1435165496053646825, PySem.W.Fast.te5923862056798008813, PySem.W.Fast.te8920871248978507458, PySem.W.Fast.te4187177175401517315, PySem.W.Fast.te4929344070887871891]
  kernel_rfl
theorem chk11 (w : World) : Chk ((w.withFollow "comprehension-iter-twice" true).withFollow "special-get-raises" true) := by
  unfold Chk openEnds fencedOpening topFrom
  rw [PySem.W.Fast.te14082659384304107361, PySem.W.Fast.te10274390034422433532, PySem.W.Fast.te14289696077712309145, PySem.W.Fast.te1435165496053646825, PySem.W.Fast.te5923862056798008813, PySem.W.Fast.te8920871248978507458, PySem.W.Fast.te4187177175401517315, PySem.W.Fast.te4929344070887871891]
  kernel_rfl
theorem left : LeftO (OpenLaw.row rw_in0212_01).prog viewQ loose (fun s => xlAt viewQ [] s && recOk (RowW.records (OpenRow.toRowW (OpenLaw.row rw_in0212_01))) s) (Hook.obs (kmHook hd.heap_39 adrs adrs_eq [64])) (Hook.val (kmHook hd.heap_39 adrs adrs_eq [64])) 4016 := fun w =>
  byRow2 (P := Chk) "special-get-raises" (fun w => byRow2 (P := fun w => Chk (w.withFollow "special-get-raises" false)) "comprehension-iter-twice" chk00 chk10 w) (fun w => byRow2 (P := fun w => Chk (w.withFollow "special-get-raises" true)) "comprehension-iter-twice" chk01 chk11 w) w
end Mine
section
local macro_rules | `(tactic| k_head) => `(tactic| refine PySem.W.holds_open (q := Mine.viewQ) (loose := Mine.loose) (Xt := fun s => xlAt Mine.viewQ [] s && recOk (RowW.records (OpenRow.toRowW (OpenLaw.row PySem.Challenge.rw_in0212_01))) s) (XP := XL Mine.viewQ []) (Yf := Hook.obs (kmHook hd.heap_39 Mine.adrs Mine.adrs_eq [64])) (Ya := Hook.val (kmHook hd.heap_39 Mine.adrs Mine.adrs_eq [64])) (YP := Hook.says (kmHook hd.heap_39 Mine.adrs Mine.adrs_eq [64])) (N := 4016) Mine.left (Hook.of (kmHook hd.heap_39 Mine.adrs Mine.adrs_eq [64])) (Hook.keeps (kmHook hd.heap_39 Mine.adrs Mine.adrs_eq [64])) (fun s e => xl_of s (Bool.and_eq_true_iff.mp e).1) XL.keeps (by rfl) (by rfl) (by rfl) (fun s e => recFacts_of (Bool.and_eq_true_iff.mp e).2) (by rfl) (by first | assumption | decide +kernel) (by decide +kernel) ⟨rfl, rfl, rfl, rfl, rfl, by decide +kernel⟩ ?hw ?hc)
open_top hdw for PySem.Challenge.rw_in0212_01
end
open PySem PySem.W PyProof.Rows PySem.Calls PySem.Spec
namespace Mine
-- FW
abbrev PR : Program := PySem.Challenge.rw_in0212_01.row.prog
noncomputable abbrev KF (w : World) : Frag := hd.heap_39 w.params

def Keep (h h' : Heap) : Prop := ∀ b o, h.get? b = some o → h'.get? b = some o
theorem Keep.refl (h : Heap) : Keep h h := fun _ _ e => e
theorem Keep.trans {h h' h'' : Heap} (x : Keep h h') (y : Keep h' h'') : Keep h h'' := fun b o e => y b o (x b o e)

structure Cx (w : World) (h : Heap) : Prop where
  K : (KF w).In h
  nolimit : h.NoLimit
  g : ∃ mg, h.Ns mainGlobals mg
  b : ∃ mb, h.Ns builtinsNs mb ∧ ∀ x : Str, x ≠ "__name__" → mb x = bootBuiltins x
theorem Cx.keeps {w : World} {h h' : Heap} (c : Cx w h) (k : Keep h h') : Cx w h' where
  K := fun a o e => k _ _ (c.K a o e)
  nolimit := c.nolimit.keeps k
  g := let ⟨mg, x⟩ := c.g; ⟨mg, x.keeps k⟩
  b := let ⟨mb, x, y⟩ := c.b; ⟨mb, x.keeps k, y⟩

structure After (s s' : Shared) : Prop where
  gens : s'.gens = s.gens
  drawn : s'.drawn = s.drawn
  os : s'.os = s.os
  keep : Keep s.heap s'.heap
theorem After.refl (s : Shared) : After s s := ⟨rfl, rfl, rfl, Keep.refl _⟩
theorem After.trans {s s' s'' : Shared} (x : After s s') (y : After s' s'') : After s s'' := ⟨y.gens.trans x.gens, y.drawn.trans x.drawn, y.os.trans x.os, x.keep.trans y.keep⟩
theorem After.keeps {s s' : Shared} (x : After s s') : Keeps s s' := ⟨s'.heap, s'.toks, by
  obtain ⟨h, g, d, t, o⟩ := s'
  obtain ⟨e1, e2, e3, _⟩ := x
  cases e1; cases e2; cases e3; rfl, x.keep⟩

abbrev Loc := List (Str × Option Value)
abbrev Led := List (Addr × Obj)

structure St (w : World) (b : Shared) (kp : Addr → Option Obj) (L : Addr) (s : Shared) (l : Loc) (led : Led) : Prop where
  gens : s.gens = b.gens
  drawn : s.drawn = b.drawn
  os : s.os = b.os
  cx : Cx w b.heap
  kb : ∀ a o, b.heap.get? a = some o → kp a = some o
  keep : ∀ a o, kp a = some o → s.heap.get? a = some o
  ns : ∃ m, s.heap.Ns L m ∧ ∀ p ∈ l, ∀ v, p.2 = some v → m p.1 = some v
  nl : (l.map (·.1)).Nodup
  ob : ∀ p ∈ led, s.heap.get? p.1 = some p.2 ∧ p.1 ≠ L ∧ kp p.1 = none
  nd : (led.map (·.1)).Nodup

section
variable {w : World} {b : Shared} {kp : Addr → Option Obj} {L : Addr} {s : Shared} {l : Loc} {led : Led}

theorem St.after (st : St w b kp L s l led) : After b s := ⟨st.gens, st.drawn, st.os, fun a o e => st.keep a o (st.kb a o e)⟩
theorem St.cx' (st : St w b kp L s l led) : Cx w s.heap := st.cx.keeps st.after.keep

theorem St.go (st : St w b kp L s l led) {s' : Shared} (k : After s s') : St w b kp L s' l led where
  gens := k.gens.trans st.gens
  drawn := k.drawn.trans st.drawn
  os := k.os.trans st.os
  cx := st.cx
  kb := st.kb
  keep := fun a o e => k.keep _ _ (st.keep a o e)
  ns := let ⟨m, x, y⟩ := st.ns; ⟨m, x.keeps k.keep, y⟩
  nl := st.nl
  ob := fun p hp => ⟨k.keep _ _ (st.ob p hp).1, (st.ob p hp).2⟩
  nd := st.nd
theorem St.tk (st : St w b kp L s l led) (t : Nat) : St w b kp L { s with toks := t } l led := st.go ⟨rfl, rfl, rfl, fun _ _ e => e⟩
theorem St.hp (st : St w b kp L s l led) {h' : Heap} (t : Nat) (k : Keep s.heap h') : St w b kp L { s with heap := h', toks := t } l led := st.go ⟨rfl, rfl, rfl, k⟩

theorem St.fresh (st : St w b kp L s l led) {a : Addr} (e : s.heap.get? a = none) : kp a = none := by
  cases q : kp a with
  | none => rfl
  | some o => rw [st.keep a o q] at e; cases e
theorem St.frL (st : St w b kp L s l led) {a : Addr} (e : s.heap.get? a = none) : a ≠ L := by
  rintro rfl
  obtain ⟨m, ⟨o, _, _, h, _⟩, _⟩ := st.ns
  rw [e] at h; cases h
/-- a new object goes onto the ledger -/
theorem St.new (st : St w b kp L s l led) {s' : Shared} {a : Addr} {o : Obj} (k : After s s') (e : s.heap.get? a = none) (h : s'.heap.get? a = some o) : St w b kp L s' l ((a, o) :: led) :=
  { st.go k with
    ob := fun p hp => by
      rcases List.mem_cons.mp hp with rfl | hp
      · exact ⟨h, st.frL e, st.fresh e⟩
      · exact (st.go k).ob p hp
    nd := by
      rw [List.map_cons, List.nodup_cons]
      refine ⟨fun hm => ?_, st.nd⟩
      obtain ⟨p, hp, rfl⟩ := List.mem_map.mp hm
      rw [(st.ob p hp).1] at e; cases e }
theorem get_size (h : Heap) : h.get? h.objs.size = none := Heap.get?_none_of_le (Nat.le_refl _)
theorem St.push (st : St w b kp L s l led) (o : Obj) (t : Nat) (hf : o.isFreed = false := by rfl) : St w b kp L { s with heap := s.heap.push o, toks := t } l ((s.heap.objs.size, o) :: led) :=
  st.new ⟨rfl, rfl, rfl, fun _ _ e => Heap.get?_push_of_some _ e⟩ (get_size _) (Heap.get?_push_size _ hf)
theorem St.push0 (st : St w b kp L s l led) (o : Obj) (t : Nat) : St w b kp L { s with heap := s.heap.push o, toks := t } l led :=
  st.hp t fun _ _ e => Heap.get?_push_of_some _ e
/-- forget objects, forget names -/
theorem St.less (st : St w b kp L s l led) {led' : Led} (h : led'.Sublist led) : St w b kp L s l led' :=
  { st with ob := fun p hp => st.ob p (h.subset hp), nd := st.nd.sublist (h.map _) }
theorem St.perm (st : St w b kp L s l led) {led' : Led} (h : led'.Perm led) : St w b kp L s l led' :=
  { st with ob := fun p hp => st.ob p (h.subset hp), nd := (h.map _).nodup_iff.mpr st.nd }

inductive LocLe : Loc → Loc → Prop
  | nil : LocLe [] []
  | same {l l' : Loc} {x : Str} {v : Option Value} : LocLe l l' → LocLe ((x, v) :: l) ((x, v) :: l')
  | no {l l' : Loc} {x : Str} {v : Option Value} : LocLe l l' → LocLe ((x, none) :: l) ((x, v) :: l')
theorem LocLe.names {l l' : Loc} (h : LocLe l l') : l.map (·.1) = l'.map (·.1) := by
  induction h with
  | nil => rfl
  | same _ ih => simp only [List.map_cons, ih]
  | no _ ih => simp only [List.map_cons, ih]
theorem LocLe.has {l l' : Loc} (h : LocLe l l') {m : Str → Option Value} (hm : ∀ p ∈ l', ∀ v, p.2 = some v → m p.1 = some v) : ∀ p ∈ l, ∀ v, p.2 = some v → m p.1 = some v := by
  induction h with
  | nil => exact hm
  | same _ ih =>
    intro p hp v hv
    rcases List.mem_cons.mp hp with rfl | hp
    · exact hm _ (.head _) v hv
    · exact ih (fun q hq => hm q (.tail _ hq)) p hp v hv
  | no _ ih =>
    intro p hp v hv
    rcases List.mem_cons.mp hp with rfl | hp
    · cases hv
    · exact ih (fun q hq => hm q (.tail _ hq)) p hp v hv
theorem St.forget (st : St w b kp L s l led) {l' : Loc} (h : LocLe l' l) : St w b kp L s l' led :=
  { st with ns := let ⟨m, x, y⟩ := st.ns; ⟨m, x, h.has y⟩, nl := by rw [h.names]; exact st.nl }

/-- a name's value turned -/
inductive Set1 : Loc → Str → Value → Loc → Prop
  | head {x : Str} {u : Option Value} {v : Value} {r : Loc} : Set1 ((x, u) :: r) x v ((x, some v) :: r)
  | tail {p : Str × Option Value} {x : Str} {v : Value} {r r' : Loc} : Set1 r x v r' → Set1 (p :: r) x v (p :: r')
theorem Set1.names {l l' : Loc} {x : Str} {v : Value} (h : Set1 l x v l') : l'.map (·.1) = l.map (·.1) ∧ x ∈ l.map (·.1) := by
  induction h with
  | head => exact ⟨rfl, .head _⟩
  | tail _ ih => exact ⟨by simp only [List.map_cons, ih.1], by rw [List.map_cons]; exact .tail _ ih.2⟩
theorem Set1.has {l l' : Loc} {x : Str} {v : Value} (h : Set1 l x v l') (nl : (l.map (·.1)).Nodup) {m : Str → Option Value} (hm : ∀ p ∈ l, ∀ v, p.2 = some v → m p.1 = some v) :
    ∀ p ∈ l', ∀ u, p.2 = some u → (if p.1 = x then some v else m p.1) = some u := by
  induction h with
  | @head x _ _ r =>
    intro p hp u hu
    rcases List.mem_cons.mp hp with rfl | hp'
    · simpa using hu
    · have : p.1 ≠ x := fun e => (List.nodup_cons.mp nl).1 (List.mem_map.mpr ⟨p, hp', e⟩)
      rw [if_neg this]; exact hm p (.tail _ hp') u hu
  | tail h ih =>
    intro p hp u hu
    rcases List.mem_cons.mp hp with rfl | hp'
    · have : p.1 ≠ _ := fun e => (List.nodup_cons.mp nl).1 (by rw [show ((fun q : Str × Option Value => q.1) p) = p.1 from rfl, e]; exact h.names.2)
      rw [if_neg this]; exact hm p (.head _) u hu
    · exact ih (List.nodup_cons.mp nl).2 (fun q hq => hm q (.tail _ hq)) p hp' u hu
theorem St.store (st : St w b kp L s l led) (kL : kp L = none) {x : Str} {v : Value} {l' : Loc} (h1 : Set1 l x v l') {h' : Heap} {m : Str → Option Value} (hm : s.heap.Ns L m) (hm' : ∀ p ∈ l, ∀ v, p.2 = some v → m p.1 = some v)
    (hn : h'.Ns L (fun y => if y = x then some v else m y)) (hs : Heap.SameBut L s.heap h') (t : Nat) : St w b kp L { s with heap := h', toks := t } l' led where
  gens := st.gens
  drawn := st.drawn
  os := st.os
  cx := st.cx
  kb := st.kb
  keep := fun a o e => (hs.2 a fun q => by rw [q, kL] at e; cases e).trans (st.keep a o e)
  ns := ⟨_, hn, h1.has st.nl hm'⟩
  nl := by rw [h1.names.1]; exact st.nl
  ob := fun p hp => ⟨(hs.2 p.1 (st.ob p hp).2.1).trans (st.ob p hp).1, (st.ob p hp).2⟩
  nd := st.nd

/-- an own object turned -/
inductive Turn : Led → Addr → Obj → Obj → Led → Prop
  | head {a : Addr} {o o' : Obj} {r : Led} : Turn ((a, o) :: r) a o o' ((a, o') :: r)
  | tail {p : Addr × Obj} {a : Addr} {o o' : Obj} {r r' : Led} : Turn r a o o' r' → Turn (p :: r) a o o' (p :: r')
theorem Turn.mem {r r' : Led} {a : Addr} {o o' : Obj} (h : Turn r a o o' r') : (a, o) ∈ r := by
  induction h with
  | head => exact .head _
  | tail _ ih => exact .tail _ ih
theorem Turn.adr {r r' : Led} {a : Addr} {o o' : Obj} (h : Turn r a o o' r') : r'.map (·.1) = r.map (·.1) := by
  induction h with
  | head => rfl
  | tail _ ih => simp only [List.map_cons, ih]
theorem Turn.all {r r' : Led} {a : Addr} {o o' : Obj} (h : Turn r a o o' r') (nd : (r.map (·.1)).Nodup) : ∀ p ∈ r', p = (a, o') ∨ (p ∈ r ∧ p.1 ≠ a) := by
  induction h with
  | head =>
    intro p hp
    rcases List.mem_cons.mp hp with rfl | hp'
    · exact .inl rfl
    · exact .inr ⟨.tail _ hp', fun e => (List.nodup_cons.mp nd).1 (List.mem_map.mpr ⟨p, hp', e⟩)⟩
  | tail h ih =>
    intro p hp
    rcases List.mem_cons.mp hp with rfl | hp'
    · exact .inr ⟨.head _, fun e => (List.nodup_cons.mp nd).1 (by rw [show ((fun q : Addr × Obj => q.1) p) = p.1 from rfl, e]; exact List.mem_map_of_mem (f := (·.1)) h.mem)⟩
    · rcases ih (List.nodup_cons.mp nd).2 p hp' with e | ⟨e1, e2⟩
      · exact .inl e
      · exact .inr ⟨.tail _ e1, e2⟩
theorem St.turn (st : St w b kp L s l led) {led' : Led} {a : Addr} {o o' : Obj} (h : Turn led a o o' led') {h' : Heap} (hs : Heap.SameBut a s.heap h') (ho : h'.get? a = some o') (t : Nat) : St w b kp L { s with heap := h', toks := t } l led' where
  gens := st.gens
  drawn := st.drawn
  os := st.os
  cx := st.cx
  kb := st.kb
  keep := fun c x e => (hs.2 c fun q => by rw [q, (st.ob _ h.mem).2.2] at e; cases e).trans (st.keep c x e)
  ns := let ⟨m, x, y⟩ := st.ns; ⟨m, x.sameBut hs (fun q => (st.ob _ h.mem).2.1 q.symm), y⟩
  nl := st.nl
  ob := fun p hp => by
    rcases h.all st.nd p hp with rfl | ⟨e1, e2⟩
    · exact ⟨ho, (st.ob _ h.mem).2⟩
    · exact ⟨(hs.2 p.1 e2).trans (st.ob p e1).1, (st.ob p e1).2⟩
  nd := by rw [h.adr]; exact st.nd
/-- what stands beside the frame and the ledger, frozen -/
def frz (s : Shared) (L : Addr) (led : Led) (a : Addr) : Option Obj := if a = L ∨ a ∈ led.map (·.1) then none else s.heap.get? a
theorem St.freeze (st : St w b kp L s l led) (kL : kp L = none) : St w b (frz s L led) L s l led ∧ frz s L led L = none ∧ ∀ a o, kp a = some o → frz s L led a = some o := by
  have kk : ∀ a o, kp a = some o → frz s L led a = some o := fun a o e => by
    unfold frz
    rw [if_neg ?_]
    · exact st.keep a o e
    · rintro (rfl | q)
      · rw [kL] at e; cases e
      · obtain ⟨p, hp, rfl⟩ := List.mem_map.mp q
        rw [(st.ob p hp).2.2] at e; cases e
  refine ⟨{ st with kb := fun a o e => kk a o (st.kb a o e), keep := fun a o e => ?_, ob := fun p hp => ⟨(st.ob p hp).1, (st.ob p hp).2.1, ?_⟩ }, ?_, kk⟩
  · unfold frz at e
    split at e
    · cases e
    · exact e
  · unfold frz; rw [if_pos (.inr (List.mem_map_of_mem hp))]
  · unfold frz; rw [if_pos (.inl rfl)]
theorem St.thaw {kp' : Addr → Option Obj} (st : St w b kp' L s l led) (kk : ∀ a o, kp a = some o → kp' a = some o) (kb : ∀ a o, b.heap.get? a = some o → kp a = some o) : St w b kp L s l led :=
  { st with kb := kb, keep := fun a o e => st.keep a o (kk a o e), ob := fun p hp => ⟨(st.ob p hp).1, (st.ob p hp).2.1, by
      cases q : kp p.1 with
      | none => rfl
      | some o => have := kk _ _ q; rw [(st.ob p hp).2.2] at this; cases this⟩ }
end

structure Rm (A : Around) (k : Nat) : Prop where
  handled : A.handled = none
  depth : A.depth + k < recursionLimit
  units : A.units + 20 * k + 60 < cLine
theorem Rm.deeper {A : Around} {k : Nat} (r : Rm A (k + 1)) (env : Env) : Rm (A.deeper env) k :=
  ⟨r.handled, by have := r.depth; show A.depth + 1 + k < _; omega, by have := r.units; show A.units + 3 + 20 * k + 60 < _; omega⟩
theorem Rm.less {A : Around} {k k' : Nat} (r : Rm A k) (h : k' ≤ k) : Rm A k' := ⟨r.handled, by have := r.depth; omega, by have := r.units; omega⟩

def mkLoc (ps : List Str) (vs : List Value) (others : List Str) : Loc := (ps.zip vs).map (fun p => (p.1, some p.2)) ++ others.map fun x => (x, none)
theorem mkLoc_names {ps others : List Str} {vs : List Value} (h : ps.length = vs.length) : (mkLoc ps vs others).map (·.1) = ps ++ others := by
  unfold mkLoc
  rw [List.map_append, List.map_map, List.map_map]
  congr 1
  · rw [show ((fun x : Str × Option Value => x.1) ∘ fun p : Str × Value => (p.1, some p.2)) = Prod.fst from rfl, List.map_fst_zip (Nat.le_of_eq h)]
  · exact List.map_id' _
theorem lookup_zip : ∀ {ps : List Str} {vs : List Value} {p : Str × Value}, ps.Nodup → p ∈ ps.zip vs → (ps.zip vs).reverse.lookup p.1 = some p.2
  | [], _, _, _, hp => by cases hp
  | _ :: _, [], _, _, hp => by cases hp
  | x :: ps, v :: vs, p, hn, hp => by
    rw [List.zip_cons_cons, List.reverse_cons, List.lookup_append]
    rcases List.mem_cons.mp hp with rfl | hp
    · have : (ps.zip vs).reverse.lookup x = none := by
        cases q : (ps.zip vs).reverse.lookup x with
        | none => rfl
        | some u =>
          obtain ⟨l₁, l₂, e, _⟩ := List.lookup_eq_some_iff.mp q
          have : (x, u) ∈ ps.zip vs := List.mem_reverse.mp (e ▸ by simp)
          exact absurd (List.of_mem_zip this).1 (List.nodup_cons.mp hn).1
      rw [this]; simp
    · rw [lookup_zip (List.nodup_cons.mp hn).2 hp]; rfl

/-- the def's body is entered -/
theorem enter {w : World} {A : Around} {s : Shared} {Q : Value → Shared → Prop} {name qual : Str} {params : Arguments} {body : List Stmt} {scope : Scope} {dV kV doc pm cdv ct oc : Value} {an od : Option Addr} {osl : Array (Option Value)} {f : Addr} {vs : List Value} {k : Nat}
    (ps others : List Str) (ls : Loc) (hl : ls = mkLoc ps vs others) (hps : ps.length = vs.length) (hnd : (ps ++ others).Nodup)
    (rm : Rm A (k + 1)) (cx : Cx w s.heap)
    (ho : (KF w).lookup f = some ⟨oc, od, .func (fnOf name qual params body scope dV kV doc pm an cdv ct), osl⟩) (hcd : codeIn (KF w) cdv qual = true)
    (hbind : BindsTo s (fnOf name qual params body scope dV kV doc pm an cdv ct) ⟨vs, []⟩ (ps.zip vs)) (hloc : ps.all (fun y => decide (scope.names.lookup y = some .local)) = true)
    (hcell : ∀ x ∈ scope.names, x.2 ≠ .cell) (hco : scope.isCoroutine = false) (hgen : scope.isGenerator = false) (hk : scope.kind = .function)
    (h : ∀ s₁ L, Rm (A.deeper (envOf qual scope L f cdv)) k → s.heap.get? L = none → St w s s.heap.get? L s₁ ls [] →
      wpAny (model PR w) (A.deeper (envOf qual scope L f cdv)) (execs body (envOf qual scope L f cdv)) (fun fl s' => Q (match fl with | .ret v => v | _ => .none) s') (fun _ _ => False) s₁) :
    wpAny (model PR w) A (call (.ref f) vs) Q (fun _ _ => False) s := by
  subst hl
  refine wpAny_call (codeAny_call_def (by have := rm.depth; omega) (cx.K _ _ ho) rfl cx.nolimit (codeRec_of cx.K hcd) rfl hbind hcell
    (fun y hy => of_decide_eq_true (List.all_eq_true.mp hloc _ (List.of_mem_zip hy).1)) (fun h₁ hns hkp => ?_) hco hgen hk)
  refine wpAny_mono (h _ s.heap.objs.size (rm.deeper _) (get_size _) { gens := rfl, drawn := rfl, os := rfl, cx := cx, kb := fun _ _ e => e, keep := hkp, ns := ⟨_, hns, ?_⟩, nl := by rw [mkLoc_names hps]; exact hnd, ob := (fun _ hp => nomatch hp), nd := List.nodup_nil }) (fun _ _ q => q) fun _ _ e => e.elim
  intro p hp v hv
  rcases List.mem_append.mp hp with h1 | h1
  · obtain ⟨q, hq, rfl⟩ := List.mem_map.mp h1
    cases hv
    exact lookup_zip (List.nodup_append.mp hnd).1 hq
  · obtain ⟨x, _, rfl⟩ := List.mem_map.mp h1
    cases hv
-- FW2
abbrev NoE : Value → Shared → Prop := fun _ _ => False
def Then (K : Shared → Prop) (Q : Flow → Shared → Prop) : Flow → Shared → Prop := fun f s => match f with
  | .next => K s
  | f => Q f s
theorem Then_next {K : Shared → Prop} {Q : Flow → Shared → Prop} {s : Shared} (h : K s) : Then K Q .next s := h
theorem Then_ret {K : Shared → Prop} {Q : Flow → Shared → Prop} {s : Shared} {v : Value} (h : Q (.ret v) s) : Then K Q (.ret v) s := h
theorem Then_brk {K : Shared → Prop} {Q : Flow → Shared → Prop} {s : Shared} (h : Q .brk s) : Then K Q .brk s := h
theorem Then_cont {K : Shared → Prop} {Q : Flow → Shared → Prop} {s : Shared} (h : Q .cont s) : Then K Q .cont s := h
def RetQ (Q : Value → Shared → Prop) : Flow → Shared → Prop := fun f s => Q (match f with | .ret v => v | _ => .none) s
theorem RetQ_ret {Q : Value → Shared → Prop} {s : Shared} {v : Value} (h : Q v s) : RetQ Q (.ret v) s := h
def Br (b : Bool) (T F : Prop) : Prop := (b = true → T) ∧ (b = false → F)
theorem Br_t {T F : Prop} (h : T) : Br true T F := ⟨fun _ => h, fun e => nomatch e⟩
theorem Br_f {T F : Prop} (h : F) : Br false T F := ⟨(fun e => nomatch e), fun _ => h⟩
theorem Br_ite {b : Bool} {T F : Prop} (h : Br b T F) : if b = true then T else F := by
  cases b
  · rw [if_neg Bool.false_ne_true]; exact h.2 rfl
  · rw [if_pos rfl]; exact h.1 rfl
theorem Br_not {b : Bool} {T F : Prop} (h : Br b F T) : Br (!b) T F := by
  cases b
  · exact ⟨fun _ => h.2 rfl, fun e => nomatch e⟩
  · exact ⟨(fun e => nomatch e), fun _ => h.1 rfl⟩
theorem Br_dec {p : Prop} [Decidable p] {T F : Prop} (ht : p → T) (hf : ¬ p → F) : Br (decide p) T F := ⟨fun e => ht (of_decide_eq_true e), fun e => hf (of_decide_eq_false e)⟩
/-- what a loop's turn hands on -/
def LoopQ (I : Shared → Prop) (Q : Flow → Shared → Prop) : Flow → Shared → Prop := fun f s => match f with
  | .next => I s
  | .cont => I s
  | .brk => Q .next s
  | .ret v => Q (.ret v) s
theorem LoopQ_next {I : Shared → Prop} {Q : Flow → Shared → Prop} {s : Shared} (h : I s) : LoopQ I Q .next s := h
theorem LoopQ_cont {I : Shared → Prop} {Q : Flow → Shared → Prop} {s : Shared} (h : I s) : LoopQ I Q .cont s := h
theorem LoopQ_brk {I : Shared → Prop} {Q : Flow → Shared → Prop} {s : Shared} (h : Q .next s) : LoopQ I Q .brk s := h
theorem LoopQ_ret {I : Shared → Prop} {Q : Flow → Shared → Prop} {s : Shared} {v : Value} (h : Q (.ret v) s) : LoopQ I Q (.ret v) s := h

section
variable {w : World} {A : Around} {E : Value → Shared → Prop} {b : Shared} {kp : Addr → Option Obj} {L : Addr} {s : Shared} {l : Loc} {led : Led} {env : Env}

-- statements
theorem x_nil {Q : Flow → Shared → Prop} (h : Q .next s) : wpAny (model PR w) A (execs [] env) Q E s := wpAny_execs_nil h
theorem x_cons {st : Stmt} {rest : List Stmt} {Q : Flow → Shared → Prop} (h : wpAny (model PR w) A (exec st env) (Then (fun s' => wpAny (model PR w) A (execs rest env) Q E s') Q) E s) :
    wpAny (model PR w) A (execs (st :: rest) env) Q E s :=
  wpAny_execs_cons (wpAny_mono h (fun f s' q => by cases f <;> exact q) fun _ _ e => e)
theorem x_assign {x : Str} {pos' pos : Pos} {value : Expr} {Q : Flow → Shared → Prop}
    (hs : swapsWith value (some (Expr.Name x pos')) pos.line env = pure false)
    (h : wpAny (model PR w) A (eval value env) (fun v s₁ => wpAny (model PR w) A (storeName env x v) (fun _ => Q .next) E s₁) E s) :
    wpAny (model PR w) A (exec (.Assign [.Name x pos'] value pos) env) Q E s := wpAny_Assign_Name h hs
theorem x_if {test : Expr} {body orelse : List Stmt} {pos : Pos} {Q : Flow → Shared → Prop}
    (h : wpAny (model PR w) A (PySem.isTrue test env (eval test env)) (fun c s₂ => Br c (wpAny (model PR w) A (execs body env) Q E s₂) (wpAny (model PR w) A (execs orelse env) Q E s₂)) E s) :
    wpAny (model PR w) A (exec (.If test body orelse pos) env) Q E s := wpAny_If (wpAny_mono h (fun c s₂ q => Br_ite q) fun _ _ e => e)
theorem x_ret {e : Expr} {pos : Pos} {Q : Flow → Shared → Prop} (h : wpAny (model PR w) A (eval e env) (fun v => Q (.ret v)) E s) : wpAny (model PR w) A (exec (.Return (some e) pos) env) Q E s := wpAny_Return_some h
theorem x_brk {pos : Pos} {Q : Flow → Shared → Prop} (h : Q .brk s) : wpAny (model PR w) A (exec (.Break pos) env) Q E s := wpAny_Break h
theorem x_assert {test : Expr} {msg : Option Expr} {pos : Pos} {Q : Flow → Shared → Prop}
    (h : wpAny (model PR w) A (PySem.isTrue test env (eval test env)) (fun c s₂ => c = true ∧ Q .next s₂) E s) : wpAny (model PR w) A (exec (.Assert test msg pos) env) Q E s := wpAny_Assert_holds h
theorem x_while {test : Expr} {body : List Stmt} {pos : Pos} {Q : Flow → Shared → Prop} (Inv : Nat → Shared → Prop) (n : Nat) (h0 : Inv n s)
    (turn : ∀ n s, Inv n s → wpAny (model PR w) A (PySem.isTrue test env (eval test env)) (fun c s₂ => Br c (wpAny (model PR w) A (execs body env) (LoopQ (fun s₃ => ∃ m, m < n ∧ Inv m s₃) Q) NoE s₂) (Q .next s₂)) NoE s) :
    wpAny (model PR w) A (exec (.While test body [] pos) env) Q NoE s := by
  refine wpAny_While (codeAny_whileLoop Inv (fun n s hI => ?_) n h0)
  refine wpAny_mono (turn n s hI) (fun c s₂ q => ?_) fun _ _ e => e.elim
  cases c with
  | false =>
    rw [if_neg Bool.false_ne_true]
    exact wpAny_execs_nil (q.2 rfl)
  | true =>
    rw [if_pos rfl]
    refine wpAny_mono (q.1 rfl) (fun f s₃ r => ?_) fun _ _ e => e.elim
    cases f <;> exact r

-- names
inductive Has1 : Loc → Str → Value → Prop
  | head {x : Str} {v : Value} {r : Loc} : Has1 ((x, some v) :: r) x v
  | tail {p : Str × Option Value} {x : Str} {v : Value} {r : Loc} : Has1 r x v → Has1 (p :: r) x v
theorem Has1.mem {l : Loc} {x : Str} {v : Value} (h : Has1 l x v) : (x, some v) ∈ l := by
  induction h with
  | head => exact .head _
  | tail _ ih => exact .tail _ ih
inductive HasO : Led → Addr → Obj → Prop
  | head {x : Addr} {v : Obj} {r : Led} : HasO ((x, v) :: r) x v
  | tail {p : Addr × Obj} {x : Addr} {v : Obj} {r : Led} : HasO r x v → HasO (p :: r) x v
theorem HasO.mem {l : Led} {x : Addr} {v : Obj} (h : HasO l x v) : (x, v) ∈ l := by
  induction h with
  | head => exact .head _
  | tail _ ih => exact .tail _ ih
theorem St.own (st : St w b kp L s l led) {a : Addr} {o : Obj} (h : HasO led a o) : s.heap.get? a = some o := (st.ob _ h.mem).1
theorem n_local {x : Str} {pos : Pos} {v : Value} {Q : Value → Shared → Prop} (st : St w b kp L s l led) (hm : Has1 l x v) (hL : env.locals = L) (hk : env.scope.kind = .function) (hx : env.kindOf x = some .local)
    (hd : (x == ("__debug__" : Str)) = false) (h : Q v s) : wpAny (model PR w) A (eval (.Name x pos) env) Q E s := by
  obtain ⟨m, hn, hh⟩ := st.ns
  subst hL
  exact wpAny_Name (wpAny_loadName_local hk hx hn (hh _ hm.mem v rfl) h) hd
theorem n_localN {x : Str} {v : Value} {Q : Value → Shared → Prop} (st : St w b kp L s l led) (hm : Has1 l x v) (hL : env.locals = L) (hk : env.scope.kind = .function) (hx : env.kindOf x = some .local)
    (h : Q v s) : wpAny (model PR w) A (loadName env x) Q E s := by
  obtain ⟨m, hn, hh⟩ := st.ns
  subst hL
  exact wpAny_loadName_local hk hx hn (hh _ hm.mem v rfl) h
theorem n_store {x : Str} {v : Value} {l' : Loc} {Q : Unit → Shared → Prop} (st : St w b kp L s l led) (kL : kp L = none) (h1 : Set1 l x v l') (hL : env.locals = L) (hk : env.scope.kind = .function) (hx : env.kindOf x = some .local)
    (h : ∀ s', St w b kp L s' l' led → Q () s') : wpAny (model PR w) A (storeName env x v) Q E s := by
  obtain ⟨m, hn, hh⟩ := st.ns
  subst hL
  exact wpAny_storeName_local hx hn (fun h' hn' hs' => h _ (st.store kL h1 hn hh hn' hs' _)) (by rw [hk]; rfl)
theorem n_global {x : Str} {pos : Pos} {v : Value} {Q : Value → Shared → Prop} (st : St w b kp L s l led) (hg : nsIn (KF w) mainGlobals x = some (some v)) (hG : env.globals = mainGlobals) (hk : env.scope.kind = .function) (hx : env.kindOf x = some .globalImplicit)
    (hd : (x == ("__debug__" : Str)) = false) (h : Q v s) : wpAny (model PR w) A (eval (.Name x pos) env) Q E s := by
  obtain ⟨mg, hn⟩ := st.cx'.g
  exact Calls.Name_function_global hk hx (Calls.loadGlobal_global (by rw [hG]; exact hn) (mg_of st.cx'.K hn hg) h) hd
theorem n_builtin {x : Str} {pos : Pos} {v : Value} {Q : Value → Shared → Prop} (st : St w b kp L s l led) (hg : nsIn (KF w) mainGlobals x = some none) (hv : bootBuiltins x = some v) (hnn : x ≠ "__name__") (hG : env.globals = mainGlobals) (hB : env.builtins = builtinsNs)
    (hk : env.scope.kind = .function) (hx : env.kindOf x = some .globalImplicit) (hd : (x == ("__debug__" : Str)) = false) (h : Q v s) : wpAny (model PR w) A (eval (.Name x pos) env) Q E s := by
  obtain ⟨mg, hn⟩ := st.cx'.g
  obtain ⟨mb, hb, hb'⟩ := st.cx'.b
  exact Calls.Name_function_global hk hx (Calls.loadGlobal_builtin (by rw [hG]; exact hn) (mg_none_of st.cx'.K hn hg) (by rw [hB]; exact hb) ((hb' x hnn).trans hv) h) hd

-- written values
theorem c_int {i : Int} {k : Nat} {pos : Pos} {Q : Value → Shared → Prop} (st : St w b kp L s l led) (h : ∀ t s', St w b kp L s' l led → Q (.int i t) s') : wpAny (model PR w) A (eval (.Constant (.int i) k pos) env) Q E s := wpAny_Constant_int (h _ _ (st.tk _))
theorem c_str {x : Str} {k : Nat} {pos : Pos} {Q : Value → Shared → Prop} (st : St w b kp L s l led) (h : ∀ t s', St w b kp L s' l led → Q (.str x t) s') : wpAny (model PR w) A (eval (.Constant (.str x) k pos) env) Q E s := wpAny_Constant_str (h _ _ (st.tk _))
theorem c_bytes {x : List UInt8} {k : Nat} {pos : Pos} {Q : Value → Shared → Prop} (st : St w b kp L s l led) (h : ∀ t s', St w b kp L s' l led → Q (.bytes x.toArray t) s') : wpAny (model PR w) A (eval (.Constant (.bytes x) k pos) env) Q E s := Constant_bytes (h _ _ (st.tk _))
theorem c_bool {c : Bool} {k : Nat} {pos : Pos} {Q : Value → Shared → Prop} (h : Q (.bool c) s) : wpAny (model PR w) A (eval (.Constant (.bool c) k pos) env) Q E s := wpAny_Constant_bool h

-- expressions
theorem e_bin {l₁ r₁ : Expr} {op : Operator} {pos : Pos} {Q : Value → Shared → Prop}
    (h : wpAny (model PR w) A (eval l₁ env) (fun a s₁ => wpAny (model PR w) A (eval r₁ env) (fun c s₂ => wpAny (model PR w) A (binaryOp op a c) Q E s₂) E s₁) E s) : wpAny (model PR w) A (eval (.BinOp l₁ op r₁ pos) env) Q E s := wpAny_BinOp h
theorem e_un {x : Expr} {op : UnaryOp} {pos : Pos} {Q : Value → Shared → Prop}
    (h : wpAny (model PR w) A (eval x env) (fun a s₁ => wpAny (model PR w) A (unaryOp op a) Q E s₁) E s) : wpAny (model PR w) A (eval (.UnaryOp op x pos) env) Q E s := wpAny_UnaryOp h
theorem e_cmp {l₁ r₁ : Expr} {op : CmpOp} {pos : Pos} {Q : Value → Shared → Prop} (hm : behindInMarks op r₁ = false)
    (h : wpAny (model PR w) A (eval l₁ env) (fun a s₁ => wpAny (model PR w) A (eval r₁ env) (fun c s₂ => wpAny (model PR w) A (compareOp op a c) Q E s₂) E s₁) E s) : wpAny (model PR w) A (eval (.Compare l₁ [op] [r₁] pos) env) Q E s := wpAny_Compare1 h hm
theorem e_sub {o i : Expr} {pos : Pos} {Q : Value → Shared → Prop}
    (h : wpAny (model PR w) A (eval o env) (fun ov s₁ => wpAny (model PR w) A (eval i env) (fun iv s₂ => wpAny (model PR w) A (subscriptTail o i ov iv) Q E s₂) E s₁) E s) : wpAny (model PR w) A (eval (.Subscript o i pos) env) Q E s := Subscript_ h
theorem e_slice {lo hi st : Option Expr} {pos : Pos} {Q : Value → Shared → Prop}
    (h : wpAny (model PR w) A (evalPart lo env) (fun lv s₁ => wpAny (model PR w) A (evalPart hi env) (fun uv s₂ => wpAny (model PR w) A (evalPart st env) (fun sv s₃ =>
      Q (.ref s₃.heap.objs.size) { s₃ with heap := s₃.heap.push { cls := .type "slice", data := .fields #[lv, uv, sv] } }) E s₂) E s₁) E s) : wpAny (model PR w) A (eval (.Slice lo hi st pos) env) Q E s := wpAny_Slice h
theorem e_pnone {Q : Value → Shared → Prop} (h : Q .none s) : wpAny (model PR w) A (evalPart none env) Q E s := wpAny_pure h
theorem e_psome {e : Expr} {Q : Value → Shared → Prop} (h : wpAny (model PR w) A (eval e env) Q E s) : wpAny (model PR w) A (evalPart (some e) env) Q E s := h
theorem e_call {x : Str} {p pos : Pos} {args : List Expr} {Q : Value → Shared → Prop}
    (h : wpAny (model PR w) A (eval (.Name x p) env) (fun f s₁ => wpAny (model PR w) A (callWith pos f [] (backTo pos (starEach args env)) []) Q E s₁) E s) :
    wpAny (model PR w) A (eval (.Call (.Name x p) args [] pos) env) Q E s := Call_Name rfl h
theorem e_cwB {pos : Pos} {id : String} {e : Expr} {rest : List Expr} {Q : Value → Shared → Prop}
    (he : starEach (e :: rest) env = (false, eval e env) :: starEach rest env) (hp : (backTo pos (starEach rest env)).any (·.1) = false)
    (h : wpAny (model PR w) A (spliced (backTo pos (starEach (e :: rest) env))) (fun vs s₁ => wpAny (model PR w) A (call (.builtin id) vs) Q E s₁) E s) :
    wpAny (model PR w) A (callWith pos (.builtin id) [] (backTo pos (starEach (e :: rest) env)) []) Q E s := callWith_builtin1 h he hp
theorem e_cwT {pos : Pos} {T : String} {e : Expr} {rest : List Expr} {Q : Value → Shared → Prop}
    (he : starEach (e :: rest) env = (false, eval e env) :: starEach rest env) (hp : (backTo pos (starEach rest env)).any (·.1) = false)
    (h : wpAny (model PR w) A (spliced (backTo pos (starEach (e :: rest) env))) (fun vs s₁ => wpAny (model PR w) A (call (.type T) vs) Q E s₁) E s) :
    wpAny (model PR w) A (callWith pos (.type T) [] (backTo pos (starEach (e :: rest) env)) []) Q E s := callWith_type1 h he hp
theorem e_cwT0 {pos : Pos} {T : String} {Q : Value → Shared → Prop} (h : wpAny (model PR w) A (call (.type T) []) Q E s) :
    wpAny (model PR w) A (callWith pos (.type T) [] (backTo pos (starEach [] env)) []) Q E s := callWith_type0 h
/-- a def of the text is called: what is kept of it is looked up at the state when its arguments stand -/
theorem e_cwF {pos : Pos} {f : Addr} {e : Expr} {rest : List Expr} {Q : Value → Shared → Prop} (hk : keepIn (KF w) (.ref f) = true)
    (he : starEach (e :: rest) env = (false, eval e env) :: starEach rest env) (hp : (backTo pos (starEach rest env)).any (·.1) = false)
    (h : wpAny (model PR w) A (spliced (backTo pos (starEach (e :: rest) env))) (fun vs s₁ => Cx w s₁.heap ∧ wpAny (model PR w) A (call (.ref f) vs) Q E s₁) E s) :
    wpAny (model PR w) A (callWith pos (.ref f) [] (backTo pos (starEach (e :: rest) env)) []) Q E s := by
  rw [he] at h ⊢
  exact callWith_of (first := []) (P := (KF w).In) (by show ((false || (backTo pos (starEach rest env)).any (·.1)) || false) = false; rw [hp]; rfl) (keeps_K hk) (evalArgs_plain (wpAny_mono h (fun vs s₁ q => ⟨q.1.K, q.2⟩) fun _ _ e => e))
theorem e_args {pos : Pos} {e : Expr} {rest : List Expr} {Q : List Value → Shared → Prop} (he : starEach (e :: rest) env = (false, eval e env) :: starEach rest env)
    (h : wpAny (model PR w) A (eval e env) (fun v s₁ => wpAny (model PR w) A (spliced (backTo pos (starEach rest env))) (fun vs s₂ => Q (v :: vs) s₂) E s₁) E s) : wpAny (model PR w) A (spliced (backTo pos (starEach (e :: rest) env))) Q E s := args_cons h he
theorem e_args0 {pos : Pos} {Q : List Value → Shared → Prop} (h : Q [] s) : wpAny (model PR w) A (spliced (backTo pos (starEach [] env))) Q E s := args_nil h
theorem e_cx {P : Prop} (st : St w b kp L s l led) (h : P) : Cx w s.heap ∧ P := ⟨st.cx', h⟩

-- tests
theorem t_not {x : Expr} {pos : Pos} {whole : Sem Value} {Q : Bool → Shared → Prop} (h : wpAny (model PR w) A (PySem.isTrue x env (eval x env)) (fun c s₁ => Q (!c) s₁) E s) :
    wpAny (model PR w) A (PySem.isTrue (.UnaryOp .Not x pos) env whole) Q E s := wpAny_isTrue_Not h
theorem t_cmp {l₁ r₁ : Expr} {op : CmpOp} {pos : Pos} {whole : Sem Value} {Q : Bool → Shared → Prop} (hm : behindInMarks op r₁ = false)
    (h : wpAny (model PR w) A (eval l₁ env) (fun a s₁ => wpAny (model PR w) A (eval r₁ env) (fun c s₂ => wpAny (model PR w) A (compareOp op a c) (fun c s₃ => wpAny (model PR w) A (truthy c) Q E s₃) E s₂) E s₁) E s) :
    wpAny (model PR w) A (PySem.isTrue (.Compare l₁ [op] [r₁] pos) env whole) Q E s := wpAny_isTrue_Compare1 h hm
theorem t_val {e : Expr} {whole : Sem Value} {Q : Bool → Shared → Prop} (he : PySem.isTrue e env whole = (do let v ← whole; standAt e.pos; holding [v] (truthy v)))
    (h : wpAny (model PR w) A whole (fun v s₁ => wpAny (model PR w) A (truthy v) Q E s₁) E s) : wpAny (model PR w) A (PySem.isTrue e env whole) Q E s := wpAny_isTrue_value h he
theorem t_bool {c : Bool} {Q : Bool → Shared → Prop} (h : Q c s) : wpAny (model PR w) A (truthy (.bool c)) Q E s := wpAny_truthy_bool h
theorem t_op {op : BoolOp} {values : List Expr} {pos : Pos} {whole : Sem Value} {Q : Bool → Shared → Prop} (h : wpAny (model PR w) A (allTrue op values env) Q E s) :
    wpAny (model PR w) A (PySem.isTrue (.BoolOp op values pos) env whole) Q E s := wpAny_isTrue_BoolOp h
theorem t_and0 {Q : Bool → Shared → Prop} (h : Q true s) : wpAny (model PR w) A (allTrue .And [] env) Q E s := wpAny_allTrue_And_nil h
theorem t_or0 {Q : Bool → Shared → Prop} (h : Q false s) : wpAny (model PR w) A (allTrue .Or [] env) Q E s := wpAny_allTrue_Or_nil h
theorem t_and {x : Expr} {rest : List Expr} {Q : Bool → Shared → Prop} (h : wpAny (model PR w) A (PySem.isTrue x env (eval x env)) (fun c s₁ => Br c (wpAny (model PR w) A (allTrue .And rest env) Q E s₁) (Q false s₁)) E s) :
    wpAny (model PR w) A (allTrue .And (x :: rest) env) Q E s := wpAny_allTrue_And_cons (wpAny_mono h (fun c s₁ q => Br_ite q) fun _ _ e => e)
theorem t_or {x : Expr} {rest : List Expr} {Q : Bool → Shared → Prop} (h : wpAny (model PR w) A (PySem.isTrue x env (eval x env)) (fun c s₁ => Br c (Q true s₁) (wpAny (model PR w) A (allTrue .Or rest env) Q E s₁)) E s) :
    wpAny (model PR w) A (allTrue .Or (x :: rest) env) Q E s := wpAny_allTrue_Or_cons (wpAny_mono h (fun c s₁ q => Br_ite q) fun _ _ e => e)

-- ints
theorem i_add {x y : Int} {t u : Tok} {Q : Value → Shared → Prop} (st : St w b kp L s l led) (h : ∀ t s', St w b kp L s' l led → Q (.int (x + y) t) s') : wpAny (model PR w) A (binaryOp .Add (.int x t) (.int y u)) Q E s := add_int (h _ _ (st.tk _))
theorem i_sub {x y : Int} {t u : Tok} {Q : Value → Shared → Prop} (st : St w b kp L s l led) (h : ∀ t s', St w b kp L s' l led → Q (.int (x - y) t) s') : wpAny (model PR w) A (binaryOp .Sub (.int x t) (.int y u)) Q E s := PyProof.Rows.sub_int (h _ _ (st.tk _))
theorem i_eq {x y : Int} {t u : Tok} {Q : Value → Shared → Prop} (h : Q (.bool (decide (x = y))) s) : wpAny (model PR w) A (compareOp .Eq (.int x t) (.int y u)) Q E s := eq_int (by rw [show (x == y) = decide (x = y) from by by_cases e : x = y <;> simp [e]]; exact h)
theorem i_lt {x y : Int} {t u : Tok} {Q : Value → Shared → Prop} (h : Q (.bool (decide (x < y))) s) : wpAny (model PR w) A (compareOp .Lt (.int x t) (.int y u)) Q E s := lt_int h
theorem i_le {x y : Int} {t u : Tok} {Q : Value → Shared → Prop} (h : Q (.bool (decide (x ≤ y))) s) : wpAny (model PR w) A (compareOp .LtE (.int x t) (.int y u)) Q E s := le_int h
theorem b_abs {x : Int} {t : Tok} {Q : Value → Shared → Prop} (st : St w b kp L s l led) (h : ∀ t s', St w b kp L s' l led → Q (.int (x.natAbs : Int) t) s') : wpAny (model PR w) A (call (.builtin "abs") [.int x t]) Q E s :=
  call_abs_int fun u tk => by
    rw [show (if x < 0 then -x else x) = (x.natAbs : Int) from by split <;> omega]
    exact h _ _ (st.tk _)
theorem b_int {x : Int} {t : Tok} {Q : Value → Shared → Prop} (h : Q (.int x t) s) : wpAny (model PR w) A (call (.type "int") [.int x t]) Q E s := call_int_int h

/-- the def's body is entered (the end told by RetQ) -/
theorem enterR {w : World} {A : Around} {s : Shared} {Q : Value → Shared → Prop} {name qual : Str} {params : Arguments} {body : List Stmt} {scope : Scope} {dV kV doc pm cdv ct oc : Value} {an od : Option Addr} {osl : Array (Option Value)} {f : Addr} {vs : List Value} {k : Nat}
    (ps others : List Str) (ls : Loc) (hl : ls = mkLoc ps vs others) (hps : ps.length = vs.length) (hnd : (ps ++ others).Nodup)
    (rm : Rm A (k + 1)) (cx : Cx w s.heap)
    (ho : (KF w).lookup f = some ⟨oc, od, .func (fnOf name qual params body scope dV kV doc pm an cdv ct), osl⟩) (hcd : codeIn (KF w) cdv qual = true)
    (hbind : BindsTo s (fnOf name qual params body scope dV kV doc pm an cdv ct) ⟨vs, []⟩ (ps.zip vs)) (hloc : ps.all (fun y => decide (scope.names.lookup y = some .local)) = true)
    (hcell : ∀ x ∈ scope.names, x.2 ≠ .cell) (hco : scope.isCoroutine = false) (hgen : scope.isGenerator = false) (hk : scope.kind = .function)
    (h : ∀ s₁ L A', Rm A' k → s.heap.get? L = none → St w s s.heap.get? L s₁ ls [] →
      wpAny (model PR w) A' (execs body (envOf qual scope L f cdv)) (RetQ Q) NoE s₁) :
    wpAny (model PR w) A (call (.ref f) vs) Q NoE s :=
  enter ps others ls hl hps hnd rm cx ho hcd hbind hloc hcell hco hgen hk fun s₁ L r a st => h s₁ L _ r a st
end
-- FW3
section
variable {w : World} {A : Around} {E : Value → Shared → Prop} {b : Shared} {kp : Addr → Option Obj} {L : Addr} {s : Shared} {l : Loc} {led : Led} {env : Env}

abbrev tupO (vs : List Value) (n : Nat) : Obj := { cls := .type "tuple", data := .seq vs.toArray n }
abbrev lstO (vs : List Value) (n : Nat) : Obj := { cls := .type "list", data := .seq vs.toArray n }
abbrev slcO (lo hi st : Value) : Obj := { cls := .type "slice", data := .fields #[lo, hi, st] }

theorem i_mod {x y : Int} {t u : Tok} {Q : Value → Shared → Prop} (st : St w b kp L s l led) (hy : 0 < y) (h : ∀ t s', St w b kp L s' l led → Q (.int (x % y) t) s') : wpAny (model PR w) A (binaryOp .Mod (.int x t) (.int y u)) Q E s :=
  mod_int' (by omega) (by rw [Int.fmod_eq_emod_of_nonneg x (by omega)]; exact h _ _ (st.tk _))
theorem i_div {x y : Int} {t u : Tok} {Q : Value → Shared → Prop} (st : St w b kp L s l led) (hy : 0 < y) (hy2 : y.natAbs.log2 < 9000) (h : ∀ t s', St w b kp L s' l led → Q (.int (x / y) t) s') : wpAny (model PR w) A (binaryOp .FloorDiv (.int x t) (.int y u)) Q E s :=
  floordiv_int (by omega) (by rw [Int.fdiv_eq_ediv_of_nonneg x (by omega)]; exact h _ _ (st.tk _)) (.inl (PyProof.noPylong_of_log2 hy2))
theorem i_truthy {x : Int} {t : Tok} {Q : Bool → Shared → Prop} (h : Q (decide (x ≠ 0)) s) : wpAny (model PR w) A (truthy (.int x t)) Q E s :=
  truthy_int (by rw [show (x != 0) = decide (x ≠ 0) from by by_cases e : x = 0 <;> simp [e]]; exact h)
theorem b_divmod {x y : Int} {t u : Tok} {Q : Value → Shared → Prop} (st : St w b kp L s l led) (hy : 0 < y) (hy2 : y.natAbs.log2 < 9000)
    (h : ∀ T t₁ t₂ s', St w b kp L s' l ((T, tupO [.int (x / y) t₁, .int (x % y) t₂] 0) :: led) → Q (.ref T) s') : wpAny (model PR w) A (call (.builtin "divmod") [.int x t, .int y u]) Q E s :=
  divmod_int (by omega) (by
    rw [Int.fmod_eq_emod_of_nonneg x (by omega), Int.fdiv_eq_ediv_of_nonneg x (by omega)]
    exact h _ _ _ _ (st.push _ _)) (.inl (PyProof.noPylong_of_log2 hy2))

-- assignments of tuples of names
theorem u_pair {x y : Str} {p q pos : Pos} {k : Nat} {T : Addr} {v₁ v₂ : Value} {n : Nat} {Q : Unit → Shared → Prop} (st : St w b kp L s l ((T, tupO [v₁, v₂] n) :: led)) (hh : A.handled = none)
    (h : ∀ s', St w b kp L s' l led → wpAny (model PR w) A (storeName env x v₁) (fun _ s₁ => wpAny (model PR w) A (storeName env y v₂) Q E s₁) E s') :
    wpAny (model PR w) A (assign (.Tuple [.Name x p, .Name y q] k pos) env (.ref T)) Q E s := by
  have ho := (st.ob _ (.head _)).1
  refine wpAny_assign_Tuple (items := #[v₁, v₂]) hh ⟨_, ho, rfl, n, rfl⟩ rfl rfl fun h' hk => ?_
  have st' : St w b kp L { s with heap := h' } l led := (st.hp (h' := h') s.toks fun a o e => hk a o (Nat.ne_of_lt (Heap.lt_size e)) e).less (List.sublist_cons_self _ _)
  refine wpAny_bind (wpAny_holding (assign_Name (wpAny_mono (h _ st') (fun _ s₁ h₁ => ?_) fun _ _ e => e)))
  refine wpAny_bind (wpAny_holding (assign_Name (wpAny_mono h₁ (fun _ s₂ h₂ => wpAny_pure h₂) fun _ _ e => e)))
theorem u_trip {x y z : Str} {p q r pos : Pos} {k : Nat} {T : Addr} {v₁ v₂ v₃ : Value} {Q : Unit → Shared → Prop} (st : St w b kp L s l led) (hT : s.heap.IsTuple T #[v₁, v₂, v₃]) (hh : A.handled = none)
    (h : ∀ s', After s s' → St w b kp L s' l led → wpAny (model PR w) A (storeName env x v₁) (fun _ s₁ => wpAny (model PR w) A (storeName env y v₂) (fun _ s₂ => wpAny (model PR w) A (storeName env z v₃) Q E s₂) E s₁) E s') :
    wpAny (model PR w) A (assign (.Tuple [.Name x p, .Name y q, .Name z r] k pos) env (.ref T)) Q E s := by
  refine wpAny_assign_Tuple hh hT rfl rfl fun h' hk => ?_
  have kk : Keep s.heap h' := fun a o e => hk a o (Nat.ne_of_lt (Heap.lt_size e)) e
  refine wpAny_bind (wpAny_holding (assign_Name (wpAny_mono (h _ ⟨rfl, rfl, rfl, kk⟩ (st.hp (h' := h') s.toks kk)) (fun _ s₁ h₁ => ?_) fun _ _ e => e)))
  refine wpAny_bind (wpAny_holding (assign_Name (wpAny_mono h₁ (fun _ s₂ h₂ => ?_) fun _ _ e => e)))
  refine wpAny_bind (wpAny_holding (assign_Name (wpAny_mono h₂ (fun _ s₂ h₂ => wpAny_pure h₂) fun _ _ e => e)))
theorem x_tuple {elts : List Expr} {k : Nat} {tpos : Pos} {value : Expr} {pos : Pos} {Q : Flow → Shared → Prop} (hs : swapsWithSole [.Tuple elts k tpos] value pos.line env = pure false) (hw : swappedStores [.Tuple elts k tpos] value env = pure none)
    (h : wpAny (model PR w) A (eval value env) (fun v s₁ => wpAny (model PR w) A (assign (.Tuple elts k tpos) env v) (fun _ => Q .next) E s₁) E s) : wpAny (model PR w) A (exec (.Assign [.Tuple elts k tpos] value pos) env) Q E s := Assign_Tuple h hs hw

-- slices
def SlcQ (lv uv sv : Value) (Q : Value → Shared → Prop) (s : Shared) : Prop := Q (.ref s.heap.objs.size) { s with heap := s.heap.push (slcO lv uv sv) }
theorem SlcQ_intro {lv uv sv : Value} {Q : Value → Shared → Prop} (st : St w b kp L s l led) (h : ∀ a s', St w b kp L s' l ((a, slcO lv uv sv) :: led) → Q (.ref a) s') : SlcQ lv uv sv Q s := h _ _ (st.push _ _)
theorem e_slc {lo hi st : Option Expr} {pos : Pos} {Q : Value → Shared → Prop}
    (h : wpAny (model PR w) A (evalPart lo env) (fun lv s₁ => wpAny (model PR w) A (evalPart hi env) (fun uv s₂ => wpAny (model PR w) A (evalPart st env) (fun sv s₃ => SlcQ lv uv sv Q s₃) E s₂) E s₁) E s) : wpAny (model PR w) A (eval (.Slice lo hi st pos) env) Q E s := wpAny_Slice h

theorem clip_nonneg {n : Nat} {i : Int} (h : 0 ≤ i) : clipAt n i = min i.toNat n := by unfold clipAt; rw [if_neg (by omega)]; omega
theorem take_drop_clip {α : Type} (l : List α) {i j : Int} (hi : 0 ≤ i) (hj : 0 ≤ j) : (l.drop (clipAt l.length i)).take (clipAt l.length j - clipAt l.length i) = (l.drop i.toNat).take (j.toNat - i.toNat) := by
  rw [clip_nonneg hi, clip_nonneg hj]
  by_cases h : i.toNat ≤ l.length
  · rw [Nat.min_eq_left h]
    by_cases h2 : j.toNat ≤ l.length
    · rw [Nat.min_eq_left h2]
    · rw [Nat.min_eq_right (by omega), List.take_of_length_le (by simp), List.take_of_length_le (by simp; omega)]
  · rw [List.drop_of_length_le (by omega), List.drop_of_length_le (by omega)]; simp
theorem y_slice {value slice : Expr} {y : List UInt8} {i j : Int} {t t₁ t₂ : Tok} {a : Addr} {Q : Value → Shared → Prop} (st : St w b kp L s l ((a, slcO (.int i t₁) (.int j t₂) .none) :: led)) (hi : 0 ≤ i) (hj : 0 ≤ j) (hz : y.length ≤ 16777216)
    (hs : subscripted slice false (.bytes y.toArray t) (.ref a) = operate [.ref a, .bytes y.toArray t] (getItem (.bytes y.toArray t) (.ref a)))
    (h : ∀ t s', St w b kp L s' l led → Q (.bytes ((y.drop i.toNat).take (j.toNat - i.toNat)).toArray t) s') :
    wpAny (model PR w) A (subscriptTail value slice (.bytes y.toArray t) (.ref a)) Q E s :=
  tail_any (T := "bytes") (typeIs_bytes _ _ _) FB.slot_bytes_getitem.lookup (getItem_meets (typeIs_bytes _ _ _) (by decide) FB.slot_bytes_getitem FB.entry_bytes_getitem (FB.args_bytes_getitem_2 _ _) (KBc.meets_slice2 _ t a (.int i t₁) (.int j t₂))
    ⟨⟨_, (st.ob _ (.head _)).1, rfl, rfl⟩, by
      have := KBc.size_picked_le y.toArray (some i) (some j)
      rw [sizeLine_eq]; simp only [List.size_toArray] at this; omega, fun t' k => by
      have e : KBy.picked y.toArray (some i) (some j) = ((y.drop i.toNat).take (j.toNat - i.toNat)).toArray := by
        rw [KBc.picked_eq]
        simp only [Option.elim_some, List.size_toArray]
        rw [take_drop_clip y hi hj]
      rw [e]
      exact h _ _ ((st.less (List.sublist_cons_self _ _)).tk _)⟩) hs
theorem y_add {x y : List UInt8} {t u : Tok} {Q : Value → Shared → Prop} (st : St w b kp L s l led) (hz : x.length + y.length ≤ 16777216) (h : ∀ t s', St w b kp L s' l led → Q (.bytes (x ++ y).toArray t) s') :
    wpAny (model PR w) A (binaryOp .Add (.bytes x.toArray t) (.bytes y.toArray u)) Q E s := KBy.add_bytes (by simpa using hz) fun t' k => by
  rw [show x.toArray ++ y.toArray = (x ++ y).toArray by simp]; exact h _ _ (st.tk _)
end
-- Names
theorem g_divmod (P : Params) : nsIn (hd.heap_39 P) mainGlobals (Str.ofString "divmod") = some none := by kernel_rfl
theorem g_int (P : Params) : nsIn (hd.heap_39 P) mainGlobals (Str.ofString "int") = some none := by kernel_rfl
theorem g_abs (P : Params) : nsIn (hd.heap_39 P) mainGlobals (Str.ofString "abs") = some none := by kernel_rfl
theorem g_type (P : Params) : nsIn (hd.heap_39 P) mainGlobals (Str.ofString "type") = some none := by kernel_rfl
theorem g_bytes (P : Params) : nsIn (hd.heap_39 P) mainGlobals (Str.ofString "bytes") = some none := by kernel_rfl
theorem g_chr (P : Params) : nsIn (hd.heap_39 P) mainGlobals (Str.ofString "chr") = some none := by kernel_rfl
theorem g_len (P : Params) : nsIn (hd.heap_39 P) mainGlobals (Str.ofString "len") = some none := by kernel_rfl
theorem g_range (P : Params) : nsIn (hd.heap_39 P) mainGlobals (Str.ofString "range") = some none := by kernel_rfl
theorem g_list (P : Params) : nsIn (hd.heap_39 P) mainGlobals (Str.ofString "list") = some none := by kernel_rfl
theorem g_object (P : Params) : nsIn (hd.heap_39 P) mainGlobals (Str.ofString "object") = some none := by kernel_rfl
theorem g_isinstance (P : Params) : nsIn (hd.heap_39 P) mainGlobals (Str.ofString "isinstance") = some none := by kernel_rfl
theorem g_str (P : Params) : nsIn (hd.heap_39 P) mainGlobals (Str.ofString "str") = some none := by kernel_rfl
theorem g_Int2AP (P : Params) : nsIn (hd.heap_39 P) mainGlobals (Str.ofString "Int2AP") = some (some (.ref 38)) := by kernel_rfl
theorem g_translate (P : Params) : nsIn (hd.heap_39 P) mainGlobals (Str.ofString "translate") = some (some (.ref 50)) := by kernel_rfl
theorem g_map (P : Params) : nsIn (hd.heap_39 P) mainGlobals (Str.ofString "_special_chars_map") = some (some (.ref 52)) := by kernel_rfl
theorem g_escape (P : Params) : nsIn (hd.heap_39 P) mainGlobals (Str.ofString "escape") = some (some (.ref 62)) := by kernel_rfl
theorem g__translate (P : Params) : nsIn (hd.heap_39 P) mainGlobals (Str.ofString "_translate") = some (some (.ref 69)) := by kernel_rfl
theorem g_join (P : Params) : nsIn (hd.heap_39 P) mainGlobals (Str.ofString "_join_translated_parts") = some (some (.ref 76)) := by kernel_rfl
theorem g_cells (P : Params) : nsIn (hd.heap_39 P) mainGlobals (Str.ofString "_law_cells") = some (some (.ref 83)) := by kernel_rfl
theorem g_text (P : Params) : nsIn (hd.heap_39 P) mainGlobals (Str.ofString "_law_text") = some (some (.ref 88)) := by kernel_rfl
theorem g_pieces (P : Params) : nsIn (hd.heap_39 P) mainGlobals (Str.ofString "_law_pieces") = some (some (.ref 93)) := by kernel_rfl
theorem g_pattern (P : Params) : nsIn (hd.heap_39 P) mainGlobals (Str.ofString "_law_pattern") = some (some (.ref 98)) := by kernel_rfl
theorem g_length (P : Params) : nsIn (hd.heap_39 P) mainGlobals (Str.ofString "_law_length") = some (some (.ref 105)) := by kernel_rfl
theorem g_fit (P : Params) : nsIn (hd.heap_39 P) mainGlobals (Str.ofString "_law_fit") = some (some (.ref 112)) := by kernel_rfl
theorem g_found (P : Params) : nsIn (hd.heap_39 P) mainGlobals (Str.ofString "_law_found") = some (some (.ref 117)) := by kernel_rfl
theorem g_read (P : Params) : nsIn (hd.heap_39 P) mainGlobals (Str.ofString "_law_read") = some (some (.ref 124)) := by kernel_rfl
theorem g_fits (P : Params) : nsIn (hd.heap_39 P) mainGlobals (Str.ofString "_law_fits") = some (some (.ref 131)) := by kernel_rfl
theorem g_taken (P : Params) : nsIn (hd.heap_39 P) mainGlobals (Str.ofString "_law_taken") = some (some (.ref 138)) := by kernel_rfl
theorem g_spelled (P : Params) : nsIn (hd.heap_39 P) mainGlobals (Str.ofString "_law_spelled") = some (some (.ref 145)) := by kernel_rfl
theorem g_all (P : Params) : nsIn (hd.heap_39 P) mainGlobals (Str.ofString "_law_all_found") = some (some (.ref 152)) := by kernel_rfl
-- FW4
section
variable {w : World} {A : Around} {b : Shared} {kp : Addr → Option Obj} {L : Addr} {s : Shared} {l : Loc} {led : Led} {env : Env}

/-- objects beside wr stand as they stood: the state's facts hold on -/
theorem St.but (st : St w b kp L s l led) {wr : List Addr} (h1 : ∀ a ∈ wr, kp a = none) (h2 : L ∉ wr) (h3 : ∀ p ∈ led, p.1 ∉ wr) {h' : Heap} (t : Nat) (hk : ∀ a o, a ∉ wr → s.heap.get? a = some o → h'.get? a = some o) :
    St w b kp L { s with heap := h', toks := t } l led where
  gens := st.gens
  drawn := st.drawn
  os := st.os
  cx := st.cx
  kb := st.kb
  keep := fun a o e => hk a o (fun q => by rw [h1 a q] at e; cases e) (st.keep a o e)
  ns := let ⟨m, x, y⟩ := st.ns; ⟨m, x.at' fun o e => hk _ o h2 e, y⟩
  nl := st.nl
  ob := fun p hp => ⟨hk _ _ (h3 p hp) (st.ob p hp).1, (st.ob p hp).2⟩
  nd := st.nd
theorem St.blank (st : St w b kp L s l led) {l' : Loc} (hn : ∀ p ∈ l', p.2 = none) (he : l'.map (·.1) = l.map (·.1)) : St w b kp L s l' led :=
  { st with ns := let ⟨m, x, y⟩ := st.ns; ⟨m, x, fun p hp v hv => by rw [hn p hp] at hv; cases hv⟩, nl := by rw [he]; exact st.nl }

theorem for_go {target : Expr} {body : List Stmt} {I : Addr} {fp wr : List Addr} {n : Nat} {P : Nat → Value → Prop} {Sw : Nat → Heap → Prop} {Q : Flow → Shared → Prop} (W : Walks PR w A I fp wr n P Sw)
    (st : St w b kp L s l led) (kL : kp L = none) (hst : Sw 0 s.heap) (hwr : ∀ a ∈ wr, kp a = none) (hfL : ∀ a ∈ fp, a ≠ L) (hfo : ∀ p ∈ led, p.1 ∉ fp) (hex : ∀ i h, Sw i h → ∀ a ∈ fp, ∃ o, h.get? a = some o)
    (hgo : ∀ i v s (Q : Unit → Shared → Prop), Sw (i + 1) s.heap → P i v → Q () s → wpAny (model PR w) A (letOwnedTupleGo target (.ref I) v) Q NoE s)
    (Inv : Nat → Loc → Led → Prop) (h0 : Inv 0 l led)
    (turn : ∀ i v kp' s₁ l₁ led₁, i < n → P i v → Inv i l₁ led₁ → kp' L = none → (∀ a o, kp a = some o → kp' a = some o) → St w b kp' L s₁ l₁ led₁ →
      wpAny (model PR w) A (assign target env v) (fun _ s₂ => wpAny (model PR w) A (execs body env) (LoopQ (fun s₃ => ∃ l₂ led₂, St w b kp' L s₃ l₂ led₂ ∧ Inv (i + 1) l₂ led₂) Q) NoE s₂) NoE s₁)
    (done : ∀ s₂ l₂ led₂, Inv n l₂ led₂ → St w b kp L s₂ l₂ led₂ → Q .next s₂) :
    codeAny (model PR w) A (.forLoop target (.ref I) body [] env) (fun r s' => match r with | .ok f => Q f s' | .error e => cameBackBy (model PR w) A env NoE e s') s := by
  have hLw : L ∉ wr := fun h => hfL L (W.sub _ h) rfl
  refine codeAny_forLoop_any (fun k s' => ∃ i l₁ led₁, k = n + 1 - i ∧ i ≤ n ∧ Sw i s'.heap ∧ St w b kp L s' l₁ led₁ ∧ Inv i l₁ led₁ ∧ ∀ p ∈ led₁, p.1 ∉ fp) ?_ (n + 1) ⟨0, l, led, rfl, Nat.zero_le _, hst, st, h0, hfo⟩
  rintro k s' ⟨i, l₁, led₁, rfl, hi, hsw, st₁, hI, hoff⟩
  have hoffw : ∀ p ∈ led₁, p.1 ∉ wr := fun p hp h => hoff p hp (W.sub _ h)
  by_cases hlt : i < n
  · refine W.item i s' _ _ hlt hsw fun v h₁ tk₁ hP hsw₁ hk₁ => ?_
    have st₂ : St w b kp L { s' with heap := h₁, toks := tk₁ } l₁ led₁ := st₁.but hwr hLw hoffw _ hk₁
    refine wpAny_mono (hgo i v _ (fun _ s'' => s'' = { s' with heap := h₁, toks := tk₁ }) hsw₁ hP rfl) (fun _ s'' e => ?_) fun _ _ e => e.elim
    subst e
    obtain ⟨st₃, kL', kk⟩ := st₂.freeze kL
    refine wpAny_mono (turn i v _ _ l₁ led₁ hlt hP hI kL' kk st₃) (fun _ s₂ h₂ => wpAny_mono h₂ (fun f s₃ h₃ => ?_) fun _ _ e => e.elim) fun _ _ e => e.elim
    have fin : (∃ l₂ led₂, St w b (frz { s' with heap := h₁, toks := tk₁ } L led₁) L s₃ l₂ led₂ ∧ Inv (i + 1) l₂ led₂) → ∃ m, m < n + 1 - i ∧ ∃ i l₁ led₁, m = n + 1 - i ∧ i ≤ n ∧ Sw i s₃.heap ∧ St w b kp L s₃ l₁ led₁ ∧ Inv i l₁ led₁ ∧ ∀ p ∈ led₁, p.1 ∉ fp := by
      rintro ⟨l₂, led₂, st₄, hI₄⟩
      have hfz : ∀ a ∈ fp, ∃ o, h₁.get? a = some o ∧ frz { s' with heap := h₁, toks := tk₁ } L led₁ a = some o := fun a ha => by
        obtain ⟨o, ho⟩ := hex _ _ hsw₁ a ha
        refine ⟨o, ho, ?_⟩
        unfold frz
        rw [if_neg ?_]
        · exact ho
        · rintro (q | q)
          · exact hfL a ha q
          · obtain ⟨p, hp, rfl⟩ := List.mem_map.mp q
            exact hoff p hp ha
      refine ⟨n + 1 - (i + 1), by omega, i + 1, l₂, led₂, rfl, hlt, W.frame _ _ _ hsw₁ fun a ha o e => ?_, st₄.thaw kk st.kb, hI₄, fun p hp h => ?_⟩
      · obtain ⟨o', ho', hz⟩ := hfz a ha
        have : o' = o := by have := ho'.symm.trans e; cases this; rfl
        subst this
        exact st₄.keep a _ hz
      · obtain ⟨o', _, hz⟩ := hfz _ h
        rw [(st₄.ob p hp).2.2] at hz; cases hz
    cases f with
    | next => exact fin h₃
    | cont => exact fin h₃
    | brk => exact h₃
    | ret v => exact h₃
  · have hin : i = n := by omega
    subst hin
    refine W.done s' _ _ hsw fun h₁ tk₁ hk₁ => wpAny_execs_nil ?_
    exact done _ l₁ led₁ hI (st₁.but hwr hLw hoffw _ hk₁)

theorem x_for {target iter : Expr} {body : List Stmt} {pos : Pos} {Q : Flow → Shared → Prop} (hs : ∀ x, foldedSetIterable iter env x = pure x)
    (h : wpAny (model PR w) A (eval iter env) (fun x s₁ => wpAny (model PR w) A (pyIter x) (fun it s₂ =>
      codeAny (model PR w) A (.forLoop target it body [] env) (fun r s' => match r with | .ok f => Q f s' | .error e => cameBackBy (model PR w) A env NoE e s') s₂) NoE s₁) NoE s) :
    wpAny (model PR w) A (exec (.For target iter body [] pos) env) Q NoE s := wpAny_For h hs

def CompAtX (w : World) (A : Around) (env : Env) (elt target iter : Expr) (ifs : List Expr) (scope : Scope) (pos : Pos) (cl : List (Str × Addr)) (use : Option (Value → Sem Unit)) (Q : Value → Shared → Prop) (it : Value) (s : Shared) : Prop :=
  wpAny (model PR w) A (newList []) (fun acc s₃ => wpAny (model PR w) A (newFunctionEnv scope env.globals cl [] env.qual none .none (some env)) (fun cenv s₄ =>
    codeAny (model PR w) A (.compStart (.ListComp elt [⟨target, iter, ifs, 0⟩] scope pos) 0 it acc { cenv with scope := relabel scope env }) (compPost (model PR w) A NoE use Q acc cenv.locals) s₄) NoE s₃) NoE s
def CompAt (w : World) (A : Around) (env : Env) (elt target iter : Expr) (ifs : List Expr) (scope : Scope) (pos : Pos) (cl : List (Str × Addr)) (Q : Value → Shared → Prop) (it : Value) (s : Shared) : Prop :=
  CompAtX w A env elt target iter ifs scope pos cl none Q it s
theorem e_comp {elt target iter : Expr} {ifs : List Expr} {scope : Scope} {pos : Pos} {cl : List (Str × Addr)} {Q : Value → Shared → Prop} (hclos : closureFor scope env = pure cl) (hkind : scope.kind = .function)
    (hnames : ∀ y ∈ scope.names, y.2 = .local → scope.names.lookup y.1 = some .local) (hs : ∀ x, foldedSetIterable iter env x = pure x)
    (h : wpAny (model PR w) A (eval iter env) (fun x s₁ => wpAny (model PR w) A (pyIter x) (fun it s₂ => CompAt w A env elt target iter ifs scope pos cl Q it s₂) NoE s₁) NoE s) :
    wpAny (model PR w) A (eval (.ListComp elt [⟨target, iter, ifs, 0⟩] scope pos) env) Q NoE s := by
  rw [eval_ListComp]
  exact wpAny_comprehension_free (use := none) rfl hs hclos hkind hnames h

theorem x_compU {elt target iter : Expr} {ifs : List Expr} {scope : Scope} {pos spos : Pos} {y : Str} {py : Pos} {cl : List (Str × Addr)} {Q : Flow → Shared → Prop} (hsw : swapsWith (.ListComp elt [⟨target, iter, ifs, 0⟩] scope pos) (some (.Name y py)) spos.line env = pure true)
    (hclos : closureFor scope env = pure cl) (hkind : scope.kind = .function) (hnames : ∀ y ∈ scope.names, y.2 = .local → scope.names.lookup y.1 = some .local) (hs : ∀ x, foldedSetIterable iter env x = pure x)
    (h : wpAny (model PR w) A (eval iter env) (fun x s₁ => wpAny (model PR w) A (pyIter x) (fun it s₂ => CompAtX w A env elt target iter ifs scope pos cl (some (assign (.Name y py) env)) (fun _ s' => Q .next s') it s₂) NoE s₁) NoE s) :
    wpAny (model PR w) A (exec (.Assign [.Name y py] (.ListComp elt [⟨target, iter, ifs, 0⟩] scope pos) spos) env) Q NoE s := by
  rw [exec_Assign_Name_used _ _ _ _ hsw]
  refine wpAny_bind (wpAny_standAt (wpAny_bind ?_))
  show wpAny _ A (do let _ ← comprehension (.ListComp elt [⟨target, iter, ifs, 0⟩] scope pos) scope env _ (newList []) false (eval iter env) (some (assign (.Name y py) env))) _ _ s
  exact wpAny_bind (wpAny_mono (wpAny_comprehension_free (use := some (assign (.Name y py) env)) (Q := fun _ s' => Q .next s') rfl hs hclos hkind hnames h) (fun _ s' hq => wpAny_pure (wpAny_pure hq)) fun _ _ e => e)

theorem compLoop_any {elt target iter : Expr} {ifs : List Expr} {scope : Scope} {pos : Pos} {it acc : Value} {R : Result → Shared → Prop} (J : Nat → Shared → Prop)
    (turn : ∀ k s, J k s → wpAny (model PR w) A (pyNext it) (fun r s₁ => match r with
      | none => R (.ok .next) s₁
      | some v => wpAny (model PR w) A (letOwnedTupleGo target it v) (fun _ s₁' => wpAny (model PR w) A (assign target env v) (fun _ s₂ =>
          wpAny (model PR w) A (forIn ifs true fun c r => if r = true then do let ok ← PySem.isTrue c env (eval c env); pure (ForInStep.yield ok) else pure (ForInStep.yield r)) (fun ok s₃ =>
            if ok = true then wpAny (model PR w) A (eval elt env) (fun y s₄ => wpAny (model PR w) A (call (.builtin "list.append") [acc, y]) (fun _ s₅ => ∃ m, m < k ∧ J m s₅) NoE s₄) NoE s₃ else ∃ m, m < k ∧ J m s₃) NoE s₂) NoE s₁') NoE s₁) NoE s)
    (k : Nat) (h : J k s) : codeAny (model PR w) A (.compLoop (.ListComp elt [⟨target, iter, ifs, 0⟩] scope pos) 0 it acc env) R s := by
  refine codeAny_loop rfl J (fun k s hJ => ?_) k h
  show wpAny _ A ((compTurn (.ListComp elt [⟨target, iter, ifs, 0⟩] scope pos) 0 it acc env).onRaise (fun x => do noteFrame x env; theTreesLotGoes x)) _ _ s
  refine wpAny_noted ?_
  rw [compTurn_list]
  refine wpAny_bind (wpAny_standAt (wpAny_bind (wpAny_mono (turn k s hJ) (fun r s₁ h₁ => ?_) fun _ _ e => e.elim)))
  cases r with
  | none => exact wpAny_pure h₁
  | some v =>
    refine wpAny_bind (wpAny_mono h₁ (fun _ s₁' h₁' => ?_) fun _ _ e => e.elim)
    refine wpAny_bind (wpAny_mono h₁' (fun _ s₂ h₂ => wpAny_bind (wpAny_mono h₂ (fun ok s₃ h₃ => ?_) fun _ _ e => e.elim)) fun _ _ e => e.elim)
    cases ok with
    | false => exact wpAny_pure ⟨rfl, by rw [if_neg Bool.false_ne_true] at h₃; exact h₃⟩
    | true =>
      rw [if_pos rfl] at h₃
      exact wpAny_bind (wpAny_bind (wpAny_mono h₃ (fun y s₄ h₄ => wpAny_bind (wpAny_mono h₄ (fun _ s₅ h₅ => wpAny_pure (wpAny_pure ⟨rfl, h₅⟩)) fun _ _ e => e.elim)) fun _ _ e => e.elim))

/-- a comprehension's loop -/
theorem comp_gen {elt target iter : Expr} {ifs : List Expr} {scope : Scope} {pos : Pos} {cl : List (Str × Addr)} {use : Option (Value → Sem Unit)} {I : Addr} {fp wr : List Addr} {n : Nat} {P : Nat → Value → Prop} {Sw : Nat → Heap → Prop} {Q : Value → Shared → Prop} (W : Walks PR w A I fp wr n P Sw)
    (st : St w b kp L s l led) (hst : Sw 0 s.heap) (hwr : ∀ a ∈ wr, kp a = none) (hfL : ∀ a ∈ fp, a ≠ L) (hfo : ∀ p ∈ led, p.1 ∉ wr) (hex : ∀ i h, Sw i h → ∀ a ∈ fp, ∃ o, h.get? a = some o)
    (hgo : ∀ i v s (Q : Unit → Shared → Prop), Sw (i + 1) s.heap → P i v → Q () s → wpAny (model PR w) A (letOwnedTupleGo target (.ref I) v) Q NoE s)
    (hsz : n ≤ sizeLine) (hcell : ∀ y ∈ scope.names, y.2 ≠ .cell) (hkind : scope.kind = .function)
    (lc : Loc) (hlc : ∀ p ∈ lc, p.2 = none) (hlcn : (lc.map (·.1)).Nodup)
    (Inv : Nat → List Value → Led → Prop) (h0 : Inv 0 [] []) (hlen : ∀ i ys led, Inv i ys led → ys.length ≤ i)
    (turn : ∀ i v kp' s₁ C D ys k led₁, i < n → P i v → Inv i ys led₁ → kp' C = none → (∀ a o, a ∉ wr → s.heap.get? a = some o → kp' a = some o) → St w b kp' C s₁ lc ((D, lstO ys k) :: led₁) →
      wpAny (model PR w) A (assign target (compEnvC scope cl C env) v) (fun _ s₂ =>
        wpAny (model PR w) A (forIn ifs true fun c r => if r = true then do let ok ← PySem.isTrue c (compEnvC scope cl C env) (eval c (compEnvC scope cl C env)); pure (ForInStep.yield ok) else pure (ForInStep.yield r)) (fun ok s₃ =>
          Br ok (wpAny (model PR w) A (eval elt (compEnvC scope cl C env)) (fun y s₄ => ∃ lc' led₂, St w b kp' C s₄ lc' ((D, lstO ys k) :: led₂) ∧ lc.map (·.1) = lc'.map (·.1) ∧ Inv (i + 1) (ys ++ [y]) led₂) NoE s₃)
            (∃ lc' led₂, St w b kp' C s₃ lc' ((D, lstO ys k) :: led₂) ∧ lc.map (·.1) = lc'.map (·.1) ∧ Inv (i + 1) ys led₂)) NoE s₂) NoE s₁)
    (done : ∀ s' C oC D ys k led₂, Inv n ys led₂ → St w b kp L s' l ((C, oC) :: (D, lstO ys k) :: (led₂ ++ led)) → (∀ a o, a ∉ wr → s.heap.get? a = some o → s'.heap.get? a = some o) → s.heap.get? C = none → (∃ m, ∀ h' : Heap, h'.get? C = some oC → h'.Ns C m) → compPost (model PR w) A NoE use Q (.ref D) C (.ok .next) s') :
    CompAtX w A env elt target iter ifs scope pos cl use Q (.ref I) s := by
  unfold CompAtX
  have hLw : L ∉ wr := fun h => hfL L (W.sub _ h) rfl
  refine wpAny_newObj_type (wpAny_newFunctionEnv hcell (by intro y hy; simp at hy) (fun h₁ hns₁ hsb₁ => ?_) hkind)
  dsimp only at hns₁ hsb₁ ⊢
  generalize hH2 : s.heap.push { cls := .type "list", dict := none, data := .seq ([] : List Value).toArray } = H2 at hns₁ hsb₁ ⊢
  have hC : H2.objs.size = s.heap.objs.size + 1 := by rw [← hH2, Heap.size_push]
  have hDC : s.heap.objs.size ≠ H2.objs.size := by rw [hC]; exact Nat.ne_of_lt (Nat.lt_succ_self _)
  have old : ∀ a o, s.heap.get? a = some o → h₁.get? a = some o := fun a o e => hsb₁.extBut a o (by rw [hC]; exact Nat.ne_of_lt (Nat.lt_succ_of_lt (Heap.lt_size e))) (Heap.get?_push_of_some _ (hH2 ▸ Heap.get?_push_of_some _ e))
  have hD : s.heap.get? s.heap.objs.size = none := get_size _
  have hCn : s.heap.get? H2.objs.size = none := Heap.get?_none_of_le (by rw [hC]; exact Nat.le_succ _)
  have hacc : h₁.get? s.heap.objs.size = some (lstO [] 0) := hsb₁.extBut _ _ hDC (Heap.get?_push_of_some _ (hH2 ▸ Heap.get?_push_size _ rfl))
  have hCo : ∃ o, h₁.get? H2.objs.size = some o := by obtain ⟨o, _, _, ho, _⟩ := hns₁; exact ⟨o, ho⟩
  -- what is frozen in the loop: all that stood, but what the iterator turns
  let kq : Addr → Option Obj := fun a => if a ∈ wr then none else s.heap.get? a
  have kqC : kq H2.objs.size = none := by show (if _ then none else s.heap.get? _) = none; rw [hCn]; split <;> rfl
  have kqD : kq s.heap.objs.size = none := by show (if _ then none else s.heap.get? _) = none; rw [hD]; split <;> rfl
  have kqa : ∀ a o, a ∉ wr → s.heap.get? a = some o → kq a = some o := fun a o h e => by show (if _ then none else s.heap.get? _) = _; rw [if_neg h]; exact e
  have kqs : ∀ a o, kq a = some o → s.heap.get? a = some o := fun a o e => by
    change (if _ then none else s.heap.get? _) = some o at e
    split at e
    · cases e
    · exact e
  have kqp : ∀ a o, kp a = some o → kq a = some o := fun a o e => kqa a o (fun q => by rw [hwr a q] at e; cases e) (st.keep a o e)
  have st₁ : St w b kq H2.objs.size { s with heap := h₁, toks := s.toks + ([] : List (Str × Value)).length } lc [(s.heap.objs.size, lstO [] 0)] := by
    refine { gens := st.gens, drawn := st.drawn, os := st.os, cx := st.cx, kb := fun a o e => kqp a o (st.kb a o e), keep := fun a o e => old a o (kqs a o e), ns := ⟨_, hns₁, fun p hp v hv => ?_⟩, nl := hlcn, ob := fun p hp => ?_, nd := by simp }
    · rw [hlc p hp] at hv; cases hv
    · rw [List.mem_singleton.mp hp]; exact ⟨hacc, hDC, kqD⟩
  have loop' : ∀ s₃ : Shared, s₃ = { s with heap := h₁, toks := s.toks + ([] : List (Str × Value)).length } →
      codeAny (model PR w) A (.compLoop (.ListComp elt [⟨target, iter, ifs, 0⟩] scope pos) 0 (.ref I) (.ref s.heap.objs.size) (compEnvC scope cl H2.objs.size env))
        (compPost (model PR w) A NoE use Q (.ref s.heap.objs.size) H2.objs.size) s₃ := by
    rintro s₃ rfl
    refine compLoop_any (fun k s' => ∃ i ys kk led₁, k = n + 1 - i ∧ i ≤ n ∧ Sw i s'.heap ∧ St w b kq H2.objs.size s' lc ((s.heap.objs.size, lstO ys kk) :: led₁) ∧ Inv i ys led₁ ∧ ∀ p ∈ led₁, p.1 ∉ fp) ?_ (n + 1)
      ⟨0, [], 0, [], rfl, Nat.zero_le _, W.frame _ _ _ hst fun a _ o e => old a o e, st₁, h0, fun p hp => nomatch hp⟩
    rintro k s' ⟨i, ys, kk, led₁, rfl, hi, hsw, st₂, hI, hoff⟩
    have hDf : s.heap.objs.size ∉ fp := fun h => by obtain ⟨o, ho⟩ := hex _ _ hst _ h; rw [hD] at ho; cases ho
    have hCf : H2.objs.size ∉ fp := fun h => by obtain ⟨o, ho⟩ := hex _ _ hst _ h; rw [hCn] at ho; cases ho
    have hwq : ∀ a ∈ wr, kq a = none := fun a ha => by show (if _ then none else s.heap.get? _) = none; rw [if_pos ha]
    have hoff2 : ∀ p ∈ (s.heap.objs.size, lstO ys kk) :: led₁, p.1 ∉ fp := fun p hp => by
      rcases List.mem_cons.mp hp with rfl | hp
      · exact hDf
      · exact hoff p hp
    by_cases hlt : i < n
    · refine W.item i s' _ _ hlt hsw fun v h₂ tk₂ hP hsw₁ hk₁ => ?_
      have st₃ : St w b kq H2.objs.size { s' with heap := h₂, toks := tk₂ } lc _ := st₂.but hwq (fun h => hCf (W.sub _ h)) (fun p hp h => hoff2 p hp (W.sub _ h)) _ hk₁
      refine wpAny_mono (hgo i v _ (fun _ s'' => s'' = { s' with heap := h₂, toks := tk₂ }) hsw₁ hP rfl) (fun _ s'' e => ?_) fun _ _ e => e.elim
      subst e
      obtain ⟨st₄, kC, kz⟩ := st₃.freeze kqC
      have hfz : ∀ a ∈ fp, ∃ o, h₂.get? a = some o ∧ frz { s' with heap := h₂, toks := tk₂ } H2.objs.size ((s.heap.objs.size, lstO ys kk) :: led₁) a = some o := fun a ha => by
        obtain ⟨o, ho⟩ := hex _ _ hsw₁ a ha
        refine ⟨o, ho, ?_⟩
        unfold frz
        rw [if_neg ?_]
        · exact ho
        · rintro (q | q)
          · exact hCf (q ▸ ha)
          · obtain ⟨p, hp, rfl⟩ := List.mem_map.mp q
            exact hoff2 p hp ha
      have fin : ∀ (s₅ : Shared) (ys' : List Value) (kk' : Nat) (lc' : Loc) (led₂ : Led), St w b (frz { s' with heap := h₂, toks := tk₂ } H2.objs.size ((s.heap.objs.size, lstO ys kk) :: led₁)) H2.objs.size s₅ lc' ((s.heap.objs.size, lstO ys' kk') :: led₂) → lc.map (·.1) = lc'.map (·.1) → Inv (i + 1) ys' led₂ →
          ∃ m, m < n + 1 - i ∧ ∃ i ys kk led₁, m = n + 1 - i ∧ i ≤ n ∧ Sw i s₅.heap ∧ St w b kq H2.objs.size s₅ lc ((s.heap.objs.size, lstO ys kk) :: led₁) ∧ Inv i ys led₁ ∧ ∀ p ∈ led₁, p.1 ∉ fp := by
        intro s₅ ys' kk' lc' led₂ st₅ hn hI₅
        refine ⟨n + 1 - (i + 1), by omega, i + 1, ys', kk', led₂, rfl, hlt, W.frame _ _ _ hsw₁ fun a ha o e => ?_, (st₅.blank hlc hn).thaw kz st₁.kb, hI₅, fun p hp h => ?_⟩
        · obtain ⟨o', ho', hz⟩ := hfz a ha
          have : o' = o := by have := ho'.symm.trans e; cases this; rfl
          subst this
          exact st₅.keep a _ hz
        · obtain ⟨o', _, hz⟩ := hfz _ h
          rw [(st₅.ob p (.tail _ hp)).2.2] at hz; cases hz
      refine wpAny_mono (turn i v _ _ H2.objs.size s.heap.objs.size ys kk led₁ hlt hP hI kC (fun a o h e => kz a o (kqa a o h e)) st₄) (fun _ s₂ h₂ => wpAny_mono h₂ (fun ok s₃ h₃ => ?_) fun _ _ e => e.elim) fun _ _ e => e.elim
      cases ok with
      | false =>
        rw [if_neg Bool.false_ne_true]
        obtain ⟨lc', led₂, st₅, hn, hI₅⟩ := h₃.2 rfl
        exact fin _ _ _ _ _ st₅ hn hI₅
      | true =>
        rw [if_pos rfl]
        refine wpAny_mono (h₃.1 rfl) (fun y s₄ h₄ => ?_) fun _ _ e => e.elim
        obtain ⟨lc', led₂, st₅, hn, hI₅⟩ := h₄
        have hyl := hlen _ _ _ hI
        refine wpAny_list_append_plain (items := ys.toArray) (hsz := by rw [List.size_toArray]; omega) ⟨kk, (st₅.ob _ (.head _)).1⟩ fun h₆ hl₆ hs₆ => ?_
        obtain ⟨kk', hl₆⟩ := hl₆
        have e6 : ys.toArray.push y = (ys ++ [y]).toArray := by simp
        rw [e6] at hl₆
        exact fin _ _ kk' _ _ (st₅.turn .head hs₆ hl₆ _) hn hI₅
    · have hin : i = n := by omega
      subst hin
      refine W.done s' _ _ hsw fun h₂ tk₂ hk₂ => ?_
      have st₃ : St w b kq H2.objs.size { s' with heap := h₂, toks := tk₂ } lc _ := st₂.but hwq (fun h => hCf (W.sub _ h)) (fun p hp h => hoff2 p hp (W.sub _ h)) _ hk₂
      obtain ⟨m, ⟨oC, es, ep, hoC, hrest⟩, _⟩ := st₃.ns
      have kept : ∀ a o, a ∉ wr → s.heap.get? a = some o → h₂.get? a = some o := fun a o ha e => st₃.keep a o (kqa a o ha e)
      have own : ∀ p ∈ (s.heap.objs.size, lstO ys kk) :: led₁, h₂.get? p.1 = some p.2 := fun p hp => (st₃.ob p hp).1
      have st₅ : St w b kp L { s with heap := h₂, toks := tk₂ } l led := st.but hwr hLw hfo _ kept
      have fresh0 : ∀ a, kq a = none → a ∉ wr → a ≠ L ∧ kp a = none ∧ ∀ q ∈ led, q.1 ≠ a := fun a hz hpw => by
        have hno : ∀ o, s.heap.get? a ≠ some o := fun o e => by rw [kqa _ _ hpw e] at hz; cases hz
        refine ⟨fun q => ?_, ?_, fun q hq e => hno _ (e ▸ (st.ob q hq).1)⟩
        · obtain ⟨m, ⟨o, _, _, ho, _⟩, _⟩ := st.ns
          exact hno o (q ▸ ho)
        · cases q : kp a with
          | none => rfl
          | some o => exact absurd (st.keep _ _ q) (hno o)
      have fresh : ∀ p ∈ (s.heap.objs.size, lstO ys kk) :: led₁, p.1 ≠ L ∧ kp p.1 = none ∧ ∀ q ∈ led, q.1 ≠ p.1 := fun p hp => fresh0 _ (st₃.ob p hp).2.2 fun h => hoff2 p hp (W.sub _ h)
      have freshC := fresh0 _ kqC fun h => hCf (W.sub _ h)
      have e7 : ({ s' with heap := h₂, toks := tk₂ } : Shared) = { s with heap := h₂, toks := tk₂ } := by
        have a1 := st₂.gens.trans st.gens.symm
        have a2 := st₂.drawn.trans st.drawn.symm
        have a3 := st₂.os.trans st.os.symm
        obtain ⟨_, _, _, _, _⟩ := s'
        obtain ⟨_, _, _, _, _⟩ := s
        cases a1; cases a2; cases a3; rfl
      rw [e7]
      refine done _ H2.objs.size oC s.heap.objs.size ys kk led₁ hI { st₅ with ob := fun p hp => ?_, nd := ?_ } kept hCn ⟨m, fun h' e => ⟨oC, es, ep, e, hrest⟩⟩
      · rw [← List.cons_append] at hp
        rcases List.mem_cons.mp hp with rfl | hp
        · exact ⟨hoC, freshC.1, freshC.2.1⟩
        rcases List.mem_append.mp hp with h1 | h1
        · exact ⟨own p h1, (fresh p h1).1, (fresh p h1).2.1⟩
        · exact st₅.ob p h1
      · rw [← List.cons_append, List.map_cons, List.nodup_cons]
        refine ⟨fun hm => ?_, ?_⟩
        · obtain ⟨p, hp, e⟩ := List.mem_map.mp hm
          rcases List.mem_append.mp hp with h1 | h1
          · exact (st₃.ob p h1).2.1 e
          · exact freshC.2.2 p h1 e
        rw [List.map_append, List.nodup_append]
        refine ⟨st₃.nd, st.nd, fun a ha c hc => ?_⟩
        obtain ⟨p, hp, rfl⟩ := List.mem_map.mp ha
        obtain ⟨q, hq, rfl⟩ := List.mem_map.mp hc
        exact fun e => (fresh p hp).2.2 q hq e.symm
  exact codeAny_compStart_list (loop' _ rfl) (W.self 0 _ _ _ (W.frame _ _ _ hst fun a _ o e => old a o e) (loop' _ rfl))
/-- the frame of a comprehension has gone -/
theorem St.gone {C D : Addr} {oC : Obj} {r : Led} (st : St w b kp L s l ((C, oC) :: r)) {h' : Heap} (hs : Heap.SameBut C s.heap h') : St w b kp L { s with heap := h' } l r := by
  have ob := st.ob _ (.head _)
  have nd := st.nd
  rw [List.map_cons, List.nodup_cons] at nd
  refine (st.less (List.sublist_cons_self _ _)).but (wr := [C]) ?_ ?_ ?_ s.toks fun a o ha e => (hs.2 a fun q => ha (by rw [q]; exact .head _)).trans e
  · intro a ha; rw [List.mem_singleton.mp ha]; exact ob.2.2
  · intro q; exact ob.2.1 (List.mem_singleton.mp q).symm
  · intro p hp q; exact nd.1 (List.mem_map.mpr ⟨p, hp, List.mem_singleton.mp q⟩)
theorem comp_at {elt target iter : Expr} {ifs : List Expr} {scope : Scope} {pos : Pos} {cl : List (Str × Addr)} {I : Addr} {fp wr : List Addr} {n : Nat} {P : Nat → Value → Prop} {Sw : Nat → Heap → Prop} {Q : Value → Shared → Prop} (W : Walks PR w A I fp wr n P Sw)
    (st : St w b kp L s l led) (hst : Sw 0 s.heap) (hwr : ∀ a ∈ wr, kp a = none) (hfL : ∀ a ∈ fp, a ≠ L) (hfo : ∀ p ∈ led, p.1 ∉ wr) (hex : ∀ i h, Sw i h → ∀ a ∈ fp, ∃ o, h.get? a = some o)
    (hgo : ∀ i v s (Q : Unit → Shared → Prop), Sw (i + 1) s.heap → P i v → Q () s → wpAny (model PR w) A (letOwnedTupleGo target (.ref I) v) Q NoE s)
    (hsz : n ≤ sizeLine) (hcell : ∀ y ∈ scope.names, y.2 ≠ .cell) (hkind : scope.kind = .function)
    (lc : Loc) (hlc : ∀ p ∈ lc, p.2 = none) (hlcn : (lc.map (·.1)).Nodup)
    (Inv : Nat → List Value → Led → Prop) (h0 : Inv 0 [] []) (hlen : ∀ i ys led, Inv i ys led → ys.length ≤ i)
    (turn : ∀ i v kp' s₁ C D ys k led₁, i < n → P i v → Inv i ys led₁ → kp' C = none → (∀ a o, a ∉ wr → s.heap.get? a = some o → kp' a = some o) → St w b kp' C s₁ lc ((D, lstO ys k) :: led₁) →
      wpAny (model PR w) A (assign target (compEnvC scope cl C env) v) (fun _ s₂ =>
        wpAny (model PR w) A (forIn ifs true fun c r => if r = true then do let ok ← PySem.isTrue c (compEnvC scope cl C env) (eval c (compEnvC scope cl C env)); pure (ForInStep.yield ok) else pure (ForInStep.yield r)) (fun ok s₃ =>
          Br ok (wpAny (model PR w) A (eval elt (compEnvC scope cl C env)) (fun y s₄ => ∃ lc' led₂, St w b kp' C s₄ lc' ((D, lstO ys k) :: led₂) ∧ lc.map (·.1) = lc'.map (·.1) ∧ Inv (i + 1) (ys ++ [y]) led₂) NoE s₃)
            (∃ lc' led₂, St w b kp' C s₃ lc' ((D, lstO ys k) :: led₂) ∧ lc.map (·.1) = lc'.map (·.1) ∧ Inv (i + 1) ys led₂)) NoE s₂) NoE s₁)
    (done : ∀ s' D ys k led₂, Inv n ys led₂ → St w b kp L s' l ((D, lstO ys k) :: (led₂ ++ led)) → (∀ a o, a ∉ wr → s.heap.get? a = some o → s'.heap.get? a = some o) → Q (.ref D) s') :
    CompAt w A env elt target iter ifs scope pos cl Q (.ref I) s :=
  comp_gen W st hst hwr hfL hfo hex hgo hsz hcell hkind lc hlc hlcn Inv h0 hlen turn fun s' C oC D ys k led₂ hI st' kept hC ⟨m, hm⟩ => ⟨m, hm _ (st'.ob _ (.head _)).1, fun h' hs => done _ D ys k led₂ hI (st'.gone (D := D) hs) fun a o ha e => (hs.2 a fun q => by rw [q, hC] at e; cases e).trans (kept a o ha e)⟩
theorem comp_atU {elt target iter : Expr} {ifs : List Expr} {scope : Scope} {pos : Pos} {cl : List (Str × Addr)} {y : Str} {py : Pos} {l' : Addr → Loc} {I : Addr} {fp wr : List Addr} {n : Nat} {P : Nat → Value → Prop} {Sw : Nat → Heap → Prop} {Q : Flow → Shared → Prop} (W : Walks PR w A I fp wr n P Sw)
    (st : St w b kp L s l led) (hst : Sw 0 s.heap) (hwr : ∀ a ∈ wr, kp a = none) (hfL : ∀ a ∈ fp, a ≠ L) (hfo : ∀ p ∈ led, p.1 ∉ wr) (hex : ∀ i h, Sw i h → ∀ a ∈ fp, ∃ o, h.get? a = some o)
    (hgo : ∀ i v s (Q : Unit → Shared → Prop), Sw (i + 1) s.heap → P i v → Q () s → wpAny (model PR w) A (letOwnedTupleGo target (.ref I) v) Q NoE s)
    (hsz : n ≤ sizeLine) (hcell : ∀ y ∈ scope.names, y.2 ≠ .cell) (hkind : scope.kind = .function)
    (lc : Loc) (hlc : ∀ p ∈ lc, p.2 = none) (hlcn : (lc.map (·.1)).Nodup)
    (Inv : Nat → List Value → Led → Prop) (h0 : Inv 0 [] []) (hlen : ∀ i ys led, Inv i ys led → ys.length ≤ i)
    (turn : ∀ i v kp' s₁ C D ys k led₁, i < n → P i v → Inv i ys led₁ → kp' C = none → (∀ a o, a ∉ wr → s.heap.get? a = some o → kp' a = some o) → St w b kp' C s₁ lc ((D, lstO ys k) :: led₁) →
      wpAny (model PR w) A (assign target (compEnvC scope cl C env) v) (fun _ s₂ =>
        wpAny (model PR w) A (forIn ifs true fun c r => if r = true then do let ok ← PySem.isTrue c (compEnvC scope cl C env) (eval c (compEnvC scope cl C env)); pure (ForInStep.yield ok) else pure (ForInStep.yield r)) (fun ok s₃ =>
          Br ok (wpAny (model PR w) A (eval elt (compEnvC scope cl C env)) (fun y s₄ => ∃ lc' led₂, St w b kp' C s₄ lc' ((D, lstO ys k) :: led₂) ∧ lc.map (·.1) = lc'.map (·.1) ∧ Inv (i + 1) (ys ++ [y]) led₂) NoE s₃)
            (∃ lc' led₂, St w b kp' C s₃ lc' ((D, lstO ys k) :: led₂) ∧ lc.map (·.1) = lc'.map (·.1) ∧ Inv (i + 1) ys led₂)) NoE s₂) NoE s₁)
    (hL : env.locals = L) (hk : env.scope.kind = .function) (hy : env.kindOf y = some .local) (kL : kp L = none) (hset : ∀ D, Set1 l y (.ref D) (l' D))
    (done : ∀ s' D ys k led₂, Inv n ys led₂ → St w b kp L s' (l' D) ((D, lstO ys k) :: (led₂ ++ led)) → Q .next s') :
    CompAtX w A env elt target iter ifs scope pos cl (some (assign (.Name y py) env)) (fun _ s' => Q .next s') (.ref I) s :=
  comp_gen W st hst hwr hfL hfo hex hgo hsz hcell hkind lc hlc hlcn Inv h0 hlen turn fun s' C oC D ys k led₂ hI st' kept hC ⟨m, hm⟩ => by
    refine PyProof.Rows.assign_Name (n_store st' kL (hset D) hL hk hy fun s'' st'' => ?_)
    exact ⟨m, hm _ (st''.ob _ (.head _)).1, fun h' hs => done _ D ys k led₂ hI (st''.gone (D := D) hs)⟩
end
-- FW5
section
variable {w : World} {A : Around} {b : Shared} {kp : Addr → Option Obj} {L : Addr} {s : Shared} {l : Loc} {led : Led} {env : Env}

def GoOk (target : Expr) (v : Value) : Prop := (∃ x p, target = .Name x p) ∨ (∃ e k p T, target = .Tuple e k p ∧ v = .ref T)
/-- where a loop draws its items from; s₀: the state ahead of the iterator's making -/
def Src (w : World) (A : Around) (L : Addr) (led : Led) (n : Nat) (P : Nat → Value → Prop) (s₀ : Shared) (it : Value) (s : Shared) : Prop :=
  ∃ (I : Addr) (fp wr : List Addr) (Sw : Nat → Heap → Prop), it = .ref I ∧ Walks PR w A I fp wr n P Sw ∧ Sw 0 s.heap ∧ (∀ a ∈ wr, s₀.heap.get? a = none) ∧ (∀ a ∈ fp, a ≠ L) ∧ (∀ p ∈ led, p.1 ∉ fp) ∧ (∀ i h, Sw i h → ∀ a ∈ fp, ∃ o, h.get? a = some o) ∧
    (∀ target i v s (Q : Unit → Shared → Prop), GoOk target v → Sw (i + 1) s.heap → P i v → Q () s → wpAny (model PR w) A (letOwnedTupleGo target (.ref I) v) Q NoE s)

theorem go_name {x : Str} {p : Pos} {it v : Value} {Q : Unit → Shared → Prop} (h : Q () s) : wpAny (model PR w) A (letOwnedTupleGo (.Name x p) it v) Q NoE s := wpAny_pure h

theorem src_list {ax : Addr} {items : List Value} {Q : Value → Shared → Prop} (st : St w b kp L s l led) (hh : A.handled = none) (hl : s.heap.IsList ax items.toArray) (hL : ax ≠ L) (ho : ∀ p ∈ led, p.1 ≠ ax)
    (h : ∀ it s', St w b kp L s' l led → After s s' → Src w A L led items.length (fun i v => items[i]? = some v) s it s' → Q it s') : wpAny (model PR w) A (pyIter (.ref ax)) Q NoE s := by
  obtain ⟨o, hax, _⟩ := id hl
  have hne : ax ≠ s.heap.objs.size := Nat.ne_of_lt (Heap.lt_size hax)
  have fr := get_size s.heap
  have W := Walks.list (prog := PR) (w := w) hh s.heap.objs.size ax hne items.toArray
  simp only [List.size_toArray, List.getElem?_toArray] at W
  refine wpAny_pyIter_list hl (h _ _ (st.push0 _ _) ⟨rfl, rfl, rfl, fun _ _ e => Heap.get?_push_of_some _ e⟩ ⟨_, _, _, _, rfl, W, ⟨⟨_, Heap.get?_push_size _ rfl, rfl, rfl⟩, hl.at fun o e => Heap.get?_push_of_some _ e⟩, ?_, ?_, ?_, ?_, ?_⟩)
  · intro a ha; rw [List.mem_singleton.mp ha]; exact fr
  · intro a ha
    rcases List.mem_cons.mp ha with rfl | ha
    · exact st.frL fr
    · rw [List.mem_singleton.mp ha]; exact hL
  · intro p hp hm
    rcases List.mem_cons.mp hm with e | hm
    · have := (st.ob p hp).1; rw [e, fr] at this; cases this
    · exact ho p hp (List.mem_singleton.mp hm)
  · rintro i h' ⟨⟨o, h1, _⟩, ⟨o', h2, _⟩⟩ a ha
    rcases List.mem_cons.mp ha with rfl | ha
    · exact ⟨o, h1⟩
    · rw [List.mem_singleton.mp ha]; exact ⟨o', h2⟩
  · rintro target i v s Q' (⟨x, p, rfl⟩ | ⟨e, k, p, T, rfl, rfl⟩) hs _ hq
    · exact go_name hq
    · exact wpAny_letOwnedTupleGo_listiter hs.1 hq

abbrev rngO (n : Int) (t₁ t₂ t₃ : Tok) : Obj := { cls := .type "range", data := .fields #[.int 0 t₁, .int n t₂, .int 1 t₃] }
theorem b_range {n : Int} {t : Tok} {E : Value → Shared → Prop} {Q : Value → Shared → Prop} (st : St w b kp L s l led) (h : ∀ r t₁ t₂ s', St w b kp L s' l ((r, rngO n t₁ t t₂) :: led) → Q (.ref r) s') : wpAny (model PR w) A (call (.type "range") [.int n t]) Q E s :=
  call_range_1 (h _ _ _ _ (st.push _ _))
theorem src_range {r : Addr} {n : Int} {t₁ t₂ t₃ : Tok} {Q : Value → Shared → Prop} (st : St w b kp L s l ((r, rngO n t₁ t₂ t₃) :: led)) (hh : A.handled = none) (h0 : 0 ≤ n) (h1 : n < 2 ^ 62)
    (h : ∀ it s', St w b kp L s' l led → After s s' → Src w A L led n.toNat (fun i v => ∃ t, v = .int (i : Nat) t) s it s' → Q it s') : wpAny (model PR w) A (pyIter (.ref r)) Q NoE s := by
  have hr : IsRange s.heap r 0 n 1 t₁ t₂ t₃ := (st.ob _ (.head _)).1
  have fr := get_size s.heap
  have hn : Builtin.Range.rangeSize 0 n 1 = (n.toNat : Int) := by rw [rangeSize_one]; split <;> omega
  have W := Walks.range (prog := PR) (w := w) hh s.heap.objs.size 0 1 n.toNat
  simp only [Int.zero_add, Int.mul_one] at W
  refine wpAny_pyIter_range hr (small_one (by decide) (by decide) (by omega) h1) (h _ _ ((st.less (List.sublist_cons_self _ _)).push0 _ _) ⟨rfl, rfl, rfl, fun _ _ e => Heap.get?_push_of_some _ e⟩ ⟨_, _, _, _, rfl, W, ?_, ?_, ?_, ?_, ?_, ?_⟩)
  · show (s.heap.push _).get? s.heap.objs.size = _
    rw [hn]
    have := Heap.get?_push_size s.heap (o := { cls := .type "range_iterator", data := .fields #[rawInt 0, rawInt (n.toNat : Int), rawInt 1] }) rfl
    simpa using this
  · intro a ha; rw [List.mem_singleton.mp ha]; exact fr
  · intro a ha; rw [List.mem_singleton.mp ha]; exact st.frL fr
  · intro p hp hm
    have := (st.ob p (.tail _ hp)).1; rw [List.mem_singleton.mp hm, fr] at this; cases this
  · intro i h' hs a ha; rw [List.mem_singleton.mp ha]; exact ⟨_, hs⟩
  · rintro target i v s Q' (⟨x, p, rfl⟩ | ⟨e, k, p, T, rfl, rfl⟩) hs hv hq
    · exact go_name hq
    · obtain ⟨t, ht⟩ := hv; cases ht

theorem src_bytes {y : List UInt8} {t : Tok} {Q : Value → Shared → Prop} (st : St w b kp L s l led) (hh : A.handled = none)
    (h : ∀ it s', St w b kp L s' l led → After s s' → Src w A L led y.length (fun i v => ∃ c u, y[i]? = some c ∧ v = .int (c.toNat : Int) u) s it s' → Q it s') : wpAny (model PR w) A (pyIter (.bytes y.toArray t)) Q NoE s := by
  have fr := get_size s.heap
  have W := KBw.walks (prog := PR) (w := w) hh s.heap.objs.size y.toArray t
  simp only [List.size_toArray, List.getElem?_toArray] at W
  refine KBw.pyIter_bytes (h _ _ (st.push0 _ _) ⟨rfl, rfl, rfl, fun _ _ e => Heap.get?_push_of_some _ e⟩ ⟨_, _, _, _, rfl, W, ?_, ?_, ?_, ?_, ?_, ?_⟩)
  · exact ⟨_, Heap.get?_push_size _ rfl, rfl, rfl⟩
  · intro a ha; rw [List.mem_singleton.mp ha]; exact fr
  · intro a ha; rw [List.mem_singleton.mp ha]; exact st.frL fr
  · intro p hp hm
    have := (st.ob p hp).1; rw [List.mem_singleton.mp hm, fr] at this; cases this
  · intro i h' hs a ha; rw [List.mem_singleton.mp ha]; obtain ⟨o, ho, _⟩ := hs; exact ⟨o, ho⟩
  · rintro target i v s Q' (⟨x, p, rfl⟩ | ⟨e, k, p, T, rfl, rfl⟩) hs hv hq
    · exact go_name hq
    · obtain ⟨c, u, _, ht⟩ := hv; cases ht

theorem for_src {target : Expr} {body : List Stmt} {n : Nat} {P : Nat → Value → Prop} {it : Value} {s₀ : Shared} {Q : Flow → Shared → Prop} (st : St w b kp L s l led) (src : Src w A L led n P s₀ it s) (hkp : ∀ a, s₀.heap.get? a = none → kp a = none) (kL : kp L = none)
    (hg : ∀ i v, P i v → GoOk target v)
    (Inv : Nat → Loc → Led → Prop) (h0 : Inv 0 l led)
    (turn : ∀ i v kp' s₁ l₁ led₁, i < n → P i v → Inv i l₁ led₁ → kp' L = none → (∀ a o, kp a = some o → kp' a = some o) → St w b kp' L s₁ l₁ led₁ →
      wpAny (model PR w) A (assign target env v) (fun _ s₂ => wpAny (model PR w) A (execs body env) (LoopQ (fun s₃ => ∃ l₂ led₂, St w b kp' L s₃ l₂ led₂ ∧ Inv (i + 1) l₂ led₂) Q) NoE s₂) NoE s₁)
    (done : ∀ s₂ l₂ led₂, Inv n l₂ led₂ → St w b kp L s₂ l₂ led₂ → Q .next s₂) :
    codeAny (model PR w) A (.forLoop target it body [] env) (fun r s' => match r with | .ok f => Q f s' | .error e => cameBackBy (model PR w) A env NoE e s') s := by
  obtain ⟨I, fp, wr, Sw, rfl, W, h1, h2, h3, h4, h5, h6⟩ := src
  exact for_go W st kL h1 (fun a ha => hkp a (h2 a ha)) h3 h4 h5 (fun i v s Q' a c d => h6 target i v s Q' (hg i v c) a c d) Inv h0 turn done
theorem comp_src {elt target iter : Expr} {ifs : List Expr} {scope : Scope} {pos : Pos} {cl : List (Str × Addr)} {n : Nat} {P : Nat → Value → Prop} {it : Value} {s₀ : Shared} {Q : Value → Shared → Prop} (st : St w b kp L s l led) (src : Src w A L led n P s₀ it s) (hkp : ∀ a, s₀.heap.get? a = none → kp a = none)
    (hg : ∀ i v, P i v → GoOk target v)
    (hsz : n ≤ sizeLine) (hcell : ∀ y ∈ scope.names, y.2 ≠ .cell) (hkind : scope.kind = .function)
    (lc : Loc) (hlc : ∀ p ∈ lc, p.2 = none) (hlcn : (lc.map (·.1)).Nodup)
    (Inv : Nat → List Value → Led → Prop) (h0 : Inv 0 [] []) (hlen : ∀ i ys led, Inv i ys led → ys.length ≤ i)
    (turn : ∀ i v kp' s₁ C D ys k led₁, i < n → P i v → Inv i ys led₁ → kp' C = none → (∀ a o, s₀.heap.get? a = some o → s.heap.get? a = some o → kp' a = some o) → St w b kp' C s₁ lc ((D, lstO ys k) :: led₁) →
      wpAny (model PR w) A (assign target (compEnvC scope cl C env) v) (fun _ s₂ =>
        wpAny (model PR w) A (forIn ifs true fun c r => if r = true then do let ok ← PySem.isTrue c (compEnvC scope cl C env) (eval c (compEnvC scope cl C env)); pure (ForInStep.yield ok) else pure (ForInStep.yield r)) (fun ok s₃ =>
          Br ok (wpAny (model PR w) A (eval elt (compEnvC scope cl C env)) (fun y s₄ => ∃ lc' led₂, St w b kp' C s₄ lc' ((D, lstO ys k) :: led₂) ∧ lc.map (·.1) = lc'.map (·.1) ∧ Inv (i + 1) (ys ++ [y]) led₂) NoE s₃)
            (∃ lc' led₂, St w b kp' C s₃ lc' ((D, lstO ys k) :: led₂) ∧ lc.map (·.1) = lc'.map (·.1) ∧ Inv (i + 1) ys led₂)) NoE s₂) NoE s₁)
    (done : ∀ s' D ys k led₂, Inv n ys led₂ → St w b kp L s' l ((D, lstO ys k) :: (led₂ ++ led)) → (∀ a o, s₀.heap.get? a = some o → s.heap.get? a = some o → s'.heap.get? a = some o) → Q (.ref D) s') :
    CompAt w A env elt target iter ifs scope pos cl Q it s := by
  obtain ⟨I, fp, wr, Sw, rfl, W, h1, h2, h3, h4, h5, h6⟩ := src
  have hnw : ∀ a o, s₀.heap.get? a = some o → a ∉ wr := fun a o e h => by rw [h2 a h] at e; cases e
  exact comp_at W st h1 (fun a ha => hkp a (h2 a ha)) h3 (fun p hp h => h4 p hp (W.sub _ h)) h5 (fun i v s Q' a c d => h6 target i v s Q' (hg i v c) a c d) hsz hcell hkind lc hlc hlcn Inv h0 hlen
    (fun i v kp' s₁ C D ys k led₁ a c d e f g => turn i v kp' s₁ C D ys k led₁ a c d e (fun x o p q => f x o (hnw x o p) q) g) fun s' D ys k led₂ a c d => done s' D ys k led₂ a c fun x o p q => d x o (hnw x o p) q
theorem comp_srcU {elt target iter : Expr} {ifs : List Expr} {scope : Scope} {pos : Pos} {cl : List (Str × Addr)} {n : Nat} {P : Nat → Value → Prop} {it : Value} {s₀ : Shared} {Q : Flow → Shared → Prop} {y : Str} {py : Pos} {l' : Addr → Loc} (st : St w b kp L s l led) (src : Src w A L led n P s₀ it s) (hkp : ∀ a, s₀.heap.get? a = none → kp a = none)
    (hg : ∀ i v, P i v → GoOk target v)
    (hsz : n ≤ sizeLine) (hcell : ∀ y ∈ scope.names, y.2 ≠ .cell) (hkind : scope.kind = .function)
    (lc : Loc) (hlc : ∀ p ∈ lc, p.2 = none) (hlcn : (lc.map (·.1)).Nodup)
    (Inv : Nat → List Value → Led → Prop) (h0 : Inv 0 [] []) (hlen : ∀ i ys led, Inv i ys led → ys.length ≤ i)
    (turn : ∀ i v kp' s₁ C D ys k led₁, i < n → P i v → Inv i ys led₁ → kp' C = none → (∀ a o, s₀.heap.get? a = some o → s.heap.get? a = some o → kp' a = some o) → St w b kp' C s₁ lc ((D, lstO ys k) :: led₁) →
      wpAny (model PR w) A (assign target (compEnvC scope cl C env) v) (fun _ s₂ =>
        wpAny (model PR w) A (forIn ifs true fun c r => if r = true then do let ok ← PySem.isTrue c (compEnvC scope cl C env) (eval c (compEnvC scope cl C env)); pure (ForInStep.yield ok) else pure (ForInStep.yield r)) (fun ok s₃ =>
          Br ok (wpAny (model PR w) A (eval elt (compEnvC scope cl C env)) (fun y s₄ => ∃ lc' led₂, St w b kp' C s₄ lc' ((D, lstO ys k) :: led₂) ∧ lc.map (·.1) = lc'.map (·.1) ∧ Inv (i + 1) (ys ++ [y]) led₂) NoE s₃)
            (∃ lc' led₂, St w b kp' C s₃ lc' ((D, lstO ys k) :: led₂) ∧ lc.map (·.1) = lc'.map (·.1) ∧ Inv (i + 1) ys led₂)) NoE s₂) NoE s₁)
    (hL : env.locals = L) (hk : env.scope.kind = .function) (hy : env.kindOf y = some .local) (kL : kp L = none) (hset : ∀ D, Set1 l y (.ref D) (l' D))
    (done : ∀ s' D ys k led₂, Inv n ys led₂ → St w b kp L s' (l' D) ((D, lstO ys k) :: (led₂ ++ led)) → Q .next s') :
    CompAtX w A env elt target iter ifs scope pos cl (some (assign (.Name y py) env)) (fun _ s' => Q .next s') it s := by
  obtain ⟨I, fp, wr, Sw, rfl, W, h1, h2, h3, h4, h5, h6⟩ := src
  have hnw : ∀ a o, s₀.heap.get? a = some o → a ∉ wr := fun a o e h => by rw [h2 a h] at e; cases e
  exact comp_atU W st h1 (fun a ha => hkp a (h2 a ha)) h3 (fun p hp h => h4 p hp (W.sub _ h)) h5 (fun i v s Q' a c d => h6 target i v s Q' (hg i v c) a c d) hsz hcell hkind lc hlc hlcn Inv h0 hlen
    (fun i v kp' s₁ C D ys k led₁ a c d e f g => turn i v kp' s₁ C D ys k led₁ a c d e (fun x o p q => f x o (hnw x o p) q) g) hL hk hy kL hset done
end
-- FW6
/-- a text by its signs -/
abbrev S (l : List Nat) : Str := ⟨l.toArray⟩
theorem S_inj {a c : List Nat} : S a = S c ↔ a = c := ⟨fun h => by have := congrArg (fun x : Str => x.cps.toList) h; simpa using this, fun h => by rw [h]⟩
theorem S_len (a : List Nat) : (S a).length = a.length := by show a.toArray.size = _; simp
theorem S_app (a c : List Nat) : S a ++ S c = S (a ++ c) := by
  show (⟨a.toArray ++ c.toArray⟩ : Str) = ⟨_⟩
  simp
section
variable {w : World} {A : Around} {E : Value → Shared → Prop} {b : Shared} {kp : Addr → Option Obj} {L : Addr} {s : Shared} {l : Loc} {led : Led} {env : Env}

theorem c_lit {x : Str} {a : List Nat} {k : Nat} {pos : Pos} {Q : Value → Shared → Prop} (st : St w b kp L s l led) (hx : x = S a) (h : ∀ t s', St w b kp L s' l led → Q (.str (S a) t) s') : wpAny (model PR w) A (eval (.Constant (.str x) k pos) env) Q E s := by
  subst hx; exact c_str st h
theorem s_add {x y : List Nat} {t u : Tok} {Q : Value → Shared → Prop} (st : St w b kp L s l led) (hz : x.length + y.length ≤ 16777216) (h : ∀ t s', St w b kp L s' l led → Q (.str (S (x ++ y)) t) s') :
    wpAny (model PR w) A (binaryOp .Add (.str (S x) t) (.str (S y) u)) Q E s :=
  PyProof.Rows.add_str (fun t' k => by rw [S_app]; exact h _ _ (st.tk _)) (by rw [S_len, S_len, sizeLine_eq]; exact hz)
theorem mul_one {c : Nat} {n : Int} : Txt.mul (S [c]) n = S (List.replicate n.toNat c) := by
  unfold Txt.mul
  split
  · rename_i h
    rw [show n.toNat = 0 by omega]; rfl
  · split
    · rename_i h1 h2
      have : n = 1 := by simpa [Str.length] using h2
      subst this; rfl
    · have : ∀ (k : Nat) (acc : List Nat), List.foldl (fun x1 x2 : Array Nat => x1 ++ x2) acc.toArray (List.replicate k #[c]) = (acc ++ List.replicate k c).toArray := by
        intro k
        induction k with
        | zero => intro acc; simp
        | succ k ih =>
          intro acc
          rw [List.replicate_succ, List.foldl_cons]
          have e : acc.toArray ++ #[c] = (acc ++ [c]).toArray := by simp
          rw [e, ih, List.replicate_succ]; simp
      have := this n.toNat []
      simpa using congrArg Str.mk this
theorem s_mul {c : Nat} {n : Int} {t u : Tok} {Q : Value → Shared → Prop} (st : St w b kp L s l led) (h0 : 0 ≤ n) (h1 : n ≤ 1000) (h : ∀ t s', St w b kp L s' l led → Q (.str (S (List.replicate n.toNat c)) t) s') :
    wpAny (model PR w) A (binaryOp .Mult (.str (S [c]) t) (.int n u)) Q E s :=
  SB.mul ⟨by simp; omega, fun hn hb => by
    show ¬ ((1 : Nat) : Int) > (2 ^ 63 - 1) / n
    have : 1 ≤ (2 ^ 63 - 1) / n := by rw [Int.le_ediv_iff_mul_le (by omega)]; omega
    omega, fun hn hb => by
    show Builtin.Str.tooLong (1 * n.toNat) = false
    unfold Builtin.Str.tooLong
    simp only [decide_eq_false_iff_not, sizeLine_eq]; omega⟩ fun t' k => by rw [mul_one]; exact h _ _ (st.tk _)
theorem s_eq {x y : List Nat} {t u : Tok} {Q : Value → Shared → Prop} (h : Q (.bool (decide (x = y))) s) : wpAny (model PR w) A (compareOp .Eq (.str (S x) t) (.str (S y) u)) Q E s :=
  PyProof.Rows.eq_str (by
    rw [show (S x == S y) = decide (x = y) from by
      by_cases e : x = y
      · simp [e]
      · have : S x ≠ S y := fun q => e (S_inj.mp q)
        simp [e, this]]
    exact h)
theorem s_ne {x y : List Nat} {t u : Tok} {Q : Value → Shared → Prop} (h : Q (.bool (!decide (x = y))) s) : wpAny (model PR w) A (compareOp .NotEq (.str (S x) t) (.str (S y) u)) Q E s :=
  PyProof.Rows.ne_str (by
    rw [show (S x != S y) = !decide (x = y) from by
      by_cases e : x = y
      · simp [e]
      · have : S x ≠ S y := fun q => e (S_inj.mp q)
        simp [e, this]]
    exact h)
theorem s_len {x : List Nat} {t : Tok} {Q : Value → Shared → Prop} (st : St w b kp L s l led) (hz : x.length ≤ 16777216) (h : ∀ t s', St w b kp L s' l led → Q (.int (x.length : Int) t) s') : wpAny (model PR w) A (call (.builtin "len") [.str (S x) t]) Q E s :=
  P.len_str (by rw [S_len]; omega) (by rw [S_len]; exact h _ _ (st.tk _))
theorem s_idx {value slice : Expr} {x : List Nat} {i : Int} {c : Nat} {t u : Tok} {Q : Value → Shared → Prop} (st : St w b kp L s l led) (hz : x.length ≤ 16777216) (h0 : 0 ≤ i) (hc : x[i.toNat]? = some c)
    (hs : subscripted slice false (.str (S x) t) (.int i u) = operate [.str (S x) t, .int i u] (getItem (.str (S x) t) (.int i u)))
    (h : ∀ t s', St w b kp L s' l led → Q (.str (S [c]) t) s') : wpAny (model PR w) A (subscriptTail value slice (.str (S x) t) (.int i u)) Q E s := by
  have hlt : i.toNat < x.length := (List.getElem?_eq_some_iff.mp hc).1
  exact tail_any (T := "str") (typeIs_str _ _ _) F.slot_str_getitem.lookup (P.getItem_str (by
    have h1 : ¬ i < -(2 ^ 63 : Int) := by omega
    have h2 : ¬ i ≥ 2 ^ 63 := by omega
    rw [decide_eq_false h1, decide_eq_false h2]; rfl) (by
    rw [S_len]
    have : seqIndex? i x.length = some i.toNat := by
      have h1 : ¬ i < 0 := by omega
      have h2 : i < (x.length : Int) := by omega
      unfold seqIndex?
      simp only [if_neg h1]
      rw [if_pos (by simp only [Bool.and_eq_true, decide_eq_true_eq]; exact ⟨h0, h2⟩)]
    rw [this]
    show x.toArray[i.toNat]? = _
    simpa using hc) (h _ _ (st.tk _))) hs
theorem strIdx (lo hi : Option Int) (n : Nat) : Builtin.Str.strSliceIndices lo hi 1 n = (List.range ((hi.elim n (clipAt n)) - (lo.elim 0 (clipAt n)))).map (lo.elim 0 (clipAt n) + ·) := by
  rw [← sliceRange_one]
  have := sliceBounds_plain lo hi n
  have e1 : (sliceBounds lo hi none n).1 = _ := congrArg (·.1) this
  have e2 : (sliceBounds lo hi none n).2.1 = _ := congrArg (fun x => x.2.1) this
  exact (congrArg (fun z => sliceRange z _ 1) e1).trans (congrArg (fun z => sliceRange _ z 1) e2)
def clip (n : Nat) (lo hi : Option Int) (l : List Nat) : List Nat := (l.drop (lo.elim 0 (clipAt n))).take (hi.elim n (clipAt n) - lo.elim 0 (clipAt n))
def partV : Option (Int × Tok) → Value := partValue
theorem s_slice {value slice : Expr} {x : List Nat} {lo hi : Option (Int × Tok)} {t : Tok} {a : Addr} {Q : Value → Shared → Prop} (st : St w b kp L s l ((a, slcO (partValue lo) (partValue hi) .none) :: led)) (hz : x.length ≤ 16777216)
    (hs : subscripted slice false (.str (S x) t) (.ref a) = operate [.ref a, .str (S x) t] (getItem (.str (S x) t) (.ref a)))
    (h : ∀ t s', St w b kp L s' l led → Q (.str (S (clip x.length (lo.map (·.1)) (hi.map (·.1)) x)) t) s') : wpAny (model PR w) A (subscriptTail value slice (.str (S x) t) (.ref a)) Q E s := by
  refine tail_any (T := "str") (typeIs_str _ _ _) F.slot_str_getitem.lookup (wpAny_getItem_str_slice (l := lo) (u := hi) (st := none) ⟨_, (st.ob _ (.head _)).1, rfl, rfl⟩ rfl ?_) hs
  have st' := st.less (List.sublist_cons_self _ _)
  have ep : (slicePicked (S x) lo hi none).filterMap ((S x).cps[·]?) = clip x.length (lo.map (·.1)) (hi.map (·.1)) x := by
    unfold slicePicked clip
    rw [S_len]
    show (Builtin.Str.strSliceIndices _ _ 1 _).filterMap _ = _
    rw [strIdx, pick_run]
  unfold sliceMade
  split
  · rename_i hw
    have hlen : (slicePicked (S x) lo hi none).length = x.length := by
      have := (Bool.and_eq_true_iff.mp hw).2
      rw [S_len] at this
      simpa using this
    have : clip x.length (lo.map (·.1)) (hi.map (·.1)) x = x := by
      unfold slicePicked at hlen
      rw [S_len] at hlen
      rw [show ((none : Option (Int × Tok)).map (·.1)).getD 1 = (1 : Int) from rfl, strIdx, List.length_map, List.length_range] at hlen
      unfold clip
      generalize hA : (lo.map (·.1)).elim 0 (clipAt x.length) = p at hlen ⊢
      generalize hB : (hi.map (·.1)).elim x.length (clipAt x.length) = q at hlen ⊢
      have hq : q ≤ x.length := by
        rw [← hB]
        cases hi with
        | none => exact Nat.le_refl _
        | some v => show clipAt _ _ ≤ _; unfold clipAt; omega
      by_cases hn : x.length = 0
      · have : x = [] := List.length_eq_zero_iff.mp hn
        subst this; simp
      · have hp : p = 0 := by omega
        subst hp
        rw [List.drop_zero, List.take_of_length_le (by omega)]
    (have h' := h t s st'); rw [this] at h'; exact h'
  · rw [ep]
    refine ⟨?_, h _ _ (st'.tk _)⟩
    show (S _).length ≤ sizeLine
    rw [S_len, sizeLine_eq]
    unfold clip
    rw [List.length_take, List.length_drop]; omega
end
-- FW7
open Builtin Builtin.ObjectAttr
abbrev bndO (l : Addr) : Obj := { cls := .type "builtin_function_or_method", data := .fields #[.builtin "list.append", .ref l] }
theorem slot_mdget : Slot "method_descriptor" "__get__" "method_descriptor.__get__" :=
  .of (owner := "method_descriptor") (n := "__get__") (by rw [typeLookup_type, builtinLookup_eq_fast]; kernel_rfl) (by decide +kernel) (by decide +kernel) (by decide +kernel)
    (by first | exact .inl (by decide +kernel) | exact .inr (by decide +kernel)) (by rw [isSubtype_type]; kernel_rfl)
theorem entry_mdget : entryFor table "method_descriptor.__get__" = some Builtin.«method_descriptor.__get__» := entryFor_of_tree (by kernel_rfl)
theorem args_mdget (a b c : Value) : argsOk "method_descriptor.__get__" ⟨[a, b, c], []⟩ := by unfold argsOk; kernel_rfl
theorem type_app : typeOf (.builtin "list.append") = pure (.type "method_descriptor") := by show builtinType _ = _; rw [builtinType_eq_fast]; kernel_rfl
theorem md_set : typeLookup (.type "method_descriptor") "__set__" = pure none := by rw [typeLookup_type, builtinLookup_eq_fast]; kernel_rfl
theorem md_del : typeLookup (.type "method_descriptor") "__delete__" = pure none := by rw [typeLookup_type, builtinLookup_eq_fast]; kernel_rfl
theorem own_app : ".".intercalate ("list.append".cutAt '.').dropLast = "list" := by decide +kernel
theorem sub_ll : isSubtype (.type "list") (.type (".".intercalate ("list.append".cutAt '.').dropLast)) = pure true := by rw [own_app, isSubtype_type]; kernel_rfl
section
variable {prog : Program} {w : World} {A : Around} {E : Value → Shared → Prop} {hp : Heap} {g : Array GenState} {d : Drawn} {tk : Nat} {os : OsState}

theorem find_append {a : Addr} {xs : Array Value} {k : Nat} {Q : Found → Shared → Prop} (hx : hp.get? a = some { cls := .type "list", data := .seq xs k })
    (h : Q (.bind (.builtin "method_descriptor.__get__") (.builtin "list.append")) ⟨hp, g, d, tk, os⟩) : wpAny (model prog w) A (find (.ref a) (.type "list") (Str.ofString "append")) Q E ⟨hp, g, d, tk, os⟩ := by
  have hT : (⟨hp, g, d, tk, os⟩ : Shared).TypeIs (.ref a) "list" := ⟨_, hx, rfl⟩
  have f1 := F.slot_list_append.lookup
  have f2 := type_app
  have f3 := slot_mdget.lookup
  have f4 := md_set
  have f5 := md_del
  unfold find
  repeat (any_goals (first | assumption | wp_step))

theorem mdget_append {a : Addr} {xs : Array Value} {k : Nat} {R : Result → Shared → Prop} (hx : hp.get? a = some { cls := .type "list", data := .seq xs k })
    (h : R (.ok (.ret (.ref hp.objs.size))) ⟨hp.push (bndO a), g, d, tk, os⟩) :
    codeAny (model prog w) A (.call (.builtin "method_descriptor.__get__") ⟨[.builtin "list.append", .ref a, .type "list"], []⟩) R ⟨hp, g, d, tk, os⟩ := by
  have hT : (⟨hp, g, d, tk, os⟩ : Shared).TypeIs (.ref a) "list" := ⟨_, hx, rfl⟩
  have hT5 : (⟨hp, g, d, tk, os⟩ : Shared).TypeIs (.builtin "list.append") "method_descriptor" := type_app
  have f8 := sub_ll
  refine codeAny_call_builtin slot_mdget.plain entry_mdget (slot_mdget.check _ _ _ _ _ _ _ _ hT5 (args_mdget _ _ _) ?_)
  unfold Builtin.«method_descriptor.__get__»
  repeat (any_goals (first | assumption | wp_step))

theorem ga_append {a : Addr} {xs : Array Value} {k : Nat} {u : Tok} {P : Fin → Shared → Prop} (hx : hp.get? a = some { cls := .type "list", data := .seq xs k })
    (h : P (.done (.ret (.ref hp.objs.size))) ⟨hp.push (bndO a), g, d, tk, os⟩) :
    wpAny (model prog w) A (Builtin.«object.__getattribute__» ⟨[.ref a, .str (Str.ofString "append") u], []⟩) P E ⟨hp, g, d, tk, os⟩ := by
  have hT : (⟨hp, g, d, tk, os⟩ : Shared).TypeIs (.ref a) "list" := ⟨_, hx, rfl⟩
  show wpAny _ _ (slotArgs "__getattribute__" 1 ⟨[.ref a, .str (Str.ofString "append") u], []⟩ >>= _) _ _ _
  refine wpAny_bind (wpAny_of_eq (a := (.ref a, [.str (Str.ofString "append") u])) rfl ?_)
  refine wpAny_bind (wpAny_of_eq (a := Str.ofString "append") rfl ?_)
  refine wpAny_bind (wpAny_typeOf hT ?_)
  refine wpAny_bind (find_append hx ?_)
  show wpAny _ _ (bindTo (.builtin "method_descriptor.__get__") (.builtin "list.append") (.ref a) (.type "list")) _ _ _
  show wpAny _ _ (holding [.builtin "list.append"] (call (.builtin "method_descriptor.__get__") [.builtin "list.append", .ref a, .type "list"]) >>= ret) _ _ _
  exact wpAny_bind (wpAny_holding (wpAny_call (mdget_append hx (wpAny_pure h))))

/-- xs.append, read as a value -/
theorem get_append {a : Addr} {xs : Array Value} {k : Nat} {ex : Bool} {Q : Value → Shared → Prop} (hx : hp.get? a = some { cls := .type "list", data := .seq xs k })
    (h : Q (.ref hp.objs.size) ⟨hp.push (bndO a), g, d, tk + 1, os⟩) : wpAny (model prog w) A (getAttr (.ref a) (Str.ofString "append") ex) Q E ⟨hp, g, d, tk, os⟩ := by
  have hT : ∀ tk', (⟨hp, g, d, tk', os⟩ : Shared).TypeIs (.ref a) "list" := fun _ => ⟨_, hx, rfl⟩
  unfold getAttr getAttrBy
  refine wpAny_bind (wpAny_mkText ?_)
  refine wpAny_holding (wpAny_bind (wpAny_typeOf (hT _) ?_))
  refine wpAny_bind (wpAny_of_eq F.slot_list_getattribute.lookup ?_)
  show wpAny _ _ (getAttrByItsOwn (.ref a) (.str (Str.ofString "append") tk) (.type "list") (.builtin "list.__getattribute__") true ex) _ _ _
  unfold getAttrByItsOwn
  refine wpAny_bind (wpAny_of_eq (a := none) rfl ?_)
  have hc : callGetattribute (.ref a) (.str (Str.ofString "append") tk) (.builtin "list.__getattribute__") ex = boundAndCalled (.builtin "list.__getattribute__") (.ref a) (.str (Str.ofString "append") tk) := by
    unfold callGetattribute
    cases ex <;> rfl
  rw [hc]
  refine wpAny_bind (wpAny_attempt (wpAny_holding ?_))
  unfold boundAndCalled
  refine wpAny_bind (wpAny_of_eq (F.slot_list_getattribute.bind (.ref a)) ?_)
  refine wpAny_call_entry F.slot_list_getattribute (hT _) am_entry_list_getattribute (ga_append hx ⟨_, rfl, ?_⟩) (F.args_list_getattribute_2 _ _)
  exact handed_on rfl h
end
-- FW8
theorem sig_append : Manifest.signature? "list.append" = some ⟨.oneArg, "list.append", "append", .self, [⟨"object", .posOnly, true⟩]⟩ := by
  rw [signature?_of (id := "list.append") (n := ['d', 'n', 'e', 'p', 'p', 'a']) (o := ['t', 's', 'i', 'l']) (by kernel_rfl) F.owner_list]; kernel_rfl
theorem kind_append : builtinKind "list.append" = some .method := by first | kernel_rfl | (rw [show builtinKind "list.append" = _ from rfl]; kernel_rfl)
theorem check_append (a c : Value) : Bind.checkArgs "list.append" ⟨.oneArg, "list.append", "append", .self, [⟨"object", .posOnly, true⟩]⟩ ⟨[a, c], []⟩ = pure () := by kernel_rfl
theorem var_append : (Manifest.varargsMethods.contains "list.append") = false := by decide +kernel
theorem full_append : (s!"{Bind.lastOf "list"}.{Bind.lastOf "list.append"}" : String) = "list.append" := by decide +kernel
theorem sub_lm : isSubtype (.type "list") (.type "module") = pure false := by rw [isSubtype_type]; kernel_rfl
theorem wpAny_isType_ref {M : Model} {A : Around} {E : Value → Shared → Prop} {s : Shared} {a : Addr} {ys : List Value} {n : Nat} {Q : Bool → Shared → Prop} (ho : s.heap.get? a = some (lstO ys n)) (h : Q false s) : wpAny M A (isType (.ref a)) Q E s :=
  wpAny_bind (wpAny_loadPart ho (wpAny_pure h))
section
variable {w : World} {A : Around} {E : Value → Shared → Prop} {b : Shared} {kp : Addr → Option Obj} {L : Addr} {s : Shared} {l : Loc} {led : Led} {env : Env}

theorem wp_check {a : Addr} {x : Value} {ys : List Value} {n : Nat} {Q : Unit → Shared → Prop} (ho : s.heap.get? a = some (lstO ys n)) (h : Q () s) : wpAny (model PR w) A (checkBoundCall "list.append" ⟨[.ref a, x], []⟩) Q E s := by
  have hT : s.TypeIs (.ref a) "list" := ⟨_, ho, rfl⟩
  unfold checkBoundCall
  rw [sig_append, kind_append]
  show wpAny _ _ (isInstance (.ref a) (.type "module") >>= _) _ _ _
  refine wpAny_bind (wpAny_isInstance hT sub_lm ?_)
  rw [var_append]
  show wpAny _ _ (isType (.ref a) >>= _) _ _ _
  refine wpAny_bind (m := isType (.ref a)) (wpAny_isType_ref ho ?_)
  refine wpAny_bind (wpAny_typeOf hT ?_)
  show wpAny _ _ (Bind.checkArgs "list.append" ⟨.oneArg, toString (Bind.lastOf "list") ++ toString "." ++ toString (Bind.lastOf "list.append"), "append", .self, [⟨"object", .posOnly, true⟩]⟩ ⟨[.ref a, x], []⟩) _ _ _
  rw [full_append, check_append]
  exact wpAny_pure h

theorem e_attr {x : Str} {p pos : Pos} {attr : Str} {Q : Value → Shared → Prop} (hg : ∀ o r, letTemporaryGo (.Name x p) o r = pure ())
    (h : wpAny (model PR w) A (eval (.Name x p) env) (fun o s₁ => wpAny (model PR w) A (getAttr o attr true) Q E s₁) E s) : wpAny (model PR w) A (eval (.Attribute (.Name x p) attr pos) env) Q E s := by
  rw [arm_eval_Attribute]
  exact wpAny_bind (wpAny_mono h (fun o s₁ h₁ => wpAny_bind (wpAny_standAt (wpAny_bind (wpAny_holding (wpAny_mono h₁ (fun r s₂ h₂ => wpAny_bind (wpAny_of_eq (hg o r) (wpAny_pure h₂))) fun _ _ e => e))))) fun _ _ e => e)
theorem l_append {a : Addr} {ys : List Value} {n : Nat} {ex : Bool} {Q : Value → Shared → Prop} (st : St w b kp L s l led) (hl : HasO led a (lstO ys n)) (h : ∀ u s', St w b kp L s' l ((u, bndO a) :: led) → Q (.ref u) s') :
    wpAny (model PR w) A (getAttr (.ref a) (Str.ofString "append") ex) Q E s := by
  have ho := st.own hl
  obtain ⟨hp, g, d, tk, os⟩ := s
  exact get_append ho (h _ _ (st.push _ _))
theorem e_cwBnd {pos : Pos} {u a : Addr} {e : Expr} {rest : List Expr} {Q : Value → Shared → Prop}
    (he : starEach (e :: rest) env = (false, eval e env) :: starEach rest env) (hp : (backTo pos (starEach rest env)).any (·.1) = false)
    (h : wpAny (model PR w) A (spliced (backTo pos (starEach (e :: rest) env))) (fun vs s₁ => s₁.heap.get? u = some (bndO a) ∧ wpAny (model PR w) A (call (.ref u) vs) Q E s₁) E s) :
    wpAny (model PR w) A (callWith pos (.ref u) [] (backTo pos (starEach (e :: rest) env)) []) Q E s := by
  rw [he] at h ⊢
  unfold callWith
  refine wpAny_bind (wpAny_holding (wpAny_mono (evalArgs_plain (Q := fun x s₁ => s₁.heap.get? u = some (bndO a) ∧ wpAny (model PR w) A (call (.ref u) x.pos x.kw) Q E s₁) h) (fun x s₁ h₁ => wpAny_bind (wpAny_standAt ?_)) fun _ _ e => e))
  have hpl : (backTo pos ((false, eval e env) :: starEach rest env)).any (·.1) = false := by show (false || (backTo pos (starEach rest env)).any (·.1)) = false; rw [hp]; rfl
  simp only [hpl, List.any_nil, Bool.or_false]
  refine wpAny_bind (m := keeperOf (.ref u)) ?_
  unfold keeperOf
  refine wpAny_bind (wpAny_load h₁.1 ?_)
  simp only [show (Value.type "builtin_function_or_method" != Value.type "method") = true by decide, show (Value.type "builtin_function_or_method" == Value.type "builtin_function_or_method" || Value.type "builtin_function_or_method" == Value.type "method-wrapper") = true by decide, if_true]
  refine wpAny_pure ?_
  exact wpAny_bind (wpAny_mono h₁.2 (fun r s₂ hr => wpAny_bind (wpAny_holding (wpAny_point (wpAny_pure hr)))) fun _ _ e => e)
theorem e_bnd {u : Addr} {o : Obj} {P : Prop} (st : St w b kp L s l led) (hu : HasO led u o) (h : P) : s.heap.get? u = some o ∧ P := ⟨st.own hu, h⟩
theorem upd_app {h : Heap} {a : Addr} {ys : List Value} {x : Value} {n : Nat} (ho : h.get? a = some (lstO ys n)) : ∃ n', (h.update a (Obj.mapSeq (·.push x))).get? a = some (lstO (ys ++ [x]) n') ∧ Heap.SameBut a h (h.update a (Obj.mapSeq (·.push x))) := by
  obtain ⟨n', hd⟩ := Obj.data_mapSeq (o := lstO ys n) (xs := ys.toArray) (n := n) rfl (·.push x)
  refine ⟨n', ?_, Heap.SameBut.update ..⟩
  rw [Heap.get?_update_self _ ho (Obj.isFreed_of_seq hd)]
  have e : ys.toArray.push x = (ys ++ [x]).toArray := by simp
  rw [e] at hd
  have h1 : (Obj.mapSeq (·.push x) (lstO ys n)).cls = .type "list" := Obj.cls_mapSeq ..
  have h2 : (Obj.mapSeq (·.push x) (lstO ys n)).dict = none := rfl
  have h3 : (Obj.mapSeq (·.push x) (lstO ys n)).slots = #[] := rfl
  generalize hO : Obj.mapSeq (·.push x) (lstO ys n) = O at hd h1 h2 h3 ⊢
  obtain ⟨c, d, dt, sl⟩ := O
  simp only at hd h1 h2 h3
  subst hd h1 h2 h3; rfl
/-- add(x), add = xs.append -/
theorem b_bnd {u a : Addr} {x : Value} {ys : List Value} {n : Nat} {led' : Nat → Led} {Q : Value → Shared → Prop} (st : St w b kp L s l led) (hu : HasO led u (bndO a)) (hz : ys.length ≤ 16777216) (h1 : ∀ k, Turn led a (lstO ys n) (lstO (ys ++ [x]) k) (led' k))
    (h : ∀ k s', St w b kp L s' l (led' k) → Q .none s') : wpAny (model PR w) A (call (.ref u) [x]) Q E s := by
  have ho := (st.ob _ (h1 0).mem).1
  refine wpAny_call (codeAny_of_tree ?_)
  show wpAny _ A.in1 (callAny (.ref u) ⟨[x], []⟩) _ _ s
  simp only [callAny]
  refine wpAny_bind (wpAny_load (st.own hu) ?_)
  simp only [show (Value.type "builtin_function_or_method" == Value.type "method" || Value.type "builtin_function_or_method" == Value.type "builtin_function_or_method" || Value.type "builtin_function_or_method" == Value.type "method-wrapper") = true by decide, if_true]
  refine KFB.if_so (by decide) ?_
  refine wpAny_bind (wp_check ho ?_)
  refine wpAny_bind (wpAny_pure (wpAny_pure ?_))
  refine ⟨Code.quiet_builtin _ (by decide +kernel), codeAny_builtin entry_list_append ?_⟩
  show wpAny _ _ (updateSeq a (·.push x) >>= fun _ => ret .none) _ _ s
  obtain ⟨n', e1, e2⟩ := upd_app (x := x) ho
  refine wpAny_bind ?_
  exact wpAny_updateSeq ho rfl (wpAny_pure (h n' _ (st.turn (h1 n') e2 e1 _))) (by rw [List.size_toArray, sizeLine_eq]; exact hz)
/-- xs.append(x) -/
theorem b_app {a : Addr} {x : Value} {ys : List Value} {n : Nat} {led' : Nat → Led} {Q : Value → Shared → Prop} (st : St w b kp L s l led) (hz : ys.length ≤ 16777216) (h1 : ∀ k, Turn led a (lstO ys n) (lstO (ys ++ [x]) k) (led' k))
    (h : ∀ k s', St w b kp L s' l (led' k) → Q .none s') : wpAny (model PR w) A (call (.builtin "list.append") [.ref a, x]) Q E s := by
  have ho := (st.ob _ (h1 0).mem).1
  refine wpAny_list_append_plain (items := ys.toArray) (hsz := by rw [List.size_toArray, sizeLine_eq]; exact hz) ⟨n, ho⟩ fun h' hl hs => ?_
  obtain ⟨k, hl⟩ := hl
  rw [show ys.toArray.push x = (ys ++ [x]).toArray by simp] at hl
  exact h k _ (st.turn (h1 k) hs hl _)
end
-- FW9
theorem lit_empty : Str.ofString "" = S [] := by decide +kernel
theorem lit_plus : Str.ofString "+" = S [43] := by decide +kernel
theorem lit_star : Str.ofString "*" = S [42] := by decide +kernel
theorem lit_mark : Str.ofString "?" = S [63] := by decide +kernel
theorem lit_brk : Str.ofString "[" = S [91] := by decide +kernel
theorem lit_dot : Str.ofString "." = S [46] := by decide +kernel
theorem lit_brkE : Str.ofString "\\[" = S [92, 91] := by decide +kernel
theorem lit_dstar : Str.ofString ".*" = S [46, 42] := by decide +kernel
theorem lit_tailZ : Str.ofString ")\\Z" = S [41, 92, 90] := by decide +kernel
theorem lit_headS : Str.ofString "(?s:" = S [40, 63, 115, 58] := by decide +kernel
theorem lit_grp : Str.ofString "(?>.*?" = S [40, 63, 62, 46, 42, 63] := by decide +kernel
theorem lit_close : Str.ofString ")" = S [41] := by decide +kernel
theorem lit_AP : Str.ofString "ABCDEFGHIJKLMNOP" = S [65, 66, 67, 68, 69, 70, 71, 72, 73, 74, 75, 76, 77, 78, 79, 80] := by decide +kernel
/-- values that are texts -/
inductive Strs : List Value → List (List Nat) → Prop
  | nil : Strs [] []
  | cons {vs : List Value} {ys : List (List Nat)} (y : List Nat) (t : Tok) : Strs vs ys → Strs (.str (S y) t :: vs) (y :: ys)
theorem Strs.snoc {vs : List Value} {ys : List (List Nat)} {y : List Nat} {t : Tok} (h : Strs vs ys) : Strs (vs ++ [.str (S y) t]) (ys ++ [y]) := by
  induction h with
  | nil => exact .cons y t .nil
  | cons a u _ ih => exact .cons a u ih
theorem Strs.are {vs : List Value} {ys : List (List Nat)} (h : Strs vs ys) : StrsAre vs (ys.map S) := by
  induction h with
  | nil => exact .nil
  | cons a u _ ih => exact .cons _ u ih
theorem Strs.len {vs : List Value} {ys : List (List Nat)} (h : Strs vs ys) : vs.length = ys.length := by
  induction h with
  | nil => rfl
  | cons a u _ ih => rw [List.length_cons, List.length_cons, ih]
theorem Strs.at {vs : List Value} {ys : List (List Nat)} (h : Strs vs ys) : ∀ {i : Nat} {y : List Nat}, ys[i]? = some y → ∃ t, vs[i]? = some (.str (S y) t) := by
  induction h with
  | nil => intro i y h; simp at h
  | cons z t _ ih =>
    intro i y h
    cases i with
    | zero => have : z = y := by simpa using h
              subst this; exact ⟨t, rfl⟩
    | succ i => exact ih (by simpa using h)
theorem join_flat (ys : List (List Nat)) : Txt.join (S []) (ys.map S) = S ys.flatten := by
  show Builtin.Str.glued (S []) (ys.map S) = _
  rw [StrLaws.glued_eq_join]
  induction ys with
  | nil => rfl
  | cons y r ih =>
    cases r with
    | nil => show S y = _; simp
    | cons z r =>
      show S y ++ S [] ++ Str.join (S []) ((z :: r).map S) = _
      rw [ih, S_app, S_app, List.append_nil]; rfl
theorem sum_len (ys : List (List Nat)) : ((ys.map S).map (·.length)).sum = ys.flatten.length := by
  induction ys with
  | nil => rfl
  | cons y r ih => rw [List.map_cons, List.map_cons, List.sum_cons, ih, List.flatten_cons, List.length_append, S_len]
section
variable {w : World} {A : Around} {E : Value → Shared → Prop} {b : Shared} {kp : Addr → Option Obj} {L : Addr} {s : Shared} {l : Loc} {led : Led} {env : Env}

theorem isl {h : Heap} {a : Addr} {xs : List Value} {n : Nat} (ho : h.get? a = some (lstO xs n)) : h.IsList a xs.toArray := ⟨_, ho, rfl, n, rfl⟩

theorem e_meth {o : Expr} {name : Str} {apos pos : Pos} {args : List Expr} {pl : Sem Bool} {Q : Value → Shared → Prop}
    (he : eval (.Call (.Attribute o name apos) args [] pos) env = (do
      let ov ← eval o env
      standAt apos.atName
      let (f, first) ← holding [ov] (getMethod ov name pl)
      callWith pos f first (backTo pos (starEach args env)) []))
    (h : wpAny (model PR w) A (eval o env) (fun ov s₁ => wpAny (model PR w) A (getMethod ov name pl) (fun fx s₂ => wpAny (model PR w) A (callWith pos fx.1 fx.2 (backTo pos (starEach args env)) []) Q E s₂) E s₁) E s) :
    wpAny (model PR w) A (eval (.Call (.Attribute o name apos) args [] pos) env) Q E s := MethodCall_ h he
theorem m_join {x : Str} {t : Tok} {pl : Sem Bool} {Q : Value × List Value → Shared → Prop} (h : Q (.builtin "str.join", [.str x t]) s) : wpAny (model PR w) A (getMethod (.str x t) "join" pl) Q E s := GM.join h
theorem m_translate {x : Str} {t : Tok} {pl : Sem Bool} {Q : Value × List Value → Shared → Prop} (h : Q (.builtin "str.translate", [.str x t]) s) : wpAny (model PR w) A (getMethod (.str x t) "translate" pl) Q E s := by
  with_reducible exact GM.of (.str x t) (typeIs_str _ _ _) F.slot_str_translate F.type_str_translate GM.noRef h
theorem m_append {a : Addr} {xs : List Value} {n : Nat} {pl : Sem Bool} {Q : Value × List Value → Shared → Prop} (ho : s.heap.get? a = some (lstO xs n)) (h : Q (.builtin "list.append", [.ref a]) s) : wpAny (model PR w) A (getMethod (.ref a) "append" pl) Q E s :=
  getMethod_builtin (T := "list") ⟨_, ho, rfl⟩ PySem.F.plainAttrs_list PySem.F.slot_list_append type_list_append (fun a e => by cases e; exact ⟨_, ho, rfl⟩) h
theorem e_cwM {pos : Pos} {id : String} {self : Value} {e : Expr} {rest : List Expr} {Q : Value → Shared → Prop}
    (he : starEach (e :: rest) env = (false, eval e env) :: starEach rest env) (hp : (backTo pos (starEach rest env)).any (·.1) = false)
    (h : wpAny (model PR w) A (spliced (backTo pos (starEach (e :: rest) env))) (fun vs s₁ => wpAny (model PR w) A (call (.builtin id) (self :: vs)) Q E s₁) E s) :
    wpAny (model PR w) A (callWith pos (.builtin id) [self] (backTo pos (starEach (e :: rest) env)) []) Q E s := callWith_method1 h he hp
theorem s_join {D : Addr} {vs : List Value} {ys : List (List Nat)} {t : Tok} {n : Nat} {Q : Value → Shared → Prop} (st : St w b kp L s l led) (ho : s.heap.get? D = some (lstO vs n)) (hv : Strs vs ys) (hz : ys.flatten.length ≤ 16777216)
    (h : ∀ t s', St w b kp L s' l led → Q (.str (S ys.flatten) t) s') : wpAny (model PR w) A (call (.builtin "str.join") [.str (S []) t, .ref D]) Q E s :=
  join_list (isl ho) (ys := ys.map S) (by simpa using hv.are) (by rw [sum_len, S_len]; simpa using hz) fun t' k => by rw [join_flat]; exact h _ _ (st.tk _)

theorem b_type {v : Value} {T : String} {Q : Value → Shared → Prop} (hT : s.TypeIs v T) (hb : (Value.type T == Value.type "builtin_function_or_method") = false) (h : Q (.type T) s) : wpAny (model PR w) A (call (.type "type") [v]) Q E s := call_type_of hT hb h
theorem b_type_bytes {y : Array UInt8} {t : Tok} {Q : Value → Shared → Prop} (h : Q (.type "bytes") s) : wpAny (model PR w) A (call (.type "type") [.bytes y t]) Q E s := call_type_of (typeIs_bytes _ _ _) (by decide) h
theorem b_type_str {y : Str} {t : Tok} {Q : Value → Shared → Prop} (h : Q (.type "str") s) : wpAny (model PR w) A (call (.type "type") [.str y t]) Q E s := call_type_of (typeIs_str _ _ _) (by decide) h
theorem i_isnt_ty {T : String} {Q : Value → Shared → Prop} (h : Q (.bool false) s) : wpAny (model PR w) A (compareOp .IsNot (.type T) (.type T)) Q E s := wpAny_isNot_self rfl h
theorem i_isnt_bool {x y : Bool} {Q : Value → Shared → Prop} (h : Q (.bool (!decide (x = y))) s) : wpAny (model PR w) A (compareOp .IsNot (.bool x) (.bool y)) Q E s :=
  wpAny_isNot_plain rfl (by rw [show ((Value.bool x == Value.bool y)) = decide (x = y) from by cases x <;> cases y <;> rfl]; exact h)
theorem b_chr {i : Int} {t : Tok} {Q : Value → Shared → Prop} (st : St w b kp L s l led) (h0 : 0 ≤ i) (h1 : i ≤ 1114111) (h : ∀ t s', St w b kp L s' l led → Q (.str (S [i.toNat]) t) s') : wpAny (model PR w) A (call (.builtin "chr") [.int i t]) Q E s :=
  chr_of_range h0 h1 (h _ _ (st.tk _))

-- lists
theorem l_get {value slice : Expr} {a : Addr} {xs : List Value} {i : Int} {t : Tok} {x : Value} {Q : Value → Shared → Prop} (hl : s.heap.IsList a xs.toArray) (h0 : 0 ≤ i) (h1 : i < 2 ^ 63) (hx : xs[i.toNat]? = some x)
    (hs : subscripted slice false (.ref a) (.int i t) = operate [.ref a, .int i t] (getItem (.ref a) (.int i t))) (h : Q x s) : wpAny (model PR w) A (subscriptTail value slice (.ref a) (.int i t)) Q E s :=
  PyProof.Rows.tail_any (T := "list") hl.typeIs F.slot_list_getitem.lookup (wpAny_getItem_list hl h0 h1 (by simpa using hx) h) hs
theorem l_getneg {value slice : Expr} {a : Addr} {xs : List Value} {i : Int} {t : Tok} {x : Value} {Q : Value → Shared → Prop} (hl : s.heap.IsList a xs.toArray) (h0 : i < 0) (h1 : -(xs.length : Int) ≤ i) (h2 : -(2 ^ 63) ≤ i) (hx : xs[(i + xs.length).toNat]? = some x)
    (hs : subscripted slice false (.ref a) (.int i t) = operate [.ref a, .int i t] (getItem (.ref a) (.int i t))) (h : Q x s) : wpAny (model PR w) A (subscriptTail value slice (.ref a) (.int i t)) Q E s :=
  PyProof.Rows.tail_any (T := "list") hl.typeIs F.slot_list_getitem.lookup (wpAny_getItem_list_neg hl h0 (by simpa using h1) h2 (by simpa using hx) h) hs
theorem l_len {a : Addr} {xs : List Value} {Q : Value → Shared → Prop} (st : St w b kp L s l led) (hl : s.heap.IsList a xs.toArray) (hz : xs.length ≤ 16777216) (h : ∀ t s', St w b kp L s' l led → Q (.int (xs.length : Int) t) s') : wpAny (model PR w) A (call (.builtin "len") [.ref a]) Q E s :=
  call_len_list hl (by simp; omega) (by rw [List.size_toArray]; exact h _ _ (st.tk _))
theorem l_truthy {a : Addr} {xs : List Value} {Q : Bool → Shared → Prop} (st : St w b kp L s l led) (hl : s.heap.IsList a xs.toArray) (hz : xs.length ≤ 16777216) (h : ∀ s', St w b kp L s' l led → Q (!decide (xs = [])) s') : wpAny (model PR w) A (truthy (.ref a)) Q E s :=
  wpAny_truthy_list hl (by simp; omega) (by
    rw [show (!xs.toArray.isEmpty) = !decide (xs = []) from by cases xs <;> simp]; exact h _ (st.tk _))
def IsL (o : Obj) (xs : List Value) : Prop := o.cls = .type "list" ∧ ∃ n, o.data = .seq xs.toArray n
theorem IsL.at {h : Heap} {a : Addr} {o : Obj} {xs : List Value} (i : IsL o xs) (ho : h.get? a = some o) : h.IsList a xs.toArray := ⟨o, ho, i.1, i.2⟩
theorem l_set {a : Addr} {o : Obj} {xs : List Value} {i : Int} {t : Tok} {v : Value} {led' : Obj → Led} {Q : Unit → Shared → Prop} (st : St w b kp L s l led) (io : IsL o xs) (h0 : 0 ≤ i) (h1 : i < 2 ^ 63) (hn : i < xs.length)
    (ht : ∀ o', Turn led a o o' (led' o')) (h : ∀ o' s', IsL o' (xs.set i.toNat v) → St w b kp L s' l (led' o') → Q () s') : wpAny (model PR w) A (setItem (.ref a) (.int i t) v) Q E s := by
  have ho := (st.ob _ (ht o).mem).1
  refine wpAny_setItem_list (io.at ho) h0 h1 (by simpa using hn) fun h' hl hs => ?_
  obtain ⟨o', e1, e2, k, e3⟩ := hl
  rw [show xs.toArray.setIfInBounds i.toNat v = (xs.set i.toNat v).toArray by simp] at e3
  exact h o' _ ⟨e2, k, e3⟩ (st.turn (ht o') hs e1 _)
theorem a_name {x : Str} {pos : Pos} {v : Value} {Q : Unit → Shared → Prop} (h : wpAny (model PR w) A (storeName env x v) Q E s) : wpAny (model PR w) A (assign (.Name x pos) env v) Q E s := PyProof.Rows.assign_Name h
theorem i_tests0 {Q : Bool → Shared → Prop} (h : Q true s) : wpAny (model PR w) A (forIn ([] : List Expr) true fun c r => if r = true then do let ok ← PySem.isTrue c env (eval c env); pure (ForInStep.yield ok) else pure (ForInStep.yield r)) Q E s := wpAny_tests_nil h
theorem i_tests1 {c : Expr} {Q : Bool → Shared → Prop} (h : wpAny (model PR w) A (PySem.isTrue c env (eval c env)) Q E s) : wpAny (model PR w) A (forIn [c] true fun c r => if r = true then do let ok ← PySem.isTrue c env (eval c env); pure (ForInStep.yield ok) else pure (ForInStep.yield r)) Q E s := wpAny_tests_one h
/-- a, b = x, y -/
def Unp2 (w : World) (A : Around) (env : Env) (E : Value → Shared → Prop) (x y : Str) (Q : Flow → Shared → Prop) (v : Value) (s : Shared) : Prop :=
  wpAny (model PR w) A (unpackItems v 2 none) (fun items s₂ => wpAny (model PR w) A (assignInOrder [bindName env y, bindName env x] items.reverse) (fun _ => Q .next) E s₂) E s
theorem x_swap2 {x y : Str} {elts : List Expr} {k : Nat} {tpos : Pos} {value : Expr} {pos : Pos} {Q : Flow → Shared → Prop} (hs : swapsWithSole [.Tuple elts k tpos] value pos.line env = pure false) (hw : swappedStores [.Tuple elts k tpos] value env = pure (some [x, y]))
    (h : wpAny (model PR w) A (eval value env) (Unp2 w A env E x y Q) E s) : wpAny (model PR w) A (exec (.Assign [.Tuple elts k tpos] value pos) env) Q E s :=
  Assign_Tuple_swapped (names := [x, y]) (wpAny_mono h (fun v s₁ q => by unfold Unp2 at q; exact q) fun _ _ e => e) hs hw
theorem unp2_t {x y : Str} {T : Addr} {v₁ v₂ : Value} {n : Nat} {Q : Flow → Shared → Prop} (st : St w b kp L s l ((T, tupO [v₁, v₂] n) :: led)) (hh : A.handled = none)
    (h : ∀ s', St w b kp L s' l led → wpAny (model PR w) A (storeName env y v₂) (fun _ s₁ => wpAny (model PR w) A (storeName env x v₁) (fun _ => Q .next) E s₁) E s') : Unp2 w A env E x y Q (.ref T) s := by
  have ho := (st.ob _ (.head _)).1
  refine PyProof.Rows.unpackItems_tuple (items := #[v₁, v₂]) hh ⟨_, ho, rfl, n, rfl⟩ fun h' hk => ?_
  have st' : St w b kp L { s with heap := h' } l led := (st.hp (h' := h') s.toks fun a o e => hk a o (Nat.ne_of_lt (Heap.lt_size e)) e).less (List.sublist_cons_self _ _)
  show wpAny _ _ (assignInOrder [bindName env y, bindName env x] [v₂, v₁]) _ _ _
  refine wpAny_bind (wpAny_holding (wpAny_bindName (wpAny_mono (h _ st') (fun _ s₁ h₁ => ?_) fun _ _ e => e)))
  exact wpAny_bind (wpAny_holding (wpAny_bindName (wpAny_mono h₁ (fun _ s₂ h₂ => wpAny_pure h₂) fun _ _ e => e)))
theorem e_cwBndS {pos : Pos} {u a : Addr} {e : Expr} {rest : List Expr} {Q : Value → Shared → Prop} (st : St w b kp L s l led) (hm : HasO led u (bndO a))
    (he : starEach (e :: rest) env = (false, eval e env) :: starEach rest env) (hp : (backTo pos (starEach rest env)).any (·.1) = false)
    (h : wpAny (model PR w) A (spliced (backTo pos (starEach (e :: rest) env))) (fun vs s₁ => s₁.heap.get? u = some (bndO a) ∧ wpAny (model PR w) A (call (.ref u) vs) Q E s₁) E s) :
    wpAny (model PR w) A (callWith pos (.ref u) [] (backTo pos (starEach (e :: rest) env)) []) Q E s := e_cwBnd he hp h
theorem is_rs {a : Addr} {x : Str} {t : Tok} {Q : Value → Shared → Prop} (h : Q (.bool true) s) : wpAny (model PR w) A (compareOp .IsNot (.str x t) (.ref a)) Q E s := wpAny_isNot_other (by rfl) (by intro e; cases e) h
theorem is_rr {a : Addr} {Q : Value → Shared → Prop} (h : Q (.bool false) s) : wpAny (model PR w) A (compareOp .IsNot (.ref a) (.ref a)) Q E s := wpAny_isNot_ref_self h
theorem is_sr {a : Addr} {x : Str} {t : Tok} {Q : Value → Shared → Prop} (h : Q (.bool false) s) : wpAny (model PR w) A (compareOp .Is (.str x t) (.ref a)) Q E s := wpAny_is_other (by rfl) (by intro e; cases e) h
theorem is_tr {a : Addr} {Q : Value → Shared → Prop} (h : Q (.bool true) s) : wpAny (model PR w) A (compareOp .Is (.ref a) (.ref a)) Q E s := wpAny_is_ref_self h
/-- an if, its ends cut at M -/
theorem x_ifcut {test : Expr} {body orelse : List Stmt} {pos : Pos} {K : Shared → Prop} {Q : Flow → Shared → Prop} (M : Shared → Prop)
    (h : wpAny (model PR w) A (PySem.isTrue test env (eval test env)) (fun c s₂ => Br c (wpAny (model PR w) A (execs body env) (Then M Q) E s₂) (wpAny (model PR w) A (execs orelse env) (Then M Q) E s₂)) E s) (k : ∀ s', M s' → K s') :
    wpAny (model PR w) A (exec (.If test body orelse pos) env) (Then K Q) E s :=
  wpAny_mono (x_if h) (fun f s' q => by cases f <;> first | exact k _ q | exact q) fun _ _ e => e
/-- a list or tuple is made of the items -/
def MadeQ (mk : List Value → Obj) (Q : Value → Shared → Prop) (vs : List Value) (s : Shared) : Prop := vs.length ≤ sizeLine ∧ Q (.ref s.heap.objs.size) { s with heap := s.heap.push (mk vs) }
theorem e_list {elts : List Expr} {pos : Pos} {Q : Value → Shared → Prop} (h : wpAny (model PR w) A (spliced (backTo pos (starEach elts env))) (MadeQ (fun vs => lstO vs 0) Q) E s) :
    wpAny (model PR w) A (eval (.List elts pos) env) Q E s := wpAny_List_spliced h
theorem e_tup {elts : List Expr} {k : Nat} {pos : Pos} {Q : Value → Shared → Prop} (h : wpAny (model PR w) A (spliced (backTo pos (starEach elts env))) (MadeQ (fun vs => tupO vs 0) Q) E s) :
    wpAny (model PR w) A (eval (.Tuple elts k pos) env) Q E s := wpAny_Tuple_spliced h
theorem made_l {vs : List Value} {Q : Value → Shared → Prop} (hz : vs.length ≤ 16777216) (st : St w b kp L s l led) (h : ∀ a s', St w b kp L s' l ((a, lstO vs 0) :: led) → Q (.ref a) s') : MadeQ (fun vs => lstO vs 0) Q vs s := ⟨by rw [sizeLine_eq]; exact hz, h _ _ (st.push _ _)⟩
theorem made_t {vs : List Value} {Q : Value → Shared → Prop} (hz : vs.length ≤ 16777216) (st : St w b kp L s l led) (h : ∀ a s', St w b kp L s' l ((a, tupO vs 0) :: led) → Q (.ref a) s') : MadeQ (fun vs => tupO vs 0) Q vs s := ⟨by rw [sizeLine_eq]; exact hz, h _ _ (st.push _ _)⟩
theorem s_notin2 {y₁ y₂ x : List Nat} {t t₁ t₂ : Tok} {T : Addr} {Q : Value → Shared → Prop} (st : St w b kp L s l ((T, tupO [.str (S y₁) t₁, .str (S y₂) t₂] 0) :: led)) (h : ∀ s', St w b kp L s' l led → Q (.bool (!(decide (x = y₁) || decide (x = y₂)))) s') :
    wpAny (model PR w) A (compareOp .NotIn (.str (S x) t) (.ref T)) Q E s :=
  notin_tuple_strs (ys := [S y₁, S y₂]) ⟨_, (st.ob _ (.head _)).1, rfl, 0, rfl⟩ (.cons _ _ (.cons _ _ .nil)) (by
    have e : ∀ a c : List Nat, (S a == S c) = decide (c = a) := fun a c => by
      by_cases e : c = a
      · subst e; simp
      · have : S a ≠ S c := fun q => e (S_inj.mp q).symm
        simp [e, this]
    have := h s (st.less (List.sublist_cons_self _ _))
    rw [show ([S y₁, S y₂].any (· == S x)) = ((S y₁ == S x) || ((S y₂ == S x) || false)) from rfl, e, e, Bool.or_false]; exact this)
theorem l_slice {value slice : Expr} {a sl : Addr} {xs : List Value} {ops : List Value} {vl vu vs : Value} {lo hi stp : Option Int} {Q : Value → Shared → Prop} (st : St w b kp L s l ((sl, slcO vl vu vs) :: led)) (hl : s.heap.IsList a xs.toArray) (hz : xs.length ≤ 16777216)
    (pl : IsPart vl lo) (pu : IsPart vu hi) (ps : IsPart vs stp) (h0 : stp ≠ some 0) (hs : subscripted slice false (.ref a) (.ref sl) = operate ops (getItem (.ref a) (.ref sl)))
    (h : ∀ D s', St w b kp L s' l ((D, lstO (slicePick xs.toArray lo hi stp).toList 0) :: led) → Q (.ref D) s') : wpAny (model PR w) A (subscriptTail value slice (.ref a) (.ref sl)) Q E s :=
  PyProof.Rows.tail_any (T := "list") hl.typeIs F.slot_list_getitem.lookup (wpAny_getItem_list_slice hl ⟨_, (st.ob _ (.head _)).1, rfl, rfl⟩ pl pu ps h0 (h _ _ ((st.less (List.sublist_cons_self _ _)).push _ _)) (by rw [sizeLine_eq]; simpa using hz)) hs

-- more of ints
theorem i_ne {x y : Int} {t u : Tok} {Q : Value → Shared → Prop} (h : Q (.bool (!decide (x = y))) s) : wpAny (model PR w) A (compareOp .NotEq (.int x t) (.int y u)) Q E s := PySem.P.ne_int (by rw [show (x != y) = !decide (x = y) from by by_cases e : x = y <;> simp [e]]; exact h)
theorem i_gt {x y : Int} {t u : Tok} {Q : Value → Shared → Prop} (h : Q (.bool (decide (y < x))) s) : wpAny (model PR w) A (compareOp .Gt (.int x t) (.int y u)) Q E s := PySem.P.gt_int h
theorem i_ge {x y : Int} {t u : Tok} {Q : Value → Shared → Prop} (h : Q (.bool (decide (y ≤ x))) s) : wpAny (model PR w) A (compareOp .GtE (.int x t) (.int y u)) Q E s := PySem.P.ge_int h
theorem i_neg {x : Int} {t : Tok} {Q : Value → Shared → Prop} (st : St w b kp L s l led) (h : ∀ t s', St w b kp L s' l led → Q (.int (-x) t) s') : wpAny (model PR w) A (unaryOp .USub (.int x t)) Q E s := PySem.P.neg_int (h _ _ (st.tk _))
theorem i_mul {x y : Int} {t u : Tok} {Q : Value → Shared → Prop} (st : St w b kp L s l led) (hm : IntMulOk x y) (h : ∀ t s', St w b kp L s' l led → Q (.int (x * y) t) s') : wpAny (model PR w) A (binaryOp .Mult (.int x t) (.int y u)) Q E s := PySem.P.mul_int (h _ _ (st.tk _)) hm
theorem i_pow {x y : Int} {t u : Tok} {Q : Value → Shared → Prop} (st : St w b kp L s l led) (hn : 0 ≤ y) (hn2 : y ≤ 1000000) (ha : x.natAbs < 2 ^ 64) (h : ∀ t s', St w b kp L s' l led → Q (.int (x ^ y.toNat) t) s') : wpAny (model PR w) A (binaryOp .Pow (.int x t) (.int y u)) Q E s := pow_int_small hn hn2 ha (h _ _ (st.tk _))
theorem i_iadd {x y : Int} {t u : Tok} {Q : Value → Shared → Prop} (st : St w b kp L s l led) (h : ∀ t s', St w b kp L s' l led → Q (.int (x + y) t) s') : wpAny (model PR w) A (inplaceOp .Add (.int x t) (.int y u)) Q E s := wpAny_iadd_int (h _ _ (st.tk _))
theorem x_aug {x : Str} {pos' pos : Pos} {op : Operator} {value : Expr} {Q : Flow → Shared → Prop}
    (h : wpAny (model PR w) A (loadName env x) (fun old s₁ => wpAny (model PR w) A (eval value env) (fun v s₂ => wpAny (model PR w) A (inplaceOp op old v) (fun r s₃ => wpAny (model PR w) A (storeName env x r) (fun _ => Q .next) E s₃) E s₂) E s₁) E s) :
    wpAny (model PR w) A (exec (.AugAssign (.Name x pos') op value pos) env) Q E s := wpAny_AugAssign_Name h
theorem x_expr {e : Expr} {pos : Pos} {Q : Flow → Shared → Prop} (hi : interactive env = false) (hs : swapsWith e none pos.line env = pure false) (h : wpAny (model PR w) A (eval e env) (fun _ => Q .next) E s) : wpAny (model PR w) A (exec (.Expr e pos) env) Q E s := wpAny_Expr_any h hi hs
theorem x_setitem {o i : Expr} {pos' pos : Pos} {value : Expr} {Q : Flow → Shared → Prop} (hs : swapsWith value (some (.Subscript o i pos')) pos.line env = pure false)
    (h : wpAny (model PR w) A (eval value env) (fun v s₁ => wpAny (model PR w) A (eval o env) (fun ov s₂ => wpAny (model PR w) A (eval i env) (fun iv s₃ => wpAny (model PR w) A (setItem ov iv v) (fun _ => Q .next) E s₃) E s₂) E s₁) E s) :
    wpAny (model PR w) A (exec (.Assign [.Subscript o i pos'] value pos) env) Q E s := wpAny_Assign_Subscript h hs
theorem e_and2 {x y : Expr} {pos : Pos} {Q : Value → Shared → Prop} (h : wpAny (model PR w) A (eval x env) (fun v s₁ => wpAny (model PR w) A (truthy v) (fun t s₂ => Br t (wpAny (model PR w) A (eval y env) Q E s₂) (Q v s₂)) E s₁) E s) :
    wpAny (model PR w) A (eval (.BoolOp .And [x, y] pos) env) Q E s := wpAny_And2 (wpAny_mono h (fun v s₁ h₁ => wpAny_mono h₁ (fun t s₂ q => Br_ite q) fun _ _ e => e) fun _ _ e => e)
theorem t_chain {l₁ r₁ r₂ : Expr} {op₁ op₂ : CmpOp} {pos : Pos} {whole : Sem Value} {Q : Bool → Shared → Prop} (hm : lastMarks [op₁, op₂] [r₁, r₂] = false)
    (h : wpAny (model PR w) A (eval l₁ env) (fun a s₁ => wpAny (model PR w) A (eval r₁ env) (fun c s₂ => wpAny (model PR w) A (compareOp op₁ a c) (fun z s₃ => wpAny (model PR w) A (truthy z) (fun q s₄ =>
      Br q (wpAny (model PR w) A (eval r₂ env) (fun d s₅ => wpAny (model PR w) A (compareOp op₂ c d) (fun z s₆ => wpAny (model PR w) A (truthy z) Q E s₆) E s₅) E s₄) (Q false s₄)) E s₃) E s₂) E s₁) E s) :
    wpAny (model PR w) A (PySem.isTrue (.Compare l₁ [op₁, op₂] [r₁, r₂] pos) env whole) Q E s :=
  isTrue_chain (wpAny_mono h (fun a s₁ h₁ => test_link (wpAny_mono h₁ (fun c s₂ h₂ => wpAny_mono h₂ (fun z s₃ h₃ => wpAny_mono h₃ (fun q s₄ h₄ => by
    cases q with
    | false => exact h₄.2 rfl
    | true => exact test_last (h₄.1 rfl)) fun _ _ e => e) fun _ _ e => e) fun _ _ e => e)) fun _ _ e => e) hm
end
-- FWT
theorem sub_key : isSubtype (.type "KeyError") (.type "LookupError") = pure true := by rw [isSubtype_type]; kernel_rfl
noncomputable def tab52 (w : World) : Array DictEntry := match (KF w).lookup 52 with
  | some o => (match o.data with | .dict es _ => es | _ => #[])
  | none => #[]
theorem look52 (w : World) : (KF w).lookup 52 = some ⟨.type "dict", none, .dict (tab52 w) 24, #[]⟩ := by kernel_rfl
def keys52 : List Int := [40, 41, 91, 93, 123, 125, 63, 42, 43, 45, 124, 94, 36, 92, 46, 38, 126, 35, 32, 9, 10, 13, 11, 12]
theorem keysAre (w : World) : IntsAre ((tab52 w).toList.map (·.key)) keys52 := by
  show IntsAre [_, _, _, _, _, _, _, _, _, _, _, _, _, _, _, _, _, _, _, _, _, _, _, _] _
  repeat first | exact .nil | apply IntsAre.cons
theorem hash52 (w : World) : (tab52 w).toList.map (·.hash) = keys52 := by kernel_rfl
theorem keys_of : ∀ (es : List DictEntry) (ks : List Int), IntsAre (es.map (·.key)) ks → es.map (·.hash) = ks.map hashInt → ∀ e ∈ es, ∃ k, Value.isInt k e.key = true ∧ e.hash = hashInt k
  | [], _, _, _, e, he => by cases he
  | e :: es, ks, hi, hh, e', he => by
    generalize hv : (e :: es).map (·.key) = vs at hi
    cases hi with
    | nil => simp at hv
    | @cons n t vs ns hi =>
      rw [List.map_cons] at hv hh
      obtain ⟨h1, h2⟩ := List.cons.inj hv
      obtain ⟨h3, h4⟩ := List.cons.inj hh
      rcases List.mem_cons.mp he with rfl | he
      · exact ⟨n, by rw [h1]; simp [Value.isInt], h3⟩
      · exact keys_of es ns (h2 ▸ hi) h4 e' he
theorem find_no : ∀ (es : List DictEntry) (ks : List Int) (k : Int), IntsAre (es.map (·.key)) ks → k ∉ ks → es.find? (fun e => Value.isInt k e.key) = none
  | [], _, _, _, _ => rfl
  | e :: es, ks, k, hi, hn => by
    generalize hv : (e :: es).map (·.key) = vs at hi
    cases hi with
    | nil => simp at hv
    | @cons n t vs ns hi =>
      rw [List.map_cons] at hv
      obtain ⟨h1, h2⟩ := List.cons.inj hv
      rw [List.mem_cons, not_or] at hn
      rw [List.find?_cons, h1]
      have : Value.isInt k (.int n t) = false := by show (n == k) = false; exact beq_eq_false_iff_ne.mpr fun q => hn.1 q.symm
      rw [this]
      exact find_no es ns k (h2 ▸ hi) hn.2
theorem map52 {w : World} {h : Heap} (c : Cx w h) {k : Int} (hk : 65 ≤ k) (hk2 : k ≤ 80) : ∃ f, h.MapOf (intKind PR w) 52 f ∧ f k = none := by
  refine ⟨fun k => findBy (intKind PR w).is (tab52 w) k, ⟨_, tab52 w, 24, c.K _ _ (look52 w), ⟨rfl, rfl, rfl⟩, rfl, ?_, fun _ => rfl⟩, ?_⟩
  · intro e he
    exact keys_of _ keys52 (keysAre w) ((hash52 w).trans (by decide +kernel)) e (by simpa using he)
  · show ((tab52 w).find? fun e => Value.isInt k e.key).map (·.val) = none
    have : (tab52 w).find? (fun e => Value.isInt k e.key) = none := by
      rw [← Array.find?_toList]
      exact find_no _ keys52 k (keysAre w) (by
        intro hm
        have : ∀ x ∈ keys52, x < 65 ∨ 80 < x := by decide +kernel
        have := this k hm; omega)
    rw [this]; rfl
section
variable {w : World} {A : Around} {E : Value → Shared → Prop} {b : Shared} {kp : Addr → Option Obj} {L : Addr} {s : Shared} {l : Loc} {led : Led} {env : Env}
theorem table_keep {c : Nat} {Q : Builtin.Str.Mapped → Shared → Prop} (st : St w b kp L s l led) (hh : A.handled = none) (h1 : 65 ≤ c) (h2 : c ≤ 80) (h : ∀ s', St w b kp L s' l led → Q .keep s') :
    wpAny (model PR w) A (Builtin.Str.tableLookup (.ref 52) c) Q E s := by
  unfold Builtin.Str.tableLookup
  refine wpAny_bind (wpAny_attempt ?_)
  refine wpAny_bind (wpAny_mkInt ?_)
  have st₁ := st.tk (s.toks + 1)
  obtain ⟨f, hm, hf⟩ := map52 (k := (c : Int)) st₁.cx' (by omega) (by omega)
  refine wpAny_getItem_missing_of (knd := intKind PR w) (k := (c : Int)) (intKind_is ..) (by decide) hh hm hf fun h' e x => ?_
  obtain ⟨ob, t, he, hc, _⟩ := x.there
  refine wpAny_bind (wpAny_isInstance (T := "KeyError") ⟨ob, he, hc⟩ sub_key ?_)
  exact wpAny_bind (wpAny_rule (wpAny_pure (h _ (st₁.hp (h' := h') _ x.keeps))))
theorem b_translate {c : Nat} {t : Tok} {Q : Value → Shared → Prop} (st : St w b kp L s l led) (hh : A.handled = none) (h1 : 65 ≤ c) (h2 : c ≤ 80) (h : ∀ t s', St w b kp L s' l led → Q (.str (S [c]) t) s') :
    wpAny (model PR w) A (call (.builtin "str.translate") [.str (S [c]) t, .ref 52]) Q E s := by
  refine wpAny_call_entry F.slot_str_translate (typeIs_str _ _ _) F.entry_str_translate ?_ (F.args_str_translate_2 _ _)
  unfold Builtin.«str.translate»
  refine wpAny_bind (wpAny_of_eq (a := (.str (S [c]) t, S [c], .ref 52)) rfl ?_)
  have hall : ((S [c]).cps.all fun x => decide (x < 128)) = true := by simp; omega
  refine wpAny_bind ?_
  rw [hall]
  show wpAny _ _ (forIn ([c].toArray) _ _) _ _ _
  rw [List.forIn_toArray, List.forIn_cons]
  refine wpAny_bind ?_
  show wpAny _ _ (Builtin.Str.tableLookup (.ref 52) c >>= _) _ _ _
  refine wpAny_bind (table_keep st hh h1 h2 fun s' st' => ?_)
  refine wpAny_pure ?_
  show wpAny _ _ (forIn [] _ _) _ _ _
  refine wpAny_pure ?_
  show wpAny _ _ (retStr (S [c])) _ _ _
  refine wpAny_bind (wpAny_mkStr (wpAny_pure ⟨_, rfl, h _ _ (st'.tk _)⟩) ?_)
  rw [S_len, sizeLine_eq, List.length_singleton]; decide
end
-- FWO
abbrev objO : Obj := { cls := .type "object", data := .plain }
theorem mro_object : mroOf (.type "object") = pure [.type "object"] := by rw [mroOf_type]; kernel_rfl
theorem lookup_object_new : typeLookup (.type "object") "__new__" = pure (some (.builtin "object.__new__")) := by rw [typeLookup_type, builtinLookup_eq_fast]; kernel_rfl
theorem made_object : Bind.madeBy (.type "object") = pure (some "object.__new__") := madeBy_type mro_object lookup_object_new (by decide +kernel)
theorem called_object : TypeCalled "object" "object.__new__" "object.__init__" :=
  ⟨by decide +kernel, by decide +kernel, ⟨_, _, mro_object⟩, made_object, by decide +kernel, by rw [isSubtype_type]; kernel_rfl, F.slot_object_init⟩
theorem typeCall_object : checkTypeCall "object" ⟨[], []⟩ = pure () := by kernel_rfl
theorem newCall_object : checkBuiltinCall "object.__new__" ⟨[.type "object"], []⟩ = pure () := by kernel_rfl
theorem here_object : Bind.madeHere "object.__new__" (.type "object") = pure () := by
  unfold Bind.madeHere
  rw [show Bind.staticBase (.type "object") = pure (.type "object") from by kernel_rfl]
  show (Bind.madeBy (.type "object") >>= _) = _
  rw [made_object]
  kernel_rfl
theorem meets_object : Meets (Builtin.«object.__new__» ⟨[.type "object"], []⟩) (fun A R s => R (.ok (.ret (.ref s.heap.objs.size))) { s with heap := s.heap.push objO }) := by
  refine Meets.of_wp fun prog w A R s hs => ?_
  unfold Builtin.«object.__new__»
  refine wpAny_bind (m := isType (.type "object")) (wpAny_pure (a := true) ?_)
  show wpAny _ _ (if ((Manifest.find? "object").elim false (·.mro.any fun t => (Manifest.find? t).elim false (·.noNew))) = true then _ else _) _ _ _
  rw [if_neg (by decide +kernel)]
  show wpAny _ _ (Bind.madeHere "object.__new__" (.type "object") >>= _) _ _ _
  rw [here_object]
  refine wpAny_bind (wpAny_pure ?_)
  dsimp only
  rw [if_neg (by decide), show typeHasDict (.type "object") = false from by decide +kernel, if_neg (by decide)]
  refine wpAny_bind (wpAny_pure ?_)
  refine wpAny_bind (wpAny_newObj_type ?_)
  rw [if_neg (by decide +kernel)]
  exact wpAny_pure ⟨_, rfl, hs⟩
section
variable {w : World} {A : Around} {E : Value → Shared → Prop} {b : Shared} {kp : Addr → Option Obj} {L : Addr} {s : Shared} {l : Loc} {led : Led} {env : Env}
theorem b_object {Q : Value → Shared → Prop} (st : St w b kp L s l led) (h : ∀ a s', St w b kp L s' l ((a, objO) :: led) → Q (.ref a) s') : wpAny (model PR w) A (call (.type "object") []) Q E s := by
  refine callType_meets (Q₁ := fun obj s₁ => ∃ a, obj = .ref a ∧ St w b kp L s₁ l ((a, objO) :: led)) called_object typeCall_object newCall_object F.entry_object_new F.entry_object_init meets_object ⟨_, rfl, st.push _ _⟩ ?_
  rintro obj s₁ ⟨a, rfl, st₁⟩
  refine ⟨⟨_, (st₁.ob _ (.head _)).1, rfl⟩, F.args_object_init_1 _, fun A R s => R (.ok (.ret .none)) s, Meets.of_wp fun prog w A R s hs => wpAny_pure ⟨_, rfl, hs⟩, rfl, h _ _ st₁⟩
end
-- FWJ
section
variable {w : World} {A : Around} {E : Value → Shared → Prop} {b : Shared} {kp : Addr → Option Obj} {L : Addr} {s : Shared} {l : Loc} {led : Led} {env : Env}
/-- a statement, its end cut at M -/
theorem x_cut {st : Stmt} {K : Shared → Prop} {Q : Flow → Shared → Prop} (M : Shared → Prop) (h : wpAny (model PR w) A (exec st env) (Then M Q) E s) (k : ∀ s', M s' → K s') : wpAny (model PR w) A (exec st env) (Then K Q) E s :=
  wpAny_mono h (fun f s' q => by cases f <;> first | exact k _ q | exact q) fun _ _ e => e
theorem s_slcE {value slice : Expr} {x y : List Nat} (lo hi : Option (Int × Tok)) {t : Tok} {a : Addr} {Q : Value → Shared → Prop} (st : St w b kp L s l ((a, slcO (partValue lo) (partValue hi) .none) :: led)) (hz : x.length ≤ 16777216)
    (hy : clip x.length (lo.map (·.1)) (hi.map (·.1)) x = y) (hs : subscripted slice false (.str (S x) t) (.ref a) = operate [.ref a, .str (S x) t] (getItem (.str (S x) t) (.ref a)))
    (h : ∀ t s', St w b kp L s' l led → Q (.str (S y) t) s') : wpAny (model PR w) A (subscriptTail value slice (.str (S x) t) (.ref a)) Q E s := by
  subst hy; exact s_slice st hz hs h
/-- a test whose answer is known -/
theorem t_cutb {e : Expr} {whole : Sem Value} {Q : Bool → Shared → Prop} (c₀ : Bool) (M : Shared → Prop) (h : wpAny (model PR w) A (PySem.isTrue e env whole) (fun c s' => c = c₀ ∧ M s') E s) (k : ∀ s', M s' → Q c₀ s') :
    wpAny (model PR w) A (PySem.isTrue e env whole) Q E s := wpAny_mono h (fun c s' q => by rw [q.1]; exact k s' q.2) fun _ _ e => e
def FmtQ (w : World) (a c : List Nat) (Q : Value → Shared → Prop) (v : Value) (s : Shared) : Prop :=
  ∃ y t, v = .str (S y) t ∧ a.length + y.length + c.length ≤ 16777216 ∧ ∃ b kp L l led, St w b kp L s l led ∧ ∀ t s', St w b kp L s' l led → Q (.str (S (a ++ y ++ c)) t) s'
theorem fmt_q {a c y : List Nat} {t : Tok} {Q : Value → Shared → Prop} (st : St w b kp L s l led) (hz : a.length + y.length + c.length ≤ 16777216) (h : ∀ t s', St w b kp L s' l led → Q (.str (S (a ++ y ++ c)) t) s') : FmtQ w a c Q (.str (S y) t) s :=
  ⟨y, t, rfl, hz, b, kp, L, l, led, st, h⟩
theorem e_fmt {x z : Str} {a c : List Nat} {k k' : Nat} {p p' q pos : Pos} {value : Expr} {Q : Value → Shared → Prop} (st : St w b kp L s l led) (hx : x = S a) (hz : z = S c) (ha : a.length ≤ 1000)
    (h : ∀ s', St w b kp L s' l led → wpAny (model PR w) A (eval value env) (FmtQ w a c Q) E s') :
    wpAny (model PR w) A (eval (.JoinedStr [.Constant (.str x) k p, .FormattedValue value (-1) none q, .Constant (.str z) k' p'] pos) env) Q E s := by
  subst hx hz
  have lenS : ∀ y : List Nat, (Str.empty ++ S y) = S y := fun y => S_app [] y
  refine wpAny_JoinedStr ?_
  show wpAny _ _ _ _ _ _
  refine c_str st fun t s₁ st₁ => ?_
  refine ⟨S a, t, rfl, ?_, ?_⟩
  · rw [lenS, S_len, sizeLine_eq]; omega
  · show wpAny _ _ (eval (.FormattedValue value (-1) none q) env) _ _ _
    refine wpAny_FormattedValue_plain (wpAny_mono (h _ st₁) (fun v s₂ h₂ => ?_) fun _ _ e => e)
    obtain ⟨y, t', rfl, hl, b', kp', L', l', led', st₂, hq⟩ := h₂
    have fin : ∀ t'' s₃, St w b' kp' L' s₃ l' led' → (∃ y' t, Value.str (S y) t'' = .str y' t ∧ (Str.empty ++ S a ++ y').length ≤ sizeLine ∧ Joins (model PR w) A E (evalEach [.Constant (.str (S c)) k' p'] env) (Str.empty ++ S a ++ y') (fun out s₁ => out.length ≤ sizeLine ∧ Q (.str out s₁.toks) { s₁ with toks := s₁.toks + 1 }) s₃) := by
      intro t'' s₃ st₃
      refine ⟨S y, t'', rfl, ?_, ?_⟩
      · rw [lenS, S_app, S_len, sizeLine_eq, List.length_append]; omega
      · show wpAny _ _ _ _ _ _
        refine c_str st₃ fun t s₄ st₄ => ?_
        refine ⟨S c, t, rfl, ?_, ?_⟩
        · rw [lenS, S_app, S_app, S_len, sizeLine_eq, List.length_append, List.length_append]; omega
        · refine ⟨?_, ?_⟩
          · rw [lenS, S_app, S_app, S_len, sizeLine_eq, List.length_append, List.length_append]; omega
          · rw [lenS, S_app, S_app]; exact hq _ _ (st₄.tk _)
    exact wpAny_formatField_str (fin _ _ st₂) (fin _ _ (st₂.tk _)) (by rw [S_len, sizeLine_eq]; omega)
end
-- FWS
theorem upd_set {h : Heap} {a : Addr} {ys : List Value} {v : Value} {j n : Nat} (ho : h.get? a = some (lstO ys n)) : ∃ n', (h.update a (Obj.mapSeq (·.setIfInBounds j v))).get? a = some (lstO (ys.set j v) n') ∧ Heap.SameBut a h (h.update a (Obj.mapSeq (·.setIfInBounds j v))) := by
  obtain ⟨n', hd⟩ := Obj.data_mapSeq (o := lstO ys n) (xs := ys.toArray) (n := n) rfl (·.setIfInBounds j v)
  refine ⟨n', ?_, Heap.SameBut.update ..⟩
  rw [Heap.get?_update_self _ ho (Obj.isFreed_of_seq hd)]
  have e : ys.toArray.setIfInBounds j v = (ys.set j v).toArray := by simp
  rw [e] at hd
  have h1 : (Obj.mapSeq (·.setIfInBounds j v) (lstO ys n)).cls = .type "list" := Obj.cls_mapSeq ..
  have h2 : (Obj.mapSeq (·.setIfInBounds j v) (lstO ys n)).dict = none := rfl
  have h3 : (Obj.mapSeq (·.setIfInBounds j v) (lstO ys n)).slots = #[] := rfl
  generalize hO : Obj.mapSeq (·.setIfInBounds j v) (lstO ys n) = O at hd h1 h2 h3 ⊢
  obtain ⟨c, d, dt, sl⟩ := O
  simp only at hd h1 h2 h3
  subst hd h1 h2 h3; rfl
section
variable {w : World} {A : Around} {E : Value → Shared → Prop} {b : Shared} {kp : Addr → Option Obj} {L : Addr} {s : Shared} {l : Loc} {led : Led} {env : Env}
theorem l_put {a : Addr} {xs : List Value} {k : Int} {n : Nat} {t : Tok} {v : Value} {led' : Nat → Led} {Q : Unit → Shared → Prop} (st : St w b kp L s l led) (h0 : 0 ≤ k) (hfit : k < 2 ^ 63) (hn : k < xs.length)
    (ht : ∀ k', Turn led a (lstO xs n) (lstO (xs.set k.toNat v) k') (led' k')) (h : ∀ k s', St w b kp L s' l (led' k) → Q () s') : wpAny (model PR w) A (setItem (.ref a) (.int k t) v) Q E s := by
  have ho := (st.ob _ (ht 0).mem).1
  obtain ⟨n', e1, e2⟩ := upd_set (v := v) (j := k.toNat) ho
  exact ki_setAt ho h0 hfit (by simpa using hn) (h n' _ (st.turn (ht n') e2 e1 s.toks))
theorem l_putlast {a : Addr} {xs : List Value} {n : Nat} {t : Tok} {v y : Value} {led' : Nat → Led} {Q : Unit → Shared → Prop} (st : St w b kp L s l led) (hz : xs.length ≤ 16777216)
    (ht : ∀ k, Turn led a (lstO (xs ++ [y]) n) (lstO (xs ++ [v]) k) (led' k)) (h : ∀ k s', St w b kp L s' l (led' k) → Q () s') : wpAny (model PR w) A (setItem (.ref a) (.int (-1) t) v) Q E s := by
  have ho := (st.ob _ (ht 0).mem).1
  have es : (xs ++ [y]).set xs.length v = xs ++ [v] := by simp
  have ej : ((-1 : Int) + ((xs ++ [y]).toArray.size : Int)).toNat = xs.length := by simp; omega
  obtain ⟨n', e1, e2⟩ := upd_set (v := v) (j := xs.length) ho
  rw [es] at e1
  refine ki_setBack ho (by decide) (by simp; omega) (by decide) ?_
  rw [ej]
  exact h n' _ (st.turn (ht n') e2 e1 s.toks)
end
-- FWC
abbrev cO (o : Obj) (v : Option Value) : Obj := { o with data := .cell v }
/-- the cells of a call, on the ledger -/
inductive CellsLed (cm : Str → Option Value) : List (Str × Addr) → Led → Prop
  | nil : CellsLed cm [] []
  | cons {cs : List (Str × Addr)} {led : Led} (n : Str) (c : Addr) (o : Obj) : CellsLed cm cs led → CellsLed cm ((n, c) :: cs) ((c, cO o (cm n)) :: led)
theorem CellsLed.adr {cm : Str → Option Value} {cs : List (Str × Addr)} {led : Led} (h : CellsLed cm cs led) : led.map (·.1) = cs.map (·.2) := by
  induction h with
  | nil => rfl
  | cons n c o _ ih => simp [ih]
theorem CellsLed.mk {cm : Str → Option Value} {h : Heap} : ∀ {cs : List (Str × Addr)}, (∀ n c, (n, c) ∈ cs → h.IsCell c (cm n)) → ∃ led, CellsLed cm cs led ∧ ∀ p ∈ led, h.get? p.1 = some p.2
  | [], _ => ⟨[], .nil, fun p hp => by cases hp⟩
  | (n, c) :: cs, hx => by
    obtain ⟨led, h1, h2⟩ := CellsLed.mk (cs := cs) fun n' c' hm => hx n' c' (.tail _ hm)
    obtain ⟨o, ho, hd⟩ := hx n c (.head _)
    have e : o = cO o (cm n) := by obtain ⟨a, b, d, e⟩ := o; simp only at hd; subst hd; rfl
    refine ⟨_, .cons n c o h1, fun p hp => ?_⟩
    rcases List.mem_cons.mp hp with rfl | hp
    · rw [← e]; exact ho
    · exact h2 p hp
section
variable {w : World} {A : Around} {E : Value → Shared → Prop} {b : Shared} {kp : Addr → Option Obj} {L : Addr} {s : Shared} {l : Loc} {led : Led} {env : Env}
theorem n_cellS {x : Str} {pos : Pos} {c : Addr} {o : Obj} {v : Value} {Q : Value → Shared → Prop} (hc : env.cells.lookup x = some c) (st : St w b kp L s l led) (hm : HasO led c (cO o (some v))) (hk : env.scope.kind = .function) (hl : env.kindOf x = some .cell)
    (hd : (x == ("__debug__" : Str)) = false) (h : Q v s) : wpAny (model PR w) A (eval (.Name x pos) env) Q E s :=
  wpAny_Name (wpAny_loadName_cell hk hl hc ⟨_, st.own hm, rfl⟩ h) hd
theorem n_cellK {x : Str} {pos : Pos} {c : Addr} {o : Obj} {v : Value} {Q : Value → Shared → Prop} (hc : env.cells.lookup x = some c) (st : St w b kp L s l led) (hm : kp c = some (cO o (some v))) (hk : env.scope.kind = .function) (hl : env.kindOf x = some .cell)
    (hd : (x == ("__debug__" : Str)) = false) (h : Q v s) : wpAny (model PR w) A (eval (.Name x pos) env) Q E s :=
  wpAny_Name (wpAny_loadName_cell hk hl hc ⟨_, st.keep _ _ hm, rfl⟩ h) hd
theorem n_cst {x : Str} {c : Addr} {o : Obj} {v₀ : Option Value} {v : Value} {led' : Led} {Q : Unit → Shared → Prop} (hc : env.cells.lookup x = some c) (st : St w b kp L s l led) (ht : Turn led c (cO o v₀) (cO o (some v)) led') (hk : env.scope.kind = .function) (hl : env.kindOf x = some .cell)
    (h : ∀ s', St w b kp L s' l led' → Q () s') : wpAny (model PR w) A (storeName env x v) Q E s := by
  have ho : s.heap.get? c = some (cO o v₀) := (st.ob _ ht.mem).1
  unfold storeName
  simp only [hl, hk]
  refine wpAny_bind (wpAny_cellOf hc ?_)
  unfold cellSet
  refine wpAny_bind (wpAny_load ho ?_)
  refine wpAny_update ho (h _ (st.turn ht (Heap.SameBut.update ..) ?_ _))
  exact Heap.get?_update_self (o := cO o v₀) _ ho rfl
end
theorem look_mem : ∀ {cs : List (Str × Addr)} {n : Str} {c : Addr}, (cs.map (·.1)).Nodup → (n, c) ∈ cs → cs.lookup n = some c
  | (m, d) :: cs, n, c, hn, hm => by
    rcases List.mem_cons.mp hm with e | hm
    · cases e; simp
    · have : n ≠ m := fun e => (List.nodup_cons.mp hn).1 (List.mem_map.mpr ⟨(n, c), hm, e⟩)
      rw [List.lookup_cons, beq_eq_false_iff_ne.mpr this]
      exact look_mem (List.nodup_cons.mp hn).2 hm
def envK (name : Str) (scope : Scope) (L a : Addr) (cd : Value) (cs : List (Str × Addr)) : Env :=
  { scope := scope, locals := L, globals := mainGlobals, cells := cs, qual := name ++ ".<locals>.", func := some a, code := cd, frame := some L, builtins := builtinsNs }
/-- a def with cells is entered -/
theorem enterC {w : World} {A : Around} {s : Shared} {Q : Value → Shared → Prop} {name qual : Str} {params : Arguments} {body : List Stmt} {scope : Scope} {dV kV doc pm cdv ct oc : Value} {an od : Option Addr} {osl : Array (Option Value)} {f : Addr} {vs : List Value} {binds : List (Str × Value)} {k : Nat}
    (cm : Str → Option Value) (cs : Addr → List (Str × Addr)) (hcs : ∀ L, cellsFrom (L + 1) scope.names [] = cs L) (hcn : ∀ L, ((cs L).map (·.1)).Nodup) (ls : Loc) (hnd : (ls.map (·.1)).Nodup) (rm : Rm A (k + 1)) (cx : Cx w s.heap)
    (ho : (KF w).lookup f = some ⟨oc, od, .func (fnOf name qual params body scope dV kV doc pm an cdv ct), osl⟩) (hcd : codeIn (KF w) cdv qual = true)
    (hbind : bindArgs (fnOf name qual params body scope dV kV doc pm an cdv ct) ⟨vs, []⟩ = pure binds)
    (hkind : ∀ x ∈ binds, scope.names.lookup x.1 = some .local ∨ (scope.names.lookup x.1 = some .cell ∧ ((cellsFrom (s.heap.objs.size + 1) scope.names []).lookup x.1).isSome = true))
    (hls : ∀ L, ∀ p ∈ ls, ∀ v, p.2 = some v → bindL (callEnvC (fnOf name qual params body scope dV kV doc pm an cdv ct) L f).kindOf binds (fun _ => none) p.1 = some v)
    (hcm : ∀ L, bindC (callEnvC (fnOf name qual params body scope dV kV doc pm an cdv ct) L f).kindOf binds (fun _ => none) = cm)
    (hco : scope.isCoroutine = false) (hgen : scope.isGenerator = false) (hk : scope.kind = .function)
    (h : ∀ s₁ L led A', Rm A' k → s.heap.get? L = none → CellsLed cm (cs L) led → St w s s.heap.get? L s₁ ls led →
      wpAny (model PR w) A' (execs body (envK qual scope L f cdv (cs L))) (RetQ Q) NoE s₁) :
    wpAny (model PR w) A (call (.ref f) vs) Q NoE s := by
  refine wpAny_call (codeAny_call_cells (fd := fnOf name qual params body scope dV kV doc pm an cdv ct) (by have := rm.depth; omega) (cx.K _ _ ho) rfl cx.nolimit (codeRec_of cx.K hcd) rfl hbind rfl hkind (fun s₁ X => ?_) hco hgen hk)
  have hcell : ∀ n c, (n, c) ∈ cellsFrom (s.heap.objs.size + 1) scope.names [] → s₁.heap.IsCell c (bindC (callEnvC (fnOf name qual params body scope dV kV doc pm an cdv ct) s.heap.objs.size f).kindOf binds (fun _ => none) n) := by
    intro n c hm
    exact X.cell n c (look_mem (by show ((cellsFrom (s.heap.objs.size + 1) scope.names []).map (·.1)).Nodup; rw [hcs]; exact hcn _) hm)
  obtain ⟨led, h1, h2⟩ := CellsLed.mk hcell
  obtain ⟨hp, tk, hse, hkeep⟩ := X.done
  subst hse
  have above : ∀ p ∈ led, s.heap.objs.size < p.1 := fun p hp => by
    have : p.1 ∈ (cellsFrom (s.heap.objs.size + 1) scope.names []).map (·.2) := h1.adr ▸ List.mem_map_of_mem hp
    obtain ⟨q, hq, e⟩ := List.mem_map.mp this
    have := X.above q.1 q.2 hq
    rw [← e]; exact this
  have he : callEnvC (fnOf name qual params body scope dV kV doc pm an cdv ct) s.heap.objs.size f = envK qual scope s.heap.objs.size f cdv (cs s.heap.objs.size) := by rw [← hcs]; rfl
  rw [he]
  have h1' := h1
  rw [hcm, hcs] at h1'
  refine wpAny_mono (h _ s.heap.objs.size led _ (rm.deeper _) (get_size _) h1' { gens := rfl, drawn := rfl, os := rfl, cx := cx, kb := fun _ _ e => e, keep := hkeep, ns := ⟨_, X.toInCall.ns, hls _⟩, nl := hnd, ob := fun p hp => ⟨h2 p hp, Nat.ne_of_gt (above p hp), Heap.get?_none_of_le (Nat.le_of_lt (above p hp))⟩, nd := ?_ }) (fun _ _ q => q) fun _ _ e => e.elim
  rw [h1.adr]
  have := X.apart
  exact List.pairwise_map.mpr this
-- FWL
inductive Nats : List Value → List Nat → Prop
  | nil : Nats [] []
  | cons {vs : List Value} {ns : List Nat} (n : Nat) (t : Tok) : Nats vs ns → Nats (.int (n : Int) t :: vs) (n :: ns)
theorem Nats.app {vs us : List Value} {ns ms : List Nat} (h : Nats vs ns) (h2 : Nats us ms) : Nats (vs ++ us) (ns ++ ms) := by
  induction h with
  | nil => exact h2
  | cons n t _ ih => exact .cons n t ih
theorem Nats.len {vs : List Value} {ns : List Nat} (h : Nats vs ns) : vs.length = ns.length := by
  induction h with
  | nil => rfl
  | cons n t _ ih => simp [ih]
theorem Nats.are {vs : List Value} {ns : List Nat} (h : Nats vs ns) : IntsAre vs (ns.map fun n : Nat => (n : Int)) := by
  induction h with
  | nil => exact .nil
  | cons n t _ ih => exact .cons _ t ih
theorem Nats.at {vs : List Value} {ns : List Nat} (h : Nats vs ns) : ∀ {i n : Nat}, ns[i]? = some n → ∃ t, vs[i]? = some (.int (n : Int) t) := by
  induction h with
  | nil => intro i n h; simp at h
  | cons m t _ ih =>
    intro i n h
    cases i with
    | zero => have : m = n := by simpa using h
              subst this; exact ⟨t, rfl⟩
    | succ i => exact ih (by simpa using h)
theorem Nats.of_items : ∀ {vs : List Value} {a : Nat}, (∀ j v, vs[j]? = some v → ∃ t, v = Value.int ((a + j : Nat) : Int) t) → Nats vs (List.range' a vs.length)
  | [], _, _ => .nil
  | v :: vs, a, h => by
    obtain ⟨t, rfl⟩ := h 0 v rfl
    rw [List.length_cons, List.range'_succ]
    exact .cons a t (Nats.of_items fun j v hj => by
      obtain ⟨t, e⟩ := h (j + 1) v (by simpa using hj)
      exact ⟨t, by rw [e, show a + (j + 1) = a + 1 + j by omega]⟩)
section
variable {w : World} {A : Around} {E : Value → Shared → Prop} {b : Shared} {kp : Addr → Option Obj} {L : Addr} {s : Shared} {l : Loc} {led : Led} {env : Env}
theorem src_tuple {ax : Addr} {items : List Value} {Q : Value → Shared → Prop} (st : St w b kp L s l led) (hh : A.handled = none) (hl : s.heap.IsTuple ax items.toArray) (hL : ax ≠ L) (ho : ∀ p ∈ led, p.1 ≠ ax) (hnr : ∀ (i : Nat) (T : Addr), items[i]? ≠ some (Value.ref T))
    (h : ∀ it s', St w b kp L s' l led → After s s' → Src w A L led items.length (fun i v => items[i]? = some v) s it s' → Q it s') : wpAny (model PR w) A (pyIter (.ref ax)) Q NoE s := by
  obtain ⟨o, hax, _⟩ := id hl
  have hne : ax ≠ s.heap.objs.size := Nat.ne_of_lt (Heap.lt_size hax)
  have fr := get_size s.heap
  have W := Walks.tuple (prog := PR) (w := w) hh s.heap.objs.size ax hne items.toArray
  simp only [List.size_toArray, List.getElem?_toArray] at W
  refine wpAny_pyIter_tuple hl (h _ _ (st.push0 _ _) ⟨rfl, rfl, rfl, fun _ _ e => Heap.get?_push_of_some _ e⟩ ⟨_, _, _, _, rfl, W, ⟨⟨_, Heap.get?_push_size _ rfl, rfl, rfl⟩, hl.push _⟩, ?_, ?_, ?_, ?_, ?_⟩)
  · intro a ha; rw [List.mem_singleton.mp ha]; exact fr
  · intro a ha
    rcases List.mem_cons.mp ha with rfl | ha
    · exact st.frL fr
    · rw [List.mem_singleton.mp ha]; exact hL
  · intro p hp hm
    rcases List.mem_cons.mp hm with e | hm
    · have := (st.ob p hp).1; rw [e, fr] at this; cases this
    · exact ho p hp (List.mem_singleton.mp hm)
  · rintro i h' ⟨⟨o, h1, _⟩, ⟨o', h2, _⟩⟩ a ha
    rcases List.mem_cons.mp ha with rfl | ha
    · exact ⟨o, h1⟩
    · rw [List.mem_singleton.mp ha]; exact ⟨o', h2⟩
  · rintro target i v s Q' (⟨x, p, rfl⟩ | ⟨e, k, p, T, rfl, rfl⟩) hs hv hq
    · exact go_name hq
    · exact absurd hv (hnr i T)
abbrev rngO2 (a n : Int) (t₁ t₂ t₃ : Tok) : Obj := { cls := .type "range", data := .fields #[.int a t₁, .int n t₂, .int 1 t₃] }
theorem b_range2 {a n : Int} {u t : Tok} {Q : Value → Shared → Prop} (st : St w b kp L s l led) (h : ∀ r t₂ s', St w b kp L s' l ((r, rngO2 a n u t t₂) :: led) → Q (.ref r) s') : wpAny (model PR w) A (call (.type "range") [.int a u, .int n t]) Q NoE s :=
  call_range_2 (h _ _ _ (st.push _ _))
theorem b_list_range {r : Addr} {a b' : Nat} {t₁ t₂ t₃ : Tok} {Q : Value → Shared → Prop} (st : St w b kp L s l ((r, rngO2 (a : Int) (b' : Int) t₁ t₂ t₃) :: led)) (hh : A.handled = none) (hb : b' ≤ 1000000) (hab : a ≤ b')
    (h : ∀ D vs k s', Nats vs (List.range' a (b' - a)) → St w b kp L s' l ((D, lstO vs k) :: led) → Q (.ref D) s') : wpAny (model PR w) A (call (.type "list") [.ref r]) Q NoE s := by
  have hr : IsRange s.heap r (a : Int) (b' : Int) 1 t₁ t₂ t₃ := (st.ob _ (.head _)).1
  have fr := get_size s.heap
  refine call_list_range (n := b' - a) hh hr (small_one (by omega) (by omega) (by omega) (by omega)) (by rw [rangeSize_one]; split <;> omega) (by omega) fun h' tk acc' c' hk hD hi => ?_
  have st' : St w b kp L s l led := st.less (List.sublist_cons_self _ _)
  have := st'.new (s' := { s with heap := h', toks := tk }) ⟨rfl, rfl, rfl, hk⟩ fr hD
  refine h _ acc'.toList c' _ ?_ (by simpa using this)
  have hl : acc'.toList.length = b' - a := by simpa using hi.1
  have := Nats.of_items (vs := acc'.toList) (a := a) (fun j v hv => by
    obtain ⟨t, e⟩ := hi.2 j v (by simpa using hv)
    exact ⟨t, by rw [e]; congr 1; omega⟩)
  rw [hl] at this; exact this
theorem l_ne_nil {a e : Addr} {vs : List Value} {ns : List Nat} {k k' : Nat} {Q : Value → Shared → Prop} (hu : A.units + 64 < cLine) (ha : s.heap.get? a = some (lstO vs k)) (hn : Nats vs ns) (he : s.heap.get? e = some (lstO [] k')) (h : Q (.bool (!decide (ns = []))) s) :
    wpAny (model PR w) A (compareOp .NotEq (.ref a) (.ref e)) Q NoE s :=
  ke_ne_ints (isl ha) (isl he) hn.are .nil hu (by
    rw [show decide (ns.map (fun n : Nat => (n : Int)) = []) = decide (ns = []) from by simp]; exact h)
theorem l_in {a : Addr} {vs : List Value} {ns : List Nat} {n : Nat} {t : Tok} {Q : Value → Shared → Prop} (ha : s.heap.IsList a vs.toArray) (hn : Nats vs ns) (h : Q (.bool (ns.any (· == n))) s) :
    wpAny (model PR w) A (compareOp .In (.int (n : Int) t) (.ref a)) Q NoE s :=
  in_list_ints ha hn.are (by
    have e : ((ns.map fun n : Nat => (n : Int)).any (· == (n : Int))) = ns.any (· == n) := by
      rw [List.any_map]
      congr 1
      funext x
      show ((x : Int) == (n : Int)) = (x == n)
      rw [Bool.eq_iff_iff, beq_iff_eq, beq_iff_eq]; omega
    rw [e]; exact h)
end
end Mine
open Mine
local macro_rules | `(tactic| walk_at "M") => `(tactic| with_reducible (repeat (first | exact Has1.head | exact HasO.head | apply Has1.tail | apply HasO.tail)))
local macro_rules | `(tactic| walk_at "SET") => `(tactic| with_reducible (repeat (first | exact Set1.head | apply Set1.tail)))
local macro_rules | `(tactic| walk_at "TURN") => `(tactic| with_reducible (repeat (first | exact Turn.head | apply Turn.tail)))
local macro_rules | `(tactic| walk_at "A") => `(tactic| with_reducible assumption)
local macro_rules | `(tactic| walk_at "R") => `(tactic| exact rfl)
local macro_rules | `(tactic| walk_at "LIT") => `(tactic| with_reducible first | exact lit_empty | exact lit_plus | exact lit_star | exact lit_mark | exact lit_brk | exact lit_dot | exact lit_brkE | exact lit_dstar | exact lit_tailZ | exact lit_headS | exact lit_grp | exact lit_close | exact lit_AP)
-- one step of the walk: statements, names, written values, expressions, tests
local macro_rules | `(tactic| walk_at "S") => `(tactic| first
  | with_reducible refine x_cons ?_
  | with_reducible refine x_nil ?_
  | with_reducible refine Then_next ?_
  | with_reducible refine Then_ret ?_
  | with_reducible refine Then_brk ?_
  | with_reducible refine LoopQ_next ?_
  | with_reducible refine LoopQ_ret ?_
  | with_reducible refine LoopQ_brk ?_
  | with_reducible refine RetQ_ret ?_
  | ((with_reducible refine' n_local ?a ?b ?c ?d ?e ?f ?_); (case a => walk_at "A"); (case b => walk_at "M"); (case c => walk_at "R"); (case d => walk_at "R"); (case e => walk_at "R"); (case f => walk_at "R"))
  | ((with_reducible refine' n_store ?a ?b ?c ?d ?e ?f ?_); (case a => walk_at "A"); (case b => walk_at "A"); (case c => walk_at "SET"); (case d => walk_at "R"); (case e => walk_at "R"); (case f => walk_at "R"); walk_at "I")
  | ((with_reducible refine' c_int ?a ?_); (case a => walk_at "A"); intro _; walk_at "I")
  | ((with_reducible refine' c_lit ?a ?b ?_); (case a => walk_at "A"); (case b => walk_at "LIT"); intro _; walk_at "I")
  | ((with_reducible refine' c_bytes ?a ?_); (case a => walk_at "A"); intro _; walk_at "I")
  | with_reducible refine c_bool ?_
  | with_reducible refine e_bin ?_
  | with_reducible refine e_un ?_
  | with_reducible refine e_sub ?_
  | with_reducible refine e_slc ?_
  | with_reducible refine e_pnone ?_
  | with_reducible refine e_psome ?_
  | ((with_reducible refine' SlcQ_intro ?a ?_); (case a => walk_at "A"); intro _; walk_at "I")
  | with_reducible refine e_call ?_
  | ((with_reducible refine' e_args ?a ?_); (case a => walk_at "R"))
  | with_reducible refine e_args0 ?_
  | ((with_reducible refine' e_cwB ?a ?b ?_); (case a => walk_at "R"); (case b => walk_at "R"))
  | ((with_reducible refine' e_cwT ?a ?b ?_); (case a => walk_at "R"); (case b => walk_at "R"))
  | ((with_reducible refine' e_cwBndS ?x ?m ?a ?b ?_); (case x => walk_at "A"); (case m => walk_at "M"); (case a => walk_at "R"); (case b => walk_at "R"))
  | ((with_reducible refine' e_cwF ?k ?a ?b ?_); (case k => kernel_rfl); (case a => walk_at "R"); (case b => walk_at "R"))
  | ((with_reducible refine' e_cx ?a ?_); (case a => walk_at "A"))
  | ((with_reducible refine' x_assign ?a ?_); (case a => walk_at "R"))
  | ((with_reducible refine' x_tuple ?a ?b ?_); (case a => walk_at "R"); (case b => walk_at "R"))
  | with_reducible refine x_ret ?_
  | with_reducible refine x_brk ?_
  | with_reducible refine t_not ?_
  | ((with_reducible refine' t_cmp ?a ?_); (case a => walk_at "R"))
  | with_reducible refine t_op ?_
  | with_reducible refine t_and0 ?_
  | with_reducible refine t_or0 ?_
  | with_reducible refine t_and ?_
  | with_reducible refine t_or ?_
  | with_reducible refine t_bool ?_
  | ((with_reducible refine' e_cmp ?a ?_); (case a => walk_at "R"))
  | ((with_reducible refine' i_add ?a ?_); (case a => walk_at "A"); intro _; walk_at "I")
  | ((with_reducible refine' i_sub ?a ?_); (case a => walk_at "A"); intro _; walk_at "I")
  | with_reducible refine i_eq ?_
  | with_reducible refine i_lt ?_
  | with_reducible refine i_le ?_
  | with_reducible refine i_truthy ?_
  | with_reducible refine b_int ?_
  | ((with_reducible refine' b_abs ?a ?_); (case a => walk_at "A"); intro _; walk_at "I")
  | ((with_reducible refine' n_global ?a ?b ?c ?d ?e ?f ?_); (case a => walk_at "A"); (case b => walk_at "G"); (case c => walk_at "R"); (case d => walk_at "R"); (case e => walk_at "R"); (case f => walk_at "R"))
  | ((with_reducible refine' n_builtin ?a ?b ?b2 ?n ?c ?d ?e ?g ?f ?_); (case a => walk_at "A"); (case b => walk_at "G"); (case b2 => walk_at "GB"); (case n => decide); (case c => walk_at "R"); (case d => walk_at "R"); (case e => walk_at "R"); (case g => walk_at "R"); (case f => walk_at "R"))
  | ((with_reducible refine' t_val ?a ?_); (case a => walk_at "R"))
  | with_reducible refine e_tup ?_
  | with_reducible refine e_list ?_
  | ((with_reducible refine' made_l ?p ?a ?_); (case p => simp only [List.length_cons, List.length_nil]; decide); (case a => walk_at "A"); intro _; walk_at "I")
  | ((with_reducible refine' made_t ?p ?a ?_); (case p => simp only [List.length_cons, List.length_nil]; decide); (case a => walk_at "A"); intro _; walk_at "I")
  | ((with_reducible refine' s_notin2 ?a ?_); (case a => walk_at "A"); walk_at "I")
  | ((with_reducible refine' e_comp ?a ?b ?c ?d ?_); (case a => walk_at "R"); (case b => walk_at "R"); (case c => decide); (case d => intro _; walk_at "R"))
  | ((with_reducible refine' x_for ?a ?_); (case a => intro _; walk_at "R"))
  | with_reducible refine x_aug ?_
  | ((with_reducible refine' x_expr ?a ?b ?_); (case a => walk_at "R"); (case b => walk_at "R"))
  | ((with_reducible refine' x_setitem ?a ?_); (case a => walk_at "R"))
  | with_reducible refine x_assert ?_
  | ((with_reducible refine' e_meth ?a ?_); (case a => walk_at "R"))
  | with_reducible refine m_join ?_
  | with_reducible refine m_translate ?_
  | ((with_reducible refine' e_cwM ?a ?b ?_); (case a => walk_at "R"); (case b => walk_at "R"))
  | with_reducible refine b_type_bytes ?_
  | with_reducible refine b_type_str ?_
  | with_reducible refine i_isnt_ty ?_
  | with_reducible refine i_isnt_bool ?_
  | with_reducible refine i_ne ?_
  | with_reducible refine i_gt ?_
  | with_reducible refine i_ge ?_
  | ((with_reducible refine' i_neg ?a ?_); (case a => walk_at "A"); intro _; walk_at "I")
  | ((with_reducible refine' i_iadd ?a ?_); (case a => walk_at "A"); intro _; walk_at "I")
  | with_reducible refine e_and2 ?_
  | ((with_reducible refine' t_chain ?a ?_); (case a => walk_at "R"))
  | with_reducible refine s_eq ?_
  | with_reducible refine s_ne ?_
  | with_reducible refine Then_cont ?_
  | with_reducible refine LoopQ_cont ?_
  | ((with_reducible refine' n_localN ?a ?b ?c ?d ?e ?_); (case a => walk_at "A"); (case b => walk_at "M"); (case c => walk_at "R"); (case d => walk_at "R"); (case e => walk_at "R"))
  | with_reducible refine a_name ?_
  | with_reducible refine i_tests0 ?_
  | with_reducible refine i_tests1 ?_
  | ((with_reducible refine' i_mod ?a ?b ?_); (case a => walk_at "A"); (case b => decide); intro _; walk_at "I")
  | ((with_reducible refine' i_div ?a ?b ?c ?_); (case a => walk_at "A"); (case b => decide); (case c => decide); intro _; walk_at "I")
  | ((with_reducible refine' x_swap2 ?a ?b ?_); (case a => walk_at "R"); (case b => walk_at "R"))
  | ((with_reducible refine' unp2_t ?a ?b ?_); (case a => walk_at "A"); (case b => exact Rm.handled (by assumption)); walk_at "I")
  | ((with_reducible refine' e_attr ?a ?_); (case a => intro _ _; walk_at "R"))
  | ((with_reducible refine' l_append ?a ?b ?_); (case a => walk_at "A"); (case b => walk_at "M"); intro _; walk_at "I")
  | ((with_reducible refine' e_bnd ?a ?b ?_); (case a => walk_at "A"); (case b => walk_at "M"))
  | with_reducible refine is_rs ?_
  | with_reducible refine is_rr ?_
  | with_reducible refine is_sr ?_
  | with_reducible refine is_tr ?_
  | ((with_reducible refine' e_fmt ?a ?x ?z ?y ?_); (case a => walk_at "A"); (case x => walk_at "LIT"); (case z => walk_at "LIT"); (case y => simp only [List.length_cons, List.length_nil]; decide); walk_at "I")
  | with_reducible refine e_cwT0 ?_
  | ((with_reducible refine' n_cellS ?c ?a ?m ?k ?l ?d ?_); (case c => walk_at "R"); (case a => walk_at "A"); (case m => walk_at "M"); (case k => walk_at "R"); (case l => walk_at "R"); (case d => walk_at "R"))
  | ((with_reducible refine' n_cellK ?c ?a ?m ?k ?l ?d ?_); (case c => walk_at "R"); (case a => walk_at "A"); (case m => walk_at "A"); (case k => walk_at "R"); (case l => walk_at "R"); (case d => walk_at "R"))
  | ((with_reducible refine' n_cst ?c ?a ?m ?k ?l ?_); (case c => walk_at "R"); (case a => walk_at "A"); (case m => walk_at "TURN"); (case k => walk_at "R"); (case l => walk_at "R"); walk_at "I")
  | ((with_reducible refine' x_compU ?w ?a ?b ?c ?d ?_); (case w => walk_at "R"); (case a => walk_at "R"); (case b => walk_at "R"); (case c => decide); (case d => intro _; walk_at "R"))
  | fail "S: no step")
-- the new state and its facts come in; the elder go
local macro_rules | `(tactic| walk_at "I") => `(tactic| ((rename St _ _ _ _ _ _ _ => stO); intro sN stN; clear stO))
local macro_rules | `(tactic| walk_at "G") => `(tactic| with_reducible first | exact g_divmod _ | exact g_int _ | exact g_abs _ | exact g_type _ | exact g_bytes _ | exact g_chr _ | exact g_len _ | exact g_range _ | exact g_list _ | exact g_object _ | exact g_isinstance _ | exact g_str _ | exact g_Int2AP _ | exact g_translate _ | exact g_map _ | exact g_escape _ | exact g__translate _ | exact g_join _ | exact g_cells _ | exact g_text _ | exact g_pieces _ | exact g_pattern _ | exact g_length _ | exact g_fit _ | exact g_found _ | exact g_read _ | exact g_fits _ | exact g_taken _ | exact g_spelled _ | exact g_all _ | fail "G: no such name")
local macro_rules | `(tactic| walk_at "GB") => `(tactic| with_reducible first | exact boot_divmod | exact boot_int | exact boot_abs | exact boot_type | exact boot_bytes | exact boot_chr | exact boot_len | exact boot_range | exact boot_list | exact boot_object | exact boot_isinstance | exact boot_str | fail "GB: no such name")
local macro_rules | `(tactic| walk_at "IF") => `(tactic| ((with_reducible refine x_if ?_); (repeat walk_at "S")))
namespace Mine
-- F_Int2AP
/-- the figures to the base 16, the highest first -/
def digs (n : Nat) : List Nat := if h : n = 0 then [] else digs (n / 16) ++ [n % 16]
termination_by n
decreasing_by omega
theorem digs_zero : digs 0 = [] := by unfold digs; rw [dif_pos rfl]
theorem digs_pos {n : Nat} (h : n ≠ 0) : digs n = digs (n / 16) ++ [n % 16] := by rw [digs, dif_neg h]
def lett (l : List Nat) : List UInt8 := l.map fun d => (65 + d).toUInt8
theorem digs_lt {n : Nat} : ∀ d ∈ digs n, d < 16 := by
  induction n using Nat.strongRecOn with
  | ind n ih =>
    by_cases h : n = 0
    · subst h; rw [digs_zero]; intro d hd; cases hd
    · rw [digs_pos h]
      intro d hd
      rcases List.mem_append.mp hd with h1 | h1
      · exact ih (n / 16) (by omega) d h1
      · rw [List.mem_singleton.mp h1]; omega
theorem ap_at {m : Nat} (h : m < 16) : (([65, 66, 67, 68, 69, 70, 71, 72, 73, 74, 75, 76, 77, 78, 79, 80] : List UInt8).drop m).take 1 = [(65 + m).toUInt8] := by
  have : ∀ m : Fin 16, (([65, 66, 67, 68, 69, 70, 71, 72, 73, 74, 75, 76, 77, 78, 79, 80] : List UInt8).drop m.val).take 1 = [(65 + m.val).toUInt8] := by decide
  exact this ⟨m, h⟩

theorem c_Int2AP {w : World} {A : Around} {s : Shared} {Q : Value → Shared → Prop} {n : Int} {t : Tok} (rm : Rm A 1) (cx : Cx w s.heap) (hz : (digs n.natAbs).length ≤ 1000)
    (h : ∀ t s', After s s' → Q (.bytes (lett (digs n.natAbs)).toArray t) s') : wpAny (model PR w) A (call (.ref 38) [.int n t]) Q NoE s := by
  refine enterR [Str.ofString "num"] [Str.ofString "val", Str.ofString "AP", Str.ofString "mod"] [(Str.ofString "num", some (.int n t)), (Str.ofString "val", none), (Str.ofString "AP", none), (Str.ofString "mod", none)]
    rfl rfl (by decide) (k := 0) rm cx rfl (by kernel_rfl) (.of_eq rfl) (by decide) (by decide) rfl rfl rfl ?_
  intro s₁ L A' rm₁ kL st
  repeat walk_at "S"
  refine x_while (fun k s' => ∃ (m : Nat) (ds : List Nat) (u : Option Value) (t₁ t₂ t₃ : Tok), digs m ++ ds = digs n.natAbs ∧ k = m ∧
    St w s s.heap.get? L s' [(Str.ofString "num", some (.int (m : Int) t₁)), (Str.ofString "val", some (.bytes (lett ds).toArray t₂)), (Str.ofString "AP", some (.bytes ([65, 66, 67, 68, 69, 70, 71, 72, 73, 74, 75, 76, 77, 78, 79, 80] : List UInt8).toArray t₃)), (Str.ofString "mod", u)] [])
    n.natAbs ⟨n.natAbs, [], none, _, _, _, List.append_nil _, rfl, by assumption⟩ ?_
  rintro k s₂ ⟨m, ds, u, t₁, t₂, t₃, hd, rfl, st⟩
  repeat walk_at "S"
  refine Br_dec (fun hm => ?_) (fun hm => ?_)
  · have hm0 : k ≠ 0 := by omega
    repeat walk_at "S"
    refine b_divmod (by assumption) (by decide) (by decide) ?_
    intro T _ _; walk_at "I"
    refine u_pair (by assumption) rm₁.handled ?_
    walk_at "I"
    repeat walk_at "S"
    refine y_slice (by assumption) (by omega) (by omega) (by decide) (by with_unfolding_all rfl) ?_
    intro _; walk_at "I"
    repeat walk_at "S"
    rw [show ((k : Int) % 16).toNat = k % 16 by omega, show ((k : Int) % 16 + 1).toNat - k % 16 = 1 by omega, ap_at (by omega)]
    have hl : (digs n.natAbs).length = (digs k).length + ds.length := by rw [← hd, List.length_append]
    refine y_add (by assumption) (by simp only [lett, List.length_map, List.length_singleton]; omega) ?_
    intro _; walk_at "I"
    repeat walk_at "S"
    rw [digs_pos hm0, List.append_assoc] at hd
    exact ⟨k / 16, by omega, k / 16, [k % 16] ++ ds, _, _, _, _, hd, rfl, by assumption⟩
  · have hm0 : k = 0 := by omega
    subst hm0
    rw [digs_zero, List.nil_append] at hd
    subst hd
    repeat walk_at "S"
    exact h _ _ (St.after (by assumption))
-- F_text
/-- the word's signs -/
def ltr (l : List Nat) : List Nat := l.map (65 + ·)
theorem lett_len (l : List Nat) : (lett l).length = l.length := List.length_map _
theorem c_text {w : World} {A : Around} {s : Shared} {Q : Value → Shared → Prop} {n : Int} {t : Tok} (rm : Rm A 2) (cx : Cx w s.heap) (hz : (digs n.natAbs).length ≤ 1000)
    (h : ∀ t s', After s s' → Q (.str (S (ltr (digs n.natAbs))) t) s') : wpAny (model PR w) A (call (.ref 88) [.int n t]) Q NoE s := by
  refine enterR [Str.ofString "number"] [Str.ofString "word"] [(Str.ofString "number", some (.int n t)), (Str.ofString "word", none)]
    rfl rfl (by decide) (k := 1) rm cx rfl (by kernel_rfl) (.of_eq rfl) (by decide) (by decide) rfl rfl rfl ?_
  intro s₁ L A' rm₁ kL st
  repeat walk_at "S"
  refine c_Int2AP rm₁ (st.cx') hz fun _ s₂ af => ?_
  have st := st.go af
  repeat walk_at "S"
  walk_at "IF"
  refine Br_f ?_
  repeat walk_at "S"
  refine src_bytes (by assumption) rm₁.handled fun it s₃ st₃ af₃ src => ?_
  refine comp_src (by assumption) src (fun a h => St.fresh (by assumption) h) (fun _ _ _ => .inl ⟨_, _, rfl⟩) (by rw [lett_len, sizeLine_eq]; omega) (by decide) rfl
    [(Str.ofString ".0", none), (Str.ofString "letter", none)] (by decide) (by decide)
    (fun i ys led => led = [] ∧ Strs ys (((ltr (digs n.natAbs)).take i).map fun c => [c])) ⟨rfl, .nil⟩ (fun i ys led h => by rw [h.2.len]; simp; omega) ?_ ?_
  · rintro i v kp' s₁ C D ys k led₁ hi ⟨c, u, hc, rfl⟩ ⟨rfl, hI⟩ kC _ st
    repeat walk_at "S"
    refine Br_t ?_
    repeat walk_at "S"
    refine b_chr (by assumption) (by omega) (by have := c.toNat_lt; omega) ?_
    intro _; walk_at "I"
    refine ⟨_, _, by assumption, ?_⟩
    refine ⟨rfl, rfl, ?_⟩
    have hl : i < (ltr (digs n.natAbs)).length := by rw [lett_len] at hi; simpa [ltr] using hi
    have e : (ltr (digs n.natAbs))[i] = c.toNat := by
      have h1 : i < (digs n.natAbs).length := by rw [lett_len] at hi; exact hi
      have h2 : (65 + (digs n.natAbs)[i]).toUInt8 = c := by
        have : (lett (digs n.natAbs))[i]? = some (65 + (digs n.natAbs)[i]).toUInt8 := by simp [lett, h1]
        rw [hc] at this; exact (Option.some.inj this).symm
      have h3 := digs_lt (n := n.natAbs) _ (List.getElem_mem h1)
      rw [← h2]
      simp only [ltr, List.getElem_map, Nat.toUInt8, UInt8.toNat_ofNat']
      omega
    rw [List.take_succ_eq_append_getElem hl, List.map_append, e]
    exact hI.snoc
  · rintro s₄ D ys k led₂ ⟨rfl, hI⟩ st₄ _
    repeat walk_at "S"
    rw [show (lett (digs n.natAbs)).length = (ltr (digs n.natAbs)).length by simp [lett, ltr], List.take_length] at hI
    have e : ∀ x : List Nat, (x.map fun c => [c]).flatten = x := fun x => by induction x with
      | nil => rfl
      | cons a r ih => rw [List.map_cons, List.flatten_cons, ih]; rfl
    refine s_join (by assumption) (St.own (by assumption) .head) hI (by rw [e]; simp [ltr]; omega) ?_
    intro _; walk_at "I"
    rw [e]
    repeat walk_at "S"
    exact h _ _ (St.after (by assumption))
-- F_len
theorem digs_le (n : Nat) : ∀ k, 16 ^ k ≤ n ↔ k < (digs n).length := by
  induction n using Nat.strongRecOn with
  | ind n ih =>
    intro k
    by_cases h : n = 0
    · subst h
      rw [digs_zero]
      have : 0 < 16 ^ k := Nat.pow_pos (by decide)
      simp only [List.length_nil]; omega
    · rw [digs_pos h, List.length_append, List.length_singleton]
      cases k with
      | zero => rw [Nat.pow_zero]; omega
      | succ k =>
        have := ih (n / 16) (by omega) k
        rw [Nat.pow_succ]
        rw [Nat.le_div_iff_mul_le (by decide)] at this
        rw [this]; omega
theorem c_length {w : World} {A : Around} {s : Shared} {Q : Value → Shared → Prop} {n : Nat} {t : Tok} (rm : Rm A 1) (cx : Cx w s.heap) (hz : (digs n).length ≤ 1000)
    (h : ∀ t s', After s s' → Q (.int ((digs n).length : Int) t) s') : wpAny (model PR w) A (call (.ref 105) [.int (n : Int) t]) Q NoE s := by
  refine enterR [Str.ofString "number"] [Str.ofString "many"] [(Str.ofString "number", some (.int (n : Int) t)), (Str.ofString "many", none)]
    rfl rfl (by decide) (k := 0) rm cx rfl (by kernel_rfl) (.of_eq rfl) (by decide) (by decide) rfl rfl rfl ?_
  intro s₁ L A' rm₁ kL st
  repeat walk_at "S"
  refine x_while (fun k s' => ∃ (m : Nat) (t₁ : Tok), k = (digs n).length - m ∧ m ≤ (digs n).length ∧
    St w s s.heap.get? L s' [(Str.ofString "number", some (.int (n : Int) t)), (Str.ofString "many", some (.int (m : Int) t₁))] [])
    (digs n).length ⟨0, _, rfl, Nat.zero_le _, by assumption⟩ ?_
  rintro k s₂ ⟨m, t₁, rfl, hm, st⟩
  repeat walk_at "S"
  refine i_pow (by assumption) (by omega) (by omega) (by decide) ?_
  intro _; walk_at "I"
  repeat walk_at "S"
  have e : ((16 : Int) ^ (m : Int).toNat ≤ (n : Int)) ↔ m < (digs n).length := by
    rw [← digs_le]
    have : ((16 : Int) ^ (m : Int).toNat) = ((16 ^ m : Nat) : Int) := by rw [Int.toNat_natCast]; exact (Int.natCast_pow 16 m).symm
    rw [this]; omega
  refine Br_dec (fun hk => ?_) (fun hk => ?_)
  · rw [e] at hk
    repeat walk_at "S"
    exact ⟨(digs n).length - (m + 1), by omega, m + 1, _, rfl, by omega, by assumption⟩
  · rw [e] at hk
    have : m = (digs n).length := by omega
    subst this
    repeat walk_at "S"
    exact h _ _ (St.after (by assumption))
-- F_spelled
theorem AP_at {m : Nat} (h : m < 16) : ([65, 66, 67, 68, 69, 70, 71, 72, 73, 74, 75, 76, 77, 78, 79, 80] : List Nat)[m]? = some (65 + m) := by
  have : ∀ m : Fin 16, ([65, 66, 67, 68, 69, 70, 71, 72, 73, 74, 75, 76, 77, 78, 79, 80] : List Nat)[m.val]? = some (65 + m.val) := by decide
  exact this ⟨m, h⟩
theorem c_spelled {w : World} {A : Around} {s : Shared} {Q : Value → Shared → Prop} {n : Int} {t : Tok} (rm : Rm A 1) (cx : Cx w s.heap) (hz : (digs n.natAbs).length ≤ 1000)
    (h : ∀ t s', After s s' → Q (.str (S (ltr (digs n.natAbs))) t) s') : wpAny (model PR w) A (call (.ref 145) [.int n t]) Q NoE s := by
  refine enterR [Str.ofString "number"] [Str.ofString "word", Str.ofString "rest"] [(Str.ofString "number", some (.int n t)), (Str.ofString "word", none), (Str.ofString "rest", none)]
    rfl rfl (by decide) (k := 0) rm cx rfl (by kernel_rfl) (.of_eq rfl) (by decide) (by decide) rfl rfl rfl ?_
  intro s₁ L A' rm₁ kL st
  repeat walk_at "S"
  refine x_while (fun k s' => ∃ (m : Nat) (ds : List Nat) (t₁ t₂ : Tok), digs m ++ ds = digs n.natAbs ∧ k = m ∧
    St w s s.heap.get? L s' [(Str.ofString "number", some (.int n t)), (Str.ofString "word", some (.str (S (ltr ds)) t₁)), (Str.ofString "rest", some (.int (m : Int) t₂))] [])
    n.natAbs ⟨n.natAbs, [], _, _, List.append_nil _, rfl, by assumption⟩ ?_
  rintro k s₂ ⟨m, ds, t₁, t₂, hd, rfl, st⟩
  repeat walk_at "S"
  refine Br_dec (fun hk => ?_) (fun hk => ?_)
  · have hk0 : k ≠ 0 := by omega
    repeat walk_at "S"
    refine s_idx (by assumption) (by decide) (by omega) (c := 65 + k % 16) ?_ (by with_unfolding_all rfl) ?_
    · rw [show ((k : Int) % 16).toNat = k % 16 by omega]; exact AP_at (by omega)
    intro _; walk_at "I"
    repeat walk_at "S"
    have hl : (digs n.natAbs).length = (digs k).length + ds.length := by rw [← hd, List.length_append]
    refine s_add (by assumption) (by simp [ltr]; omega) ?_
    intro _; walk_at "I"
    repeat walk_at "S"
    rw [digs_pos hk0, List.append_assoc] at hd
    exact ⟨k / 16, by omega, k / 16, [k % 16] ++ ds, _, _, hd, rfl, by assumption⟩
  · have hk0 : k = 0 := by omega
    subst hk0
    rw [digs_zero, List.nil_append] at hd
    subst hd
    repeat walk_at "S"
    exact h _ _ (St.after (by assumption))
-- F_fits
/-- the signs fit the word's first letters -/
def fits : List Nat → List Nat → Bool
  | [], _ => true
  | _ :: _, [] => false
  | c :: r, d :: x => (decide (c = 46) || decide (c = d)) && fits r x
theorem fits_at : ∀ (g x : List Nat) (i : Nat) (c : Nat), g[i]? = some c → fits (g.take i) x = true →
    fits (g.take (i + 1)) x = (match x[i]? with | none => false | some d => decide (c = 46) || decide (c = d))
  | [], _, _, _, h, _ => by simp at h
  | _ :: _, [], 0, _, _, _ => rfl
  | c :: r, d :: x, 0, c', h, _ => by
    have : c = c' := by simpa using h
    subst this
    show ((decide (c = 46) || decide (c = d)) && true) = (decide (c = 46) || decide (c = d))
    rw [Bool.and_true]
  | c :: r, [], i + 1, c', h, hf => by cases hf
  | c :: r, d :: x, i + 1, c', h, hf => by
    have h' : r[i]? = some c' := by simpa using h
    rw [List.take_succ_cons] at hf ⊢
    have hf' : (decide (c = 46) || decide (c = d)) = true ∧ fits (r.take i) x = true := Bool.and_eq_true_iff.mp hf
    show ((decide (c = 46) || decide (c = d)) && fits (r.take (i + 1)) x) = _
    rw [hf'.1, Bool.true_and, fits_at r x i c' h' hf'.2]
    rfl
theorem fits_stop : ∀ (g x : List Nat) (i : Nat), fits (g.take i) x = false → fits g x = false
  | [], _, _, h => by simp [fits] at h
  | _ :: _, _, 0, h => by cases h
  | _ :: _, [], _ + 1, _ => rfl
  | c :: r, d :: x, i + 1, h => by
    rw [List.take_succ_cons] at h
    have h' : ((decide (c = 46) || decide (c = d)) && fits (r.take i) x) = false := h
    show ((decide (c = 46) || decide (c = d)) && fits r x) = false
    cases e : (decide (c = 46) || decide (c = d))
    · rfl
    · rw [e, Bool.true_and] at h'
      rw [Bool.true_and]; exact fits_stop r x i h'
theorem c_fits {w : World} {A : Around} {s : Shared} {Q : Value → Shared → Prop} {g x : List Nat} {n : Nat} {t t₁ t₂ : Tok} (rm : Rm A 1) (cx : Cx w s.heap) (hg : g.length ≤ 1000) (hx : x.length ≤ 1000)
    (h : ∀ s', After s s' → Q (.bool (fits g (x.drop n))) s') : wpAny (model PR w) A (call (.ref 131) [.str (S g) t₁, .str (S x) t₂, .int (n : Int) t]) Q NoE s := by
  refine enterR [Str.ofString "signs", Str.ofString "word", Str.ofString "at"] [Str.ofString "k"] [(Str.ofString "signs", some (.str (S g) t₁)), (Str.ofString "word", some (.str (S x) t₂)), (Str.ofString "at", some (.int (n : Int) t)), (Str.ofString "k", none)]
    rfl rfl (by decide) (k := 0) rm cx rfl (by kernel_rfl) (.of_eq rfl) (by decide) (by decide) rfl rfl rfl ?_
  intro s₁ L A' rm₁ kL st
  repeat walk_at "S"
  refine s_len (by assumption) (by omega) ?_
  intro _; walk_at "I"
  repeat walk_at "S"
  refine b_range (by assumption) ?_
  intro r u₁ u₂; walk_at "I"
  refine src_range (by assumption) rm₁.handled (by omega) (by omega) fun it s₃ st₃ af₃ src => ?_
  refine for_src st₃ src (fun a h => St.fresh (by assumption) h) kL (fun _ _ _ => .inl ⟨_, _, rfl⟩)
    (fun i l led => ∃ u : Option Value, l = [(Str.ofString "signs", some (.str (S g) t₁)), (Str.ofString "word", some (.str (S x) t₂)), (Str.ofString "at", some (.int (n : Int) t)), (Str.ofString "k", u)] ∧ led = [] ∧ fits (g.take i) (x.drop n) = true)
    ⟨_, rfl, rfl, by cases g <;> rfl⟩ ?_ ?_
  · rintro i v kp' s₁ l₁ led₁ hi ⟨u, rfl⟩ ⟨u', rfl, rfl, hf⟩ kC _ st
    have hi' : i < g.length := by omega
    have hgi : g[i]? = some g[i] := List.getElem?_eq_getElem hi'
    have step := fits_at g (x.drop n) i _ hgi hf
    repeat walk_at "S"
    walk_at "IF"
    refine s_len (by assumption) (by omega) ?_
    intro _; walk_at "I"
    repeat walk_at "S"
    refine Br_dec (fun hk => ?_) (fun hk => ?_)
    · refine Br_t ?_
      repeat walk_at "S"
      have : (x.drop n)[i]? = none := by rw [List.getElem?_drop]; exact List.getElem?_eq_none (by omega)
      rw [this] at step
      rw [← fits_stop _ _ _ step]
      exact h _ (St.after (by assumption))
    · have hk' : n + i < x.length := by omega
      repeat walk_at "S"
      refine s_idx (by assumption) (by omega) (by omega) (c := g[i]) (by simpa using hgi) (by with_unfolding_all rfl) ?_
      intro _; walk_at "I"
      repeat walk_at "S"
      refine s_idx (by assumption) (by omega) (by omega) (c := x[n + i]) (by rw [show ((n : Int) + (i : Int)).toNat = n + i by omega]; exact List.getElem?_eq_getElem hk') (by with_unfolding_all rfl) ?_
      intro _; walk_at "I"
      repeat walk_at "S"
      rw [List.getElem?_drop, List.getElem?_eq_getElem hk'] at step
      have e1 : decide ([g[i]] = [46]) = decide (g[i] = 46) := by simp
      have e2 : decide ([g[i]] = [x[n + i]]) = decide (g[i] = x[n + i]) := by simp
      rw [e1, e2]
      generalize hq : (decide (g[i] = 46) || decide (g[i] = x[n + i])) = q at step ⊢
      cases q with
      | true =>
        refine Br_f ?_
        repeat walk_at "S"
        refine Br_f ?_
        repeat walk_at "S"
        exact ⟨_, _, by assumption, _, rfl, rfl, step.trans hq⟩
      | false =>
        refine Br_t ?_
        repeat walk_at "S"
        refine Br_t ?_
        repeat walk_at "S"
        rw [← fits_stop _ _ _ (step.trans hq)]
        exact h _ (St.after (by assumption))
  · rintro s₂ l₂ led₂ ⟨u, rfl, rfl, hf⟩ st₂
    repeat walk_at "S"
    rw [show (g.length : Int).toNat = g.length by omega, List.take_length] at hf
    rw [← hf]
    exact h _ (St.after (by assumption))
-- F_taken
/-- the first place at which the signs fit -/
def seek (g x : List Nat) (a : Nat) : Nat := if a < x.length ∧ fits g (x.drop a) = false then seek g x (a + 1) else a
termination_by x.length - a
def turnF (m k : Nat) (g x : List Nat) (a : Nat) : Option Nat :=
  let a₁ := if 0 < k ∧ k + 1 < m then seek g x a else a
  if 0 < k ∧ k + 1 = m then (if x.length < a₁ + g.length then none else if fits g (x.drop (x.length - g.length)) then some (x.length - g.length + g.length) else none)
  else if fits g (x.drop a₁) then some (a₁ + g.length) else none
def takenF (m : Nat) (x : List Nat) : Nat → List (List Nat) → Nat → Bool
  | _, [], a => decide (a = x.length)
  | k, g :: r, a => match turnF m k g x a with
    | none => false
    | some a' => takenF m x (k + 1) r a'
theorem fits_len : ∀ (g x : List Nat), fits g x = true → g.length ≤ x.length
  | [], _, _ => Nat.zero_le _
  | _ :: _, [], h => by cases h
  | c :: r, d :: x, h => by
    have h' : (decide (c = 46) || decide (c = d)) = true ∧ fits r x = true := Bool.and_eq_true_iff.mp h
    have := fits_len r x h'.2
    simp only [List.length_cons]; omega
theorem c_taken {w : World} {A : Around} {s : Shared} {Q : Value → Shared → Prop} {gs : List (List Nat)} {vs : List Value} {x : List Nat} {a : Addr} {o : Obj} {t₂ : Tok} (rm : Rm A 2) (cx : Cx w s.heap) (hx : x.length ≤ 1000) (hm : gs.length ≤ 1000)
    (ho : s.heap.get? a = some o) (hi : IsL o vs) (hv : Strs vs gs) (hg : ∀ g ∈ gs, g.length ≤ 1000)
    (h : ∀ s', After s s' → Q (.bool (takenF gs.length x 0 gs 0)) s') : wpAny (model PR w) A (call (.ref 138) [.ref a, .str (S x) t₂]) Q NoE s := by
  have hvl := hv.len
  generalize hR : takenF gs.length x 0 gs 0 = R at h
  refine enterR [Str.ofString "segments", Str.ofString "word"] [Str.ofString "at", Str.ofString "k", Str.ofString "signs"] [(Str.ofString "segments", some (.ref a)), (Str.ofString "word", some (.str (S x) t₂)), (Str.ofString "at", none), (Str.ofString "k", none), (Str.ofString "signs", none)]
    rfl rfl (by decide) (k := 1) rm cx rfl (by kernel_rfl) (.of_eq rfl) (by decide) (by decide) rfl rfl rfl ?_
  intro s₁ L A' rm₁ kL st
  repeat walk_at "S"
  refine l_len (by assumption) (hi.at (St.keep (by assumption) _ _ ho)) (by omega) ?_
  intro _; walk_at "I"
  repeat walk_at "S"
  refine b_range (by assumption) ?_
  intro r u₁ u₂; walk_at "I"
  refine src_range (by assumption) rm₁.handled (by omega) (by omega) fun it s₃ st₃ af₃ src => ?_
  refine for_src st₃ src (fun a h => St.fresh (by assumption) h) kL (fun _ _ _ => .inl ⟨_, _, rfl⟩)
    (fun i l led => ∃ (c : Nat) (t : Tok) (u u' : Option Value), l = [(Str.ofString "segments", some (.ref a)), (Str.ofString "word", some (.str (S x) t₂)), (Str.ofString "at", some (.int (c : Int) t)), (Str.ofString "k", u), (Str.ofString "signs", u')] ∧ led = [] ∧
      c ≤ x.length ∧ takenF gs.length x i (gs.drop i) c = R)
    ⟨0, _, _, _, rfl, rfl, Nat.zero_le _, hR⟩ ?_ ?_
  · rintro i v kp' s₁ l₁ led₁ hi' ⟨u, rfl⟩ ⟨c, t, u', u'', rfl, rfl, hc, hq⟩ kC hkp st
    have hi'' : i < gs.length := by omega
    have hgi : gs[i]? = some gs[i] := List.getElem?_eq_getElem hi''
    have hgl := hg _ (List.getElem_mem hi'')
    obtain ⟨tg, hvi⟩ := hv.at hgi
    rw [List.drop_eq_getElem_cons hi''] at hq
    generalize gs[i] = g at hq hvi hgl
    unfold takenF at hq
    repeat walk_at "S"
    refine l_get (xs := vs) (hi.at (St.keep (by assumption) _ _ (hkp _ _ ho))) (by omega) (by omega) (by simpa using hvi) (by with_unfolding_all rfl) ?_
    repeat walk_at "S"
    -- the middle pieces seek
    refine x_ifcut (fun s' => ∃ t', St w s kp' L s' [(Str.ofString "segments", some (.ref a)), (Str.ofString "word", some (.str (S x) t₂)), (Str.ofString "at", some (.int ((if 0 < i ∧ i + 1 < gs.length then seek g x c else c : Nat) : Int) t')), (Str.ofString "k", some (.int (i : Int) u)), (Str.ofString "signs", some (.str (S g) tg))] []) ?_ ?_
    · repeat walk_at "S"
      refine Br_dec (fun hk => ?_) (fun hk => ?_)
      · repeat walk_at "S"
        refine l_len (by assumption) (hi.at (St.keep (by assumption) _ _ (hkp _ _ ho))) (by omega) ?_
        intro _; walk_at "I"
        repeat walk_at "S"
        refine Br_dec (fun hk2 => ?_) (fun hk2 => ?_)
        · rw [if_pos (by omega)]
          repeat walk_at "S"
          refine x_while (fun n s' => ∃ (c' : Nat) (t' : Tok), n = x.length - c' ∧ c' ≤ x.length ∧ seek g x c' = seek g x c ∧
            St w s kp' L s' [(Str.ofString "segments", some (.ref a)), (Str.ofString "word", some (.str (S x) t₂)), (Str.ofString "at", some (.int (c' : Int) t')), (Str.ofString "k", some (.int (i : Int) u)), (Str.ofString "signs", some (.str (S g) tg))] [])
            (x.length - c) ⟨c, _, rfl, hc, rfl, by assumption⟩ ?_
          rintro n s₂ ⟨c', t', rfl, hc', hs, st⟩
          repeat walk_at "S"
          refine s_len (by assumption) (by omega) ?_
          intro _; walk_at "I"
          repeat walk_at "S"
          refine Br_dec (fun hk3 => ?_) (fun hk3 => ?_)
          · repeat walk_at "S"
            refine c_fits rm₁ (St.cx' (by assumption)) hgl hx fun s₃ af => ?_
            (rename St _ _ _ _ _ _ _ => stO); have stO := stO.go af
            repeat walk_at "S"
            generalize hf : fits g (x.drop c') = f
            rw [seek, hf] at hs
            cases f with
            | true =>
              refine Br_f ?_
              repeat walk_at "S"
              refine Br_f ?_
              rw [if_neg (by simp)] at hs
              rw [← hs]
              repeat walk_at "S"
              exact ⟨_, by assumption⟩
            | false =>
              refine Br_t ?_
              repeat walk_at "S"
              refine Br_t ?_
              rw [if_pos ⟨by omega, rfl⟩] at hs
              repeat walk_at "S"
              exact ⟨x.length - (c' + 1), by omega, c' + 1, _, rfl, by omega, hs, by assumption⟩
          · refine Br_f ?_
            rw [seek, if_neg (by omega)] at hs
            rw [← hs]
            repeat walk_at "S"
            exact ⟨_, by assumption⟩
        · repeat walk_at "S"
          rw [if_neg (by omega)]
          exact ⟨_, by assumption⟩
      · refine Br_f ?_
        repeat walk_at "S"
        rw [if_neg (by omega)]
        exact ⟨_, by assumption⟩
    · have hsk : ∀ c, c ≤ x.length → seek g x c ≤ x.length := by
        intro c
        induction c using (measure fun c => x.length - c).wf.induction with
        | _ c ih =>
          intro hc
          rw [seek]
          split
          · rename_i h1
            exact ih (c + 1) (by show x.length - (c + 1) < x.length - c; omega) (by omega)
          · exact hc
      have hc₁ : (if 0 < i ∧ i + 1 < gs.length then seek g x c else c) ≤ x.length := by
        split
        · exact hsk c hc
        · exact hc
      unfold turnF at hq
      generalize (if 0 < i ∧ i + 1 < gs.length then seek g x c else c) = c₁ at hc₁ hq ⊢
      rintro s₂ ⟨t', st₂⟩
      repeat walk_at "S"
      -- the last piece stands at the end
      refine x_ifcut (fun s' => ∃ (c₂ : Nat) (t' : Tok), c₂ ≤ x.length ∧ ((if fits g (x.drop c₂) = true then takenF gs.length x (i + 1) (gs.drop (i + 1)) (c₂ + g.length) else false) = R) ∧
        St w s kp' L s' [(Str.ofString "segments", some (.ref a)), (Str.ofString "word", some (.str (S x) t₂)), (Str.ofString "at", some (.int (c₂ : Int) t')), (Str.ofString "k", some (.int (i : Int) u)), (Str.ofString "signs", some (.str (S g) tg))] []) ?_ ?_
      · repeat walk_at "S"
        refine Br_dec (fun hk => ?_) (fun hk => ?_)
        · repeat walk_at "S"
          refine l_len (by assumption) (hi.at (St.keep (by assumption) _ _ (hkp _ _ ho))) (by omega) ?_
          intro _; walk_at "I"
          repeat walk_at "S"
          refine Br_dec (fun hk2 => ?_) (fun hk2 => ?_)
          · rw [if_pos (by omega)] at hq
            repeat walk_at "S"
            walk_at "IF"
            refine s_len (by assumption) (by omega) ?_
            intro _; walk_at "I"
            repeat walk_at "S"
            refine s_len (by assumption) (by omega) ?_
            intro _; walk_at "I"
            repeat walk_at "S"
            refine Br_dec (fun hk3 => ?_) (fun hk3 => ?_)
            · rw [if_pos (by omega)] at hq
              repeat walk_at "S"
              rw [show R = false from hq.symm] at h
              exact h _ (St.after (by assumption))
            · rw [if_neg (by omega)] at hq
              repeat walk_at "S"
              refine s_len (by assumption) (by omega) ?_
              intro _; walk_at "I"
              repeat walk_at "S"
              refine s_len (by assumption) (by omega) ?_
              intro _; walk_at "I"
              repeat walk_at "S"
              rw [show (x.length : Int) - (g.length : Int) = ((x.length - g.length : Nat) : Int) by omega] at *
              refine ⟨x.length - g.length, _, by omega, ?_, by assumption⟩
              rw [← hq]
              split <;> rfl
          · rw [if_neg (by omega)] at hq
            repeat walk_at "S"
            refine ⟨c₁, _, by omega, ?_, by assumption⟩
            rw [← hq]
            split <;> rfl
        · refine Br_f ?_
          rw [if_neg (by omega)] at hq
          repeat walk_at "S"
          refine ⟨c₁, _, by omega, ?_, by assumption⟩
          rw [← hq]
          split <;> rfl
      · clear hq
        rintro s₂ ⟨c₂, t', hc₂, hq, st₂⟩
        repeat walk_at "S"
        walk_at "IF"
        refine c_fits rm₁ (St.cx' (by assumption)) hgl hx fun s₃ af => ?_
        (rename St _ _ _ _ _ _ _ => stO); have stO := stO.go af
        repeat walk_at "S"
        generalize hf : fits g (x.drop c₂) = f at hq
        cases f with
        | true =>
          refine Br_f ?_
          rw [if_pos rfl] at hq
          repeat walk_at "S"
          refine s_len (by assumption) (by omega) ?_
          intro _; walk_at "I"
          repeat walk_at "S"
          refine ⟨_, _, by assumption, c₂ + g.length, _, _, _, rfl, rfl, ?_, hq⟩
          have := fits_len _ _ hf
          rw [List.length_drop] at this; omega
        | false =>
          refine Br_t ?_
          rw [if_neg (by simp)] at hq
          repeat walk_at "S"
          rw [← hq] at h
          exact h _ (St.after (by assumption))
  · rintro s₂ l₂ led₂ ⟨c, t, u, u', rfl, rfl, hc, hq⟩ st₂
    repeat walk_at "S"
    refine s_len (by assumption) (by omega) ?_
    intro _; walk_at "I"
    repeat walk_at "S"
    rw [show (vs.length : Int).toNat = gs.length by omega, List.drop_length] at hq
    rw [← hq] at h
    have e : decide ((c : Int) = (x.length : Int)) = decide (c = x.length) := by
      by_cases e : c = x.length
      · simp [e]
      · rw [decide_eq_false e, decide_eq_false (by omega)]
    rw [e]
    exact h _ (St.after (by assumption))
-- F_escape
theorem b_isinstance_str {w : World} {A : Around} {E : Value → Shared → Prop} {s : Shared} {x : Str} {t : Tok} {Q : Value → Shared → Prop} (h : Q (.bool true) s) : wpAny (model PR w) A (call (.builtin "isinstance") [.str x t, .type "str"]) Q E s :=
  call_isinstance_yes (typeIs_str _ _ _) meta_str sub_str_str h
theorem c_escape {w : World} {A : Around} {s : Shared} {Q : Value → Shared → Prop} {c : Nat} {t : Tok} (rm : Rm A 1) (cx : Cx w s.heap) (h1 : 65 ≤ c) (h2 : c ≤ 80)
    (h : ∀ t s', After s s' → Q (.str (S [c]) t) s') : wpAny (model PR w) A (call (.ref 62) [.str (S [c]) t]) Q NoE s := by
  refine enterR [Str.ofString "pattern"] [] [(Str.ofString "pattern", some (.str (S [c]) t))]
    rfl rfl (by decide) (k := 0) rm cx rfl (by kernel_rfl) (.of_eq rfl) (by decide) (by decide) rfl rfl rfl ?_
  intro s₁ L A' rm₁ kL st
  repeat walk_at "S"
  walk_at "IF"
  refine b_isinstance_str ?_
  repeat walk_at "S"
  refine Br_t ?_
  repeat walk_at "S"
  refine b_translate (by assumption) rm₁.handled h1 h2 ?_
  intro _; walk_at "I"
  repeat walk_at "S"
  exact h _ _ (St.after (by assumption))
-- F_tr
/-- the values of a list of parts: a star is the object X, all else a text of one sign -/
inductive Parts (X : Addr) : List Value → List (Option Nat) → Prop
  | nil : Parts X [] []
  | star {vs : List Value} {ps : List (Option Nat)} : Parts X vs ps → Parts X (.ref X :: vs) (none :: ps)
  | sign {vs : List Value} {ps : List (Option Nat)} (c : Nat) (t : Tok) : Parts X vs ps → Parts X (.str (S [c]) t :: vs) (some c :: ps)
theorem Parts.app {X : Addr} {vs us : List Value} {ps qs : List (Option Nat)} (h : Parts X vs ps) (h2 : Parts X us qs) : Parts X (vs ++ us) (ps ++ qs) := by
  induction h with
  | nil => exact h2
  | star _ ih => exact .star ih
  | sign c t _ ih => exact .sign c t ih
theorem Parts.len {X : Addr} {vs : List Value} {ps : List (Option Nat)} (h : Parts X vs ps) : vs.length = ps.length := by
  induction h with
  | nil => rfl
  | star _ ih => rw [List.length_cons, List.length_cons, ih]
  | sign c t _ ih => rw [List.length_cons, List.length_cons, ih]
theorem Parts.at {X : Addr} {vs : List Value} {ps : List (Option Nat)} (h : Parts X vs ps) : ∀ {i : Nat} {y : Option Nat}, ps[i]? = some y → (y = none ∧ vs[i]? = some (.ref X)) ∨ ∃ c t, y = some c ∧ vs[i]? = some (.str (S [c]) t) := by
  induction h with
  | nil => intro i y h; simp at h
  | star _ ih =>
    intro i y h
    cases i with
    | zero => exact .inl ⟨by simpa using h.symm, rfl⟩
    | succ i => exact ih (by simpa using h)
  | sign c t _ ih =>
    intro i y h
    cases i with
    | zero => exact .inr ⟨c, t, by simpa using h.symm, rfl⟩
    | succ i => exact ih (by simpa using h)
/-- one sign of the pattern -/
def partF (acc : List (Option Nat)) (c : Nat) : List (Option Nat) :=
  if c = 42 then (if acc.getLast? = some none then acc else acc ++ [none]) else if c = 63 then acc ++ [some 46] else acc ++ [some c]
def partsF (p : List Nat) : List (Option Nat) := p.foldl partF []
theorem c__translate {w : World} {A : Around} {s : Shared} {Q : Value → Shared → Prop} {P : List Nat} {X : Addr} {t t₂ : Tok} (rm : Rm A 2) (cx : Cx w s.heap) (hP : ∀ c ∈ P, c = 42 ∨ c = 63 ∨ (65 ≤ c ∧ c ≤ 80)) (hz : P.length ≤ 1000)
    (hX : s.heap.get? X = some objO)
    (h : ∀ D items k s', After s s' → s.heap.get? D = none → s'.heap.get? D = some (lstO items k) → Parts X items (partsF P) → Q (.ref D) s') : wpAny (model PR w) A (call (.ref 69) [.str (S P) t, .ref X, .str (S [46]) t₂]) Q NoE s := by
  refine enterR [Str.ofString "pat", Str.ofString "STAR", Str.ofString "QUESTION_MARK"] [Str.ofString "res", Str.ofString "add", Str.ofString "i", Str.ofString "n", Str.ofString "c"]
    [(Str.ofString "pat", some (.str (S P) t)), (Str.ofString "STAR", some (.ref X)), (Str.ofString "QUESTION_MARK", some (.str (S [46]) t₂)), (Str.ofString "res", none), (Str.ofString "add", none), (Str.ofString "i", none), (Str.ofString "n", none), (Str.ofString "c", none)]
    rfl rfl (by decide) (k := 1) rm cx rfl (by kernel_rfl) (.of_eq rfl) (by decide) (by decide) rfl rfl rfl ?_
  intro s₁ L A' rm₁ kL st
  repeat walk_at "S"
  refine s_len (by assumption) (by omega) ?_
  intro _; walk_at "I"
  repeat walk_at "S"
  refine x_while (fun n s' => ∃ (D U : Addr) (i : Nat) (items : List Value) (k : Nat) (t₁ t₃ : Tok) (uc : Option Value), n = P.length - i ∧ i ≤ P.length ∧ items.length ≤ i ∧ Parts X items ((P.take i).foldl partF []) ∧
    St w s s.heap.get? L s' [(Str.ofString "pat", some (.str (S P) t)), (Str.ofString "STAR", some (.ref X)), (Str.ofString "QUESTION_MARK", some (.str (S [46]) t₂)), (Str.ofString "res", some (.ref D)), (Str.ofString "add", some (.ref U)), (Str.ofString "i", some (.int (i : Int) t₁)), (Str.ofString "n", some (.int (P.length : Int) t₃)), (Str.ofString "c", uc)] [(U, bndO D), (D, lstO items k)])
    P.length ⟨_, _, 0, [], 0, _, _, _, rfl, Nat.zero_le _, Nat.zero_le _, .nil, by assumption⟩ ?_
  rintro n s₂ ⟨D, U, i, items, k, t₁, t₃, uc, rfl, hi, hl, hp, st⟩
  repeat walk_at "S"
  refine Br_dec (fun hk => ?_) (fun hk => ?_)
  · have hi' : i < P.length := by omega
    have hc := hP _ (List.getElem_mem hi')
    have hpi : P[i]? = some P[i] := List.getElem?_eq_getElem hi'
    have hstep : (P.take (i + 1)).foldl partF [] = partF ((P.take i).foldl partF []) P[i] := by
      rw [List.take_succ_eq_append_getElem hi', List.foldl_append]; rfl
    generalize P[i] = c at hc hpi hstep
    generalize (P.take i).foldl partF [] = ps at hp hstep
    repeat walk_at "S"
    refine s_idx (by assumption) (by omega) (by omega) (c := c) (by simpa using hpi) (by with_unfolding_all rfl) ?_
    intro _; walk_at "I"
    repeat walk_at "S"
    walk_at "IF"
    refine Br_dec (fun h1 => ?_) (fun h1 => ?_)
    · have hc1 : c = 42 := by simpa using h1
      subst hc1
      repeat walk_at "S"
      walk_at "IF"
      refine l_truthy (xs := items) (by assumption) (isl (St.own (by assumption) (.tail .head))) (by omega) ?_
      walk_at "I"
      -- what is added, or not
      have hend : partF ps 42 = if ps.getLast? = some none then ps else ps ++ [none] := rfl
      by_cases hn : items = []
      · subst hn
        have hp0 : ps = [] := by cases hp; rfl
        subst hp0
        rw [decide_eq_true rfl]
        repeat walk_at "S"
        refine Br_t ?_
        repeat walk_at "S"
        refine Br_t ?_
        repeat walk_at "S"
        refine b_bnd (by assumption) (.head) (by simp) (fun _ => .tail .head) ?_
        intro _; walk_at "I"
        repeat walk_at "S"
        refine ⟨P.length - (i + 1), by omega, D, U, i + 1, [] ++ [.ref X], _, _, _, _, rfl, by omega, by simp, ?_, by assumption⟩
        rw [hstep, hend]
        exact .star .nil
      · rw [decide_eq_false hn]
        repeat walk_at "S"
        refine Br_f ?_
        repeat walk_at "S"
        have hl0 : 0 < items.length := List.length_pos_iff.mpr hn
        have hlp := hp.len
        have hlast : ps[items.length - 1]? = some (ps[items.length - 1]'(by omega)) := List.getElem?_eq_getElem (by omega)
        have hgl : ps.getLast? = some (ps[items.length - 1]'(by omega)) := by rw [List.getLast?_eq_getElem?, ← hlast, hlp]
        rw [hgl] at hend
        rcases hp.at hlast with ⟨e1, e2⟩ | ⟨c', t', e1, e2⟩
        · rw [e1, if_pos rfl] at hend
          refine l_getneg (xs := items) (isl (St.own (by assumption) (.tail .head))) (by omega) (by omega) (by omega) (x := .ref X) (by rw [← e2]; congr 1; omega) (by with_unfolding_all rfl) ?_
          repeat walk_at "S"
          refine Br_f ?_
          repeat walk_at "S"
          refine Br_f ?_
          repeat walk_at "S"
          refine ⟨P.length - (i + 1), by omega, D, U, i + 1, items, _, _, _, _, rfl, by omega, by omega, ?_, by assumption⟩
          rw [hstep, hend]
          exact hp
        · rw [e1, if_neg (by simp)] at hend
          refine l_getneg (xs := items) (isl (St.own (by assumption) (.tail .head))) (by omega) (by omega) (by omega) (x := .str (S [c']) t') (by rw [← e2]; congr 1; omega) (by with_unfolding_all rfl) ?_
          repeat walk_at "S"
          refine Br_t ?_
          repeat walk_at "S"
          refine Br_t ?_
          repeat walk_at "S"
          refine b_bnd (by assumption) (.head) (by omega) (fun _ => .tail .head) ?_
          intro _; walk_at "I"
          repeat walk_at "S"
          refine ⟨P.length - (i + 1), by omega, D, U, i + 1, items ++ [.ref X], _, _, _, _, rfl, by omega, by simp; omega, ?_, by assumption⟩
          rw [hstep, hend]
          exact hp.app (.star .nil)
    · have hc1 : c ≠ 42 := by simpa using h1
      repeat walk_at "S"
      walk_at "IF"
      refine Br_dec (fun h2 => ?_) (fun h2 => ?_)
      · have hc2 : c = 63 := by simpa using h2
        subst hc2
        repeat walk_at "S"
        refine b_bnd (by assumption) (.head) (by omega) (fun _ => .tail .head) ?_
        intro _; walk_at "I"
        repeat walk_at "S"
        refine ⟨P.length - (i + 1), by omega, D, U, i + 1, items ++ [.str (S [46]) t₂], _, _, _, _, rfl, by omega, by simp; omega, ?_, by assumption⟩
        rw [hstep]
        exact hp.app (.sign _ _ .nil)
      · have hc2 : c ≠ 63 := by simpa using h2
        repeat walk_at "S"
        walk_at "IF"
        refine Br_dec (fun h3 => ?_) (fun h3 => ?_)
        · have hc3 : c = 91 := by simpa using h3
          omega
        · repeat walk_at "S"
          refine c_escape rm₁ (St.cx' (by assumption)) (by omega) (by omega) fun t₄ s₄ af => ?_
          (rename St _ _ _ _ _ _ _ => stO); have stO := stO.go af
          repeat walk_at "S"
          refine b_bnd (by assumption) (.head) (by omega) (fun _ => .tail .head) ?_
          intro _; walk_at "I"
          repeat walk_at "S"
          refine ⟨P.length - (i + 1), by omega, D, U, i + 1, items ++ [.str (S [c]) t₄], _, _, _, _, rfl, by omega, by simp; omega, ?_, by assumption⟩
          rw [hstep]
          unfold partF
          rw [if_neg hc1, if_neg hc2]
          exact hp.app (.sign _ _ .nil)
  · have hi' : i = P.length := by omega
    subst hi'
    rw [List.take_length] at hp
    repeat walk_at "S"
    refine ⟨by simp, ?_⟩
    repeat walk_at "S"
    (rename St _ _ _ _ _ _ _ => stN)
    have ob := stN.ob _ (.tail _ (.head _))
    exact h D items k _ stN.after ob.2.2 ob.1 hp
-- F_join
/-- the parts that stand behind a head's: a star ahead of each -/
def encR : List (List Nat) → List (Option Nat)
  | [] => []
  | f :: r => none :: (f.map some ++ encR r)
def restT : List (List Nat) → List Nat
  | [] => []
  | [f] => [46, 42] ++ f
  | f :: g :: r => ([40, 63, 62, 46, 42, 63] ++ f ++ [41]) ++ restT (g :: r)
def MidOk : List (List Nat) → Prop
  | [] => True
  | [_] => True
  | f :: g :: r => f ≠ [] ∧ MidOk (g :: r)
theorem encR_nil {r : List (List Nat)} (h : encR r = []) : r = [] := by cases r with
  | nil => rfl
  | cons f r => cases h
theorem x_sub (f : List Nat) (r : List (List Nat)) (i : Nat) : (f.map some ++ encR r)[i]? = if h : i < f.length then some (some f[i]) else (encR r)[i - f.length]? := by
  split
  · rename_i h
    rw [List.getElem?_append_left (by simpa using h)]; simp [h]
  · rename_i h
    rw [List.getElem?_append_right (by simpa using h), List.length_map]
theorem singles (f : List Nat) : (f.map fun c => [c]).flatten = f := by induction f with
  | nil => rfl
  | cons a r ih => rw [List.map_cons, List.flatten_cons, ih]; rfl
theorem Parts.val {X : Addr} {vs : List Value} {ps : List (Option Nat)} (h : Parts X vs ps) {i : Nat} (hi : i < ps.length) : ∃ v, vs[i]? = some v := by
  have := h.len
  exact ⟨vs[i]'(by omega), List.getElem?_eq_getElem _⟩
theorem c_join {w : World} {A : Around} {s : Shared} {Q : Value → Shared → Prop} {a X : Addr} {vs : List Value} {k₀ : Nat} {f₀ : List Nat} {fs : List (List Nat)} (rm : Rm A 1) (cx : Cx w s.heap)
    (ha : s.heap.get? a = some (lstO vs k₀)) (hp : Parts X vs (f₀.map some ++ encR fs)) (hm : MidOk fs) (hz : (f₀.map some ++ encR fs).length ≤ 1000) (hz2 : (f₀ ++ restT fs).length ≤ 100000)
    (h : ∀ t s', After s s' → Q (.str (S ([40, 63, 115, 58] ++ (f₀ ++ restT fs) ++ [41, 92, 90])) t) s') : wpAny (model PR w) A (call (.ref 76) [.ref a, .ref X]) Q NoE s := by
  have hvl := hp.len
  refine enterR [Str.ofString "inp", Str.ofString "STAR"] [Str.ofString "res", Str.ofString "add", Str.ofString "i", Str.ofString "n", Str.ofString "fixed"]
    [(Str.ofString "inp", some (.ref a)), (Str.ofString "STAR", some (.ref X)), (Str.ofString "res", none), (Str.ofString "add", none), (Str.ofString "i", none), (Str.ofString "n", none), (Str.ofString "fixed", none)]
    rfl rfl (by decide) (k := 0) rm cx rfl (by kernel_rfl) (.of_eq rfl) (by decide) (by decide) rfl rfl rfl ?_
  intro s₁ L A' rm₁ kL st
  repeat walk_at "S"
  refine l_len (xs := vs) (by assumption) (isl (St.keep (by assumption) _ _ ha)) (by omega) ?_
  intro _; walk_at "I"
  repeat walk_at "S"
  -- the head
  refine x_cut (fun s' => ∃ (D U : Addr) (i : Nat) (items : List Value) (ys : List (List Nat)) (k : Nat) (t₁ t₃ : Tok), i = f₀.length ∧ items.length ≤ i ∧ Strs items ys ∧ ys.flatten = f₀ ∧
    St w s s.heap.get? L s' [(Str.ofString "inp", some (.ref a)), (Str.ofString "STAR", some (.ref X)), (Str.ofString "res", some (.ref D)), (Str.ofString "add", some (.ref U)), (Str.ofString "i", some (.int (i : Int) t₁)), (Str.ofString "n", some (.int (vs.length : Int) t₃)), (Str.ofString "fixed", none)] [(U, bndO D), (D, lstO items k)]) ?_ ?_
  · refine x_while (fun n s' => ∃ (D U : Addr) (i : Nat) (items : List Value) (ys : List (List Nat)) (k : Nat) (t₁ t₃ : Tok), n = f₀.length - i ∧ i ≤ f₀.length ∧ items.length ≤ i ∧ Strs items ys ∧ ys.flatten = f₀.take i ∧
      St w s s.heap.get? L s' [(Str.ofString "inp", some (.ref a)), (Str.ofString "STAR", some (.ref X)), (Str.ofString "res", some (.ref D)), (Str.ofString "add", some (.ref U)), (Str.ofString "i", some (.int (i : Int) t₁)), (Str.ofString "n", some (.int (vs.length : Int) t₃)), (Str.ofString "fixed", none)] [(U, bndO D), (D, lstO items k)])
      f₀.length ⟨_, _, 0, [], [], 0, _, _, rfl, Nat.zero_le _, Nat.zero_le _, .nil, rfl, by assumption⟩ ?_
    rintro n s₂ ⟨D, U, i, items, ys, k, t₁, t₃, rfl, hi, hl, hs, hf, st⟩
    have hget := x_sub f₀ fs i
    repeat walk_at "S"
    by_cases hi' : i < f₀.length
    · rw [dif_pos hi'] at hget
      obtain ⟨e, _⟩ | ⟨c, t', e1, hv⟩ := hp.at hget
      · cases e
      have hc : f₀[i] = c := by injection e1
      have hlen : i < vs.length := by rw [hvl, List.length_append, List.length_map]; omega
      rw [decide_eq_true (by omega)]
      refine Br_t ?_
      repeat walk_at "S"
      refine l_get (xs := vs) (isl (St.keep (by assumption) _ _ ha)) (by omega) (by omega) (by simpa using hv) (by with_unfolding_all rfl) ?_
      repeat walk_at "S"
      refine Br_t ?_
      repeat walk_at "S"
      refine Br_t ?_
      repeat walk_at "S"
      refine l_get (xs := vs) (isl (St.keep (by assumption) _ _ ha)) (by omega) (by omega) (by simpa using hv) (by with_unfolding_all rfl) ?_
      repeat walk_at "S"
      refine b_bnd (by assumption) (.head) (by omega) (fun _ => .tail .head) ?_
      intro _; walk_at "I"
      repeat walk_at "S"
      refine ⟨f₀.length - (i + 1), by omega, D, U, i + 1, items ++ [.str (S [c]) t'], ys ++ [[c]], _, _, _, rfl, by omega, by simp; omega, hs.snoc, ?_, by assumption⟩
      rw [List.flatten_append, hf, List.take_succ_eq_append_getElem hi', hc]; simp
    · have hi2 : i = f₀.length := by omega
      subst hi2
      rw [dif_neg (by omega), Nat.sub_self] at hget
      rw [List.take_length] at hf
      have fin : ∀ s', St w s s.heap.get? L s' [(Str.ofString "inp", some (.ref a)), (Str.ofString "STAR", some (.ref X)), (Str.ofString "res", some (.ref D)), (Str.ofString "add", some (.ref U)), (Str.ofString "i", some (.int (f₀.length : Int) t₁)), (Str.ofString "n", some (.int (vs.length : Int) t₃)), (Str.ofString "fixed", none)] [(U, bndO D), (D, lstO items k)] → _ :=
        fun s' st' => (⟨D, U, f₀.length, items, ys, k, t₁, t₃, rfl, hl, hs, hf, st'⟩ : ∃ (D U : Addr) (i : Nat) (items : List Value) (ys : List (List Nat)) (k : Nat) (t₁ t₃ : Tok), i = f₀.length ∧ items.length ≤ i ∧ Strs items ys ∧ ys.flatten = f₀ ∧
    St w s s.heap.get? L s' [(Str.ofString "inp", some (.ref a)), (Str.ofString "STAR", some (.ref X)), (Str.ofString "res", some (.ref D)), (Str.ofString "add", some (.ref U)), (Str.ofString "i", some (.int (i : Int) t₁)), (Str.ofString "n", some (.int (vs.length : Int) t₃)), (Str.ofString "fixed", none)] [(U, bndO D), (D, lstO items k)])
      cases fs with
      | nil =>
        have hlen : vs.length = f₀.length := by rw [hvl, List.length_append, List.length_map]; simp [encR]
        rw [decide_eq_false (by omega)]
        refine Br_f ?_
        refine Br_f ?_
        exact fin _ (by assumption)
      | cons f r =>
        have hlen : f₀.length < vs.length := by rw [hvl, List.length_append, List.length_map]; simp [encR]
        obtain ⟨_, hv⟩ | ⟨c, t', e1, hv⟩ := hp.at hget
        · rw [decide_eq_true (by omega)]
          refine Br_t ?_
          repeat walk_at "S"
          refine l_get (xs := vs) (isl (St.keep (by assumption) _ _ ha)) (by omega) (by omega) (by simpa using hv) (by with_unfolding_all rfl) ?_
          repeat walk_at "S"
          refine Br_f ?_
          refine Br_f ?_
          exact fin _ (by assumption)
        · cases e1
  · rintro s₂ ⟨D, U, i, items, ys, k, t₁, t₃, hi, hl, hs, hf, st⟩
    repeat walk_at "S"
    subst hi
    refine x_cut (fun s' => ∃ (D U : Addr) (items : List Value) (ys : List (List Nat)) (k : Nat) (t₁ t₃ : Tok) (uf : Option Value), items.length ≤ vs.length + vs.length ∧ Strs items ys ∧ ys.flatten = f₀ ++ restT fs ∧
      St w s s.heap.get? L s' [(Str.ofString "inp", some (.ref a)), (Str.ofString "STAR", some (.ref X)), (Str.ofString "res", some (.ref D)), (Str.ofString "add", some (.ref U)), (Str.ofString "i", some (.int (vs.length : Int) t₁)), (Str.ofString "n", some (.int (vs.length : Int) t₃)), (Str.ofString "fixed", uf)] [(U, bndO D), (D, lstO items k)]) ?_ ?_
    · refine x_while (fun n s' => ∃ (D U : Addr) (i : Nat) (items : List Value) (ys r : List (List Nat)) (k : Nat) (t₁ t₃ : Tok) (uf : Option Value), n = vs.length - i ∧ i ≤ vs.length ∧ items.length ≤ i + i ∧ Strs items ys ∧ MidOk r ∧
          (f₀.map some ++ encR fs).drop i = encR r ∧ ys.flatten ++ restT r = f₀ ++ restT fs ∧
          St w s s.heap.get? L s' [(Str.ofString "inp", some (.ref a)), (Str.ofString "STAR", some (.ref X)), (Str.ofString "res", some (.ref D)), (Str.ofString "add", some (.ref U)), (Str.ofString "i", some (.int (i : Int) t₁)), (Str.ofString "n", some (.int (vs.length : Int) t₃)), (Str.ofString "fixed", uf)] [(U, bndO D), (D, lstO items k)])
        (vs.length - f₀.length) ⟨D, U, f₀.length, items, ys, fs, k, t₁, t₃, _, rfl, by rw [hvl, List.length_append, List.length_map]; omega, by omega, hs, hm, by rw [List.drop_append_of_le_length (by simp), List.drop_of_length_le (by simp)]; rfl, by rw [hf], by assumption⟩ ?_
      rintro n s₃ ⟨D, U, i, items, ys, r, k, t₁, t₃, uf, rfl, hi, hl, hs, hm, hd, ht, st⟩
      repeat walk_at "S"
      refine Br_dec (fun hk => ?_) (fun hk => ?_)
      · have hi' : i < vs.length := by omega
        have get : ∀ j, (f₀.map some ++ encR fs)[i + j]? = (encR r)[j]? := fun j => by rw [← hd, List.getElem?_drop]
        have hrl : vs.length - i = (encR r).length := by rw [← hd, List.length_drop, hvl]
        cases r with
        | nil => simp [encR] at hrl; omega
        | cons f r =>
          have len2 : vs.length = i + 1 + (f.length + (encR r).length) := by simp [encR] at hrl; omega
          have h0 := get 0
          obtain ⟨_, hv⟩ | ⟨c, t', e1, hv⟩ := hp.at (i := i) (y := none) (by simpa [encR] using h0)
          · repeat walk_at "S"
            refine l_get (xs := vs) (isl (St.keep (by assumption) _ _ ha)) (by omega) (by omega) (by simpa using hv) (by with_unfolding_all rfl) ?_
            repeat walk_at "S"
            refine ⟨rfl, ?_⟩
            repeat walk_at "S"
            walk_at "IF"
            refine Br_dec (fun hk2 => ?_) (fun hk2 => ?_)
            · have hfz : f = [] := List.length_eq_zero_iff.mp (by omega)
              have hrz : r = [] := encR_nil (List.length_eq_zero_iff.mp (by omega))
              subst hfz hrz
              repeat walk_at "S"
              refine b_bnd (by assumption) (.head) (by omega) (fun _ => .tail .head) ?_
              intro _; walk_at "I"
              repeat walk_at "S"
              have e : (i : Int) + 1 = (vs.length : Int) := by omega
              (rename St _ _ _ _ _ _ _ => stN); rw [e] at stN
              refine ⟨D, U, _, ys ++ [[46, 42]], _, _, _, _, ?_, hs.snoc, ?_, stN⟩
              · simp; omega
              · rw [← ht, List.flatten_append]; simp [restT]
            · have hfn : f ≠ [] := by
                intro hfz
                subst hfz
                cases r with
                | nil => simp [encR] at len2; omega
                | cons g r => exact hm.1 rfl
              repeat walk_at "S"
              have hfl : 0 < f.length := List.length_pos_iff.mpr hfn
              have at' : ∀ j, (encR (f :: r))[1 + j]? = (f.map some ++ encR r)[j]? := fun j => by rw [Nat.add_comm]; rfl
              have get2 : ∀ j, (f₀.map some ++ encR fs)[i + 1 + j]? = if h : j < f.length then some (some f[j]) else (encR r)[j - f.length]? := fun j => by
                rw [Nat.add_assoc, get, at', x_sub]
              have h1 := get2 0
              rw [dif_pos hfl] at h1
              obtain ⟨e1, _⟩ | ⟨c, t', e1, hv1⟩ := hp.at h1
              · cases e1
              refine l_get (xs := vs) (isl (St.keep (by assumption) _ _ ha)) (by omega) (by omega) (x := .str (S [c]) t') (by rw [← hv1]; congr 1) (by with_unfolding_all rfl) ?_
              repeat walk_at "S"
              refine ⟨rfl, ?_⟩
              repeat walk_at "S"
              -- the fixed text
              refine x_cut (fun s' => ∃ (F : Addr) (gi : List Value) (gy : List (List Nat)) (kf : Nat) (t₁ : Tok), Strs gi gy ∧ gy.flatten = f ∧
                St w s s.heap.get? L s' [(Str.ofString "inp", some (.ref a)), (Str.ofString "STAR", some (.ref X)), (Str.ofString "res", some (.ref D)), (Str.ofString "add", some (.ref U)), (Str.ofString "i", some (.int ((i + 1 + f.length : Nat) : Int) t₁)), (Str.ofString "n", some (.int (vs.length : Int) t₃)), (Str.ofString "fixed", some (.ref F))] [(F, lstO gi kf), (U, bndO D), (D, lstO items k)]) ?_ ?_
              · refine x_while (fun n s' => ∃ (F : Addr) (j : Nat) (gi : List Value) (gy : List (List Nat)) (kf : Nat) (t₁ : Tok), n = f.length - j ∧ j ≤ f.length ∧ gi.length ≤ j ∧ Strs gi gy ∧ gy.flatten = f.take j ∧
                    St w s s.heap.get? L s' [(Str.ofString "inp", some (.ref a)), (Str.ofString "STAR", some (.ref X)), (Str.ofString "res", some (.ref D)), (Str.ofString "add", some (.ref U)), (Str.ofString "i", some (.int ((i + 1 + j : Nat) : Int) t₁)), (Str.ofString "n", some (.int (vs.length : Int) t₃)), (Str.ofString "fixed", some (.ref F))] [(F, lstO gi kf), (U, bndO D), (D, lstO items k)])
                  f.length ⟨_, 0, [], [], 0, _, rfl, Nat.zero_le _, Nat.zero_le _, .nil, rfl, by assumption⟩ ?_
                rintro n s₄ ⟨F, j, gi, gy, kf, t₁, rfl, hj, hgl, hgs, hgf, st⟩
                have hget := get2 j
                repeat walk_at "S"
                by_cases hj' : j < f.length
                · rw [dif_pos hj'] at hget
                  obtain ⟨e, _⟩ | ⟨c, t', e1, hv⟩ := hp.at hget
                  · cases e
                  have hc : f[j] = c := by injection e1
                  rw [decide_eq_true (by omega)]
                  refine Br_t ?_
                  repeat walk_at "S"
                  refine l_get (xs := vs) (isl (St.keep (by assumption) _ _ ha)) (by omega) (by omega) (by rw [Int.toNat_natCast]; exact hv) (by with_unfolding_all rfl) ?_
                  repeat walk_at "S"
                  refine Br_t ?_
                  repeat walk_at "S"
                  refine Br_t ?_
                  repeat walk_at "S"
                  refine m_append (St.own (by assumption) .head) ?_
                  repeat walk_at "S"
                  refine l_get (xs := vs) (isl (St.keep (by assumption) _ _ ha)) (by omega) (by omega) (by rw [Int.toNat_natCast]; exact hv) (by with_unfolding_all rfl) ?_
                  repeat walk_at "S"
                  refine b_app (by assumption) (by omega) (fun _ => .head) ?_
                  intro _; walk_at "I"
                  repeat walk_at "S"
                  (rename St _ _ _ _ _ _ _ => stN); rw [show ((i + 1 + j : Nat) : Int) + 1 = ((i + 1 + (j + 1) : Nat) : Int) by omega] at stN
                  refine ⟨f.length - (j + 1), by omega, F, j + 1, gi ++ [.str (S [c]) t'], gy ++ [[c]], _, _, rfl, by omega, by simp; omega, hgs.snoc, ?_, stN⟩
                  rw [List.flatten_append, hgf, List.take_succ_eq_append_getElem hj', hc]; simp
                · have hj2 : j = f.length := by omega
                  subst hj2
                  rw [dif_neg (by omega), Nat.sub_self] at hget
                  rw [List.take_length] at hgf
                  cases r with
                  | nil =>
                    have : vs.length = i + 1 + f.length := by simp [encR] at len2; omega
                    rw [decide_eq_false (by omega)]
                    refine Br_f ?_
                    refine Br_f ?_
                    exact ⟨F, gi, gy, kf, _, hgs, hgf, by assumption⟩
                  | cons g r =>
                    have : i + 1 + f.length < vs.length := by simp [encR] at len2; omega
                    obtain ⟨_, hv⟩ | ⟨c, t', e1, hv⟩ := hp.at hget
                    · rw [decide_eq_true (by omega)]
                      refine Br_t ?_
                      repeat walk_at "S"
                      refine l_get (xs := vs) (isl (St.keep (by assumption) _ _ ha)) (by omega) (by omega) (by rw [Int.toNat_natCast]; exact hv) (by with_unfolding_all rfl) ?_
                      repeat walk_at "S"
                      refine Br_f ?_
                      refine Br_f ?_
                      exact ⟨F, gi, gy, kf, _, hgs, hgf, by assumption⟩
                    · cases e1
              · rintro s₄ ⟨F, gi, gy, kf, t₁, hgs, hgf, st⟩
                repeat walk_at "S"
                refine s_join (by assumption) (St.own (by assumption) .head) hgs (by rw [hgf]; omega) ?_
                intro _; walk_at "I"
                rw [hgf]
                repeat walk_at "S"
                walk_at "IF"
                refine Br_dec (fun hk3 => ?_) (fun hk3 => ?_)
                · have hrz : r = [] := encR_nil (List.length_eq_zero_iff.mp (by omega))
                  subst hrz
                  repeat walk_at "S"
                  refine b_bnd (by assumption) (.tail .head) (by omega) (fun _ => .tail (.tail .head)) ?_
                  intro _; walk_at "I"
                  repeat walk_at "S"
                  refine b_bnd (by assumption) (.tail .head) (by simp; omega) (fun _ => .tail (.tail .head)) ?_
                  intro _; walk_at "I"
                  repeat walk_at "S"
                  (rename St _ _ _ _ _ _ _ => stN)
                  refine ⟨vs.length - (i + 1 + f.length), by omega, D, U, i + 1 + f.length, _, (ys ++ [[46, 42]]) ++ [f], [], _, _, _, _, rfl, by omega, ?_, hs.snoc.snoc, trivial, ?_, ?_, stN.less (List.sublist_cons_self _ _)⟩
                  · simp; omega
                  · rw [List.drop_of_length_le (by omega)]; rfl
                  · rw [← ht]; simp [restT]
                · have hrn : r ≠ [] := by
                    intro e
                    subst e
                    simp [encR] at len2; omega
                  repeat walk_at "S"
                  refine fmt_q (by assumption) (by simp only [List.length_cons, List.length_nil]; omega) ?_
                  intro _; walk_at "I"
                  repeat walk_at "S"
                  refine b_bnd (by assumption) (.tail .head) (by omega) (fun _ => .tail (.tail .head)) ?_
                  intro _; walk_at "I"
                  repeat walk_at "S"
                  (rename St _ _ _ _ _ _ _ => stN)
                  refine ⟨vs.length - (i + 1 + f.length), by omega, D, U, i + 1 + f.length, _, ys ++ [[40, 63, 62, 46, 42, 63] ++ f ++ [41]], r, _, _, _, _, rfl, by omega, ?_, hs.snoc, ?_, ?_, ?_, stN.less (List.sublist_cons_self _ _)⟩
                  · simp; omega
                  · cases r with
                    | nil => trivial
                    | cons g r => exact hm.2
                  · rw [← List.drop_drop, ← List.drop_drop, hd]
                    show (f.map some ++ encR r).drop f.length = _
                    rw [List.drop_append_of_le_length (by simp), List.drop_of_length_le (by simp)]; rfl
                  · rw [← ht]
                    cases r with
                    | nil => exact absurd rfl hrn
                    | cons g r => simp [restT]
          · cases e1
      · have hi' : i = vs.length := by omega
        subst hi'
        rw [List.drop_of_length_le (by omega)] at hd
        have := encR_nil hd.symm
        subst this
        repeat walk_at "S"
        exact ⟨D, U, items, ys, k, t₁, t₃, uf, by omega, hs, by rw [← ht]; simp [restT], by assumption⟩
    · rintro s₃ ⟨D, U, items, ys, k, t₁, t₃, uf, hl, hs, hf, st⟩
      repeat walk_at "S"
      refine ⟨by simp, ?_⟩
      repeat walk_at "S"
      refine s_join (by assumption) (St.own (by assumption) (.tail .head)) hs (by rw [hf]; omega) ?_
      intro _; walk_at "I"
      rw [hf]
      repeat walk_at "S"
      refine fmt_q (by assumption) (by simp only [List.length_cons, List.length_nil]; omega) ?_
      intro _; walk_at "I"
      repeat walk_at "S"
      exact h _ _ (St.after (by assumption))
-- F_trans
theorem c_translate {w : World} {A : Around} {s : Shared} {Q : Value → Shared → Prop} {P f₀ : List Nat} {fs : List (List Nat)} {t : Tok} (rm : Rm A 3) (cx : Cx w s.heap) (hP : ∀ c ∈ P, c = 42 ∨ c = 63 ∨ (65 ≤ c ∧ c ≤ 80)) (hz : P.length ≤ 1000)
    (hp : partsF P = f₀.map some ++ encR fs) (hm : MidOk fs) (hz1 : (f₀.map some ++ encR fs).length ≤ 1000) (hz2 : (f₀ ++ restT fs).length ≤ 100000)
    (h : ∀ t s', After s s' → Q (.str (S ([40, 63, 115, 58] ++ (f₀ ++ restT fs) ++ [41, 92, 90])) t) s') : wpAny (model PR w) A (call (.ref 50) [.str (S P) t]) Q NoE s := by
  refine enterR [Str.ofString "pat"] [Str.ofString "STAR", Str.ofString "parts"] [(Str.ofString "pat", some (.str (S P) t)), (Str.ofString "STAR", none), (Str.ofString "parts", none)]
    rfl rfl (by decide) (k := 2) rm cx rfl (by kernel_rfl) (.of_eq rfl) (by decide) (by decide) rfl rfl rfl ?_
  intro s₁ L A' rm₁ kL st
  repeat walk_at "S"
  refine b_object (by assumption) ?_
  intro X; walk_at "I"
  repeat walk_at "S"
  refine c__translate rm₁ (St.cx' (by assumption)) hP hz (St.own (by assumption) .head) fun D items k s₂ af hD hI hparts => ?_
  (rename St _ _ _ _ _ _ _ => stO); have stO := stO.new af hD hI
  rw [hp] at hparts
  repeat walk_at "S"
  refine c_join (rm₁.less (by omega)) (St.cx' (by assumption)) (St.own (by assumption) .head) hparts hm hz1 hz2 fun t₅ s₃ af₃ => ?_
  (rename St _ _ _ _ _ _ _ => stN)
  repeat walk_at "S"
  exact h _ _ (stN.after.trans af₃)
-- F_read
def okc (c : Nat) : Prop := c = 46 ∨ (65 ≤ c ∧ c ≤ 80)
/-- where the reading stands: the finished pieces, the one under way, held, last, the rest of the text -/
inductive Rd (T : List (List Nat)) : List (List Nat) → List Nat → Bool → Bool → List Nat → Prop
  | head (g x : List Nat) (fs : List (List Nat)) : T = (g ++ x) :: fs → Rd T [] g false false (x ++ restT fs)
  | mid (gs : List (List Nat)) (g : List Nat) (r : List (List Nat)) : gs ≠ [] → r ≠ [] → T = gs ++ [g] ++ r → Rd T gs g false false (restT r)
  | held (gs : List (List Nat)) (g x : List Nat) (r : List (List Nat)) : gs ≠ [] → r ≠ [] → T = gs ++ [g ++ x] ++ r → Rd T gs g true false (x ++ [41] ++ restT r)
  | last (gs : List (List Nat)) (g x : List Nat) : gs ≠ [] → T = gs ++ [g ++ x] → Rd T gs g false true x
abbrev GRP : List Nat := [40, 63, 62, 46, 42, 63]
theorem restT_cases (r : List (List Nat)) : (r = [] ∧ restT r = []) ∨ (∃ f, r = [f] ∧ restT r = 46 :: 42 :: f) ∨ (∃ f g r', r = f :: g :: r' ∧ restT r = 40 :: 63 :: 62 :: 46 :: 42 :: 63 :: (f ++ [41] ++ restT (g :: r'))) := by
  match r with
  | [] => exact .inl ⟨rfl, rfl⟩
  | [f] => exact .inr (.inl ⟨f, rfl, rfl⟩)
  | f :: g :: r' => exact .inr (.inr ⟨f, g, r', rfl, by simp [restT]⟩)
section
variable {T gs : List (List Nat)} {g rem : List Nat} {h l : Bool}
theorem ok_of {x : List Nat} {c : Nat} (hT : ∀ f ∈ T, ∀ c ∈ f, okc c) (hm : ∃ f ∈ T, c ∈ f) : c ≠ 40 ∧ c ≠ 41 ∧ c ≠ 42 := by
  obtain ⟨f, h1, h2⟩ := hm
  have := hT f h1 c h2
  unfold okc at this; omega
theorem Rd.one (R : Rd T gs g false false rem) (hT : ∀ f ∈ T, ∀ c ∈ f, okc c) (hb : rem.take 6 = GRP) : Rd T (gs ++ [g]) [] true false (rem.drop 6) := by
  have key : ∀ r, T = gs ++ [g] ++ r → restT r = rem → Rd T (gs ++ [g]) [] true false (rem.drop 6) := by
    intro r e1 e2
    rcases restT_cases r with ⟨rfl, e⟩ | ⟨f, rfl, e⟩ | ⟨f, g', r', rfl, e⟩
    · rw [← e2, e] at hb; simp [GRP] at hb
    · rw [← e2, e] at hb; simp [GRP] at hb
    · rw [← e2, e]
      show Rd T (gs ++ [g]) [] true false (f ++ [41] ++ restT (g' :: r'))
      exact .held (gs ++ [g]) [] f (g' :: r') (by simp) (by simp) (by rw [e1]; simp)
  cases R with
  | head g x fs e =>
    cases x with
    | nil => exact key fs (by simpa using e) rfl
    | cons c x =>
      have := ok_of (x := x) (c := c) hT ⟨_, e ▸ List.mem_cons_self .., by simp⟩
      simp [GRP] at hb; omega
  | mid gs g r h1 h2 e => exact key r e rfl
theorem Rd.two (R : Rd T gs g false false rem) (hT : ∀ f ∈ T, ∀ c ∈ f, okc c) (hb : rem.take 2 = [46, 42]) : Rd T (gs ++ [g]) [] false true (rem.drop 2) := by
  have key : ∀ r, T = gs ++ [g] ++ r → restT r = rem → Rd T (gs ++ [g]) [] false true (rem.drop 2) := by
    intro r e1 e2
    rcases restT_cases r with ⟨rfl, e⟩ | ⟨f, rfl, e⟩ | ⟨f, g', r', rfl, e⟩
    · rw [← e2, e] at hb; simp at hb
    · rw [← e2, e]
      exact .last (gs ++ [g]) [] f (by simp) (by rw [e1]; simp)
    · rw [← e2, e] at hb; simp at hb
  cases R with
  | head g x fs e =>
    cases x with
    | nil => exact key fs (by simpa using e) rfl
    | cons c x =>
      exfalso
      cases x with
      | nil =>
        rcases restT_cases fs with ⟨rfl, e⟩ | ⟨f, rfl, e⟩ | ⟨f, g', r', rfl, e⟩ <;> rw [e] at hb <;> simp at hb
      | cons d x =>
        have := ok_of (x := x) (c := d) hT ⟨_, e ▸ List.mem_cons_self .., by simp⟩
        simp at hb; omega
  | mid gs g r h1 h2 e => exact key r e rfl
theorem Rd.three (R : Rd T gs g true l rem) (hT : ∀ f ∈ T, ∀ c ∈ f, okc c) (hb : rem[0]? = some 41) : Rd T gs g false l (rem.drop 1) := by
  cases R with
  | held gs g x r h1 h2 e =>
    cases x with
    | nil => exact .mid gs g r h1 h2 (by rw [e]; simp)
    | cons c x =>
      have := ok_of (x := x) (c := c) hT ⟨g ++ c :: x, by rw [e]; simp, by simp⟩
      simp at hb; omega
theorem Rd.four (R : Rd T gs g false false rem) (hg : gs ≠ []) (hn : rem ≠ []) (h1 : rem.take 6 ≠ GRP) (h2 : rem.take 2 ≠ [46, 42]) : False := by
  cases R with
  | head => exact hg rfl
  | mid gs g r _ h3 e =>
    rcases restT_cases r with ⟨rfl, e⟩ | ⟨f, rfl, e⟩ | ⟨f, g', r', rfl, e⟩
    · exact h3 rfl
    · rw [e] at h2; simp at h2
    · rw [e] at h1; simp [GRP] at h1
theorem Rd.five (R : Rd T gs g h l rem) {c : Nat} (hc : rem[0]? = some c) (h1 : ¬ (rem.take 6 = GRP ∧ h = false ∧ l = false)) (h2 : ¬ (rem.take 2 = [46, 42] ∧ h = false ∧ l = false))
    (h3 : ¬ (c = 41 ∧ h = true)) (h4 : ¬ (gs ≠ [] ∧ h = false ∧ l = false)) : Rd T gs (g ++ [c]) h l (rem.drop 1) := by
  cases R with
  | head g x fs e =>
    cases x with
    | nil =>
      exfalso
      rcases restT_cases fs with ⟨rfl, e⟩ | ⟨f, rfl, e⟩ | ⟨f, g', r', rfl, e⟩
      · simp [restT] at hc
      · exact h2 ⟨by simp [e], rfl, rfl⟩
      · exact h1 ⟨by simp [e, GRP], rfl, rfl⟩
    | cons d x =>
      have : d = c := by simpa using hc
      subst this
      exact .head (g ++ [d]) x fs (by rw [e]; simp)
  | mid gs g r h5 _ _ => exact absurd ⟨h5, rfl, rfl⟩ h4
  | held gs g x r h5 h6 e =>
    cases x with
    | nil => exact absurd ⟨by simpa using hc.symm, rfl⟩ h3
    | cons d x =>
      have : d = c := by simpa using hc
      subst this
      exact .held gs (g ++ [d]) x r h5 h6 (by rw [e]; simp)
  | last gs g x h5 e =>
    cases rem with
    | nil => simp at hc
    | cons d x =>
      have : d = c := by simpa using hc
      subst this
      exact .last gs (g ++ [d]) x h5 (by rw [e]; simp)
theorem Rd.fin (R : Rd T gs g h l []) : h = false ∧ (gs ≠ [] → l = true) ∧ T = gs ++ [g] := by
  generalize hr : ([] : List Nat) = rem at R
  cases R with
  | head g x fs e =>
    obtain ⟨rfl, h2⟩ := List.append_eq_nil_iff.mp hr.symm
    rcases restT_cases fs with ⟨rfl, e2⟩ | ⟨f, rfl, e2⟩ | ⟨f, g', r', rfl, e2⟩
    · exact ⟨rfl, fun q => absurd rfl q, by simpa using e⟩
    · rw [e2] at h2; cases h2
    · rw [e2] at h2; cases h2
  | mid gs g r _ h3 e =>
    rcases restT_cases r with ⟨rfl, e2⟩ | ⟨f, rfl, e2⟩ | ⟨f, g', r', rfl, e2⟩
    · exact absurd rfl h3
    · rw [e2] at hr; cases hr
    · rw [e2] at hr; cases hr
  | held gs g x r h5 h6 e => simp at hr
  | last gs g x h5 e => subst hr; exact ⟨rfl, fun _ => rfl, by simpa using e⟩
end
theorem Strs.relast {pre : List Value} {g c : List Nat} {t u : Tok} {gs : List (List Nat)} (h : Strs (pre ++ [.str (S g) t]) (gs ++ [g])) : Strs (pre ++ [.str (S (g ++ c)) u]) (gs ++ [g ++ c]) := by
  have : Strs pre gs := by
    have hl := h.len
    rw [List.length_append, List.length_append] at hl
    induction pre generalizing gs with
    | nil => cases gs with
      | nil => exact .nil
      | cons a r => simp at hl
    | cons v pre ih => cases gs with
      | nil => simp at hl
      | cons a r =>
        cases h with
        | cons _ _ h => exact .cons _ _ (ih h (by simpa using hl))
  exact this.snoc
theorem clip_mid (n : Nat) {i j : Int} (x : List Nat) (hn : n = x.length) (hi : 0 ≤ i) (hj : 0 ≤ j) : clip n (some i) (some j) x = (x.drop i.toNat).take (j.toNat - i.toNat) := by
  subst hn; exact take_drop_clip x hi hj
theorem c_read {w : World} {A : Around} {s : Shared} {Q : Value → Shared → Prop} {f₀ : List Nat} {fs : List (List Nat)} {t : Tok} (rm : Rm A 1) (cx : Cx w s.heap)
    (hT : ∀ f ∈ f₀ :: fs, ∀ c ∈ f, okc c) (hz : (f₀ ++ restT fs).length ≤ 100000)
    (h : ∀ D items k s', After s s' → s.heap.get? D = none → s'.heap.get? D = some (lstO items k) → Strs items (f₀ :: fs) → Q (.ref D) s') :
    wpAny (model PR w) A (call (.ref 124) [.str (S ([40, 63, 115, 58] ++ (f₀ ++ restT fs) ++ [41, 92, 90])) t]) Q NoE s := by
  have rd0 : Rd (f₀ :: fs) [] [] false false (f₀ ++ restT fs) := .head [] f₀ fs rfl
  generalize hB : f₀ ++ restT fs = B at hz rd0
  generalize hTT : f₀ :: fs = T at hT h rd0
  have hX1 : ∀ n, n = ([40, 63, 115, 58] ++ B ++ [41, 92, 90]).length → clip n none (some 4) ([40, 63, 115, 58] ++ B ++ [41, 92, 90]) = [40, 63, 115, 58] := by
    intro n hn
    unfold clip
    have : clipAt n 4 = 4 := by unfold clipAt; simp at hn; omega
    show (List.drop 0 _).take (clipAt n 4 - 0) = _
    rw [this]; rfl
  have hX2 : ∀ n, n = ([40, 63, 115, 58] ++ B ++ [41, 92, 90]).length → clip n (some (-3)) none ([40, 63, 115, 58] ++ B ++ [41, 92, 90]) = [41, 92, 90] := by
    intro n hn
    unfold clip
    have : clipAt n (-3) = 4 + B.length := by unfold clipAt; simp at hn; omega
    show (List.drop (clipAt n (-3)) _).take (n - clipAt n (-3)) = _
    rw [this, List.drop_append_of_le_length (by simp; omega), List.drop_of_length_le (by simp; omega)]
    simp at hn
    rw [List.nil_append, List.take_of_length_le (by simp; omega)]
  have hX3 : ∀ n, n = ([40, 63, 115, 58] ++ B ++ [41, 92, 90]).length → clip n (some 4) (some (-3)) ([40, 63, 115, 58] ++ B ++ [41, 92, 90]) = B := by
    intro n hn
    unfold clip
    have h1 : clipAt n (-3) = 4 + B.length := by unfold clipAt; simp at hn; omega
    have h2 : clipAt n 4 = 4 := by unfold clipAt; simp at hn; omega
    show (List.drop (clipAt n 4) _).take (clipAt n (-3) - clipAt n 4) = _
    rw [h1, h2]
    show ((B ++ [41, 92, 90]) : List Nat).take _ = B
    rw [show 4 + B.length - 4 = B.length by omega, List.take_left']
    rfl
  generalize hX : [40, 63, 115, 58] ++ B ++ [41, 92, 90] = X at hX1 hX2 hX3
  have hXl : X.length = B.length + 7 := by rw [← hX]; simp
  refine enterR [Str.ofString "text"] [Str.ofString "body", Str.ofString "segments", Str.ofString "held", Str.ofString "last", Str.ofString "at"]
    [(Str.ofString "text", some (.str (S X) t)), (Str.ofString "body", none), (Str.ofString "segments", none), (Str.ofString "held", none), (Str.ofString "last", none), (Str.ofString "at", none)]
    rfl rfl (by decide) (k := 0) rm cx rfl (by kernel_rfl) (.of_eq rfl) (by decide) (by decide) rfl rfl rfl ?_
  intro s₁ L A' rm₁ kL st
  repeat walk_at "S"
  walk_at "IF"
  refine Br_f ?_
  repeat walk_at "S"
  refine s_slcE none (some (4, _)) (by assumption) (by omega) (hX1 _ rfl) (by with_unfolding_all rfl) ?_
  intro _; walk_at "I"
  repeat walk_at "S"
  refine Br_f ?_
  repeat walk_at "S"
  refine s_slcE (some (-3, _)) none (by assumption) (by omega) (hX2 _ rfl) (by with_unfolding_all rfl) ?_
  intro _; walk_at "I"
  repeat walk_at "S"
  refine Br_f ?_
  repeat walk_at "S"
  refine Br_f ?_
  repeat walk_at "S"
  refine s_slcE (some (4, _)) (some (-3, _)) (by assumption) (by omega) (hX3 _ rfl) (by with_unfolding_all rfl) ?_
  intro _; walk_at "I"
  repeat walk_at "S"
  refine x_cut (fun s' => ∃ (D : Addr) (gs : List (List Nat)) (g : List Nat) (hl la : Bool) (items : List Value) (k : Nat) (tb ta : Tok), Rd T gs g hl la [] ∧ Strs items (gs ++ [g]) ∧ gs.length ≤ B.length ∧ St w s s.heap.get? L s' [(Str.ofString "text", some (.str (S X) t)), (Str.ofString "body", some (.str (S B) tb)), (Str.ofString "segments", some (.ref D)), (Str.ofString "held", some (.bool hl)), (Str.ofString "last", some (.bool la)), (Str.ofString "at", some (.int ((B.length : Nat) : Int) ta))] [(D, lstO items k)]) ?_ ?_
  · refine x_while (fun n s' => ∃ (D : Addr) (gs : List (List Nat)) (g : List Nat) (hl la : Bool) (p : Nat) (items : List Value) (k : Nat) (tb ta : Tok), n = B.length - p ∧ p ≤ B.length ∧ gs.length ≤ p ∧ g.length ≤ p ∧ Rd T gs g hl la (B.drop p) ∧ Strs items (gs ++ [g]) ∧ St w s s.heap.get? L s' [(Str.ofString "text", some (.str (S X) t)), (Str.ofString "body", some (.str (S B) tb)), (Str.ofString "segments", some (.ref D)), (Str.ofString "held", some (.bool hl)), (Str.ofString "last", some (.bool la)), (Str.ofString "at", some (.int ((p : Nat) : Int) ta))] [(D, lstO items k)])
      B.length ⟨_, [], [], false, false, 0, _, _, _, _, rfl, Nat.zero_le _, Nat.zero_le _, Nat.zero_le _, rd0, .cons [] _ .nil, by assumption⟩ ?_
    rintro n s₂ ⟨D, gs, g, hl, la, p, items, k, tb, ta, rfl, hp, hgl, hg2, R, hs, st⟩
    have hil := hs.len
    rw [List.length_append, List.length_singleton] at hil
    repeat walk_at "S"
    refine s_len (by assumption) (by omega) ?_
    intro _; walk_at "I"
    repeat walk_at "S"
    refine Br_dec (fun hk => ?_) (fun hk => ?_)
    · have hp' : p < B.length := by omega
      have hne : B.drop p ≠ [] := by intro e; have := congrArg List.length e; rw [List.length_drop] at this; simp at this; omega
      obtain ⟨c, hc⟩ : ∃ c, B[p]? = some c := ⟨_, List.getElem?_eq_getElem hp'⟩
      have hc0 : (B.drop p)[0]? = some c := by rw [List.getElem?_drop]; exact hc
      have h6 : ∀ j : Nat, clip B.length (some (p : Int)) (some ((p : Int) + (j : Int))) B = (B.drop p).take j := fun j => by rw [clip_mid _ B rfl (by omega) (by omega)]; congr 1 <;> omega
      have dd : ∀ j, (B.drop p).drop j = B.drop (p + j) := fun j => List.drop_drop ..
      generalize hrem : B.drop p = rem at R hne hc0 h6 dd
      repeat walk_at "S"
      with_reducible refine x_if ?_
      generalize hb1 : decide (rem.take 6 = GRP) = b1
      refine t_cutb (b1 && !hl && !la) (fun s' => ∃ ta, St w s s.heap.get? L s' [(Str.ofString "text", some (.str (S X) t)), (Str.ofString "body", some (.str (S B) tb)), (Str.ofString "segments", some (.ref D)), (Str.ofString "held", some (.bool hl)), (Str.ofString "last", some (.bool la)), (Str.ofString "at", some (.int ((p : Nat) : Int) ta))] [(D, lstO items k)]) ?_ ?_
      · repeat walk_at "S"
        refine s_slcE (y := rem.take 6) (some (_, _)) (some (_, _)) (by assumption) (by omega) (h6 6) (by with_unfolding_all rfl) ?_
        intro _; walk_at "I"
        repeat walk_at "S"
        rw [hb1]
        refine ⟨fun e1 => ?_, fun e1 => ?_⟩
        · repeat walk_at "S"
          refine ⟨fun e2 => ?_, fun e2 => ?_⟩
          · repeat walk_at "S"
            refine ⟨fun e3 => ?_, fun e3 => ?_⟩
            · repeat walk_at "S"
              exact ⟨by rw [e1, e2, e3]; rfl, _, by assumption⟩
            · exact ⟨by rw [e1, e2, e3]; rfl, _, by assumption⟩
          · exact ⟨by rw [e1, e2]; rfl, _, by assumption⟩
        · exact ⟨by rw [e1]; rfl, _, by assumption⟩
      rintro s₃ ⟨ta, st₃⟩
      refine ⟨fun e => ?_, fun e1 => ?_⟩
      · obtain ⟨⟨e1, e2⟩, e3⟩ : (b1 = true ∧ hl = false) ∧ la = false := by simpa using e
        subst e2 e3
        rw [e1] at hb1
        have R' := R.one hT (of_decide_eq_true hb1)
        rw [dd] at R'
        have hp6 : p + 6 ≤ B.length := by have := congrArg List.length (of_decide_eq_true hb1); rw [← hrem, List.length_take, List.length_drop] at this; simp [GRP] at this; omega
        repeat walk_at "S"
        refine m_append (St.own (by assumption) .head) ?_
        repeat walk_at "S"
        refine b_app (by assumption) (by omega) (fun _ => .head) ?_
        intro _; walk_at "I"
        repeat walk_at "S"
        refine ⟨B.length - (p + 6), by omega, D, gs ++ [g], [], true, false, p + 6, _, _, _, _, rfl, hp6, by simp; omega, by simp, R', hs.snoc, by assumption⟩
      · repeat walk_at "S"
        replace e1 : ¬ (rem.take 6 = GRP ∧ hl = false ∧ la = false) := fun ⟨q1, q2, q3⟩ => by rw [q2, q3, ← hb1, decide_eq_true q1] at e1; cases e1
        clear hb1
        with_reducible refine x_if ?_
        generalize hb2 : decide (rem.take 2 = [46, 42]) = b2
        refine t_cutb (b2 && !hl && !la) (fun s' => ∃ ta, St w s s.heap.get? L s' [(Str.ofString "text", some (.str (S X) t)), (Str.ofString "body", some (.str (S B) tb)), (Str.ofString "segments", some (.ref D)), (Str.ofString "held", some (.bool hl)), (Str.ofString "last", some (.bool la)), (Str.ofString "at", some (.int ((p : Nat) : Int) ta))] [(D, lstO items k)]) ?_ ?_
        · repeat walk_at "S"
          refine s_slcE (y := rem.take 2) (some (_, _)) (some (_, _)) (by assumption) (by omega) (h6 2) (by with_unfolding_all rfl) ?_
          intro _; walk_at "I"
          repeat walk_at "S"
          rw [hb2]
          refine ⟨fun e1 => ?_, fun e1 => ?_⟩
          · repeat walk_at "S"
            refine ⟨fun e2 => ?_, fun e2 => ?_⟩
            · repeat walk_at "S"
              refine ⟨fun e3 => ?_, fun e3 => ?_⟩
              · repeat walk_at "S"
                exact ⟨by rw [e1, e2, e3]; rfl, _, by assumption⟩
              · exact ⟨by rw [e1, e2, e3]; rfl, _, by assumption⟩
            · exact ⟨by rw [e1, e2]; rfl, _, by assumption⟩
          · exact ⟨by rw [e1]; rfl, _, by assumption⟩
        rintro s₃ ⟨ta, st₄⟩
        refine ⟨fun e => ?_, fun e2 => ?_⟩
        · obtain ⟨⟨e4, e2⟩, e3⟩ : (b2 = true ∧ hl = false) ∧ la = false := by simpa using e
          subst e2 e3
          rw [e4] at hb2
          have R' := R.two hT (of_decide_eq_true hb2)
          rw [dd] at R'
          have hp6 : p + 2 ≤ B.length := by have := congrArg List.length (of_decide_eq_true hb2); rw [← hrem, List.length_take, List.length_drop] at this; simp at this; omega
          repeat walk_at "S"
          refine m_append (St.own (by assumption) .head) ?_
          repeat walk_at "S"
          refine b_app (by assumption) (by omega) (fun _ => .head) ?_
          intro _; walk_at "I"
          repeat walk_at "S"
          refine ⟨B.length - (p + 2), by omega, D, gs ++ [g], [], false, true, p + 2, _, _, _, _, rfl, hp6, by simp; omega, by simp, R', hs.snoc, by assumption⟩
        · repeat walk_at "S"
          replace e2 : ¬ (rem.take 2 = [46, 42] ∧ hl = false ∧ la = false) := fun ⟨q1, q2, q3⟩ => by rw [q2, q3, ← hb2, decide_eq_true q1] at e2; cases e2
          clear hb2
          with_reducible refine x_if ?_
          generalize hb3 : decide ([c] = [41]) = b3
          refine t_cutb (b3 && hl) (fun s' => ∃ ta, St w s s.heap.get? L s' [(Str.ofString "text", some (.str (S X) t)), (Str.ofString "body", some (.str (S B) tb)), (Str.ofString "segments", some (.ref D)), (Str.ofString "held", some (.bool hl)), (Str.ofString "last", some (.bool la)), (Str.ofString "at", some (.int ((p : Nat) : Int) ta))] [(D, lstO items k)]) ?_ ?_
          · repeat walk_at "S"
            refine s_idx (c := c) (by assumption) (by omega) (by omega) (by simpa using hc) (by with_unfolding_all rfl) ?_
            intro _; walk_at "I"
            repeat walk_at "S"
            rw [hb3]
            refine ⟨fun e1 => ?_, fun e1 => ?_⟩
            · repeat walk_at "S"
              refine ⟨fun e2 => ?_, fun e2 => ?_⟩
              · repeat walk_at "S"
                exact ⟨by rw [e1, e2]; rfl, _, by assumption⟩
              · exact ⟨by rw [e1, e2]; rfl, _, by assumption⟩
            · exact ⟨by rw [e1]; rfl, _, by assumption⟩
          rintro s₃ ⟨ta, st₅⟩
          refine ⟨fun e => ?_, fun e3 => ?_⟩
          · obtain ⟨e4, e5⟩ : b3 = true ∧ hl = true := by simpa using e
            subst e5
            rw [e4] at hb3
            have hc41 : c = 41 := by simpa using of_decide_eq_true hb3
            subst hc41
            have R' := R.three hT hc0
            rw [dd] at R'
            repeat walk_at "S"
            exact ⟨B.length - (p + 1), by omega, D, gs, g, false, la, p + 1, _, _, _, _, rfl, by omega, by omega, by omega, R', hs, by assumption⟩
          · repeat walk_at "S"
            replace e3 : ¬ (c = 41 ∧ hl = true) := fun ⟨q1, q2⟩ => by rw [q2, ← hb3, q1] at e3; cases e3
            clear hb3
            with_reducible refine x_if ?_
            generalize hb4 : decide ((1 : Int) < ((items.length : Nat) : Int)) = b4
            refine t_cutb (b4 && !hl && !la) (fun s' => ∃ ta, St w s s.heap.get? L s' [(Str.ofString "text", some (.str (S X) t)), (Str.ofString "body", some (.str (S B) tb)), (Str.ofString "segments", some (.ref D)), (Str.ofString "held", some (.bool hl)), (Str.ofString "last", some (.bool la)), (Str.ofString "at", some (.int ((p : Nat) : Int) ta))] [(D, lstO items k)]) ?_ ?_
            · repeat walk_at "S"
              refine l_len (xs := items) (by assumption) (isl (St.own (by assumption) .head)) (by omega) ?_
              intro _; walk_at "I"
              repeat walk_at "S"
              rw [hb4]
              refine ⟨fun e1 => ?_, fun e1 => ?_⟩
              · repeat walk_at "S"
                refine ⟨fun e2 => ?_, fun e2 => ?_⟩
                · repeat walk_at "S"
                  refine ⟨fun e3 => ?_, fun e3 => ?_⟩
                  · repeat walk_at "S"
                    exact ⟨by rw [e1, e2, e3]; rfl, _, by assumption⟩
                  · exact ⟨by rw [e1, e2, e3]; rfl, _, by assumption⟩
                · exact ⟨by rw [e1, e2]; rfl, _, by assumption⟩
              · exact ⟨by rw [e1]; rfl, _, by assumption⟩
            rintro s₃ ⟨ta, st₆⟩
            refine ⟨fun e => ?_, fun e4 => ?_⟩
            · obtain ⟨⟨e4, e5⟩, e6⟩ : (b4 = true ∧ hl = false) ∧ la = false := by simpa using e
              subst e5 e6
              rw [e4] at hb4
              have hgn : gs ≠ [] := by intro e; have := of_decide_eq_true hb4; subst e; simp at hil; omega
              exact (R.four hgn hne (fun q => e1 ⟨q, rfl, rfl⟩) (fun q => e2 ⟨q, rfl, rfl⟩)).elim
            · replace e4 : ¬ (gs ≠ [] ∧ hl = false ∧ la = false) := fun ⟨q1, q2, q3⟩ => by
                have : 0 < gs.length := List.length_pos_iff.mpr q1
                rw [q2, q3, ← hb4, decide_eq_true (by omega)] at e4; cases e4
              have R' := R.five hc0 e1 e2 e3 e4
              rw [dd] at R'
              have hlast := hs.at (i := gs.length) (y := g) (by simp)
              obtain ⟨tg, hlast⟩ := hlast
              obtain ⟨pre, rfl⟩ : ∃ pre, items = pre ++ [.str (S g) tg] := ⟨items.take gs.length, by
                have hlt : gs.length < items.length := by omega
                rw [List.getElem?_eq_getElem hlt] at hlast
                have := List.take_succ_eq_append_getElem hlt
                rw [Option.some.inj hlast] at this
                rw [← this, List.take_of_length_le (by omega)]⟩
              repeat walk_at "S"
              refine l_getneg (x := .str (S g) tg) (isl (St.own (by assumption) .head)) (by omega) (by simp; omega) (by omega) (by simp at hil; rw [show ((-1 : Int) + ((pre ++ [Value.str (S g) tg]).length : Int)).toNat = pre.length by simp; omega]; simp) (by with_unfolding_all rfl) ?_
              repeat walk_at "S"
              refine s_idx (c := c) (by assumption) (by omega) (by omega) (by simpa using hc) (by with_unfolding_all rfl) ?_
              intro _; walk_at "I"
              refine s_add (by assumption) (by simp; omega) ?_
              intro _; walk_at "I"
              repeat walk_at "S"
              refine l_putlast (by assumption) (by simp at hil; omega) (fun _ => .head) ?_
              intro _; walk_at "I"
              repeat walk_at "S"
              refine ⟨B.length - (p + 1), by omega, D, gs, g ++ [c], hl, la, p + 1, _, _, _, _, rfl, by omega, by omega, by simp; omega, R', Strs.relast hs, by assumption⟩
    · have hp' : p = B.length := by omega
      subst hp'
      rw [List.drop_length] at R
      repeat walk_at "S"
      exact ⟨D, gs, g, hl, la, items, k, tb, ta, R, hs, hgl, by assumption⟩
  · rintro s₂ ⟨D, gs, g, hl, la, items, k, tb, ta, R, hs, hgl, st⟩
    obtain ⟨rfl, hla, hTe⟩ := R.fin
    have hil := hs.len
    rw [List.length_append, List.length_singleton] at hil
    repeat walk_at "S"
    with_reducible refine x_if ?_
    refine t_cutb false (fun s' => St w s s.heap.get? L s' [(Str.ofString "text", some (.str (S X) t)), (Str.ofString "body", some (.str (S B) tb)), (Str.ofString "segments", some (.ref D)), (Str.ofString "held", some (.bool false)), (Str.ofString "last", some (.bool la)), (Str.ofString "at", some (.int ((B.length : Nat) : Int) ta))] [(D, lstO items k)]) ?_ ?_
    · repeat walk_at "S"
      refine Br_f ?_
      repeat walk_at "S"
      refine l_len (xs := items) (by assumption) (isl (St.own (by assumption) .head)) (by omega) ?_
      intro _; walk_at "I"
      repeat walk_at "S"
      refine Br_dec (fun hk => ?_) (fun hk => ?_)
      · have hgn : gs ≠ [] := by intro e; subst e; simp at hil; omega
        have := hla hgn; subst this
        repeat walk_at "S"
        refine Br_f ?_
        refine Br_f ?_
        repeat walk_at "S"
        exact ⟨rfl, by assumption⟩
      · refine Br_f ?_
        repeat walk_at "S"
        exact ⟨rfl, by assumption⟩
    · intro s₃ st₃
      refine Br_f ?_
      repeat walk_at "S"
      (rename St _ _ _ _ _ _ _ => stN)
      have ob := stN.ob _ (.head _)
      exact h D items k _ stN.after ob.2.2 ob.1 (by rw [hTe]; exact hs)
-- F_cells
def AllInt (vs : List Value) : Prop := ∀ (i : Nat) (v : Value), vs[i]? = some v → ∃ (n : Int) (t : Tok), v = Value.int n t
theorem AllInt.of {vs : List Value} {ns : List Int} (h : IntsAre vs ns) : AllInt vs := by
  induction h with
  | nil => intro i v h; simp at h
  | cons n t _ ih =>
    intro i v h
    cases i with
    | zero => exact ⟨n, t, by simpa using h.symm⟩
    | succ i => exact ih i v (by simpa using h)
theorem AllInt.set {vs : List Value} (h : AllInt vs) (j : Nat) (n : Int) (t : Tok) : AllInt (vs.set j (.int n t)) := by
  intro i v hv
  rw [List.getElem?_set] at hv
  split at hv
  · split at hv
    · exact ⟨n, t, (Option.some.inj hv).symm⟩
    · cases hv
  · exact h i v hv
theorem c_cells {w : World} {A : Around} {s : Shared} {Q : Value → Shared → Prop} {a : Addr} {vs : List Value} (rm : Rm A 1) (cx : Cx w s.heap) (hl : s.heap.IsList a vs.toArray) (hi : AllInt vs) (hz : vs.length ≤ 1000)
    (h : ∀ D items k s', After s s' → s.heap.get? D = none → s'.heap.get? D = some (lstO items k) → AllInt items → items.length = 6 → Q (.ref D) s') :
    wpAny (model PR w) A (call (.ref 83) [.ref a]) Q NoE s := by
  obtain ⟨oa, hoa, hoc, na, hod⟩ := hl
  have hio : IsL oa vs := ⟨hoc, na, hod⟩
  refine enterR [Str.ofString "script"] [Str.ofString "cells", Str.ofString "place"]
    [(Str.ofString "script", some (.ref a)), (Str.ofString "cells", none), (Str.ofString "place", none)]
    rfl rfl (by decide) (k := 0) rm cx rfl (by kernel_rfl) (.of_eq rfl) (by decide) (by decide) rfl rfl rfl ?_
  intro s₁ L A' rm₁ kL st
  repeat walk_at "S"
  refine l_len (xs := vs) (by assumption) (hio.at (St.keep (by assumption) _ _ hoa)) (by omega) ?_
  intro _; walk_at "I"
  repeat walk_at "S"
  refine b_range (by assumption) ?_
  intro r u₁ u₂; walk_at "I"
  refine src_range (by assumption) rm₁.handled (by omega) (by omega) fun it s₃ st₃ af₃ src => ?_
  refine for_src st₃ src (fun a h => St.fresh (by assumption) h) kL (fun _ _ _ => .inl ⟨_, _, rfl⟩)
    (fun i l led => ∃ (D : Addr) (items : List Value) (k : Nat) (u : Option Value), l = [(Str.ofString "script", some (.ref a)), (Str.ofString "cells", some (.ref D)), (Str.ofString "place", u)] ∧ led = [(D, lstO items k)] ∧ items.length = 6 ∧ AllInt items)
    ⟨_, _, _, _, rfl, rfl, rfl, by
      have : ∀ (a b c d e f : Int) (t1 t2 t3 t4 t5 t6 : Tok), AllInt [.int a t1, .int b t2, .int c t3, .int d t4, .int e t5, .int f t6] := fun a b c d e f t1 t2 t3 t4 t5 t6 =>
        AllInt.of (.cons a t1 (.cons b t2 (.cons c t3 (.cons d t4 (.cons e t5 (.cons f t6 .nil))))))
      exact this _ _ _ _ _ _ _ _ _ _ _ _⟩ ?_ ?_
  · rintro i v kp' s₁ l₁ led₁ hi' ⟨u, rfl⟩ ⟨D, items, k, u', rfl, rfl, h6, hai⟩ kC hkp st
    obtain ⟨x, hx⟩ : ∃ x, vs[i]? = some x := ⟨_, List.getElem?_eq_getElem (by omega : i < vs.length)⟩
    obtain ⟨n, tn, rfl⟩ := hi i _ hx
    obtain ⟨y, hy⟩ : ∃ y, items[((i : Int) % 6).toNat]? = some y := ⟨_, List.getElem?_eq_getElem (by omega : ((i : Int) % 6).toNat < items.length)⟩
    obtain ⟨m, tm, rfl⟩ := hai _ _ hy
    repeat walk_at "S"
    refine l_get (x := .int m tm) (isl (St.own (by assumption) .head)) (by omega) (by omega) hy (by with_unfolding_all rfl) ?_
    repeat walk_at "S"
    refine l_get (x := .int n tn) (hio.at (St.keep (by assumption) _ _ (hkp _ _ hoa))) (by omega) (by omega) (by simpa using hx) (by with_unfolding_all rfl) ?_
    repeat walk_at "S"
    refine l_put (by assumption) (by omega) (by omega) (by omega) (fun _ => .head) ?_
    intro _; walk_at "I"
    repeat walk_at "S"
    exact ⟨_, _, by assumption, D, _, _, _, rfl, rfl, by rw [List.length_set]; exact h6, hai.set _ _ _⟩
  · rintro s₂ l₂ led₂ ⟨D, items, k, u, rfl, rfl, h6, hai⟩ st₂
    repeat walk_at "S"
    have ob := st₂.ob _ (.head _)
    exact h D items k _ st₂.after ob.2.2 ob.1 hai h6
-- F_pieces
abbrev Piece := Nat × Nat × Nat
abbrev pieO (p : Piece) (t₁ t₂ t₃ : Tok) : Obj := tupO [.int (p.1 : Int) t₁, .int (p.2.1 : Int) t₂, .int (p.2.2 : Int) t₃] 0
def PieceOk (p : Piece) : Prop := p.1 ≤ 2 ∧ p.2.1 ≤ 2 ∧ p.2.2 < 4096
/-- the list of tuples, one number of each -/
inductive Tups (H : Addr → Option Obj) : List Value → List Piece → Prop
  | nil : Tups H [] []
  | snoc {vs : List Value} {ps : List Piece} (T : Addr) (p : Piece) (t₁ t₂ t₃ : Tok) : Tups H vs ps → H T = some (pieO p t₁ t₂ t₃) → Tups H (vs ++ [.ref T]) (ps ++ [p])
theorem Tups.mono {H H' : Addr → Option Obj} {vs : List Value} {ps : List Piece} (h : Tups H vs ps) (k : ∀ a o, H a = some o → H' a = some o) : Tups H' vs ps := by
  induction h with
  | nil => exact .nil
  | snoc T p t₁ t₂ t₃ _ e ih => exact .snoc T p t₁ t₂ t₃ ih (k _ _ e)
theorem Tups.len {H : Addr → Option Obj} {vs : List Value} {ps : List Piece} (h : Tups H vs ps) : vs.length = ps.length := by
  induction h with
  | nil => rfl
  | snoc T p t₁ t₂ t₃ _ e ih => simp [ih]
theorem Tups.at {H : Addr → Option Obj} {vs : List Value} {ps : List Piece} (h : Tups H vs ps) : ∀ {i : Nat} {p : Piece}, ps[i]? = some p → ∃ T t₁ t₂ t₃, vs[i]? = some (.ref T) ∧ H T = some (pieO p t₁ t₂ t₃) := by
  induction h with
  | nil => intro i p h; simp at h
  | @snoc vs ps T q t₁ t₂ t₃ h e ih =>
    intro i p hp
    have hl := h.len
    by_cases hi : i < ps.length
    · rw [List.getElem?_append_left hi] at hp
      obtain ⟨T', u₁, u₂, u₃, h1, h2⟩ := ih hp
      exact ⟨T', u₁, u₂, u₃, by rw [List.getElem?_append_left (by omega)]; exact h1, h2⟩
    · rw [List.getElem?_append_right (by omega)] at hp
      have h0 : i - ps.length = 0 := by
        cases hz : i - ps.length with
        | zero => rfl
        | succ m => rw [hz] at hp; simp at hp
      rw [h0] at hp
      have : q = p := by simpa using hp
      subst this
      exact ⟨T, t₁, t₂, t₃, by rw [List.getElem?_append_right (by omega), show i - vs.length = 0 by omega]; rfl, e⟩
def ledF (led : Led) (a : Addr) : Option Obj := led.lookup a
theorem c_pieces {w : World} {A : Around} {s : Shared} {Q : Value → Shared → Prop} {a : Addr} {o : Obj} {vs : List Value} (rm : Rm A 1) (cx : Cx w s.heap) (ho : s.heap.get? a = some o) (hio : IsL o vs) (hi : AllInt vs) (hz : vs.length = 6)
    (h : ∀ D items k ps s', After s s' → s.heap.get? D = none → s'.heap.get? D = some (lstO items k) → (∃ H : Addr → Option Obj, Tups H items ps ∧ ∀ a o, H a = some o → s.heap.get? a = none ∧ s'.heap.get? a = some o) → ps.length = 4 → (∀ p ∈ ps, PieceOk p) → Q (.ref D) s') :
    wpAny (model PR w) A (call (.ref 93) [.ref a]) Q NoE s := by
  refine enterR [Str.ofString "cells"] []
    [(Str.ofString "cells", some (.ref a))]
    rfl rfl (by decide) (k := 0) rm cx rfl (by kernel_rfl) (.of_eq rfl) (by decide) (by decide) rfl rfl rfl ?_
  intro s₁ L A' rm₁ kL st
  repeat walk_at "S"
  refine l_slice (lo := none) (hi := some 4) (stp := none) (by assumption) (hio.at (St.keep (by assumption) _ _ ho)) (by omega) .none (.int _ _) .none (by simp) (by with_unfolding_all rfl) ?_
  intro D₀; walk_at "I"
  have epick : (slicePick vs.toArray none (some 4) none).toList = vs.take 4 := by rw [show (some (4 : Int)) = some ((4 : Nat) : Int) from rfl, slicePick_upto _ 4 (by simp; omega)]
  (rename St _ _ _ _ _ _ _ => stO)
  rw [epick] at stO
  have hD := stO.ob _ (.head _)
  refine src_list (items := vs.take 4) (stO.less (List.sublist_cons_self _ _)) rm₁.handled (isl hD.1) hD.2.1 (fun p hp => by cases hp) fun it s₃ st₃ af₃ src => ?_
  refine comp_src st₃ src (fun a h => stO.fresh h) (fun _ _ _ => .inl ⟨_, _, rfl⟩) (by rw [List.length_take, sizeLine_eq]; omega) (by decide) rfl
    [(Str.ofString ".0", none), (Str.ofString "c", none)] (by decide) (by decide)
    (fun i ys led => ∃ (ps : List Piece) (H : Addr → Option Obj), ys.length = i ∧ ps.length = i ∧ (∀ p ∈ ps, PieceOk p) ∧ Tups H ys ps ∧ ∀ a o, H a = some o → (a, o) ∈ led) ⟨[], fun _ => none, rfl, rfl, (fun p hp => by cases hp), .nil, fun a o e => by cases e⟩ (fun i ys led ⟨ps, H, e, _⟩ => by omega) ?_ ?_
  · rintro i v kp' s₁ C D ys k led₁ hi' hv ⟨ps, H, hy1, hy2, hpo, hT, hH⟩ kC _ st
    obtain ⟨n, tn, rfl⟩ : ∃ n t, v = Value.int n t := by
      rw [List.getElem?_take] at hv
      split at hv
      · exact hi _ _ hv
      · cases hv
    repeat walk_at "S"
    refine Br_t ?_
    repeat walk_at "S"
    (rename St _ _ _ _ _ _ _ => stN)
    have e1 : (((n % 3).toNat : Nat) : Int) = n % 3 := by omega
    have e2 : (((n / 3 % 3).toNat : Nat) : Int) = n / 3 % 3 := by omega
    have e3 : (((n / 9 % 4096).toNat : Nat) : Int) = n / 9 % 4096 := by omega
    rw [← e1, ← e2, ← e3] at stN
    rename_i T sN
    obtain ⟨t₁, t₂, t₃, stN⟩ : ∃ t₁ t₂ t₃, St w s kp' C sN [(Str.ofString ".0", none), (Str.ofString "c", some (Value.int n tn))] ((T, pieO ((n % 3).toNat, (n / 3 % 3).toNat, (n / 9 % 4096).toNat) t₁ t₂ t₃) :: (D, lstO ys k) :: led₁) := ⟨_, _, _, stN⟩
    refine ⟨_, _, stN.perm (List.Perm.swap _ _ _), ?_⟩
    refine ⟨rfl, ps ++ [((n % 3).toNat, (n / 3 % 3).toNat, (n / 9 % 4096).toNat)], fun x => if x = T then some (pieO ((n % 3).toNat, (n / 3 % 3).toNat, (n / 9 % 4096).toNat) t₁ t₂ t₃) else H x, by simp [hy1], by simp [hy2], ?_, ?_, ?_⟩
    · intro p hp
      rcases List.mem_append.mp hp with hp | hp
      · exact hpo p hp
      · rw [List.mem_singleton.mp hp]
        unfold PieceOk
        refine ⟨?_, ?_, ?_⟩ <;> dsimp only <;> omega
    · refine .snoc T _ _ _ _ (hT.mono fun x o e => ?_) (if_pos rfl)
      have : x ≠ T := by
        rintro rfl
        have nd := stN.nd
        rw [List.map_cons, List.nodup_cons] at nd
        exact nd.1 (List.mem_map.mpr ⟨(x, o), .tail _ (hH x o e), rfl⟩)
      rw [if_neg this]; exact e
    · intro x o e
      dsimp only at e
      split at e
      · rename_i hx; subst hx; rw [← Option.some.inj e]; exact .head _
      · exact .tail _ (hH x o e)
  · rintro s₄ D ys k led₂ ⟨ps, H, hy1, hy2, hpo, hT, hH⟩ st₄ _
    repeat walk_at "S"
    have ob := st₄.ob _ (.head _)
    refine h D ys k ps _ st₄.after ob.2.2 ob.1 ⟨H, hT, fun a o e => ?_⟩ (by rw [hy2, List.length_take]; omega) hpo
    have ob2 := st₄.ob (a, o) (.tail _ (List.mem_append_left _ (hH a o e)))
    exact ⟨ob2.2.2, ob2.1⟩
-- F_pattern
def pieT (p : Piece) : List Nat := List.replicate p.1 42 ++ List.replicate p.2.1 63 ++ ltr (digs p.2.2)
def patF (ps : List Piece) : List Nat := (ps.map pieT).flatten
theorem digs3 {n : Nat} (h : n < 4096) : (digs n).length ≤ 3 := by
  have := digs_le n 3
  rw [show (16 : Nat) ^ 3 = 4096 by decide] at this; omega
theorem pieT_len {p : Piece} (h : PieceOk p) : (pieT p).length ≤ 7 := by
  have := digs3 h.2.2
  have h1 := h.1
  have h2 := h.2.1
  unfold pieT
  simp [ltr]; omega
theorem patF_len : ∀ {ps : List Piece}, (∀ p ∈ ps, PieceOk p) → (patF ps).length ≤ 7 * ps.length
  | [], _ => Nat.le_refl _
  | p :: ps, h => by
    have := pieT_len (h p (.head _))
    have := patF_len fun q hq => h q (.tail _ hq)
    unfold patF at this ⊢
    rw [List.map_cons, List.flatten_cons, List.length_append, List.length_cons]; omega
theorem c_pattern {w : World} {A : Around} {s : Shared} {Q : Value → Shared → Prop} {a : Addr} {items : List Value} {k₀ : Nat} {ps : List Piece} (rm : Rm A 3) (cx : Cx w s.heap) (ha : s.heap.get? a = some (lstO items k₀)) (hT : Tups s.heap.get? items ps) (hz : ps.length ≤ 100) (hp : ∀ p ∈ ps, PieceOk p)
    (h : ∀ t s', After s s' → Q (.str (S (patF ps)) t) s') : wpAny (model PR w) A (call (.ref 98) [.ref a]) Q NoE s := by
  have hlen := hT.len
  have hpl := patF_len hp
  refine enterR [Str.ofString "pieces"] []
    [(Str.ofString "pieces", some (.ref a))]
    rfl rfl (by decide) (k := 2) rm cx rfl (by kernel_rfl) (.of_eq rfl) (by decide) (by decide) rfl rfl rfl ?_
  intro s₁ L A' rm₁ kL st
  repeat walk_at "S"
  have haL : a ≠ L := by rintro rfl; rw [ha] at kL; cases kL
  refine src_list (items := items) (by assumption) rm₁.handled (isl (St.keep (by assumption) _ _ ha)) haL (fun p hp => by cases hp) fun it s₃ st₃ af₃ src => ?_
  refine comp_src st₃ src (fun a h => St.fresh (by assumption) h) (fun i v hv => by
      rcases List.getElem?_eq_some_iff.mp hv with ⟨hi, _⟩
      obtain ⟨T, t₁, t₂, t₃, h1, _⟩ := hT.at (List.getElem?_eq_getElem (by omega : i < ps.length))
      rw [hv] at h1
      exact .inr ⟨_, _, _, T, rfl, Option.some.inj h1⟩) (by rw [sizeLine_eq]; omega) (by decide) rfl
    [(Str.ofString ".0", none), (Str.ofString "stars", none), (Str.ofString "marks", none), (Str.ofString "number", none)] (by decide) (by decide)
    (fun i ys led => led = [] ∧ Strs ys ((ps.take i).map pieT)) ⟨rfl, .nil⟩ (fun i ys led h => by rw [h.2.len]; simp; omega) ?_ ?_
  · rintro i v kp' s₁ C D ys k led₁ hi hv ⟨rfl, hI⟩ kC hkp st
    have hi' : i < ps.length := by omega
    obtain ⟨T, t₁, t₂, t₃, h1, h2⟩ := hT.at (List.getElem?_eq_getElem hi')
    have hpo := hp _ (List.getElem_mem hi')
    have hstep : (ps.take (i + 1)).map pieT = (ps.take i).map pieT ++ [pieT ps[i]] := by rw [List.take_succ_eq_append_getElem hi', List.map_append]; rfl
    generalize ps[i] = p at h2 hpo hstep
    rw [hv] at h1
    cases Option.some.inj h1
    obtain ⟨st1, st2, hn3⟩ := hpo
    have hd3 := digs3 hn3
    refine u_trip (v₁ := .int (p.1 : Int) t₁) (v₂ := .int (p.2.1 : Int) t₂) (v₃ := .int (p.2.2 : Int) t₃) (by assumption) ⟨_, St.keep (by assumption) _ _ (hkp _ _ (St.keep (by assumption) _ _ h2) (af₃.keep _ _ (St.keep (by assumption) _ _ h2))), rfl, 0, rfl⟩ rm₁.handled ?_
    intro s₅ _ st₅
    repeat walk_at "S"
    refine Br_t ?_
    repeat walk_at "S"
    refine s_mul (by assumption) (by omega) (by omega) ?_
    intro _; walk_at "I"
    repeat walk_at "S"
    refine s_mul (by assumption) (by omega) (by omega) ?_
    intro _; walk_at "I"
    refine s_add (by assumption) (by simp; omega) ?_
    intro _; walk_at "I"
    repeat walk_at "S"
    refine c_text rm₁ (St.cx' (by assumption)) (by rw [Int.natAbs_natCast]; omega) fun t₄ s₄ af => ?_
    (rename St _ _ _ _ _ _ _ => stO); have stO := stO.go af
    refine s_add (by assumption) (by simp [ltr]; omega) ?_
    intro _; walk_at "I"
    refine ⟨_, _, by assumption, ?_⟩
    refine ⟨rfl, rfl, ?_⟩
    rw [hstep]
    have e : List.replicate (p.1 : Int).toNat 42 ++ List.replicate (p.2.1 : Int).toNat 63 ++ ltr (digs (p.2.2 : Int).natAbs) = pieT p := by
      rw [Int.toNat_natCast, Int.toNat_natCast, Int.natAbs_natCast]; rfl
    rw [e]
    exact hI.snoc
  · rintro s₄ D ys k led₂ ⟨rfl, hI⟩ st₄ _
    rw [hlen, List.take_length] at hI
    repeat walk_at "S"
    have hfl : (List.map pieT ps).flatten = patF ps := rfl
    refine s_join (by assumption) (St.own (by assumption) .head) hI (by rw [hfl]; omega) ?_
    intro _; walk_at "I"
    rw [hfl]
    repeat walk_at "S"
    exact h _ _ (St.after (by assumption))
-- F_fit
theorem digs_lt_pow (n : Nat) : n < 16 ^ (digs n).length := by
  have := digs_le n (digs n).length
  omega
theorem mul16 (F : Nat) : IntMulOk (F : Int) 16 := IntMulOk.of_right (by decide)
theorem mulp (F : Nat) {k : Nat} (h : k ≤ 3) : IntMulOk (F : Int) ((16 : Int) ^ (k : Int).toNat) := by
  refine IntMulOk.of_right ?_
  rw [Int.toNat_natCast]
  have : ∀ k : Fin 4, Builtin.Int.intBits ((16 : Int) ^ k.val) ≤ 64 := by decide +kernel
  exact this ⟨k, by omega⟩
theorem c_fit {w : World} {A : Around} {s : Shared} {Q : Value → Shared → Prop} {a : Addr} {items : List Value} {k₀ : Nat} {ps : List Piece} {c : Int} {tc : Tok} (rm : Rm A 2) (cx : Cx w s.heap) (ha : s.heap.get? a = some (lstO items k₀)) (hT : Tups s.heap.get? items ps) (hz : ps.length ≤ 100) (hp : ∀ p ∈ ps, PieceOk p)
    (h : ∀ (F : Nat) t s', After s s' → F < 16 ^ (6 * ps.length) → Q (.int (F : Int) t) s') : wpAny (model PR w) A (call (.ref 112) [.ref a, .int c tc]) Q NoE s := by
  have hlen := hT.len
  refine enterR [Str.ofString "pieces", Str.ofString "c"] [Str.ofString "fit", Str.ofString "rest", Str.ofString "stars", Str.ofString "marks", Str.ofString "number", Str.ofString "k"]
    [(Str.ofString "pieces", some (.ref a)), (Str.ofString "c", some (.int c tc)), (Str.ofString "fit", none), (Str.ofString "rest", none), (Str.ofString "stars", none), (Str.ofString "marks", none), (Str.ofString "number", none), (Str.ofString "k", none)]
    rfl rfl (by decide) (k := 1) rm cx rfl (by kernel_rfl) (.of_eq rfl) (by decide) (by decide) rfl rfl rfl ?_
  intro s₁ L A' rm₁ kL st
  repeat walk_at "S"
  have haL : a ≠ L := by rintro rfl; rw [ha] at kL; cases kL
  refine src_list (items := items) (by assumption) rm₁.handled (isl (St.keep (by assumption) _ _ ha)) haL (fun p hp => by cases hp) fun it s₃ st₃ af₃ src => ?_
  refine for_src st₃ src (fun a h => St.fresh (by assumption) h) kL (fun i v hv => by
      rcases List.getElem?_eq_some_iff.mp hv with ⟨hi, _⟩
      obtain ⟨T, t₁, t₂, t₃, h1, _⟩ := hT.at (List.getElem?_eq_getElem (by omega : i < ps.length))
      rw [hv] at h1
      exact .inr ⟨_, _, _, T, rfl, Option.some.inj h1⟩)
    (fun i l led => ∃ (F : Nat) (R : Int) (t₁ t₂ : Tok) (u₁ u₂ u₃ u₄ : Option Value), l = [(Str.ofString "pieces", some (.ref a)), (Str.ofString "c", some (.int c tc)), (Str.ofString "fit", some (.int (F : Int) t₁)), (Str.ofString "rest", some (.int R t₂)), (Str.ofString "stars", u₁), (Str.ofString "marks", u₂), (Str.ofString "number", u₃), (Str.ofString "k", u₄)] ∧ led = [] ∧ F < 16 ^ (6 * i))
    ⟨0, c, _, _, _, _, _, _, rfl, rfl, by simp⟩ ?_ ?_
  · rintro i v kp' s₁ l₁ led₁ hi hv ⟨F, R, tF, tR, u₁, u₂, u₃, u₄, rfl, rfl, hF⟩ kC hkp st
    have hi' : i < ps.length := by omega
    obtain ⟨T, t₁, t₂, t₃, h1, h2⟩ := hT.at (List.getElem?_eq_getElem hi')
    have hpo := hp _ (List.getElem_mem hi')
    generalize ps[i] = p at h2 hpo
    rw [hv] at h1
    cases Option.some.inj h1
    obtain ⟨st1, st2, hn3⟩ := hpo
    have hd3 := digs3 hn3
    refine u_trip (v₁ := .int (p.1 : Int) t₁) (v₂ := .int (p.2.1 : Int) t₂) (v₃ := .int (p.2.2 : Int) t₃) (by assumption) ⟨_, St.keep (by assumption) _ _ (hkp _ _ h2), rfl, 0, rfl⟩ rm₁.handled ?_
    intro s₅ _ st₅
    repeat walk_at "S"
    refine x_ifcut (fun s' => ∃ (F : Nat) (R : Int) (tF tR : Tok), F < 16 ^ (6 * i + 1) ∧ St w s kp' L s' [(Str.ofString "pieces", some (.ref a)), (Str.ofString "c", some (.int c tc)), (Str.ofString "fit", some (.int (F : Int) tF)), (Str.ofString "rest", some (.int R tR)), (Str.ofString "stars", some (.int (p.1 : Int) t₁)), (Str.ofString "marks", some (.int (p.2.1 : Int) t₂)), (Str.ofString "number", some (.int (p.2.2 : Int) t₃)), (Str.ofString "k", u₄)] []) ?_ ?_
    · repeat walk_at "S"
      refine Br_dec (fun hk => ?_) (fun hk => ?_)
      · repeat walk_at "S"
        walk_at "IF"
        refine Br_dec (fun hk => ?_) (fun hk => ?_)
        · repeat walk_at "S"
          refine i_mul (by assumption) (mul16 F) ?_
          intro _; walk_at "I"
          repeat walk_at "S"
          (rename St _ _ _ _ _ _ _ => stN)
          rw [show (F : Int) * 16 + R / 2 % 16 = ((F * 16 + (R / 2 % 16).toNat : Nat) : Int) by omega] at stN
          exact ⟨_, _, _, _, by rw [Nat.pow_succ]; omega, stN⟩
        · repeat walk_at "S"
          exact ⟨F, _, _, _, by rw [Nat.pow_succ]; omega, by assumption⟩
      · repeat walk_at "S"
        exact ⟨F, _, _, _, by rw [Nat.pow_succ]; omega, by assumption⟩
    · clear hF
      rintro s₆ ⟨F, R, tF, tR, hF, st₆⟩
      with_reducible refine x_cons ?_
      refine x_cut (fun s' => ∃ (F : Nat) (R : Int) (tF tR : Tok) (u₄ : Option Value), F < 16 ^ (6 * i + 3) ∧ St w s kp' L s' [(Str.ofString "pieces", some (.ref a)), (Str.ofString "c", some (.int c tc)), (Str.ofString "fit", some (.int (F : Int) tF)), (Str.ofString "rest", some (.int R tR)), (Str.ofString "stars", some (.int (p.1 : Int) t₁)), (Str.ofString "marks", some (.int (p.2.1 : Int) t₂)), (Str.ofString "number", some (.int (p.2.2 : Int) t₃)), (Str.ofString "k", u₄)] []) ?_ ?_
      · repeat walk_at "S"
        refine b_range (by assumption) ?_
        intro r v₁ v₂; walk_at "I"
        refine src_range (by assumption) rm₁.handled (by omega) (by omega) fun it s₃ st₃ af₃ src => ?_
        refine for_src st₃ src (fun a h => St.fresh (by assumption) h) kC (fun _ _ _ => .inl ⟨_, _, rfl⟩)
          (fun j l led => ∃ (F : Nat) (R : Int) (tF tR : Tok) (u₄ : Option Value), l = [(Str.ofString "pieces", some (.ref a)), (Str.ofString "c", some (.int c tc)), (Str.ofString "fit", some (.int (F : Int) tF)), (Str.ofString "rest", some (.int R tR)), (Str.ofString "stars", some (.int (p.1 : Int) t₁)), (Str.ofString "marks", some (.int (p.2.1 : Int) t₂)), (Str.ofString "number", some (.int (p.2.2 : Int) t₃)), (Str.ofString "k", u₄)] ∧ led = [] ∧ F < 16 ^ (6 * i + 1 + j))
          ⟨F, R, _, _, _, rfl, rfl, hF⟩ ?_ ?_
        · rintro j v kp'' s₇ l₁ led₁ hj ⟨uj, rfl⟩ ⟨F, R, tF, tR, u₄, rfl, rfl, hF⟩ kC' hkp' st
          repeat walk_at "S"
          refine i_mul (by assumption) (mul16 F) ?_
          intro _; walk_at "I"
          repeat walk_at "S"
          (rename St _ _ _ _ _ _ _ => stN)
          rw [show (F : Int) * 16 + R % 16 = ((F * 16 + (R % 16).toNat : Nat) : Int) by omega] at stN
          exact ⟨_, _, stN, _, _, _, _, _, rfl, rfl, by rw [← Nat.add_assoc, Nat.pow_succ]; omega⟩
        · rintro s₇ l₂ led₂ ⟨F, R, tF, tR, u₄, rfl, rfl, hF⟩ st₇
          refine ⟨F, R, tF, tR, u₄, Nat.lt_of_lt_of_le hF (Nat.pow_le_pow_right (by decide) (by omega)), st₇⟩
      · clear hF
        rintro s₇ ⟨F, R, tF, tR, u₄, hF, st₇⟩
        repeat walk_at "S"
        refine c_length rm₁ (St.cx' (by assumption)) (by omega) fun t₉ s₉ af => ?_
        (rename St _ _ _ _ _ _ _ => stO); have stO := stO.go af
        refine i_pow (by assumption) (by omega) (by omega) (by decide) ?_
        intro _; walk_at "I"
        refine i_mul (by assumption) (mulp F hd3) ?_
        intro _; walk_at "I"
        repeat walk_at "S"
        (rename St _ _ _ _ _ _ _ => stN)
        rw [show (F : Int) * 16 ^ ((digs p.2.2).length : Int).toNat + (p.2.2 : Int) = ((F * 16 ^ (digs p.2.2).length + p.2.2 : Nat) : Int) by rw [Int.toNat_natCast]; simp] at stN
        refine ⟨_, _, stN, _, _, _, _, _, _, _, _, rfl, rfl, ?_⟩
        have hl := digs_lt_pow p.2.2
        have h1 : F * 16 ^ (digs p.2.2).length + p.2.2 < (F + 1) * 16 ^ (digs p.2.2).length := by rw [Nat.add_mul]; omega
        have h2 : (F + 1) * 16 ^ (digs p.2.2).length ≤ 16 ^ (6 * i + 3) * 16 ^ 3 := Nat.mul_le_mul hF (Nat.pow_le_pow_right (by decide) hd3)
        rw [← Nat.pow_add] at h2
        exact Nat.lt_of_lt_of_le h1 h2
  · rintro s₂ l₂ led₂ ⟨F, R, tF, tR, u₁, u₂, u₃, u₄, rfl, rfl, hF⟩ st₂
    repeat walk_at "S"
    exact h F _ _ (St.after (by assumption)) (by rw [← hlen]; exact hF)
-- F_found
def headR (len : Nat) : List Nat → List Nat
  | [] => []
  | e :: _ => List.range' e (len + 1 - e)
/-- one piece, from behind -/
def stepE (whole len : Nat) (es : List Nat) (p : Piece) : List Nat :=
  let e₁ := ((es.filter fun e => decide (whole / 16 ^ e % 16 ^ (digs p.2.2).length = p.2.2)).map fun e => e + (digs p.2.2).length + p.2.1).filter fun e => decide (e ≤ len)
  if 0 < p.1 then headR len e₁ else e₁
def endsF (ps : List Piece) (last : Bool) (whole : Nat) : List Nat :=
  ps.reverse.foldl (stepE whole (digs whole).length) (if last then List.range' 0 ((digs whole).length + 1) else [0])
theorem names5 (c₁ c₂ c₃ c₄ c₅ : Nat) : ([(Str.ofString "many", c₅), (Str.ofString "number", c₄), (Str.ofString "marks", c₃), (Str.ofString "length", c₂), (Str.ofString "whole", c₁)] : List (Str × Addr)).map (·.1) = [Str.ofString "many", Str.ofString "number", Str.ofString "marks", Str.ofString "length", Str.ofString "whole"] := rfl
theorem log16 {k : Nat} (hk : k ≤ 2000) : (((16 ^ k : Nat) : Int)).natAbs.log2 < 9000 := by
  rw [Int.natAbs_natCast, Nat.log2_lt (Nat.pos_iff_ne_zero.mp (Nat.pow_pos (by decide))), show (16 : Nat) = 2 ^ 4 by decide, ← Nat.pow_mul]
  exact Nat.pow_lt_pow_right (by decide) (by omega)
theorem cast16 (k : Nat) : (16 : Int) ^ (k : Int).toNat = ((16 ^ k : Nat) : Int) := by rw [Int.toNat_natCast]; exact (Int.natCast_pow 16 k).symm
section
variable {w : World} {A : Around} {E : Value → Shared → Prop} {b : Shared} {kp : Addr → Option Obj} {L : Addr} {s : Shared} {l : Loc} {led : Led}
theorem i_p16 {k : Nat} {t u : Tok} {Q : Value → Shared → Prop} (st : St w b kp L s l led) (hk : k ≤ 2000) (h : ∀ t s', St w b kp L s' l led → Q (.int ((16 ^ k : Nat) : Int) t) s') : wpAny (model PR w) A (binaryOp .Pow (.int 16 t) (.int (k : Int) u)) Q E s :=
  i_pow st (by omega) (by omega) (by decide) (by rw [cast16]; exact h)
theorem i_d16 {m k : Nat} {t u : Tok} {Q : Value → Shared → Prop} (st : St w b kp L s l led) (hk : k ≤ 2000) (h : ∀ t s', St w b kp L s' l led → Q (.int ((m / 16 ^ k : Nat) : Int) t) s') : wpAny (model PR w) A (binaryOp .FloorDiv (.int (m : Int) t) (.int ((16 ^ k : Nat) : Int) u)) Q E s :=
  i_div st (by have : 0 < 16 ^ k := Nat.pow_pos (by decide); omega) (log16 hk) (by rw [← Int.natCast_ediv]; exact h)
theorem i_m16 {m k : Nat} {t u : Tok} {Q : Value → Shared → Prop} (st : St w b kp L s l led) (h : ∀ t s', St w b kp L s' l led → Q (.int ((m % 16 ^ k : Nat) : Int) t) s') : wpAny (model PR w) A (binaryOp .Mod (.int (m : Int) t) (.int ((16 ^ k : Nat) : Int) u)) Q E s :=
  i_mod st (by have : 0 < 16 ^ k := Nat.pow_pos (by decide); omega) (by rw [← Int.natCast_emod]; exact h)
end
theorem rev4 (a b c d : Value) : (slicePick #[a, b, c, d] none none (some (-1))).toList = [d, c, b, a] := by
  have e : sliceRange (sliceBounds none none (some (-1)) 4).1 (sliceBounds none none (some (-1)) 4).2.1 (sliceBounds none none (some (-1)) 4).2.2 = [3, 2, 1, 0] := by decide +kernel
  unfold slicePick
  rw [show (#[a, b, c, d] : Array Value).size = 4 from rfl, e]
  rfl
theorem dec_cast (x y : Nat) : decide ((x : Int) = (y : Int)) = decide (x = y) := by
  by_cases e : x = y
  · rw [decide_eq_true e, decide_eq_true (by omega)]
  · rw [decide_eq_false e, decide_eq_false (by omega)]
theorem dec_le (x y : Nat) : decide ((x : Int) ≤ (y : Int)) = decide (x ≤ y) := by
  by_cases e : x ≤ y
  · rw [decide_eq_true e, decide_eq_true (by omega)]
  · rw [decide_eq_false e, decide_eq_false (by omega)]
theorem step_le (n len : Nat) (es : List Nat) (p : Piece) (h2 : es.length ≤ len + 1) : (∀ e ∈ stepE n len es p, e ≤ len) ∧ (stepE n len es p).length ≤ len + 1 := by
  unfold stepE
  generalize hE : ((es.filter fun e => decide (n / 16 ^ e % 16 ^ (digs p.2.2).length = p.2.2)).map fun e => e + (digs p.2.2).length + p.2.1).filter (fun e => decide (e ≤ len)) = E
  have hEl : E.length ≤ len + 1 := by
    rw [← hE]
    refine Nat.le_trans (List.length_filter_le _ _) ?_
    rw [List.length_map]
    exact Nat.le_trans (List.length_filter_le _ _) h2
  have hEm : ∀ e ∈ E, e ≤ len := by
    intro e he
    rw [← hE] at he
    exact of_decide_eq_true (List.mem_filter.mp he).2
  dsimp only
  split
  · cases E with
    | nil => exact ⟨fun e he => (by cases he), Nat.zero_le _⟩
    | cons x E =>
      refine ⟨fun e he => ?_, by show (List.range' x (len + 1 - x)).length ≤ _; rw [List.length_range']; omega⟩
      have := hEm x (.head _)
      have := List.mem_range'_1.mp he
      omega
  · exact ⟨hEm, hEl⟩
theorem c_found {w : World} {A : Around} {s : Shared} {Q : Value → Shared → Prop} {a : Addr} {items : List Value} {k₀ : Nat} {ps : List Piece} {last : Bool} {n : Nat} {tn : Tok} (rm : Rm A 2) (cx : Cx w s.heap) (ha : s.heap.get? a = some (lstO items k₀)) (hT : Tups s.heap.get? items ps) (hz : ps.length = 4) (hp : ∀ p ∈ ps, PieceOk p) (hn : (digs n).length ≤ 900)
    (h : ∀ s', After s s' → Q (.bool ((endsF ps last n).any (· == (digs n).length))) s') : wpAny (model PR w) A (call (.ref 117) [.ref a, .bool last, .int (n : Int) tn]) Q NoE s := by
  have hlen := hT.len
  refine enterC (fun x => if x = Str.ofString "whole" then some (.int (n : Int) tn) else none) (fun L => [(Str.ofString "many", L + 1 + 1 + 1 + 1 + 1), (Str.ofString "number", L + 1 + 1 + 1 + 1), (Str.ofString "marks", L + 1 + 1 + 1), (Str.ofString "length", L + 1 + 1), (Str.ofString "whole", L + 1)]) (fun _ => rfl)
    (fun L => by rw [names5]; decide) [(Str.ofString "pieces", some (.ref a)), (Str.ofString "last", some (.bool last)), (Str.ofString "ends", none), (Str.ofString "stars", none)]
    (by show [Str.ofString "pieces", Str.ofString "last", Str.ofString "ends", Str.ofString "stars"].Nodup; decide) (k := 1) rm cx rfl (by kernel_rfl) rfl ?_ ?_ (fun _ => rfl) rfl rfl rfl ?_
  · intro x hx
    rcases List.mem_cons.mp hx with rfl | hx
    · exact .inl rfl
    rcases List.mem_cons.mp hx with rfl | hx
    · exact .inl rfl
    rcases List.mem_cons.mp hx with rfl | hx
    · exact .inr ⟨rfl, rfl⟩
    cases hx
  · intro L p hp v hv
    rcases List.mem_cons.mp hp with rfl | hp
    · cases hv; rfl
    rcases List.mem_cons.mp hp with rfl | hp
    · cases hv; rfl
    rcases List.mem_cons.mp hp with rfl | hp
    · cases hv
    rcases List.mem_cons.mp hp with rfl | hp
    · cases hv
    cases hp
  intro s₁ L led A' rm₁ kL hcl st
  generalize L + 1 + 1 + 1 + 1 + 1 = cY at hcl ⊢
  generalize L + 1 + 1 + 1 + 1 = cN at hcl ⊢
  generalize L + 1 + 1 + 1 = cM at hcl ⊢
  generalize L + 1 + 1 = cL at hcl ⊢
  generalize L + 1 = cW at hcl ⊢
  cases hcl with | cons _ _ oY hcl => ?_
  cases hcl with | cons _ _ oN hcl => ?_
  cases hcl with | cons _ _ oM hcl => ?_
  cases hcl with | cons _ _ oL hcl => ?_
  cases hcl with | cons _ _ oW hcl => ?_
  cases hcl
  replace st : St w s s.heap.get? L s₁ [(Str.ofString "pieces", some (.ref a)), (Str.ofString "last", some (.bool last)), (Str.ofString "ends", none), (Str.ofString "stars", none)]
    [(cY, cO oY none), (cN, cO oN none), (cM, cO oM none), (cL, cO oL none), (cW, cO oW (some (.int (n : Int) tn)))] := st
  repeat walk_at "S"
  refine c_length rm₁ (St.cx' (by assumption)) (by omega) fun tl s₂ af => ?_
  (rename St _ _ _ _ _ _ _ => stO); have stO := stO.go af
  repeat walk_at "S"
  refine x_ifcut (fun s' => ∃ (D : Addr) (vs : List Value) (k : Nat) (us : Option Value), Nats vs (if last then List.range' 0 ((digs n).length + 1) else [0]) ∧
    St w s s.heap.get? L s' [(Str.ofString "pieces", some (.ref a)), (Str.ofString "last", some (.bool last)), (Str.ofString "ends", some (.ref D)), (Str.ofString "stars", us)] ((D, lstO vs k) :: [(cY, cO oY none), (cN, cO oN none), (cM, cO oM none), (cL, cO oL (some (.int ((digs n).length : Int) tl))), (cW, cO oW (some (.int (n : Int) tn)))])) ?_ ?_
  · repeat walk_at "S"
    cases last with
    | true =>
      refine Br_t ?_
      repeat walk_at "S"
      refine b_range (by assumption) ?_
      intro r u₁ u₂; walk_at "I"
      repeat walk_at "S"
      (rename St _ _ _ _ _ _ _ => stN)
      rw [show ((digs n).length : Int) + 1 = (((digs n).length + 1 : Nat) : Int) by omega] at stN
      refine b_list_range (a := 0) stN rm₁.handled (by omega) (by omega) fun D vs k s₃ hns st₃ => ?_
      repeat walk_at "S"
      (rename St _ _ _ _ _ _ _ => stN)
      exact ⟨D, vs, k, _, hns, stN.less (List.Sublist.cons_cons _ (List.sublist_cons_self _ _))⟩
    | false =>
      refine Br_f ?_
      repeat walk_at "S"
      exact ⟨_, _, _, _, .cons 0 _ .nil, by assumption⟩
  · rintro s₃ ⟨D, vs, k, us, hns, st₃⟩
    repeat walk_at "S"
    refine l_slice (lo := none) (hi := none) (stp := some (-1)) (by assumption) (isl (St.keep (by assumption) _ _ ha)) (by omega) .none .none (.int _ _) (by simp) (by with_unfolding_all rfl) ?_
    intro D₀; walk_at "I"
    have hrev : (slicePick items.toArray none none (some (-1))).toList = items.reverse := by
      match items, (show items.length = 4 by omega) with
      | [i₁, i₂, i₃, i₄], _ => exact rev4 ..
    (rename St _ _ _ _ _ _ _ => stO)
    rw [hrev] at stO
    have hD := stO.ob _ (.head _)
    have stO' := stO.less (List.sublist_cons_self _ _)
    have hTr : ∀ {i : Nat} {p : Piece}, ps.reverse[i]? = some p → ∃ T t₁ t₂ t₃, items.reverse[i]? = some (.ref T) ∧ s.heap.get? T = some (pieO p t₁ t₂ t₃) := by
      intro i p hi
      have hi4 : i < ps.length := by
        have := (List.getElem?_eq_some_iff.mp hi).1
        simpa using this
      rw [List.getElem?_reverse hi4] at hi
      rw [List.getElem?_reverse (by omega), hlen]
      exact hT.at hi
    refine src_list (items := items.reverse) stO' rm₁.handled (isl hD.1) hD.2.1 (fun p hp e => (List.nodup_cons.mp stO.nd).1 (List.mem_map.mpr ⟨p, hp, e⟩)) fun it s₄ st₄ af₄ src => ?_
    refine for_src st₄ src (fun a h => stO.fresh h) kL (fun i v hv => by
        rcases List.getElem?_eq_some_iff.mp hv with ⟨hi, _⟩
        rw [List.length_reverse] at hi
        obtain ⟨T, t₁, t₂, t₃, h1, _⟩ := hTr (List.getElem?_eq_getElem (by rw [List.length_reverse]; omega : i < ps.reverse.length))
        rw [hv] at h1
        exact .inr ⟨_, _, _, T, rfl, Option.some.inj h1⟩)
      (fun i l led => ∃ (D : Addr) (vs : List Value) (k : Nat) (us vy vn vm : Option Value) (es : List Nat), l = [(Str.ofString "pieces", some (.ref a)), (Str.ofString "last", some (.bool last)), (Str.ofString "ends", some (.ref D)), (Str.ofString "stars", us)] ∧ led = (D, lstO vs k) :: [(cY, cO oY vy), (cN, cO oN vn), (cM, cO oM vm), (cL, cO oL (some (.int ((digs n).length : Int) tl))), (cW, cO oW (some (.int (n : Int) tn)))] ∧ Nats vs es ∧ es = (ps.reverse.take i).foldl (stepE n (digs n).length) (if last then List.range' 0 ((digs n).length + 1) else [0]) ∧ (∀ e ∈ es, e ≤ (digs n).length) ∧ es.length ≤ (digs n).length + 1)
      ⟨D, vs, k, us, _, _, _, _, rfl, rfl, hns, rfl, by
        split
        · intro e he; have := List.mem_range'_1.mp he; omega
        · intro e he; rw [List.mem_singleton.mp he]; omega, by split <;> simp⟩ ?_ ?_
    · rintro i v kp' s₁ l₁ led₁ hi hv ⟨D, vs, k, us, vy, vn, vm, es, rfl, rfl, hns, hes, hle, hel⟩ kC hkp st
      rw [List.length_reverse] at hi
      have hi' : i < ps.reverse.length := by rw [List.length_reverse]; omega
      obtain ⟨T, t₁, t₂, t₃, h1, h2⟩ := hTr (List.getElem?_eq_getElem hi')
      have hpo := hp _ (List.mem_reverse.mp (List.getElem_mem hi'))
      have hstep : (ps.reverse.take (i + 1)).foldl (stepE n (digs n).length) (if last then List.range' 0 ((digs n).length + 1) else [0]) = stepE n (digs n).length es ps.reverse[i] := by rw [List.take_succ_eq_append_getElem hi', List.foldl_append, ← hes]; rfl
      generalize ps.reverse[i] = p at h2 hpo hstep
      rw [hv] at h1
      cases Option.some.inj h1
      obtain ⟨st1, st2, hn3⟩ := hpo
      have hd3 := digs3 hn3
      have sle := step_le n (digs n).length es p hel
      refine u_trip (v₁ := .int (p.1 : Int) t₁) (v₂ := .int (p.2.1 : Int) t₂) (v₃ := .int (p.2.2 : Int) t₃) (by assumption) ⟨_, St.keep (by assumption) _ _ (hkp _ _ h2), rfl, 0, rfl⟩ rm₁.handled ?_
      intro s₅ _ st₅
      repeat walk_at "S"
      refine c_length rm₁ (St.cx' (by assumption)) (by omega) fun ty s₆ af => ?_
      (rename St _ _ _ _ _ _ _ => stO); have stO := stO.go af
      repeat walk_at "S"
      -- the places at which the piece stands
      (rename St _ _ _ _ _ _ _ => stO)
      have stO : St w s kp' L _ [(Str.ofString "pieces", some (.ref a)), (Str.ofString "last", some (.bool last)), (Str.ofString "ends", some (.ref D)), (Str.ofString "stars", some (.int (p.1 : Int) t₁))] ((D, lstO vs k) :: [(cY, cO oY (some (.int ((digs p.2.2).length : Int) ty))), (cN, cO oN (some (.int (p.2.2 : Int) t₃))), (cM, cO oM (some (.int (p.2.1 : Int) t₂))), (cL, cO oL (some (.int ((digs n).length : Int) tl))), (cW, cO oW (some (.int (n : Int) tn)))]) := stO
      have hD := stO.ob _ (.head _)
      have stO' := stO.less (List.sublist_cons_self _ _)
      refine src_list (items := vs) stO' rm₁.handled (isl hD.1) hD.2.1 (fun p hp e => (List.nodup_cons.mp stO.nd).1 (List.mem_map.mpr ⟨p, hp, e⟩)) fun it s₇ st₇ af₇ src => ?_
      refine comp_srcU st₇ src (fun a h => stO.fresh h) (fun _ _ _ => .inl ⟨_, _, rfl⟩) (by rw [hns.len, sizeLine_eq]; omega) (by decide) rfl
        [(Str.ofString ".0", none), (Str.ofString "end", none)] (by decide) (by decide)
        (fun i ys led => led = [] ∧ Nats ys (((es.take i).filter fun e => decide (n / 16 ^ e % 16 ^ (digs p.2.2).length = p.2.2)).map fun e => e + (digs p.2.2).length + p.2.1)) ⟨rfl, .nil⟩
        (fun i ys led h => by rw [h.2.len, List.length_map]; exact Nat.le_trans (List.length_filter_le _ _) (by rw [List.length_take]; omega)) ?_ rfl rfl rfl kC (fun _ => .tail (.tail .head)) ?_
      · rintro j v kq s₈ C D' ys k' led₁ hj hv ⟨rfl, hI⟩ kD hkq st
        rw [hns.len] at hj
        have hej : es[j]? = some es[j] := List.getElem?_eq_getElem hj
        have hee := hle _ (List.getElem_mem hj)
        have htk : es.take (j + 1) = es.take j ++ [es[j]] := List.take_succ_eq_append_getElem hj
        generalize es[j] = e at hej hee htk
        obtain ⟨te, hve⟩ := hns.at hej
        rw [hv] at hve
        cases Option.some.inj hve
        have hY := hkq _ _ (stO.own (.tail .head)) (st₇.own .head)
        have hN := hkq _ _ (stO.own (.tail (.tail .head))) (st₇.own (.tail .head))
        have hM := hkq _ _ (stO.own (.tail (.tail (.tail .head)))) (st₇.own (.tail (.tail .head)))
        have hW := hkq _ _ (stO.own (.tail (.tail (.tail (.tail (.tail .head)))))) (st₇.own (.tail (.tail (.tail (.tail .head)))))
        repeat walk_at "S"
        refine i_p16 (by assumption) (by omega) ?_
        intro _; walk_at "I"
        refine i_d16 (by assumption) (by omega) ?_
        intro _; walk_at "I"
        repeat walk_at "S"
        refine i_p16 (by assumption) (by omega) ?_
        intro _; walk_at "I"
        refine i_m16 (by assumption) ?_
        intro _; walk_at "I"
        repeat walk_at "S"
        rw [dec_cast, htk, List.filter_append, List.map_append]
        refine Br_dec (fun hk => ?_) (fun hk => ?_)
        · repeat walk_at "S"
          rw [show (e : Int) + ((digs p.2.2).length : Int) + (p.2.1 : Int) = ((e + (digs p.2.2).length + p.2.1 : Nat) : Int) by omega]
          refine ⟨_, _, by assumption, ?_⟩
          refine ⟨rfl, rfl, ?_⟩
          rw [List.filter_cons_of_pos (by simpa using hk)]
          exact hI.app (.cons _ _ .nil)
        · refine ⟨_, _, by assumption, ?_⟩
          refine ⟨rfl, rfl, ?_⟩
          rw [List.filter_cons_of_neg (by simpa using hk)]
          simpa using hI
      · rintro s₈ D₁ ys k₁ led₂ ⟨rfl, hI⟩ st₈
        rw [hns.len, List.take_length] at hI
        repeat walk_at "S"
        -- those not over the length
        (rename St _ _ _ _ _ _ _ => stO)
        have stO : St w s kp' L _ [(Str.ofString "pieces", some (.ref a)), (Str.ofString "last", some (.bool last)), (Str.ofString "ends", some (.ref D₁)), (Str.ofString "stars", some (.int (p.1 : Int) t₁))] ((D₁, lstO ys k₁) :: [(cY, cO oY (some (.int ((digs p.2.2).length : Int) ty))), (cN, cO oN (some (.int (p.2.2 : Int) t₃))), (cM, cO oM (some (.int (p.2.1 : Int) t₂))), (cL, cO oL (some (.int ((digs n).length : Int) tl))), (cW, cO oW (some (.int (n : Int) tn)))]) := stO
        have hD := stO.ob _ (.head _)
        have stO' := stO.less (List.sublist_cons_self _ _)
        refine src_list (items := ys) stO' rm₁.handled (isl hD.1) hD.2.1 (fun p hp e => (List.nodup_cons.mp stO.nd).1 (List.mem_map.mpr ⟨p, hp, e⟩)) fun it s₉ st₉ af₉ src => ?_
        generalize hF : ((es.filter fun e => decide (n / 16 ^ e % 16 ^ (digs p.2.2).length = p.2.2)).map fun e => e + (digs p.2.2).length + p.2.1) = F at hI
        have hFl : F.length ≤ (digs n).length + 1 := by
          rw [← hF, List.length_map]; exact Nat.le_trans (List.length_filter_le _ _) hel
        refine comp_srcU st₉ src (fun a h => stO.fresh h) (fun _ _ _ => .inl ⟨_, _, rfl⟩) (by rw [hI.len, sizeLine_eq]; omega) (by decide) rfl
          [(Str.ofString ".0", none), (Str.ofString "end", none)] (by decide) (by decide)
          (fun i ys led => led = [] ∧ Nats ys ((F.take i).filter fun e => decide (e ≤ (digs n).length))) ⟨rfl, .nil⟩
          (fun i ys led h => by rw [h.2.len]; exact Nat.le_trans (List.length_filter_le _ _) (by rw [List.length_take]; omega)) ?_ rfl rfl rfl kC (fun _ => .tail (.tail .head)) ?_
        · rintro j v kq s₈ C D' zs k' led₁ hj hv ⟨rfl, hJ⟩ kD hkq st
          rw [hI.len] at hj
          have hej : F[j]? = some F[j] := List.getElem?_eq_getElem hj
          have htk : F.take (j + 1) = F.take j ++ [F[j]] := List.take_succ_eq_append_getElem hj
          generalize F[j] = e at hej htk
          obtain ⟨te, hve⟩ := hI.at hej
          rw [hv] at hve
          cases Option.some.inj hve
          have hL := hkq _ _ (stO.own (.tail (.tail (.tail (.tail .head))))) (st₉.own (.tail (.tail (.tail .head))))
          repeat walk_at "S"
          rw [dec_le, htk, List.filter_append]
          refine Br_dec (fun hk => ?_) (fun hk => ?_)
          · repeat walk_at "S"
            refine ⟨_, _, by assumption, ?_⟩
            refine ⟨rfl, rfl, ?_⟩
            rw [List.filter_cons_of_pos (by simpa using hk)]
            exact hJ.app (.cons _ _ .nil)
          · refine ⟨_, _, by assumption, ?_⟩
            refine ⟨rfl, rfl, ?_⟩
            rw [List.filter_cons_of_neg (by simpa using hk)]
            simpa using hJ
        · rintro s₉ D₂ zs k₂ led₂ ⟨rfl, hJ⟩ st₉
          rw [hI.len, List.take_length] at hJ
          have st₉ : St w s kp' L _ [(Str.ofString "pieces", some (.ref a)), (Str.ofString "last", some (.bool last)), (Str.ofString "ends", some (.ref D₂)), (Str.ofString "stars", some (.int (p.1 : Int) t₁))] ((D₂, lstO zs k₂) :: [(cY, cO oY (some (.int ((digs p.2.2).length : Int) ty))), (cN, cO oN (some (.int (p.2.2 : Int) t₃))), (cM, cO oM (some (.int (p.2.1 : Int) t₂))), (cL, cO oL (some (.int ((digs n).length : Int) tl))), (cW, cO oW (some (.int (n : Int) tn)))]) := st₉
          generalize hG : (F.filter fun e => decide (e ≤ (digs n).length)) = G at hJ
          have hst : stepE n (digs n).length es p = (if 0 < p.1 then headR (digs n).length G else G) := by
            unfold stepE; rw [hF, hG]
          have hGl : G.length ≤ (digs n).length + 1 := by rw [← hG]; exact Nat.le_trans (List.length_filter_le _ _) hFl
          have hGm : ∀ e ∈ G, e ≤ (digs n).length := by
            intro e he; rw [← hG] at he; exact of_decide_eq_true (List.mem_filter.mp he).2
          rw [hst] at hstep sle
          repeat walk_at "S"
          with_reducible refine x_if ?_
          refine t_cutb (decide (0 < p.1) && !decide (G = [])) (fun s' => St w s kp' L s' [(Str.ofString "pieces", some (.ref a)), (Str.ofString "last", some (.bool last)), (Str.ofString "ends", some (.ref D₂)), (Str.ofString "stars", some (.int (p.1 : Int) t₁))] ((D₂, lstO zs k₂) :: [(cY, cO oY (some (.int ((digs p.2.2).length : Int) ty))), (cN, cO oN (some (.int (p.2.2 : Int) t₃))), (cM, cO oM (some (.int (p.2.1 : Int) t₂))), (cL, cO oL (some (.int ((digs n).length : Int) tl))), (cW, cO oW (some (.int (n : Int) tn)))])) ?_ ?_
          · repeat walk_at "S"
            refine Br_dec (fun hk => ?_) (fun hk => ?_)
            · repeat walk_at "S"
              refine l_ne_nil (by have := rm₁.units; omega) (St.own (by assumption) (.tail .head)) hJ (St.own (by assumption) .head) ?_
              repeat walk_at "S"
              (rename St _ _ _ _ _ _ _ => stN)
              have dt : decide (0 < p.1) = true := decide_eq_true (by omega)
              refine ⟨fun e1 => ?_, fun e1 => ?_⟩
              · repeat walk_at "S"
                exact ⟨by rw [dt, e1]; rfl, stN.less (List.sublist_cons_self _ _)⟩
              · exact ⟨by rw [dt, e1]; rfl, stN.less (List.sublist_cons_self _ _)⟩
            · exact ⟨by rw [decide_eq_false (by omega), Bool.false_and], by assumption⟩
          · intro s₁₀ st₁₀
            refine ⟨fun hk => ?_, fun hk => ?_⟩
            · obtain ⟨hk1, hk2⟩ := Bool.and_eq_true_iff.mp hk
              have hk1 := of_decide_eq_true hk1
              cases G with
              | nil => simp at hk2
              | cons e G =>
                have hee := hGm e (.head _)
                obtain ⟨te, hve⟩ := hJ.at (i := 0) (n := e) rfl
                rw [if_pos hk1] at hstep sle
                repeat walk_at "S"
                refine l_get (x := .int (e : Int) te) (isl (St.own (by assumption) .head)) (by omega) (by omega) (by simpa using hve) (by with_unfolding_all rfl) ?_
                repeat walk_at "S"
                (rename St _ _ _ _ _ _ _ => stN)
                refine b_range2 stN ?_
                intro r u₁; walk_at "I"
                repeat walk_at "S"
                (rename St _ _ _ _ _ _ _ => stN)
                rw [show ((digs n).length : Int) + 1 = (((digs n).length + 1 : Nat) : Int) by omega] at stN
                refine b_list_range (a := e) stN rm₁.handled (by omega) (by omega) fun D₃ ws k₃ s₁₁ hws st₁₁ => ?_
                repeat walk_at "S"
                (rename St _ _ _ _ _ _ _ => stN)
                exact ⟨_, _, stN.less (List.Sublist.cons_cons _ (List.sublist_cons_self _ _)), D₃, ws, k₃, _, _, _, _, _, rfl, rfl, hws, hstep.symm, sle.1, sle.2⟩
            · repeat walk_at "S"
              have hfin : (if 0 < p.1 then headR (digs n).length G else G) = G := by
                split
                · rename_i h0
                  rw [decide_eq_true h0, Bool.true_and] at hk
                  have : G = [] := by simpa using hk
                  subst this; rfl
                · rfl
              rw [hfin] at hstep
              exact ⟨_, _, by assumption, D₂, zs, k₂, _, _, _, _, G, rfl, rfl, hJ, hstep.symm, hGm, hGl⟩
    · rintro s₅ l₂ led₂ ⟨D, vs, k, us, vy, vn, vm, es, rfl, rfl, hns, hes, hle, hel⟩ st₅
      rw [List.length_reverse, hlen, ← List.length_reverse (as := ps), List.take_length] at hes
      repeat walk_at "S"
      refine l_in (isl (St.own (by assumption) .head)) hns ?_
      repeat walk_at "S"
      rw [hes]
      exact h _ (St.after (by assumption))
-- F_all
theorem digs_short {n k : Nat} (h : n < 16 ^ k) : (digs n).length ≤ k := by
  have := digs_le n k
  omega
theorem five {P : Int → Prop} {m₁ m₂ m₃ m₄ m₅ : Int} {t₁ t₂ t₃ t₄ t₅ : Tok} (h₁ : P m₁) (h₂ : P m₂) (h₃ : P m₃) (h₄ : P m₄) (h₅ : P m₅) : ∀ {i : Nat} {v : Value}, ([.int m₁ t₁, .int m₂ t₂, .int m₃ t₃, .int m₄ t₄, .int m₅ t₅] : List Value)[i]? = some v → ∃ m t, v = Value.int m t ∧ P m
  | 0, _, h => ⟨_, _, (Option.some.inj h).symm, h₁⟩
  | 1, _, h => ⟨_, _, (Option.some.inj h).symm, h₂⟩
  | 2, _, h => ⟨_, _, (Option.some.inj h).symm, h₃⟩
  | 3, _, h => ⟨_, _, (Option.some.inj h).symm, h₄⟩
  | 4, _, h => ⟨_, _, (Option.some.inj h).symm, h₅⟩
  | i + 5, _, h => by simp at h
theorem c_all {w : World} {A : Around} {s : Shared} {Q : Value → Shared → Prop} {a g c : Addr} {items gvs cvs : List Value} {k₀ kc : Nat} {og : Obj} {ps : List Piece} {gs : List (List Nat)} {c₅ : Int} {t₅ : Tok} (rm : Rm A 4) (cx : Cx w s.heap)
    (ha : s.heap.get? a = some (lstO items k₀)) (hT : Tups s.heap.get? items ps) (hz : ps.length = 4) (hp : ∀ p ∈ ps, PieceOk p)
    (hg : s.heap.get? g = some og) (hgl : IsL og gvs) (hgs : Strs gvs gs) (hgm : gs.length ≤ 1000) (hgg : ∀ f ∈ gs, f.length ≤ 1000)
    (hc : s.heap.get? c = some (lstO cvs kc)) (hca : AllInt cvs) (hc6 : cvs.length = 6) (hc5 : cvs[5]? = some (.int c₅ t₅))
    (key : ∀ n : Nat, (digs n).length ≤ 900 → takenF gs.length (ltr (digs n)) 0 gs 0 = (endsF ps (decide (c₅ % 2 = 1)) n).any (· == (digs n).length))
    (h : ∀ s', After s s' → Q (.bool true) s') : wpAny (model PR w) A (call (.ref 152) [.ref a, .ref g, .ref c]) Q NoE s := by
  refine enterR [Str.ofString "pieces", Str.ofString "segments", Str.ofString "cells"] [Str.ofString "last", Str.ofString "c", Str.ofString "fit", Str.ofString "number", Str.ofString "word"]
    [(Str.ofString "pieces", some (.ref a)), (Str.ofString "segments", some (.ref g)), (Str.ofString "cells", some (.ref c)), (Str.ofString "last", none), (Str.ofString "c", none), (Str.ofString "fit", none), (Str.ofString "number", none), (Str.ofString "word", none)]
    rfl rfl (by decide) (k := 3) rm cx rfl (by kernel_rfl) (.of_eq rfl) (by decide) (by decide) rfl rfl rfl ?_
  intro s₁ L A' rm₁ kL st
  repeat walk_at "S"
  refine l_get (x := .int c₅ t₅) (isl (St.keep (by assumption) _ _ hc)) (by omega) (by omega) (by simpa using hc5) (by with_unfolding_all rfl) ?_
  repeat walk_at "S"
  refine l_slice (lo := some 4) (hi := some 6) (stp := none) (by assumption) (isl (St.keep (by assumption) _ _ hc)) (by omega) (.int _ _) (.int _ _) .none (by simp) (by with_unfolding_all rfl) ?_
  intro D₀; walk_at "I"
  have epick : (slicePick cvs.toArray (some 4) (some 6) none).toList = (cvs.drop 4).take 2 := by
    rw [show (some (4 : Int)) = some ((4 : Nat) : Int) from rfl, show (some (6 : Int)) = some ((6 : Nat) : Int) from rfl, slicePick_run _ 4 6 (by simp; omega) (by omega)]
  (rename St _ _ _ _ _ _ _ => stO)
  rw [epick] at stO
  have hD := stO.ob _ (.head _)
  refine src_list (items := (cvs.drop 4).take 2) (stO.less (List.sublist_cons_self _ _)) rm₁.handled (isl hD.1) hD.2.1 (fun p hp => by cases hp) fun it s₃ st₃ af₃ src => ?_
  refine for_src st₃ src (fun a h => stO.fresh h) kL (fun _ _ _ => .inl ⟨_, _, rfl⟩)
    (fun i l led => ∃ u₁ u₂ u₃ u₄ : Option Value, l = [(Str.ofString "pieces", some (.ref a)), (Str.ofString "segments", some (.ref g)), (Str.ofString "cells", some (.ref c)), (Str.ofString "last", some (.bool (decide (c₅ % 2 = 1)))), (Str.ofString "c", u₁), (Str.ofString "fit", u₂), (Str.ofString "number", u₃), (Str.ofString "word", u₄)] ∧ led = [])
    ⟨_, _, _, _, rfl, rfl⟩ ?_ ?_
  · rintro i v kp' s₁ l₁ led₁ hi hv ⟨u₁, u₂, u₃, u₄, rfl, rfl⟩ kC hkp st
    obtain ⟨n, tn, rfl⟩ : ∃ n t, v = Value.int n t := by
      rw [List.getElem?_take] at hv
      split at hv
      · rw [List.getElem?_drop] at hv; exact hca _ _ hv
      · cases hv
    repeat walk_at "S"
    refine c_fit (rm₁.less (by omega)) (St.cx' (by assumption)) (St.keep (by assumption) _ _ (hkp _ _ ha)) (hT.mono fun x o e => St.keep (by assumption) _ _ (hkp _ _ e)) (by omega) hp fun F tF s₄ af hF => ?_
    (rename St _ _ _ _ _ _ _ => stO); have stO := stO.go af
    rw [hz] at hF
    repeat walk_at "S"
    refine i_mul (by assumption) (mul16 F) ?_
    intro _; walk_at "I"
    repeat walk_at "S"
    refine i_pow (by assumption) (by omega) (by omega) (by decide) ?_
    intro _; walk_at "I"
    repeat walk_at "S"
    refine i_pow (by assumption) (by omega) (by omega) (by decide) ?_
    intro _; walk_at "I"
    refine i_mod (by assumption) (by decide) ?_
    intro _; walk_at "I"
    repeat walk_at "S"
    -- the five numbers
    (rename St _ _ _ _ _ _ _ => stO)
    have hT5 := stO.ob _ (.head _)
    have e24 : (16 : Nat) ^ (6 * 4) = 79228162514264337593543950336 := by decide
    have e25 : (16 : Nat) ^ 25 = 1267650600228229401496703205376 := by decide
    rw [e24] at hF
    have sh : ∀ x : Nat, x < 1267650600228229401496703205376 → (digs x).length ≤ 30 := fun x hx => Nat.le_trans (digs_short (k := 25) (by rw [e25]; exact hx)) (by decide)
    have b1 : (digs ((F : Int)).natAbs).length ≤ 30 := sh _ (by omega)
    have b2 : (digs ((F : Int) / 16).natAbs).length ≤ 30 := sh _ (by omega)
    have b3 : (digs ((F : Int) * 16 + n % 16).natAbs).length ≤ 30 := sh _ (by omega)
    have b4 : (digs (-((F : Int) + 16 ^ (n % 8).toNat)).natAbs).length ≤ 30 := sh _ (by
      have h1 : (16 : Int) ^ (n % 8).toNat = ((16 ^ (n % 8).toNat : Nat) : Int) := (Int.natCast_pow 16 _).symm
      have h2 : (16 : Nat) ^ (n % 8).toNat ≤ 16 ^ 7 := Nat.pow_le_pow_right (by decide) (by omega)
      have h3 : (16 : Nat) ^ 7 = 268435456 := by decide
      rw [h3] at h2
      rw [h1]
      generalize (16 : Nat) ^ (n % 8).toNat = q at h2 ⊢
      omega)
    have b5 : (digs (n % (2 : Int) ^ (32 : Int).toNat).natAbs).length ≤ 30 := sh _ (by
      have h1 : (2 : Int) ^ (32 : Int).toNat = 4294967296 := by decide
      rw [h1]; omega)
    refine src_tuple (stO.less (List.sublist_cons_self _ _)) rm₁.handled ⟨_, hT5.1, rfl, 0, rfl⟩ hT5.2.1 (fun p hp => by cases hp) (fun i T e => ?_) fun it s₅ st₅ af₅ src => ?_
    · obtain ⟨m, t, e2, _⟩ := five (P := fun _ => True) trivial trivial trivial trivial trivial e
      cases e2
    refine for_src st₅ src (fun a h => stO.fresh h) kC (fun _ _ _ => .inl ⟨_, _, rfl⟩)
      (fun i l led => ∃ u₃ u₄ : Option Value, l = [(Str.ofString "pieces", some (.ref a)), (Str.ofString "segments", some (.ref g)), (Str.ofString "cells", some (.ref c)), (Str.ofString "last", some (.bool (decide (c₅ % 2 = 1)))), (Str.ofString "c", some (.int n tn)), (Str.ofString "fit", some (.int (F : Int) tF)), (Str.ofString "number", u₃), (Str.ofString "word", u₄)] ∧ led = [])
      ⟨_, _, rfl, rfl⟩ ?_ ?_
    · rintro j v kq s₆ l₁ led₁ hj hv ⟨u₃, u₄, rfl, rfl⟩ kD hkq st
      obtain ⟨m, t, rfl, hd⟩ := five (P := fun m => (digs m.natAbs).length ≤ 30) b1 b2 b3 b4 b5 hv
      repeat walk_at "S"
      refine c_text (rm₁.less (by omega)) (St.cx' (by assumption)) (by omega) fun t₁ s₇ af => ?_
      (rename St _ _ _ _ _ _ _ => stO); have stO := stO.go af
      repeat walk_at "S"
      walk_at "IF"
      refine c_spelled (rm₁.less (by omega)) (St.cx' (by assumption)) (by omega) fun t₂ s₈ af => ?_
      (rename St _ _ _ _ _ _ _ => stO); have stO := stO.go af
      repeat walk_at "S"
      rw [decide_eq_true rfl]
      refine Br_f ?_
      repeat walk_at "S"
      walk_at "IF"
      refine c_taken (rm₁.less (by omega)) (St.cx' (by assumption)) (by simp [ltr]; omega) hgm (St.keep (by assumption) _ _ (hkq _ _ (hkp _ _ hg))) hgl hgs hgg fun s₉ af => ?_
      (rename St _ _ _ _ _ _ _ => stO); have stO := stO.go af
      repeat walk_at "S"
      refine c_found (rm₁.less (by omega)) (St.cx' (by assumption)) (St.keep (by assumption) _ _ (hkq _ _ (hkp _ _ ha))) (hT.mono fun x o e => St.keep (by assumption) _ _ (hkq _ _ (hkp _ _ e))) hz hp (by omega) fun s₁₀ af => ?_
      (rename St _ _ _ _ _ _ _ => stO); have stO := stO.go af
      rw [key m.natAbs (by omega)]
      repeat walk_at "S"
      rw [decide_eq_true rfl]
      refine Br_f ?_
      repeat walk_at "S"
      exact ⟨_, _, by assumption, _, _, rfl, rfl⟩
    · rintro s₆ l₂ led₂ ⟨u₃, u₄, rfl, rfl⟩ st₆
      repeat walk_at "S"
      exact ⟨_, _, st₆, _, _, _, _, rfl, rfl⟩
  · rintro s₂ l₂ led₂ ⟨u₁, u₂, u₃, u₄, rfl, rfl⟩ st₂
    repeat walk_at "S"
    exact h _ (St.after (by assumption))
-- PL
/-- the pattern takes the word: none is a star, 46 any sign -/
def G : List (Option Nat) → List Nat → Prop
  | [], x => x = []
  | some c :: r, x => match x with
    | [] => False
    | d :: y => (c = 46 ∨ c = d) ∧ G r y
  | none :: r, x => ∃ k, G r (x.drop k)
theorem G_app (f : List Nat) (r : List (Option Nat)) : ∀ x, G (f.map some ++ r) x ↔ fits f x = true ∧ G r (x.drop f.length) := by
  induction f with
  | nil => intro x; simp [fits]
  | cons c f ih =>
    intro x
    cases x with
    | nil => simp [G, fits]
    | cons d y =>
      show ((c = 46 ∨ c = d) ∧ G (f.map some ++ r) y) ↔ ((decide (c = 46) || decide (c = d)) && fits f y) = true ∧ G r (y.drop f.length)
      rw [ih y]; simp [and_assoc]
theorem G_mono {r : List (Option Nat)} {x : List Nat} {k : Nat} : G (none :: r) (x.drop k) → G (none :: r) x := fun ⟨j, h⟩ => ⟨k + j, by rw [List.drop_drop] at h; exact h⟩
theorem G_dbl (r : List (Option Nat)) : ∀ (u : List (Option Nat)) (x : List Nat), G (u ++ none :: none :: r) x ↔ G (u ++ none :: r) x
  | [], x => ⟨fun ⟨k, j, h⟩ => ⟨k + j, by rw [List.drop_drop] at h; exact h⟩, fun ⟨k, h⟩ => ⟨k, 0, h⟩⟩
  | none :: u, x => ⟨fun ⟨k, h⟩ => ⟨k, (G_dbl r u _).mp h⟩, fun ⟨k, h⟩ => ⟨k, (G_dbl r u _).mpr h⟩⟩
  | some c :: u, [] => Iff.rfl
  | some c :: u, d :: y => and_congr_right fun _ => G_dbl r u y

-- the left side: leftmost places
theorem seek_spec (f x : List Nat) : ∀ a, a ≤ x.length → a ≤ seek f x a ∧ seek f x a ≤ x.length ∧ (∀ b, a ≤ b → b < seek f x a → fits f (x.drop b) = false) ∧ (seek f x a < x.length → fits f (x.drop (seek f x a)) = true) := by
  intro a
  induction a using (measure fun a => x.length - a).wf.induction with
  | _ a ih =>
    intro ha
    rw [seek]
    split
    · rename_i h
      obtain ⟨h1, h2, h3, h4⟩ := ih (a + 1) (by show x.length - (a + 1) < x.length - a; omega) (by omega)
      refine ⟨by omega, h2, fun b hb hb2 => ?_, h4⟩
      by_cases e : b = a
      · rw [e]; exact h.2
      · exact h3 b (by omega) hb2
    · rename_i h
      refine ⟨Nat.le_refl _, ha, fun b hb hb2 => by omega, fun hl => ?_⟩
      cases e : fits f (x.drop a) with
      | true => rfl
      | false => exact absurd ⟨hl, e⟩ h
theorem taken_rest (x : List Nat) : ∀ (r : List (List Nat)) (m k a : Nat), 0 < k → m = k + r.length → a ≤ x.length → (takenF m x k r a = true ↔ G (encR r) (x.drop a))
  | [], m, k, a, _, _, ha => by
    show decide (a = x.length) = true ↔ x.drop a = []
    rw [decide_eq_true_iff, List.drop_eq_nil_iff]; omega
  | [f], m, k, a, hk, hm, ha => by
    have hm' : k + 1 = m := by rw [hm]; rfl
    unfold takenF turnF
    dsimp only
    rw [if_pos ⟨hk, hm'⟩, if_neg (show ¬ (0 < k ∧ k + 1 < m) by omega)]
    show _ ↔ ∃ j, G (f.map some ++ []) ((x.drop a).drop j)
    constructor
    · intro h
      by_cases h1 : x.length < a + f.length
      · rw [if_pos h1] at h; cases h
      · rw [if_neg h1] at h
        by_cases h2 : fits f (x.drop (x.length - f.length)) = true
        · refine ⟨x.length - f.length - a, ?_⟩
          rw [List.drop_drop, show a + (x.length - f.length - a) = x.length - f.length by omega, G_app]
          refine ⟨h2, ?_⟩
          show List.drop _ _ = []
          rw [List.drop_drop, List.drop_of_length_le (by omega)]
        · rw [if_neg h2] at h; cases h
    · rintro ⟨j, h⟩
      rw [List.drop_drop, G_app] at h
      obtain ⟨h1, h2⟩ := h
      have h2 : List.drop f.length (List.drop (a + j) x) = [] := h2
      have hl := fits_len _ _ h1
      rw [List.drop_drop, List.drop_eq_nil_iff] at h2
      rw [List.length_drop] at hl
      by_cases hf : f.length = 0
      · have hf0 : f = [] := List.length_eq_zero_iff.mp hf
        subst hf0
        rw [if_neg (show ¬ (x.length < a + ([] : List Nat).length) by simp; omega), if_pos (show fits [] _ = true from rfl)]
        show decide _ = true
        simp
      · have e : a + j = x.length - f.length := by omega
        rw [if_neg (by omega), ← e, if_pos h1]
        show decide _ = true
        rw [decide_eq_true_iff]; omega
  | f :: g :: r, m, k, a, hk, hm, ha => by
    have hm' : k + 1 < m := by rw [hm]; simp
    obtain ⟨s1, s2, s3, s4⟩ := seek_spec f x a ha
    unfold takenF turnF
    dsimp only
    rw [if_neg (show ¬ (0 < k ∧ k + 1 = m) by omega), if_pos (show 0 < k ∧ k + 1 < m from ⟨hk, hm'⟩)]
    generalize seek f x a = q at s1 s2 s3 s4
    show _ ↔ ∃ j, G (f.map some ++ encR (g :: r)) ((x.drop a).drop j)
    have ih := fun b hb => taken_rest x (g :: r) m (k + 1) b (by omega) (by rw [hm]; simp; omega) hb
    constructor
    · intro h
      by_cases h1 : fits f (x.drop q) = true
      · rw [if_pos h1] at h
        have hl := fits_len _ _ h1
        rw [List.length_drop] at hl
        refine ⟨q - a, ?_⟩
        rw [List.drop_drop, show a + (q - a) = q by omega, G_app]
        refine ⟨h1, ?_⟩
        rw [List.drop_drop]
        exact (ih (q + f.length) (by omega)).mp h
      · rw [if_neg h1] at h; cases h
    · rintro ⟨j, h⟩
      rw [List.drop_drop, G_app] at h
      obtain ⟨h1, h2⟩ := h
      have hl := fits_len _ _ h1
      rw [List.length_drop] at hl
      have hq : fits f (x.drop q) = true ∧ G (encR (g :: r)) (x.drop (q + f.length)) := by
        by_cases hb : a + j < x.length
        · have hqj : q ≤ a + j := by
            rcases Nat.lt_or_ge (a + j) q with h3 | h3
            · rw [s3 (a + j) (by omega) h3] at h1; cases h1
            · exact h3
          refine ⟨s4 (by omega), ?_⟩
          rw [List.drop_drop] at h2
          have : x.drop (a + j + f.length) = (x.drop (q + f.length)).drop (a + j - q) := by rw [List.drop_drop]; congr 1; omega
          rw [this] at h2
          exact G_mono h2
        · have hf : f = [] := List.length_eq_zero_iff.mp (by omega)
          subst hf
          refine ⟨rfl, ?_⟩
          rw [List.drop_drop] at h2
          have : x.drop (a + j + ([] : List Nat).length) = (x.drop (q + ([] : List Nat).length)).drop (a + j - q) := by
            rw [List.drop_drop, List.drop_of_length_le (by simp; omega), List.drop_of_length_le (by simp; omega)]
          rw [this] at h2
          exact G_mono h2
      rw [if_pos hq.1]
      have hl2 := fits_len _ _ hq.1
      rw [List.length_drop] at hl2
      exact (ih (q + f.length) (by omega)).mpr hq.2
theorem taken_all (x f₀ : List Nat) (fs : List (List Nat)) : takenF (f₀ :: fs).length x 0 (f₀ :: fs) 0 = true ↔ G (f₀.map some ++ encR fs) x := by
  rw [G_app]
  unfold takenF turnF
  dsimp only
  rw [if_neg (show ¬ (0 < 0 ∧ 0 + 1 = (f₀ :: fs).length) by omega), if_neg (show ¬ (0 < 0 ∧ 0 + 1 < (f₀ :: fs).length) by omega)]
  by_cases h1 : fits f₀ (x.drop 0) = true
  · rw [if_pos h1]
    rw [List.drop_zero] at h1
    have hl := fits_len _ _ h1
    rw [Nat.zero_add]
    exact (taken_rest x fs _ 1 f₀.length (by omega) (by simp; omega) hl).trans ⟨fun h => ⟨h1, h⟩, fun h => h.2⟩
  · rw [if_neg h1]
    rw [List.drop_zero] at h1
    exact ⟨fun h => (by cases h), fun h => absurd h.1 h1⟩

-- the parts of the pattern
def tokF (c : Nat) : Option Nat := if c = 42 then none else if c = 63 then some 46 else some c
theorem parts_G (P : List Nat) : ∀ (acc : List (Option Nat)) (x : List Nat), G (P.foldl partF acc) x ↔ G (acc ++ P.map tokF) x := by
  induction P with
  | nil => intro acc x; simp
  | cons c P ih =>
    intro acc x
    rw [List.foldl_cons, ih, List.map_cons]
    have e : acc ++ tokF c :: P.map tokF = (acc ++ [tokF c]) ++ P.map tokF := by simp
    rw [e]
    unfold partF tokF
    split
    · split
      · rename_i h
        obtain ⟨u, hu⟩ : ∃ u, acc = u ++ [none] := by
          rw [List.getLast?_eq_some_iff] at h; exact h
        subst hu
        have := G_dbl (P.map tokF) u x
        simp only [List.append_assoc, List.cons_append, List.nil_append]
        exact this.symm
      · exact Iff.rfl
    · split <;> exact Iff.rfl
/-- no star beside a star -/
def NoDbl (l : List (Option Nat)) : Prop := ∀ i, ¬ (l[i]? = some none ∧ l[i + 1]? = some none)
theorem NoDbl.snoc {l : List (Option Nat)} {y : Option Nat} (h : NoDbl l) (hy : y = none → l.getLast? ≠ some none) : NoDbl (l ++ [y]) := by
  rintro i ⟨h1, h2⟩
  by_cases hi : i + 1 < l.length
  · rw [List.getElem?_append_left (by omega)] at h1
    rw [List.getElem?_append_left hi] at h2
    exact h i ⟨h1, h2⟩
  · by_cases hi2 : i + 1 = l.length
    · rw [List.getElem?_append_left (by omega)] at h1
      rw [List.getElem?_append_right (by omega), hi2] at h2
      have hy0 : y = none := by simpa using h2
      refine hy hy0 ?_
      rw [List.getLast?_eq_getElem?, show l.length - 1 = i by omega]; exact h1
    · rw [List.getElem?_append_right (by omega)] at h2
      have : i + 1 - l.length ≠ 0 := by omega
      cases hz : i + 1 - l.length with
      | zero => omega
      | succ q => rw [hz] at h2; simp at h2
theorem parts_no (P : List Nat) : ∀ acc, NoDbl acc → NoDbl (P.foldl partF acc) := by
  induction P with
  | nil => intro acc h; exact h
  | cons c P ih =>
    intro acc h
    rw [List.foldl_cons]
    refine ih _ ?_
    unfold partF
    split
    · split
      · exact h
      · rename_i h2; exact h.snoc fun _ => h2
    · split
      · exact h.snoc fun e => by cases e
      · exact h.snoc fun e => by cases e
theorem split_at : ∀ l : List (Option Nat), ∃ (f₀ : List Nat) (fs : List (List Nat)), l = f₀.map some ++ encR fs
  | [] => ⟨[], [], rfl⟩
  | none :: l => by
    obtain ⟨f₀, fs, e⟩ := split_at l
    exact ⟨[], f₀ :: fs, by rw [e]; rfl⟩
  | some c :: l => by
    obtain ⟨f₀, fs, e⟩ := split_at l
    exact ⟨c :: f₀, fs, by rw [e]; rfl⟩
theorem mid_ok : ∀ (fs : List (List Nat)) (f₀ : List Nat), NoDbl (f₀.map some ++ encR fs) → MidOk fs
  | [], _, _ => trivial
  | [_], _, _ => trivial
  | f :: g :: r, f₀, h => by
    refine ⟨fun e => ?_, mid_ok (g :: r) f fun i hi => h (f₀.length + 1 + i) ?_⟩
    · subst e
      refine h f₀.length ⟨?_, ?_⟩
      · rw [List.getElem?_append_right (by simp)]; simp [encR]
      · rw [List.getElem?_append_right (by simp)]; simp [encR]
    · rw [List.getElem?_append_right (by simp; omega), List.getElem?_append_right (by simp; omega)]
      rw [show f₀.length + 1 + i - (f₀.map some).length = i + 1 by simp; omega, show f₀.length + 1 + i + 1 - (f₀.map some).length = i + 1 + 1 by simp; omega]
      exact hi
theorem parts_len (P : List Nat) : ∀ acc, (P.foldl partF acc).length ≤ acc.length + P.length := by
  induction P with
  | nil => intro acc; simp
  | cons c P ih =>
    intro acc
    rw [List.foldl_cons]
    refine Nat.le_trans (ih _) ?_
    have : (partF acc c).length ≤ acc.length + 1 := by unfold partF; split <;> (try split) <;> simp
    simp; omega
theorem parts_ok (P : List Nat) (hP : ∀ c ∈ P, c = 42 ∨ c = 63 ∨ (65 ≤ c ∧ c ≤ 80)) : ∀ acc, (∀ c, some c ∈ acc → okc c) → ∀ c, some c ∈ P.foldl partF acc → okc c := by
  induction P with
  | nil => intro acc h; exact h
  | cons c P ih =>
    intro acc h
    rw [List.foldl_cons]
    refine ih (fun d hd => hP d (.tail _ hd)) _ ?_
    have hc := hP c (.head _)
    intro d hd
    unfold partF at hd
    split at hd
    · split at hd
      · exact h d hd
      · rcases List.mem_append.mp hd with h1 | h1
        · exact h d h1
        · cases List.mem_singleton.mp h1
    · split at hd
      · rcases List.mem_append.mp hd with h1 | h1
        · exact h d h1
        · cases List.mem_singleton.mp h1; exact .inl rfl
      · rcases List.mem_append.mp hd with h1 | h1
        · exact h d h1
        · cases List.mem_singleton.mp h1; unfold okc; omega
theorem mem_encR {f : List Nat} {c : Nat} (hc : c ∈ f) : ∀ {fs : List (List Nat)}, f ∈ fs → some c ∈ encR fs
  | g :: fs, h => by
    show some c ∈ none :: (g.map some ++ encR fs)
    rcases List.mem_cons.mp h with rfl | h
    · exact .tail _ (List.mem_append_left _ (List.mem_map.mpr ⟨c, hc, rfl⟩))
    · exact .tail _ (List.mem_append_right _ (mem_encR hc h))
theorem len_encR : ∀ {fs : List (List Nat)}, fs.length ≤ (encR fs).length ∧ (∀ f ∈ fs, f.length ≤ (encR fs).length) ∧ (restT fs).length ≤ 8 * (encR fs).length
  | [] => ⟨Nat.le_refl _, (fun f hf => by cases hf), Nat.le_refl _⟩
  | [f] => by refine ⟨by simp [encR], fun g hg => ?_, ?_⟩
              · rw [List.mem_singleton.mp hg]; simp [encR]
              · simp [encR, restT]; omega
  | f :: g :: r => by
    obtain ⟨h1, h2, h3⟩ := len_encR (fs := g :: r)
    have e : (encR (f :: g :: r)).length = 1 + f.length + (encR (g :: r)).length := by show (none :: (f.map some ++ encR (g :: r))).length = _; simp; omega
    refine ⟨by rw [e, List.length_cons]; omega, fun q hq => ?_, ?_⟩
    · rcases List.mem_cons.mp hq with rfl | hq
      · rw [e]; omega
      · have := h2 q hq; rw [e]; omega
    · have : (restT (f :: g :: r)).length = 7 + f.length + (restT (g :: r)).length := by show (([40, 63, 62, 46, 42, 63] ++ f ++ [41]) ++ restT (g :: r)).length = _; simp; omega
      rw [this, e]; omega
-- PL2
def val (l : List Nat) : Nat := l.foldl (fun a d => a * 16 + d) 0
theorem val_acc (l : List Nat) : ∀ a, l.foldl (fun a d => a * 16 + d) a = a * 16 ^ l.length + val l := by
  induction l with
  | nil => intro a; simp [val]
  | cons d l ih =>
    intro a
    show l.foldl _ (a * 16 + d) = _
    have e : val (d :: l) = d * 16 ^ l.length + val l := by
      show l.foldl _ (0 * 16 + d) = _
      rw [ih]; simp
    rw [ih, e, List.length_cons, Nat.pow_succ, Nat.add_mul]
    have : a * 16 * 16 ^ l.length = a * (16 ^ l.length * 16) := by rw [Nat.mul_assoc, Nat.mul_comm 16]
    omega
theorem val_app (l r : List Nat) : val (l ++ r) = val l * 16 ^ r.length + val r := by
  unfold val
  rw [List.foldl_append]
  exact val_acc r _
theorem val_one (d : Nat) : val [d] = d := by simp [val]
theorem val_digs (n : Nat) : val (digs n) = n := by
  induction n using Nat.strongRecOn with
  | ind n ih =>
    by_cases h : n = 0
    · subst h; rw [digs_zero]; rfl
    · rw [digs_pos h, val_app, ih (n / 16) (by omega), val_one]
      simp; omega
theorem val_lt (l : List Nat) : (∀ d ∈ l, d < 16) → val l < 16 ^ l.length := by
  induction l with
  | nil => intro _; decide
  | cons d l ih =>
    intro h
    have e : val (d :: l) = d * 16 ^ l.length + val l := by
      have := val_app [d] l
      rwa [val_one] at this
    have h1 := ih fun c hc => h c (.tail _ hc)
    have h2 := h d (.head _)
    have h3 : (d + 1) * 16 ^ l.length ≤ 16 * 16 ^ l.length := Nat.mul_le_mul_right _ h2
    rw [e, List.length_cons, Nat.pow_succ, Nat.mul_comm (16 ^ l.length)]
    rw [Nat.add_mul] at h3
    omega
theorem val_inj : ∀ (l r : List Nat), l.length = r.length → (∀ d ∈ l, d < 16) → (∀ d ∈ r, d < 16) → val l = val r → l = r
  | [], [], _, _, _, _ => rfl
  | c :: l, d :: r, hl, h1, h2, hv => by
    have e1 : val (c :: l) = c * 16 ^ l.length + val l := by have := val_app [c] l; rwa [val_one] at this
    have e2 : val (d :: r) = d * 16 ^ r.length + val r := by have := val_app [d] r; rwa [val_one] at this
    have hlr : l.length = r.length := by simpa using hl
    have b1 := val_lt l fun x hx => h1 x (.tail _ hx)
    have b2 := val_lt r fun x hx => h2 x (.tail _ hx)
    rw [e1, e2, hlr] at hv
    rw [hlr] at b1
    have hcd : c = d := by
      have q1 : (c * 16 ^ r.length + val l) / 16 ^ r.length = c := by
        rw [Nat.mul_comm, Nat.mul_add_div (Nat.pow_pos (by decide)), Nat.div_eq_of_lt b1]; rfl
      have q2 : (d * 16 ^ r.length + val r) / 16 ^ r.length = d := by
        rw [Nat.mul_comm, Nat.mul_add_div (Nat.pow_pos (by decide)), Nat.div_eq_of_lt b2]; rfl
      rw [← q1, ← q2, hv]
    subst hcd
    rw [val_inj l r hlr (fun x hx => h1 x (.tail _ hx)) (fun x hx => h2 x (.tail _ hx)) (by omega)]
theorem num_at {n v e : Nat} (h : e + (digs v).length ≤ (digs n).length) : n / 16 ^ e % 16 ^ (digs v).length = v ↔ ((digs n).drop ((digs n).length - (e + (digs v).length))).take (digs v).length = digs v := by
  generalize hA : (digs n).take ((digs n).length - (e + (digs v).length)) = A
  generalize hB : ((digs n).drop ((digs n).length - (e + (digs v).length))).take (digs v).length = B
  generalize hC : ((digs n).drop ((digs n).length - (e + (digs v).length))).drop (digs v).length = C
  have hs : digs n = A ++ (B ++ C) := by rw [← hA, ← hB, ← hC, List.take_append_drop, List.take_append_drop]
  have hCl : C.length = e := by rw [← hC, List.length_drop, List.length_drop]; omega
  have hBl : B.length = (digs v).length := by rw [← hB, List.length_take, List.length_drop]; omega
  have hd : ∀ d ∈ A ++ (B ++ C), d < 16 := hs ▸ digs_lt
  have hCv := val_lt C fun d hd' => hd d (List.mem_append_right _ (List.mem_append_right _ hd'))
  have hBv := val_lt B fun d hd' => hd d (List.mem_append_right _ (List.mem_append_left _ hd'))
  have hn : n = (val A * 16 ^ B.length + val B) * 16 ^ C.length + val C := by
    conv => lhs; rw [← val_digs n, hs]
    rw [val_app, val_app, List.length_append, Nat.pow_add, Nat.add_mul]
    have : val A * (16 ^ B.length * 16 ^ C.length) = val A * 16 ^ B.length * 16 ^ C.length := (Nat.mul_assoc ..).symm
    omega
  have hq : n / 16 ^ e % 16 ^ (digs v).length = val B := by
    rw [← hCl, ← hBl]
    conv => lhs; rw [hn]
    rw [Nat.mul_comm _ (16 ^ C.length), Nat.mul_add_div (Nat.pow_pos (by decide)), Nat.div_eq_of_lt hCv, Nat.add_zero, Nat.mul_comm, Nat.mul_add_mod, Nat.mod_eq_of_lt hBv]
  rw [hq]
  constructor
  · intro hv
    exact val_inj B (digs v) hBl (fun d hd' => hd d (List.mem_append_right _ (List.mem_append_left _ hd'))) digs_lt (by rw [hv, val_digs])
  · intro hv; rw [hv, val_digs]
theorem num_fit {n v e : Nat} (he : e ≤ (digs n).length) (h : n / 16 ^ e % 16 ^ (digs v).length = v) : e + (digs v).length ≤ (digs n).length := by
  by_cases hv : (digs v).length = 0
  · omega
  · have h1 := (digs_le v ((digs v).length - 1)).mpr (by omega)
    have h2 : v ≤ n / 16 ^ e := by
      have := Nat.mod_le (n / 16 ^ e) (16 ^ (digs v).length)
      omega
    have h3 : 16 ^ ((digs v).length - 1) * 16 ^ e ≤ n := (Nat.le_div_iff_mul_le (Nat.pow_pos (by decide))).mp (Nat.le_trans h1 h2)
    rw [← Nat.pow_add] at h3
    have := (digs_le n _).mp h3
    omega
theorem fits_ltr : ∀ (a b : List Nat), fits (ltr a) (ltr b) = true ↔ b.take a.length = a
  | [], b => by simp [fits, ltr]
  | c :: a, [] => by simp [fits, ltr]
  | c :: a, d :: b => by
    show ((decide (65 + c = 46) || decide (65 + c = 65 + d)) && fits (ltr a) (ltr b)) = true ↔ d :: b.take a.length = c :: a
    rw [Bool.and_eq_true, fits_ltr a b, List.cons.injEq]
    have : (decide (65 + c = 46) || decide (65 + c = 65 + d)) = true ↔ d = c := by
      rw [Bool.or_eq_true, decide_eq_true_iff, decide_eq_true_iff]; omega
    rw [this]
theorem ltr_drop (l : List Nat) (k : Nat) : (ltr l).drop k = ltr (l.drop k) := by unfold ltr; rw [List.map_drop]
theorem ltr_len (l : List Nat) : (ltr l).length = l.length := List.length_map _
theorem G_marks (r : List (Option Nat)) : ∀ (b : Nat) (y : List Nat), G (List.replicate b (some 46) ++ r) y ↔ b ≤ y.length ∧ G r (y.drop b)
  | 0, y => by simp
  | b + 1, [] => by simp [List.replicate_succ, G]
  | b + 1, d :: y => by
    rw [List.replicate_succ]
    show ((46 : Nat) = 46 ∨ 46 = d) ∧ G (List.replicate b (some 46) ++ r) y ↔ _
    rw [G_marks r b y]
    simp
theorem G_stars (r : List (Option Nat)) : ∀ (a : Nat) (y : List Nat), 0 < a → (G (List.replicate a none ++ r) y ↔ ∃ k, G r (y.drop k))
  | 1, y, _ => Iff.rfl
  | a + 2, y, _ => by
    rw [List.replicate_succ]
    constructor
    · rintro ⟨k, h⟩
      obtain ⟨j, h⟩ := (G_stars r (a + 1) _ (by omega)).mp h
      exact ⟨k + j, by rw [List.drop_drop] at h; exact h⟩
    · rintro ⟨k, h⟩
      exact ⟨0, (G_stars r (a + 1) _ (by omega)).mpr ⟨k, h⟩⟩
theorem pie_tok (p : Piece) : (pieT p).map tokF = List.replicate p.1 none ++ (List.replicate p.2.1 (some 46) ++ (ltr (digs p.2.2)).map some) := by
  unfold pieT
  rw [List.map_append, List.map_append, List.map_replicate, List.map_replicate, List.append_assoc]
  congr 2
  apply List.map_congr_left
  intro c hc
  obtain ⟨d, _, rfl⟩ := List.mem_map.mp hc
  unfold tokF
  rw [if_neg (by omega), if_neg (by omega)]
/-- the places from behind at which the pattern's rest t ends -/
def Es (n : Nat) (t : List (Option Nat)) (es : List Nat) : Prop :=
  (∀ e, e ∈ es ↔ e ≤ (digs n).length ∧ G t ((ltr (digs n)).drop ((digs n).length - e))) ∧ es.Pairwise (· < ·)
theorem step_es {n : Nat} {t : List (Option Nat)} {es : List Nat} (h : Es n t es) (p : Piece) : Es n ((pieT p).map tokF ++ t) (stepE n (digs n).length es p) := by
  obtain ⟨hm, hs⟩ := h
  rw [pie_tok, List.append_assoc, List.append_assoc]
  unfold stepE
  generalize hF : ((es.filter fun e => decide (n / 16 ^ e % 16 ^ (digs p.2.2).length = p.2.2)).map fun e => e + (digs p.2.2).length + p.2.1).filter (fun e => decide (e ≤ (digs n).length)) = F
  have hFm : ∀ e', e' ∈ F ↔ e' ≤ (digs n).length ∧ G (List.replicate p.2.1 (some 46) ++ ((ltr (digs p.2.2)).map some ++ t)) ((ltr (digs n)).drop ((digs n).length - e')) := by
    intro e'
    rw [← hF, List.mem_filter, List.mem_map, decide_eq_true_iff]
    constructor
    · rintro ⟨⟨e, he, rfl⟩, hl⟩
      obtain ⟨he1, he2⟩ := List.mem_filter.mp he
      obtain ⟨h1, h2⟩ := (hm e).mp he1
      have hc := of_decide_eq_true he2
      have hf := num_fit h1 hc
      refine ⟨hl, ?_⟩
      rw [G_marks, G_app, List.length_drop, ltr_len, List.drop_drop, List.drop_drop, ltr_drop, fits_ltr, ltr_len]
      refine ⟨by omega, ?_, ?_⟩
      · rw [show (digs n).length - (e + (digs p.2.2).length + p.2.1) + p.2.1 = (digs n).length - (e + (digs p.2.2).length) by omega]
        exact (num_at hf).mp hc
      · rw [show (digs n).length - (e + (digs p.2.2).length + p.2.1) + p.2.1 + (digs p.2.2).length = (digs n).length - e by omega]
        exact h2
    · rintro ⟨hl, hg⟩
      rw [G_marks, G_app, List.length_drop, ltr_len, List.drop_drop, List.drop_drop, ltr_drop, fits_ltr, ltr_len] at hg
      obtain ⟨h1, h2, h3⟩ := hg
      have hlen : (digs p.2.2).length ≤ e' - p.2.1 := by
        have := congrArg List.length h2
        rw [List.length_take, List.length_drop] at this; omega
      refine ⟨⟨e' - p.2.1 - (digs p.2.2).length, List.mem_filter.mpr ⟨(hm _).mpr ⟨by omega, ?_⟩, decide_eq_true ?_⟩, by omega⟩, hl⟩
      · rw [show (digs n).length - (e' - p.2.1 - (digs p.2.2).length) = (digs n).length - e' + p.2.1 + (digs p.2.2).length by omega]
        exact h3
      · refine (num_at (by omega)).mpr ?_
        rw [show (digs n).length - (e' - p.2.1 - (digs p.2.2).length + (digs p.2.2).length) = (digs n).length - e' + p.2.1 by omega]
        exact h2
  have hFs : F.Pairwise (· < ·) := by
    rw [← hF]
    refine List.Pairwise.filter _ (List.pairwise_map.mpr (List.Pairwise.imp ?_ (List.Pairwise.filter _ hs)))
    intro a b hab; omega
  dsimp only
  by_cases h0 : 0 < p.1
  · rw [if_pos h0]
    have hH : ∀ e', e' ∈ headR (digs n).length F ↔ (∃ e ∈ F, e ≤ e') ∧ e' ≤ (digs n).length := by
      intro e'
      cases F with
      | nil => simp [headR]
      | cons x F =>
        show e' ∈ List.range' x ((digs n).length + 1 - x) ↔ _
        have hx := ((hFm x).mp (.head _)).1
        rw [List.mem_range'_1]
        constructor
        · rintro ⟨h1, h2⟩
          exact ⟨⟨x, .head _, h1⟩, by omega⟩
        · rintro ⟨⟨e, he, h1⟩, h2⟩
          have : x ≤ e := by
            rcases List.mem_cons.mp he with rfl | he
            · exact Nat.le_refl _
            · exact Nat.le_of_lt ((List.pairwise_cons.mp hFs).1 e he)
          omega
    refine ⟨fun e' => ?_, ?_⟩
    · rw [hH, G_stars _ _ _ h0]
      constructor
      · rintro ⟨⟨e, he, h1⟩, h2⟩
        obtain ⟨h3, h4⟩ := (hFm e).mp he
        exact ⟨h2, e' - e, by rw [List.drop_drop, show (digs n).length - e' + (e' - e) = (digs n).length - e by omega]; exact h4⟩
      · rintro ⟨h2, k, h4⟩
        rw [List.drop_drop] at h4
        refine ⟨?_, h2⟩
        by_cases hk : k ≤ e'
        · exact ⟨e' - k, (hFm _).mpr ⟨by omega, by rw [show (digs n).length - (e' - k) = (digs n).length - e' + k by omega]; exact h4⟩, by omega⟩
        · refine ⟨0, (hFm _).mpr ⟨Nat.zero_le _, ?_⟩, Nat.zero_le _⟩
          rw [List.drop_of_length_le (by rw [ltr_len]; omega)] at h4 ⊢
          exact h4
    · cases F with
      | nil => exact .nil
      | cons x F => exact List.pairwise_lt_range'
  · rw [if_neg h0]
    have : p.1 = 0 := by omega
    rw [this]
    exact ⟨hFm, hFs⟩
theorem fold_es {n : Nat} {t : List (Option Nat)} {es : List Nat} (h : Es n t es) : ∀ ps : List Piece, Es n ((patF ps).map tokF ++ t) (ps.reverse.foldl (stepE n (digs n).length) es)
  | [] => h
  | p :: ps => by
    have ih := step_es (fold_es h ps) p
    rw [List.reverse_cons, List.foldl_append]
    show Es n (((pieT p) ++ patF ps).map tokF ++ t) _
    rw [List.map_append, List.append_assoc]
    exact ih
theorem found_all (ps : List Piece) (last : Bool) (n : Nat) : (endsF ps last n).any (· == (digs n).length) = true ↔ G ((patF ps ++ List.replicate (if last then 1 else 0) 42).map tokF) (ltr (digs n)) := by
  have base : Es n ((List.replicate (if last then 1 else 0) 42).map tokF) (if last then List.range' 0 ((digs n).length + 1) else [0]) := by
    cases last with
    | true =>
      refine ⟨fun e => ?_, List.pairwise_lt_range'⟩
      show e ∈ List.range' 0 ((digs n).length + 1) ↔ e ≤ _ ∧ ∃ k, List.drop k (List.drop ((digs n).length - e) (ltr (digs n))) = []
      rw [List.mem_range'_1]
      constructor
      · rintro ⟨_, h⟩
        exact ⟨by omega, (ltr (digs n)).length, by rw [List.drop_drop, List.drop_of_length_le (by omega)]⟩
      · rintro ⟨h, _⟩; omega
    | false =>
      refine ⟨fun e => ?_, by simp⟩
      show e ∈ [0] ↔ e ≤ _ ∧ List.drop ((digs n).length - e) (ltr (digs n)) = []
      rw [List.drop_eq_nil_iff, ltr_len, List.mem_singleton]; omega
  have := (fold_es base ps).1 (digs n).length
  rw [Nat.sub_self, List.drop_zero, ← List.map_append] at this
  rw [List.any_eq_true]
  constructor
  · rintro ⟨e, he, hq⟩
    have : e = (digs n).length := by simpa using hq
    subst this
    exact (this.mp he).2
  · intro h
    exact ⟨_, this.mpr ⟨Nat.le_refl _, h⟩, by simp⟩
-- F_law
theorem lay_all : ∀ ys : List (List Nat), (∀ y ∈ ys, ∀ c ∈ y, okc c) → PyData.canLayAll0 ((ys.map S).map PyData.str) = true
  | [], _ => rfl
  | y :: r, h => by
    have h1 : PyData.strOk (S y) = true := by
      unfold PyData.strOk
      simp only [List.all_toArray, List.all_eq_true, decide_eq_true_eq]
      intro c hc
      have := h y (.head _) c hc
      unfold okc at this; omega
    simp only [List.map_cons, PyData.canLayAll0, PyData.canLay0, h1, Bool.true_and]
    exact lay_all r fun z hz => h z (.tail _ hz)
theorem depth_all : ∀ ys : List Str, PyData.depthAll (ys.map PyData.str) = 0
  | [] => rfl
  | _ :: r => by simp [PyData.depthAll, PyData.depth, depth_all r]
theorem shaped_strs {ys : List (List Nat)} (h : ∀ y ∈ ys, ∀ c ∈ y, okc c) : SeqAt.shaped (.list ((ys.map S).map PyData.str)) = true := by
  simp only [SeqAt.shaped, PyData.canLay0, PyData.depth, lay_all ys h, depth_all]; rfl
theorem same_nil (ys : List Str) : PySem.Spec.same (.list (ys.map PyData.str)) (.list (([] : List Str).map PyData.str)) = decide (ys = []) := by
  cases ys with
  | nil => rfl
  | cons y r => simp [PySem.Spec.same, PySem.Spec.sameAll]
theorem l_nes {w : World} {A : Around} {s : Shared} {a e : Addr} {vs : List Value} {ys : List (List Nat)} {k k' : Nat} {Q : Value → Shared → Prop} (hu : A.units + 64 < cLine) (ha : s.heap.get? a = some (lstO vs k)) (hn : Strs vs ys) (hok : ∀ y ∈ ys, ∀ c ∈ y, okc c) (he : s.heap.get? e = some (lstO [] k')) (h : Q (.bool (!decide (ys = []))) s) :
    wpAny (model PR w) A (compareOp .NotEq (.ref a) (.ref e)) Q NoE s :=
  ne_dataH_same (reads_newData (isl ha) (lm_carried_strs hn.are)) (reads_newData (isl he) (lm_carried_strs .nil)) (shaped_strs hok) (shaped_strs (ys := []) (fun y hy => by cases hy)) hu
    (SeqAt.noMix_of_shape (.list .str) rfl _ _ (list_map_has fun _ => rfl) (list_map_has fun _ => rfl)) (by
      rw [same_nil, show decide (ys.map S = []) = decide (ys = []) from by cases ys <;> simp]; exact h)
theorem key_law {ps : List Piece} {last : Bool} {f₀ : List Nat} {fs : List (List Nat)} (h : partsF (patF ps ++ List.replicate (if last then 1 else 0) 42) = f₀.map some ++ encR fs) (n : Nat) :
    takenF (f₀ :: fs).length (ltr (digs n)) 0 (f₀ :: fs) 0 = (endsF ps last n).any (· == (digs n).length) := by
  rw [Bool.eq_iff_iff, taken_all, found_all, ← h]
  exact parts_G _ [] _
theorem pat_ok {ps : List Piece} : ∀ c ∈ patF ps, c = 42 ∨ c = 63 ∨ (65 ≤ c ∧ c ≤ 80) := by
  intro c hc
  obtain ⟨l, hl, hc⟩ := List.mem_flatten.mp hc
  obtain ⟨p, _, rfl⟩ := List.mem_map.mp hl
  unfold pieT at hc
  rcases List.mem_append.mp hc with hc | hc
  · rcases List.mem_append.mp hc with hc | hc
    · exact .inl (List.eq_of_mem_replicate hc)
    · exact .inr (.inl (List.eq_of_mem_replicate hc))
  · obtain ⟨d, hd, rfl⟩ := List.mem_map.mp hc
    have := digs_lt d hd
    omega
/-- the state at law's body -/
theorem st_law {w : World} {s₁ : Shared} {h₁ gh : Heap} {L a : Addr} {m : Str → Option Value} {p : Program} {loose : List Str} {mean : ExcName → Option Value} {mg mb : Str → Option Value} {tk : Nat}
    (X : (KF w).In gh) (T : Top p loose mean mg mb gh) (F : Fr gh L h₁ m) (hm : m (Str.ofString "script") = some (.ref a)) (N : News gh L h₁ [(64, tabObj #[])]) :
    gh.get? L = none ∧ St w { s₁ with heap := gh } gh.get? L { heap := h₁, gens := s₁.gens, drawn := s₁.drawn, toks := tk, os := s₁.os } [(Str.ofString "script", some (.ref a)), (Str.ofString "cells", none), (Str.ofString "pieces", none), (Str.ofString "segments", none)] [(64, tabObj #[])] := by
  refine ⟨Heap.get?_none_of_le F.above, { gens := rfl, drawn := rfl, os := rfl, cx := ⟨X, T.nolimit, ⟨mg, T.g⟩, ⟨mb, T.b, T.builtins⟩⟩, kb := fun _ _ e => e, keep := F.keep, ns := ⟨m, F.ns, fun p hp v hv => ?_⟩, nl := ?_, ob := N, nd := ?_ }⟩
  · rcases List.mem_cons.mp hp with rfl | hp
    · cases hv; exact hm
    rcases List.mem_cons.mp hp with rfl | hp
    · cases hv
    rcases List.mem_cons.mp hp with rfl | hp
    · cases hv
    rcases List.mem_cons.mp hp with rfl | hp
    · cases hv
    cases hp
  · show [Str.ofString "script", Str.ofString "cells", Str.ofString "pieces", Str.ofString "segments"].Nodup; decide
  · simp
theorem in_law {w : World} {A : Around} {s₁ : Shared} {h₁ gh : Heap} {L a : Addr} {m : Str → Option Value} {p : Program} {loose : List Str} {mean : ExcName → Option Value} {mg mb : Str → Option Value} {tk : Nat} {body : List Stmt} {env : Env} {Q : Flow → Shared → Prop} {E : Value → Shared → Prop}
    (X : (KF w).In gh) (T : Top p loose mean mg mb gh) (F : Fr gh L h₁ m) (hm : m (Str.ofString "script") = some (.ref a)) (N : News gh L h₁ [(64, tabObj #[])])
    (h : gh.get? L = none → St w { s₁ with heap := gh } gh.get? L { heap := h₁, gens := s₁.gens, drawn := s₁.drawn, toks := tk, os := s₁.os } [(Str.ofString "script", some (.ref a)), (Str.ofString "cells", none), (Str.ofString "pieces", none), (Str.ofString "segments", none)] [(64, tabObj #[])] →
      wpAny (model PR w) A (execs body env) (fun f s' => f = .ret (.bool true) ∧ After { s₁ with heap := gh } s' ∧ s'.heap.get? 64 = some (tabObj #[])) NoE { heap := h₁, gens := s₁.gens, drawn := s₁.drawn, toks := tk, os := s₁.os })
    (hq : ∀ s', After { s₁ with heap := gh } s' → s'.heap.get? 64 = some (tabObj #[]) → Q (.ret (.bool true)) s') :
    wpAny (model PR w) A (execs body env) Q E { heap := h₁, gens := s₁.gens, drawn := s₁.drawn, toks := tk, os := s₁.os } := by
  obtain ⟨h1, h2⟩ := st_law (s₁ := s₁) (tk := tk) X T F hm N
  exact wpAny_mono (h h1 h2) (fun f s' ⟨e, q1, q2⟩ => by rw [e]; exact hq s' q1 q2) fun _ _ e => e.elim
theorem St.frzNew {w : World} {b : Shared} {kp : Addr → Option Obj} {L : Addr} {s s' : Shared} {l : Loc} {led : Led} (st : St w b kp L s l led) {x : Addr} {o : Obj} (hx : s.heap.get? x = none) (hx' : s'.heap.get? x = some o) : frz s' L led x = some o := by
  unfold frz
  rw [if_neg ?_]
  · exact hx'
  · rintro (q | q)
    · exact st.frL hx q
    · obtain ⟨p, hp, rfl⟩ := List.mem_map.mp q
      rw [(st.ob p hp).1] at hx; cases hx
/-- what the pattern's parts are -/
theorem parts_of {ps : List Piece} (hz : ps.length = 4) (hp : ∀ p ∈ ps, PieceOk p) (k : Nat) (hk : k ≤ 1) : ∃ (f₀ : List Nat) (fs : List (List Nat)), partsF (patF ps ++ List.replicate k 42) = f₀.map some ++ encR fs ∧ MidOk fs ∧ (∀ c ∈ patF ps ++ List.replicate k 42, c = 42 ∨ c = 63 ∨ (65 ≤ c ∧ c ≤ 80)) ∧ (patF ps ++ List.replicate k 42).length ≤ 100 ∧
    (f₀.map some ++ encR fs).length ≤ 100 ∧ (f₀ ++ restT fs).length ≤ 1000 ∧ (∀ f ∈ f₀ :: fs, ∀ c ∈ f, okc c) ∧ (f₀ :: fs).length ≤ 1000 ∧ (∀ f ∈ f₀ :: fs, f.length ≤ 1000) := by
  obtain ⟨f₀, fs, e⟩ := split_at (partsF (patF ps ++ List.replicate k 42))
  have hP : ∀ c ∈ patF ps ++ List.replicate k 42, c = 42 ∨ c = 63 ∨ (65 ≤ c ∧ c ≤ 80) := by
    intro c hc
    rcases List.mem_append.mp hc with hc | hc
    · exact pat_ok c hc
    · exact .inl (List.eq_of_mem_replicate hc)
  have hl : (patF ps ++ List.replicate k 42).length ≤ 29 := by
    have := patF_len hp
    rw [List.length_append, List.length_replicate]; omega
  have hn : NoDbl (partsF (patF ps ++ List.replicate k 42)) := parts_no _ [] fun i h => by simp at h
  have hlen := parts_len (patF ps ++ List.replicate k 42) []
  have hlen : (partsF (patF ps ++ List.replicate k 42)).length ≤ 29 := Nat.le_trans hlen (by simpa using hl)
  have hok := parts_ok (patF ps ++ List.replicate k 42) hP [] (fun c hc => by cases hc)
  have hok : ∀ c, some c ∈ partsF (patF ps ++ List.replicate k 42) → okc c := hok
  rw [e] at hn hlen hok
  obtain ⟨l1, l2, l3⟩ := len_encR (fs := fs)
  have hlen2 := hlen
  rw [List.length_append, List.length_map] at hlen2
  refine ⟨f₀, fs, e, mid_ok fs f₀ hn, hP, by omega, by omega, by rw [List.length_append]; omega, ?_, by rw [List.length_cons]; omega, ?_⟩
  · intro f hf c hc
    rcases List.mem_cons.mp hf with rfl | hf
    · exact hok c (List.mem_append_left _ (List.mem_map.mpr ⟨c, hc, rfl⟩))
    · exact hok c (List.mem_append_right _ (mem_encR hc hf))
  · intro f hf
    rcases List.mem_cons.mp hf with rfl | hf
    · omega
    · have := l2 f hf; omega
theorem ints_len {vs : List Value} {ns : List Int} (h : IntsAre vs ns) : vs.length = ns.length := by
  induction h with
  | nil => rfl
  | cons n t _ ih => simp [ih]
theorem post_law (ns : List Int) : PySem.Challenge.rw_in0212_01.row.claim.post [ofPy (PyData.list (List.map PyData.int ns))] (WData.bool true) [ofPy (PyData.list (List.map PyData.int ns))] = true := by
  show (WShape.has [] (WData.bool true) .bool && (WTm.eq .res (.lit (.bool true))).holds [] { args := [ofPy (PyData.list (List.map PyData.int ns))], res := some (WData.bool true), after := [ofPy (PyData.list (List.map PyData.int ns))] }) = true
  have h1 : WShape.has [] (WData.bool true) .bool = true := by decide +kernel
  rw [h1, Bool.true_and]
  kernel_rfl
theorem u_law (env : Env) : (callerA.deeper env).units + 64 < cLine := by show callerA.units + 3 + 64 < _; decide
theorem rm_law (env : Env) : Rm (callerA.deeper env) 5 := ⟨rfl, by show callerA.depth + 1 + 5 < _; decide, by show callerA.units + 3 + 20 * 5 + 60 < _; decide⟩
end Mine
theorem PySem.Challenge.cw_in0212_01_holds : PySem.Challenge.rw_in0212_01.Holds := by
  refine hdw ?_
  k_go0
  (rename World => w)
  (rename (hd.heap_39 _).In _ => X0)
  (rename Top _ _ _ _ _ _ => T0)
  (rename Fr _ _ _ _ => F0)
  (rename News _ _ _ _ => N0)
  (rename IntsAre _ _ => I0)
  (rename Heap.IsList _ _ _ => l0)
  (rename (_ : Shared).gens = #[] => g0)
  dsimp only at F0 ⊢
  obtain ⟨oa, hoa, hoc, na, hod⟩ := l0
  have vlen := ints_len I0
  refine in_law X0 T0 F0 rfl N0 (fun kL st => ?_) (fun s' af h64 => ?_)
  · have rm := rm_law
    repeat walk_at "S"
    refine c_cells ((rm _).less (by omega)) (St.cx' (by assumption)) ⟨oa, St.keep (by assumption) _ _ hoa, hoc, na, hod⟩ (AllInt.of I0) (by rw [vlen]; omega) fun D cvs kc s₂ af hD hDs hca hc6 => ?_
    (rename St _ _ _ _ _ _ _ => stO); have stO := stO.new af hD hDs
    repeat walk_at "S"
    obtain ⟨c₅, t₅, hc5⟩ : ∃ c₅ t₅, cvs[5]? = some (Value.int c₅ t₅) := by
      obtain ⟨c₅, t₅, e⟩ := hca 5 _ (List.getElem?_eq_getElem (by omega : 5 < cvs.length))
      exact ⟨c₅, t₅, by rw [List.getElem?_eq_getElem (by omega : 5 < cvs.length), e]⟩
    refine c_pieces ((rm _).less (by omega)) (St.cx' (by assumption)) (St.own (by assumption) .head) ⟨rfl, _, rfl⟩ hca hc6 fun D₂ items k₀ ps s₃ af hD₂ hD₂s ⟨H, hT, hH⟩ hz hp => ?_
    (rename St _ _ _ _ _ _ _ => stO)
    have n1 := stO.frzNew hD₂ hD₂s
    have hT' := hT.mono fun x o e => stO.frzNew (hH x o e).1 (hH x o e).2
    have stO := stO.go af
    obtain ⟨stF, kF, kk⟩ := stO.freeze kL
    clear stO
    generalize frz _ _ _ = kq at n1 hT' stF kF kk
    repeat walk_at "S"
    refine c_pattern ((rm _).less (by omega)) (St.cx' (by assumption)) (St.keep (by assumption) _ _ n1) (hT'.mono fun x o e => St.keep (by assumption) _ _ e) (by omega) hp fun t₁ s₄ af => ?_
    (rename St _ _ _ _ _ _ _ => stO); have stO := stO.go af
    repeat walk_at "S"
    refine l_get (x := .int c₅ t₅) (isl (St.own (by assumption) .head)) (by omega) (by omega) (by simpa using hc5) (by with_unfolding_all rfl) ?_
    repeat walk_at "S"
    refine s_mul (by assumption) (by omega) (by omega) ?_
    intro _; walk_at "I"
    have hk1 : (c₅ % 2).toNat ≤ 1 := by omega
    have hk2 : (c₅ % 2).toNat = (if decide (c₅ % 2 = 1) = true then 1 else 0) := by
      split
      · rename_i h; have := of_decide_eq_true h; omega
      · rename_i h; have : ¬ c₅ % 2 = 1 := fun e => h (decide_eq_true e); omega
    obtain ⟨f₀, fs, hparts, hm, hP, hPl, hl1, hl2, hok, hfl, hfg⟩ := parts_of hz hp _ hk1
    refine s_add (by assumption) (by rw [← List.length_append]; omega) ?_
    intro _; walk_at "I"
    repeat walk_at "S"
    refine c_translate ((rm _).less (by omega)) (St.cx' (by assumption)) hP (by omega) hparts hm (by omega) (by omega) fun t₂ s₅ af => ?_
    (rename St _ _ _ _ _ _ _ => stO); have stO := stO.go af
    repeat walk_at "S"
    refine c_read ((rm _).less (by omega)) (St.cx' (by assumption)) hok (by omega) fun D₃ gvs kg s₆ af hD₃ hD₃s hgs => ?_
    (rename St _ _ _ _ _ _ _ => stO); have stO := stO.new af hD₃ hD₃s
    repeat walk_at "S"
    refine l_nes (u_law _) (St.own (by assumption) (.tail .head)) hgs hok (St.own (by assumption) .head) ?_
    repeat walk_at "S"
    refine Br_t ?_
    repeat walk_at "S"
    rw [hk2] at hparts
    refine c_all ((rm _).less (by omega)) (St.cx' (by assumption)) (St.keep (by assumption) _ _ n1) (hT'.mono fun x o e => St.keep (by assumption) _ _ e) hz hp (St.own (by assumption) (.tail .head)) ⟨rfl, _, rfl⟩ hgs hfl hfg (St.own (by assumption) (.tail (.tail .head))) hca hc6 hc5 (fun n _ => key_law hparts n) fun s₇ af => ?_
    (rename St _ _ _ _ _ _ _ => stO); have stO := stO.go af
    repeat walk_at "S"
    exact ⟨rfl, stO.after, stO.own (.tail (.tail (.tail .head)))⟩
  · refine ⟨⟨.inl ⟨.bool true, .bool true, [], rfl, (fun _ => rfl), .bool true, post_law _, fun _ => ⟨.nil, fun a ha => by cases ha⟩⟩, af.keep, af.os, af.gens.trans g0⟩, ⟨_, h64⟩, trivial⟩
