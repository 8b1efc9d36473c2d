import PyProof.Rows.All
import Wide.All
import OpenK.AllK
import Wide.FinOn
import Lean
import PySem.Challenge.RW_ij0030_01
open PySem PySem.W PySem.Calls PyProof.Rows
set_option Elab.async false
set_option maxRecDepth 100000
set_option maxHeartbeats 8000000
set_option linter.unusedVariables false
set_option linter.unusedSimpArgs false
namespace Mine
/-! the head: what the top leaves -/
def ent (P : Params) (k : Str) (n : Nat) (v : Value) : DictEntry := { hash := PyData.keyHash P k, key := .str k n, val := v }
def esc1 (k n : Nat) : DictEntry := { hash := k, key := .int k n, val := .str ⟨#[92, k]⟩ (n + 4) }
def fnK (i : Nat) (pm : Str) (n : Nat) (cd : Addr) : Obj := match PySem.Challenge.pw_ij0030_01.main.body[i]? with
  | some (.FunctionDef name args body _ _ _ scope _ _ _) => { cls := .type "function", data := .func (fnOf name name args body scope .none .none .none (.str pm n) none (.ref cd) .none) }
  | _ => { cls := .none }
def codeK (x : Str) (n line args r k : Nat) : Obj := { cls := .type "code", data := .fields #[.str x n, .str x (n + 1), .str "/claim/cut.py" (n + 2), .int line 0, .int args 0, .int 0 0, .int 0 0, .int 3 0, .ref r, .bool true, .int 276 0, .ref (r + 1), .none, .ref (r + 2), .ref (r + 3), .ref (r + 4), .int k 0, .int line 0, .str "/claim/cut.py" (k + 1)] }
def K (P : Params) : Frag :=
  (nat_lit 3, { cls := .type "dict", data := .dict #[ent P "__name__" 165 (.str "law_ij0030_01" 569), ent P "__doc__" 166 .none, ent P "__package__" 167 .none, ent P "__loader__" 168 (.builtin "__main__.__loader__#opaque"), ent P "__spec__" 169 .none, ent P "__annotations__" 170 (.ref 6), ent P "__builtins__" 171 (.ref 4), ent P "__file__" 173 (.str "/claim/cut.py" 172), ent P "__cached__" 174 .none, ent P "_sre" 275 (.ref 12), ent P "_twin_re_1" 321 (.ref 36), ent P "translate" 330 (.ref 43), ent P "_special_chars_map" 478 (.ref 45), ent P "escape" 485 (.ref 55), ent P "_translate" 506 (.ref 62), ent P "_join_translated_parts" 519 (.ref 69), ent P "Error" 541 (.ref 79), ent P "error_reply" 557 (.ref 92), ent P "parse257" 568 (.ref 101), ent P "_law_items" 581 (.ref 108), ent P "_law_pieces" 591 (.ref 115), ent P "_law_fits" 602 (.ref 122), ent P "_law_runs" 615 (.ref 129), ent P "_law_sign" 622 (.ref 136), ent P "_law_drawn" 635 (.ref 143), ent P "_law_written" 644 (.ref 150), ent P "_law_means" 658 (.ref 157), ent P "_law_reply" 665 (.ref 164), ent P "_law_back" 674 (.ref 171), ent P "_law_right" 689 (.ref 178), ent P "law" 697 (.ref 185)] 31 }) ::
  (nat_lit 35, { cls := .type "tuple", data := .seq #[.int 14 0, .int 14 0, .int 4 0, .int 1 0, .int 1 0, .int 9 0, .int 0 0, .int 64 0, .int 0 0, .int 1342177280 0, .int 0 0, .int 0 0, .int 0 0, .int 0 0, .int 0 0, .int 17 0, .int 0 0, .int 13 0, .int 11 0, .int 9 0, .int 0 0, .int 64 0, .int 0 0, .int 1342177280 0, .int 0 0, .int 0 0, .int 0 0, .int 0 0, .int 0 0, .int 17 0, .int 1 0, .int 1 0] }) ::
  (nat_lit 36, { cls := .type "re.Pattern", data := .fields #[.str "([&~|])" 285, .int 32 320, .int 1 0, .none, .none, .ref 35, .int 0 0] }) ::
  (nat_lit 42, codeK "translate" 322 4 1 37 328) ::
  (nat_lit 43, fnK 3 "cpy313.fnmatch" 282 42) ::
  (nat_lit 45, { cls := .type "dict", data := .dict #[esc1 40 334, esc1 41 340, esc1 91 346, esc1 93 352, esc1 123 358, esc1 125 364, esc1 63 370, esc1 42 376, esc1 43 382, esc1 45 388, esc1 124 394, esc1 94 400, esc1 36 406, esc1 92 412, esc1 46 418, esc1 38 424, esc1 126 430, esc1 35 436, esc1 32 442, esc1 9 448, esc1 10 454, esc1 13 460, esc1 11 466, esc1 12 472] 24 }) ::
  (nat_lit 54, codeK "escape" 479 10 1 49 483) ::
  (nat_lit 55, fnK 6 "re" 331 54) ::
  (nat_lit 61, codeK "_translate" 488 17 3 56 504) ::
  (nat_lit 62, fnK 8 "cpy313.fnmatch" 486 61) ::
  (nat_lit 68, codeK "_join_translated_parts" 507 79 2 63 517) ::
  (nat_lit 69, fnK 9 "cpy313.fnmatch" 486 68) ::
  (nat_lit 100, codeK "parse257" 558 111 1 95 566) ::
  (nat_lit 101, fnK 13 "cpy313.ftplib" 520 100) ::
  (nat_lit 107, codeK "_law_items" 571 129 2 102 579) ::
  (nat_lit 108, fnK 15 "law_ij0030_01" 569 107) ::
  (nat_lit 114, codeK "_law_pieces" 582 151 1 109 589) ::
  (nat_lit 115, fnK 16 "law_ij0030_01" 569 114) ::
  (nat_lit 121, codeK "_law_fits" 592 168 3 116 600) ::
  (nat_lit 122, fnK 17 "law_ij0030_01" 569 121) ::
  (nat_lit 128, codeK "_law_runs" 603 176 2 123 613) ::
  (nat_lit 129, fnK 18 "law_ij0030_01" 569 128) ::
  (nat_lit 135, codeK "_law_sign" 616 197 1 130 620) ::
  (nat_lit 136, fnK 19 "law_ij0030_01" 569 135) ::
  (nat_lit 142, codeK "_law_drawn" 623 202 1 137 633) ::
  (nat_lit 143, fnK 20 "law_ij0030_01" 569 142) ::
  (nat_lit 149, codeK "_law_written" 636 213 1 144 642) ::
  (nat_lit 150, fnK 21 "law_ij0030_01" 569 149) ::
  (nat_lit 156, codeK "_law_means" 645 225 2 151 656) ::
  (nat_lit 157, fnK 22 "law_ij0030_01" 569 156) ::
  (nat_lit 163, codeK "_law_reply" 659 240 1 158 663) ::
  (nat_lit 164, fnK 23 "law_ij0030_01" 569 163) ::
  (nat_lit 170, codeK "_law_back" 666 242 1 165 672) ::
  (nat_lit 171, fnK 24 "law_ij0030_01" 569 170) ::
  (nat_lit 177, codeK "_law_right" 675 248 1 172 687) ::
  (nat_lit 178, fnK 25 "law_ij0030_01" 569 177) ::
  (nat_lit 184, codeK "law" 690 257 1 179 695) ::
  (nat_lit 185, fnK 26 "law_ij0030_01" 569 184) ::
  []
def Kat : List Addr := [3, 35, 36, 42, 43, 45, 54, 55, 61, 62, 68, 69, 100, 101, 107, 108, 114, 115, 121, 122, 128, 129, 135, 136, 142, 143, 149, 150, 156, 157, 163, 164, 170, 171, 177, 178, 184, 185]
def Vw : Program := view PySem.Challenge.pw_ij0030_01 [0, 26]
def LOOSE : List Str := ["_twin_re_1", "translate", "_special_chars_map", "escape", "_translate", "_join_translated_parts", "Error", "error_reply", "parse257", "_law_items", "_law_pieces", "_law_fits", "_law_runs", "_law_sign", "_law_drawn", "_law_written", "_law_means", "_law_reply", "_law_back", "_law_right"]
abbrev rr := PySem.Challenge.rw_ij0030_01.row
theorem hK : ∀ P, Kat = (K P).map (·.1) := fun P => by kernel_rfl
noncomputable abbrev HK : Hook := kmHook K Kat hK [57]
abbrev Xt0 (s : Shared) : Bool := xlAt Vw [] s && recOk (RowW.records rr.toRowW) s
theorem tRun : @topRun = @PySem.W.Fast.tw14082659384304107361 := PySem.W.Fast.te14082659384304107361
theorem tTab : treeTable = PySem.W.Fast.tw14364793385576792824 := PySem.W.Fast.te14364793385576792824
theorem tSeen : @openSeen = @PySem.W.Fast.tw4187177175401517315 := PySem.W.Fast.te4187177175401517315
theorem tEnds : @importEnds = @PySem.W.Fast.tw10274390034422433532 := PySem.W.Fast.te10274390034422433532
theorem tStart : start = PySem.W.Fast.tw1435165496053646825 := PySem.W.Fast.te1435165496053646825
abbrev pp : Program := PySem.Challenge.pw_ij0030_01
noncomputable def openBy (ie : (String → Option Builtin) → Program → World → Nat → Shared → Thread → Option Shared) (st : Program → Shared × Thread) (tb : String → Option Builtin) (w : World) (N : Nat) : Option Shared :=
  (ie tb (opening pp) w N (st (opening pp)).1 (st (opening pp)).2).bind (fenceModules? pp)
noncomputable def topBy (tr : (String → Option Builtin) → Program → World → Nat → Option Value → Nat → Shared → Thread → Option Shared) (tb : String → Option Builtin) (w : World) (N : Nat) (s₀ : Shared) : Option Shared :=
  match s₀.heap.isNs mainGlobals && s₀.gens.size == 0 with
  | true => (tr tb pp w s₀.heap.objs.size (s₀.heap.nsMap mainGlobals "__annotations__") N s₀ (topStub pp)).bind fun s₁ => match staticsOk (importedModules pp.main.body) s₀.heap s₁.heap && namesBound pp s₁.heap && gensDone s₁ && laidKept s₀.heap s₁.heap with
      | true => some s₁
      | false => none
  | false => none
noncomputable abbrev opQ (w : World) : Option Shared := openBy @PySem.W.Fast.tw10274390034422433532 PySem.W.Fast.tw1435165496053646825 PySem.W.Fast.tw14364793385576792824 w 4820
noncomputable abbrev topQ (w : World) (s₀ : Shared) : Option Shared := topBy @PySem.W.Fast.tw14082659384304107361 PySem.W.Fast.tw14364793385576792824 w 4820 s₀
noncomputable abbrev lkQ (s : Shared) := (PySem.W.Fast.tw4187177175401517315 Vw LOOSE (importedModules pp.main.body) Xt0 true s, Hook.obs HK s)
noncomputable abbrev w2 (w : World) (x y : Bool) : World := (w.withFollow "comprehension-iter-twice" x).withFollow "special-get-raises" y
theorem arm00 : ∀ w : World, ((opQ w).bind (topQ (w2 w false false))).map lkQ = some (openGood Vw LOOSE, Hook.val HK w) := fun w => by kernel_rfl
theorem arm01 : ∀ w : World, ((opQ w).bind (topQ (w2 w false true))).map lkQ = some (openGood Vw LOOSE, Hook.val HK w) := fun w => by kernel_rfl
theorem arm10 : ∀ w : World, ((opQ w).bind (topQ (w2 w true false))).map lkQ = some (openGood Vw LOOSE, Hook.val HK w) := fun w => by kernel_rfl
theorem arm11 : ∀ w : World, ((opQ w).bind (topQ (w2 w true true))).map lkQ = some (openGood Vw LOOSE, Hook.val HK w) := fun w => by kernel_rfl
theorem op_eq (w : World) : openBy @importEnds start treeTable w 4820 = opQ w := by rw [tEnds, tTab, tStart]
theorem top_eq (w : World) (s : Shared) : topBy @topRun treeTable w 4820 s = topQ w s := by rw [tRun, tTab]
theorem lk_eq (s : Shared) : (openSeen Vw LOOSE (importedModules pp.main.body) Xt0 true s, Hook.obs HK s) = lkQ s := by rw [tSeen]
theorem w2_self (w : World) : w2 w (w.params.followText "comprehension-iter-twice") (w.params.followText "special-get-raises") = w := by
  unfold w2; rw [World.withFollow_self, World.withFollow_self]
theorem left : LeftO pp Vw LOOSE Xt0 (Hook.obs HK) (Hook.val HK) 4820 := fun w => by
  have a : ∀ x y : Bool, ((opQ w).bind (topQ (w2 w x y))).map lkQ = some (openGood Vw LOOSE, Hook.val HK w) := by
    intro x y
    cases x <;> cases y
    · exact arm00 w
    · exact arm01 w
    · exact arm10 w
    · exact arm11 w
  have z := a (w.params.followText "comprehension-iter-twice") (w.params.followText "special-get-raises")
  rw [w2_self] at z
  have e : openEnds treeTable pp w 4820 = (opQ w).bind (topQ w) := by
    rw [← op_eq, ← funext (top_eq w)]; rfl
  rw [e, show (fun s => (openSeen Vw LOOSE (importedModules pp.main.body) Xt0 true s, Hook.obs HK s)) = lkQ from funext lk_eq]
  exact z
theorem ws : OpenLaw.wellSaid PySem.Challenge.rw_ij0030_01 = true := by
  unfold OpenLaw.wellSaid
  repeat' with_reducible refine look_both ?_ ?_
  all_goals (try unfold OpenRow.wellSaid)
  all_goals (try unfold OpenRow.partSaid)
  all_goals (repeat' with_reducible refine look_both ?_ ?_)
  all_goals (try unfold OpenScript.wellSaid)
  all_goals (try unfold looksOpen)
  all_goals (repeat' with_reducible refine look_both ?_ ?_)
  all_goals decide +kernel

noncomputable abbrev KF (w : World) : Frag := K w.params

/-- what the module's own objects are, in a heap -/
structure Gd (w : World) (mg mb : Str → Option Value) (G : Heap) : Prop where
  X : (KF w).In G
  g : G.Ns mainGlobals mg
  b : G.Ns builtinsNs mb
  nolimit : G.NoLimit
  builtins : ∀ x : Str, x ≠ "__name__" → mb x = bootBuiltins x
  bmain : ∃ bm ob, mg "__builtins__" = some (.ref bm) ∧ bm ≠ builtinsNs ∧ G.get? bm = some ob ∧ ob.cls = .type "module" ∧ ob.dict = some builtinsNs ∧ ob.data = .plain
theorem Gd.keeps {w : World} {mg mb : Str → Option Value} {G G' : Heap} (D : Gd w mg mb G) (hk : G.StaysIn G') : Gd w mg mb G' :=
  ⟨D.X.keeps hk, D.g.keeps hk, D.b.keeps hk, D.nolimit.keeps hk, D.builtins, let ⟨bm, ob, h1, h2, h3, r⟩ := D.bmain; ⟨bm, ob, h1, h2, hk _ _ h3, r⟩⟩

/-- the room around a call -/
structure Ok (A : Around) (d u : Nat) : Prop where
  hd : A.handled = none
  dep : A.depth + d < recursionLimit
  un : A.units + u < cLine
theorem Ok.deeper {A : Around} {d u : Nat} {env : Env} (O : Ok A (d+1) (u+3)) : Ok (A.deeper env) d u := by
  refine ⟨O.hd, ?_, ?_⟩
  · have := O.dep; simp only [Around.deeper]; omega
  · have := O.un; simp only [Around.deeper]; omega
theorem Ok.le {A : Around} {d u d' u' : Nat} (O : Ok A d u) (hd : d' ≤ d := by decide) (hu : u' ≤ u := by decide) : Ok A d' u' :=
  ⟨O.hd, Nat.lt_of_le_of_lt (Nat.add_le_add_left hd _) O.dep, Nat.lt_of_le_of_lt (Nat.add_le_add_left hu _) O.un⟩

/-- the frame's ledger -/
structure Led (B : Heap) (L : Addr) (m : Str → Option Value) (h : Heap) (news : List (Addr × Obj)) : Prop where
  ns : h.Ns L m
  keep : B.StaysIn h
  noL : B.get? L = none
  nw : ∀ p ∈ news, h.get? p.1 = some p.2 ∧ B.get? p.1 = none ∧ p.1 ≠ L
  ord : (news.map (·.1)).Pairwise (· ≠ ·)

section
variable {B : Heap} {L : Addr} {m : Str → Option Value} {h : Heap} {news : List (Addr × Obj)}
theorem Led.start (ns : h.Ns L m) (keep : B.StaysIn h) (noL : B.get? L = none) : Led B L m h [] :=
  ⟨ns, keep, noL, fun _ q => (nomatch q), List.Pairwise.nil⟩
theorem Led.at (V : Led B L m h news) (i : Nat) {a : Addr} {o : Obj} (hi : news[i]? = some (a, o)) : h.get? a = some o := (V.nw _ (List.mem_of_getElem? hi)).1
/-- the heap grows, or the frame's own names turn -/
theorem Led.to {h' : Heap} {m' : Str → Option Value} (V : Led B L m h news) (ns : h'.Ns L m') (k : ∀ b o, b ≠ L → h.get? b = some o → h'.get? b = some o) : Led B L m' h' news :=
  ⟨ns, fun b o e => k b o (fun q => by rw [q, V.noL] at e; cases e) (V.keep b o e), V.noL, fun p hp => ⟨k _ _ (V.nw p hp).2.2 (V.nw p hp).1, (V.nw p hp).2⟩, V.ord⟩
theorem Led.set {h' : Heap} {m' : Str → Option Value} (V : Led B L m h news) (ns : h'.Ns L m') (hs : Heap.SameBut L h h') : Led B L m' h' news :=
  V.to ns fun b o hb e => (hs.2 b hb).trans e
theorem Led.grow {h' : Heap} (V : Led B L m h news) (k : h.StaysIn h') : Led B L m h' news := V.to (V.ns.keeps k) fun b o _ e => k b o e
theorem stays_push (h : Heap) (o : Obj) : h.StaysIn (h.push o) := fun _ _ e => Heap.get?_push_of_some _ e
theorem Led.pushKeep (V : Led B L m h news) (o : Obj) : Led B L m (h.push o) news := V.grow (stays_push h o)
theorem Led.push (V : Led B L m h news) (o : Obj) (hf : o.isFreed = false) : Led B L m (h.push o) ((h.objs.size, o) :: news) := by
  have W := V.pushKeep o
  have fresh : ∀ b ob, h.get? b = some ob → h.objs.size ≠ b := fun b ob e q => by subst q; exact absurd (Heap.lt_size e) (Nat.lt_irrefl _)
  refine ⟨W.ns, W.keep, W.noL, fun p hp => ?_, ?_⟩
  · rcases List.mem_cons.mp hp with rfl | hp
    · refine ⟨Heap.get?_push_size _ hf, ?_, ?_⟩
      · cases q : B.get? h.objs.size with
        | none => rfl
        | some o' => exact absurd rfl (fresh _ _ (V.keep _ _ q))
      · obtain ⟨oL, _, _, hL, _⟩ := V.ns
        exact fresh _ _ hL
    · exact W.nw p hp
  · refine List.Pairwise.cons (fun b hb => ?_) V.ord
    obtain ⟨⟨b', ob⟩, hp, rfl⟩ := List.mem_map.mp hb
    exact fresh _ _ (V.nw _ hp).1
theorem Led.sub {news' : List (Addr × Obj)} (V : Led B L m h news) (s : List.Sublist news' news) : Led B L m h news' :=
  ⟨V.ns, V.keep, V.noL, fun p hp => V.nw p (s.subset hp), List.Pairwise.sublist (s.map _) V.ord⟩
theorem Led.kept : KeptH (fun h => Led B L m h news) := fun _ ob V => V.pushKeep ob
theorem set_split {i : Nat} {a : Addr} {o o' : Obj} (hi : news[i]? = some (a, o)) : news = news.take i ++ (a, o) :: news.drop (i + 1) ∧ news.set i (a, o') = news.take i ++ (a, o') :: news.drop (i + 1) := by
  obtain ⟨hl, he⟩ := List.getElem?_eq_some_iff.mp hi
  refine ⟨?_, List.set_eq_take_append_cons_drop.trans (if_pos hl)⟩
  rw [← he, ← List.drop_eq_getElem_cons hl, List.take_append_drop]
/-- an entry of the ledger is changed -/
theorem Led.upd {h' : Heap} (V : Led B L m h news) (i : Nat) {a : Addr} {o o' : Obj} (hi : news[i]? = some (a, o)) (hs : ∀ b ob, b ≠ a → h.get? b = some ob → h'.get? b = some ob) (hg : h'.get? a = some o') :
    Led B L m h' (news.set i (a, o')) := by
  have z := V.nw _ (List.mem_of_getElem? hi)
  obtain ⟨sp, e⟩ := set_split (o' := o') hi
  have ord' := V.ord
  rw [sp, List.map_append, List.map_cons] at ord'
  have p1 : ∀ p ∈ news.take i, p.1 ≠ a := fun p hp => (List.pairwise_append.mp ord').2.2 p.1 (List.mem_map_of_mem hp) a (.head _)
  have p2 : ∀ p ∈ news.drop (i + 1), p.1 ≠ a := fun p hp => ((List.pairwise_cons.mp (List.pairwise_append.mp ord').2.1).1 p.1 (List.mem_map_of_mem hp)).symm
  refine ⟨V.ns.at' fun o e => hs _ o z.2.2.symm e, fun b ob eb => hs b ob (fun q => by subst q; rw [z.2.1] at eb; cases eb) (V.keep b ob eb), V.noL, fun p hp => ?_, ?_⟩
  · rw [e] at hp
    rcases List.mem_append.mp hp with hp | hp
    · have y := V.nw p (by rw [sp]; exact List.mem_append.mpr (.inl hp))
      exact ⟨hs _ _ (p1 p hp) y.1, y.2⟩
    · rcases List.mem_cons.mp hp with rfl | hp
      · exact ⟨hg, z.2⟩
      · have y := V.nw p (by rw [sp]; exact List.mem_append.mpr (.inr (.tail _ hp)))
        exact ⟨hs _ _ (p2 p hp) y.1, y.2⟩
  · rw [e, List.map_append, List.map_cons]; exact ord'
/-- all that is not the frame's own and not of the ledger becomes the base -/
noncomputable def maskOf (h : Heap) (L : Addr) (news : List (Addr × Obj)) : Heap := hideAll h (L :: news.map (·.1))
theorem Led.mask (V : Led B L m h news) : Led (maskOf h L news) L m h news :=
  ⟨V.ns, fun _ _ e => of_hideAll _ e, hideAll_none _ (.head _), fun p hp => ⟨(V.nw p hp).1, hideAll_none _ (.tail _ (List.mem_map_of_mem hp)), (V.nw p hp).2.2⟩, V.ord⟩
theorem Led.base (V : Led B L m h news) : B.StaysIn (maskOf h L news) := fun b o e => hideAll_get _ (V.keep b o e) fun q => by
  rcases List.mem_cons.mp q with rfl | q
  · rw [V.noL] at e; cases e
  · obtain ⟨p, hp, rfl⟩ := List.mem_map.mp q
    rw [(V.nw p hp).2.1] at e; cases e
/-- what an elder heap held and the frame does not hold as its own is of the new base -/
theorem Led.based {h' : Heap} (V : Led B L m h news) (k : ∀ b o, h'.get? b = some o → h.get? b = some o) (hL : h'.get? L = none) (hn : ∀ p ∈ news, h'.get? p.1 = none) : h'.StaysIn (maskOf h L news) := fun b o e => hideAll_get _ (k b o e) fun q => by
  rcases List.mem_cons.mp q with rfl | q
  · rw [hL] at e; cases e
  · obtain ⟨p, hp, rfl⟩ := List.mem_map.mp q
    rw [hn p hp] at e; cases e
end

section
variable {prog : Program} {w : World} {mg mb : Str → Option Value} {A : Around} {E : Value → Shared → Prop}

def NoE : Value → Shared → Prop := fun _ _ => False

def RetP (Q : Value → Shared → Prop) : Flow → Shared → Prop := fun fl s' => Q (match fl with | .ret v => v | _ => .none) s'
theorem z_retp {Q : Value → Shared → Prop} {v : Value} {s : Shared} (x : Q v s) : RetP Q (.ret v) s := x
theorem z_retn {Q : Value → Shared → Prop} {s : Shared} (x : Q .none s) : RetP Q .next s := x
/-- entering a def of the module -/
theorem enter {h : Heap} {g : Array GenState} {dr : Drawn} {t : Nat} {os : OsState} {d u : Nat} {Q : Value → Shared → Prop} {name qual : Str} {params : Arguments} {body : List Stmt} {scope : Scope} {dV kV doc pm cdv ct oc : Value} {an od : Option Addr} {osl : Array (Option Value)} {f : Addr} {args : List Value} (binds : List (Str × Value))
    (O : Ok A (d+1) (u+3)) (D : Gd w mg mb h)
    (ho : (KF w).lookup f = some ⟨oc, od, .func (fnOf name qual params body scope dV kV doc pm an cdv ct), osl⟩) (hcd : codeIn (KF w) cdv qual = true)
    (hbind : bindArgs (fnOf name qual params body scope dV kV doc pm an cdv ct) ⟨args, []⟩ = pure binds) (hloc : (binds.all fun x => decide (scope.names.lookup x.1 = some .local)) = true)
    (hco : scope.isCoroutine = false) (hgen : scope.isGenerator = false) (hk : scope.kind = .function)
    (hcell : (scope.names.all fun x => x.2 != .cell) = true)
    (x : ∀ L h₁ tk A', Led h L (fun y => binds.reverse.lookup y) h₁ [] → Ok A' d u →
      wpAny (model prog w) A' (execs body (envOf qual scope L f cdv))
        (RetP Q) NoE ⟨h₁, g, dr, tk, os⟩) :
    wpAny (model prog w) A (call (.ref f) args) Q E ⟨h, g, dr, t, os⟩ := by
  refine wpAny_call ?_
  refine codeAny_call_def (fd := fnOf name qual params body scope dV kV doc pm an cdv ct) (body := body) (binds := binds) (O.le (d' := 0) (Nat.zero_le _) (Nat.le_refl _)).dep (D.X _ _ ho) rfl D.nolimit (codeRec_of D.X hcd) rfl (.of_eq hbind) ?_ (locs hloc) ?_ hco hgen hk
  · intro x hx e
    have := List.all_eq_true.mp hcell x hx
    rw [e] at this
    cases this
  · intro h₀ hns hkeep
    refine wpAny_mono (x _ h₀ _ _ (Led.start hns hkeep ?_) O.deeper) (fun _ _ x => x) (fun _ _ x => x.elim)
    show h.get? h.objs.size = none
    cases q : h.get? h.objs.size with
    | none => rfl
    | some o => exact absurd (Heap.lt_size q) (Nat.lt_irrefl _)

variable {h : Heap} {g : Array GenState} {d : Drawn} {t : Nat} {os : OsState}
variable {B : Heap} {L a : Addr} {m : Str → Option Value} {cn : Str} {cs : Scope} {ccd : Value} {news : List (Addr × Obj)}

def up (m : Str → Option Value) (x : Str) (v : Value) : Str → Option Value := fun z => if z = x then some v else m z
/-! statements -/
def PostS (M : Model) (A : Around) (E : Value → Shared → Prop) (rest : List Stmt) (env : Env) (Q : Flow → Shared → Prop) : Flow → Shared → Prop :=
  fun f s' => match f with | .next => wpAny M A (execs rest env) Q E s' | f => Q f s'
section
variable {M : Model} {env : Env} {s : Shared} {rest : List Stmt} {Q : Flow → Shared → Prop}
theorem z_cons {st : Stmt} (x : wpAny M A (exec st env) (PostS M A E rest env Q) E s) : wpAny M A (execs (st :: rest) env) Q E s := wpAny_execs_cons x
theorem z_nil (x : Q .next s) : wpAny M A (execs [] env) Q E s := wpAny_execs_nil x
theorem z_next (x : wpAny M A (execs rest env) Q E s) : PostS M A E rest env Q .next s := x
theorem z_pret {v : Value} (x : Q (.ret v) s) : PostS M A E rest env Q (.ret v) s := x
theorem z_pbrk (x : Q .brk s) : PostS M A E rest env Q .brk s := x
theorem z_ite {c : Bool} {P P' : Prop} (x : c = true → P) (y : c = false → P') : if c = true then P else P' := by
  cases c
  · exact y rfl
  · exact x rfl
theorem z_iteT {c : Bool} {P P' : Prop} (hc : c = true) (x : P) : if c = true then P else P' := by rw [if_pos hc]; exact x
theorem z_iteF {c : Bool} {P P' : Prop} (hc : c = false) (x : P') : if c = true then P else P' := by rw [if_neg (by rw [hc]; exact Bool.false_ne_true)]; exact x
theorem z_itet {P P' : Prop} (x : P) : if true = true then P else P' := x
theorem z_itnt {P P' : Prop} (x : P) : if (!false) = true then P else P' := x
theorem z_itnf {P P' : Prop} (x : P') : if (!true) = true then P else P' := x
theorem z_itef {P P' : Prop} (x : P') : if false = true then P else P' := x
end

/-! atoms -/
section
variable {env : Env} {Q : Value → Shared → Prop} {k : Nat} {pos : Pos}
theorem z_int {i : Int} (x : Q (.int i t) ⟨h, g, d, t.succ, os⟩) : wpAny (model prog w) A (eval (.Constant (.int i) k pos) env) Q E ⟨h, g, d, t, os⟩ := wpAny_Constant_int x
theorem z_str {y : Str} (x : Q (.str y t) ⟨h, g, d, t.succ, os⟩) : wpAny (model prog w) A (eval (.Constant (.str y) k pos) env) Q E ⟨h, g, d, t, os⟩ := Calls.Constant_str x
theorem z_none (x : Q .none ⟨h, g, d, t, os⟩) : wpAny (model prog w) A (eval (.Constant .none k pos) env) Q E ⟨h, g, d, t, os⟩ := wpAny_Constant_none x
theorem z_bool {b : Bool} (x : Q (.bool b) ⟨h, g, d, t, os⟩) : wpAny (model prog w) A (eval (.Constant (.bool b) k pos) env) Q E ⟨h, g, d, t, os⟩ := wpAny_Constant_bool x
end

section
variable {Q : Value → Shared → Prop} {x : Str} {pos : Pos} {v : Value}
theorem z_ld (V : Led B L m h news) (hv : m x = some v) (y : Q v ⟨h, g, d, t, os⟩)
    (hk : cs.kind = .function := by rfl) (hl : (envOf cn cs L a ccd).kindOf x = some .local := by rfl) (hd : (x == ("__debug__" : Str)) = false := by decide) :
    wpAny (model prog w) A (eval (.Name x pos) (envOf cn cs L a ccd)) Q E ⟨h, g, d, t, os⟩ := wpAny_Name (wpAny_loadName_local hk hl V.ns hv y) hd
theorem z_ldn (V : Led B L m h news) (hv : m x = some v) (y : Q v ⟨h, g, d, t, os⟩)
    (hk : cs.kind = .function := by rfl) (hl : (envOf cn cs L a ccd).kindOf x = some .local := by rfl) :
    wpAny (model prog w) A (loadName (envOf cn cs L a ccd) x) Q E ⟨h, g, d, t, os⟩ := wpAny_loadName_local hk hl V.ns hv y
theorem z_st {Q : Unit → Shared → Prop} (V : Led B L m h news) (y : ∀ h' t', Led B L (up m x v) h' news → Q () ⟨h', g, d, t', os⟩)
    (hk : cs.kind = .function := by rfl) (hl : (envOf cn cs L a ccd).kindOf x = some .local := by rfl) :
    wpAny (model prog w) A (storeName (envOf cn cs L a ccd) x v) Q E ⟨h, g, d, t, os⟩ :=
  wpAny_storeName_local hl V.ns (fun h' hn hs => y h' _ (V.set hn hs))
    (by show (cs.kind == .class || (cs.kind == .module && L != mainGlobals)) = false; rw [hk]; rfl)
theorem z_glob (V : Led B L m h news) (D : Gd w mg mb B) (e : nsIn (KF w) mainGlobals x = some (some v)) (y : Q v ⟨h, g, d, t, os⟩)
    (hk : cs.kind = .function := by rfl) (hx : (envOf cn cs L a ccd).kindOf x = some .globalImplicit := by rfl) (hd : (x == ("__debug__" : Str)) = false := by decide) :
    wpAny (model prog w) A (eval (.Name x pos) (envOf cn cs L a ccd)) Q E ⟨h, g, d, t, os⟩ :=
  Calls.Name_function_global hk hx (Calls.loadGlobal_global (env := envOf cn cs L a ccd) (D.g.keeps V.keep) (mg_of D.X D.g e) y) hd
theorem z_builtin (V : Led B L m h news) (D : Gd w mg mb B) (e : nsIn (KF w) mainGlobals x = some none) (hv : bootBuiltins x = some v) (hn : x ≠ "__name__") (y : Q v ⟨h, g, d, t, os⟩)
    (hk : cs.kind = .function := by rfl) (hx : (envOf cn cs L a ccd).kindOf x = some .globalImplicit := by rfl) (hd : (x == ("__debug__" : Str)) = false := by decide) :
    wpAny (model prog w) A (eval (.Name x pos) (envOf cn cs L a ccd)) Q E ⟨h, g, d, t, os⟩ :=
  Calls.Name_function_global hk hx (Calls.loadGlobal_builtin (env := envOf cn cs L a ccd) (D.g.keeps V.keep) (mg_none_of D.X D.g e) (D.b.keeps V.keep) ((D.builtins x hn).trans hv) y) hd
end

/-! ints -/
section
variable {Q : Value → Shared → Prop} {i j : Int} {ti tj : Tok}
theorem z_mod (hj : j ≠ 0) (x : Q (.int (i.fmod j) t) ⟨h, g, d, t.succ, os⟩) : wpAny (model prog w) A (binaryOp .Mod (.int i ti) (.int j tj)) Q E ⟨h, g, d, t, os⟩ := mod_int hj x
theorem z_add (x : Q (.int (i + j) t) ⟨h, g, d, t.succ, os⟩) : wpAny (model prog w) A (binaryOp .Add (.int i ti) (.int j tj)) Q E ⟨h, g, d, t, os⟩ := wpAny_add_int x
theorem z_iadd (x : Q (.int (i + j) t) ⟨h, g, d, t.succ, os⟩) : wpAny (model prog w) A (inplaceOp .Add (.int i ti) (.int j tj)) Q E ⟨h, g, d, t, os⟩ := iadd_int x
theorem z_div (hj : j ≠ 0) (hs : j.natAbs < 1073741824) (x : Q (.int (i.fdiv j) t) ⟨h, g, d, t.succ, os⟩) : wpAny (model prog w) A (binaryOp .FloorDiv (.int i ti) (.int j tj)) Q E ⟨h, g, d, t, os⟩ :=
  floordiv_int hj x (.inl (PyProof.noPylong_small hs))
end

/-! texts -/
section
variable {Q : Value → Shared → Prop} {i : Int} {x y : Str} {ti tx ty : Tok} {value slice : Expr}
theorem z_item (h1 : 0 ≤ i) (h2 : i < x.length) (hn : x.length ≤ 16777216) (z : Q (.str (Txt.item x i) t) ⟨h, g, d, t.succ, os⟩)
    (hs : subscripted slice false (.str x tx) (.int i ti) = operate [.str x tx, .int i ti] (getItem (.str x tx) (.int i ti)))
    (ht : ∀ r, letTemporaryGo value (.str x tx) r = pure ()) :
    wpAny (model prog w) A (subscriptTail value slice (.str x tx) (.int i ti)) Q E ⟨h, g, d, t, os⟩ :=
  item_str (fitsSsize_of (N := 9223372036854775808) (by omega) (by omega) (Int.le_refl _)) (by omega) (by omega) (fun _ => z) hs ht
theorem z_chr (h1 : 0 ≤ i) (h2 : i ≤ 1114111) (z : Q (.str ⟨#[i.toNat]⟩ t) ⟨h, g, d, t.succ, os⟩) : wpAny (model prog w) A (call (.builtin "chr") [.int i ti]) Q E ⟨h, g, d, t, os⟩ := by
  refine P.chr_of_int ?_ z
  rw [decide_eq_false (by omega), decide_eq_false (by omega)]; rfl
end
end
theorem g43 (w : World) : nsIn (KF w) mainGlobals "translate" = some (some (.ref 43)) := rfl
theorem g45 (w : World) : nsIn (KF w) mainGlobals "_special_chars_map" = some (some (.ref 45)) := rfl
theorem g55 (w : World) : nsIn (KF w) mainGlobals "escape" = some (some (.ref 55)) := rfl
theorem g62 (w : World) : nsIn (KF w) mainGlobals "_translate" = some (some (.ref 62)) := rfl
theorem g69 (w : World) : nsIn (KF w) mainGlobals "_join_translated_parts" = some (some (.ref 69)) := rfl
theorem g101 (w : World) : nsIn (KF w) mainGlobals "parse257" = some (some (.ref 101)) := rfl
theorem g108 (w : World) : nsIn (KF w) mainGlobals "_law_items" = some (some (.ref 108)) := rfl
theorem g115 (w : World) : nsIn (KF w) mainGlobals "_law_pieces" = some (some (.ref 115)) := rfl
theorem g122 (w : World) : nsIn (KF w) mainGlobals "_law_fits" = some (some (.ref 122)) := rfl
theorem g129 (w : World) : nsIn (KF w) mainGlobals "_law_runs" = some (some (.ref 129)) := rfl
theorem g136 (w : World) : nsIn (KF w) mainGlobals "_law_sign" = some (some (.ref 136)) := rfl
theorem g143 (w : World) : nsIn (KF w) mainGlobals "_law_drawn" = some (some (.ref 143)) := rfl
theorem g150 (w : World) : nsIn (KF w) mainGlobals "_law_written" = some (some (.ref 150)) := rfl
theorem g157 (w : World) : nsIn (KF w) mainGlobals "_law_means" = some (some (.ref 157)) := rfl
theorem g164 (w : World) : nsIn (KF w) mainGlobals "_law_reply" = some (some (.ref 164)) := rfl
theorem g171 (w : World) : nsIn (KF w) mainGlobals "_law_back" = some (some (.ref 171)) := rfl
theorem g178 (w : World) : nsIn (KF w) mainGlobals "_law_right" = some (some (.ref 178)) := rfl
theorem g36 (w : World) : nsIn (KF w) mainGlobals "_twin_re_1" = some (some (.ref 36)) := rfl
abbrev lst (vs : List Value) (n : Nat) : Obj := { cls := .type "list", data := .seq vs.toArray n }
abbrev tup (vs : List Value) : Obj := { cls := .type "tuple", data := .seq vs.toArray }
abbrev liO (l : Addr) (i : Nat) : Obj := { cls := .type "list_iterator", data := .fields #[.ref l, .int i 0] }
theorem isList_of {h : Heap} {l : Addr} {vs : List Value} {n : Nat} (e : h.get? l = some (lst vs n)) : h.IsList l vs.toArray := ⟨_, e, rfl, n, rfl⟩
theorem isTup_of {h : Heap} {l : Addr} {vs : List Value} (e : h.get? l = some (tup vs)) : IsTup h l vs.toArray := ⟨_, e, rfl, 0, rfl⟩
section
variable {prog : Program} {w : World} {mg mb : Str → Option Value} {A : Around} {E : Value → Shared → Prop}
variable {h : Heap} {g : Array GenState} {d : Drawn} {t : Nat} {os : OsState}
variable {B : Heap} {L a : Addr} {m : Str → Option Value} {cn : Str} {cs : Scope} {ccd : Value} {news : List (Addr × Obj)}

section
variable {Q : Value → Shared → Prop} {vs : List Value} {l : Addr} {n : Nat} {k : Int} {u : Tok} {x : Value} {value slice : Expr}
theorem z_newList (V : Led B L m h news) (hz : vs.length ≤ 16777216) (z : ∀ a h', Led B L m h' ((a, lst vs 0) :: news) → Q (.ref a) ⟨h', g, d, t, os⟩) : wpAny (model prog w) A (newList vs) Q E ⟨h, g, d, t, os⟩ :=
  wpAny_newObj_type (z _ _ (V.push _ rfl)) (by show vs.toArray.size ≤ sizeLine; rw [List.size_toArray]; exact hz)
theorem z_newTuple (V : Led B L m h news) (hz : vs.length ≤ 16777216) (z : ∀ a h', Led B L m h' ((a, tup vs) :: news) → Q (.ref a) ⟨h', g, d, t, os⟩) : wpAny (model prog w) A (newTuple vs) Q E ⟨h, g, d, t, os⟩ :=
  wpAny_newObj_type (z _ _ (V.push _ rfl)) (by show vs.toArray.size ≤ sizeLine; rw [List.size_toArray]; exact hz)
theorem z_append (i : Nat) (V : Led B L m h news) (hi : news[i]? = some (l, lst vs n)) (hz : vs.length ≤ 16777216) (z : ∀ h', Led B L m h' (news.set i (l, lst (vs ++ [x]) (n + 1))) → Q .none ⟨h', g, d, t, os⟩) :
    wpAny (model prog w) A (call (.builtin "list.append") [.ref l, x]) Q E ⟨h, g, d, t, os⟩ := by
  refine append_at (V.at i hi) (fun h' hs hg => z h' (V.upd i hi (fun b ob hb e => (hs.2 b hb).trans e) ?_)) (by rw [List.size_toArray]; exact hz)
  rw [hg, List.push_toArray]
theorem z_getAppend {pl : Sem Bool} {Q : Value × List Value → Shared → Prop} (ho : h.get? l = some (lst vs n)) (z : Q (.builtin "list.append", [.ref l]) ⟨h, g, d, t, os⟩) :
    wpAny (model prog w) A (getMethod (.ref l) "append" pl) Q E ⟨h, g, d, t, os⟩ := Calls.getMethod_list_append ho rfl rfl z
theorem z_litem (ho : h.get? l = some (lst vs n)) (h0 : 0 ≤ k) (h1 : k < 2 ^ 63) (hx : vs[k.toNat]? = some x) (z : Q x ⟨h, g, d, t, os⟩)
    (hs : subscripted slice false (.ref l) (.int k u) = operate [.ref l, .int k u] (getItem (.ref l) (.int k u))) :
    wpAny (model prog w) A (subscriptTail value slice (.ref l) (.int k u)) Q E ⟨h, g, d, t, os⟩ :=
  tail_any (isList_of ho).typeIs PySem.F.slot_list_getitem.lookup (wpAny_getItem_list (isList_of ho) h0 h1 (by simpa using hx) z) hs
theorem z_litemN (ho : h.get? l = some (lst vs n)) (h0 : k < 0) (h1 : -(vs.length : Int) ≤ k) (h2 : -(2 ^ 63) ≤ k) (hx : vs[(k + vs.length).toNat]? = some x) (z : Q x ⟨h, g, d, t, os⟩)
    (hs : subscripted slice false (.ref l) (.int k u) = operate [.ref l, .int k u] (getItem (.ref l) (.int k u))) :
    wpAny (model prog w) A (subscriptTail value slice (.ref l) (.int k u)) Q E ⟨h, g, d, t, os⟩ :=
  tail_any (isList_of ho).typeIs PySem.F.slot_list_getitem.lookup (wpAny_getItem_list_neg (isList_of ho) h0 (by simpa using h1) h2 (by simpa using hx) z) hs
theorem z_titem (ho : h.get? l = some (tup vs)) (h0 : 0 ≤ k) (h1 : k < vs.length) (h2 : k < 2 ^ 63) (hx : vs[k.toNat]? = some x) (z : Q x ⟨h, g, d, t, os⟩)
    (hs : subscripted slice false (.ref l) (.int k u) = operate [.ref l, .int k u] (getItem (.ref l) (.int k u))) :
    wpAny (model prog w) A (subscriptTail value slice (.ref l) (.int k u)) Q E ⟨h, g, d, t, os⟩ :=
  item_tupleT (isTup_of ho) (by omega) h2 (PySem.seqIndex_of h0 h1) hx z hs
theorem z_lenL (ho : h.get? l = some (lst vs n)) (hz : vs.length ≤ 16777216) (z : ∀ t' k, Q (.int vs.length t') ⟨h, g, d, k, os⟩) : wpAny (model prog w) A (call (.builtin "len") [.ref l]) Q E ⟨h, g, d, t, os⟩ :=
  len_list (isList_of ho) (by rw [List.size_toArray]; omega) (by rw [List.size_toArray]; exact z _ _)
theorem z_truthyL {Q : Bool → Shared → Prop} (ho : h.get? l = some (lst vs n)) (hz : vs.length ≤ 16777216) (z : ∀ k, Q (!vs.isEmpty) ⟨h, g, d, k, os⟩) : wpAny (model prog w) A (truthy (.ref l)) Q E ⟨h, g, d, t, os⟩ :=
  wpAny_truthy_list (isList_of ho) (by rw [List.size_toArray]; omega) (by simpa using z _)
theorem z_lslice {vl vu : Value} {lo hi : Option Int} (V : Led B L m h news) (ho : h.get? l = some (lst vs n)) (pl : IsPart vl lo) (pu : IsPart vu hi) (hz : vs.length ≤ 16777216)
    (z : ∀ a h', Led B L m h' ((a, lst (slicePick vs.toArray lo hi none).toList 0) :: news) → Q (.ref a) ⟨h', g, d, t, os⟩)
    (hs : subscripted slice false (.ref l) (.ref h.objs.size) = operate [.ref h.objs.size, .ref l] (getItem (.ref l) (.ref h.objs.size))) :
    wpAny (model prog w) A (subscriptTail value slice (.ref l) (.ref h.objs.size)) Q E ⟨h.push { cls := .type "slice", data := .fields #[vl, vu, .none] }, g, d, t, os⟩ := by
  have V' := V.push { cls := .type "slice", data := .fields #[vl, vu, .none] } rfl
  have hl : (h.push { cls := .type "slice", data := .fields #[vl, vu, .none] }).IsList l vs.toArray := isList_of (Heap.get?_push_of_some _ ho)
  refine tail_any hl.typeIs PySem.F.slot_list_getitem.lookup (wpAny_getItem_list_slice (lo := lo) (hi := hi) (st := none) hl ⟨_, Heap.get?_push_size _ rfl, rfl, rfl⟩ pl pu .none (by intro e; cases e) ?_ (by rw [List.size_toArray]; exact hz)) hs
  have := z _ _ ((V'.push (lst (slicePick vs.toArray lo hi none).toList 0) rfl).sub (List.Sublist.cons_cons _ (List.Sublist.cons _ (List.Sublist.refl _))))
  simpa using this
end

section
variable {Q : Value → Shared → Prop} {x y : Str} {tx ty : Tok} {value slice : Expr} {i j : Int} {ui uj : Tok}
theorem z_lenS (hz : x.length ≤ 16777216) (z : ∀ t' k, Q (.int x.length t') ⟨h, g, d, k, os⟩) : wpAny (model prog w) A (call (.builtin "len") [.str x tx]) Q E ⟨h, g, d, t, os⟩ :=
  SBL.len (by omega) (z _ _)
theorem z_truthyS {Q : Bool → Shared → Prop} (hz : x.length ≤ 16777216) (z : ∀ k, Q ((x.length : Int) != 0) ⟨h, g, d, k, os⟩) : wpAny (model prog w) A (truthy (.str x tx)) Q E ⟨h, g, d, t, os⟩ :=
  P.truthy_str (by omega) (z _)
theorem z_adds (hz : x.length + y.length ≤ 16777216) (z : ∀ t' k, Q (.str (x ++ y) t') ⟨h, g, d, k, os⟩) : wpAny (model prog w) A (binaryOp .Add (.str x tx) (.str y ty)) Q E ⟨h, g, d, t, os⟩ :=
  add_str (fun t' k => z t' k) hz
theorem z_iadds (hz : x.length + y.length ≤ 16777216) (z : ∀ t' k, Q (.str (x ++ y) t') ⟨h, g, d, k, os⟩) : wpAny (model prog w) A (inplaceOp .Add (.str x tx) (.str y ty)) Q E ⟨h, g, d, t, os⟩ :=
  iadd_str (fun t' k => z t' k) hz
theorem z_slice_ns (V : Led B L m h news) (hsz : x.length ≤ 16777216) (z : ∀ h' t' k, Led B L m h' news → Q (.str (Txt.slice x none (some j)) t') ⟨h', g, d, k, os⟩)
    (hs : subscripted slice false (.str x tx) (.ref h.objs.size) = operate [.ref h.objs.size, .str x tx] (getItem (.str x tx) (.ref h.objs.size)))
    (ht : ∀ r, letTemporaryGo value (.str x tx) r = pure ()) :
    wpAny (model prog w) A (subscriptTail value slice (.str x tx) (.ref h.objs.size)) Q E ⟨h.push { cls := .type "slice", data := .fields #[.none, .int j uj, .none] }, g, d, t, os⟩ :=
  tail_of_ItemOn (SBH.sliceItem_ns (s := ⟨h, g, d, t, os⟩) Led.kept V (fun h' t' k a => z h' t' k a) hsz) hs ht
theorem z_slice_sn (V : Led B L m h news) (hsz : x.length ≤ 16777216) (z : ∀ h' t' k, Led B L m h' news → Q (.str (Txt.slice x (some i) none) t') ⟨h', g, d, k, os⟩)
    (hs : subscripted slice false (.str x tx) (.ref h.objs.size) = operate [.ref h.objs.size, .str x tx] (getItem (.str x tx) (.ref h.objs.size)))
    (ht : ∀ r, letTemporaryGo value (.str x tx) r = pure ()) :
    wpAny (model prog w) A (subscriptTail value slice (.str x tx) (.ref h.objs.size)) Q E ⟨h.push { cls := .type "slice", data := .fields #[.int i ui, .none, .none] }, g, d, t, os⟩ :=
  tail_of_ItemOn (SBH.sliceItem_sn (s := ⟨h, g, d, t, os⟩) Led.kept V (fun h' t' k a => z h' t' k a) hsz) hs ht
theorem z_slice_ss (V : Led B L m h news) (hsz : x.length ≤ 16777216) (z : ∀ h' t' k, Led B L m h' news → Q (.str (Txt.slice x (some i) (some j)) t') ⟨h', g, d, k, os⟩)
    (hs : subscripted slice false (.str x tx) (.ref h.objs.size) = operate [.ref h.objs.size, .str x tx] (getItem (.str x tx) (.ref h.objs.size)))
    (ht : ∀ r, letTemporaryGo value (.str x tx) r = pure ()) :
    wpAny (model prog w) A (subscriptTail value slice (.str x tx) (.ref h.objs.size)) Q E ⟨h.push { cls := .type "slice", data := .fields #[.int i ui, .int j uj, .none] }, g, d, t, os⟩ :=
  tail_of_ItemOn (SBH.sliceItem_ss (s := ⟨h, g, d, t, os⟩) Led.kept V (fun h' t' k a => z h' t' k a) hsz) hs ht
theorem z_join {l : Addr} {vs : List Value} {n : Nat} {ys : List Str} (ho : h.get? l = some (lst vs n)) (hi : StrsAre vs ys) (hok : (ys.map (·.length)).sum + ys.length * x.length ≤ 16777216)
    (z : ∀ t' k, Q (.str (Txt.join x ys) t') ⟨h, g, d, k, os⟩) : wpAny (model prog w) A (call (.builtin "str.join") [.str x tx, .ref l]) Q E ⟨h, g, d, t, os⟩ :=
  join_list (isList_of ho) (by simpa using hi) hok (fun t' k => z t' k)
end
end

theorem Led.mem2 {B : Heap} {L : Addr} {m : Str → Option Value} {h : Heap} {fz : List (Addr × Obj)} {p' q' : Addr × Obj} {a : Addr} {o : Obj} (V : Led B L m h (p' :: q' :: fz)) (hm : (a, o) ∈ fz) : h.get? a = some o := (V.nw _ (.tail _ (.tail _ hm))).1
/-- what a call has made -/
structure New (h h' : Heap) (fz : List (Addr × Obj)) : Prop where
  there : ∀ p ∈ fz, h'.get? p.1 = some p.2
  fresh : ∀ p ∈ fz, h.get? p.1 = none
  ord : (fz.map (·.1)).Pairwise (· ≠ ·)
theorem Led.toNew {B : Heap} {L : Addr} {m : Str → Option Value} {h : Heap} {news : List (Addr × Obj)} (V : Led B L m h news) : New B h news := ⟨fun p hp => (V.nw p hp).1, fun p hp => (V.nw p hp).2.1, V.ord⟩
theorem Led.addNew {B : Heap} {L : Addr} {m : Str → Option Value} {h h' : Heap} {news fz : List (Addr × Obj)} (V : Led B L m h news) (k : h.StaysIn h') (N : New h h' fz) : Led B L m h' (news ++ fz) := by
  have W := V.grow k
  refine ⟨W.ns, W.keep, W.noL, fun p hp => ?_, ?_⟩
  · rcases List.mem_append.mp hp with hp | hp
    · exact W.nw p hp
    · refine ⟨N.there p hp, ?_, fun e => ?_⟩
      · cases q : B.get? p.1 with
        | none => rfl
        | some o => have := V.keep _ _ q; rw [N.fresh p hp] at this; cases this
      · obtain ⟨o, _, _, ho, _⟩ := V.ns
        have := N.fresh p hp
        rw [e, ho] at this; cases this
  · rw [List.map_append, List.pairwise_append]
    refine ⟨V.ord, N.ord, fun a ha b hb e => ?_⟩
    obtain ⟨p, hp, rfl⟩ := List.mem_map.mp ha
    obtain ⟨q, hq, rfl⟩ := List.mem_map.mp hb
    have h1 := (V.nw p hp).1
    have e' : p.1 = q.1 := e
    rw [e', N.fresh q hq] at h1
    cases h1
theorem Led.mem0 {B : Heap} {L : Addr} {m : Str → Option Value} {h : Heap} {fz : List (Addr × Obj)} {a : Addr} {o : Obj} (V : Led B L m h fz) (hm : (a, o) ∈ fz) : h.get? a = some o := (V.nw _ hm).1
theorem Led.mem1 {B : Heap} {L : Addr} {m : Str → Option Value} {h : Heap} {fz : List (Addr × Obj)} {p' : Addr × Obj} {a : Addr} {o : Obj} (V : Led B L m h (p' :: fz)) (hm : (a, o) ∈ fz) : h.get? a = some o := (V.nw _ (.tail _ hm)).1
/-! slices written out -/
def SlP (Q : Value → Shared → Prop) (l u st : Value) (s : Shared) : Prop := Q (.ref s.heap.objs.size) { s with heap := s.heap.push { cls := .type "slice", data := .fields #[l, u, st] } }
theorem z_Slice {M : Model} {A : Around} {E : Value → Shared → Prop} {env : Env} {s : Shared} {lower upper step : Option Expr} {p : Pos} {Q : Value → Shared → Prop}
    (x : wpAny M A (evalPart lower env) (fun l s₁ => wpAny M A (evalPart upper env) (fun u s₂ => wpAny M A (evalPart step env) (fun st s₃ => SlP Q l u st s₃) E s₂) E s₁) E s) :
    wpAny M A (eval (.Slice lower upper step p) env) Q E s := wpAny_Slice x
theorem z_slp {Q : Value → Shared → Prop} {l u st : Value} {h : Heap} {g : Array GenState} {d : Drawn} {t : Nat} {os : OsState}
    (x : Q (.ref h.objs.size) ⟨h.push { cls := .type "slice", data := .fields #[l, u, st] }, g, d, t, os⟩) : SlP Q l u st ⟨h, g, d, t, os⟩ := x

/-! loops -/
def LoopP (I : Nat → Shared → Prop) (n : Nat) (Q : Flow → Shared → Prop) : Flow → Shared → Prop := fun f s => match f with
  | .next | .cont => ∃ k, k < n ∧ I k s
  | .brk => Q .next s
  | .ret v => Q (.ret v) s
def ForP (B : Heap) (L : Addr) (J : (Str → Option Value) → List (Addr × Obj) → Prop) (it : Addr × Obj) (g : Array GenState) (d : Drawn) (os : OsState) (Q : Flow → Shared → Prop) : Flow → Shared → Prop := fun f s => match f with
  | .next | .cont => ∃ m news h t, s = ⟨h, g, d, t, os⟩ ∧ Led B L m h (it :: news) ∧ J m news
  | .brk => Q .next s
  | .ret v => Q (.ret v) s
theorem l_next {I : Nat → Shared → Prop} {n : Nat} {Q : Flow → Shared → Prop} {s : Shared} (k : Nat) (hk : k < n) (x : I k s) : LoopP I n Q .next s := ⟨k, hk, x⟩
theorem l_brk {I : Nat → Shared → Prop} {n : Nat} {Q : Flow → Shared → Prop} {s : Shared} (x : Q .next s) : LoopP I n Q .brk s := x
theorem l_ret {I : Nat → Shared → Prop} {n : Nat} {Q : Flow → Shared → Prop} {s : Shared} {v : Value} (x : Q (.ret v) s) : LoopP I n Q (.ret v) s := x
section
variable {B : Heap} {L : Addr} {J : (Str → Option Value) → List (Addr × Obj) → Prop} {it : Addr × Obj} {g : Array GenState} {d : Drawn} {os : OsState} {Q : Flow → Shared → Prop}
theorem f_next {m : Str → Option Value} {news : List (Addr × Obj)} {h : Heap} {t : Nat} (V : Led B L m h (it :: news)) (x : J m news) : ForP B L J it g d os Q .next ⟨h, g, d, t, os⟩ := ⟨m, news, h, t, rfl, V, x⟩
theorem f_brk {s : Shared} (x : Q .next s) : ForP B L J it g d os Q .brk s := x
theorem f_ret {s : Shared} {v : Value} (x : Q (.ret v) s) : ForP B L J it g d os Q (.ret v) s := x
end
abbrev raO (x left : Int) : Obj := { cls := .type "range_iterator", dict := none, data := .fields #[rawInt x, rawInt left, rawInt 1], slots := #[] }

section
variable {prog : Program} {w : World} {mg mb : Str → Option Value} {A : Around} {E : Value → Shared → Prop}
variable {h : Heap} {g : Array GenState} {d : Drawn} {t : Nat} {os : OsState}
variable {B : Heap} {L a : Addr} {m : Str → Option Value} {cn : Str} {cs : Scope} {ccd : Value} {news : List (Addr × Obj)} {env : Env}

theorem z_while {test : Expr} {body : List Stmt} {pos : Pos} {Q : Flow → Shared → Prop} {s : Shared} (I : Nat → Shared → Prop) (n : Nat) (h0 : I n s)
    (turn : ∀ n s, I n s → wpAny (model prog w) A (isTrue test env (eval test env)) (fun b s₂ => if b = true then wpAny (model prog w) A (execs body env) (LoopP I n Q) NoE s₂ else Q .next s₂) NoE s) :
    wpAny (model prog w) A (exec (.While test body [] pos) env) Q E s := by
  refine wpAny_While (codeAny_whileLoop I (fun n s hI => wpAny_mono (turn n s hI) (fun b s₂ h₂ => ?_) fun _ _ e => e.elim) n h0)
  cases b with
  | false =>
    simp only [Bool.false_eq_true, if_false] at h₂ ⊢
    exact wpAny_execs_nil h₂
  | true =>
    simp only [if_true] at h₂ ⊢
    exact wpAny_mono h₂ (fun f s₃ h₃ => by cases f <;> exact h₃) fun _ _ e => e.elim

theorem z_pyIterL {l : Addr} {vs : List Value} {n : Nat} {Q : Value → Shared → Prop} (V : Led B L m h news) (ho : h.get? l = some (lst vs n))
    (z : ∀ it h', Led B L m h' ((it, liO l 0) :: news) → Q (.ref it) ⟨h', g, d, t, os⟩) : wpAny (model prog w) A (pyIter (.ref l)) Q E ⟨h, g, d, t, os⟩ :=
  wpAny_pyIter_list (isList_of ho) (z _ _ (V.push _ rfl))

theorem Led.dropHead {h' : Heap} {it : Addr} {o : Obj} (V : Led B L m h ((it, o) :: news)) (hs : Heap.ExtBut it h h') : Led B L m h' news := by
  have z := V.nw _ (.head _)
  have ne : ∀ p ∈ news, p.1 ≠ it := fun p hp e => (List.pairwise_cons.mp V.ord).1 p.1 (List.mem_map_of_mem hp) e.symm
  exact ⟨V.ns.at' fun o e => hs L o z.2.2.symm e, fun b ob e => hs b ob (fun q => by subst q; rw [z.2.1] at e; cases e) (V.keep b ob e), V.noL,
    fun p hp => ⟨hs _ _ (ne p hp) (V.nw p (.tail _ hp)).1, (V.nw p (.tail _ hp)).2⟩, (List.pairwise_cons.mp V.ord).2⟩
theorem Led.tail {p : Addr × Obj} (V : Led B L m h (p :: news)) : Led B L m h news := V.sub (List.Sublist.cons _ (List.Sublist.refl _))
theorem Led.swap {p q : Addr × Obj} (V : Led B L m h (p :: q :: news)) : Led B L m h (q :: p :: news) := by
  refine ⟨V.ns, V.keep, V.noL, fun r hr => ?_, ?_⟩
  · rcases List.mem_cons.mp hr with rfl | hr
    · exact V.nw _ (.tail _ (.head _))
    · rcases List.mem_cons.mp hr with rfl | hr
      · exact V.nw _ (.head _)
      · exact V.nw _ (.tail _ (.tail _ hr))
  · have o := V.ord
    simp only [List.map_cons, List.pairwise_cons, List.mem_cons, forall_eq_or_imp] at o ⊢
    exact ⟨⟨fun e => o.1.1 e.symm, o.2.1⟩, o.1.2, o.2.2⟩

def IterAt (o : Obj) (l : Addr) (i : Nat) : Prop := o.cls = .type "list_iterator" ∧ o.data = .fields #[.ref l, .int i 0]
/-- for over a list, the iterator made -/
theorem z_forL {target : Expr} {body : List Stmt} {Q : Flow → Shared → Prop} {l it : Addr} {vs : List Value} {nn : Nat} {m₀ : Str → Option Value} {news₀ : List (Addr × Obj)} (hh : A.handled = none)
    (J : Nat → (Str → Option Value) → List (Addr × Obj) → Prop)
    (V : Led B L m₀ h ((it, liO l 0) :: news₀)) (h0 : J 0 m₀ news₀)
    (hl : ∀ i m' news' h', J i m' news' → Led B L m' h' news' → h'.get? l = some (lst vs nn))
    (own : ∀ i x (s : Shared) (Q' : Unit → Shared → Prop), vs[i]? = some x → s.heap.IsListIter it l (i + 1) → Q' () s → wpAny (model prog w) A (letOwnedTupleGo target (.ref it) x) Q' NoE s)
    (turn : ∀ i x m' news' h' t' o, vs[i]? = some x → J i m' news' → Led B L m' h' ((it, o) :: news') →
      wpAny (model prog w) A (assign target env x) (fun _ s₂ => wpAny (model prog w) A (execs body env) (ForP B L (J (i + 1)) (it, o) g d os Q) NoE s₂) NoE ⟨h', g, d, t', os⟩)
    (done : ∀ m' news' h' t', J vs.length m' news' → Led B L m' h' news' → Q .next ⟨h', g, d, t', os⟩) :
    codeAny (model prog w) A (.forLoop target (.ref it) body [] env) (fun r s' => match r with | .ok f => Q f s' | .error e => cameBackBy (model prog w) A env E e s') ⟨h, g, d, t, os⟩ := by
  refine codeAny_forLoop_any (fun k s' => ∃ i m' news' h' t' o, s' = ⟨h', g, d, t', os⟩ ∧ Led B L m' h' ((it, o) :: news') ∧ IterAt o l i ∧ J i m' news' ∧ i ≤ vs.length ∧ k = vs.length - i) ?_ vs.length ⟨0, m₀, news₀, h, t, _, rfl, V, ⟨rfl, rfl⟩, h0, Nat.zero_le _, rfl⟩
  rintro k s' ⟨i, m', news', h', t', o, rfl, V', hio, hJ, hi, rfl⟩
  have Vt : Led B L m' h' news' := V'.tail
  have hlst := isList_of (hl i m' news' h' hJ Vt)
  have hit : h'.IsListIter it l i := ⟨_, V'.at 0 rfl, hio.1, hio.2⟩
  by_cases hlt : i < vs.length
  · have hx : vs[i]? = some vs[i] := List.getElem?_eq_getElem hlt
    refine wpAny_pyNext_list_item (s := ⟨h', g, d, t', os⟩) (x := vs[i]) hit hlst (by simp [hlt]) (fun h₁ hit₁ hs₁ => ?_)
    refine wpAny_mono (own i _ _ _ hx hit₁ ?_) (fun _ _ e => e) (fun _ _ e => e.elim)
    obtain ⟨o₁, ho₁, hc₁, hd₁⟩ := hit₁
    have V₁ : Led B L m' h₁ ((it, o₁) :: news') := V'.upd 0 rfl (fun b ob hb e => (hs₁.2 b hb).trans e) ho₁
    refine wpAny_mono (turn i _ m' news' h₁ t' o₁ hx hJ V₁) (fun _ s₂ h₂ => ?_) fun _ _ e => e.elim
    refine wpAny_mono h₂ (fun f s₃ h₃ => ?_) fun _ _ e => e.elim
    cases f with
    | next =>
      obtain ⟨m₃, news₃, h₃', t₃, rfl, V₃, J₃⟩ := h₃
      exact ⟨vs.length - (i + 1), by omega, i + 1, m₃, news₃, h₃', t₃, _, rfl, V₃, ⟨hc₁, hd₁⟩, J₃, hlt, rfl⟩
    | cont =>
      obtain ⟨m₃, news₃, h₃', t₃, rfl, V₃, J₃⟩ := h₃
      exact ⟨vs.length - (i + 1), by omega, i + 1, m₃, news₃, h₃', t₃, _, rfl, V₃, ⟨hc₁, hd₁⟩, J₃, hlt, rfl⟩
    | brk => exact h₃
    | ret v => exact h₃
  · have he : i = vs.length := by omega
    subst he
    refine wpAny_pyNext_list_end (s := ⟨h', g, d, t', os⟩) hh hit hlst (by simp) (fun h₁ hs₁ => ?_)
    refine wpAny_execs_nil ?_
    exact done m' news' h₁ t' hJ (V'.dropHead hs₁)

/-- range(n) and its iterator -/
theorem z_range {n : Int} {u : Tok} {Q : Value → Shared → Prop} (V : Led B L m h news) (z : ∀ r h' t' ta tb, Led B L m h' news → IsRange h' r 0 n 1 ta u tb → Q (.ref r) ⟨h', g, d, t', os⟩) :
    wpAny (model prog w) A (call (.type "range") [.int n u]) Q E ⟨h, g, d, t, os⟩ :=
  call_range_1 (z _ _ _ _ _ (V.pushKeep _) (IsRange.new ..))
theorem z_pyIterR {r : Addr} {n : Nat} {ta tb tc : Tok} {Q : Value → Shared → Prop} (V : Led B L m h news) (hr : IsRange h r 0 n 1 ta tb tc) (hn : n ≤ 16777216)
    (z : ∀ it h', Led B L m h' ((it, raO 0 n) :: news) → Q (.ref it) ⟨h', g, d, t, os⟩) : wpAny (model prog w) A (pyIter (.ref r)) Q E ⟨h, g, d, t, os⟩ := by
  refine wpAny_pyIter_range (s := ⟨h, g, d, t, os⟩) hr (small_one (by omega) (by omega) (by omega) (by omega)) ?_
  have := z _ _ (V.push (raO 0 n) rfl)
  rw [rangeSize_one]
  have e : (if (0 : Int) < (n : Int) then (n : Int) - 0 else 0) = (n : Int) := by split <;> omega
  rw [e]
  exact this
theorem z_forR {x : Str} {px : Pos} {body : List Stmt} {Q : Flow → Shared → Prop} {it : Addr} {n : Nat} {m₀ : Str → Option Value} {news₀ : List (Addr × Obj)} (hh : A.handled = none)
    (J : Nat → (Str → Option Value) → List (Addr × Obj) → Prop)
    (V : Led B L m₀ h ((it, raO 0 n) :: news₀)) (h0 : J 0 m₀ news₀)
    (turn : ∀ (i : Nat) m' news' h' t' u o, i < n → J i m' news' → Led B L m' h' ((it, o) :: news') →
      wpAny (model prog w) A (assign (.Name x px) env (.int i u)) (fun _ s₂ => wpAny (model prog w) A (execs body env) (ForP B L (J (i + 1)) (it, o) g d os Q) NoE s₂) NoE ⟨h', g, d, t', os⟩)
    (done : ∀ m' news' h' t', J n m' news' → Led B L m' h' news' → Q .next ⟨h', g, d, t', os⟩) :
    codeAny (model prog w) A (.forLoop (.Name x px) (.ref it) body [] env) (fun r s' => match r with | .ok f => Q f s' | .error e => cameBackBy (model prog w) A env E e s') ⟨h, g, d, t, os⟩ := by
  refine codeAny_forLoop (fun k s' => ∃ (i : Nat), ∃ m' news' h' t', s' = ⟨h', g, d, t', os⟩ ∧ Led B L m' h' ((it, raO i (n - i)) :: news') ∧ J i m' news' ∧ i ≤ n ∧ k = n - i) ?_ n ⟨0, m₀, news₀, h, t, rfl, by simpa using V, h0, Nat.zero_le _, rfl⟩
  rintro k s' ⟨i, m', news', h', t', rfl, V', hJ, hi, rfl⟩
  have hit : IsRangeIter h' it i (n - i) 1 := V'.at 0 rfl
  by_cases hlt : i < n
  · refine wpAny_pyNext_range_item (s := ⟨h', g, d, t', os⟩) hit (by omega) (fun h₁ hit₁ hs₁ => ?_)
    have V₁ : Led B L m' h₁ ((it, raO ((i + 1 : Nat) : Int) ((n : Int) - ((i + 1 : Nat) : Int))) :: news') := by
      refine V'.upd 0 rfl (fun b ob hb e => (hs₁.2 b hb).trans e) ?_
      have e1 : (i : Int) + 1 = ((i + 1 : Nat) : Int) := by omega
      have e2 : (n : Int) - i - 1 = (n : Int) - ((i + 1 : Nat) : Int) := by omega
      rw [← e1, show (n : Int) - ((i : Int) + 1) = (n : Int) - i - 1 from by omega]
      exact hit₁
    refine wpAny_mono (turn i m' news' h₁ _ _ _ hlt hJ V₁) (fun _ s₂ h₂ => ?_) fun _ _ e => e.elim
    refine wpAny_mono h₂ (fun f s₃ h₃ => ?_) fun _ _ e => e.elim
    cases f with
    | next =>
      obtain ⟨m₃, news₃, h₃', t₃, rfl, V₃, J₃⟩ := h₃
      exact ⟨n - (i + 1), by omega, i + 1, m₃, news₃, h₃', t₃, rfl, V₃, J₃, hlt, rfl⟩
    | cont =>
      obtain ⟨m₃, news₃, h₃', t₃, rfl, V₃, J₃⟩ := h₃
      exact ⟨n - (i + 1), by omega, i + 1, m₃, news₃, h₃', t₃, rfl, V₃, J₃, hlt, rfl⟩
    | brk => exact h₃
    | ret v => exact h₃
  · have he : i = n := by omega
    subst he
    refine wpAny_pyNext_range_end (s := ⟨h', g, d, t', os⟩) hh hit (by omega) (fun h₁ hs₁ => ?_)
    refine wpAny_execs_nil ?_
    exact done m' news' h₁ t' hJ (V'.dropHead hs₁)
end
/-! texts as lists of signs -/
def mkS (l : List Nat) : Str := ⟨l.toArray⟩
theorem mkS_cps (x : Str) : mkS x.cps.toList = x := by cases x; simp [mkS]
theorem mkS_len (l : List Nat) : (mkS l).length = l.length := by simp [mkS, Str.length]
theorem mkS_app (a b : List Nat) : mkS a ++ mkS b = mkS (a ++ b) := Str.ext' (by rw [Str.cps_append]; simp [mkS])
theorem mkS_inj {a b : List Nat} (e : mkS a = mkS b) : a = b := by
  have := congrArg Str.cps e
  simpa [mkS] using this
theorem mkS_beq (a b : List Nat) : (mkS a == mkS b) = decide (a = b) := by
  rw [Bool.eq_iff_iff, beq_iff_eq, decide_eq_true_eq]
  exact ⟨mkS_inj, fun e => by rw [e]⟩
theorem mkS_bne (a b : List Nat) : (mkS a != mkS b) = decide (a ≠ b) := by
  unfold bne
  rw [mkS_beq]
  by_cases h : a = b <;> simp [h]
theorem mkS_item {l : List Nat} {i : Int} {c : Nat} (h0 : 0 ≤ i) (hc : l[i.toNat]? = some c) : Txt.item (mkS l) i = mkS [c] := by
  have hx : (mkS l).cps[i.toNat]? = some c := by simpa [mkS] using hc
  unfold Txt.item Txt.charAt
  rw [StrLaws.at_nonneg h0 hx]
  rfl
theorem mkS_in (l : List Nat) (c : Nat) : (!(Builtin.Str.occurrences (mkS l) (mkS [c]) 0 (mkS l).length 1).isEmpty) = l.contains c := by
  have := StrLaws.found_one (mkS l) c
  rw [show mkS [c] = ⟨#[c]⟩ from rfl, this, Bool.eq_iff_iff, decide_eq_true_iff]
  simp [mkS]
theorem slice_eq (x : Str) (l u : Option Int) : Txt.slice x l u = StrLaws.sliceText x l u := rfl
theorem sliceIdx_min (a b n : Nat) : Builtin.Str.strSliceIndices (some (a : Int)) (some (b : Int)) 1 n = Builtin.Str.strSliceIndices (some ((min a n : Nat) : Int)) (some ((min b n : Nat) : Int)) 1 n := by
  unfold Builtin.Str.strSliceIndices
  simp only
  congr 1 <;> omega
theorem mkS_slice (l : List Nat) (a b : Nat) : Txt.slice (mkS l) (some (a : Int)) (some (b : Int)) = mkS ((l.take b).drop a) := by
  rw [slice_eq]
  have key : StrLaws.sliceText (mkS l) (some (a : Int)) (some (b : Int)) = StrLaws.sliceText (mkS l) (some ((min a l.length : Nat) : Int)) (some ((min b l.length : Nat) : Int)) := by
    unfold StrLaws.sliceText
    rw [mkS_len, sliceIdx_min a b l.length]
  rw [key]
  have hl : (mkS l).cps.toList = l := by simp [mkS]
  by_cases hab : min a l.length ≤ min b l.length
  · rw [StrLaws.sliceText_nat _ hab (by rw [mkS_len]; omega), hl]
    show mkS _ = mkS _
    congr 1
    rw [List.drop_take]
    by_cases ha : a ≤ l.length
    · rw [Nat.min_eq_left ha]
      by_cases hb : b ≤ l.length
      · rw [Nat.min_eq_left hb]
      · rw [Nat.min_eq_right (by omega), List.take_of_length_le (by simp), List.take_of_length_le (by simp; omega)]
    · rw [List.drop_eq_nil_of_le (by omega : l.length ≤ a), List.drop_eq_nil_of_le (by omega : l.length ≤ min a l.length)]
      simp
  · have hab' : b < a := by omega
    have hb : b < l.length := by omega
    have e : Builtin.Str.strSliceIndices (some ((min a l.length : Nat) : Int)) (some ((min b l.length : Nat) : Int)) 1 (mkS l).length = [] := by
      unfold Builtin.Str.strSliceIndices sliceRange
      simp
      omega
    unfold StrLaws.sliceText
    rw [e]
    have hd : (l.take b).drop a = [] := by simp; omega
    rw [hd]
    rw [if_neg (by simp [mkS_len]; omega)]
    rfl
theorem mkS_slice_hi (l : List Nat) (b : Nat) : Txt.slice (mkS l) none (some (b : Int)) = mkS (l.take b) := by
  have e : Txt.slice (mkS l) none (some (b : Int)) = Txt.slice (mkS l) (some ((0 : Nat) : Int)) (some (b : Int)) := by
    rw [slice_eq, slice_eq]
    unfold StrLaws.sliceText
    rw [StrLaws.sliceIdx_none_lo]
    rfl
  rw [e, mkS_slice, List.drop_zero]
theorem mkS_slice_lo (l : List Nat) (a : Nat) : Txt.slice (mkS l) (some (a : Int)) none = mkS (l.drop a) := by
  have e : Txt.slice (mkS l) (some (a : Int)) none = Txt.slice (mkS l) (some (a : Int)) (some ((l.length : Nat) : Int)) := by
    rw [slice_eq, slice_eq]
    unfold StrLaws.sliceText
    rw [StrLaws.sliceIdx_none_hi, mkS_len]
  rw [e, mkS_slice, List.take_length]
theorem lit_257 : Str.ofString "257" = mkS [50, 53, 55] := by decide
theorem lit_257q : Str.ofString "257 \"" = mkS [50, 53, 55, 32, 34] := by decide
theorem lit_sq : Str.ofString " \"" = mkS [32, 34] := by decide
theorem lit_q : Str.ofString "\"" = mkS [34] := by decide
theorem lit_qq : Str.ofString "\"\"" = mkS [34, 34] := by decide
theorem lit_ : Str.ofString "" = mkS [] := by decide
theorem lit_star : Str.ofString "*" = mkS [42] := by decide
theorem lit_qm : Str.ofString "?" = mkS [63] := by decide
theorem lit_lb : Str.ofString "[" = mkS [91] := by decide
theorem lit_rb : Str.ofString "]" = mkS [93] := by decide
theorem lit_ex : Str.ofString "!" = mkS [33] := by decide
theorem lit_dash : Str.ofString "-" = mkS [45] := by decide
theorem lit_bs : Str.ofString "\\" = mkS [92] := by decide
theorem lit_bsbs : Str.ofString "\\\\" = mkS [92, 92] := by decide
theorem lit_dot : Str.ofString "." = mkS [46] := by decide
theorem lit_caret : Str.ofString "^" = mkS [94] := by decide
theorem lit_stop : Str.ofString "(.)" = mkS [40, 46, 41] := by decide
theorem lit_grp : Str.ofString "(?>.*?" = mkS [40, 63, 62, 46, 42, 63] := by decide
theorem lit_ds : Str.ofString ".*" = mkS [46, 42] := by decide
theorem lit_open : Str.ofString "(?s:" = mkS [40, 63, 115, 58] := by decide
theorem lit_close : Str.ofString ")\\Z" = mkS [41, 92, 90] := by decide
theorem lit_rp : Str.ofString ")" = mkS [41] := by decide
theorem lit_lbex : Str.ofString "[!" = mkS [91, 33] := by decide
theorem lit_spec : Str.ofString "*?[" = mkS [42, 63, 91] := by decide
theorem lit_a : Str.ofString "a" = mkS [97] := by decide
theorem lit_b : Str.ofString "b" = mkS [98] := by decide
theorem lit_ab : Str.ofString "ab" = mkS [97, 98] := by decide
theorem lit_aq : Str.ofString "a\"" = mkS [97, 34] := by decide
theorem lit_qa : Str.ofString "\"a" = mkS [34, 97] := by decide
theorem lit_not : Str.ofString "(?!)" = mkS [40, 63, 33, 41] := by decide
theorem lit_bslb : Str.ofString "\\[" = mkS [92, 91] := by decide

section
variable {prog : Program} {w : World} {mg mb : Str → Option Value} {A : Around} {E : Value → Shared → Prop}
variable {h : Heap} {g : Array GenState} {d : Drawn} {t : Nat} {os : OsState}
variable {B : Heap} {L a : Addr} {m : Str → Option Value} {cn : Str} {cs : Scope} {ccd : Value} {news : List (Addr × Obj)} {env : Env}
variable {Q : Value → Shared → Prop} {k : Nat} {pos : Pos} {x y : List Nat} {tx ty : Tok} {value slice : Expr} {i j : Int} {ui uj : Tok}
theorem s_str {y : Str} {l : List Nat} (hy : y = mkS l) (z : Q (.str (mkS l) t) ⟨h, g, d, t.succ, os⟩) : wpAny (model prog w) A (eval (.Constant (.str y) k pos) env) Q E ⟨h, g, d, t, os⟩ := by
  subst hy
  exact z_str z
theorem s_add (hz : x.length + y.length ≤ 16777216) (z : ∀ t' k, Q (.str (mkS (x ++ y)) t') ⟨h, g, d, k, os⟩) : wpAny (model prog w) A (binaryOp .Add (.str (mkS x) tx) (.str (mkS y) ty)) Q E ⟨h, g, d, t, os⟩ :=
  z_adds (by rw [mkS_len, mkS_len]; exact hz) (by rw [mkS_app]; exact z)
theorem s_iadd (hz : x.length + y.length ≤ 16777216) (z : ∀ t' k, Q (.str (mkS (x ++ y)) t') ⟨h, g, d, k, os⟩) : wpAny (model prog w) A (inplaceOp .Add (.str (mkS x) tx) (.str (mkS y) ty)) Q E ⟨h, g, d, t, os⟩ :=
  z_iadds (by rw [mkS_len, mkS_len]; exact hz) (by rw [mkS_app]; exact z)
theorem s_eq (z : Q (.bool (decide (x = y))) ⟨h, g, d, t, os⟩) : wpAny (model prog w) A (compareOp .Eq (.str (mkS x) tx) (.str (mkS y) ty)) Q E ⟨h, g, d, t, os⟩ :=
  eq_str (by rw [mkS_beq]; exact z)
theorem s_ne (z : Q (.bool (decide (x ≠ y))) ⟨h, g, d, t, os⟩) : wpAny (model prog w) A (compareOp .NotEq (.str (mkS x) tx) (.str (mkS y) ty)) Q E ⟨h, g, d, t, os⟩ :=
  ne_str (by rw [mkS_bne]; exact z)
theorem s_in {c : Nat} (z : Q (.bool (x.contains c)) ⟨h, g, d, t, os⟩) : wpAny (model prog w) A (compareOp .In (.str (mkS [c]) ty) (.str (mkS x) tx)) Q E ⟨h, g, d, t, os⟩ :=
  in_str (by rw [mkS_in]; exact z)
theorem s_notIn {c : Nat} (z : Q (.bool (!x.contains c)) ⟨h, g, d, t, os⟩) : wpAny (model prog w) A (compareOp .NotIn (.str (mkS [c]) ty) (.str (mkS x) tx)) Q E ⟨h, g, d, t, os⟩ :=
  notIn_str (by rw [mkS_in]; exact z)
theorem s_len (hz : x.length ≤ 16777216) (z : ∀ t' k, Q (.int x.length t') ⟨h, g, d, k, os⟩) : wpAny (model prog w) A (call (.builtin "len") [.str (mkS x) tx]) Q E ⟨h, g, d, t, os⟩ :=
  z_lenS (by rw [mkS_len]; exact hz) (by rw [mkS_len]; exact z)
theorem s_truthy {Q : Bool → Shared → Prop} (hz : x.length ≤ 16777216) (z : ∀ k, Q (decide (x ≠ [])) ⟨h, g, d, k, os⟩) : wpAny (model prog w) A (truthy (.str (mkS x) tx)) Q E ⟨h, g, d, t, os⟩ := by
  refine z_truthyS (by rw [mkS_len]; exact hz) fun k => ?_
  have e : (((mkS x).length : Int) != 0) = decide (x ≠ []) := by
    rw [mkS_len]
    cases x
    · rfl
    · simp only [List.length_cons, bne_iff_ne, ne_eq, reduceCtorEq, not_false_eq_true, decide_true]
      omega
  rw [e]
  exact z k
theorem s_item {c : Nat} (h0 : 0 ≤ i) (hc : x[i.toNat]? = some c) (hz : x.length ≤ 16777216) (z : Q (.str (mkS [c]) t) ⟨h, g, d, t.succ, os⟩)
    (hs : subscripted slice false (.str (mkS x) tx) (.int i ui) = operate [.str (mkS x) tx, .int i ui] (getItem (.str (mkS x) tx) (.int i ui)))
    (ht : ∀ r, letTemporaryGo value (.str (mkS x) tx) r = pure ()) :
    wpAny (model prog w) A (subscriptTail value slice (.str (mkS x) tx) (.int i ui)) Q E ⟨h, g, d, t, os⟩ := by
  obtain ⟨hl, _⟩ := List.getElem?_eq_some_iff.mp hc
  exact z_item h0 (by rw [mkS_len]; omega) (by rw [mkS_len]; exact hz) (by rw [mkS_item h0 hc]; exact z) hs ht
theorem s_slice_ss (V : Led B L m h news) (hz : x.length ≤ 16777216) (z : ∀ h' t' k, Led B L m h' news → Q (.str (mkS ((x.take j.toNat).drop i.toNat)) t') ⟨h', g, d, k, os⟩)
    (hi : 0 ≤ i) (hj : 0 ≤ j)
    (hs : subscripted slice false (.str (mkS x) tx) (.ref h.objs.size) = operate [.ref h.objs.size, .str (mkS x) tx] (getItem (.str (mkS x) tx) (.ref h.objs.size)))
    (ht : ∀ r, letTemporaryGo value (.str (mkS x) tx) r = pure ()) :
    wpAny (model prog w) A (subscriptTail value slice (.str (mkS x) tx) (.ref h.objs.size)) Q E ⟨h.push { cls := .type "slice", data := .fields #[.int i ui, .int j uj, .none] }, g, d, t, os⟩ := by
  obtain ⟨a, rfl⟩ := Int.eq_ofNat_of_zero_le hi
  obtain ⟨b, rfl⟩ := Int.eq_ofNat_of_zero_le hj
  simp only [Int.toNat_natCast] at z
  exact z_slice_ss V (by rw [mkS_len]; exact hz) (by rw [mkS_slice]; exact z) hs ht
theorem s_slice_ns (V : Led B L m h news) (hz : x.length ≤ 16777216) (z : ∀ h' t' k, Led B L m h' news → Q (.str (mkS (x.take j.toNat)) t') ⟨h', g, d, k, os⟩)
    (hj : 0 ≤ j)
    (hs : subscripted slice false (.str (mkS x) tx) (.ref h.objs.size) = operate [.ref h.objs.size, .str (mkS x) tx] (getItem (.str (mkS x) tx) (.ref h.objs.size)))
    (ht : ∀ r, letTemporaryGo value (.str (mkS x) tx) r = pure ()) :
    wpAny (model prog w) A (subscriptTail value slice (.str (mkS x) tx) (.ref h.objs.size)) Q E ⟨h.push { cls := .type "slice", data := .fields #[.none, .int j uj, .none] }, g, d, t, os⟩ := by
  obtain ⟨b, rfl⟩ := Int.eq_ofNat_of_zero_le hj
  simp only [Int.toNat_natCast] at z
  exact z_slice_ns V (by rw [mkS_len]; exact hz) (by rw [mkS_slice_hi]; exact z) hs ht
theorem s_slice_sn (V : Led B L m h news) (hz : x.length ≤ 16777216) (z : ∀ h' t' k, Led B L m h' news → Q (.str (mkS (x.drop i.toNat)) t') ⟨h', g, d, k, os⟩)
    (hi : 0 ≤ i)
    (hs : subscripted slice false (.str (mkS x) tx) (.ref h.objs.size) = operate [.ref h.objs.size, .str (mkS x) tx] (getItem (.str (mkS x) tx) (.ref h.objs.size)))
    (ht : ∀ r, letTemporaryGo value (.str (mkS x) tx) r = pure ()) :
    wpAny (model prog w) A (subscriptTail value slice (.str (mkS x) tx) (.ref h.objs.size)) Q E ⟨h.push { cls := .type "slice", data := .fields #[.int i ui, .none, .none] }, g, d, t, os⟩ := by
  obtain ⟨a, rfl⟩ := Int.eq_ofNat_of_zero_le hi
  simp only [Int.toNat_natCast] at z
  exact z_slice_sn V (by rw [mkS_len]; exact hz) (by rw [mkS_slice_lo]; exact z) hs ht
end
/-! library rules that speak of Fr and News, brought to the ledger -/
theorem empty_get (b : Addr) : ({} : Heap).get? b = none := by simp [Heap.get?]
theorem allNews (h : Heap) (L : Addr) : ∃ nw : List (Addr × Obj), News {} L h nw ∧ ∀ b o, b ≠ L → h.get? b = some o → (b, o) ∈ nw := by
  refine ⟨(List.range h.objs.size).filterMap fun b => if b = L then none else (h.get? b).map fun o => (b, o), ?_, ?_⟩
  · intro p hp
    obtain ⟨b, _, e⟩ := List.mem_filterMap.mp hp
    by_cases hb : b = L
    · rw [if_pos hb] at e; cases e
    · rw [if_neg hb] at e
      cases q : h.get? b with
      | none => rw [q] at e; cases e
      | some o => rw [q] at e; cases e; exact ⟨q, hb, empty_get _⟩
  · intro b o hb e
    exact List.mem_filterMap.mpr ⟨b, List.mem_range.mpr (Heap.lt_size e), by rw [if_neg hb, e]; rfl⟩
section
variable {B : Heap} {L : Addr} {m m' : Str → Option Value} {h h' : Heap} {news nw : List (Addr × Obj)} {a : Addr} {o : Obj}
theorem Led.fr (V : Led B L m h news) : Fr {} L h m := ⟨V.ns, fun b o e => (by rw [empty_get] at e; cases e), Nat.zero_le _⟩
theorem Led.via0 (V : Led B L m h news) (hall : ∀ b o, b ≠ L → h.get? b = some o → (b, o) ∈ nw) (F : Fr {} L h' m') (N : News {} L h' nw) : Led B L m' h' news :=
  V.to F.ns fun b o hb e => (N _ (hall b o hb e)).1
theorem Led.via1 (V : Led B L m h news) (hall : ∀ b o, b ≠ L → h.get? b = some o → (b, o) ∈ nw) (ha : h.get? a = none) (F : Fr {} L h' m') (N : News {} L h' ((a, o) :: nw)) : Led B L m' h' ((a, o) :: news) := by
  have W := V.via0 hall F (fun p hp => N p (.tail _ hp))
  refine ⟨W.ns, W.keep, W.noL, fun p hp => ?_, ?_⟩
  · rcases List.mem_cons.mp hp with rfl | hp
    · refine ⟨(N _ (.head _)).1, ?_, (N _ (.head _)).2.1⟩
      cases q : B.get? a with
      | none => rfl
      | some o' => rw [V.keep _ _ q] at ha; cases ha
    · exact W.nw p hp
  · refine List.Pairwise.cons (fun b hb => ?_) V.ord
    obtain ⟨⟨b', ob⟩, hp, rfl⟩ := List.mem_map.mp hb
    intro q
    have := (V.nw _ hp).1
    have e : a = b' := q
    subst e
    rw [ha] at this; cases this
theorem get_size_none (h : Heap) : h.get? h.objs.size = none := by
  cases q : h.get? h.objs.size with
  | none => rfl
  | some o => exact absurd (Heap.lt_size q) (Nat.lt_irrefl _)
end
theorem strsAre_strValues : ∀ l : List (Str × Tok), StrsAre (strValues l) (l.map (·.1))
  | [] => .nil
  | p :: r => .cons _ _ (strsAre_strValues r)

section
variable {prog : Program} {w : World} {mg mb : Str → Option Value} {A : Around} {E : Value → Shared → Prop}
variable {h : Heap} {g : Array GenState} {d : Drawn} {t : Nat} {os : OsState}
variable {B : Heap} {L a : Addr} {m : Str → Option Value} {news : List (Addr × Obj)}
variable {Q : Value → Shared → Prop} {x y : Str} {tx ty : Tok}
theorem z_split (V : Led B L m h news) (hy : (y.length == 0) = false) (hz : x.length + 2 ≤ 16777216)
    (z : ∀ a l h' k, l.map (·.1) = Txt.split x y → Led B L m h' ((a, lst (strValues l) 0) :: news) → Q (.ref a) ⟨h', g, d, k, os⟩) :
    wpAny (model prog w) A (call (.builtin "str.split") [.str x tx, .str y ty]) Q E ⟨h, g, d, t, os⟩ := by
  obtain ⟨nw, N, hall⟩ := allNews h L
  exact splitN1 (s := ⟨h, g, d, t, os⟩) V.fr N hy (fun l h' k hl F' N' => z _ l h' k hl (V.via1 hall (get_size_none h) F' N')) hz
end
section
variable {prog : Program} {w : World} {mg mb : Str → Option Value} {A : Around} {E : Value → Shared → Prop}
variable {h : Heap} {g : Array GenState} {d : Drawn} {t : Nat} {os : OsState}
variable {B : Heap} {L a : Addr} {m : Str → Option Value} {news : List (Addr × Obj)} {env : Env}
variable {Q : Value → Shared → Prop} {vs : List Value} {l : Addr} {n : Nat} {u : Tok} {value slice : Expr}
theorem z_knw {P : Prop} (V : Led B L m h news) (D : Gd w mg mb B) (x : P) : (KF w).In (Shared.heap ⟨h, g, d, t, os⟩) ∧ P := ⟨(D.keeps V.keep).X, x⟩
theorem z_cwf {pos : Pos} {f : Value} {e : Expr} {rest : List Expr} (D : Gd w mg mb B) (hk : keepIn (KF w) f = true)
    (x : wpAny (model prog w) A (spliced (backTo pos (starEach (e :: rest) env))) (fun vs s₁ => (KF w).In s₁.heap ∧ wpAny (model prog w) A (call f vs) Q E s₁) E ⟨h, g, d, t, os⟩)
    (he : starEach (e :: rest) env = (false, eval e env) :: starEach rest env) (hp : ((backTo pos (starEach rest env)).any fun x => x.fst) = false) :
    wpAny (model prog w) A (callWith pos f [] (backTo pos (starEach (e :: rest) env)) []) Q E ⟨h, g, d, t, os⟩ :=
  callWith_K D.X hk x he hp
theorem z_lfrom {k : Int} (V : Led B L m h news) (ho : h.get? l = some (lst vs n)) (h0 : 0 ≤ k) (hz : vs.length ≤ 16777216)
    (z : ∀ a h', Led B L m h' ((a, lst (vs.drop k.toNat) 0) :: news) → Q (.ref a) ⟨h', g, d, t, os⟩)
    (hs : subscripted slice false (.ref l) (.ref h.objs.size) = operate [.ref h.objs.size, .ref l] (getItem (.ref l) (.ref h.objs.size))) :
    wpAny (model prog w) A (subscriptTail value slice (.ref l) (.ref h.objs.size)) Q E ⟨h.push { cls := .type "slice", data := .fields #[.int k u, .none, .none] }, g, d, t, os⟩ := by
  obtain ⟨c, rfl⟩ := Int.eq_ofNat_of_zero_le h0
  refine z_lslice V ho (.int _ u) .none hz ?_ hs
  rw [slicePick_from']
  simpa using z
theorem z_lupto {k : Int} (V : Led B L m h news) (ho : h.get? l = some (lst vs n)) (h0 : 0 ≤ k) (hz : vs.length ≤ 16777216)
    (z : ∀ a h', Led B L m h' ((a, lst (vs.take k.toNat) 0) :: news) → Q (.ref a) ⟨h', g, d, t, os⟩)
    (hs : subscripted slice false (.ref l) (.ref h.objs.size) = operate [.ref h.objs.size, .ref l] (getItem (.ref l) (.ref h.objs.size))) :
    wpAny (model prog w) A (subscriptTail value slice (.ref l) (.ref h.objs.size)) Q E ⟨h.push { cls := .type "slice", data := .fields #[.none, .int k u, .none] }, g, d, t, os⟩ := by
  obtain ⟨c, rfl⟩ := Int.eq_ofNat_of_zero_le h0
  refine z_lslice V ho .none (.int _ u) hz ?_ hs
  rw [slicePick_upto']
  simpa using z
theorem z_eqL2 {l₁ l₂ : Addr} {n₁ n₂ : Nat} {x y : Str} {t1 t2 u1 u2 : Tok} (h1 : h.get? l₁ = some (lst [.str x t1, .str y t2] n₁)) (h2 : h.get? l₂ = some (lst [.str x u1, .str y u2] n₂)) (hu : A.units < cLine)
    (z : Q (.bool true) ⟨h, g, d, t, os⟩) : wpAny (model prog w) A (compareOp .Eq (.ref l₁) (.ref l₂)) Q E ⟨h, g, d, t, os⟩ := by
  refine SeqAt.eq_listAt (e := fun _ => true) (isList_of h1) (isList_of h2) rfl hu (fun j hj1 hj2 => ?_) (by exact z)
  match j, hj1 with
  | 0, _ => have := SeqAt.EqAt.str_str (A := A.in1) (s := ⟨h, g, d, t, os⟩) x t1 x u1; simpa using this
  | 1, _ => have := SeqAt.EqAt.str_str (A := A.in1) (s := ⟨h, g, d, t, os⟩) y t2 y u2; simpa using this
  | j + 2, hj => exact absurd hj (by simp)
theorem z_unpack2 {x y : Str} {px py pos : Pos} {k1 : Nat} {v1 v2 : Value} {a : Addr} {Q : Unit → Shared → Prop} (hh : A.handled = none) (V : Led B L m h news) (ho : h.get? a = some (tup [v1, v2]))
    (z : ∀ h', Led B L m h' news → wpAny (model prog w) A (assign (.Name x px) env v1) (fun _ s₁ => wpAny (model prog w) A (assign (.Name y py) env v2) Q E s₁) E ⟨h', g, d, t, os⟩) :
    wpAny (model prog w) A (assign (.Tuple [.Name x px, .Name y py] k1 pos) env (.ref a)) Q E ⟨h, g, d, t, os⟩ := by
  have e : assignEach [.Name x px, .Name y py] env = [(false, assign (.Name x px) env), (false, assign (.Name y py) env)] := by with_unfolding_all rfl
  refine wpAny_assign_Tuple (items := #[v1, v2]) hh ⟨_, ho, rfl, 0, rfl⟩ (by rw [e]; rfl) (by rw [e]; rfl) fun h' hs => ?_
  rw [e]
  have V' : Led B L m h' news := V.grow fun b o q => hs b o (Nat.ne_of_lt (Heap.lt_size q)) q
  exact wpAny_assignInOrder_more (wpAny_mono (z h' V') (fun _ _ x => wpAny_assignInOrder_more (wpAny_mono x (fun _ _ y => wpAny_assignInOrder_none y) fun _ _ e => e)) fun _ _ e => e)
theorem foldl_reps (v : Value) : ∀ (n : Nat) (acc : Array Value), (List.replicate n #[v]).foldl (fun x1 x2 => x1 ++ x2) acc = acc ++ (List.replicate n v).toArray
  | 0, acc => by simp
  | n + 1, acc => by
    rw [List.replicate_succ, List.foldl_cons, foldl_reps v n, List.replicate_succ]
    apply Array.ext'
    simp only [Array.toList_append, List.append_assoc, List.cons_append, List.nil_append]
theorem z_rep {l : Addr} {v : Value} {k : Nat} {n : Nat} {u : Tok} (V : Led B L m h news) (ho : h.get? l = some (lst [v] k)) (hn : n ≤ 1000000)
    (z : ∀ a h', Led B L m h' ((a, lst (List.replicate n v) 0) :: news) → Q (.ref a) ⟨h', g, d, t, os⟩) :
    wpAny (model prog w) A (binaryOp .Mult (.ref l) (.int n u)) Q E ⟨h, g, d, t, os⟩ := by
  obtain ⟨nw, N, hall⟩ := allNews h L
  refine mul_list (s := ⟨h, g, d, t, os⟩) (items := #[v]) V.fr N ho (by omega) (by omega) ?_ fun h' F' N' => ?_
  · show 1 * (n : Int).toNat ≤ 2 ^ 24
    rw [Int.toNat_natCast]; omega
  · refine z _ h' (V.via1 hall (get_size_none h) F' ?_)
    have e : (List.replicate (if (#[v] : Array Value).isEmpty = true then 0 else (n : Int).toNat) #[v]).foldl (fun x1 x2 => x1 ++ x2) #[] = (List.replicate n v).toArray := by
      rw [show (#[v] : Array Value).isEmpty = false from rfl, if_neg Bool.false_ne_true, Int.toNat_natCast, foldl_reps]
      simp
    rw [e] at N'
    exact N'
theorem z_cat {l₁ l₂ : Addr} {vs us : List Value} {n₁ n₂ : Nat} (V : Led B L m h news) (h1 : h.get? l₁ = some (lst vs n₁)) (h2 : h.get? l₂ = some (lst us n₂)) (hz : vs.length + us.length ≤ 16777216)
    (z : ∀ a h', Led B L m h' ((a, lst (vs ++ us) 0) :: news) → Q (.ref a) ⟨h', g, d, t, os⟩) :
    wpAny (model prog w) A (binaryOp .Add (.ref l₁) (.ref l₂)) Q E ⟨h, g, d, t, os⟩ := by
  obtain ⟨nw, N, hall⟩ := allNews h L
  refine add_arrays (s := ⟨h, g, d, t, os⟩) V.fr N (isList_of h1) (isList_of h2) (fun h' F' N' => ?_) (by rw [List.size_toArray, List.size_toArray]; exact hz)
  exact z _ h' (V.via1 hall (get_size_none h) F' N')
theorem z_neg {i : Int} {ti : Tok} (x : Q (.int (-i) t) ⟨h, g, d, t.succ, os⟩) : wpAny (model prog w) A (unaryOp .USub (.int i ti)) Q E ⟨h, g, d, t, os⟩ := PyProof.Rows.neg_int x
theorem z_sub {i j : Int} {ti tj : Tok} (x : Q (.int (i - j) t) ⟨h, g, d, t.succ, os⟩) : wpAny (model prog w) A (binaryOp .Sub (.int i ti) (.int j tj)) Q E ⟨h, g, d, t, os⟩ := PyProof.Rows.sub_int x
theorem z_lmid {v0 vl : Value} {vm : List Value} {u' : Tok} (V : Led B L m h news) (ho : h.get? l = some (lst vs n)) (hv : vs = v0 :: (vm ++ [vl])) (hz : vs.length ≤ 16777216)
    (z : ∀ a h', Led B L m h' ((a, lst vm 0) :: news) → Q (.ref a) ⟨h', g, d, t, os⟩)
    (hs : subscripted slice false (.ref l) (.ref h.objs.size) = operate [.ref h.objs.size, .ref l] (getItem (.ref l) (.ref h.objs.size))) :
    wpAny (model prog w) A (subscriptTail value slice (.ref l) (.ref h.objs.size)) Q E ⟨h.push { cls := .type "slice", data := .fields #[.int 1 u, .int (-1) u', .none] }, g, d, t, os⟩ := by
  refine z_lslice V ho (.int _ u) (.int _ u') hz ?_ hs
  have e : (slicePick vs.toArray (some 1) (some (-1)) none).toList = vm := by
    subst hv
    rw [slicePick_plain]
    have h1 : clipAt ((v0 :: (vm ++ [vl])).toArray.size) 1 = 1 := by
      rw [show (1 : Int) = ((1 : Nat) : Int) from rfl, clipAt_nat]; simp
    have h2 : clipAt ((v0 :: (vm ++ [vl])).toArray.size) (-1) = vm.length + 1 := by
      rw [show (-1 : Int) = -((1 : Nat) : Int) from rfl, clipAt_neg _ _ (Nat.le_refl _)]; simp
    simp only [Option.elim, h1, h2]
    simp
  rw [e]
  exact z
end
/-! f-strings of texts -/
section
variable {M : Model} {A : Around} {E : Value → Shared → Prop} {s : Shared} {env : Env} {Q : Value → Shared → Prop} {h : Heap} {g : Array GenState} {d : Drawn} {t : Nat} {os : OsState}
def JP (M : Model) (A : Around) (E : Value → Shared → Prop) (out : List Nat) (rest : List Expr) (env : Env) (Q : Value → Shared → Prop) : Value → Shared → Prop :=
  fun v s => ∃ y t, v = .str (mkS y) t ∧ out.length + y.length ≤ 16777216 ∧ wpAny M A (joinParts (mkS (out ++ y)) (evalEach rest env)) Q E s
theorem s_jp {out y : List Nat} {rest : List Expr} {u : Tok} (hz : out.length + y.length ≤ 16777216) (x : wpAny M A (joinParts (mkS (out ++ y)) (evalEach rest env)) Q E s) : JP M A E out rest env Q (.str (mkS y) u) s :=
  ⟨y, u, rfl, hz, x⟩
theorem s_jcons {out : List Nat} {e : Expr} {rest : List Expr} (x : wpAny M A (eval e env) (JP M A E out rest env Q) E s) : wpAny M A (joinParts (mkS out) (evalEach (e :: rest) env)) Q E s := by
  show wpAny M A (joinParts (mkS out) (eval e env :: evalEach rest env)) Q E s
  refine PyProof.Rows.joinParts_cons (wpAny_mono x (fun v s₁ h₁ => ?_) fun _ _ e => e)
  obtain ⟨y, u, rfl, hz, hr⟩ := h₁
  show (mkS out ++ mkS y).length ≤ sizeLine ∧ wpAny M A (joinParts (mkS out ++ mkS y) (evalEach rest env)) Q E s₁
  rw [mkS_app, mkS_len]
  exact ⟨by simp only [List.length_append, sizeLine]; omega, hr⟩
theorem s_jnil {out : List Nat} (hz : out.length ≤ 16777216) (x : ∀ t' k, Q (.str (mkS out) t') ⟨h, g, d, k, os⟩) : wpAny M A (joinParts (mkS out) (evalEach [] env)) Q E ⟨h, g, d, t, os⟩ := by
  show wpAny M A (joinParts (mkS out) []) Q E _
  exact PyProof.Rows.joinParts_nil (x _ _) (by rw [mkS_len]; simp only [sizeLine]; omega)
theorem s_joined {v₁ v₂ : Expr} {rest : List Expr} {pos : Pos} (x : wpAny M A (joinParts (mkS []) (evalEach (v₁ :: v₂ :: rest) env)) Q E s) : wpAny M A (eval (.JoinedStr (v₁ :: v₂ :: rest) pos) env) Q E s := x
theorem s_ff {y : List Nat} {u : Tok} (hz : y.length ≤ 16777216) (x : ∀ t' k, Q (.str (mkS y) t') ⟨h, g, d, k, os⟩) : wpAny M A (formatField (.str (mkS y) u) Str.empty) Q E ⟨h, g, d, t, os⟩ :=
  PyProof.Rows.formatField_str (fun t' k => x t' k) (by rw [mkS_len]; simp only [sizeLine]; omega)
end
/-! a replacement where nothing is found; a text among two -/
section
variable {prog : Program} {w : World} {A : Around} {E : Value → Shared → Prop} {s : Shared} {Q : Value → Shared → Prop}
def noOcc (x : List Nat) (y : List Nat) : Bool := (Builtin.Str.occurrences (mkS x) (mkS y) 0 (mkS x).length ((mkS x).length + 1)).isEmpty
theorem s_replace {x y z : List Nat} {t u v : Tok} (hn : noOcc x y = true) (hq : Q (.str (mkS x) t) s) : wpAny (model prog w) A (call (.builtin "str.replace") [.str (mkS x) t, .str (mkS y) u, .str (mkS z) v]) Q E s := by
  have hc : ((Builtin.Str.occurrences (mkS x) (mkS y) 0 (mkS x).length ((mkS x).length + 1)).isEmpty || ((mkS y).length == 0 && (mkS z).length == 0)) = true := by
    rw [show (Builtin.Str.occurrences (mkS x) (mkS y) 0 (mkS x).length ((mkS x).length + 1)).isEmpty = true from hn]; rfl
  refine call_gives F.slot_str_replace (typeIs_str _ _ _) F.entry_str_replace (F.args_str_replace_3 _ _ _) (gives_str_replace (mkS x) (mkS y) (mkS z) t u v fun e => by rw [hc] at e; cases e) ?_
  rw [if_pos hc]
  exact hq
end
theorem z_attrName {M : Model} {A : Around} {E : Value → Shared → Prop} {s : Shared} {env : Env} {x attr : Str} {px pos : Pos} {Q : Value → Shared → Prop}
    (h : wpAny M A (eval (.Name x px) env) (fun o s₁ => wpAny M A (getAttr o attr true) Q E s₁) E s) : wpAny M A (eval (.Attribute (.Name x px) attr pos) env) Q E s := by
  rw [arm_eval_Attribute]
  refine wpAny_bind (wpAny_mono (show wpAny M A (attributeBase (.Name x px) attr env (eval (.Name x px) env)) _ E s from h) (fun o s₁ h₁ => ?_) fun _ _ x => x)
  refine wpAny_bind (wpAny_standAt ?_)
  refine wpAny_bind (wpAny_holding (wpAny_mono h₁ (fun r s₂ h₂ => ?_) fun _ _ x => x))
  exact wpAny_bind (wpAny_pure (wpAny_pure h₂))
section
variable {prog : Program} {w : World} {A : Around} {E : Value → Shared → Prop} {h : Heap} {g : Array GenState} {d : Drawn} {t : Nat} {os : OsState} {B : Heap} {L : Addr} {m : Str → Option Value} {news : List (Addr × Obj)} {env : Env}
theorem z_swap2 {x y : Str} {a : Addr} {v1 v2 : Value} {Q : Unit → Shared → Prop} (hh : A.handled = none) (V : Led B L m h news) (ho : h.get? a = some (tup [v1, v2]))
    (z : ∀ h', Led B L m h' news → wpAny (model prog w) A (storeName env y v2) (fun _ s₁ => wpAny (model prog w) A (storeName env x v1) Q E s₁) E ⟨h', g, d, t, os⟩) :
    wpAny (model prog w) A (unpackItems (.ref a) ([x, y] : List Str).length none) (fun items s₂ => wpAny (model prog w) A (assignInOrder (([x, y] : List Str).reverse.map fun n => bindName env n) items.reverse) Q E s₂) E ⟨h, g, d, t, os⟩ := by
  refine PyProof.Rows.unpackItems_tuple (items := #[v1, v2]) hh (isTup_of ho) fun h' hs => ?_
  have V' : Led B L m h' news := V.grow fun b o q => hs b o (Nat.ne_of_lt (Heap.lt_size q)) q
  show wpAny _ _ (assignInOrder [bindName env y, bindName env x] [v2, v1]) _ _ _
  refine wpAny_assignInOrder_more (wpAny_bindName (wpAny_mono (z h' V') (fun _ _ q => ?_) fun _ _ e => e))
  exact wpAny_assignInOrder_more (wpAny_bindName (wpAny_mono q (fun _ _ r => wpAny_assignInOrder_none r) fun _ _ e => e))
end
local macro_rules | `(tactic| walk_at "lit") => `(tactic| first
  | exact lit_q | exact lit_ | exact lit_qq | exact lit_257 | exact lit_257q | exact lit_sq | exact lit_star | exact lit_qm | exact lit_lb | exact lit_rb | exact lit_ex | exact lit_dash
  | exact lit_bs | exact lit_bsbs | exact lit_dot | exact lit_caret | exact lit_stop | exact lit_grp | exact lit_ds | exact lit_open | exact lit_close | exact lit_rp | exact lit_lbex | exact lit_spec
  | exact lit_a | exact lit_b | exact lit_ab | exact lit_aq | exact lit_qa | exact lit_not | exact lit_bslb)
local macro_rules | `(tactic| walk_at "nm") => `(tactic| first | rfl | assumption)
local macro_rules | `(tactic| walk_at "fits") => `(tactic| first | assumption | omega | (simp only [List.length_append, List.length_cons, List.length_nil, List.length_take, List.length_drop]; omega))
local macro_rules | `(tactic| walk_at "gl") => `(tactic| first | with_reducible exact g43 _ | with_reducible exact g45 _ | with_reducible exact g55 _ | with_reducible exact g62 _ | with_reducible exact g69 _ | with_reducible exact g101 _ | with_reducible exact g108 _ | with_reducible exact g115 _ | with_reducible exact g122 _ | with_reducible exact g129 _ | with_reducible exact g136 _ | with_reducible exact g143 _ | with_reducible exact g150 _ | with_reducible exact g157 _ | with_reducible exact g164 _ | with_reducible exact g171 _ | with_reducible exact g178 _ | with_reducible exact g36 _)
local macro_rules | `(tactic| walk_at "ho") => `(tactic| first | exact Led.at (by with_reducible assumption) 0 rfl | exact Led.at (by with_reducible assumption) 1 rfl | exact Led.at (by with_reducible assumption) 2 rfl | exact Led.at (by with_reducible assumption) 3 rfl | exact Led.at (by with_reducible assumption) 4 rfl | exact Led.at (by with_reducible assumption) 5 rfl | exact Led.keep (by with_reducible assumption) _ _ (by with_reducible assumption) | exact Led.mem0 (by with_reducible assumption) (by with_reducible assumption) | exact Led.mem1 (by with_reducible assumption) (by with_reducible assumption) | exact Led.mem2 (by with_reducible assumption) (by with_reducible assumption))
local macro_rules | `(tactic| walk_at "zz") => `(tactic| first
  | with_reducible refine z_cons ?_
  | with_reducible refine z_next ?_
  | with_reducible refine z_nil ?_
  | with_reducible refine wpAny_Return_some ?_
  | with_reducible refine z_pret ?_
  | with_reducible refine z_pbrk ?_
  | with_reducible refine wpAny_Break ?_
  | with_reducible refine z_itet ?_
  | with_reducible refine z_itef ?_
  | with_reducible refine z_itnt ?_
  | with_reducible refine z_itnf ?_
  | with_reducible refine z_retp ?_
  | with_reducible refine l_brk ?_
  | with_reducible refine l_ret ?_
  | with_reducible refine f_brk ?_
  | with_reducible refine f_ret ?_
  | with_reducible refine wpAny_If ?_
  | ((with_reducible refine wpAny_Assign_Name ?_ ?hsw); (case hsw => rfl))
  | ((with_reducible refine PyProof.Rows.Assign_Tuple ?_ ?hs1 ?hs2); (case hs1 => rfl); (case hs2 => rfl))
  | with_reducible refine wpAny_AugAssign_Name ?_
  | with_reducible refine wpAny_assign_Name ?_
  | ((with_reducible refine wpAny_Expr_any ?_ ?hi ?hsw); (case hi => rfl); (case hsw => rfl))
  | ((with_reducible refine wpAny_isTrue_Compare1 ?_ ?hm); (case hm => with_unfolding_all rfl))
  | ((with_reducible refine wpAny_Compare1 ?_ ?hm); (case hm => with_unfolding_all rfl))
  | with_reducible refine PyProof.Rows.isTrue_not ?_
  | with_reducible refine PyProof.Rows.isTrue_and_nil ?_
  | with_reducible refine PyProof.Rows.isTrue_or_nil ?_
  | with_reducible refine PyProof.Rows.isTrue_and ?_
  | with_reducible refine PyProof.Rows.isTrue_or ?_
  | with_reducible refine wpAny_BinOp ?_
  | with_reducible refine PyProof.Rows.Subscript_ ?_
  | with_reducible refine PyProof.Rows.IfExp_ ?_
  | with_reducible refine z_Slice ?_
  | with_reducible refine z_slp ?_
  | with_reducible refine wpAny_evalPart_none ?_
  | with_reducible refine wpAny_evalPart_some ?_
  | with_reducible refine PyProof.Rows.Tuple_ ?_
  | with_reducible refine PyProof.Rows.List_ ?_
  | ((with_reducible refine' PyProof.Rows.MethodCall_ ?_ ?hr); (case hr => rfl))
  | ((with_reducible refine PyProof.Rows.Call_ ?_ ?hr); (case hr => rfl))
  | with_reducible refine z_int ?_
  | ((with_reducible refine' s_str ?hy ?_); (case hy => walk_at "lit"))
  | with_reducible refine z_none ?_
  | with_reducible refine z_bool ?_
  | ((with_reducible refine' z_ld ?V ?hv ?_ ?hk ?hl ?hd); (case V => with_reducible assumption); (case hk => rfl); (case hl => rfl); (case hd => decide); (case hv => walk_at "nm"))
  | ((with_reducible refine' z_ldn ?V ?hv ?_ ?hk ?hl); (case V => with_reducible assumption); (case hk => rfl); (case hl => rfl); (case hv => walk_at "nm"))
  | ((with_reducible refine' z_st ?V ?_ ?hk ?hl); (case V => with_reducible assumption); (case hk => rfl); (case hl => rfl); intro _ _ _)
  | ((with_reducible refine' z_glob ?V ?D ?e ?_ ?hk ?hl ?hd); (case V => with_reducible assumption); (case D => with_reducible assumption); (case hk => rfl); (case hl => rfl); (case hd => decide); (case e => walk_at "gl"))
  | ((with_reducible refine' z_builtin ?V ?D ?e ?hv ?hn ?_ ?hk ?hl ?hd); (case V => with_reducible assumption); (case D => with_reducible assumption); (case hk => rfl); (case hl => rfl); (case hd => decide); (case e => rfl); (case hv => boot_by_name); (case hn => decide))
  | ((with_reducible refine PyProof.Rows.callWith_builtin1 ?_ ?he ?hp); (case he => rfl); (case hp => rfl))
  | ((with_reducible refine PyProof.Rows.callWith_method1 ?_ ?he ?hp); (case he => rfl); (case hp => rfl))
  | ((with_reducible refine Pv.callWith_type1 ?_ ?he ?hp); (case he => rfl); (case hp => rfl))
  | ((with_reducible refine PyProof.Rows.spliced_more ?_ ?he); (case he => rfl))
  | with_reducible refine PyProof.Rows.spliced_none ?_
  | ((with_reducible refine z_mod ?hj ?_); (case hj => decide))
  | ((with_reducible refine z_div ?hj ?hs ?_); (case hj => decide); (case hs => decide))
  | with_reducible refine z_add ?_
  | with_reducible refine z_iadd ?_
  | with_reducible refine z_sub ?_
  | with_reducible refine PyProof.Rows.lt_int ?_
  | with_reducible refine PyProof.Rows.le_int ?_
  | with_reducible refine PyProof.Rows.gt_int ?_
  | with_reducible refine PyProof.Rows.ge_int ?_
  | with_reducible refine PyProof.Rows.eq_int ?_
  | with_reducible refine PyProof.Rows.ne_int ?_
  | with_reducible refine s_eq ?_
  | with_reducible refine s_ne ?_
  | with_reducible refine s_in ?_
  | with_reducible refine s_notIn ?_
  | ((with_reducible refine' s_add ?hz ?_); (case hz => walk_at "fits"); intro _ _)
  | ((with_reducible refine' s_iadd ?hz ?_); (case hz => walk_at "fits"); intro _ _)
  | ((with_reducible refine' s_len ?hz ?_); (case hz => walk_at "fits"); intro _ _)
  | ((with_reducible refine' s_truthy ?hz ?_); (case hz => walk_at "fits"); intro _)
  | ((with_reducible refine' s_slice_ns ?V ?hz ?_ ?hj ?hs ?ht); (case V => with_reducible assumption); (case hz => walk_at "fits"); (case hj => first | decide | omega); (case hs => with_unfolding_all rfl); (case ht => intro _; with_unfolding_all rfl); intro _ _ _ _)
  | ((with_reducible refine' s_slice_sn ?V ?hz ?_ ?hi ?hs ?ht); (case V => with_reducible assumption); (case hz => walk_at "fits"); (case hi => first | decide | omega); (case hs => with_unfolding_all rfl); (case ht => intro _; with_unfolding_all rfl); intro _ _ _ _)
  | ((with_reducible refine' s_slice_ss ?V ?hz ?_ ?hi ?hj ?hs ?ht); (case V => with_reducible assumption); (case hz => walk_at "fits"); (case hi => first | decide | omega); (case hj => first | decide | omega); (case hs => with_unfolding_all rfl); (case ht => intro _; with_unfolding_all rfl); intro _ _ _ _)
  | ((with_reducible refine' s_item ?h0 ?hc ?hz ?_ ?hs ?ht); (case h0 => omega); (case hc => assumption); (case hz => walk_at "fits"); (case hs => with_unfolding_all rfl); (case ht => intro _; with_unfolding_all rfl))
  | ((with_reducible refine' z_cwf ?D ?hk ?_ ?he ?hp); (case D => with_reducible assumption); (case hk => rfl); (case he => rfl); (case hp => rfl))
  | ((with_reducible refine' z_knw ?V ?D ?_); (case V => with_reducible assumption); (case D => with_reducible assumption))
  | ((with_reducible refine' z_newList ?V ?hz ?_); (case V => with_reducible assumption); (case hz => walk_at "fits"); intro _ _ _)
  | ((with_reducible refine' z_newTuple ?V ?hz ?_); (case V => with_reducible assumption); (case hz => walk_at "fits"); intro _ _ _)
  | ((with_reducible show wpAny _ _ (call (Value.builtin "list.append") _) _ _ _); first
    | (refine' z_append 0 ?V ?hi ?hz ?_; (case V => with_reducible assumption); (case hi => rfl); (case hz => walk_at "fits"); intro _ zV; (try dsimp only [List.set_cons_zero, List.set_cons_succ] at zV))
    | (refine' z_append 1 ?V ?hi ?hz ?_; (case V => with_reducible assumption); (case hi => rfl); (case hz => walk_at "fits"); intro _ zV; (try dsimp only [List.set_cons_zero, List.set_cons_succ] at zV))
    | (refine' z_append 2 ?V ?hi ?hz ?_; (case V => with_reducible assumption); (case hi => rfl); (case hz => walk_at "fits"); intro _ zV; (try dsimp only [List.set_cons_zero, List.set_cons_succ] at zV)))
  | ((with_reducible refine' z_getAppend ?ho ?_); (case ho => walk_at "ho"))
  | ((with_reducible refine' z_litem ?ho ?h0 ?h1 ?hx ?_ ?hs); (case ho => walk_at "ho"); (case h0 => first | decide | omega); (case h1 => first | decide | omega); (case hx => first | rfl | assumption); (case hs => with_unfolding_all rfl))
  | ((with_reducible refine' z_titem ?ho ?h0 ?h1 ?h2 ?hx ?_ ?hs); (case ho => walk_at "ho"); (case h0 => first | decide | omega); (case h1 => first | (simp only [List.length_cons, List.length_nil]; decide) | omega | (simp only [List.length_cons, List.length_nil]; omega)); (case h2 => first | decide | omega); (case hx => first | rfl | assumption); (case hs => with_unfolding_all rfl))
  | ((with_reducible refine' z_lfrom ?V ?ho ?h0 ?hz ?_ ?hs); (case V => with_reducible assumption); (case ho => walk_at "ho"); (case h0 => first | decide | omega); (case hz => walk_at "fits"); (case hs => with_unfolding_all rfl); intro _ _ _)
  | ((with_reducible refine' z_lupto ?V ?ho ?h0 ?hz ?_ ?hs); (case V => with_reducible assumption); (case ho => walk_at "ho"); (case h0 => first | decide | omega); (case hz => walk_at "fits"); (case hs => with_unfolding_all rfl); intro _ _ _)
  | ((with_reducible refine' wpAny_is_self ?hp ?_); (case hp => rfl))
  | ((with_reducible refine' wpAny_isNot_self ?hp ?_); (case hp => rfl))
  | ((with_reducible refine' wpAny_is_other ?hp ?hn ?_); (case hp => rfl); (case hn => intro q; cases q))
  | ((with_reducible refine' wpAny_isNot_other ?hp ?hn ?_); (case hp => rfl); (case hn => intro q; cases q))
  | ((with_reducible refine PyProof.Rows.isTrue_plain ?_ ?hr); (case hr => rfl))
  | with_reducible refine PyProof.Rows.eq_bool ?_
  | ((with_reducible refine' z_unpack2 ?hh ?V ?ho ?_); (case V => with_reducible assumption); (case hh => exact Ok.hd (by with_reducible assumption)); (case ho => walk_at "ho"); intro _ _)
  | ((with_reducible refine' z_lenL ?ho ?hz ?_); (case ho => walk_at "ho"); (case hz => walk_at "fits"); intro _ _)
  | ((with_reducible refine' z_truthyL ?ho ?hz ?_); (case ho => walk_at "ho"); (case hz => walk_at "fits"); intro _)
  | with_reducible refine PyProof.Rows.UnaryOp_ ?_
  | with_reducible refine z_neg ?_
  | ((with_reducible refine' z_litemN ?ho ?h0 ?h1 ?h2 ?hx ?_ ?hs); (case ho => walk_at "ho"); (case h0 => first | decide | omega); (case h1 => omega); (case h2 => first | decide | omega); (case hx => first | assumption | rfl); (case hs => with_unfolding_all rfl))
  | with_reducible refine PyProof.Rows.BoolOp_and ?_
  | with_reducible refine PyProof.Rows.BoolOp_or ?_
  | with_reducible refine PyProof.Rows.BoolOp_one ?_
  | ((with_reducible refine' z_range ?V ?_); (case V => with_reducible assumption); intro _ _ _ _ _ _ _)
  | with_reducible refine PyProof.Rows.ne_bool ?_
  | with_reducible refine GM.join ?_
  | with_reducible refine GM.split ?_
  | with_reducible refine GM.replace ?_
  | with_reducible refine wpAny_truthy_bool ?_
  | with_reducible refine s_joined ?_
  | with_reducible refine s_jcons ?_
  | ((with_reducible refine' s_jp ?hz ?_); (case hz => walk_at "fits"))
  | ((with_reducible refine' s_jnil ?hz ?_); (case hz => walk_at "fits"); intro _ _)
  | with_reducible refine PyProof.Rows.FormattedValue_plain ?_
  | ((with_reducible refine' s_ff ?hz ?_); (case hz => walk_at "fits"); intro _ _))
/-- the plain sign -/
def tempt : List Nat := [92, 93, 33, 45, 94, 38, 126, 124, 46, 40, 41, 123, 125, 43, 36, 35, 42, 63, 91, 32]
theorem lit_tempt : Str.ofString "\\]!-^&~|.(){}+$#*?[ " = mkS tempt := by decide
def signN (left : Int) : Nat :=
  if left.fmod 24 < 20 then tempt.getD (left.fmod 24).toNat 0
  else (if (left.fdiv 24).fmod 1112064 < 55296 then (left.fdiv 24).fmod 1112064 else (left.fdiv 24).fmod 1112064 + 2048).toNat
local macro_rules | `(tactic| walk_at "lit") => `(tactic| exact lit_tempt)
section
variable {prog : Program} {w : World} {mg mb : Str → Option Value} {A : Around} {E : Value → Shared → Prop} {h : Heap} {g : Array GenState} {d : Drawn} {tk : Nat} {os : OsState}
set_option pp.proofs false
theorem c_sign {i : Int} {t : Tok} {Q : Value → Shared → Prop} (O : Ok A 10 100) (D : Gd w mg mb h)
    (hQ : ∀ h' k t', h.StaysIn h' → Q (.str (mkS [signN i]) t') ⟨h', g, d, k, os⟩) :
    wpAny (model prog w) A (call (.ref 136) [.int i t]) Q E ⟨h, g, d, tk, os⟩ := by
  refine enter [("left", .int i t)] (O.le : Ok A (9+1) (97+3)) D rfl rfl rfl rfl rfl rfl rfl rfl ?_
  intro L h₁ tk₁ A' V O'
  have hb := fmod_lo i (n := 24) (by decide)
  have hb2 := fmod_hi i (n := 24) (by decide)
  repeat walk_at "zz"
  refine z_ite (fun hc => ?_) (fun hc => ?_)
  · have hc' : i.fmod 24 < 20 := of_decide_eq_true hc
    have hx : tempt[(i.fmod 24).toNat]? = some (signN i) := by
      unfold signN
      rw [if_pos hc', List.getD_eq_getElem?_getD]
      have hl : (i.fmod 24).toNat < tempt.length := by show (i.fmod 24).toNat < 20; omega
      simp [List.getElem?_eq_getElem hl]
    have hl : tempt.length ≤ 16777216 := by decide
    repeat walk_at "zz"
    exact hQ _ _ _ (Led.keep (by assumption))
  · have hc' : ¬ i.fmod 24 < 20 := of_decide_eq_false hc
    have hb3 := fmod_lo (i.fdiv 24) (n := 1112064) (by decide)
    have hb4 := fmod_hi (i.fdiv 24) (n := 1112064) (by decide)
    repeat walk_at "zz"
    refine z_ite (fun hd => ?_) (fun hd => ?_)
    all_goals (
      first | (have hd' := of_decide_eq_true hd) | (have hd' := of_decide_eq_false hd)
      repeat walk_at "zz"
      refine z_chr (by omega) (by omega) ?_
      repeat walk_at "zz"
      unfold signN at hQ
      rw [if_neg hc'] at hQ
      first | rw [if_pos hd'] at hQ | rw [if_neg hd'] at hQ
      exact hQ _ _ _ (Led.keep (by with_reducible assumption)))
end
/-- quotes doubled -/
def dq : List Nat → List Nat
  | [] => []
  | c :: r => if c = 34 then 34 :: 34 :: dq r else c :: dq r
def replyL (x : List Nat) : List Nat := [50, 53, 55, 32, 34] ++ dq x ++ [34]
theorem dq_le : ∀ x : List Nat, (dq x).length ≤ 2 * x.length
  | [] => Nat.le_refl _
  | c :: r => by
    have := dq_le r
    unfold dq
    split <;> simp only [List.length_cons] <;> omega
theorem drop_cons_get {l : List Nat} {i : Nat} {c : Nat} {r : List Nat} (e : l.drop i = c :: r) : l[i]? = some c ∧ l.drop (i + 1) = r := by
  constructor
  · rw [← List.head?_drop, e]; rfl
  · rw [← List.drop_drop, e]; rfl
theorem len_of_drop {l r : List Nat} {i : Nat} {c : Nat} (e : l.drop i = c :: r) : i < l.length := by
  have := congrArg List.length e
  simp at this
  omega

section
variable {prog : Program} {w : World} {mg mb : Str → Option Value} {A : Around} {E : Value → Shared → Prop} {h : Heap} {g : Array GenState} {d : Drawn} {tk : Nat} {os : OsState}
set_option pp.proofs false
theorem c_parse {x : List Nat} {t : Tok} {Q : Value → Shared → Prop} (O : Ok A 10 100) (D : Gd w mg mb h) (hx : x.length ≤ 1000000)
    (hQ : ∀ h' k t', h.StaysIn h' → Q (.str (mkS x) t') ⟨h', g, d, k, os⟩) :
    wpAny (model prog w) A (call (.ref 101) [.str (mkS (replyL x)) t]) Q E ⟨h, g, d, tk, os⟩ := by
  refine enter [("resp", .str (mkS (replyL x)) t)] (O.le : Ok A (9+1) (97+3)) D rfl rfl rfl rfl rfl rfl rfl rfl ?_
  intro L h₁ tk₁ A' V O'
  have hl : (replyL x).length ≤ 2000010 := by have := dq_le x; simp [replyL]; omega
  have f3 : (replyL x).take 3 = [50, 53, 55] := rfl
  have f5 : ((replyL x).take 5).drop 3 = [32, 34] := rfl
  have fd : (replyL x).drop 5 = dq x ++ [34] := rfl
  generalize hr : replyL x = R at *
  repeat walk_at "zz"
  refine z_iteF (decide_eq_false fun hne => hne f3) ?_
  repeat walk_at "zz"
  refine z_iteF (decide_eq_false fun hne => hne f5) ?_
  repeat walk_at "zz"
  refine z_while (fun k s => ∃ done rest m hh tt ti td tn, ∃ (i : Nat), s = ⟨hh, g, d, tt, os⟩ ∧ Led h L m hh [] ∧ m "resp" = some (.str (mkS R) t) ∧ m "dirname" = some (.str (mkS done) td) ∧
    m "i" = some (.int i ti) ∧ m "n" = some (.int R.length tn) ∧ x = done ++ rest ∧ R.drop i = dq rest ++ [34] ∧ k = rest.length) x.length ?_ ?_
  · exact ⟨[], x, _, _, _, _, _, _, 5, rfl, by assumption, rfl, rfl, rfl, rfl, rfl, fd, rfl⟩
  · rintro k s ⟨done, rest, m, hh, tt, ti, td, tn, i, rfl, V, hr', hd, hi, hn, hx', hR, rfl⟩
    have hdl : x.length = done.length + rest.length := by rw [hx']; simp
    cases rest with
    | nil =>
      have hc : R[i]? = some 34 := (drop_cons_get hR).1
      have hlt := len_of_drop hR
      have he : R.length = i + 1 := by
        have := congrArg List.length hR
        simp [dq] at this
        omega
      repeat walk_at "zz"
      refine z_iteT (decide_eq_true (by omega)) ?_
      repeat walk_at "zz"
      refine z_iteT rfl ?_
      repeat walk_at "zz"
      refine z_iteT (decide_eq_true (by omega)) ?_
      repeat walk_at "zz"
      rw [show x = done from by simpa using hx'] at hQ
      exact hQ _ _ _ (Led.keep (by assumption))
    | cons c rest =>
      by_cases hq : c = 34
      · subst hq
        have hR1 : R.drop i = 34 :: 34 :: (dq rest ++ [34]) := hR
        have hc : R[i]? = some 34 := (drop_cons_get hR1).1
        have hc2 : R[i + 1]? = some 34 := (drop_cons_get (drop_cons_get hR1).2).1
        have hlt := len_of_drop (drop_cons_get hR1).2
        repeat walk_at "zz"
        refine z_iteT (decide_eq_true (by omega)) ?_
        repeat walk_at "zz"
        refine z_iteT rfl ?_
        repeat walk_at "zz"
        refine z_iteF (decide_eq_false (by omega)) ?_
        repeat walk_at "zz"
        refine z_iteF rfl ?_
        repeat walk_at "zz"
        refine l_next rest.length (Nat.lt_succ_self _) ?_
        exact ⟨done ++ [34], rest, _, _, _, _, _, _, i + 1 + 1, rfl, by assumption, by assumption, rfl, rfl, by assumption, by simp [hx'], (drop_cons_get (drop_cons_get hR1).2).2, rfl⟩
      · have hR1 : R.drop i = c :: (dq rest ++ [34]) := by rw [hR]; simp [dq, hq]
        have hc : R[i]? = some c := (drop_cons_get hR1).1
        have hlt := len_of_drop hR1
        repeat walk_at "zz"
        refine z_iteT (decide_eq_true (by omega)) ?_
        repeat walk_at "zz"
        refine z_iteF (decide_eq_false (by simpa using hq)) ?_
        repeat walk_at "zz"
        refine l_next rest.length (Nat.lt_succ_self _) ?_
        exact ⟨done ++ [c], rest, _, _, _, _, _, _, i + 1, rfl, by assumption, by assumption, rfl, rfl, by assumption, by simp [hx'], (drop_cons_get hR1).2, rfl⟩
theorem c_parse' {x R : List Nat} {t : Tok} {Q : Value → Shared → Prop} (e : R = replyL x) (O : Ok A 10 100) (D : Gd w mg mb h) (hx : x.length ≤ 1000000)
    (hQ : ∀ h' k t', h.StaysIn h' → Q (.str (mkS x) t') ⟨h', g, d, k, os⟩) :
    wpAny (model prog w) A (call (.ref 101) [.str (mkS R) t]) Q E ⟨h, g, d, tk, os⟩ := by
  subst e
  exact c_parse O D hx hQ
end
/-! the items of a pattern, as the law holds them -/
abbrev Item := Option (Bool × List Nat)
def ItemAt (h : Heap) (v : Value) : Item → Prop
  | none => v = .none
  | some (b, x) => ∃ a tk, v = .ref a ∧ h.get? a = some (tup [.bool b, .str (mkS x) tk])
def ItemsAt (h : Heap) : List Value → List Item → Prop
  | [], [] => True
  | v :: vs, i :: is => ItemAt h v i ∧ ItemsAt h vs is
  | _, _ => False
theorem ItemAt.keeps {h h' : Heap} {v : Value} (k : h.StaysIn h') : ∀ {i : Item}, ItemAt h v i → ItemAt h' v i
  | none, x => x
  | some (_, _), ⟨a, tk, e, o⟩ => ⟨a, tk, e, k _ _ o⟩
theorem ItemsAt.keeps {h h' : Heap} (k : h.StaysIn h') : ∀ {vs : List Value} {is : List Item}, ItemsAt h vs is → ItemsAt h' vs is
  | [], [], _ => trivial
  | _ :: _, _ :: _, ⟨x, r⟩ => ⟨x.keeps k, r.keeps k⟩
  | [], _ :: _, x => x.elim
  | _ :: _, [], x => x.elim
theorem ItemsAt.length {h : Heap} : ∀ {vs : List Value} {is : List Item}, ItemsAt h vs is → vs.length = is.length
  | [], [], _ => rfl
  | _ :: _, _ :: _, ⟨_, r⟩ => by simp [r.length]
  | [], _ :: _, x => x.elim
  | _ :: _, [], x => x.elim
theorem ItemsAt.get {h : Heap} : ∀ {vs : List Value} {is : List Item} {k : Nat} {v : Value}, ItemsAt h vs is → vs[k]? = some v → ∃ i, is[k]? = some i ∧ ItemAt h v i
  | _ :: _, i :: _, 0, _, ⟨x, _⟩, e => ⟨i, rfl, by cases e; exact x⟩
  | _ :: _, _ :: _, k + 1, _, ⟨_, r⟩, e => by
    obtain ⟨i, h1, h2⟩ := r.get (k := k) (by simpa using e)
    exact ⟨i, by simpa using h1, h2⟩
  | [], _, _, _, _, e => by simp at e
  | _ :: _, [], _, _, x, _ => x.elim
theorem ItemsAt.snoc {h : Heap} {v : Value} {i : Item} : ∀ {vs : List Value} {is : List Item}, ItemsAt h vs is → ItemAt h v i → ItemsAt h (vs ++ [v]) (is ++ [i])
  | [], [], _, y => ⟨y, trivial⟩
  | _ :: _, _ :: _, ⟨x, r⟩, y => ⟨x, r.snoc y⟩
  | [], _ :: _, x, _ => x.elim
  | _ :: _, [], x, _ => x.elim
theorem take_succ_get {α : Type} {l : List α} {k : Nat} {x : α} (e : l[k]? = some x) : l.take (k + 1) = l.take k ++ [x] := by
  rw [List.take_add_one, e]; rfl

def spec3 (x : List Nat) : Bool := decide (1 < x.length) || x == [42] || x == [63] || x == [91]
def wr : Item → List Nat
  | none => [42]
  | some (true, x) => [91, 33] ++ x ++ [93]
  | some (false, x) => if spec3 x then [91] ++ x ++ [93] else x
def writtenL (is : List Item) : List Nat := is.flatMap wr
theorem writtenL_snoc (is : List Item) (i : Item) : writtenL (is ++ [i]) = writtenL is ++ wr i := by simp [writtenL]
theorem writtenL_le {is : List Item} {k : Nat} {i : Item} (e : is[k]? = some i) : (writtenL (is.take k)).length + (wr i).length ≤ (writtenL is).length := by
  have h := take_succ_get e
  have h2 : writtenL is = writtenL (is.take (k + 1)) ++ writtenL (is.drop (k + 1)) := by
    rw [writtenL, writtenL, writtenL, ← List.flatMap_append, List.take_append_drop]
  rw [h2, h, writtenL_snoc]
  simp
section
variable {prog : Program} {w : World} {mg mb : Str → Option Value} {A : Around} {E : Value → Shared → Prop} {h : Heap} {g : Array GenState} {d : Drawn} {tk : Nat} {os : OsState}
theorem own_name {x : Str} {px : Pos} {it : Addr} {v : Value} {s : Shared} {Q' : Unit → Shared → Prop} (hq : Q' () s) : wpAny (model prog w) A (letOwnedTupleGo (.Name x px) (.ref it) v) Q' NoE s := wpAny_of_eq rfl hq
set_option pp.proofs false
theorem c_written {l : Addr} {vs : List Value} {n : Nat} {is : List Item} {Q : Value → Shared → Prop} (O : Ok A 10 100) (D : Gd w mg mb h) (ho : h.get? l = some (lst vs n)) (hi : ItemsAt h vs is)
    (hb : (writtenL is).length ≤ 10000) (hne : ∀ b x, some (b, x) ∈ is → x ≠ [])
    (hQ : ∀ h' k t', h.StaysIn h' → Q (.str (mkS (writtenL is)) t') ⟨h', g, d, k, os⟩) :
    wpAny (model prog w) A (call (.ref 150) [.ref l]) Q E ⟨h, g, d, tk, os⟩ := by
  refine enter [("items", .ref l)] (O.le : Ok A (9+1) (97+3)) D rfl rfl rfl rfl rfl rfl rfl rfl ?_
  intro L h₁ tk₁ A' V O'
  repeat walk_at "zz"
  refine wpAny_For ?_ (by intro _; rfl)
  repeat walk_at "zz"
  refine z_pyIterL (by assumption) (by walk_at "ho") fun it h' V1 => ?_
  refine z_forL O'.hd (fun i m news => news = [] ∧ m "items" = some (.ref l) ∧ ∃ t', m "pattern" = some (.str (mkS (writtenL (is.take i))) t')) V1 ⟨rfl, rfl, _, rfl⟩
    (fun i m news h' hJ V => V.keep _ _ ho) (fun _ _ _ _ _ _ hq => own_name hq) ?_ ?_
  · rintro i x m news h' t' o hx ⟨rfl, hm, tp, hp⟩ V
    obtain ⟨item, hit, hat⟩ := hi.get hx
    have hle := writtenL_le hit
    have hs := take_succ_get hit
    cases item with
    | none =>
      cases hat
      repeat walk_at "zz"
      exact f_next (by assumption) ⟨rfl, by assumption, _, by rw [hs, writtenL_snoc]; rfl⟩
    | some bx =>
      obtain ⟨b, y⟩ := bx
      obtain ⟨a, ty, rfl, hob⟩ := hat
      have hy := hne b y (List.mem_of_getElem? hit)
      cases b with
      | true =>
        have hle' : (writtenL (is.take i)).length + (([91, 33] ++ y) ++ [93]).length ≤ 10000 := Nat.le_trans hle hb
        simp only [List.length_append, List.length_cons, List.length_nil] at hle'
        repeat walk_at "zz"
        exact f_next (by assumption) ⟨rfl, by assumption, _, by rw [hs, writtenL_snoc]; rfl⟩
      | false =>
        by_cases h1 : 1 < y.length
        · have hw : wr (some (false, y)) = [91] ++ y ++ [93] := by simp [wr, spec3, h1]
          rw [hw] at hle
          simp only [List.length_append, List.length_cons, List.length_nil] at hle
          repeat walk_at "zz"
          refine z_iteT (decide_eq_true (by omega)) ?_
          repeat walk_at "zz"
          exact f_next (by assumption) ⟨rfl, by assumption, _, by rw [hs, writtenL_snoc, hw]; rfl⟩
        · obtain ⟨c, rfl⟩ : ∃ c, y = [c] := by
            match y, hy, h1 with
            | [c], _, _ => exact ⟨c, rfl⟩
            | [], h, _ => exact absurd rfl h
            | _ :: _ :: _, _, h => exact absurd (by simp) h
          have hle2 : (writtenL (is.take i)).length + 1 ≤ 10000 := by
            have : 1 ≤ (wr (some (false, [c]))).length := by simp only [wr]; split <;> simp
            omega
          repeat walk_at "zz"
          refine z_iteF (decide_eq_false (by simp)) ?_
          repeat walk_at "zz"
          cases hc : [42, 63, 91].contains c with
          | true =>
            have hw : wr (some (false, [c])) = [91] ++ [c] ++ [93] := by
              simp only [List.contains_cons, Bool.or_eq_true] at hc
              have : spec3 [c] = true := by
                simp [spec3] at hc ⊢
                omega
              simp only [wr, this, if_true]
            rw [hw] at hle
            simp only [List.length_append, List.length_cons, List.length_nil] at hle
            repeat walk_at "zz"
            exact f_next (by assumption) ⟨rfl, by assumption, _, by rw [hs, writtenL_snoc, hw]; rfl⟩
          | false =>
            have hw : wr (some (false, [c])) = [c] := by
              have : spec3 [c] = false := by
                simp [spec3] at hc ⊢
                omega
              simp only [wr, this, Bool.false_eq_true, if_false]
            repeat walk_at "zz"
            exact f_next (by assumption) ⟨rfl, by assumption, _, by rw [hs, writtenL_snoc, hw]; rfl⟩
  · rintro m news h' t' ⟨rfl, hm, tp, hp⟩ V
    rw [hi.length, List.take_length] at hp
    repeat walk_at "zz"
    exact hQ _ _ _ V.keep
end
theorem dbl_dq : ∀ x : List Nat, StrLaws.dbl 34 x = dq x
  | [] => rfl
  | c :: r => by
    have := dbl_dq r
    unfold dq StrLaws.dbl
    by_cases h : c = 34 <;> simp [h, this]
theorem len_join (sep : Str) : ∀ ys : List Str, ys ≠ [] → (Str.join sep ys).length + sep.length = (ys.map (·.length)).sum + ys.length * sep.length
  | [], h => absurd rfl h
  | [x], _ => by simp [Str.join]
  | x :: y :: r, _ => by
    have ih := len_join sep (y :: r) (by simp)
    show (x ++ sep ++ Str.join sep (y :: r)).length + sep.length = _
    rw [Str.length_append, Str.length_append]
    simp only [List.map_cons, List.sum_cons, List.length_cons, Nat.succ_mul] at ih ⊢
    omega
theorem split_weight (x : List Nat) : ((Txt.split (mkS x) (mkS [34])).map (·.length)).sum + (Txt.split (mkS x) (mkS [34])).length * 2 ≤ 2 * x.length + 2 := by
  have e := StrLaws.join_split (mkS x) (mkS [34])
  by_cases hn : Txt.split (mkS x) (mkS [34]) = []
  · simp [hn]
  · have l := len_join (mkS [34]) _ hn
    have e' := congrArg Str.length e
    rw [mkS_len] at e' l
    simp only [List.length_cons, List.length_nil] at l
    generalize (List.map (fun x => x.length) (Txt.split (mkS x) (mkS [34]))).sum = a at *
    generalize (Txt.split (mkS x) (mkS [34])).length = b at *
    generalize (Str.join (mkS [34]) (Txt.split (mkS x) (mkS [34]))).length = c at *
    omega
theorem join_dq (x : List Nat) : Txt.join (mkS [34, 34]) (Txt.split (mkS x) (mkS [34])) = mkS (dq x) := by
  have e := StrLaws.replace_double (mkS x) 34
  rw [StrLaws.replace_one] at e
  have e2 : Str.join (mkS [34, 34]) (Txt.split (mkS x) (mkS [34])) = mkS (dq x) := by
    rw [← mkS_cps (Str.join _ _), ← dbl_dq]
    have e' : (Str.join (mkS [34, 34]) (Txt.split (mkS x) (mkS [34]))).cps.toList = StrLaws.dbl 34 x := e
    rw [e']
  rw [← e2]
  exact StrLaws.glued_eq_join _ _
section
variable {prog : Program} {w : World} {mg mb : Str → Option Value} {A : Around} {E : Value → Shared → Prop} {h : Heap} {g : Array GenState} {d : Drawn} {tk : Nat} {os : OsState}
set_option pp.proofs false
theorem c_reply {x : List Nat} {t : Tok} {Q : Value → Shared → Prop} (O : Ok A 10 100) (D : Gd w mg mb h) (hx : x.length ≤ 1000000)
    (hQ : ∀ h' k t', h.StaysIn h' → Q (.str (mkS (replyL x)) t') ⟨h', g, d, k, os⟩) :
    wpAny (model prog w) A (call (.ref 164) [.str (mkS x) t]) Q E ⟨h, g, d, tk, os⟩ := by
  refine enter [("name", .str (mkS x) t)] (O.le : Ok A (9+1) (97+3)) D rfl rfl rfl rfl rfl rfl rfl rfl ?_
  intro L h₁ tk₁ A' V O'
  repeat walk_at "zz"
  refine z_split (by assumption) rfl (by rw [mkS_len]; omega) fun a l h' k hl V' => ?_
  repeat walk_at "zz"
  have hw := split_weight x
  have hd := dq_le x
  refine z_join (V'.at 0 rfl) (strsAre_strValues l) (by rw [hl, mkS_len]; simp only [List.length_cons, List.length_nil]; omega) fun t' k' => ?_
  rw [hl, join_dq]
  repeat walk_at "zz"
  exact hQ _ _ _ V'.keep
end
section
variable {prog : Program} {w : World} {mg mb : Str → Option Value} {A : Around} {E : Value → Shared → Prop} {h : Heap} {g : Array GenState} {d : Drawn} {tk : Nat} {os : OsState}
set_option pp.proofs false
theorem c_back {x : List Nat} {t : Tok} {Q : Value → Shared → Prop} (O : Ok A 20 200) (D : Gd w mg mb h) (hx : x.length ≤ 10000)
    (hQ : ∀ h' k a l n t1 t2 t3 fz, h.StaysIn h' → New h h' fz → (a, tup [.ref l, .bool true]) ∈ fz → (l, lst [.str (mkS (replyL (replyL x))) t1, .str (mkS (replyL x)) t2, .str (mkS x) t3] n) ∈ fz →
      Q (.ref a) ⟨h', g, d, k, os⟩) :
    wpAny (model prog w) A (call (.ref 171) [.str (mkS x) t]) Q E ⟨h, g, d, tk, os⟩ := by
  refine enter [("text", .str (mkS x) t)] (O.le : Ok A (19+1) (197+3)) D rfl rfl rfl rfl rfl rfl rfl rfl ?_
  intro L h₁ tk₁ A' V O'
  repeat walk_at "zz"
  refine c_reply (O'.le) (D.keeps V.keep) (by omega) fun h' tk' t' hs => ?_
  have V1 := V.grow hs
  clear V hs
  have hr1 : (replyL x).length ≤ 20010 := by have := dq_le x; simp [replyL]; omega
  have hr2 : (replyL (replyL x)).length ≤ 40030 := by have := dq_le (replyL x); simp [replyL] at *; omega
  generalize hR1 : replyL x = R1 at *
  generalize hR2 : replyL R1 = R2 at *
  repeat walk_at "zz"
  refine c_reply (O'.le) (D.keeps (Led.keep (by with_reducible assumption))) (by omega) fun h' tk' t' hs => ?_
  have V2 := Led.grow (by with_reducible assumption) hs
  rw [hR2]
  clear hs
  repeat walk_at "zz"
  refine c_parse' hR2.symm (O'.le) (D.keeps (Led.keep (by with_reducible assumption))) (by omega) fun h' tk' t' hs => ?_
  have V3 := Led.grow (by with_reducible assumption) hs
  clear hs
  repeat walk_at "zz"
  refine c_parse' hR1.symm (O'.le) (D.keeps (Led.keep (by with_reducible assumption))) (by omega) fun h' tk' t' hs => ?_
  have V5 := Led.grow (by with_reducible assumption) hs
  clear hs
  repeat walk_at "zz"
  refine z_eqL2 (by walk_at "ho") (by walk_at "ho") (Nat.lt_of_le_of_lt (Nat.le_add_right _ _) O'.un) ?_
  repeat walk_at "zz"
  exact hQ _ _ _ _ _ _ _ _ _ (Led.keep (by assumption)) (Led.toNew (by assumption)) (List.mem_of_getElem? (i := 0) rfl) (List.mem_of_getElem? (i := 3) rfl)
end
/-! items at a place -/
def fitsAt : List (Bool × List Nat) → List Nat → Bool
  | [], _ => true
  | _ :: _, [] => false
  | (b, s) :: r, c :: t => (s.contains c != b) && fitsAt r t
theorem fitsAt_len : ∀ {is : List (Bool × List Nat)} {t : List Nat}, fitsAt is t = true → is.length ≤ t.length
  | [], _, _ => Nat.zero_le _
  | _ :: _, [], h => by cases h
  | (b, s) :: r, c :: t, h => by
    simp only [fitsAt, Bool.and_eq_true] at h
    have := fitsAt_len h.2
    simp only [List.length_cons]
    omega
section
variable {prog : Program} {w : World} {mg mb : Str → Option Value} {A : Around} {E : Value → Shared → Prop} {h : Heap} {g : Array GenState} {d : Drawn} {tk : Nat} {os : OsState}
set_option pp.proofs false
theorem own_tuple {ts : List Expr} {k : Nat} {px : Pos} {it l T : Addr} {i : Nat} {s : Shared} {Q' : Unit → Shared → Prop} (hit : s.heap.IsListIter it l i) (hq : Q' () s) : wpAny (model prog w) A (letOwnedTupleGo (.Tuple ts k px) (.ref it) (.ref T)) Q' NoE s :=
  wpAny_letOwnedTupleGo_listiter hit hq
theorem c_fits {l : Addr} {vs : List Value} {n : Nat} {is : List (Bool × List Nat)} {x : List Nat} {a : Nat} {tx ta : Tok} {Q : Value → Shared → Prop} (O : Ok A 10 100) (D : Gd w mg mb h) (ho : h.get? l = some (lst vs n)) (hi : ItemsAt h vs (is.map some))
    (hx : x.length ≤ 1000000) (hz : vs.length ≤ 1000000) (ha : a ≤ x.length)
    (hQ : ∀ h' k, h.StaysIn h' → Q (.bool (fitsAt is (x.drop a))) ⟨h', g, d, k, os⟩) :
    wpAny (model prog w) A (call (.ref 122) [.ref l, .str (mkS x) tx, .int a ta]) Q E ⟨h, g, d, tk, os⟩ := by
  refine enter [("items", .ref l), ("name", .str (mkS x) tx), ("at", .int a ta)] (O.le : Ok A (9+1) (97+3)) D rfl rfl rfl rfl rfl rfl rfl rfl ?_
  intro L h₁ tk₁ A' V O'
  repeat walk_at "zz"
  have hl := hi.length
  rw [List.length_map] at hl
  have hdl : (x.drop a).length = x.length - a := List.length_drop
  refine z_ite (fun hc => ?_) (fun hc => ?_)
  · have hc' := of_decide_eq_true hc
    repeat walk_at "zz"
    have e : fitsAt is (x.drop a) = false := by
      cases q : fitsAt is (x.drop a) with
      | false => rfl
      | true =>
        have := fitsAt_len q
        omega
    rw [e] at hQ
    exact hQ _ _ V.keep
  · have hc' := of_decide_eq_false hc
    repeat walk_at "zz"
    refine wpAny_For ?_ (by intro _; rfl)
    repeat walk_at "zz"
    refine z_pyIterL (by assumption) (by walk_at "ho") fun it h' V1 => ?_
    refine z_forL O'.hd (fun i m news => news = [] ∧ m "items" = some (.ref l) ∧ m "name" = some (.str (mkS x) tx) ∧ (∃ t', m "at" = some (.int ((a + i : Nat) : Int) t')) ∧ fitsAt is (x.drop a) = fitsAt (is.drop i) (x.drop (a + i))) V1 ⟨rfl, rfl, rfl, ⟨ta, rfl⟩, rfl⟩
      (fun i m news h' hJ V => V.keep _ _ ho) ?_ ?_ ?_
    · intro i v s Q' hv hit hq
      obtain ⟨item, hit2, hat⟩ := hi.get hv
      cases item with
      | none => simp at hit2
      | some bx =>
        obtain ⟨a', t', rfl, _⟩ := hat
        exact own_tuple hit hq
    · rintro i v m news h' t' o hv ⟨rfl, hm, hn, ⟨t1, hat'⟩, he⟩ V
      obtain ⟨item, hit2, hat⟩ := hi.get hv
      cases item with
      | none => simp at hit2
      | some bx =>
        obtain ⟨b, y⟩ := bx
        obtain ⟨a', t2, rfl, hob⟩ := hat
        have hib : is[i]? = some (b, y) := by
          rw [List.getElem?_map] at hit2
          cases q : is[i]? with
          | none => rw [q] at hit2; cases hit2
          | some z => rw [q] at hit2; cases hit2; rfl
        obtain ⟨hil, _⟩ := List.getElem?_eq_some_iff.mp hib
        have hdi : is.drop i = (b, y) :: is.drop (i + 1) := by
          rw [List.drop_eq_getElem_cons hil, (List.getElem?_eq_some_iff.mp hib).2]
        have hxl : a + i < x.length := by omega
        obtain ⟨c, hxc⟩ : ∃ c, x[a + i]? = some c := ⟨_, List.getElem?_eq_getElem hxl⟩
        have hdx : x.drop (a + i) = c :: x.drop (a + (i + 1)) := by
          rw [List.drop_eq_getElem_cons hxl, (List.getElem?_eq_some_iff.mp hxc).2]
          rfl
        rw [hdi, hdx] at he
        simp only [fitsAt] at he
        repeat walk_at "zz"
        cases hcc : (y.contains c == b) with
        | true =>
          repeat walk_at "zz"
          have e : fitsAt is (x.drop a) = false := by
            rw [he]
            simp only [bne, hcc, Bool.not_true, Bool.false_and]
          rw [e] at hQ
          exact hQ _ _ (Led.keep (by assumption))
        | false =>
          repeat walk_at "zz"
          refine f_next (by assumption) ⟨rfl, by assumption, by assumption, ⟨_, rfl⟩, ?_⟩
          rw [he]
          simp only [bne, hcc, Bool.not_false, Bool.true_and]
    · rintro m news h' t' ⟨rfl, hm, hn, ⟨t1, hat'⟩, he⟩ V
      rw [hl, List.drop_length] at he
      rw [he] at hQ
      repeat walk_at "zz"
      exact hQ _ _ V.keep
end
/-! the table -/
def scanOr : Bool → List Bool → List Bool
  | _, [] => []
  | s, r :: t => (s || r) :: scanOr (s || r) t
def stepM (name : List Nat) (R : List Bool) : Item → List Bool
  | none => scanOr false R
  | some (b, x) => false :: (R.zip name).map fun p => p.1 && (x.contains p.2 != b)
def reach0 (name : List Nat) : List Bool := true :: List.replicate name.length false
def meansL (is : List Item) (name : List Nat) : Bool := ((is.foldl (stepM name) (reach0 name)).getLast?).getD false
theorem scanOr_len : ∀ (s : Bool) (R : List Bool), (scanOr s R).length = R.length
  | _, [] => rfl
  | s, r :: t => by simp [scanOr, scanOr_len]
theorem stepM_len {name : List Nat} {R : List Bool} (h : R.length = name.length + 1) : ∀ i : Item, (stepM name R i).length = name.length + 1
  | none => by simp [stepM, scanOr_len, h]
  | some (b, x) => by simp [stepM, h]
theorem fold_len {name : List Nat} : ∀ (is : List Item) (R : List Bool), R.length = name.length + 1 → (is.foldl (stepM name) R).length = name.length + 1
  | [], _, h => h
  | i :: r, R, h => fold_len r _ (stepM_len h i)
def anyB (R : List Bool) : Bool := R.any id
theorem scanOr_snoc : ∀ (s : Bool) (R : List Bool) (b : Bool), scanOr s (R ++ [b]) = scanOr s R ++ [s || anyB R || b]
  | s, [], b => by simp [scanOr, anyB]
  | s, r :: t, b => by
    simp only [List.cons_append, scanOr, scanOr_snoc, anyB, List.any_cons, id]
    simp [Bool.or_assoc]
section
variable {prog : Program} {w : World} {mg mb : Str → Option Value} {A : Around} {E : Value → Shared → Prop} {h : Heap} {g : Array GenState} {d : Drawn} {tk : Nat} {os : OsState}
set_option pp.proofs false
theorem c_means {l : Addr} {vs : List Value} {n : Nat} {is : List Item} {x : List Nat} {tx : Tok} {Q : Value → Shared → Prop} (O : Ok A 10 100) (D : Gd w mg mb h) (ho : h.get? l = some (lst vs n)) (hi : ItemsAt h vs is)
    (hx : x.length ≤ 10000)
    (hQ : ∀ h' k, h.StaysIn h' → Q (.bool (meansL is x)) ⟨h', g, d, k, os⟩) :
    wpAny (model prog w) A (call (.ref 157) [.ref l, .str (mkS x) tx]) Q E ⟨h, g, d, tk, os⟩ := by
  refine enter [("items", .ref l), ("name", .str (mkS x) tx)] (O.le : Ok A (9+1) (97+3)) D rfl rfl rfl rfl rfl rfl rfl rfl ?_
  intro L h₁ tk₁ A' V O'
  repeat walk_at "zz"
  refine z_rep (by assumption) (by walk_at "ho") (by omega) fun a h' V1 => ?_
  refine z_cat V1 (by walk_at "ho") (by walk_at "ho") (by simp only [List.length_replicate, List.length_cons, List.length_nil]; omega) fun a' h' V2 => ?_
  have V3 := V2.sub (List.Sublist.cons_cons _ (List.nil_sublist _))
  clear V1 V2
  rw [show [Value.bool true] ++ List.replicate x.length (Value.bool false) = (reach0 x).map Value.bool from by simp [reach0]] at V3
  repeat walk_at "zz"
  refine wpAny_For ?_ (by intro _; rfl)
  repeat walk_at "zz"
  refine z_pyIterL (by assumption) (by walk_at "ho") fun it h' V4 => ?_
  refine z_forL O'.hd (fun i m news => ∃ aR nr R, news = [(aR, lst (R.map Value.bool) nr)] ∧ m "items" = some (.ref l) ∧ m "name" = some (.str (mkS x) tx) ∧ m "reach" = some (.ref aR) ∧ R = (is.take i).foldl (stepM x) (reach0 x)) V4 ⟨a', 0, reach0 x, rfl, rfl, rfl, rfl, rfl⟩
      (fun i m news h' hJ V => V.keep _ _ ho) (fun _ _ _ _ _ _ hq => own_name hq) ?_ ?_
  · rintro i v m news h' t' o hv ⟨aR, nr, R, rfl, hm, hn, hr, hR⟩ V
    obtain ⟨item, hit, hat⟩ := hi.get hv
    have hs := take_succ_get hit
    have hRl : R.length = x.length + 1 := by rw [hR]; exact fold_len _ _ (by simp [reach0])
    cases item with
    | none =>
      cases hat
      repeat walk_at "zz"
      refine wpAny_For ?_ (by intro _; rfl)
      repeat walk_at "zz"
      refine z_pyIterL (by assumption) (by walk_at "ho") fun it2 h'' V5 => ?_
      refine z_forL (vs := R.map Value.bool) (nn := nr) O'.hd (fun j m news => ∃ aA nA, news = [(aA, lst ((scanOr false (R.take j)).map Value.bool) nA), (it, o), (aR, lst (R.map Value.bool) nr)] ∧ m "items" = some (.ref l) ∧ m "name" = some (.str (mkS x) tx) ∧ m "after" = some (.ref aA) ∧ m "seen" = some (.bool (anyB (R.take j)))) V5 ⟨_, _, rfl, hm, hn, rfl, rfl⟩
        ?_ (fun _ _ _ _ _ _ hq => own_name hq) ?_ ?_
      · rintro j m' news' h3 ⟨aA, nA, rfl, _⟩ V
        exact V.at 2 rfl
      · rintro j v m' news' h3 t3 o2 hv ⟨aA, nA, rfl, hm', hn', ha', hs'⟩ V
        rw [List.getElem?_map] at hv
        obtain ⟨b, hb, rfl⟩ : ∃ b, R[j]? = some b ∧ v = .bool b := by
          cases q : R[j]? with
          | none => rw [q] at hv; cases hv
          | some z => rw [q] at hv; cases hv; exact ⟨z, rfl, rfl⟩
        have hjs := take_succ_get hb
        have hsc := scanOr_snoc false (R.take j) b
        have hjl : (R.take j).length ≤ 10001 := by rw [List.length_take]; omega
        have hfit : ((scanOr false (R.take j)).map Value.bool).length ≤ 16777216 := by rw [List.length_map, scanOr_len]; omega
        have hany : anyB (R.take (j + 1)) = (anyB (R.take j) || b) := by rw [hjs]; simp [anyB]
        rw [← hjs] at hsc
        repeat walk_at "zz"
        cases hsn : anyB (R.take j) with
        | true =>
          rw [hsn] at hsc hany
          repeat walk_at "zz"
          refine f_next (by assumption) ?_
          refine ⟨aA, nA + 1, ?_, by assumption, by assumption, by assumption, ?_⟩
          · rw [hsc]; simp
          · rw [hany]; rfl
        | false =>
          rw [hsn] at hsc hany
          repeat walk_at "zz"
          refine f_next (by assumption) ?_
          refine ⟨aA, nA + 1, ?_, by assumption, by assumption, by assumption, ?_⟩
          · rw [hsc]; simp
          · rw [hany, Bool.false_or]; rfl
      · rintro m' news' h3 t3 ⟨aA, nA, rfl, hm', hn', ha', hs'⟩ V
        rw [List.length_map, List.take_length] at V
        repeat walk_at "zz"
        have V6 := (Led.swap (by assumption)).sub (List.Sublist.cons_cons _ (List.Sublist.cons_cons _ (List.nil_sublist _)))
        exact f_next V6 ⟨aA, _, _, rfl, by assumption, by assumption, rfl, by rw [hs, List.foldl_append, ← hR]; rfl⟩
    | some bx =>
      obtain ⟨b, y⟩ := bx
      obtain ⟨a, ty, rfl, hob⟩ := hat
      repeat walk_at "zz"
      refine wpAny_For ?_ (by intro _; rfl)
      repeat walk_at "zz"
      refine z_pyIterR (n := x.length) (by assumption) (by assumption) (by omega) fun it2 h'' V5 => ?_
      refine z_forR O'.hd (fun j m news => ∃ aA nA, news = [(aA, lst ((false :: ((R.zip x).take j).map fun p => p.1 && (y.contains p.2 != b)).map Value.bool) nA), (it, o), (aR, lst (R.map Value.bool) nr)] ∧ m "items" = some (.ref l) ∧ m "name" = some (.str (mkS x) tx) ∧ m "after" = some (.ref aA) ∧ m "reach" = some (.ref aR) ∧ m "item" = some (.ref a)) V5 ⟨_, _, rfl, hm, hn, rfl, hr, rfl⟩ ?_ ?_
      · rintro j m' news' h3 t3 u o2 hj ⟨aA, nA, rfl, hm', hn', ha', hr', hi'⟩ V
        obtain ⟨r, hrj⟩ : ∃ r, R[j]? = some r := ⟨_, List.getElem?_eq_getElem (by omega : j < R.length)⟩
        obtain ⟨c, hcj⟩ : ∃ c, x[j]? = some c := ⟨_, List.getElem?_eq_getElem hj⟩
        have hrk : (R.map Value.bool)[j]? = some (.bool r) := by rw [List.getElem?_map, hrj]; rfl
        have hzj : (R.zip x)[j]? = some (r, c) := by rw [List.getElem?_zip_eq_some]; exact ⟨hrj, hcj⟩
        have hjs := take_succ_get hzj
        have hfit : ((false :: ((R.zip x).take j).map fun p => p.1 && (y.contains p.2 != b)).map Value.bool).length ≤ 16777216 := by simp; omega
        repeat walk_at "zz"
        cases r with
        | true =>
          repeat walk_at "zz"
          refine f_next (by assumption) ?_
          refine ⟨aA, nA + 1, ?_, by assumption, by assumption, by assumption, by assumption, by assumption⟩
          rw [hjs]; simp
        | false =>
          repeat walk_at "zz"
          refine f_next (by assumption) ?_
          refine ⟨aA, nA + 1, ?_, by assumption, by assumption, by assumption, by assumption, by assumption⟩
          rw [hjs]; simp
      · rintro m' news' h3 t3 ⟨aA, nA, rfl, hm', hn', ha', hr', hi'⟩ V
        rw [List.take_of_length_le (by simp [List.length_zip]; omega)] at V
        repeat walk_at "zz"
        have V6 := (Led.swap (by assumption)).sub (List.Sublist.cons_cons _ (List.Sublist.cons_cons _ (List.nil_sublist _)))
        exact f_next V6 ⟨aA, _, _, rfl, by assumption, by assumption, rfl, by rw [hs, List.foldl_append, ← hR]; rfl⟩
  · rintro m news h' t' ⟨aR, nr, R, rfl, hm, hn, hr, hR⟩ V
    rw [hi.length, List.take_length] at hR
    have hRl : R.length = x.length + 1 := by rw [hR]; exact fold_len _ _ (by simp [reach0])
    obtain ⟨b, hb⟩ : ∃ b, R[x.length]? = some b := ⟨_, List.getElem?_eq_getElem (by omega : x.length < R.length)⟩
    have hl1 : (R.map Value.bool).length = x.length + 1 := by rw [List.length_map, hRl]
    have hlast : (R.map Value.bool)[(-1 + ((R.map Value.bool).length : Int)).toNat]? = some (.bool b) := by
      rw [hl1, show (-1 + ((x.length + 1 : Nat) : Int)).toNat = x.length from by omega, List.getElem?_map, hb]; rfl
    have hmean : meansL is x = b := by
      unfold meansL
      rw [← hR, List.getLast?_eq_getElem?, hRl, show x.length + 1 - 1 = x.length from rfl, hb]; rfl
    rw [hmean] at hQ
    repeat walk_at "zz"
    exact hQ _ _ V.keep
end
/-! what a number draws -/
def pairOf (k c : Nat) : Option Item × List Nat :=
  match k with
  | 0 => (some none, [])
  | 1 => (some none, [34])
  | 2 => (some none, [97])
  | 3 => (some (some (false, [34])), [34])
  | 4 => (some (some (false, [97])), [97])
  | 5 => (some (some (false, [34])), [])
  | 6 => (none, [34])
  | 7 => (some (some (false, [97, 98])), [98])
  | 8 => (some (some (true, [34])), [98])
  | 9 => (some (some (true, [97, 34])), [c])
  | 10 => (some (some (false, [c])), [c])
  | 11 => (some none, [34, 34])
  | 12 => (some (some (false, [34])), [34, 34])
  | 13 => (some none, [34, 97])
  | 14 => (none, [98])
  | _ => (some (some (false, [c])), [97])
def pairAt (n : Int) : Option Item × List Nat := pairOf (n.fmod 16).toNat (signN (n.fdiv 16))
def drI (ns : List Int) : List Item := ns.filterMap fun n => (pairAt n).1
def drN (ns : List Int) : List Nat := ns.flatMap fun n => (pairAt n).2
theorem pairOf_len (k c : Nat) : (pairOf k c).2.length ≤ 2 := by
  unfold pairOf
  split <;> simp
theorem drN_len : ∀ ns : List Int, (drN ns).length ≤ 2 * ns.length
  | [] => Nat.le_refl _
  | n :: r => by
    have := drN_len r
    have h2 := pairOf_len (n.fmod 16).toNat (signN (n.fdiv 16))
    simp only [drN, List.flatMap_cons, List.length_append, List.length_cons] at this ⊢
    unfold pairAt at *
    omega
/-- the same relation, by membership -/
def ItemIn (fz : List (Addr × Obj)) (v : Value) : Item → Prop
  | none => v = .none
  | some (b, x) => ∃ a tk, v = .ref a ∧ (a, tup [.bool b, .str (mkS x) tk]) ∈ fz
def ItemsIn (fz : List (Addr × Obj)) : List Value → List Item → Prop
  | [], [] => True
  | v :: vs, i :: is => ItemIn fz v i ∧ ItemsIn fz vs is
  | _, _ => False
theorem ItemIn.mono {fz fz' : List (Addr × Obj)} (k : ∀ p ∈ fz, p ∈ fz') {v : Value} : ∀ {i : Item}, ItemIn fz v i → ItemIn fz' v i
  | none, x => x
  | some (_, _), ⟨a, tk, e, o⟩ => ⟨a, tk, e, k _ o⟩
theorem ItemsIn.mono {fz fz' : List (Addr × Obj)} (k : ∀ p ∈ fz, p ∈ fz') : ∀ {vs : List Value} {is : List Item}, ItemsIn fz vs is → ItemsIn fz' vs is
  | [], [], _ => trivial
  | _ :: _, _ :: _, ⟨x, r⟩ => ⟨x.mono k, r.mono k⟩
  | [], _ :: _, x => x.elim
  | _ :: _, [], x => x.elim
theorem ItemsIn.snoc {fz : List (Addr × Obj)} {v : Value} {i : Item} : ∀ {vs : List Value} {is : List Item}, ItemsIn fz vs is → ItemIn fz v i → ItemsIn fz (vs ++ [v]) (is ++ [i])
  | [], [], _, y => ⟨y, trivial⟩
  | _ :: _, _ :: _, ⟨x, r⟩, y => ⟨x, r.snoc y⟩
  | [], _ :: _, x, _ => x.elim
  | _ :: _, [], x, _ => x.elim
theorem ItemIn.at {fz : List (Addr × Obj)} {h : Heap} (k : ∀ p ∈ fz, h.get? p.1 = some p.2) {v : Value} : ∀ {i : Item}, ItemIn fz v i → ItemAt h v i
  | none, x => x
  | some (_, _), ⟨a, tk, e, o⟩ => ⟨a, tk, e, k _ o⟩
theorem ItemsIn.at {fz : List (Addr × Obj)} {h : Heap} (k : ∀ p ∈ fz, h.get? p.1 = some p.2) : ∀ {vs : List Value} {is : List Item}, ItemsIn fz vs is → ItemsAt h vs is
  | [], [], _ => trivial
  | _ :: _, _ :: _, ⟨x, r⟩ => ⟨x.at k, r.at k⟩
  | [], _ :: _, x => x.elim
  | _ :: _, [], x => x.elim
section
variable {B : Heap} {L : Addr} {m : Str → Option Value} {h : Heap} {news news' fz : List (Addr × Obj)} {p q e : Addr × Obj}
theorem Led.perm (V : Led B L m h news) (hp : news'.Perm news) : Led B L m h news' :=
  ⟨V.ns, V.keep, V.noL, fun r hr => V.nw r (hp.mem_iff.mp hr), ((hp.map (·.1)).pairwise_iff (fun {_ _} x e => x e.symm)).mpr V.ord⟩
theorem Led.rot (V : Led B L m h news) (k : Nat) (hd : news.drop k = p :: q :: fz) : Led B L m h (p :: q :: (news.take k ++ fz)) := by
  refine V.perm ?_
  have e : news = news.take k ++ (p :: q :: fz) := by rw [← hd, List.take_append_drop]
  have h1 : (news.take k ++ (p :: q :: fz)).Perm (p :: q :: (news.take k ++ fz)) :=
    List.perm_middle.trans (List.Perm.cons _ List.perm_middle)
  rw [← e] at h1
  exact h1.symm
end
def PairIn (gz : List (Addr × Obj)) (p0 : Value) : Option Item → Prop
  | none => ∃ t, p0 = .int 0 t
  | some i => ItemIn gz p0 i
theorem IntsAre.get : ∀ {vs : List Value} {ns : List Int} {k : Nat} {v : Value}, IntsAre vs ns → vs[k]? = some v → ∃ n tk, ns[k]? = some n ∧ v = .int n tk
  | _, _, 0, _, .cons n tk _, e => ⟨n, tk, rfl, by cases e; rfl⟩
  | _, _, k + 1, _, .cons _ _ r, e => by
    obtain ⟨n, tk, h1, h2⟩ := IntsAre.get (k := k) r (by simpa using e)
    exact ⟨n, tk, by simpa using h1, h2⟩
  | _, _, _, _, .nil, e => by simp at e

section
variable {prog : Program} {w : World} {mg mb : Str → Option Value} {A : Around} {E : Value → Shared → Prop} {h : Heap} {g : Array GenState} {d : Drawn} {tk : Nat} {os : OsState}
theorem z_neTI {Q : Value → Shared → Prop} {t : Nat} {l : Addr} {vs : List Value} {i : Int} {u : Tok} (ho : h.get? l = some (tup vs)) (hu : A.units < cLine) (z : Q (.bool true) ⟨h, g, d, t, os⟩) :
    wpAny (model prog w) A (compareOp .NotEq (.ref l) (.int i u)) Q E ⟨h, g, d, t, os⟩ := cmp_ofNotEq (SeqAt.RcNeAt.tuple_int (s := ⟨h, g, d, t, os⟩) (items := vs.toArray) i u ⟨_, ho, rfl, 0, rfl⟩ hu prog w E Q z)
theorem z_neNI {Q : Value → Shared → Prop} {t : Nat} {i : Int} {u : Tok} (z : Q (.bool true) ⟨h, g, d, t, os⟩) :
    wpAny (model prog w) A (compareOp .NotEq .none (.int i u)) Q E ⟨h, g, d, t, os⟩ := cmp_ofNotEq (SeqAt.RcNeAt.none_int (A := A) (s := ⟨h, g, d, t, os⟩) i u prog w E Q z)
/-- the k-th of the sixteen -/
def Pk (vs : List Value) (nw : List (Addr × Obj)) (c j : Nat) : Prop := ∃ aP p0 tP, vs[j]? = some (.ref aP) ∧ (aP, tup [p0, .str (mkS (pairOf j c).2) tP]) ∈ nw ∧ PairIn nw p0 (pairOf j c).1
theorem z_pick16 {Q : Value → Shared → Prop} {B : Heap} {L : Addr} {m : Str → Option Value} {news fz : List (Addr × Obj)} {p q : Addr × Obj} {t : Nat} {l : Addr} {vs : List Value} {k : Int} {u : Tok} {c : Nat} {value slice : Expr}
    (V : Led B L m h news) (h00 : news[0]? = some (l, tup vs)) (hd : news.drop 26 = p :: q :: fz) (h0 : 0 ≤ k) (h1' : k < 16) (hl16 : vs.length = 16)
    (p0 : Pk vs (news.take 26) c 0) (p1 : Pk vs (news.take 26) c 1) (p2 : Pk vs (news.take 26) c 2) (p3 : Pk vs (news.take 26) c 3) (p4 : Pk vs (news.take 26) c 4) (p5 : Pk vs (news.take 26) c 5) (p6 : Pk vs (news.take 26) c 6) (p7 : Pk vs (news.take 26) c 7) (p8 : Pk vs (news.take 26) c 8) (p9 : Pk vs (news.take 26) c 9) (p10 : Pk vs (news.take 26) c 10) (p11 : Pk vs (news.take 26) c 11) (p12 : Pk vs (news.take 26) c 12) (p13 : Pk vs (news.take 26) c 13) (p14 : Pk vs (news.take 26) c 14) (p15 : Pk vs (news.take 26) c 15)
    (hs : subscripted slice false (.ref l) (.int k u) = operate [.ref l, .int k u] (getItem (.ref l) (.int k u)))
    (z : ∀ gz aP p0 tP, Led B L m h (p :: q :: gz) → (∀ e ∈ fz, e ∈ gz) → (aP, tup [p0, .str (mkS (pairOf k.toNat c).2) tP]) ∈ gz → PairIn gz p0 (pairOf k.toNat c).1 → Q (.ref aP) ⟨h, g, d, t, os⟩) :
    wpAny (model prog w) A (subscriptTail value slice (.ref l) (.int k u)) Q E ⟨h, g, d, t, os⟩ := by
  have hlt : k.toNat < vs.length := by omega
  have h1 : k < vs.length := by omega
  have h2 : k < 2 ^ 63 := by omega
  have hP : ∀ j : Nat, j < 16 → Pk vs (news.take 26) c j := fun j hj => match j, hj with
    | 0, _ => p0 | 1, _ => p1 | 2, _ => p2 | 3, _ => p3 | 4, _ => p4 | 5, _ => p5 | 6, _ => p6 | 7, _ => p7 | 8, _ => p8 | 9, _ => p9 | 10, _ => p10 | 11, _ => p11 | 12, _ => p12 | 13, _ => p13 | 14, _ => p14 | 15, _ => p15
    | _ + 16, hj => absurd hj (by omega)
  obtain ⟨aP, p0, tP, e, hm, hi⟩ := hP k.toNat (by omega)
  refine z_titem (V.at 0 h00) h0 h1 h2 e ?_ hs
  refine z (news.take 26 ++ fz) aP p0 tP (V.rot 26 hd) (fun e he => List.mem_append_right _ he) (List.mem_append_left _ hm) ?_
  cases hpo : (pairOf k.toNat c).1 with
  | none => rw [hpo] at hi; exact hi
  | some i => rw [hpo] at hi; exact ItemIn.mono (fun p hp => List.mem_append_left _ hp) hi
set_option pp.proofs false
theorem c_drawn {l : Addr} {vs : List Value} {n : Nat} {ns : List Int} {Q : Value → Shared → Prop} (O : Ok A 20 200) (D : Gd w mg mb h) (ho : h.get? l = some (lst vs n)) (hi : IntsAre vs ns)
    (hn : ns.length ≤ 63)
    (hQ : ∀ h' k a aI us k2 t' fz, h.StaysIn h' → New h h' fz → (a, tup [.ref aI, .str (mkS (drN ns)) t']) ∈ fz → (aI, lst us k2) ∈ fz → ItemsIn fz us (drI ns) → Q (.ref a) ⟨h', g, d, k, os⟩) :
    wpAny (model prog w) A (call (.ref 143) [.ref l]) Q E ⟨h, g, d, tk, os⟩ := by
  refine enter [("numbers", .ref l)] (O.le : Ok A (19+1) (197+3)) D rfl rfl rfl rfl rfl rfl rfl rfl ?_
  intro L h₁ tk₁ A' V O'
  repeat walk_at "zz"
  refine wpAny_For ?_ (by intro _; rfl)
  repeat walk_at "zz"
  refine z_pyIterL (by assumption) (by walk_at "ho") fun it h' V4 => ?_
  refine z_forL O'.hd (fun i m news => ∃ aI k us fz, news = (aI, lst us k) :: fz ∧ m "numbers" = some (.ref l) ∧ m "items" = some (.ref aI) ∧ us.length ≤ i ∧ ItemsIn fz us (drI (ns.take i)) ∧ ∃ t', m "name" = some (.str (mkS (drN (ns.take i))) t')) V4 ⟨_, _, [], [], rfl, rfl, rfl, Nat.le_refl _, trivial, _, rfl⟩
      (fun i m news h' hJ V => V.keep _ _ ho) (fun _ _ _ _ _ _ hq => own_name hq) ?_ ?_
  · rintro i v m news h' t' o hv ⟨aI, k, us, fz, rfl, hm, hm2, hul, hin, tn, hnm⟩ V
    obtain ⟨n, tn', hnn, rfl⟩ := IntsAre.get hi hv
    have hs := take_succ_get hnn
    repeat walk_at "zz"
    refine c_sign O'.le (D.keeps (Led.keep (by with_reducible assumption))) fun h2 k2 t2 hst => ?_
    have V5 := Led.grow (by with_reducible assumption) hst
    clear hst
    repeat walk_at "zz"
    have hb := fmod_lo n (n := 16) (by decide)
    have hb2 := fmod_hi n (n := 16) (by decide)
    have hpa : pairAt n = pairOf (n.fmod 16).toNat (signN (n.fdiv 16)) := rfl
    generalize n.fmod 16 = κ at *
    generalize signN (n.fdiv 16) = c at *
    refine z_pick16 (c := c) (by with_reducible assumption) rfl rfl hb hb2 rfl ⟨_, _, _, rfl, (List.mem_of_getElem? (i := 25) rfl), rfl⟩ ⟨_, _, _, rfl, (List.mem_of_getElem? (i := 24) rfl), rfl⟩ ⟨_, _, _, rfl, (List.mem_of_getElem? (i := 23) rfl), rfl⟩ ⟨_, _, _, rfl, (List.mem_of_getElem? (i := 21) rfl), ⟨_, _, rfl, (List.mem_of_getElem? (i := 22) rfl)⟩⟩ ⟨_, _, _, rfl, (List.mem_of_getElem? (i := 19) rfl), ⟨_, _, rfl, (List.mem_of_getElem? (i := 20) rfl)⟩⟩ ⟨_, _, _, rfl, (List.mem_of_getElem? (i := 17) rfl), ⟨_, _, rfl, (List.mem_of_getElem? (i := 18) rfl)⟩⟩ ⟨_, _, _, rfl, (List.mem_of_getElem? (i := 16) rfl), ⟨_, rfl⟩⟩ ⟨_, _, _, rfl, (List.mem_of_getElem? (i := 14) rfl), ⟨_, _, rfl, (List.mem_of_getElem? (i := 15) rfl)⟩⟩ ⟨_, _, _, rfl, (List.mem_of_getElem? (i := 12) rfl), ⟨_, _, rfl, (List.mem_of_getElem? (i := 13) rfl)⟩⟩ ⟨_, _, _, rfl, (List.mem_of_getElem? (i := 10) rfl), ⟨_, _, rfl, (List.mem_of_getElem? (i := 11) rfl)⟩⟩ ⟨_, _, _, rfl, (List.mem_of_getElem? (i := 8) rfl), ⟨_, _, rfl, (List.mem_of_getElem? (i := 9) rfl)⟩⟩ ⟨_, _, _, rfl, (List.mem_of_getElem? (i := 7) rfl), rfl⟩ ⟨_, _, _, rfl, (List.mem_of_getElem? (i := 5) rfl), ⟨_, _, rfl, (List.mem_of_getElem? (i := 6) rfl)⟩⟩ ⟨_, _, _, rfl, (List.mem_of_getElem? (i := 4) rfl), rfl⟩ ⟨_, _, _, rfl, (List.mem_of_getElem? (i := 3) rfl), ⟨_, rfl⟩⟩ ⟨_, _, _, rfl, (List.mem_of_getElem? (i := 1) rfl), ⟨_, _, rfl, (List.mem_of_getElem? (i := 2) rfl)⟩⟩ (by with_unfolding_all rfl) ?_
    · intro gz aP p0 tP V7 hmono hm7 hp7
      rw [← hpa] at hm7 hp7
      have hnl : (drN (ns.take i)).length ≤ 126 := by
        have := drN_len (ns.take i)
        rw [List.length_take] at this
        omega
      have hpl : (pairAt n).2.length ≤ 2 := by rw [hpa]; exact pairOf_len _ _
      have hdN : drN (ns.take (i + 1)) = drN (ns.take i) ++ (pairAt n).2 := by rw [hs]; simp [drN]
      have hdI : drI (ns.take (i + 1)) = drI (ns.take i) ++ (pairAt n).1.toList := by
        rw [hs]
        simp only [drI, List.filterMap_append]
        cases hq : (pairAt n).1 <;> simp [hq]
      generalize (pairAt n).2 = nm at *
      generalize (pairAt n).1 = oi at *
      clear V5 hpa hb hb2
      have hil : i < ns.length := (List.getElem?_eq_some_iff.mp hnn).1
      cases oi with
      | none =>
        obtain ⟨t0, rfl⟩ := hp7
        repeat walk_at "zz"
        refine z_iteF rfl ?_
        repeat walk_at "zz"
        refine f_next (by assumption) ?_
        refine ⟨aI, k, us, gz, rfl, by assumption, by assumption, by omega, ?_, _, by rw [hdN]; rfl⟩
        rw [hdI]
        simpa using ItemsIn.mono hmono hin
      | some item =>
        cases item with
        | none =>
          cases hp7
          repeat walk_at "zz"
          refine z_neNI ?_
          repeat walk_at "zz"
          refine f_next (by assumption) ?_
          refine ⟨aI, k + 1, _, gz, rfl, by assumption, by assumption, by simp; omega, ?_, _, by rw [hdN]; rfl⟩
          rw [hdI]
          exact (ItemsIn.mono hmono hin).snoc rfl
        | some bx =>
          obtain ⟨b, y⟩ := bx
          obtain ⟨a', t', rfl, hmem⟩ := hp7
          repeat walk_at "zz"
          refine z_neTI (by walk_at "ho") (Nat.lt_of_le_of_lt (Nat.le_add_right _ _) O'.un) ?_
          repeat walk_at "zz"
          refine f_next (by assumption) ?_
          refine ⟨aI, k + 1, _, gz, rfl, by assumption, by assumption, by simp; omega, ?_, _, by rw [hdN]; rfl⟩
          rw [hdI]
          exact (ItemsIn.mono hmono hin).snoc ⟨a', t', rfl, hmem⟩
  · rintro m news h' t' ⟨aI, k, us, fz, rfl, hm, hm2, hul, hin, tn, hnm⟩ V
    have hlv : vs.length = ns.length := hi.length
    rw [hlv, List.take_length] at hin hnm
    repeat walk_at "zz"
    exact hQ _ _ _ _ _ _ _ _ (Led.keep (by assumption)) (Led.toNew (by assumption)) (.head _) (.tail _ (.head _)) (hin.mono fun p hp => .tail _ (.tail _ hp))
end
/-! the tokens of a pattern that are no stars -/
inductive Tk where
  | lit (c : Nat)
  | set (neg : Bool) (cs : List Nat)
def specials : List Nat := [40, 41, 91, 93, 123, 125, 63, 42, 43, 45, 124, 94, 36, 92, 46, 38, 126, 35, 32, 9, 10, 13, 11, 12]
def bodyE : List Nat → List Nat
  | [] => []
  | c :: r => if c = 91 then 92 :: 91 :: bodyE r else c :: bodyE r
def escL (c : Nat) : List Nat := if specials.contains c then [92, c] else [c]
def Tk.enc : Tk → List Nat
  | .lit c => escL c
  | .set neg cs => 91 :: ((if neg then [94] else []) ++ bodyE cs ++ [93])
def Tk.itm : Tk → Bool × List Nat
  | .lit c => (false, [c])
  | .set neg cs => (neg, cs)
def Tk.good : Tk → Prop
  | .lit _ => True
  | .set neg cs => (∀ c ∈ cs, c ≠ 93 ∧ c ≠ 92) ∧ (neg = false → cs.head? ≠ some 94)
def encs (ts : List Tk) : List Nat := ts.flatMap Tk.enc
theorem encs_cons (t : Tk) (ts : List Tk) : encs (t :: ts) = t.enc ++ encs ts := by simp [encs]
def isStop (z : Nat) : Bool := [40, 46, 41].contains z
theorem drop_add {l x r : List Nat} {k : Nat} (e : l.drop k = x ++ r) : l.drop (k + x.length) = r := by
  rw [← List.drop_drop, e, List.drop_left]

theorem bodyE_le : ∀ cs : List Nat, cs.length ≤ (bodyE cs).length
  | [] => Nat.le_refl _
  | c :: r => by
    have := bodyE_le r
    unfold bodyE
    split <;> simp only [List.length_cons] <;> omega
section
variable {prog : Program} {w : World} {mg mb : Str → Option Value} {A : Around} {E : Value → Shared → Prop} {h : Heap} {g : Array GenState} {d : Drawn} {tk : Nat} {os : OsState}
set_option pp.proofs false
theorem c_items {T rest : List Nat} {ts : List Tk} {z k : Nat} {tT tK : Tok} {Q : Value → Shared → Prop} (O : Ok A 20 200) (D : Gd w mg mb h) (hT : T.length ≤ 1000000)
    (hd : T.drop k = encs ts ++ z :: rest) (hz : isStop z = true) (hg : ∀ t ∈ ts, t.good) (hts : ts.length ≤ 100000)
    (hQ : ∀ h' n a aI us k2 t' fz, h.StaysIn h' → New h h' fz → (a, tup [.ref aI, .int ((k + (encs ts).length : Nat) : Int) t']) ∈ fz → (aI, lst us k2) ∈ fz → ItemsIn fz us ((ts.map Tk.itm).map some) → Q (.ref a) ⟨h', g, d, n, os⟩) :
    wpAny (model prog w) A (call (.ref 108) [.str (mkS T) tT, .int k tK]) Q E ⟨h, g, d, tk, os⟩ := by
  refine enter [("text", .str (mkS T) tT), ("k", .int k tK)] (O.le : Ok A (19+1) (197+3)) D rfl rfl rfl rfl rfl rfl rfl rfl ?_
  intro L h₁ tk₁ A' V O'
  repeat walk_at "zz"
  refine z_while (fun n s => ∃ done todo m hh t2 aI us n2 fz, ∃ (i : Nat), ∃ ti, s = ⟨hh, g, d, t2, os⟩ ∧ Led h L m hh ((aI, lst us n2) :: fz) ∧ m "text" = some (.str (mkS T) tT) ∧ m "items" = some (.ref aI) ∧ m "k" = some (.int i ti) ∧
    ts = done ++ todo ∧ us.length = done.length ∧ ItemsIn fz us ((done.map Tk.itm).map some) ∧ T.drop i = encs todo ++ z :: rest ∧ i = k + (encs done).length ∧ n = todo.length) ts.length ?_ ?_
  · exact ⟨[], ts, _, _, _, _, [], _, [], k, _, rfl, by assumption, rfl, rfl, rfl, rfl, rfl, trivial, hd, rfl, rfl⟩
  · rintro n s ⟨done, todo, m, hh, t2, aI, us, n2, fz, i, ti, rfl, V, hm1, hm2, hm3, hts', hul, hin, hdi, hik, rfl⟩
    have hul2 : us.length ≤ 100000 := by
      have := congrArg List.length hts'
      simp at this
      omega
    cases todo with
    | nil =>
      have hc : T[i]? = some z := (drop_cons_get (show T.drop i = z :: rest from hdi)).1
      repeat walk_at "zz"
      refine z_iteF (by show (!isStop z) = false; rw [hz]; rfl) ?_
      repeat walk_at "zz"
      rw [List.append_nil] at hts'
      subst hts'
      rw [← hik] at hQ
      exact hQ _ _ _ _ _ _ _ _ (Led.keep (by assumption)) (Led.toNew (by assumption)) (.head _) (.tail _ (.head _)) (hin.mono fun p hp => .tail _ (.tail _ hp))
    | cons t todo =>
      rw [encs_cons, List.append_assoc] at hdi
      have hgt := hg t (by rw [hts']; simp)
      have hnl : ∀ j, j = i + t.enc.length → T.drop j = encs todo ++ z :: rest := fun j hj => by rw [hj]; exact drop_add hdi
      have hkl : ∀ j, j = i + t.enc.length → j = k + (encs (done ++ [t])).length := fun j hj => by rw [hj, hik]; simp [encs]; omega
      generalize hR : encs todo ++ z :: rest = R at *
      cases t with
      | lit c =>
        cases hsp : specials.contains c with
        | true =>
          have he : Tk.enc (.lit c) = [92, c] := by simp only [Tk.enc, escL, hsp, if_true]
          rw [he] at hdi hnl hkl
          have hc1 : T[i]? = some 92 := (drop_cons_get hdi).1
          have hc2 : T[i + 1]? = some c := (drop_cons_get (drop_cons_get hdi).2).1
          repeat walk_at "zz"
          refine z_iteT rfl ?_
          repeat walk_at "zz"
          refine z_iteT rfl ?_
          repeat walk_at "zz"
          refine l_next todo.length (Nat.lt_succ_self _) ?_
          exact ⟨done ++ [.lit c], todo, _, _, _, aI, _, _, _, i + 1 + 1, _, rfl, Led.swap (by assumption), by assumption, by assumption, rfl, by rw [hts']; simp, by simp [hul], by
            rw [List.map_append, List.map_append]
            exact (hin.mono fun p hp => List.mem_cons_of_mem _ hp).snoc ⟨_, _, rfl, .head _⟩, hR ▸ hnl _ rfl, hkl _ rfl, rfl⟩
        | false =>
          have he : Tk.enc (.lit c) = [c] := by simp only [Tk.enc, escL, hsp, Bool.false_eq_true, if_false]
          rw [he] at hdi hnl hkl
          have hc1 : T[i]? = some c := (drop_cons_get hdi).1
          have hns : c ≠ 40 ∧ c ≠ 46 ∧ c ≠ 41 ∧ c ≠ 92 ∧ c ≠ 91 := by
            refine ⟨?_, ?_, ?_, ?_, ?_⟩ <;> (intro e; subst e; cases hsp)
          have hst : (![40, 46, 41].contains c) = true := by
            simp [hns.1, hns.2.1, hns.2.2.1]
          repeat walk_at "zz"
          refine z_iteT hst ?_
          repeat walk_at "zz"
          refine z_iteF (decide_eq_false (by simpa using hns.2.2.2.1)) ?_
          repeat walk_at "zz"
          refine z_iteF (decide_eq_false (by simpa using hns.2.2.2.2)) ?_
          repeat walk_at "zz"
          refine l_next todo.length (Nat.lt_succ_self _) ?_
          exact ⟨done ++ [.lit c], todo, _, _, _, aI, _, _, _, i + 1, _, rfl, Led.swap (by assumption), by assumption, by assumption, rfl, by rw [hts']; simp, by simp [hul], by
            rw [List.map_append, List.map_append]
            exact (hin.mono fun p hp => List.mem_cons_of_mem _ hp).snoc ⟨_, _, rfl, .head _⟩, hR ▸ hnl _ rfl, hkl _ rfl, rfl⟩
      | set neg cs =>
        obtain ⟨hcs, hhead⟩ := hgt
        have he : Tk.enc (.set neg cs) = 91 :: ((if neg then [94] else []) ++ bodyE cs ++ [93]) := rfl
        have hitm : Tk.itm (.set neg cs) = (neg, cs) := rfl
        have hc1 : T[i]? = some 91 := by rw [he] at hdi; exact (drop_cons_get hdi).1
        have hd1 : T.drop (i + 1) = (if neg then [94] else []) ++ (bodyE cs ++ 93 :: R) := by
          rw [he] at hdi
          have := (drop_cons_get hdi).2
          simpa using this
        -- the first sign behind the bracket
        obtain ⟨c2, hc2, hneg⟩ : ∃ c2, T[i + 1]? = some c2 ∧ decide ([c2] = [94]) = neg := by
          cases neg with
          | true => exact ⟨94, (drop_cons_get hd1).1, rfl⟩
          | false =>
            cases cs with
            | nil => exact ⟨93, (drop_cons_get hd1).1, rfl⟩
            | cons c r =>
              have hne : c ≠ 94 := fun e => hhead rfl (by rw [e]; rfl)
              by_cases h91 : c = 91
              · subst h91
                exact ⟨92, (drop_cons_get (show T.drop (i + 1) = 92 :: (91 :: bodyE r ++ 93 :: R) from by rw [hd1]; simp [bodyE])).1, rfl⟩
              · exact ⟨c, (drop_cons_get (show T.drop (i + 1) = c :: (bodyE r ++ 93 :: R) from by rw [hd1]; simp [bodyE, h91])).1, decide_eq_false (by simpa using hne)⟩
        have hlen : i + (Tk.enc (.set neg cs)).length = (i + 1 + (if neg then 1 else 0)) + (bodyE cs).length + 1 := by
          rw [he]
          cases neg <;> simp <;> omega
        have hd2 : T.drop (i + 1 + (if neg then 1 else 0)) = bodyE cs ++ 93 :: R := by
          cases neg with
          | true => exact (drop_cons_get hd1).2
          | false => exact hd1
        repeat walk_at "zz"
        refine z_iteT rfl ?_
        repeat walk_at "zz"
        refine z_iteF rfl ?_
        repeat walk_at "zz"
        refine z_iteT rfl ?_
        repeat walk_at "zz"
        generalize decide ([c2] = [94]) = nb at *
        subst hneg
        have hcl : cs.length ≤ T.length := by
          have h1 := congrArg List.length hd2
          have h2 : cs.length ≤ (bodyE cs).length := bodyE_le cs
          simp only [List.length_drop, List.length_append] at h1
          omega
        clear hc1 hc2 hd1 hdi he
        generalize hi1 : i + 1 + (if nb = true then 1 else 0) = i1 at *
        cases nb with
        | true =>
          simp only [if_true, Bool.false_eq_true, if_false] at hi1
          subst hi1
          repeat walk_at "zz"
          refine z_while (fun n s => ∃ c1 c2' m hh t2 ts', ∃ (j : Nat), ∃ tj, s = ⟨hh, g, d, t2, os⟩ ∧ Led h L m hh ((aI, lst us n2) :: fz) ∧ m "text" = some (.str (mkS T) tT) ∧ m "items" = some (.ref aI) ∧ m "k" = some (.int j tj) ∧
            m "signs" = some (.str (mkS c1) ts') ∧ m "barred" = some (.bool true) ∧ cs = c1 ++ c2' ∧ T.drop j = bodyE c2' ++ 93 :: R ∧ j + (bodyE c2').length + 1 = i + (Tk.enc (.set true cs)).length ∧ n = c2'.length) cs.length ?_ ?_
          · exact ⟨[], cs, _, _, _, _, _, _, rfl, by assumption, by assumption, by assumption, rfl, rfl, rfl, rfl, hd2, by rw [hlen], rfl⟩
          · rintro n s ⟨c1, c2', m, hh, t2, ts', j, tj, rfl, V, hm1, hm2, hm3, hm4, hm5, hcc, hdj, hjl, rfl⟩
            have hcc2 := congrArg List.length hcc
            rw [List.length_append] at hcc2
            cases c2' with
            | nil =>
              have hc1 : T[j]? = some 93 := (drop_cons_get hdj).1
              rw [List.append_nil] at hcc
              subst hcc
              repeat walk_at "zz"
              refine z_iteF rfl ?_
              repeat walk_at "zz"
              refine l_next todo.length (Nat.lt_succ_self _) ?_
              exact ⟨done ++ [.set true cs], todo, _, _, _, aI, _, _, _, j + 1, _, rfl, Led.swap (by assumption), by assumption, by assumption, rfl, by rw [hts']; simp, by simp [hul], by
                rw [List.map_append, List.map_append]
                exact (hin.mono fun p hp => List.mem_cons_of_mem _ hp).snoc ⟨_, _, rfl, .head _⟩, hR ▸ (drop_cons_get hdj).2, hkl _ (by rw [← hjl]; rfl), rfl⟩
            | cons c r =>
              have hgc := hcs c (by rw [hcc]; simp)
              by_cases h91 : c = 91
              · subst h91
                have hb : bodyE (91 :: r) = 92 :: 91 :: bodyE r := by simp [bodyE]
                rw [hb] at hdj hjl
                have hc1 : T[j]? = some 92 := (drop_cons_get hdj).1
                have hc2 : T[j + 1]? = some 91 := (drop_cons_get (drop_cons_get hdj).2).1
                repeat walk_at "zz"
                refine z_iteT rfl ?_
                repeat walk_at "zz"
                refine z_iteT rfl ?_
                repeat walk_at "zz"
                refine l_next r.length (Nat.lt_succ_self _) ?_
                exact ⟨c1 ++ [91], r, _, _, _, _, j + 1 + 1, _, rfl, by assumption, by assumption, by assumption, rfl, rfl, by assumption, by rw [hcc]; simp, (drop_cons_get (drop_cons_get hdj).2).2, by rw [← hjl]; simp only [List.length_cons]; omega, rfl⟩
              · have hb : bodyE (c :: r) = c :: bodyE r := by simp [bodyE, h91]
                rw [hb] at hdj hjl
                have hc1 : T[j]? = some c := (drop_cons_get hdj).1
                repeat walk_at "zz"
                refine z_iteT (decide_eq_true (by simpa using hgc.1)) ?_
                repeat walk_at "zz"
                refine z_iteF (decide_eq_false (by simpa using hgc.2)) ?_
                repeat walk_at "zz"
                refine l_next r.length (Nat.lt_succ_self _) ?_
                exact ⟨c1 ++ [c], r, _, _, _, _, j + 1, _, rfl, by assumption, by assumption, by assumption, rfl, rfl, by assumption, by rw [hcc]; simp, (drop_cons_get hdj).2, by rw [← hjl]; simp only [List.length_cons]; omega, rfl⟩
        | false =>
          simp only [if_true, Bool.false_eq_true, if_false] at hi1
          subst hi1
          repeat walk_at "zz"
          refine z_while (fun n s => ∃ c1 c2' m hh t2 ts', ∃ (j : Nat), ∃ tj, s = ⟨hh, g, d, t2, os⟩ ∧ Led h L m hh ((aI, lst us n2) :: fz) ∧ m "text" = some (.str (mkS T) tT) ∧ m "items" = some (.ref aI) ∧ m "k" = some (.int j tj) ∧
            m "signs" = some (.str (mkS c1) ts') ∧ m "barred" = some (.bool false) ∧ cs = c1 ++ c2' ∧ T.drop j = bodyE c2' ++ 93 :: R ∧ j + (bodyE c2').length + 1 = i + (Tk.enc (.set false cs)).length ∧ n = c2'.length) cs.length ?_ ?_
          · exact ⟨[], cs, _, _, _, _, _, _, rfl, by assumption, by assumption, by assumption, rfl, rfl, rfl, rfl, hd2, by rw [hlen], rfl⟩
          · rintro n s ⟨c1, c2', m, hh, t2, ts', j, tj, rfl, V, hm1, hm2, hm3, hm4, hm5, hcc, hdj, hjl, rfl⟩
            have hcc2 := congrArg List.length hcc
            rw [List.length_append] at hcc2
            cases c2' with
            | nil =>
              have hc1 : T[j]? = some 93 := (drop_cons_get hdj).1
              rw [List.append_nil] at hcc
              subst hcc
              repeat walk_at "zz"
              refine z_iteF rfl ?_
              repeat walk_at "zz"
              refine l_next todo.length (Nat.lt_succ_self _) ?_
              exact ⟨done ++ [.set false cs], todo, _, _, _, aI, _, _, _, j + 1, _, rfl, Led.swap (by assumption), by assumption, by assumption, rfl, by rw [hts']; simp, by simp [hul], by
                rw [List.map_append, List.map_append]
                exact (hin.mono fun p hp => List.mem_cons_of_mem _ hp).snoc ⟨_, _, rfl, .head _⟩, hR ▸ (drop_cons_get hdj).2, hkl _ (by rw [← hjl]; rfl), rfl⟩
            | cons c r =>
              have hgc := hcs c (by rw [hcc]; simp)
              by_cases h91 : c = 91
              · subst h91
                have hb : bodyE (91 :: r) = 92 :: 91 :: bodyE r := by simp [bodyE]
                rw [hb] at hdj hjl
                have hc1 : T[j]? = some 92 := (drop_cons_get hdj).1
                have hc2 : T[j + 1]? = some 91 := (drop_cons_get (drop_cons_get hdj).2).1
                repeat walk_at "zz"
                refine z_iteT rfl ?_
                repeat walk_at "zz"
                refine z_iteT rfl ?_
                repeat walk_at "zz"
                refine l_next r.length (Nat.lt_succ_self _) ?_
                exact ⟨c1 ++ [91], r, _, _, _, _, j + 1 + 1, _, rfl, by assumption, by assumption, by assumption, rfl, rfl, by assumption, by rw [hcc]; simp, (drop_cons_get (drop_cons_get hdj).2).2, by rw [← hjl]; simp only [List.length_cons]; omega, rfl⟩
              · have hb : bodyE (c :: r) = c :: bodyE r := by simp [bodyE, h91]
                rw [hb] at hdj hjl
                have hc1 : T[j]? = some c := (drop_cons_get hdj).1
                repeat walk_at "zz"
                refine z_iteT (decide_eq_true (by simpa using hgc.1)) ?_
                repeat walk_at "zz"
                refine z_iteF (decide_eq_false (by simpa using hgc.2)) ?_
                repeat walk_at "zz"
                refine l_next r.length (Nat.lt_succ_self _) ?_
                exact ⟨c1 ++ [c], r, _, _, _, _, j + 1, _, rfl, by assumption, by assumption, by assumption, rfl, rfl, by assumption, by rw [hcc]; simp, (drop_cons_get hdj).2, by rw [← hjl]; simp only [List.length_cons]; omega, rfl⟩
end
/-! a text of translate's, by its pieces -/
abbrev More := Option (List (List Tk) × List Tk)
def midE (m : List Tk) : List Nat := [40, 63, 62, 46, 42, 63] ++ (encs m ++ [41])
def tailE : More → List Nat
  | none => []
  | some (mids, last) => mids.flatMap midE ++ (46 :: 42 :: encs last)
def render (first : List Tk) (more : More) : List Nat := [40, 63, 115, 58] ++ (encs first ++ (tailE more ++ [41, 92, 90]))
def More.ps : More → List (List Tk)
  | none => []
  | some (mids, last) => mids ++ [last]
def More.mids : More → List (List Tk)
  | none => []
  | some (mids, _) => mids
def More.lastE : More → List Nat
  | none => []
  | some (_, last) => 46 :: 42 :: encs last
theorem tailE_eq (more : More) : tailE more = more.mids.flatMap midE ++ more.lastE := by
  cases more <;> rfl
theorem slice6 (T : List Nat) (i j : Nat) : (T.take ((i : Int) + (j : Int)).toNat).drop (i : Int).toNat = (T.drop i).take j := by
  rw [show ((i : Int) + (j : Int)).toNat = i + j from by omega, Int.toNat_natCast, List.drop_take]
  congr 1
  omega
def PieceIn (fz : List (Addr × Obj)) (v : Value) (ts : List Tk) : Prop := ∃ a us k, v = .ref a ∧ (a, lst us k) ∈ fz ∧ ItemsIn fz us ((ts.map Tk.itm).map some)
def PiecesIn (fz : List (Addr × Obj)) : List Value → List (List Tk) → Prop
  | [], [] => True
  | v :: vs, p :: ps => PieceIn fz v p ∧ PiecesIn fz vs ps
  | _, _ => False
theorem PieceIn.mono {fz fz' : List (Addr × Obj)} (k : ∀ p ∈ fz, p ∈ fz') {v : Value} {ts : List Tk} : PieceIn fz v ts → PieceIn fz' v ts
  | ⟨a, us, n, e, hm, hi⟩ => ⟨a, us, n, e, k _ hm, hi.mono k⟩
theorem PiecesIn.mono {fz fz' : List (Addr × Obj)} (k : ∀ p ∈ fz, p ∈ fz') : ∀ {vs : List Value} {ps : List (List Tk)}, PiecesIn fz vs ps → PiecesIn fz' vs ps
  | [], [], _ => trivial
  | _ :: _, _ :: _, ⟨x, r⟩ => ⟨x.mono k, r.mono k⟩
  | [], _ :: _, x => x.elim
  | _ :: _, [], x => x.elim
theorem PiecesIn.one {fz : List (Addr × Obj)} {v : Value} {p : List Tk} (x : PieceIn fz v p) : PiecesIn fz [v] [p] := ⟨x, trivial⟩
theorem PiecesIn.snoc {fz : List (Addr × Obj)} {v : Value} {p : List Tk} : ∀ {vs : List Value} {ps : List (List Tk)}, PiecesIn fz vs ps → PieceIn fz v p → PiecesIn fz (vs ++ [v]) (ps ++ [p])
  | [], [], _, y => ⟨y, trivial⟩
  | _ :: _, _ :: _, ⟨x, r⟩, y => ⟨x, r.snoc y⟩
  | [], _ :: _, x, _ => x.elim
  | _ :: _, [], x, _ => x.elim
theorem PiecesIn.length {fz : List (Addr × Obj)} : ∀ {vs : List Value} {ps : List (List Tk)}, PiecesIn fz vs ps → vs.length = ps.length
  | [], [], _ => rfl
  | _ :: _, _ :: _, ⟨_, r⟩ => by simp [r.length]
  | [], _ :: _, x => x.elim
  | _ :: _, [], x => x.elim
theorem PiecesIn.get {fz : List (Addr × Obj)} : ∀ {vs : List Value} {ps : List (List Tk)} {k : Nat} {v : Value}, PiecesIn fz vs ps → vs[k]? = some v → ∃ p, ps[k]? = some p ∧ PieceIn fz v p
  | _ :: _, p :: _, 0, _, ⟨x, _⟩, e => ⟨p, rfl, by cases e; exact x⟩
  | _ :: _, _ :: _, k + 1, _, ⟨_, r⟩, e => by
    obtain ⟨i, h1, h2⟩ := r.get (k := k) (by simpa using e)
    exact ⟨i, by simpa using h1, h2⟩
  | [], _, _, _, _, e => by simp at e
  | _ :: _, [], _, _, x, _ => x.elim

section
variable {prog : Program} {w : World} {mg mb : Str → Option Value} {A : Around} {E : Value → Shared → Prop} {h : Heap} {g : Array GenState} {d : Drawn} {tk : Nat} {os : OsState}
set_option pp.proofs false
theorem c_pieces {first : List Tk} {more : More} {tT : Tok} {Q : Value → Shared → Prop} (O : Ok A 40 400) (D : Gd w mg mb h) (hT : (render first more).length ≤ 1000000)
    (hg : ∀ p ∈ first :: more.ps, ∀ t ∈ p, t.good) (hl : ∀ p ∈ first :: more.ps, p.length ≤ 100000) (hm : more.ps.length ≤ 100000)
    (hQ : ∀ h' n aP vs k2 fz, h.StaysIn h' → New h h' fz → (aP, lst vs k2) ∈ fz → PiecesIn fz vs (first :: more.ps) → Q (.ref aP) ⟨h', g, d, n, os⟩) :
    wpAny (model prog w) A (call (.ref 115) [.str (mkS (render first more)) tT]) Q E ⟨h, g, d, tk, os⟩ := by
  refine enter [("text", .str (mkS (render first more)) tT)] (O.le : Ok A (39+1) (397+3)) D rfl rfl rfl rfl rfl rfl rfl rfl ?_
  intro L h₁ tk₁ A' V O'
  have ht4 : (render first more).take 4 = [40, 63, 115, 58] := rfl
  obtain ⟨z, rest, hz, hzr⟩ : ∃ z rest, isStop z = true ∧ tailE more ++ [41, 92, 90] = z :: rest := by
    match more with
    | none => exact ⟨41, [92, 90], rfl, rfl⟩
    | some ([], last) => exact ⟨46, 42 :: encs last ++ [41, 92, 90], rfl, rfl⟩
    | some (m :: ms, last) => exact ⟨40, _, rfl, by simp [tailE, midE]; rfl⟩
  have hd4 : (render first more).drop 4 = encs first ++ z :: rest := by rw [← hzr]; rfl
  have hd5 : (render first more).drop (4 + (encs first).length) = tailE more ++ [41, 92, 90] := by rw [hzr]; exact drop_add hd4
  generalize render first more = T at *
  repeat walk_at "zz"
  refine c_items (k := 4) (O'.le) (D.keeps (Led.keep (by with_reducible assumption))) hT hd4 hz (hg first (.head _)) (hl first (.head _)) fun h2 n2 a aI us k2 t2 fz hst N ha hI hin => ?_
  have V1 : Led h L _ h2 ([] ++ fz) := Led.addNew (by with_reducible assumption) hst N
  rw [List.nil_append] at V1
  clear hst N
  repeat walk_at "zz"
  rw [tailE_eq, List.append_assoc] at hd5
  refine z_while (fun n s => ∃ done todo m hh t2 aP vs n2 fz, ∃ (i : Nat), ∃ ti, s = ⟨hh, g, d, t2, os⟩ ∧ Led h L m hh ((aP, lst vs n2) :: fz) ∧ m "text" = some (.str (mkS T) tT) ∧ m "pieces" = some (.ref aP) ∧ m "k" = some (.int i ti) ∧
    more.mids = done ++ todo ∧ PiecesIn fz vs (first :: done) ∧ T.drop i = todo.flatMap midE ++ (more.lastE ++ [41, 92, 90]) ∧ n = todo.length) more.mids.length ?_ ?_
  · exact ⟨[], more.mids, _, _, _, _, _, _, _, _, _, rfl, by assumption, rfl, rfl, rfl, rfl, .one ⟨_, _, _, rfl, hI, hin⟩, hd5, rfl⟩
  · clear hd5 hd4 hz hzr hin hI ha
    rintro n s ⟨done, todo, m, hh, t2, aP, vs, n2, fz, i, ti, rfl, V, hm1, hm2, hm3, hmd, hps, hdi, rfl⟩
    have hvl := hps.length
    have hsl := slice6 T i 6
    rw [hdi] at hsl
    have hmp : more.mids.length ≤ more.ps.length := by
      cases more <;> simp [More.mids, More.ps]
    have hdl : done.length ≤ 100000 := by
      have := congrArg List.length hmd
      simp at this
      omega
    rw [List.length_cons] at hvl
    cases todo with
    | nil =>
      have hsl2 := slice6 T i 2
      rw [hdi] at hsl2
      rw [List.append_nil] at hmd
      subst hmd
      cases more with
      | none =>
        have hdz : T.drop i = [41, 92, 90] := hdi
        repeat walk_at "zz"
        refine z_iteF (decide_eq_false (by rw [show ((i : Int) + 6) = (i : Int) + ((6 : Nat) : Int) from rfl, hsl]; decide)) ?_
        repeat walk_at "zz"
        refine z_iteF (decide_eq_false (by rw [show ((i : Int) + 2) = (i : Int) + ((2 : Nat) : Int) from rfl, hsl2]; decide)) ?_
        repeat walk_at "zz"
        refine z_iteF (decide_eq_false (by rw [hvl]; decide)) ?_
        repeat walk_at "zz"
        refine z_iteF (decide_eq_false (by rw [show Int.toNat 4 = 4 from rfl, ht4]; decide)) ?_
        repeat walk_at "zz"
        refine z_iteF (decide_eq_false (by rw [Int.toNat_natCast, hdz]; decide)) ?_
        repeat walk_at "zz"
        exact hQ _ _ _ _ _ _ (Led.keep (by assumption)) (Led.toNew (by assumption)) (.head _) (hps.mono fun q hq => .tail _ hq)
      | some ml =>
        obtain ⟨mids, last⟩ := ml
        have hd6 : T.drop (i + 2) = encs last ++ 41 :: [92, 90] := by
          rw [← List.drop_drop, hdi]
          simp [More.lastE]
        have hdz : T.drop (i + 2 + (encs last).length) = [41, 92, 90] := drop_add hd6
        have hpm : last ∈ first :: More.ps (some (mids, last)) := List.mem_cons_of_mem _ (List.mem_append_right _ (.head _))
        repeat walk_at "zz"
        refine z_iteF (decide_eq_false (by rw [show ((i : Int) + 6) = (i : Int) + ((6 : Nat) : Int) from rfl, hsl]; simp [More.lastE])) ?_
        repeat walk_at "zz"
        refine z_iteT (decide_eq_true (by rw [show ((i : Int) + 2) = (i : Int) + ((2 : Nat) : Int) from rfl, hsl2]; simp [More.lastE])) ?_
        repeat walk_at "zz"
        refine c_items (k := i + 2) (O'.le) (D.keeps (Led.keep (by with_reducible assumption))) hT hd6 rfl (hg last hpm) (hl last hpm) fun h2 n2' a aI us k2 t2 fz2 hst N ha hI hin => ?_
        have V1 : Led h L _ h2 ((aP, lst vs n2) :: (fz ++ fz2)) := Led.addNew (by with_reducible assumption) hst N
        clear hst N
        have ha' := List.mem_append_right fz ha
        repeat walk_at "zz"
        refine z_iteF (decide_eq_false (by rw [show Int.toNat 4 = 4 from rfl, ht4]; decide)) ?_
        repeat walk_at "zz"
        refine z_iteF (decide_eq_false (by rw [Int.toNat_natCast, hdz]; decide)) ?_
        repeat walk_at "zz"
        refine hQ _ _ aP _ _ _ (Led.keep (by assumption)) (Led.toNew (by assumption)) (.head _) ?_
        exact PiecesIn.snoc (ps := first :: mids) (hps.mono fun q hq => .tail _ (List.mem_append_left _ hq)) ⟨_, _, _, rfl, .tail _ (List.mem_append_right _ hI), hin.mono fun q hq => .tail _ (List.mem_append_right _ hq)⟩
    | cons p todo =>
      have hpm : p ∈ first :: more.ps := by
        cases more with
        | none => simp [More.mids] at hmd
        | some ml =>
          obtain ⟨mids, last⟩ := ml
          have : p ∈ mids := by rw [show mids = done ++ p :: todo from hmd]; simp
          exact List.mem_cons_of_mem _ (List.mem_append_left _ this)
      have hd6 : T.drop (i + 6) = encs p ++ 41 :: (todo.flatMap midE ++ (more.lastE ++ [41, 92, 90])) := by
        rw [← List.drop_drop, hdi]
        simp [midE]
      have hd7 : T.drop (i + 6 + (encs p).length) = 41 :: (todo.flatMap midE ++ (more.lastE ++ [41, 92, 90])) := drop_add hd6
      have hc1 := (drop_cons_get hd7).1
      have hd8 := (drop_cons_get hd7).2
      repeat walk_at "zz"
      refine z_iteT (decide_eq_true (by rw [show ((i : Int) + 6) = (i : Int) + ((6 : Nat) : Int) from rfl, hsl]; simp [midE])) ?_
      repeat walk_at "zz"
      refine c_items (k := i + 6) (O'.le) (D.keeps (Led.keep (by with_reducible assumption))) hT hd6 rfl (hg p hpm) (hl p hpm) fun h2 n2' a aI us k2 t2 fz2 hst N ha hI hin => ?_
      have V1 : Led h L _ h2 ((aP, lst vs n2) :: (fz ++ fz2)) := Led.addNew (by with_reducible assumption) hst N
      clear hst N
      have ha' := List.mem_append_right fz ha
      repeat walk_at "zz"
      refine z_iteF rfl ?_
      repeat walk_at "zz"
      refine l_next todo.length (Nat.lt_succ_self _) ?_
      exact ⟨done ++ [p], todo, _, _, _, aP, _, _, fz ++ fz2, i + 6 + (encs p).length + 1, _, rfl, by assumption, by assumption, by assumption, rfl, by rw [hmd]; simp,
        (hps.mono fun q hq => List.mem_append_left _ hq).snoc ⟨_, _, _, rfl, List.mem_append_right _ hI, hin.mono fun q hq => List.mem_append_right _ hq⟩, hd8, rfl⟩
end
/-! the pieces read along a name, from the front and never back -/
def seek (p : List (Bool × List Nat)) : List Nat → Option (List Nat)
  | [] => none
  | c :: r => if fitsAt p (c :: r) then some ((c :: r).drop p.length) else seek p r
def seeks : List (List Tk) → List Nat → Option (List Nat)
  | [], t => some t
  | p :: ps, t => (seek (p.map Tk.itm) t).bind (seeks ps)
theorem seeks_append : ∀ (a b : List (List Tk)) (t : List Nat), seeks (a ++ b) t = (seeks a t).bind (seeks b)
  | [], _, _ => rfl
  | p :: ps, b, t => by
    simp only [List.cons_append, seeks]
    cases seek (p.map Tk.itm) t with
    | none => rfl
    | some t' => exact seeks_append ps b t'
def lastB (last : List Tk) (t : List Nat) : Bool := decide (last.length ≤ t.length) && fitsAt (last.map Tk.itm) (t.drop (t.length - last.length))
def runsB (first : List Tk) (more : More) (name : List Nat) : Bool :=
  fitsAt (first.map Tk.itm) name && match more with
    | none => decide (first.length = name.length)
    | some (mids, last) => match seeks mids (name.drop first.length) with
      | none => false
      | some t => lastB last t
section
variable {prog : Program} {w : World} {mg mb : Str → Option Value} {A : Around} {E : Value → Shared → Prop} {h : Heap} {g : Array GenState} {d : Drawn} {tk : Nat} {os : OsState}
set_option pp.proofs false
theorem Led.mem3 {B : Heap} {L : Addr} {m : Str → Option Value} {h : Heap} {fz : List (Addr × Obj)} {p q r : Addr × Obj} {a : Addr} {o : Obj} (V : Led B L m h (p :: q :: r :: fz)) (hm : (a, o) ∈ fz) : h.get? a = some o := (V.nw _ (.tail _ (.tail _ (.tail _ hm)))).1
local macro_rules | `(tactic| walk_at "ho") => `(tactic| exact Led.mem3 (by with_reducible assumption) (by with_reducible assumption))
theorem PieceIn.list {fz : List (Addr × Obj)} {v : Value} {ts : List Tk} (x : PieceIn fz v ts) : ∃ a us k, v = .ref a ∧ (a, lst us k) ∈ fz ∧ ItemsIn fz us ((ts.map Tk.itm).map some) ∧ us.length = ts.length := by
  obtain ⟨a, us, k, e, hm, hi⟩ := x
  refine ⟨a, us, k, e, hm, hi, ?_⟩
  have : ∀ {us : List Value} {is : List Item}, ItemsIn fz us is → us.length = is.length := by
    intro us
    induction us with
    | nil => intro is h; cases is with | nil => rfl | cons => exact h.elim
    | cons v vs ih => intro is h; cases is with | nil => exact h.elim | cons i is => simp [ih h.2]
  have := this hi
  simpa using this
theorem piecesIn_split {fz : List (Addr × Obj)} {last : List Tk} : ∀ {vs : List Value} {mids : List (List Tk)}, PiecesIn fz vs (mids ++ [last]) → ∃ vm vl, vs = vm ++ [vl] ∧ PiecesIn fz vm mids ∧ PieceIn fz vl last
  | [], [], h => h.elim
  | [v], [], h => ⟨[], v, rfl, trivial, h.1⟩
  | _ :: _ :: _, [], h => h.2.elim
  | [], _ :: _, h => h.elim
  | v :: vs, p :: ps, ⟨x, r⟩ => by
    obtain ⟨vm, vl, e, h1, h2⟩ := piecesIn_split (vs := vs) (mids := ps) r
    exact ⟨v :: vm, vl, by rw [e]; rfl, ⟨x, h1⟩, h2⟩
theorem c_runs {first : List Tk} {more : More} {x : List Nat} {tT tx : Tok} {Q : Value → Shared → Prop} (O : Ok A 60 600) (D : Gd w mg mb h) (hT : (render first more).length ≤ 1000000) (hx : x.length ≤ 100000)
    (hg : ∀ p ∈ first :: more.ps, ∀ t ∈ p, t.good) (hl : ∀ p ∈ first :: more.ps, p.length ≤ 100000) (hm : more.ps.length ≤ 100000)
    (hQ : ∀ h' n v, h.StaysIn h' → (if runsB first more x then ∃ a, v = .ref a else v = .none) → Q v ⟨h', g, d, n, os⟩) :
    wpAny (model prog w) A (call (.ref 129) [.str (mkS (render first more)) tT, .str (mkS x) tx]) Q E ⟨h, g, d, tk, os⟩ := by
  refine enter [("text", .str (mkS (render first more)) tT), ("name", .str (mkS x) tx)] (O.le : Ok A (59+1) (597+3)) D rfl rfl rfl rfl rfl rfl rfl rfl ?_
  intro L h₁ tk₁ A' V O'
  have hno : ∀ h' n, h.StaysIn h' → runsB first more x = false → Q .none ⟨h', g, d, n, os⟩ := fun h' n hs e => hQ h' n .none hs (by rw [e]; rfl)
  have hyes : ∀ h' n a, h.StaysIn h' → runsB first more x = true → Q (.ref a) ⟨h', g, d, n, os⟩ := fun h' n a hs e => hQ h' n _ hs (by rw [e]; exact ⟨a, rfl⟩)
  clear hQ
  repeat walk_at "zz"
  refine c_pieces (O'.le) (D.keeps (Led.keep (by with_reducible assumption))) hT hg hl hm fun h2 n2 aP vs k2 fz hst N hP hps => ?_
  have V1 : Led h L _ h2 ([] ++ fz) := Led.addNew (by with_reducible assumption) hst N
  rw [List.nil_append] at V1
  clear hst N
  have hvl := hps.length
  cases vs with
  | nil => exact hps.elim
  | cons v0 vs =>
  obtain ⟨hp0, hps⟩ := hps
  obtain ⟨a0, us0, k0, rfl, h0m, h0i, h0l⟩ := hp0.list
  have hfl := hl first (.head _)
  repeat walk_at "zz"
  refine c_fits (a := 0) (O'.le) (D.keeps (Led.keep (by with_reducible assumption))) (by walk_at "ho") (h0i.at fun p hp => (Led.nw (by with_reducible assumption) _ hp).1) (by omega) (by omega) (Nat.zero_le _) fun h3 n3 hst => ?_
  have V2 := Led.grow (by with_reducible assumption) hst
  clear hst
  rw [List.drop_zero]
  repeat walk_at "zz"
  have hfx : fitsAt (first.map Tk.itm) x = true → first.length ≤ x.length := fun e => by
    have := fitsAt_len e
    simpa using this
  cases hf : fitsAt (first.map Tk.itm) x with
  | false =>
    repeat walk_at "zz"
    exact hno _ _ (Led.keep (by assumption)) (by simp [runsB, hf])
  | true =>
    have hfx' := hfx hf
    have hpl := hps.length
    have hpl2 : ((Value.ref a0) :: vs).length = more.ps.length + 1 := by simp [hpl]
    repeat walk_at "zz"
    cases more with
    | none =>
      have hvs : vs = [] := List.eq_nil_of_length_eq_zero (by simpa [More.ps] using hpl)
      refine z_iteT (by rw [hpl2]; rfl) ?_
      repeat walk_at "zz"
      refine z_ite (fun hc => ?_) (fun hc => ?_)
      · have hc' : first.length = x.length := by
          have := beq_iff_eq.mp hc
          omega
        repeat walk_at "zz"
        exact hyes _ _ _ (Led.keep (by assumption)) (by simp [runsB, hf, hc'])
      · have hc' : ¬ first.length = x.length := by
          intro e
          have : ((us0.length : Int) == (x.length : Int)) = true := beq_iff_eq.mpr (by omega)
          rw [this] at hc
          cases hc
        repeat walk_at "zz"
        exact hno _ _ (Led.keep (by assumption)) (by simp [runsB, hf, hc'])
    | some ml =>
      obtain ⟨mids, last⟩ := ml
      refine z_iteF (by rw [hpl2, beq_eq_false_iff_ne]; simp only [More.ps, List.length_append, List.length_cons, List.length_nil]; omega) ?_
      -- the list of the middle pieces and the last
      obtain ⟨vm, vl, hvs, hpm, hpla⟩ : ∃ vm vl, vs = vm ++ [vl] ∧ PiecesIn fz vm mids ∧ PieceIn fz vl last := piecesIn_split hps
      subst hvs
      repeat walk_at "zz"
      refine wpAny_For ?_ (by intro _; rfl)
      repeat walk_at "zz"
      refine z_lmid (by with_reducible assumption) (by walk_at "ho") rfl (by simp only [List.length_append, List.length_cons, List.length_nil]; have := hpm.length; simp only [More.ps, List.length_append] at hm; omega) (fun aS h4 V4 => ?_) (by with_unfolding_all rfl)
      refine z_pyIterL V4 (by walk_at "ho") fun it h5 V5 => ?_
      obtain ⟨al, usl, kl, rfl, hlm, hli, hll⟩ := hpla.list
      have hml := hpm.length
      have hml2 : mids.length ≤ 100000 := by simp only [More.ps, List.length_append] at hm; omega
      clear V4 V1 V2
      refine z_forL (vs := vm) (nn := 0) O'.hd (fun i m news => ∃ aR rs nr, ∃ (a : Nat), ∃ ta, news = (aS, lst vm 0) :: (aR, lst rs nr) :: fz ∧ rs.length ≤ i ∧ m "name" = some (.str (mkS x) tx) ∧ m "pieces" = some (.ref aP) ∧ m "runs" = some (.ref aR) ∧ m "at" = some (.int a ta) ∧
        a ≤ x.length ∧ seeks (mids.take i) (x.drop first.length) = some (x.drop a)) V5 ⟨_, [], _, us0.length, _, rfl, Nat.le_refl _, rfl, rfl, rfl, rfl, by omega, by rw [h0l]; rfl⟩
        ?_ (fun _ _ _ _ _ _ hq => own_name hq) ?_ ?_
      · rintro i m' news' h' ⟨aR, rs, nr, a, ta, rfl, _⟩ V
        exact V.at 0 rfl
      · rintro i v m news h6 t6 o hv ⟨aR, rs, nr, a, ta, rfl, hrl, hm1, hm2, hm3, hm4, hax, hsk⟩ V
        obtain ⟨p, hpi, hpv⟩ := hpm.get hv
        have hil : i < mids.length := (List.getElem?_eq_some_iff.mp hpi).1
        obtain ⟨ap, usp, kp, rfl, hpm', hpin, hpll⟩ := hpv.list
        have hpl3 : p.length ≤ 100000 := hl p (List.mem_cons_of_mem _ (List.mem_append_left _ (List.mem_of_getElem? hpi)))
        have hsn : seeks (mids.take (i + 1)) (x.drop first.length) = seek (p.map Tk.itm) (x.drop a) := by
          rw [take_succ_get hpi, seeks_append, hsk]
          simp only [Option.bind_some, seeks]
          cases seek (p.map Tk.itm) (x.drop a) <;> rfl
        have hnone : seek (p.map Tk.itm) (x.drop a) = none → runsB first (some (mids, last)) x = false := by
          intro e
          rw [e] at hsn
          have : seeks mids (x.drop first.length) = none := by
            rw [← List.take_append_drop (i + 1) mids, seeks_append, hsn]; rfl
          simp only [runsB, this, Bool.and_false]
        repeat walk_at "zz"
        refine z_while (fun n s => ∃ m hh t2, ∃ (k : Nat), ∃ tk', s = ⟨hh, g, d, t2, os⟩ ∧ Led h L m hh ((it, o) :: (aS, lst vm 0) :: (aR, lst rs nr) :: fz) ∧ m "name" = some (.str (mkS x) tx) ∧ m "pieces" = some (.ref aP) ∧ m "runs" = some (.ref aR) ∧ m "at" = some (.int a ta) ∧ m "piece" = some (.ref ap) ∧
          m "k" = some (.int k tk') ∧ a ≤ k ∧ k ≤ x.length ∧ seek (p.map Tk.itm) (x.drop k) = seek (p.map Tk.itm) (x.drop a) ∧ n = x.length - k) (x.length - a) ?_ ?_
        · exact ⟨_, _, _, a, _, rfl, by assumption, by assumption, by assumption, by assumption, by assumption, rfl, rfl, Nat.le_refl _, hax, rfl, rfl⟩
        · rintro n s ⟨m, hh, t2, k, tk', rfl, V, hn1, hn2, hn3, hn4, hn5, hn6, hak, hkx, hsek, rfl⟩
          by_cases hk : k < x.length
          · obtain ⟨c, hc⟩ : ∃ c, x[k]? = some c := ⟨_, List.getElem?_eq_getElem hk⟩
            have hdk : x.drop k = c :: x.drop (k + 1) := by
              rw [List.drop_eq_getElem_cons hk, (List.getElem?_eq_some_iff.mp hc).2]
            repeat walk_at "zz"
            refine z_iteT (decide_eq_true (by omega)) ?_
            repeat walk_at "zz"
            refine c_fits (a := k) (O'.le) (D.keeps (Led.keep (by with_reducible assumption))) (by walk_at "ho") (hpin.at fun q hq => (Led.nw (by with_reducible assumption) _ (.tail _ (.tail _ (.tail _ hq)))).1) (by omega) (by omega) hkx fun h7 n7 hst => ?_
            have V7 := Led.grow (by with_reducible assumption) hst
            clear hst
            cases hfk : fitsAt (p.map Tk.itm) (x.drop k) with
            | true =>
              have hplk : p.length ≤ x.length - k := by
                have := fitsAt_len hfk
                simpa using this
              have hseek : seek (p.map Tk.itm) (x.drop k) = some (x.drop (k + p.length)) := by
                rw [hdk] at hfk ⊢
                simp only [seek, hfk, if_true]
                rw [← hdk, List.drop_drop, List.length_map]
              repeat walk_at "zz"
              refine z_iteF (by rw [beq_eq_false_iff_ne]; omega) ?_
              repeat walk_at "zz"
              refine f_next (by with_reducible assumption) ?_
              exact ⟨aR, _, _, k + usp.length, _, rfl, by simp only [List.length_append, List.length_cons, List.length_nil]; omega, by assumption, by assumption, by assumption, rfl, by omega, by rw [hsn, ← hsek, hseek, hpll]⟩
            | false =>
              have hseek : seek (p.map Tk.itm) (x.drop k) = seek (p.map Tk.itm) (x.drop (k + 1)) := by
                rw [hdk] at hfk ⊢
                simp only [seek, hfk, Bool.false_eq_true, if_false]
              repeat walk_at "zz"
              refine l_next (x.length - (k + 1)) (by omega) ?_
              exact ⟨_, _, _, k + 1, _, rfl, by assumption, by assumption, by assumption, by assumption, by assumption, by assumption, rfl, by omega, by omega, by rw [← hsek, hseek], rfl⟩
          · have hke : k = x.length := by omega
            subst hke
            repeat walk_at "zz"
            refine z_iteF (decide_eq_false (by omega)) ?_
            repeat walk_at "zz"
            refine z_iteT (by rw [beq_iff_eq]) ?_
            repeat walk_at "zz"
            refine hno _ _ (Led.keep (by assumption)) (hnone ?_)
            rw [← hsek, List.drop_length]; rfl
      · rintro m news h6 t6 ⟨aR, rs, nr, a, ta, rfl, hrl, hm1, hm2, hm3, hm4, hax, hsk⟩ V
        rw [hml, List.take_length] at hsk
        have hlen2 : ((Value.ref a0 :: (vm ++ [Value.ref al])).length : Int) = vm.length + 2 := by simp only [List.length_append, List.length_cons, List.length_nil]; omega
        have hlast : (Value.ref a0 :: (vm ++ [Value.ref al]))[((-1 : Int) + ((Value.ref a0 :: (vm ++ [Value.ref al])).length : Int)).toNat]? = some (Value.ref al) := by
          rw [hlen2, show ((-1 : Int) + ((vm.length : Int) + 2)).toNat = vm.length + 1 from by omega]
          simp
        have hll2 : last.length ≤ 100000 := hl last (List.mem_cons_of_mem _ (List.mem_append_right _ (.head _)))
        have hrun : runsB first (some (mids, last)) x = lastB last (x.drop a) := by
          simp only [runsB, hf, hsk, Bool.true_and]
        have hdl : (x.drop a).length = x.length - a := List.length_drop ..
        repeat walk_at "zz"
        refine z_ite (fun hc => ?_) (fun hc => ?_)
        · have := of_decide_eq_true hc
          repeat walk_at "zz"
          refine hno _ _ (Led.keep (by assumption)) ?_
          rw [hrun, lastB, decide_eq_false (by omega), Bool.false_and]
        · have hc' := of_decide_eq_false hc
          obtain ⟨kk, hkk⟩ : ∃ kk : Nat, (x.length : Int) - usl.length = kk := ⟨x.length - usl.length, by omega⟩
          have hkk' : kk = x.length - last.length := by omega
          have hrun2 : runsB first (some (mids, last)) x = fitsAt (last.map Tk.itm) (x.drop kk) := by
            rw [hrun, lastB, decide_eq_true (by omega), Bool.true_and, List.drop_drop, hdl]
            congr 2
            omega
          repeat walk_at "zz"
          simp only [hkk]
          refine c_fits (a := kk) (O'.le) (D.keeps (Led.keep (by with_reducible assumption))) (by walk_at "ho") (hli.at fun q hq => (Led.nw (by with_reducible assumption) _ (.tail _ (.tail _ hq))).1) (by omega) (by omega) (by omega) fun h7 n7 hst => ?_
          have V7 := Led.grow (by with_reducible assumption) hst
          clear hst
          cases hfk : fitsAt (last.map Tk.itm) (x.drop kk) with
          | false =>
            repeat walk_at "zz"
            refine (if_pos trivial).mpr ?_
            repeat walk_at "zz"
            refine hno _ _ (Led.keep (by assumption)) ?_
            rw [hrun2, hfk]
          | true =>
            repeat walk_at "zz"
            refine hyes _ _ _ (Led.keep (by assumption)) ?_
            rw [hrun2, hfk]
end
/-! str.translate of one sign by the module's table -/
section
def escTab : List (Nat × Tok × Tok) := [(40, 334, 338), (41, 340, 344), (91, 346, 350), (93, 352, 356), (123, 358, 362), (125, 364, 368), (63, 370, 374), (42, 376, 380), (43, 382, 386), (45, 388, 392), (124, 394, 398), (94, 400, 404), (36, 406, 410), (92, 412, 416), (46, 418, 422), (38, 424, 428), (126, 430, 434), (35, 436, 440), (32, 442, 446), (9, 448, 452), (10, 454, 458), (13, 460, 464), (11, 466, 470), (12, 472, 476)]
def escEs : Array DictEntry := (escTab.map fun p => (⟨p.1, .int p.1 p.2.1, .str (mkS [92, p.1]) p.2.2⟩ : DictEntry)).toArray
theorem esc_lookup (w : World) : ∃ o, (KF w).lookup 45 = some o ∧ o.ExactDict ∧ o.data = .dict escEs 24 := ⟨_, rfl, ⟨rfl, rfl, rfl⟩, by with_unfolding_all rfl⟩
theorem esc_map {w : World} {h : Heap} (prog : Program) (X : (KF w).In h) : h.MapOf (intKind prog w) 45 (findBy (intKind prog w).is escEs) := by
  obtain ⟨o, ho, he, hd⟩ := esc_lookup w
  refine ⟨o, escEs, 24, X _ _ ho, he, hd, ?_, fun _ => rfl⟩
  intro e hm
  simp only [escEs, List.mem_toArray, List.mem_map] at hm
  obtain ⟨p, hp, rfl⟩ := hm
  refine ⟨p.1, by simp [intKind, Value.isInt], ?_⟩
  have : ∀ p ∈ escTab, ((p.1 : Nat) : Int) = hashInt (p.1 : Int) := by decide +kernel
  exact this p hp
theorem escTab_fst : escTab.map (·.1) = specials := rfl
theorem esc_miss {prog : Program} {w : World} {c : Nat} (hc : specials.contains c = false) : findBy (intKind prog w).is escEs (c : Int) = none := by
  have : escEs.find? (fun e => (intKind prog w).is (c : Int) e.key) = none := by
    rw [escEs, List.find?_toArray, List.find?_eq_none]
    intro e he
    obtain ⟨p, hp, rfl⟩ := List.mem_map.mp he
    intro q
    simp only [intKind, Value.isInt] at q
    have q' : ((p.1 : Nat) : Int) = (c : Int) := beq_iff_eq.mp q
    have q2 : p.1 = c := by omega
    have : c ∈ specials := by rw [← escTab_fst, ← q2]; exact List.mem_map_of_mem hp
    rw [List.contains_iff_mem.mpr this] at hc
    cases hc
  rw [findBy, this]; rfl
theorem esc_hit {prog : Program} {w : World} {c : Nat} (hc : specials.contains c = true) : ∃ t, findBy (intKind prog w).is escEs (c : Int) = some (.str (mkS [92, c]) t) := by
  have : ∀ p ∈ escTab, findBy Value.isInt escEs (p.1 : Int) = some (.str (mkS [92, p.1]) p.2.2) := by
    intro p hp
    simp only [escTab, List.mem_cons, List.not_mem_nil, or_false] at hp
    rcases hp with rfl | rfl | rfl | rfl | rfl | rfl | rfl | rfl | rfl | rfl | rfl | rfl | rfl | rfl | rfl | rfl | rfl | rfl | rfl | rfl | rfl | rfl | rfl | rfl <;> kernel_rfl
  have hm := List.contains_iff_mem.mp hc
  rw [← escTab_fst] at hm
  obtain ⟨p, hp, rfl⟩ := List.mem_map.mp hm
  exact ⟨_, this p hp⟩
end
section
variable {prog : Program} {w : World} {mg mb : Str → Option Value} {A : Around} {E : Value → Shared → Prop} {h : Heap} {g : Array GenState} {d : Drawn} {tk : Nat} {os : OsState}
theorem tl_hit {c : Nat} {Q : Builtin.Str.Mapped → Shared → Prop} (X : (KF w).In h) (hc : specials.contains c = true) (z : ∀ k, Q (.text (mkS [92, c])) ⟨h, g, d, k, os⟩) :
    wpAny (model prog w) A (Builtin.Str.tableLookup (.ref 45) c) Q E ⟨h, g, d, tk, os⟩ := by
  obtain ⟨t, ht⟩ := esc_hit (prog := prog) (w := w) hc
  unfold Builtin.Str.tableLookup
  refine wpAny_bind (wpAny_attempt (wpAny_bind (wpAny_mkInt' (wpAny_getItem_of (intKind_is prog w _ _) (esc_map (h := h) prog X) ht ?_))))
  refine wpAny_bind (wpAny_pure ?_)
  exact wpAny_bind (wpAny_pure (wpAny_pure (z _)))
theorem tl_miss {c : Nat} {Q : Builtin.Str.Mapped → Shared → Prop} (X : (KF w).In h) (hh : A.handled = none) (hc : specials.contains c = false) (z : ∀ h' k, h.StaysIn h' → Q .keep ⟨h', g, d, k, os⟩) :
    wpAny (model prog w) A (Builtin.Str.tableLookup (.ref 45) c) Q E ⟨h, g, d, tk, os⟩ := by
  have ht := esc_miss (prog := prog) (w := w) hc
  unfold Builtin.Str.tableLookup
  refine wpAny_bind (wpAny_attempt (wpAny_bind (wpAny_mkInt' (wpAny_getItem_missing_of (intKind_is prog w _ _) (by decide) hh (esc_map (h := h) prog X) ht fun h' e N => ?_))))
  refine wpAny_bind (wpAny_isInstance (T := "KeyError") (b := true) ?_ (by rw [isSubtype_type]; kernel_rfl) ?_)
  · obtain ⟨_, _, o, _, ho, hcl, _⟩ := N
    exact ⟨o, ho, hcl⟩
  refine wpAny_bind (wpAny_rule ?_)
  exact wpAny_pure (z _ _ N.1)

theorem b_translate {c : Nat} {t : Tok} {Q : Fin → Shared → Prop} (X : (KF w).In h) (hh : A.handled = none) (z : ∀ h' k t', h.StaysIn h' → Q (.done (.ret (.str (mkS (escL c)) t'))) ⟨h', g, d, k, os⟩) :
    wpAny (model prog w) A (Builtin.«str.translate» ⟨[.str (mkS [c]) t, .ref 45], []⟩) Q E ⟨h, g, d, tk, os⟩ := by
  unfold Builtin.«str.translate» Builtin.Str.strOneArg
  refine wpAny_bind (wpAny_bind ?_)
  refine wpAny_of_eq (a := (Value.str (mkS [c]) t, Value.ref 45)) rfl ?_
  refine wpAny_bind (wpAny_of_eq (a := mkS [c]) rfl ?_)
  refine wpAny_pure ?_
  simp only [mkS, List.forIn_toArray, List.forIn_cons, List.forIn_nil]
  have hlen : ((⟨[c].toArray⟩ : Str).length == 0) = false := rfl
  simp only [hlen, Bool.false_eq_true, if_false]
  have hall : [c].toArray.all (fun x => decide (x < 128)) = decide (c < 128) := by simp
  have ht0 : Builtin.Str.tooLong 0 = false := by decide
  have ht1 : Builtin.Str.tooLong (0 + 1) = false := by decide
  have ht2 : Builtin.Str.tooLong (0 + (⟨[92, c].toArray⟩ : Str).length) = false := by simp [Str.length, Builtin.Str.tooLong]; decide
  simp only [hall, ht0, Bool.false_eq_true, if_false, List.lookup_nil]
  by_cases h8 : c < 128
  · simp only [decide_eq_true h8, if_true]
    cases hc : specials.contains c with
    | true =>
      refine wpAny_bind (wpAny_bind (wpAny_bind (tl_hit X hc fun k => ?_)))
      simp only [mkS, show ((⟨[92, c].toArray⟩ : Str).length == 1) = false from rfl, Bool.false_and, Bool.false_eq_true, if_false]
      refine wpAny_bind (wpAny_pure ?_)
      refine wpAny_bind (wpAny_rule ?_)
      refine wpAny_bind (tl_hit X hc fun k2 => ?_)
      refine wpAny_pure (wpAny_pure ?_)
      dsimp only [mkS]
      rw [if_neg (by rw [ht2]; exact Bool.false_ne_true)]
      unfold retStr
      refine wpAny_bind (wpAny_mkStr' ?_ ?_)
      · refine wpAny_pure ?_
        have e : ({ cps := List.foldl (fun acc p => acc ++ p.cps) #[] [(⟨[92, c].toArray⟩ : Str)].reverse } : Str) = mkS (escL c) := by
          rw [escL, hc]; simp [mkS]
        rw [e]
        exact z _ _ _ fun _ _ q => q
      · simp [Str.length, sizeLine]
    | false =>
      refine wpAny_bind (wpAny_bind (wpAny_bind (tl_miss X hh hc fun h' k hst => ?_)))
      refine wpAny_bind (wpAny_pure ?_)
      refine wpAny_pure (wpAny_pure ?_)
      dsimp only
      rw [if_neg (by rw [ht1]; exact Bool.false_ne_true)]
      unfold retStr
      refine wpAny_bind (wpAny_mkStr' ?_ ?_)
      · refine wpAny_pure ?_
        have e : ({ cps := List.foldl (fun acc p => acc ++ p.cps) #[] [(⟨#[c]⟩ : Str)].reverse } : Str) = mkS (escL c) := by
          rw [escL, hc]; simp [mkS]
        rw [e]
        exact z _ _ _ hst
      · simp [Str.length, sizeLine]
  · simp only [decide_eq_false h8, Bool.false_eq_true, if_false]
    have hc : specials.contains c = false := by
      cases q : specials.contains c with
      | false => rfl
      | true =>
        have : ∀ c ∈ specials, c < 128 := by decide
        exact absurd (this c (List.contains_iff_mem.mp q)) h8
    refine wpAny_bind (wpAny_bind (wpAny_bind (tl_miss X hh hc fun h' k hst => ?_)))
    refine wpAny_pure (wpAny_pure ?_)
    dsimp only
    rw [if_neg (by rw [ht1]; exact Bool.false_ne_true)]
    unfold retStr
    refine wpAny_bind (wpAny_mkStr' ?_ ?_)
    · refine wpAny_pure ?_
      have e : ({ cps := List.foldl (fun acc p => acc ++ p.cps) #[] [(⟨#[c]⟩ : Str)].reverse } : Str) = mkS (escL c) := by
        rw [escL, hc]; simp [mkS]
      rw [e]
      exact z _ _ _ hst
    · simp [Str.length, sizeLine]
theorem z_translate {c : Nat} {t : Tok} {Q : Value → Shared → Prop} (X : (KF w).In h) (hh : A.handled = none) (z : ∀ h' k t', h.StaysIn h' → Q (.str (mkS (escL c)) t') ⟨h', g, d, k, os⟩) :
    wpAny (model prog w) A (call (.builtin "str.translate") [.str (mkS [c]) t, .ref 45]) Q E ⟨h, g, d, tk, os⟩ := by
  refine wpAny_call (codeAny_call_builtin F.slot_str_translate.plain F.entry_str_translate (F.slot_str_translate.check _ _ _ _ _ _ _ _ (typeIs_str _ _ _) (F.args_str_translate_2 _ _) ?_))
  exact b_translate X hh fun h' k t' hst => z h' k t' hst
theorem gm_translate {x : Str} {t : Tok} {s : Shared} {M : Model} {pl : Sem Bool} {Q : Value × List Value → Shared → Prop} (h : Q (.builtin "str.translate", [.str x t]) s) : wpAny M A (getMethod (.str x t) "translate" pl) Q E s := by
  with_reducible exact GM.of (.str x t) (typeIs_str _ _ _) F.slot_str_translate F.type_str_translate GM.noRef h
end
section
variable {prog : Program} {w : World} {mg mb : Str → Option Value} {A : Around} {E : Value → Shared → Prop} {h : Heap} {g : Array GenState} {d : Drawn} {tk : Nat} {os : OsState}
set_option pp.proofs false
theorem c_escape {c : Nat} {t : Tok} {Q : Value → Shared → Prop} (O : Ok A 10 100) (D : Gd w mg mb h)
    (hQ : ∀ h' n t', h.StaysIn h' → Q (.str (mkS (escL c)) t') ⟨h', g, d, n, os⟩) :
    wpAny (model prog w) A (call (.ref 55) [.str (mkS [c]) t]) Q E ⟨h, g, d, tk, os⟩ := by
  refine enter [("pattern", .str (mkS [c]) t)] (O.le : Ok A (9+1) (97+3)) D rfl rfl rfl rfl rfl rfl rfl rfl ?_
  intro L h₁ tk₁ A' V O'
  repeat walk_at "zz"
  with_reducible refine IsiPair.str_str ?_
  repeat walk_at "zz"
  with_reducible refine gm_translate ?_
  repeat walk_at "zz"
  show wpAny _ _ (call (.builtin "str.translate") [.str (mkS [c]) t, .ref 45]) _ _ _
  with_reducible refine z_translate (D.keeps (Led.keep (by with_reducible assumption))).X O'.hd fun h2 n2 t2 hst => ?_
  have V1 := Led.grow (by with_reducible assumption) hst
  repeat walk_at "zz"
  exact hQ _ _ _ (Led.keep (by assumption))
end
/-! object() -/
theorem mro_object : mroOf (.type "object") = pure [.type "object"] := by rw [mroOf_type]; kernel_rfl
theorem lookup_object_new : typeLookup (.type "object") "__new__" = pure (some (.builtin "object.__new__")) := by rw [typeLookup_type, builtinLookup_eq_fast]; kernel_rfl
theorem called_object : TypeCalled "object" "object.__new__" "object.__init__" :=
  ⟨by decide +kernel, by decide +kernel, ⟨_, _, mro_object⟩, madeBy_type mro_object lookup_object_new (by decide +kernel), by decide +kernel, by rw [isSubtype_type]; kernel_rfl, F.slot_object_init⟩
theorem typeCall_object_0 : checkTypeCall "object" ⟨[], []⟩ = pure () := by kernel_rfl
theorem newCall_object_0 : checkBuiltinCall "object.__new__" ⟨[.type "object"], []⟩ = pure () := by kernel_rfl
theorem entry_object_new' : entryFor table "object.__new__" = some Builtin.«object.__new__» := entryFor_of_tree (by kernel_rfl)
theorem meets_object_new : Meets (Builtin.«object.__new__» ⟨[.type "object"], []⟩) (fun _ R s => R (.ok (.ret (.ref s.heap.objs.size))) { s with heap := s.heap.push { cls := .type "object", data := .plain } }) := by
  refine Meets.of_wp fun prog w A R s hs => ?_
  unfold Builtin.«object.__new__»
  dsimp only
  have h1 : isType (.type "object") = pure true := rfl
  rw [h1]
  refine wpAny_bind (wpAny_pure ?_)
  rw [if_neg (by decide)]
  refine wpAny_bind ?_
  rw [if_neg (by decide +kernel)]
  refine wpAny_of_eq (a := ()) (by first | kernel_rfl | (unfold Bind.madeHere; kernel_rfl)) ?_
  rw [if_neg (by decide +kernel)]
  refine wpAny_bind (wpAny_pure ?_)
  unfold newObj
  refine wpAny_bind (wpAny_bind (wpAny_alloc (wpAny_pure ?_)))
  rw [if_neg (by decide +kernel)]
  exact wpAny_pure ⟨_, rfl, hs⟩
section
variable {prog : Program} {w : World} {A : Around} {E : Value → Shared → Prop} {h : Heap} {g : Array GenState} {d : Drawn} {t : Nat} {os : OsState}
theorem z_object {Q : Value → Shared → Prop} (z : Q (.ref h.objs.size) ⟨h.push { cls := .type "object", data := .plain }, g, d, t, os⟩) :
    wpAny (model prog w) A (call (.type "object") []) Q E ⟨h, g, d, t, os⟩ := by
  refine callType_meets (Q₁ := fun obj s₁ => obj = .ref h.objs.size ∧ s₁ = ⟨h.push { cls := .type "object", data := .plain }, g, d, t, os⟩) called_object typeCall_object_0 newCall_object_0 entry_object_new' F.entry_object_init meets_object_new ⟨rfl, rfl⟩ fun obj s₁ hq => ?_
  obtain ⟨rfl, rfl⟩ := hq
  refine ⟨⟨_, Heap.get?_push_size _ rfl, rfl⟩, F.args_object_init_1 _, _, (Meets.of_wp fun prog w A R s hs => wpAny_pure ⟨_, rfl, hs⟩ : Meets (Builtin.«object.__init__» ⟨[.ref h.objs.size], []⟩) (fun _ R s => R (.ok (.ret .none)) s)), ?_⟩
  exact ⟨rfl, z⟩
end
/-! the lambda: a function object, and the table of the code objects may grow -/
theorem list_set_same {α : Type} : ∀ {l : List α} {i : Nat} {x : α}, l[i]? = some x → l.set i x = l
  | [], _, _, h => by simp at h
  | y :: l, 0, x, h => by simp at h; simp [h]
  | y :: l, i + 1, x, h => by simp at h; simp [list_set_same h]
section
variable {prog : Program} {w : World} {mg mb : Str → Option Value} {A : Around} {E : Value → Shared → Prop} {h : Heap} {g : Array GenState} {d : Drawn} {t : Nat} {os : OsState}
variable {B : Heap} {L a : Addr} {m : Str → Option Value} {cn : Str} {cs : Scope} {news : List (Addr × Obj)}
theorem z_lam {i : Nat} {ps : Array Value} {params : Arguments} {body : Expr} {scope : Scope} {pos : Pos} {Q : Value → Shared → Prop} (V : Led B L m h news) (D : Gd w mg mb B) (hi : news[i]? = some (57, tabObj ps)) (ht : TriplesOk ps.toList)
    (hdef : defaultsOf params (envOf cn cs L a (.ref 61)) = ([], [])) (hcl : closureFor scope (envOf cn cs L a (.ref 61)) = pure [])
    (z : ∀ f o h' tk ps', TriplesOk ps'.toList → o.cls = .type "function" → Led B L m h' ((f, o) :: news.set i (57, tabObj ps')) → Q (.ref f) ⟨h', g, d, tk, os⟩) :
    wpAny (model prog w) A (eval (.Lambda params body scope pos) (envOf cn cs L a (.ref 61))) Q E ⟨h, g, d, t, os⟩ := by
  have n57 := V.nw _ (List.mem_of_getElem? hi)
  have hP : h.get? 57 = some (tabObj ps) := n57.1
  have hB : B.get? 57 = none := n57.2.1
  have C : CodeHd h 61 57 := codeHd_of_K (D.keeps V.keep).X (by rfl)
  obtain ⟨bm, ob, b1, b2, b3, b4, b5, b6⟩ := D.bmain
  have hgs := D.g
  have hbP : bm ≠ 57 := fun q => by rw [q, hB] at b3; cases b3
  have hbG : bm ≠ mainGlobals := fun q => by
    obtain ⟨o, es, ep, e, hd, _⟩ := hgs
    rw [q, e] at b3; cases b3; rw [hd] at b6; cases b6
  have hgP : mainGlobals ≠ 57 := by decide
  have hbA : h.BuiltinsAt mg 57 := ⟨bm, ob, b1, b2, hbG, hbP, V.keep _ _ b3, b4, b5, b6⟩
  have fin : ∀ (h'' : Heap) (o : Obj) (ps' : Array Value), TriplesOk ps'.toList → o.cls = .type "function" → o.isFreed = false → Led B L m h'' (news.set i (57, tabObj ps')) → ∀ tk, Q (.ref h''.objs.size) ⟨h''.push o, g, d, tk, os⟩ :=
    fun h'' o ps' ht hc hf V tk => z _ o _ tk ps' ht hc (V.push o hf)
  refine kla_eval hdef ?_
  cases hf : codeAmong pos ps.toList with
  | some cv =>
    refine kla_makeFunctionHit (mg := mg) hcl rfl (hgs.keeps V.keep) rfl C hP ht hf hbA fun ctv h' tk hk hsz => ?_
    refine fin h' _ ps ht ?_ ?_ ?_ tk
    · exact rfl
    · exact rfl
    · rw [list_set_same hi]
      exact V.grow hk
  | none =>
    refine kla_makeFunction (mg := mg) hcl rfl (hgs.keeps V.keep) rfl C hP ht hf hgP hbA fun c' ctv h' tk hx hge hlt hrec hg => ?_
    refine fin h' _ (ps ++ #[rawInt pos.line, rawInt pos.col, .ref c']) (by rw [Array.toList_append]; exact TriplesOk_snoc _ _ _ _ ht) ?_ ?_ ?_ tk
    · exact rfl
    · exact rfl
    · exact V.upd i hi (fun b ob hb e => hx b ob hb e) hg
end
/-! res.append as a value -/
abbrev boundO (l : Addr) : Obj := { cls := .type "builtin_function_or_method", data := .fields #[.builtin "list.append", .ref l] }
theorem md_get : typeLookup (.type "method_descriptor") "__get__" = pure (some (.builtin "method_descriptor.__get__")) := by rw [typeLookup_type, builtinLookup_eq_fast]; kernel_rfl
theorem md_set : typeLookup (.type "method_descriptor") "__set__" = pure none := by rw [typeLookup_type, builtinLookup_eq_fast]; kernel_rfl
theorem md_delete : typeLookup (.type "method_descriptor") "__delete__" = pure none := by rw [typeLookup_type, builtinLookup_eq_fast]; kernel_rfl
theorem md_entry : entryFor table "method_descriptor.__get__" = some Builtin.«method_descriptor.__get__» := entryFor_of_tree (by kernel_rfl)
theorem md_slot : Slot "method_descriptor" "__get__" "method_descriptor.__get__" :=
  .of (owner := "method_descriptor") (n := "__get__") (by rw [typeLookup_type, builtinLookup_eq_fast]; kernel_rfl) (by decide +kernel) (by decide +kernel) (by decide +kernel)
    (by first | exact .inl (by decide +kernel) | exact .inr (by decide +kernel)) (by rw [isSubtype_type]; kernel_rfl)
theorem md_args (a b c : Value) : argsOk "method_descriptor.__get__" ⟨[a, b, c], []⟩ := by unfold argsOk; kernel_rfl
section
variable {prog : Program} {w : World} {A : Around} {E : Value → Shared → Prop} {h : Heap} {g : Array GenState} {d : Drawn} {t : Nat} {os : OsState}
theorem meets_append (a : Addr) (xs : Array Value) (k : Nat) (u : Tok) :
    Meets (Builtin.«object.__getattribute__» ⟨[.ref a, .str "append" u], []⟩) (fun A R s => s.heap.get? a = some { cls := .type "list", data := .seq xs k } ∧ (R (.ok (.ret (.ref s.heap.objs.size))) { s with heap := s.heap.push (boundO a) })) :=
  Meets.of_wp fun prog w A R s hs => by
    obtain ⟨hp, g, d, tk, os⟩ := s
    obtain ⟨hx, hs⟩ := hs
    have hT : (⟨hp, g, d, tk, os⟩ : Shared).TypeIs (.ref a) "list" := ⟨_, hx, rfl⟩
    have f1 := F.slot_list_append.lookup
    have f2 := F.type_list_append
    have f3 := md_get
    have f4 := md_set
    have f5 := md_delete
    have hname : (["__module__", "__name__", "__qualname__", "__doc__", "__annotations__"] : List Str).contains "append" = false := by decide
    unfold Builtin.«object.__getattribute__»
    repeat (any_goals (first | assumption | wp_step))
    refine codeAny_call_builtin md_slot.plain md_entry (md_slot.check _ _ _ _ _ _ _ _ (by exact F.type_list_append) (md_args _ _ _) ?_)
    unfold Builtin.«method_descriptor.__get__»
    have hsub : isSubtype (.type "list") (.type "list") = pure true := by rw [isSubtype_type]; kernel_rfl
    repeat (any_goals (first | assumption | wp_step))
    have hown : ".".intercalate ("list.append".cutAt '.').dropLast = "list" := by decide +kernel
    rw [hown]
    refine wpAny_of_eq hsub ?_
    rw [if_neg (by decide)]
    refine wpAny_pure ?_
    unfold newFields newObj
    refine wpAny_bind (wpAny_bind (wpAny_alloc (wpAny_pure ?_)))
    refine wpAny_pure ?_
    refine wpAny_pure ⟨_, rfl, hs⟩
theorem z_attrAppend {l : Addr} {vs : List Value} {n : Nat} {B : Heap} {L : Addr} {m : Str → Option Value} {news : List (Addr × Obj)} {Q : Value → Shared → Prop} (V : Led B L m h news) (ho : h.get? l = some (lst vs n))
    (z : ∀ q h' k, Led B L m h' ((q, boundO l) :: news) → Q (.ref q) ⟨h', g, d, k, os⟩) :
    wpAny (model prog w) A (getAttr (.ref l) "append" true) Q E ⟨h, g, d, t, os⟩ := by
  have hT : ∀ tk', (⟨h, g, d, tk', os⟩ : Shared).TypeIs (.ref l) "list" := fun _ => ⟨_, ho, rfl⟩
  have f3 := F.slot_list_getattribute.lookup
  have f4 := F.slot_list_getattribute.bind (.ref l)
  unfold getAttr getAttrBy
  repeat (any_goals (first | assumption | exact hT _ | ((with_reducible show wpAny _ _ (call (Value.builtin "list.__getattribute__") _) _ _ _); refine call_meets F.slot_list_getattribute (hT _) am_entry_list_getattribute (F.args_list_getattribute_2 _ _) (meets_append l vs.toArray n _) ⟨ho, ?_⟩) | wp_step))
  show wpAny _ _ (handedOut (.ref h.objs.size)) _ _ _
  exact wpAny_pure (z _ _ _ (V.push (boundO l) rfl))
end
section
variable {prog : Program} {w : World} {A : Around} {E : Value → Shared → Prop} {h : Heap} {g : Array GenState} {d : Drawn} {t : Nat} {os : OsState}
theorem bound_args (a b : Value) : ∃ sig, Manifest.signature? "list.append" = some sig ∧ Bind.checkArgs "list.append" { sig with full := s!"{Bind.lastOf "list"}.{Bind.lastOf "list.append"}" } ⟨[a, b], []⟩ = pure () := by
  have h : (match Manifest.signature? "list.append" with | some sig => Bind.checkArgs "list.append" { sig with full := s!"{Bind.lastOf "list"}.{Bind.lastOf "list.append"}" } ⟨[a, b], []⟩ | none => (unsupported "x" : Sem Unit)) = pure () := by
    rw [signature?_of (id := "list.append") (n := ['d', 'n', 'e', 'p', 'p', 'a']) (o := ['t', 's', 'i', 'l']) (by kernel_rfl) F.owner_list]; kernel_rfl
  cases q : Manifest.signature? "list.append" with
  | some s => rw [q] at h; exact ⟨s, rfl, h⟩
  | none => rw [q] at h; cases h
theorem z_callBound {q l : Addr} {vs : List Value} {x : Value} {n : Nat} {B : Heap} {L : Addr} {m : Str → Option Value} {news : List (Addr × Obj)} {Q : Value → Shared → Prop} (i : Nat) (V : Led B L m h news) (hq : h.get? q = some (boundO l)) (hi : news[i]? = some (l, lst vs n)) (hz : vs.length ≤ 16777216)
    (z : ∀ h', Led B L m h' (news.set i (l, lst (vs ++ [x]) (n + 1))) → Q .none ⟨h', g, d, t, os⟩) :
    wpAny (model prog w) A (call (.ref q) [x]) Q E ⟨h, g, d, t, os⟩ := by
  refine wpAny_call (codeAny_of_tree ?_)
  show wpAny _ A.in1 (callAny (.ref q) _) _ _ _
  unfold callAny
  refine wpAny_bind (wpAny_load hq ?_)
  dsimp only
  rw [if_pos (by decide)]
  show wpAny _ _ (if (Value.type "builtin_function_or_method" != Value.type "method") = true then (do checkBoundCall "list.append" ⟨[.ref l, x], []⟩; again (.builtin "list.append" ⟨[.ref l, x], []⟩)) else _) _ _ _
  rw [if_pos (by decide)]
  have hT : (⟨h, g, d, t, os⟩ : Shared).TypeIs (.ref l) "list" := ⟨_, V.at i hi, rfl⟩
  have hkind : builtinKind "list.append" = some .method := by kernel_rfl
  have hmod : isSubtype (.type "list") (.type "module") = pure false := by rw [isSubtype_type]; kernel_rfl
  have hty : isSubtype (.type "list") (.type "type") = pure false := by rw [isSubtype_type]; kernel_rfl
  refine wpAny_bind ?_
  unfold checkBoundCall
  obtain ⟨sig, hsig, hargs⟩ := bound_args (.ref l) x
  rw [hsig, hkind]
  dsimp only
  rw [if_neg (by decide)]
  refine wpAny_bind (wpAny_isInstance hT hmod ?_)
  rw [if_neg (by decide +kernel)]
  repeat (any_goals (first | assumption | exact hT | wp_step))
  refine wpAny_loadPart (V.at i hi) ?_
  refine wpAny_pure ?_
  rw [if_neg (by exact Bool.false_ne_true)]
  refine wpAny_bind (wpAny_typeOf hT ?_)
  dsimp only
  refine wpAny_of_eq (a := ()) hargs ?_
  refine wpAny_pure ⟨plainId_quiet (by decide +kernel) _, codeAny_builtin F.entry_list_append ?_⟩
  rw [Around.under_plainId (id := "list.append") (by decide +kernel) _]
  show wpAny _ _ (updateSeq l (·.push x) >>= fun _ => ret .none) _ _ _
  refine wpAny_bind ?_
  refine wpAny_updateSeq (V.at i hi) rfl (wpAny_pure ?_) (by rw [List.size_toArray]; exact hz) (by rw [Array.size_push, List.size_toArray]; exact Nat.succ_le_succ hz)
  refine z _ (V.upd i hi (fun b ob hb e => (Heap.get?_update_other _ _ hb.symm).trans e) ?_)
  rw [Heap.get?_update_self _ (V.at i hi) (by rfl)]
  show some _ = some _
  rw [show Obj.mapSeq (fun x_1 => x_1.push x) (lst vs n) = lst (vs ++ [x]) (n + 1) from by
    rw [show Obj.mapSeq (fun x_1 => x_1.push x) (lst vs n) = { cls := .type "list", data := .seq (vs.toArray.push x) (n + 1) } from mapSeq_push _ _ _ _ _, List.push_toArray]]
theorem z_cwb {M : Model} {s : Shared} {env : Env} {pos : Pos} {q l : Addr} {e : Expr} {rest : List Expr} {Q : Value → Shared → Prop}
    (x : wpAny M A (spliced (backTo pos (starEach (e :: rest) env))) (fun vs s₁ => s₁.heap.get? q = some (boundO l) ∧ wpAny M A (call (.ref q) vs) Q E s₁) E s)
    (he : starEach (e :: rest) env = (false, eval e env) :: starEach rest env) (hp : ((backTo pos (starEach rest env)).any fun x => x.fst) = false) :
    wpAny M A (callWith pos (.ref q) [] (backTo pos (starEach (e :: rest) env)) []) Q E s := by
  rw [he] at x ⊢
  refine callWith_of (P := fun h => h.get? q = some (boundO l)) (by show ((false || (backTo pos (starEach rest env)).any (·.1)) || false) = false; rw [hp]; rfl) (fun h hq => ⟨.machine, .inr (.inl rfl), (Looks.ld (part := none) hq).andThen .now⟩) (evalArgs_plain x)
end
/-! _twin_re_1.sub on a text that it finds nothing in -/
theorem plainAttrs_rePattern : PlainAttrs "re.Pattern" := by
  first
  | exact ⟨⟨"re.Pattern.__getattribute__", by rw [typeLookup_type, builtinLookup_eq_fast]; kernel_rfl, by decide +kernel⟩, by rw [typeLookup_type, builtinLookup_eq_fast]; kernel_rfl⟩
  | exact ⟨⟨"object.__getattribute__", by rw [typeLookup_type, builtinLookup_eq_fast]; kernel_rfl, by decide +kernel⟩, by rw [typeLookup_type, builtinLookup_eq_fast]; kernel_rfl⟩
theorem slot_re_sub : Slot "re.Pattern" "sub" "re.Pattern.sub" :=
  .of (owner := "re.Pattern") (n := "sub") (by rw [typeLookup_type, builtinLookup_eq_fast]; kernel_rfl) (by decide +kernel) (by decide +kernel) (by decide +kernel)
    (by first | exact .inl (by decide +kernel) | exact .inr (by decide +kernel)) (by rw [isSubtype_type]; kernel_rfl)
theorem type_re_sub : typeOf (.builtin "re.Pattern.sub") = pure (.type "method_descriptor") := by show builtinType _ = _; rw [builtinType_eq_fast]; kernel_rfl
theorem entry_re_sub : entryFor table "re.Pattern.sub" = some Builtin.«re.Pattern.sub» := entryFor_of_tree (by kernel_rfl)
theorem args_re_sub (a b c : Value) : argsOk "re.Pattern.sub" ⟨[a, b, c], []⟩ := by
  unfold argsOk; kernel_rfl
theorem entry_re_loop : entryFor table "re.Pattern.sub.loop" = some Builtin.«re.Pattern.sub.loop» := entryFor_of_tree (by kernel_rfl)
theorem func_call : ∃ r, typeLookup (.type "function") "__call__" = pure (some r) := ⟨.builtin "function.__call__", by rw [typeLookup_type, builtinLookup_eq_fast]; kernel_rfl⟩
def reCode : Array Nat := #[14, 14, 4, 1, 1, 9, 0, 64, 0, 1342177280, 0, 0, 0, 0, 0, 17, 0, 13, 11, 9, 0, 64, 0, 1342177280, 0, 0, 0, 0, 0, 17, 1, 1]
/-- nothing is found -/
def NoFind (x : Str) : Prop := ((Sre.forSearch reCode x.cps 1 0 x.cps.size false).runFor 4).outcome = some .failed
open Builtin.Re in
theorem re_drive {M : Model} {A : Around} {E : Value → Shared → Prop} {s : Shared} {m : Sre.M} {Q : Sre.M → Shared → Prop} {n : Nat} (ho : (m.runFor 4).outcome = some .failed) (z : Q (m.runFor 4) s) : wpAny M A (reDrive (n + 1) m) Q E s := by
  show wpAny M A (if (m.runFor 4).outcome.isSome = true then _ else _) Q E s
  rw [if_pos (by rw [ho]; rfl)]
  exact wpAny_pure z
theorem re_rules {M : Model} {A : Around} {E : Value → Shared → Prop} {s : Shared} {c : Nat → Bool} {r : Nat → String} {Q : PUnit → Shared → Prop} : ∀ (l : List Nat), Q ⟨⟩ s → wpAny M A (forIn l PUnit.unit fun i __s => do
    if c i = true then do
      rule (r i)
      pure (ForInStep.yield PUnit.unit)
    else pure (ForInStep.yield PUnit.unit)) Q E s
  | [], z => wpAny_pure z
  | i :: l, z => by
    rw [List.forIn_cons]
    by_cases h : c i = true
    · rw [if_pos h]
      exact wpAny_bind (wpAny_bind (wpAny_rule (wpAny_pure (re_rules l z))))
    · rw [if_neg h]
      exact wpAny_bind (wpAny_pure (re_rules l z))
open Builtin.Re in
theorem re_run {M : Model} {A : Around} {E : Value → Shared → Prop} {s : Shared} {m : Sre.M} {Q : Option Sre.M → Shared → Prop} (ho : (m.runFor 4).outcome = some .failed) (z : Q none s) : wpAny M A (reRunToEnd m) Q E s := by
  unfold reRunToEnd
  refine wpAny_bind ?_
  rw [show (2 ^ 64 : Nat) = (2 ^ 64 - 1) + 1 from by decide]
  refine re_drive ho ?_
  generalize Sre.M.runFor 4 m = m' at *
  refine wpAny_bind (re_rules _ ?_)
  rw [ho]
  exact wpAny_pure z
section
variable {prog : Program} {w : World} {mg mb : Str → Option Value} {A : Around} {E : Value → Shared → Prop} {h : Heap} {g : Array GenState} {d : Drawn} {tk : Nat} {os : OsState}
open Builtin.Re
theorem re_target {x : Str} {t : Tok} {Q : ReTarget → Shared → Prop} (X : (KF w).In h)
    (z : Q { pattern := .ref 36, string := .str x t, code := reCode, text := x.cps, kind := 0, groups := 1, pos := 0, lim := x.cps.size } ⟨h, g, d, tk, os⟩) :
    wpAny (model prog w) A (reWholeTarget (.ref 36) (.str x t)) Q E ⟨h, g, d, tk, os⟩ := by
  obtain ⟨o, h36, hd⟩ : ∃ o, (KF w).lookup 36 = some o ∧ o.data = .fields #[.str "([&~|])" 285, .int 32 320, .int 1 0, .none, .none, .ref 35, .int 0 0] := ⟨_, rfl, by with_unfolding_all rfl⟩
  obtain ⟨o', h35, hd'⟩ : ∃ o, (KF w).lookup 35 = some o ∧ o.data = .seq (reCode.map fun n : Nat => .int (n : Int) 0) 0 := ⟨_, rfl, by with_unfolding_all rfl⟩
  unfold reWholeTarget
  refine wpAny_bind (wpAny_fieldsOf (X _ _ h36) hd ?_)
  refine wpAny_bind (wpAny_of_eq (a := (x.cps, 0)) rfl ?_)
  dsimp only
  rw [if_neg (by decide), if_neg (by decide)]
  refine wpAny_bind (wpAny_of_eq (a := ()) rfl ?_)
  refine wpAny_bind ?_
  refine wpAny_bind (wpAny_seqItems (X _ _ h35) hd' ?_)
  refine wpAny_pure (wpAny_pure ?_)
  have e : Array.map (fun x => x.toNat) (Array.map reRawOf ((some (Array.map (fun n : Nat => Value.int (↑n) 0) reCode)).getD #[])) = reCode := by kernel_rfl
  rw [e]
  exact z

theorem re_loop {x : Str} {t : Tok} {f l : Addr} {Q : Fin → Shared → Prop} (X : (KF w).In h) (hl : h.get? l = some (lst [] 0)) (hf : NoFind x) (h0 : 0 < x.length) (h1 : x.length ≤ 100)
    (z : ∀ k t', Q (.done (.ret (.str x t'))) ⟨h.update l (Obj.mapSeq (·.push (.str x tk))), g, d, k, os⟩) :
    wpAny (model prog w) A (Builtin.«re.Pattern.sub.loop» ⟨[.ref 36, .str x t, .ref f, rawInt 1, rawInt 0, rawInt 0, rawInt 0, rawInt 0, .bool false, .ref l, .bool false], []⟩) Q E ⟨h, g, d, tk, os⟩ := by
  unfold Builtin.«re.Pattern.sub.loop»
  refine wpAny_bind (re_target X ?_)
  dsimp only [rawInt]
  rw [if_neg (by decide)]
  refine wpAny_bind ?_
  rw [if_neg (by decide)]
  unfold reNextFound
  refine re_run hf ?_
  dsimp only
  rw [if_pos (by exact h0)]
  have e1 : (⟨x.cps.extract 0 x.cps.size⟩ : Str) = x := by simp
  refine wpAny_bind ?_
  show wpAny _ _ (mkStr ⟨x.cps.extract 0 x.cps.size⟩) _ _ _
  rw [e1]
  refine wpAny_mkStr' ?_ (by simp only [sizeLine]; omega)
  refine wpAny_bind (wpAny_updateSeq hl rfl ?_ (by simp [sizeLine]) (by simp [sizeLine]))
  refine wpAny_bind ?_
  show wpAny _ _ (mkStr ⟨x.cps.extract 0 0⟩) _ _ _
  refine wpAny_mkStr' ?_ (by simp [sizeLine, Str.length])
  have hl2 : (h.update l (Obj.mapSeq (·.push (.str x tk)))).get? l = some (lst [.str x tk] 1) := by
    rw [Heap.get?_update_self _ hl (by rfl)]
    rfl
  refine wpAny_bind (wpAny_seqItems hl2 rfl ?_)
  rw [if_neg (show ¬(((some #[Value.str x tk] : Option (Array Value)).getD #[]).isEmpty = true) from Bool.false_ne_true)]
  refine wpAny_bind ?_
  show wpAny _ _ (call (.builtin "str.join") [.str ⟨x.cps.extract 0 0⟩ (tk + 1), .ref l]) _ _ ⟨h.update l (Obj.mapSeq (·.push (.str x tk))), g, d, _, os⟩
  refine SC.join (l := [(x, tk)]) (texts := [x]) (isList_of hl2) rfl ?_ fun t' k => ?_
  · show (!PySem.Builtin.Str.tooLong (0 + x.length + (⟨x.cps.extract 0 0⟩ : Str).length)) = true
    have : (⟨x.cps.extract 0 0⟩ : Str).length = 0 := by simp [Str.length]
    rw [this]
    have : PySem.Builtin.Str.tooLong (0 + x.length + 0) = false := decide_eq_false (by simp only [sizeLine]; omega)
    rw [this]; rfl
  · rw [if_neg (by decide)]
    refine wpAny_pure ?_
    exact z _ _
theorem quiet_re_loop (args : Args) : (Code.builtin "re.Pattern.sub.loop" args).quiet = true := plainId_quiet (by decide +kernel) args
theorem plain_re_loop : plainId "re.Pattern.sub.loop" = true := by decide +kernel
theorem z_resub {x : Str} {t : Tok} {f : Addr} {o : Obj} {Q : Value → Shared → Prop} (X : (KF w).In h) (ho : h.get? f = some o) (hc : o.cls = .type "function") (hf : NoFind x) (h0 : 0 < x.length) (h1 : x.length ≤ 100)
    (z : ∀ h' k t', h.StaysIn h' → Q (.str x t') ⟨h', g, d, k, os⟩) :
    wpAny (model prog w) A (call (.builtin "re.Pattern.sub") [.ref 36, .ref f, .str x t]) Q E ⟨h, g, d, tk, os⟩ := by
  obtain ⟨o36, h36, h36c⟩ : ∃ o, (KF w).lookup 36 = some o ∧ o.cls = .type "re.Pattern" := ⟨_, rfl, rfl⟩
  refine wpAny_call (codeAny_call_builtin slot_re_sub.plain entry_re_sub (slot_re_sub.check _ _ _ _ _ _ _ _ ⟨o36, X _ _ h36, h36c⟩ (args_re_sub _ _ _) ?_))
  unfold Builtin.«re.Pattern.sub» reSubstitute
  refine wpAny_bind (wpAny_of_eq (a := [some (Value.ref f), some (Value.str x t), none]) rfl ?_)
  dsimp only
  refine wpAny_bind (wpAny_of_eq (a := 0) rfl ?_)
  obtain ⟨r, hr⟩ := func_call
  refine wpAny_bind (wpAny_specialOf (T := "function") (r := some r) ⟨o, ho, hc⟩ hr ?_)
  rw [Option.isSome_some, if_pos rfl]
  refine wpAny_bind (wpAny_pure ?_)
  rw [if_pos rfl]
  refine wpAny_bind (wpAny_pure ?_)
  refine wpAny_bind (wpAny_holding (re_target X ?_))
  dsimp only
  rw [if_pos (by decide)]
  refine wpAny_bind ?_
  unfold reNotHeld
  refine wpAny_bind (wpAny_isInstance (T := "str") (b := false) (typeIs_str _ _ _) (by rw [isSubtype_type]; kernel_rfl) ?_)
  rw [if_neg (by decide)]
  refine wpAny_pure ?_
  refine wpAny_bind (wpAny_newList ?_)
  refine wpAny_pure (a := Fin.again _) ⟨quiet_re_loop _, codeAny_builtin entry_re_loop ?_⟩
  rw [Around.under_plainId plain_re_loop _]
  have hk : h.StaysIn (h.push (lst [] 0)) := stays_push h _
  have hl : (h.push (lst [] 0)).get? h.objs.size = some (lst [] 0) := Heap.get?_push_size _ rfl
  refine re_loop (X.keeps hk) hl hf h0 h1 fun k t' => ?_
  refine z _ k t' fun b ob e => ?_
  rw [Heap.get?_update_other _ _ (fun q => by rw [← q, get_size_none] at e; cases e)]
  exact hk _ _ e
end
def stuffs : List (List Nat) := [[97, 98], [42], [63], [91], [33, 34], [33, 34, 34], [33, 34, 34, 34, 34], [33, 97, 34], [33, 97, 34, 34], [33, 97, 34, 34, 34, 34]]
theorem noFind_stuff {x : List Nat} (hx : x ∈ stuffs) : NoFind (mkS x) := by
  simp only [stuffs, List.mem_cons, List.not_mem_nil, or_false] at hx
  rcases hx with rfl | rfl | rfl | rfl | rfl | rfl | rfl | rfl | rfl | rfl <;> (unfold NoFind; kernel_rfl)
theorem gm_sub {w : World} {h : Heap} {g : Array GenState} {d : Drawn} {tk : Nat} {os : OsState} {M : Model} {A : Around} {E : Value → Shared → Prop} {pl : Sem Bool} {Q : Value × List Value → Shared → Prop} (X : (KF w).In h) (x : Q (.builtin "re.Pattern.sub", [.ref 36]) ⟨h, g, d, tk, os⟩) :
    wpAny M A (getMethod (.ref 36) "sub" pl) Q E ⟨h, g, d, tk, os⟩ := by
  obtain ⟨o36, h36, h36c, h36d⟩ : ∃ o, (KF w).lookup 36 = some o ∧ o.cls = .type "re.Pattern" ∧ o.dict = none := ⟨_, rfl, rfl, rfl⟩
  exact getMethod_builtin ⟨o36, X _ _ h36, h36c⟩ plainAttrs_rePattern slot_re_sub type_re_sub (fun a e => by injection e with e; subst e; exact ⟨o36, X _ _ h36, h36d⟩) x
def stuffOk (y : List Nat) : Bool := decide (y ≠ [] ∧ y.length ≤ 6 ∧ y ≠ [33]) && !y.contains 45 && !y.contains 93 && noOcc y [92]
theorem stuff_ok {y : List Nat} (hy : y ∈ stuffs) : stuffOk y = true := by
  have : ∀ y ∈ stuffs, stuffOk y = true := by decide +kernel
  exact this y hy
/-! _translate -/
def ptxt : Option Tk → List Nat
  | none => [42]
  | some (.lit c) => [c]
  | some (.set neg cs) => 91 :: ((if neg then 33 :: cs else cs) ++ [93])
def pats (ts : List (Option Tk)) : List Nat := ts.flatMap ptxt
def okT : Option Tk → Prop
  | none => True
  | some (.lit c) => c ≠ 42 ∧ c ≠ 63 ∧ c ≠ 91
  | some (.set neg cs) => (if neg then 33 :: cs else cs) ∈ stuffs ∧ (neg = false → cs.head? ≠ some 33)
def stepP (acc : List (Option (List Nat))) : Option Tk → List (Option (List Nat))
  | none => if acc.getLast? = some none then acc else acc ++ [none]
  | some t => acc ++ [some t.enc]
def parts (ts : List (Option Tk)) : List (Option (List Nat)) := ts.foldl stepP []
theorem stuff_body {y : List Nat} (hy : y ∈ stuffs) : ∀ y0 y', y = y0 :: y' → bodyE y' = y' ∧ y0 ≠ 94 := by
  have : ∀ y ∈ stuffs, bodyE y.tail = y.tail ∧ y.head? ≠ some 94 := by decide +kernel
  intro y0 y' e
  subst e
  have h := this _ hy
  exact ⟨h.1, by simpa using h.2⟩
theorem parts_snoc (ts : List (Option Tk)) (t : Option Tk) : parts (ts ++ [t]) = stepP (parts ts) t := by simp [parts]
theorem stepP_len (acc : List (Option (List Nat))) (t : Option Tk) : (stepP acc t).length ≤ acc.length + 1 := by
  cases t with
  | none => simp only [stepP]; split <;> simp
  | some t => simp [stepP]
theorem foldl_len : ∀ (ts : List (Option Tk)) (acc : List (Option (List Nat))), (ts.foldl stepP acc).length ≤ acc.length + ts.length
  | [], acc => by simp
  | t :: ts, acc => by
    have h1 := foldl_len ts (stepP acc t)
    have h2 := stepP_len acc t
    simp only [List.foldl_cons, List.length_cons]
    omega
theorem parts_len (ts : List (Option Tk)) : (parts ts).length ≤ ts.length := by
  have := foldl_len ts []
  simpa [parts] using this
def PartV (st : Addr) (v : Value) : Option (List Nat) → Prop
  | none => v = .ref st
  | some x => ∃ t, v = .str (mkS x) t
theorem partV_str {st : Addr} {x y : List Nat} {t : Tok} (e : x = y) : PartV st (.str (mkS x) t) (some y) := ⟨t, by rw [e]⟩
def PartsV (st : Addr) : List Value → List (Option (List Nat)) → Prop
  | [], [] => True
  | v :: vs, p :: ps => PartV st v p ∧ PartsV st vs ps
  | _, _ => False
theorem PartsV.snoc {st : Addr} {v : Value} {p : Option (List Nat)} : ∀ {vs : List Value} {ps : List (Option (List Nat))}, PartsV st vs ps → PartV st v p → PartsV st (vs ++ [v]) (ps ++ [p])
  | [], [], _, y => ⟨y, trivial⟩
  | _ :: _, _ :: _, ⟨x, r⟩, y => ⟨x, r.snoc y⟩
  | [], _ :: _, x, _ => x.elim
  | _ :: _, [], x, _ => x.elim
theorem PartsV.length {st : Addr} : ∀ {vs : List Value} {ps : List (Option (List Nat))}, PartsV st vs ps → vs.length = ps.length
  | [], [], _ => rfl
  | _ :: _, _ :: _, ⟨_, r⟩ => by simp [r.length]
  | [], _ :: _, x => x.elim
  | _ :: _, [], x => x.elim
theorem PartsV.get {st : Addr} : ∀ {vs : List Value} {ps : List (Option (List Nat))} {k : Nat} {p : Option (List Nat)}, PartsV st vs ps → ps[k]? = some p → ∃ v, vs[k]? = some v ∧ PartV st v p
  | v :: _, _ :: _, 0, _, ⟨x, _⟩, e => ⟨v, rfl, by cases e; exact x⟩
  | _ :: _, _ :: _, k + 1, _, ⟨_, r⟩, e => by
    obtain ⟨i, h1, h2⟩ := r.get (k := k) (by simpa using e)
    exact ⟨i, by simpa using h1, h2⟩
  | [], [], _, _, _, e => by simp at e
  | _ :: _, [], _, _, x, _ => x.elim
  | [], _ :: _, _, _, x, _ => x.elim
theorem PartsV.last {st : Addr} {vs : List Value} {ps : List (Option (List Nat))} {p : Option (List Nat)} (x : PartsV st vs ps) (e : ps.getLast? = some p) : vs ≠ [] ∧ ∃ v, vs[vs.length - 1]? = some v ∧ PartV st v p := by
  have hl := x.length
  rw [List.getLast?_eq_getElem?] at e
  obtain ⟨v, h1, h2⟩ := x.get e
  rw [hl]
  exact ⟨fun q => by rw [q] at h1; simp at h1, v, h1, h2⟩
theorem Led.own57 {B : Heap} {L : Addr} {m : Str → Option Value} {h : Heap} {o : Obj} (V : Led B L m h []) (e : B.get? 57 = some o) : Led (hideAll B [57]) L m h [(57, o)] := by
  refine ⟨V.ns, fun b o' q => V.keep b o' (of_hideAll _ q), ?_, fun p hp => ?_, ?_⟩
  · cases q : (hideAll B [57]).get? L with
    | none => rfl
    | some o' => have := of_hideAll _ q; rw [V.noL] at this; cases this
  · rcases List.mem_cons.mp hp with rfl | hp
    · exact ⟨V.keep _ _ e, hideAll_none _ (.head _), fun q => by have := V.noL; rw [← q] at this; rw [this] at e; cases e⟩
    · cases hp
  · exact List.Pairwise.cons (fun _ hb => by cases hb) List.Pairwise.nil
section
variable {prog : Program} {w : World} {mg mb : Str → Option Value} {A : Around} {E : Value → Shared → Prop} {h : Heap} {g : Array GenState} {d : Drawn} {tk : Nat} {os : OsState}
set_option pp.proofs false
theorem s_isNot_ref {s : Shared} {Q : Value → Shared → Prop} {y : List Nat} {u : Tok} {b : Addr} (x : Q (.bool true) s) : wpAny (model prog w) A (compareOp .IsNot (.str (mkS y) u) (.ref b)) Q E s :=
  wpAny_bind (wpAny_of_eq (a := false) rfl (wpAny_pure x))
theorem c_transl {ts : List (Option Tk)} {st : Addr} {tp tq : Tok} {ps : Array Value} {Q : Value → Shared → Prop} (O : Ok A 40 400) (D : Gd w mg mb (hideAll h [57])) (hP : h.get? 57 = some (tabObj ps)) (hps : TriplesOk ps.toList)
    (hok : ∀ t ∈ ts, okT t) (hl : ts.length ≤ 10000) (hpl : (pats ts).length ≤ 100000)
    (hQ : ∀ h' n a vs k ps', (hideAll h [57]).StaysIn h' → h'.get? 57 = some (tabObj ps') → TriplesOk ps'.toList → h'.get? a = some (lst vs k) → h.get? a = none → PartsV st vs (parts ts) → Q (.ref a) ⟨h', g, d, n, os⟩) :
    wpAny (model prog w) A (call (.ref 62) [.str (mkS (pats ts)) tp, .ref st, .str (mkS [46]) tq]) Q E ⟨h, g, d, tk, os⟩ := by
  refine enter [("pat", .str (mkS (pats ts)) tp), ("STAR", .ref st), ("QUESTION_MARK", .str (mkS [46]) tq)] (O.le : Ok A (39+1) (397+3)) (D.keeps fun b o e => of_hideAll _ e) rfl rfl rfl rfl rfl rfl rfl rfl ?_
  intro L h₁ tk₁ A' V O'
  have V := V.own57 hP
  have hnew : ∀ a : Addr, a ≠ 57 → (hideAll h [57]).get? a = none → h.get? a = none := fun a ha e => by
    cases q : h.get? a with
    | none => rfl
    | some o => rw [hideAll_get _ q (by simpa using ha)] at e; cases e
  generalize hideAll h [57] = B at *
  repeat walk_at "zz"
  with_reducible refine z_attrName ?_
  repeat walk_at "zz"
  refine z_attrAppend (by with_reducible assumption) (by walk_at "ho") fun q0 h2 k2 V2 => ?_
  repeat walk_at "zz"
  refine PyProof.Rows.Assign_Tuple_swapped (names := ["i", "n"]) ?_ (by rfl) (by rfl)
  repeat walk_at "zz"
  refine z_swap2 O'.hd (by with_reducible assumption) (by walk_at "ho") fun h3 V3 => ?_
  repeat walk_at "zz"
  refine z_while (fun n s => ∃ aR q done todo m hh t2 rs nr ps, ∃ (i : Nat), ∃ ti tn, s = ⟨hh, g, d, t2, os⟩ ∧ Led B L m hh ((q, boundO aR) :: (aR, lst rs nr) :: (57, tabObj ps) :: []) ∧ m "pat" = some (.str (mkS (pats ts)) tp) ∧ m "STAR" = some (.ref st) ∧ m "res" = some (.ref aR) ∧ m "add" = some (.ref q) ∧ m "i" = some (.int i ti) ∧
    m "n" = some (.int (pats ts).length tn) ∧ ts = done ++ todo ∧ (pats ts).drop i = pats todo ∧ i ≤ (pats ts).length ∧ TriplesOk ps.toList ∧ PartsV st rs (parts done) ∧ n = todo.length) ts.length ?_ ?_
  · exact ⟨_, q0, [], ts, _, _, _, [], _, _, 0, _, _, rfl, Led.tail (by assumption), rfl, rfl, rfl, rfl, rfl, rfl, rfl, rfl, Nat.zero_le _, hps, (show PartsV st [] (parts []) from trivial), rfl⟩
  · rintro n s ⟨aR, q, done, todo, m, hh, t2, rs, nr, ps, i, ti, tn, rfl, V, hm1, hm2, hm3, hm4, hm5, hm6, hts, hdi, hin, hps, hpv, rfl⟩
    have hdl : done.length ≤ 10000 := by rw [hts, List.length_append] at hl; omega
    have hrl : rs.length ≤ 10000 := by rw [hpv.length]; exact Nat.le_trans (parts_len done) hdl
    cases todo with
    | nil =>
      have hie : i = (pats ts).length := by
        have := congrArg List.length hdi
        simp [pats] at this
        simp [pats] at hin ⊢
        omega
      rw [List.append_nil] at hts
      subst hts
      repeat walk_at "zz"
      refine z_iteF (decide_eq_false (by omega)) ?_
      repeat walk_at "zz"
      refine wpAny_Assert_holds ?_
      repeat walk_at "zz"
      refine ⟨by rw [beq_iff_eq]; omega, ?_⟩
      repeat walk_at "zz"
      have ha := V.nw _ (.tail _ (.head _))
      have h57 := V.nw _ (.tail _ (.tail _ (.head _)))
      have hne : aR ≠ 57 := by
        have := V.ord
        simp only [List.map_cons, List.map_nil, List.pairwise_cons] at this
        exact this.2.1 57 (.head _)
      exact hQ _ _ aR rs _ _ V.keep h57.1 hps ha.1 (hnew _ hne ha.2.1) hpv
    | cons t todo =>
      have hokt := hok t (by rw [hts]; simp)
      have hstep : parts (done ++ [t]) = stepP (parts done) t := parts_snoc done t
      have hts2 : ts = (done ++ [t]) ++ todo := by rw [hts]; simp
      have hdi2 : (pats ts).drop i = ptxt t ++ pats todo := hdi
      have hlen : i + (ptxt t).length ≤ (pats ts).length := by
        have := congrArg List.length hdi2
        simp only [List.length_drop, List.length_append] at this
        omega
      have hnxt : (pats ts).drop (i + (ptxt t).length) = pats todo := drop_add hdi2
      cases t with
      | none =>
        have hc := (drop_cons_get (show (pats ts).drop i = 42 :: pats todo from hdi2)).1
        simp only [ptxt, List.length_cons, List.length_nil] at hlen hnxt
        repeat walk_at "zz"
        refine z_iteT (decide_eq_true (by omega)) ?_
        repeat walk_at "zz"
        refine z_iteT (by decide) ?_
        repeat walk_at "zz"
        cases hlast : (parts done).getLast? with
        | none =>
          have hre : rs = [] := List.eq_nil_of_length_eq_zero (by rw [hpv.length, List.getLast?_eq_none_iff.mp hlast]; rfl)
          subst hre
          refine z_iteT rfl ?_
          repeat walk_at "zz"
          refine z_cwb (l := aR) ?_ (by rfl) (by rfl)
          repeat walk_at "zz"
          refine ⟨by walk_at "ho", ?_⟩
          refine z_callBound 1 (by with_reducible assumption) (by walk_at "ho") rfl (by omega) fun h4 V4 => ?_
          dsimp only [List.set_cons_succ, List.set_cons_zero] at V4
          repeat walk_at "zz"
          refine l_next todo.length (Nat.lt_succ_self _) ?_
          exact ⟨aR, q, done ++ [none], todo, _, _, _, _, _, ps, i + 1, _, _, rfl, V4, by assumption, by assumption, by assumption, by assumption, rfl, by assumption, hts2, hnxt, hlen, hps,
            by rw [hstep, stepP, hlast, if_neg (by simp)]; exact hpv.snoc rfl, rfl⟩
        | some p =>
          obtain ⟨hne, v, hv, hvp⟩ := hpv.last hlast
          have hr1 : 1 ≤ rs.length := by cases rs with | nil => exact absurd rfl hne | cons => simp
          have hv' : rs[((-1 : Int) + (rs.length : Int)).toNat]? = some v := by rw [show ((-1 : Int) + (rs.length : Int)).toNat = rs.length - 1 from by omega]; exact hv
          refine z_iteF (by cases rs with | nil => exact absurd rfl hne | cons => rfl) ?_
          cases p with
          | none =>
            obtain rfl : v = .ref st := hvp
            repeat walk_at "zz"
            refine wpAny_isNot_ref_self ?_
            repeat walk_at "zz"
            refine l_next todo.length (Nat.lt_succ_self _) ?_
            exact ⟨aR, q, done ++ [none], todo, _, _, _, _, _, ps, i + 1, _, _, rfl, by assumption, by assumption, by assumption, by assumption, by assumption, rfl, by assumption, hts2, hnxt, hlen, hps,
              by rw [hstep, stepP, hlast, if_pos rfl]; exact hpv, rfl⟩
          | some x =>
            obtain ⟨u, rfl⟩ := hvp
            repeat walk_at "zz"
            refine z_cwb (l := aR) ?_ (by rfl) (by rfl)
            repeat walk_at "zz"
            refine ⟨by walk_at "ho", ?_⟩
            refine z_callBound 1 (by with_reducible assumption) (by walk_at "ho") rfl (by omega) fun h4 V4 => ?_
            dsimp only [List.set_cons_succ, List.set_cons_zero] at V4
            repeat walk_at "zz"
            refine l_next todo.length (Nat.lt_succ_self _) ?_
            exact ⟨aR, q, done ++ [none], todo, _, _, _, _, _, ps, i + 1, _, _, rfl, V4, by assumption, by assumption, by assumption, by assumption, rfl, by assumption, hts2, hnxt, hlen, hps,
              by rw [hstep, stepP, hlast, if_neg (by simp)]; exact hpv.snoc rfl, rfl⟩
      | some t =>
        cases t with
        | lit c =>
          obtain ⟨hc42, hc63, hc91⟩ := hokt
          have hc := (drop_cons_get (show (pats ts).drop i = c :: pats todo from hdi2)).1
          simp only [ptxt, List.length_cons, List.length_nil] at hlen hnxt
          repeat walk_at "zz"
          refine z_iteT (decide_eq_true (by omega)) ?_
          repeat walk_at "zz"
          refine z_iteF (decide_eq_false (by simpa using hc42)) ?_
          repeat walk_at "zz"
          refine z_iteF (decide_eq_false (by simpa using hc63)) ?_
          repeat walk_at "zz"
          refine z_iteF (decide_eq_false (by simpa using hc91)) ?_
          repeat walk_at "zz"
          refine z_cwb (l := aR) ?_ (by rfl) (by rfl)
          repeat walk_at "zz"
          refine c_escape (O'.le) (D.keeps (Led.keep (by with_reducible assumption))) fun h5 k5 t5 hst => ?_
          have V5 := Led.grow (by with_reducible assumption) hst
          repeat walk_at "zz"
          refine ⟨by walk_at "ho", ?_⟩
          refine z_callBound 1 (by with_reducible assumption) (by walk_at "ho") rfl (by omega) fun h4 V4 => ?_
          dsimp only [List.set_cons_succ, List.set_cons_zero] at V4
          repeat walk_at "zz"
          refine l_next todo.length (Nat.lt_succ_self _) ?_
          exact ⟨aR, q, done ++ [some (.lit c)], todo, _, _, _, _, _, ps, i + 1, _, _, rfl, V4, by assumption, by assumption, by assumption, by assumption, rfl, by assumption, hts2, hnxt, hlen, hps,
            by rw [hstep]; exact hpv.snoc ⟨_, rfl⟩, rfl⟩
        | set neg cs =>
          obtain ⟨hy, hyn⟩ := hokt
          have hyo := stuff_ok hy
          have hyf := noFind_stuff hy
          have hyb := stuff_body hy
          simp only [ptxt] at hdi2 hlen hnxt
          generalize hyd : (if neg = true then 33 :: cs else cs) = y at *
          have hdi3 : (pats ts).drop i = 91 :: (y ++ 93 :: pats todo) := by rw [hdi2]; simp
          simp only [stuffOk, Bool.and_eq_true, decide_eq_true_eq, Bool.not_eq_true'] at hyo
          obtain ⟨⟨⟨⟨hy0, hyl, hy33⟩, hy45⟩, hy93⟩, hyr⟩ := hyo
          have hc := (drop_cons_get hdi3).1
          have hd1 : (pats ts).drop (i + 1) = y ++ 93 :: pats todo := (drop_cons_get hdi3).2
          have hd2 : (pats ts).drop (i + 1 + y.length) = 93 :: pats todo := drop_add hd1
          have hlen' : i + 1 + y.length + 1 ≤ (pats ts).length := by
            simp only [List.length_cons, List.length_append, List.length_nil] at hlen
            omega
          have hchar : ∀ k, k < y.length → (pats ts)[i + 1 + k]? = y[k]? := fun k hk => by
            have := congrArg (fun l => l[k]?) hd1
            simp only [List.getElem?_drop, List.getElem?_append_left hk] at this
            exact this
          have hcl : (pats ts)[i + 1 + y.length]? = some 93 := (drop_cons_get hd2).1
          have hsl : ((pats ts).take (i + 1 + y.length)).drop (i + 1) = y := by
            rw [List.drop_take, hd1]
            simp
          repeat walk_at "zz"
          refine z_iteT (decide_eq_true (by omega)) ?_
          repeat walk_at "zz"
          refine z_iteF (by decide) ?_
          repeat walk_at "zz"
          refine z_iteF (by decide) ?_
          repeat walk_at "zz"
          refine z_iteT (by decide) ?_
          repeat walk_at "zz"
          refine z_iteT (decide_eq_true (by omega)) ?_
          cases y with
          | nil => exact absurd rfl hy0
          | cons y0 y' =>
          have hyl1 : y'.length ≤ 5 := by simp only [List.length_cons] at hyl; omega
          obtain ⟨hbody, hy94⟩ : bodyE y' = y' ∧ y0 ≠ 94 := hyb _ _ rfl
          have hc0 : (pats ts)[i + 1]? = some y0 := hchar 0 (by simp)
          have hmem : ∀ c ∈ y0 :: y', c ≠ 93 := fun c hc e => by
            have : (y0 :: y').contains 93 = true := List.contains_iff_mem.mpr (e ▸ hc)
            rw [hy93] at this
            cases this
          repeat walk_at "zz"
          cases neg with
          | true =>
            obtain ⟨rfl, rfl⟩ : 33 = y0 ∧ cs = y' := by simpa using hyd
            cases cs with
            | nil => exact absurd rfl hy33
            | cons y1 y2 =>
            have hyl2 : y2.length ≤ 4 := by simp only [List.length_cons] at hyl1; omega
            have hc1 : (pats ts)[i + 1 + 1]? = some y1 := hchar 1 (by simp)
            refine z_iteT (by decide) ?_
            repeat walk_at "zz"
            refine z_iteT (decide_eq_true (by simp only [List.length_cons] at hlen'; omega)) ?_
            repeat walk_at "zz"
            refine z_iteF (decide_eq_false (by simpa using hmem y1 (by simp))) ?_
            repeat walk_at "zz"
            refine z_while (fun n s => ∃ m hh t2, ∃ (j : Nat), ∃ tj, s = ⟨hh, g, d, t2, os⟩ ∧ Led B L m hh ((q, boundO aR) :: (aR, lst rs nr) :: (57, tabObj ps) :: []) ∧ m "pat" = some (.str (mkS (pats ts)) tp) ∧ m "STAR" = some (.ref st) ∧ m "res" = some (.ref aR) ∧ m "add" = some (.ref q) ∧ (∃ ti1, m "i" = some (.int (↑i + 1) ti1)) ∧
              m "n" = some (.int (pats ts).length tn) ∧ m "j" = some (.int j tj) ∧ i + 1 ≤ j ∧ j ≤ i + 1 + (33 :: y1 :: y2).length ∧ n = i + 1 + (33 :: y1 :: y2).length - j) (i + 1 + (33 :: y1 :: y2).length - (i + 1 + 1)) ?_ ?_
            · exact ⟨_, _, _, (i + 1 + 1), _, rfl, by assumption, by assumption, by assumption, by assumption, by assumption, ⟨_, rfl⟩, by assumption, rfl, by omega, by simp only [List.length_cons]; omega, rfl⟩
            · rintro n s ⟨m, hh, t2, j, tj, rfl, V, hm1, hm2, hm3, hm4, ⟨ti1, hm5⟩, hm6, hm7, hj1, hj2, rfl⟩
              by_cases hj : j = i + 1 + (33 :: y1 :: y2).length
              · subst hj
                have hn1 : i + 1 + (33 :: y1 :: y2).length < (pats ts).length := by omega
                repeat walk_at "zz"
                refine z_iteT (decide_eq_true (by omega)) ?_
                repeat walk_at "zz"
                refine z_iteF (by decide) ?_
                repeat walk_at "zz"
                refine z_iteF (decide_eq_false (by omega)) ?_
                repeat walk_at "zz"
                generalize hYg : List.drop ((i : Int) + 1).toNat (List.take ((i + 1 + (33 :: y1 :: y2).length : Nat) : Int).toNat (pats ts)) = Yv at *
                obtain rfl : Yv = (33 :: y1 :: y2) := hYg.symm.trans hsl
                refine z_iteT (by rw [hy45]; rfl) ?_
                repeat walk_at "zz"
                refine s_replace hyr ?_
                repeat walk_at "zz"
                refine gm_sub (D.keeps (Led.keep (by with_reducible assumption))).X ?_
                repeat walk_at "zz"
                refine z_lam (i := 2) (by with_reducible assumption) D rfl hps rfl rfl (fun f o h5 k5 ps5 hps5 hoc V5 => ?_)
                dsimp only [List.set_cons_succ, List.set_cons_zero] at V5
                repeat walk_at "zz"
                refine z_resub (D.keeps (Led.keep (by with_reducible assumption))).X (by walk_at "ho") hoc hyf (by rw [mkS_len]; simp only [List.length_cons]; omega) (by rw [mkS_len]; omega) fun h6 k6 t6 hst => ?_
                have V6 := (Led.grow (by with_reducible assumption) hst).tail
                repeat walk_at "zz"
                refine z_iteF (by simp) ?_
                repeat walk_at "zz"
                refine z_iteF (decide_eq_false hy33) ?_
                have hY0 : (33 :: y1 :: y2)[(0 : Int).toNat]? = some 33 := rfl
                repeat walk_at "zz"
                refine z_iteT (by decide) ?_
                repeat walk_at "zz"
                refine z_cwb (l := aR) ?_ (by rfl) (by rfl)
                repeat walk_at "zz"
                refine ⟨by walk_at "ho", ?_⟩
                refine z_callBound 1 (by with_reducible assumption) (by walk_at "ho") rfl (by omega) fun h4 V4 => ?_
                dsimp only [List.set_cons_succ, List.set_cons_zero] at V4
                repeat walk_at "zz"
                refine l_next todo.length (Nat.lt_succ_self _) ?_
                exact ⟨aR, q, done ++ [some (.set true (y1 :: y2))], todo, _, _, _, _, _, ps5, i + 1 + (33 :: y1 :: y2).length + 1, _, _, rfl, V4, by assumption, by assumption, by assumption, by assumption, rfl, by assumption, hts2, (drop_cons_get hd2).2, by omega, hps5,
                  by rw [hstep]; exact hpv.snoc (partV_str (by simp [Tk.enc, hbody])), rfl⟩
              · have hjl : j - (i + 1) < (33 :: y1 :: y2).length := by omega
                have hcj : (pats ts)[j]? = some (33 :: y1 :: y2)[j - (i + 1)] := by
                  have := hchar (j - (i + 1)) hjl
                  rw [show i + 1 + (j - (i + 1)) = j from by omega, List.getElem?_eq_getElem hjl] at this
                  exact this
                have hc93 : (33 :: y1 :: y2)[j - (i + 1)] ≠ 93 := hmem _ (List.getElem_mem hjl)
                generalize (33 :: y1 :: y2)[j - (i + 1)] = cj at hcj hc93
                repeat walk_at "zz"
                refine z_iteT (decide_eq_true (by omega)) ?_
                repeat walk_at "zz"
                refine z_iteT (decide_eq_true (by simpa using hc93)) ?_
                repeat walk_at "zz"
                refine l_next (i + 1 + (33 :: y1 :: y2).length - (j + 1)) (by omega) ?_
                exact ⟨_, _, _, j + 1, _, rfl, by assumption, by assumption, by assumption, by assumption, by assumption, ⟨_, by assumption⟩, by assumption, rfl, by omega, by omega, rfl⟩

          | false =>
            have hcs : cs = y0 :: y' := by simpa using hyd
            have hy33' : y0 ≠ 33 := by
              have := hyn rfl
              rw [hcs] at this
              simpa using this
            refine z_iteF (decide_eq_false (by simpa using hy33')) ?_
            repeat walk_at "zz"
            refine z_iteT (decide_eq_true (by omega)) ?_
            repeat walk_at "zz"
            refine z_iteF (decide_eq_false (by simpa using hmem y0 (by simp))) ?_
            repeat walk_at "zz"
            refine z_while (fun n s => ∃ m hh t2, ∃ (j : Nat), ∃ tj, s = ⟨hh, g, d, t2, os⟩ ∧ Led B L m hh ((q, boundO aR) :: (aR, lst rs nr) :: (57, tabObj ps) :: []) ∧ m "pat" = some (.str (mkS (pats ts)) tp) ∧ m "STAR" = some (.ref st) ∧ m "res" = some (.ref aR) ∧ m "add" = some (.ref q) ∧ (∃ ti1, m "i" = some (.int (↑i + 1) ti1)) ∧
              m "n" = some (.int (pats ts).length tn) ∧ m "j" = some (.int j tj) ∧ i + 1 ≤ j ∧ j ≤ i + 1 + (y0 :: y').length ∧ n = i + 1 + (y0 :: y').length - j) (i + 1 + (y0 :: y').length - (i + 1)) ?_ ?_
            · exact ⟨_, _, _, (i + 1), _, rfl, by assumption, by assumption, by assumption, by assumption, by assumption, ⟨_, rfl⟩, by assumption, rfl, by omega, by simp only [List.length_cons]; omega, rfl⟩
            · rintro n s ⟨m, hh, t2, j, tj, rfl, V, hm1, hm2, hm3, hm4, ⟨ti1, hm5⟩, hm6, hm7, hj1, hj2, rfl⟩
              by_cases hj : j = i + 1 + (y0 :: y').length
              · subst hj
                have hn1 : i + 1 + (y0 :: y').length < (pats ts).length := by omega
                repeat walk_at "zz"
                refine z_iteT (decide_eq_true (by omega)) ?_
                repeat walk_at "zz"
                refine z_iteF (by decide) ?_
                repeat walk_at "zz"
                refine z_iteF (decide_eq_false (by omega)) ?_
                repeat walk_at "zz"
                generalize hYg : List.drop ((i : Int) + 1).toNat (List.take ((i + 1 + (y0 :: y').length : Nat) : Int).toNat (pats ts)) = Yv at *
                obtain rfl : Yv = (y0 :: y') := hYg.symm.trans hsl
                refine z_iteT (by rw [hy45]; rfl) ?_
                repeat walk_at "zz"
                refine s_replace hyr ?_
                repeat walk_at "zz"
                refine gm_sub (D.keeps (Led.keep (by with_reducible assumption))).X ?_
                repeat walk_at "zz"
                refine z_lam (i := 2) (by with_reducible assumption) D rfl hps rfl rfl (fun f o h5 k5 ps5 hps5 hoc V5 => ?_)
                dsimp only [List.set_cons_succ, List.set_cons_zero] at V5
                repeat walk_at "zz"
                refine z_resub (D.keeps (Led.keep (by with_reducible assumption))).X (by walk_at "ho") hoc hyf (by rw [mkS_len]; simp only [List.length_cons]; omega) (by rw [mkS_len]; omega) fun h6 k6 t6 hst => ?_
                have V6 := (Led.grow (by with_reducible assumption) hst).tail
                repeat walk_at "zz"
                refine z_iteF (by simp) ?_
                repeat walk_at "zz"
                refine z_iteF (decide_eq_false hy33) ?_
                have hY0 : (y0 :: y')[(0 : Int).toNat]? = some y0 := rfl
                repeat walk_at "zz"
                refine z_iteF (decide_eq_false (by simpa using hy33')) ?_
                repeat walk_at "zz"
                refine PyProof.Rows.in_tuple_strs (ys := [mkS [94], mkS [91]]) (isTup_of (by walk_at "ho")) (.cons _ _ (.cons _ _ .nil)) ?_
                repeat walk_at "zz"
                by_cases h91 : y0 = 91
                · subst h91
                  refine z_iteT (by decide) ?_
                  repeat walk_at "zz"
                  refine z_cwb (l := aR) ?_ (by rfl) (by rfl)
                  repeat walk_at "zz"
                  refine ⟨by walk_at "ho", ?_⟩
                  refine z_callBound 2 (by with_reducible assumption) (by walk_at "ho") rfl (by omega) fun h4 V4 => ?_
                  dsimp only [List.set_cons_succ, List.set_cons_zero] at V4
                  repeat walk_at "zz"
                  refine l_next todo.length (Nat.lt_succ_self _) ?_
                  exact ⟨aR, q, done ++ [some (.set false cs)], todo, _, _, _, _, _, ps5, i + 1 + (91 :: y').length + 1, _, _, rfl, V4.tail, by assumption, by assumption, by assumption, by assumption, rfl, by assumption, hts2, (drop_cons_get hd2).2, by omega, hps5,
                    by rw [hstep]; exact hpv.snoc (partV_str (by simp [Tk.enc, hbody, hcs, bodyE])), rfl⟩
                · refine z_iteF (by simp only [List.any_cons, List.any_nil, mkS_beq]; simp [Ne.symm h91, Ne.symm hy94]) ?_
                  repeat walk_at "zz"
                  refine z_cwb (l := aR) ?_ (by rfl) (by rfl)
                  repeat walk_at "zz"
                  refine ⟨by walk_at "ho", ?_⟩
                  refine z_callBound 2 (by with_reducible assumption) (by walk_at "ho") rfl (by omega) fun h4 V4 => ?_
                  dsimp only [List.set_cons_succ, List.set_cons_zero] at V4
                  repeat walk_at "zz"
                  refine l_next todo.length (Nat.lt_succ_self _) ?_
                  exact ⟨aR, q, done ++ [some (.set false cs)], todo, _, _, _, _, _, ps5, i + 1 + (y0 :: y').length + 1, _, _, rfl, V4.tail, by assumption, by assumption, by assumption, by assumption, rfl, by assumption, hts2, (drop_cons_get hd2).2, by omega, hps5,
                    by rw [hstep]; exact hpv.snoc (partV_str (by simp [Tk.enc, hbody, hcs, bodyE, h91])), rfl⟩
              · have hjl : j - (i + 1) < (y0 :: y').length := by omega
                have hcj : (pats ts)[j]? = some (y0 :: y')[j - (i + 1)] := by
                  have := hchar (j - (i + 1)) hjl
                  rw [show i + 1 + (j - (i + 1)) = j from by omega, List.getElem?_eq_getElem hjl] at this
                  exact this
                have hc93 : (y0 :: y')[j - (i + 1)] ≠ 93 := hmem _ (List.getElem_mem hjl)
                generalize (y0 :: y')[j - (i + 1)] = cj at hcj hc93
                repeat walk_at "zz"
                refine z_iteT (decide_eq_true (by omega)) ?_
                repeat walk_at "zz"
                refine z_iteT (decide_eq_true (by simpa using hc93)) ?_
                repeat walk_at "zz"
                refine l_next (i + 1 + (y0 :: y').length - (j + 1)) (by omega) ?_
                exact ⟨_, _, _, j + 1, _, rfl, by assumption, by assumption, by assumption, by assumption, by assumption, ⟨_, by assumption⟩, by assumption, rfl, by omega, by omega, rfl⟩
end
/-! _join_translated_parts -/
def segE (ts : List Tk) : List (Option (List Nat)) := ts.map fun t => some t.enc
def partsOf (first : List Tk) : More → List (Option (List Nat))
  | none => segE first
  | some (mids, last) => segE first ++ (mids.flatMap (fun m => none :: segE m) ++ none :: segE last)
theorem join_flat : ∀ xs : List (List Nat), Txt.join (mkS []) (xs.map mkS) = mkS xs.flatten := by
  intro xs
  refine (StrLaws.glued_eq_join _ _).trans ?_
  induction xs with
  | nil => rfl
  | cons x r ih =>
    cases r with
    | nil => simp [Str.join]
    | cons y r =>
      show mkS x ++ mkS [] ++ Str.join (mkS []) ((y :: r).map mkS) = _
      rw [ih, mkS_app, mkS_app]
      simp
theorem PartsV.strs {st : Addr} : ∀ {vs : List Value} {xs : List (List Nat)}, PartsV st vs (xs.map some) → StrsAre vs (xs.map mkS)
  | [], [], _ => .nil
  | _ :: _, _ :: _, ⟨⟨_, e⟩, r⟩ => by subst e; exact .cons _ _ r.strs
  | [], _ :: _, x => x.elim
  | _ :: _, [], x => x.elim
theorem lens_map (xs : List (List Nat)) : ((xs.map mkS).map (·.length)).sum = xs.flatten.length := by
  induction xs with
  | nil => rfl
  | cons x r ih => simp only [List.map_cons, List.sum_cons, List.flatten_cons, List.length_append, mkS_len, ih]
theorem encs_flat (ts : List Tk) : (ts.map Tk.enc).flatten = encs ts := by simp [encs, List.flatMap]
section
variable {prog : Program} {w : World} {mg mb : Str → Option Value} {A : Around} {E : Value → Shared → Prop} {h : Heap} {g : Array GenState} {d : Drawn} {tk : Nat} {os : OsState} {B : Heap} {L : Addr} {m : Str → Option Value} {news : List (Addr × Obj)}
set_option pp.proofs false
theorem s_joinE {st l : Addr} {vs : List Value} {n : Nat} {xs : List (List Nat)} {tx : Tok} {Q : Value → Shared → Prop} (ho : h.get? l = some (lst vs n)) (hi : PartsV st vs (xs.map some)) (hok : xs.flatten.length ≤ 16777216)
    (z : ∀ t' k, Q (.str (mkS xs.flatten) t') ⟨h, g, d, k, os⟩) : wpAny (model prog w) A (call (.builtin "str.join") [.str (mkS []) tx, .ref l]) Q E ⟨h, g, d, tk, os⟩ :=
  z_join ho hi.strs (by rw [lens_map, mkS_len]; simpa using hok) fun t' k => by rw [join_flat]; exact z t' k
/-- the rest of a text's parts behind the place i -/
theorem c_join {first : List Tk} {more : More} {st a : Addr} {vs : List Value} {k : Nat} {Q : Value → Shared → Prop} (O : Ok A 20 200) (D : Gd w mg mb h) (ha : h.get? a = some (lst vs k)) (hv : PartsV st vs (partsOf first more))
    (hl : vs.length ≤ 100000) (hr : (render first more).length ≤ 1000000) (hm : ∀ m ∈ more.mids, m ≠ [])
    (hQ : ∀ h' n t', h.StaysIn h' → Q (.str (mkS (render first more)) t') ⟨h', g, d, n, os⟩) :
    wpAny (model prog w) A (call (.ref 69) [.ref a, .ref st]) Q E ⟨h, g, d, tk, os⟩ := by
  refine enter [("inp", .ref a), ("STAR", .ref st)] (O.le : Ok A (19+1) (197+3)) D rfl rfl rfl rfl rfl rfl rfl rfl ?_
  intro L h₁ tk₁ A' V O'
  have hvl := hv.length
  repeat walk_at "zz"
  with_reducible refine z_attrName ?_
  repeat walk_at "zz"
  refine z_attrAppend (by with_reducible assumption) (by walk_at "ho") fun q0 h2 k2 V2 => ?_
  repeat walk_at "zz"
  refine PyProof.Rows.Assign_Tuple_swapped (names := ["i", "n"]) ?_ (by rfl) (by rfl)
  repeat walk_at "zz"
  refine z_swap2 O'.hd (by with_reducible assumption) (by walk_at "ho") fun h3 V3 => ?_
  repeat walk_at "zz"
  have hQ' : ∀ h' n t' T, h.StaysIn h' → T = render first more → Q (.str (mkS T) t') ⟨h', g, d, n, os⟩ := fun h' n t' T hs e => by subst e; exact hQ h' n t' hs
  have hrl : (encs first).length + (tailE more).length + 7 = (render first more).length := by simp only [render, List.length_append, List.length_cons, List.length_nil]; omega
  -- the first piece
  obtain ⟨rest, hps, hrest⟩ : ∃ rest, partsOf first more = segE first ++ rest ∧ ((rest = [] ∧ more = none) ∨ (∃ mids last, more = some (mids, last) ∧ rest = mids.flatMap (fun m => none :: segE m) ++ none :: segE last)) := by
    match more with
    | none => exact ⟨[], by simp [partsOf], .inl ⟨rfl, rfl⟩⟩
    | some (ms, last) => exact ⟨_, rfl, .inr ⟨ms, last, rfl, rfl⟩⟩
  refine z_while (fun n s => ∃ aR q done todo m hh t2 rs nr, ∃ (i : Nat), ∃ ti tn, s = ⟨hh, g, d, t2, os⟩ ∧ Led h L m hh ((q, boundO aR) :: (aR, lst rs nr) :: []) ∧ m "inp" = some (.ref a) ∧ m "STAR" = some (.ref st) ∧ m "res" = some (.ref aR) ∧ m "add" = some (.ref q) ∧ m "i" = some (.int i ti) ∧
    m "n" = some (.int vs.length tn) ∧ first = done ++ todo ∧ i = done.length ∧ PartsV st rs ((done.map Tk.enc).map some) ∧ n = todo.length) first.length ?_ ?_
  · exact ⟨_, q0, [], first, _, _, _, [], _, 0, _, _, rfl, Led.tail (by assumption), rfl, rfl, rfl, rfl, rfl, rfl, rfl, rfl, trivial, rfl⟩
  · rintro n s ⟨aR, q, done, todo, m, hh, t2, rs, nr, i, ti, tn, rfl, V, hm1, hm2, hm3, hm4, hm5, hm6, hfd, hi, hpv, rfl⟩
    have hrl : rs.length = done.length := by rw [hpv.length]; simp
    cases todo with
    | cons t todo =>
      have hpi : (partsOf first more)[i]? = some (some t.enc) := by
        rw [hps, hfd, hi]
        simp [segE]
      obtain ⟨v, hvi, hvv⟩ := hv.get hpi
      obtain ⟨u, rfl⟩ := hvv
      have hin : i < vs.length := (List.getElem?_eq_some_iff.mp hvi).1
      repeat walk_at "zz"
      refine z_iteT (decide_eq_true (by omega)) ?_
      repeat walk_at "zz"
      refine z_cwb (l := aR) ?_ (by rfl) (by rfl)
      repeat walk_at "zz"
      refine ⟨by walk_at "ho", ?_⟩
      refine z_callBound 1 (by with_reducible assumption) (by walk_at "ho") rfl (by omega) fun h4 V4 => ?_
      dsimp only [List.set_cons_succ, List.set_cons_zero] at V4
      repeat walk_at "zz"
      refine l_next todo.length (Nat.lt_succ_self _) ?_
      exact ⟨aR, q, done ++ [t], todo, _, _, _, _, _, i + 1, _, _, rfl, by assumption, by assumption, by assumption, by assumption, by assumption, rfl, by assumption, by rw [hfd]; simp, by simp [hi],
        by rw [List.map_append, List.map_append]; exact hpv.snoc (partV_str rfl), rfl⟩
    | nil =>
      rw [List.append_nil] at hfd
      subst hfd
      rw [hps] at hv hvl
      have hiN : i + rest.length = vs.length := by rw [hvl, hi]; simp [segE]
      have hfx : (segE first ++ rest).drop i = rest := by rw [hi]; simp [segE]
      rcases hrest with ⟨hr0, hmo⟩ | ⟨mids, last, hmo, hr0⟩
      · subst hr0
        have hpv' := hpv
        repeat walk_at "zz"
        refine z_iteF (decide_eq_false (by simp only [List.length_nil] at hiN; omega)) ?_
        repeat walk_at "zz"
        refine z_while (fun n s => ∃ m hh t2, ∃ ti tn, s = ⟨hh, g, d, t2, os⟩ ∧ Led h L m hh ((q, boundO aR) :: (aR, lst rs nr) :: []) ∧ m "res" = some (.ref aR) ∧ m "i" = some (.int i ti) ∧ m "n" = some (.int vs.length tn)) 0 ?_ ?_
        · exact ⟨_, _, _, _, _, rfl, by assumption, by assumption, by assumption, by assumption⟩
        · rintro n s ⟨m, hh, t2, ti, tn, rfl, V, hm3, hm5, hm6⟩
          repeat walk_at "zz"
          refine z_iteF (decide_eq_false (by simp only [List.length_nil] at hiN; omega)) ?_
          repeat walk_at "zz"
          refine wpAny_Assert_holds ?_
          repeat walk_at "zz"
          refine ⟨by rw [beq_iff_eq]; simp only [List.length_nil] at hiN; omega, ?_⟩
          repeat walk_at "zz"
          refine s_joinE (by walk_at "ho") hpv (by rw [encs_flat]; omega) fun t' k' => ?_
          rw [encs_flat]
          repeat walk_at "zz"
          refine hQ' _ _ _ _ (Led.keep (by with_reducible assumption)) ?_
          simp [render, hmo, tailE]
      · have hvi : vs[i]? = some (.ref st) := by
          have : (segE first ++ rest)[i]? = some none := by
            have e := congrArg (fun l => l[0]?) hfx
            simp only [List.getElem?_drop, Nat.add_zero] at e
            rw [e, hr0]
            cases mids <;> rfl
          obtain ⟨v, h1, h2⟩ := hv.get this
          rw [h1, show v = .ref st from h2]
        have hin : i < vs.length := (List.getElem?_eq_some_iff.mp hvi).1
        repeat walk_at "zz"
        refine z_iteT (decide_eq_true (by omega)) ?_
        repeat walk_at "zz"
        refine wpAny_isNot_ref_self ?_
        repeat walk_at "zz"
        rw [← hps] at hv hvl hfx
        refine z_while (fun n s => ∃ m hh t2 rs nr, ∃ (xs : List (List Nat)), ∃ (i : Nat), ∃ ti tn, s = ⟨hh, g, d, t2, os⟩ ∧ Led h L m hh ((q, boundO aR) :: (aR, lst rs nr) :: []) ∧ m "inp" = some (.ref a) ∧ m "STAR" = some (.ref st) ∧ m "res" = some (.ref aR) ∧ m "add" = some (.ref q) ∧ m "i" = some (.int i ti) ∧ m "n" = some (.int vs.length tn) ∧
          PartsV st rs (xs.map some) ∧ rs.length ≤ 2 * i ∧ i ≤ vs.length ∧
          ((i = vs.length ∧ xs.flatten = encs first ++ tailE more ∧ n = 0) ∨
           ∃ (seg : List Tk) (R : List (Option (List Nat))), (partsOf first more).drop i = none :: (segE seg ++ R) ∧ ((R = [] ∧ xs.flatten ++ 46 :: 42 :: encs seg = encs first ++ tailE more ∧ n = 1) ∨ (seg ≠ [] ∧ ∃ (todo : List (List Tk)), (∀ m ∈ todo, m ≠ []) ∧ R = todo.flatMap (fun m => none :: segE m) ++ none :: segE last ∧ xs.flatten ++ (midE seg ++ (todo.flatMap midE ++ 46 :: 42 :: encs last)) = encs first ++ tailE more ∧ n = todo.length + 2)))) (mids.length + 1) ?_ ?_
        · refine ⟨_, _, _, _, _, first.map Tk.enc, i, _, _, rfl, by assumption, by assumption, by assumption, by assumption, by assumption, by assumption, by assumption, hpv, by omega, by omega, .inr ?_⟩
          subst hmo
          cases mids with
          | nil => exact ⟨last, [], by rw [hfx, hr0]; simp, .inl ⟨rfl, by simp [encs_flat, tailE], rfl⟩⟩
          | cons m ms => exact ⟨m, _, by rw [hfx, hr0]; simp, .inr ⟨hm m (by simp [More.mids]), ms, fun x hx => hm x (by simp [More.mids, hx]), rfl, by simp [encs_flat, tailE], rfl⟩⟩
        · clear hvi hin hfx hiN hi hpv
          rintro n s ⟨m, hh, t2, rs, nr, xs, i, ti, tn, rfl, V, hm1, hm2, hm3, hm4, hm5, hm6, hpv, hrs, hiv, hcase⟩
          have hxl : xs.length = rs.length := by rw [hpv.length]; simp
          rcases hcase with ⟨hie, hfl, rfl⟩ | ⟨seg, R, hdr, hcase⟩
          · repeat walk_at "zz"
            refine z_iteF (decide_eq_false (by omega)) ?_
            repeat walk_at "zz"
            refine wpAny_Assert_holds ?_
            repeat walk_at "zz"
            refine ⟨by rw [beq_iff_eq]; omega, ?_⟩
            repeat walk_at "zz"
            refine s_joinE (by walk_at "ho") hpv (by rw [hfl, List.length_append]; omega) fun t' k' => ?_
            rw [hfl]
            repeat walk_at "zz"
            refine hQ' _ _ _ _ (Led.keep (by with_reducible assumption)) ?_
            simp [render]
          · have hvi : vs[i]? = some (.ref st) := by
              have e := congrArg (fun l => l[0]?) hdr
              simp only [List.getElem?_drop, Nat.add_zero] at e
              obtain ⟨v, h1, h2⟩ := hv.get e
              rw [h1, show v = .ref st from h2]
            have hin : i < vs.length := (List.getElem?_eq_some_iff.mp hvi).1
            have hNl : i + 1 + seg.length + R.length = vs.length := by
              have e := congrArg List.length hdr
              simp only [List.length_drop, List.length_cons, List.length_append, segE, List.length_map] at e
              omega
            have hdr2 : (partsOf first more).drop (i + 1) = segE seg ++ R := by
              rw [← List.drop_drop, hdr]; rfl
            have hsl : (encs seg).length + xs.flatten.length ≤ 1000000 := by
              rcases hcase with ⟨_, e, _⟩ | ⟨_, todo, _, _, e, _⟩
              · have := congrArg List.length e
                simp only [List.length_append, List.length_cons] at this
                omega
              · have := congrArg List.length e
                simp only [List.length_append, List.length_cons, midE] at this
                omega
            repeat walk_at "zz"
            refine z_iteT (decide_eq_true (by omega)) ?_
            repeat walk_at "zz"
            refine wpAny_Assert_holds ?_
            repeat walk_at "zz"
            refine wpAny_is_ref_self ?_
            repeat walk_at "zz"
            refine ⟨rfl, ?_⟩
            repeat walk_at "zz"
            cases seg with
            | nil =>
              rcases hcase with ⟨hR, hfl, rfl⟩ | ⟨hne, _⟩
              · subst hR
                have hfl2 : (xs ++ [[46, 42]]).flatten = encs first ++ tailE more := by rw [← hfl]; simp [encs]
                have hpv2 : ∀ u, PartsV st (rs ++ [.str (mkS [46, 42]) u]) ((xs ++ [[46, 42]]).map some) := fun u => by rw [List.map_append]; exact hpv.snoc (partV_str rfl)
                simp only [List.length_nil] at hNl
                refine z_iteT (by rw [beq_iff_eq]; omega) ?_
                repeat walk_at "zz"
                refine z_cwb (l := aR) ?_ (by rfl) (by rfl)
                repeat walk_at "zz"
                refine ⟨by walk_at "ho", ?_⟩
                refine z_callBound 1 (by with_reducible assumption) (by walk_at "ho") rfl (by first | omega | (simp only [List.length_append, List.length_cons, List.length_nil]; omega)) fun h4 V4 => ?_
                dsimp only [List.set_cons_succ, List.set_cons_zero] at V4
                repeat walk_at "zz"
                refine wpAny_Assert_holds ?_
                repeat walk_at "zz"
                refine ⟨by rw [beq_iff_eq]; omega, ?_⟩
                repeat walk_at "zz"
                refine s_joinE (by walk_at "ho") (hpv2 _) (by rw [hfl2, List.length_append]; omega) fun t' k' => ?_
                rw [hfl2]
                repeat walk_at "zz"
                refine hQ' _ _ _ _ (Led.keep (by with_reducible assumption)) ?_
                simp [render]
              · exact absurd rfl hne
            | cons t seg =>
              have hget : ∀ k (hk : k < (t :: seg).length), ∃ u, vs[i + 1 + k]? = some (.str (mkS (t :: seg)[k].enc) u) := fun k hk => by
                have e := congrArg (fun l => l[k]?) hdr2
                simp only [List.getElem?_drop] at e
                rw [List.getElem?_append_left (by simpa [segE] using hk)] at e
                obtain ⟨v, h1, h2⟩ := hv.get (p := some (t :: seg)[k].enc) (by rw [e]; simp only [segE, List.getElem?_map, List.getElem?_eq_getElem hk, Option.map_some])
                obtain ⟨u, rfl⟩ := h2
                exact ⟨u, h1⟩
              obtain ⟨u0, hv1⟩ := hget 0 (by simp)
              rw [Nat.add_zero] at hv1
              simp only [List.length_cons] at hNl
              refine z_iteF (by rw [beq_eq_false_iff_ne]; omega) ?_
              repeat walk_at "zz"
              refine wpAny_Assert_holds ?_
              repeat walk_at "zz"
              refine ⟨rfl, ?_⟩
              repeat walk_at "zz"
              refine z_while (fun n s => ∃ m hh t2 aF fs nf, ∃ (done todo : List Tk), ∃ (j : Nat), ∃ tj, s = ⟨hh, g, d, t2, os⟩ ∧ Led h L m hh ((aF, lst fs nf) :: (q, boundO aR) :: (aR, lst rs nr) :: []) ∧ m "inp" = some (.ref a) ∧ m "STAR" = some (.ref st) ∧ m "res" = some (.ref aR) ∧ m "add" = some (.ref q) ∧ m "i" = some (.int j tj) ∧ m "n" = some (.int vs.length tn) ∧
                m "fixed" = some (.ref aF) ∧ j = i + 1 + done.length ∧ t :: seg = done ++ todo ∧ PartsV st fs ((done.map Tk.enc).map some) ∧ n = todo.length) (t :: seg).length ?_ ?_
              · exact ⟨_, _, _, _, [], _, [], t :: seg, i + 1, _, rfl, by assumption, by assumption, by assumption, by assumption, by assumption, rfl, by assumption, rfl, rfl, rfl, trivial, rfl⟩
              · clear V hm1 hm2 hm3 hm4 hm5 hm6 hvi
                rintro n' s ⟨m, hh, t2, aF, fs, nf, done, todo, j, tj, rfl, V, hm1, hm2, hm3, hm4, hm5, hm6, hm7, hj, hseg, hfs, rfl⟩
                have hfl' : fs.length = done.length := by rw [hfs.length]; simp
                have hsegl : seg.length + 1 = done.length + todo.length := by have := congrArg List.length hseg; simpa using this
                cases todo with
                | cons t' todo =>
                  obtain ⟨u, hvj⟩ := hget done.length (by simp only [List.length_cons] at hsegl ⊢; omega)
                  rw [← hj] at hvj
                  simp only [hseg, List.getElem_append_right (Nat.le_refl _), Nat.sub_self, List.getElem_cons_zero] at hvj
                  simp only [List.length_cons] at hsegl
                  repeat walk_at "zz"
                  refine z_iteT (decide_eq_true (by omega)) ?_
                  repeat walk_at "zz"
                  refine l_next todo.length (Nat.lt_succ_self _) ?_
                  exact ⟨_, _, _, aF, _, _, done ++ [t'], todo, j + 1, _, rfl, by assumption, by assumption, by assumption, by assumption, by assumption, rfl, by assumption, by assumption, by rw [hj]; simp; omega, by rw [hseg]; simp,
                    by rw [List.map_append, List.map_append]; exact hfs.snoc (partV_str rfl), rfl⟩
                | nil =>
                  simp only [List.append_nil] at hseg
                  subst hseg
                  have hjl : j = i + 2 + seg.length := by rw [hj]; simp only [List.length_cons]; omega
                  rcases hcase with ⟨hR, hfl, rfl⟩ | ⟨_, todo, htd, hR, hfl, rfl⟩
                  · subst hR
                    simp only [List.length_nil] at hNl
                    repeat walk_at "zz"
                    refine z_iteF (decide_eq_false (by omega)) ?_
                    repeat walk_at "zz"
                    refine s_joinE (by walk_at "ho") hfs (by rw [encs_flat]; omega) fun t' k' => ?_
                    rw [encs_flat]
                    repeat walk_at "zz"
                    refine z_iteT (by rw [beq_iff_eq]; omega) ?_
                    repeat walk_at "zz"
                    refine z_cwb (l := aR) ?_ (by rfl) (by rfl)
                    repeat walk_at "zz"
                    refine ⟨by walk_at "ho", ?_⟩
                    refine z_callBound 2 (by with_reducible assumption) (by walk_at "ho") rfl (by first | omega | (simp only [List.length_append, List.length_cons, List.length_nil]; omega)) fun h4 V4 => ?_
                    dsimp only [List.set_cons_succ, List.set_cons_zero] at V4
                    repeat walk_at "zz"
                    refine z_cwb (l := aR) ?_ (by rfl) (by rfl)
                    repeat walk_at "zz"
                    refine ⟨by walk_at "ho", ?_⟩
                    refine z_callBound 2 (by with_reducible assumption) (by walk_at "ho") rfl (by first | omega | (simp only [List.length_append, List.length_cons, List.length_nil]; omega)) fun h4 V4 => ?_
                    dsimp only [List.set_cons_succ, List.set_cons_zero] at V4
                    repeat walk_at "zz"
                    refine l_next 0 (by omega) ?_
                    exact ⟨_, _, _, _, _, xs ++ [[46, 42]] ++ [encs (t :: seg)], j, _, _, rfl, Led.tail (by with_reducible assumption), by assumption, by assumption, by assumption, by assumption, by assumption, by assumption,
                      by rw [List.map_append, List.map_append]; exact (hpv.snoc (partV_str rfl)).snoc (partV_str rfl), by simp only [List.length_append, List.length_cons, List.length_nil]; omega, by omega, .inl ⟨by omega, by rw [← hfl]; simp, rfl⟩⟩
                  · have hR0 : R[0]? = some none := by rw [hR]; cases todo <;> rfl
                    have hdr3 : (partsOf first more).drop j = R := by rw [hj, ← List.drop_drop, hdr2]; simp [segE]
                    have hvj : vs[j]? = some (.ref st) := by
                      have e := congrArg (fun l => l[0]?) hdr3
                      simp only [List.getElem?_drop, Nat.add_zero] at e
                      rw [hR0] at e
                      obtain ⟨v, h1, h2⟩ := hv.get e
                      rw [h1, show v = .ref st from h2]
                    have hjn : j < vs.length := (List.getElem?_eq_some_iff.mp hvj).1
                    repeat walk_at "zz"
                    refine z_iteT (decide_eq_true (by omega)) ?_
                    repeat walk_at "zz"
                    refine wpAny_isNot_ref_self ?_
                    repeat walk_at "zz"
                    refine s_joinE (by walk_at "ho") hfs (by rw [encs_flat]; omega) fun t' k' => ?_
                    rw [encs_flat]
                    repeat walk_at "zz"
                    refine z_iteF (by rw [beq_eq_false_iff_ne]; omega) ?_
                    repeat walk_at "zz"
                    refine z_cwb (l := aR) ?_ (by rfl) (by rfl)
                    repeat walk_at "zz"
                    refine ⟨by walk_at "ho", ?_⟩
                    refine z_callBound 2 (by with_reducible assumption) (by walk_at "ho") rfl (by first | omega | (simp only [List.length_append, List.length_cons, List.length_nil]; omega)) fun h4 V4 => ?_
                    dsimp only [List.set_cons_succ, List.set_cons_zero] at V4
                    repeat walk_at "zz"
                    refine l_next (todo.length + 1) (by omega) ?_
                    refine ⟨_, _, _, _, _, xs ++ [midE (t :: seg)], j, _, _, rfl, V4.tail, by assumption, by assumption, by assumption, by assumption, by assumption, by assumption,
                      by rw [List.map_append]; exact hpv.snoc (partV_str (by simp [midE])), by simp only [List.length_append, List.length_cons, List.length_nil]; omega, by omega, .inr ?_⟩
                    cases todo with
                    | nil => exact ⟨last, [], by rw [hdr3, hR]; simp, .inl ⟨rfl, by rw [← hfl]; simp, rfl⟩⟩
                    | cons m ms => exact ⟨m, _, by rw [hdr3, hR]; simp, .inr ⟨htd m (by simp), ms, fun x hx => htd x (by simp [hx]), rfl, by rw [← hfl]; simp, rfl⟩⟩
end
/-! translate -/
section
variable {B : Heap} {L : Addr} {m : Str → Option Value} {h h' : Heap} {news : List (Addr × Obj)} {ps ps' : Array Value}
theorem Led.hide57 (V : Led B L m h news) (hn : B.get? 57 = none) : B.StaysIn (hideAll h [57]) := fun b o e =>
  hideAll_get _ (V.keep b o e) fun q => by
    have : b = 57 := by simpa using q
    rw [this, hn] at e
    cases e
theorem Led.after57 {i : Nat} (V : Led B L m h news) (hi : news[i]? = some (57, tabObj ps)) (hst : (hideAll h [57]).StaysIn h') (h57 : h'.get? 57 = some (tabObj ps')) : Led B L m h' (news.set i (57, tabObj ps')) :=
  V.upd i hi (fun b ob hb e => hst b ob (hideAll_get _ e (by simpa using hb))) h57
theorem Led.after57a {i : Nat} {a : Addr} {o : Obj} (V : Led B L m h news) (hi : news[i]? = some (57, tabObj ps)) (hst : (hideAll h [57]).StaysIn h') (h57 : h'.get? 57 = some (tabObj ps')) (ha : h'.get? a = some o) (hn : h.get? a = none) :
    Led B L m h' ((a, o) :: news.set i (57, tabObj ps')) := by
  have V' := V.after57 hi hst h57
  refine ⟨V'.ns, V'.keep, V'.noL, fun p hp => ?_, ?_⟩
  · rcases List.mem_cons.mp hp with rfl | hp
    · refine ⟨ha, ?_, fun q => ?_⟩
      · cases q : B.get? a with
        | none => rfl
        | some o' => rw [V.keep _ _ q] at hn; cases hn
      · obtain ⟨oL, _, _, hL, _⟩ := V.ns
        rw [← q] at hL
        rw [show h.get? a = some oL from hL] at hn
        cases hn
    · exact V'.nw p hp
  · refine List.Pairwise.cons (fun b hb => ?_) V'.ord
    have hb' : b ∈ news.map (·.1) := by
      obtain ⟨sp, e⟩ := set_split (o' := tabObj ps') hi
      rw [e] at hb
      rw [sp]
      simpa using hb
    obtain ⟨⟨b', ob⟩, hp, rfl⟩ := List.mem_map.mp hb'
    intro q
    have := (V.nw _ hp).1
    have q' : a = b' := q
    subst q'
    rw [hn] at this
    cases this
end
section
variable {prog : Program} {w : World} {mg mb : Str → Option Value} {A : Around} {E : Value → Shared → Prop} {h : Heap} {g : Array GenState} {d : Drawn} {tk : Nat} {os : OsState}
set_option pp.proofs false
theorem c_translate {ts : List (Option Tk)} {first : List Tk} {more : More} {tp : Tok} {ps : Array Value} {Q : Value → Shared → Prop} (O : Ok A 60 600) (D : Gd w mg mb (hideAll h [57])) (hP : h.get? 57 = some (tabObj ps)) (hps : TriplesOk ps.toList)
    (hok : ∀ t ∈ ts, okT t) (hl : ts.length ≤ 10000) (hpl : (pats ts).length ≤ 100000) (he : parts ts = partsOf first more) (hm : ∀ m ∈ more.mids, m ≠ []) (hr : (render first more).length ≤ 1000000)
    (hQ : ∀ h' n t' ps', (hideAll h [57]).StaysIn h' → h'.get? 57 = some (tabObj ps') → TriplesOk ps'.toList → Q (.str (mkS (render first more)) t') ⟨h', g, d, n, os⟩) :
    wpAny (model prog w) A (call (.ref 43) [.str (mkS (pats ts)) tp]) Q E ⟨h, g, d, tk, os⟩ := by
  refine enter [("pat", .str (mkS (pats ts)) tp)] (O.le : Ok A (59+1) (597+3)) (D.keeps fun b o e => of_hideAll _ e) rfl rfl rfl rfl rfl rfl rfl rfl ?_
  intro L h₁ tk₁ A' V O'
  have V := V.own57 hP
  have h57 : (hideAll h [57]).get? 57 = none := hideAll_none _ (.head _)
  generalize hideAll h [57] = B at *
  repeat walk_at "zz"
  refine PyProof.Rows.callWith_type0 ?_
  refine z_object ?_
  have V := V.push { cls := .type "object", data := .plain } rfl
  repeat walk_at "zz"
  refine c_transl (O'.le) (D.keeps (Led.hide57 (by with_reducible assumption) h57)) (Led.at (by with_reducible assumption) 1 rfl) hps hok hl hpl fun h3 n3 a vs k ps3 hst h573 hps3 ha hna hpv => ?_
  have V3 : Led B L _ h3 _ := Led.after57a (i := 1) (by with_reducible assumption) (by rfl) hst h573 ha hna
  dsimp only [List.set_cons_succ, List.set_cons_zero] at V3
  rw [he] at hpv
  repeat walk_at "zz"
  refine c_join (O'.le) (D.keeps (Led.keep (by with_reducible assumption))) (by walk_at "ho") hpv (by rw [hpv.length, ← he]; have := parts_len ts; omega) hr hm fun h4 n4 t4 hst4 => ?_
  have V4 := Led.grow (by with_reducible assumption) hst4
  repeat walk_at "zz"
  exact hQ _ _ _ _ V4.keep (V4.nw _ (.tail _ (.tail _ (.head _)))).1 hps3
end
/-! the plain law: wildcards, the table, the leftmost search, doubled quotes -/
def mt (t : Tk) (c : Nat) : Bool := (t.itm.2).contains c != t.itm.1
def wild : List (Option Tk) → List Nat → Bool
  | [], x => x.isEmpty
  | none :: ts, [] => wild ts []
  | none :: ts, c :: x => wild ts (c :: x) || wild (none :: ts) x
  | some _ :: _, [] => false
  | some t :: ts, c :: x => mt t c && wild ts x
theorem wild_star : ∀ (ts : List (Option Tk)) (x : List Nat), wild (none :: ts) x = true ↔ ∃ k, k ≤ x.length ∧ wild ts (x.drop k) = true
  | ts, [] => by
    rw [wild]
    exact ⟨fun h => ⟨0, Nat.le_refl _, h⟩, fun ⟨k, _, h⟩ => by simpa using h⟩
  | ts, c :: x => by
    rw [wild, Bool.or_eq_true, wild_star ts x]
    constructor
    · rintro (h | ⟨k, hk, h⟩)
      · exact ⟨0, Nat.zero_le _, h⟩
      · exact ⟨k + 1, Nat.succ_le_succ hk, h⟩
    · rintro ⟨k, hk, h⟩
      cases k with
      | zero => exact .inl h
      | succ k => exact .inr ⟨k, Nat.le_of_succ_le_succ hk, h⟩
theorem wild_star_mono {ts : List (Option Tk)} {x : List Nat} (k : Nat) (h : wild (none :: ts) (x.drop k) = true) : wild (none :: ts) x = true := by
  obtain ⟨j, hj, e⟩ := (wild_star _ _).mp h
  rw [List.drop_drop] at e
  by_cases hk : k + j ≤ x.length
  · exact (wild_star _ _).mpr ⟨k + j, hk, e⟩
  · refine (wild_star _ _).mpr ⟨x.length, Nat.le_refl _, ?_⟩
    rw [List.drop_length]
    rwa [List.drop_eq_nil_of_le (by omega)] at e
theorem wild_some (ps : List Tk) : ∀ (ts : List (Option Tk)) (x : List Nat), wild (ps.map some ++ ts) x = (fitsAt (ps.map Tk.itm) x && wild ts (x.drop ps.length)) := by
  induction ps with
  | nil => intro ts x; simp [fitsAt]
  | cons p ps ih =>
    intro ts x
    cases x with
    | nil => simp [wild, fitsAt]
    | cons c x =>
      simp only [List.map_cons, List.cons_append, wild, ih, fitsAt, List.length_cons, List.drop_succ_cons, mt, Bool.and_assoc]
theorem wild_end (ps : List Tk) (x : List Nat) : wild (ps.map some) x = (fitsAt (ps.map Tk.itm) x && decide (ps.length = x.length)) := by
  have h := wild_some ps [] x
  rw [List.append_nil] at h
  rw [h]
  cases hf : fitsAt (ps.map Tk.itm) x with
  | false => rfl
  | true =>
    have hl := fitsAt_len hf
    rw [List.length_map] at hl
    simp only [Bool.true_and, wild]
    rw [Bool.eq_iff_iff, List.isEmpty_iff, decide_eq_true_iff, List.drop_eq_nil_iff]
    omega
theorem wild_star_star : ∀ (A B : List (Option Tk)) (x : List Nat), wild (A ++ none :: none :: B) x = wild (A ++ none :: B) x
  | [], B, x => by
    rw [Bool.eq_iff_iff, List.nil_append, List.nil_append, wild_star]
    constructor
    · rintro ⟨k, _, h⟩
      exact wild_star_mono k h
    · intro h
      exact ⟨0, Nat.zero_le _, h⟩
  | none :: A, B, x => by
    rw [Bool.eq_iff_iff, List.cons_append, List.cons_append, wild_star, wild_star]
    constructor <;> rintro ⟨k, hk, h⟩
    · exact ⟨k, hk, by rw [← wild_star_star A B]; exact h⟩
    · exact ⟨k, hk, by rw [wild_star_star A B]; exact h⟩
  | some t :: A, B, [] => by simp [wild]
  | some t :: A, B, c :: x => by
    simp only [List.cons_append, wild, wild_star_star A B]
/-! the pieces that translate makes -/
theorem stepP_same {acc : List (Option (List Nat))} (h : acc.getLast? = some none) : stepP acc none = acc := if_pos h
theorem stepP_star {acc : List (Option (List Nat))} (h : acc.getLast? ≠ some none) : stepP acc none = acc ++ [none] := if_neg h
def addT : List Tk × More → Option Tk → List Tk × More
  | (f, none), some t => (f ++ [t], none)
  | (f, none), none => (f, some ([], []))
  | (f, some (ms, l)), some t => (f, some (ms, l ++ [t]))
  | (f, some (ms, [])), none => (f, some (ms, []))
  | (f, some (ms, t :: l)), none => (f, some (ms ++ [t :: l], []))
def cut (ts : List (Option Tk)) : List Tk × More := ts.foldl addT ([], none)
theorem cut_snoc (ts : List (Option Tk)) (t : Option Tk) : cut (ts ++ [t]) = addT (cut ts) t := by simp [cut]
def toksOf : List Tk × More → List (Option Tk)
  | (f, none) => f.map some
  | (f, some (ms, l)) => f.map some ++ (ms.flatMap (fun m => none :: m.map some) ++ none :: l.map some)
theorem snoc_ind {α : Type} {P : List α → Prop} (h0 : P []) (h1 : ∀ l a, P l → P (l ++ [a])) (l : List α) : P l := by
  have : ∀ n (l : List α), l.length = n → P l := by
    intro n
    induction n with
    | zero => intro l hl; rw [List.eq_nil_of_length_eq_zero hl]; exact h0
    | succ n ih =>
      intro l hl
      have hne : l ≠ [] := fun e => by rw [e] at hl; simp at hl
      rw [← List.dropLast_concat_getLast hne]
      exact h1 _ _ (ih _ (by rw [List.length_dropLast]; omega))
  exact this _ l rfl
theorem cut_wild (ts : List (Option Tk)) : ∀ (rest : List (Option Tk)) (x : List Nat), wild (toksOf (cut ts) ++ rest) x = wild (ts ++ rest) x := by
  induction ts using snoc_ind with
  | h0 => intro rest x; rfl
  | h1 ts t ih =>
    intro rest x
    rw [cut_snoc, List.append_assoc, ← ih ([t] ++ rest) x]
    generalize cut ts = s
    obtain ⟨f, mo⟩ := s
    match mo, t with
    | none, some t => simp [addT, toksOf]
    | none, none => simp [addT, toksOf]
    | some (ms, l), some t => simp [addT, toksOf]
    | some (ms, []), none =>
      have := wild_star_star (f.map some ++ ms.flatMap (fun m => none :: m.map some)) rest x
      simp only [addT, toksOf, List.map_nil, List.append_assoc, List.cons_append, List.nil_append] at this ⊢
      exact this.symm
    | some (ms, t :: l), none => simp [addT, toksOf]
theorem cut_mids (ts : List (Option Tk)) : ∀ m ∈ (cut ts).2.mids, m ≠ [] := by
  induction ts using snoc_ind with
  | h0 => intro m hm; cases hm
  | h1 ts t ih =>
    rw [cut_snoc]
    generalize cut ts = s at ih
    obtain ⟨f, mo⟩ := s
    match mo, t with
    | none, some t => exact ih
    | none, none => intro m hm; cases hm
    | some (ms, l), some t => exact ih
    | some (ms, []), none => exact ih
    | some (ms, t :: l), none =>
      intro m hm
      rcases List.mem_append.mp (show m ∈ ms ++ [t :: l] from hm) with h | h
      · exact ih m h
      · rw [List.mem_singleton.mp h]; exact List.cons_ne_nil _ _
theorem segE_last (l : List Tk) : (segE l).getLast? ≠ some none := by
  intro h
  have := List.mem_of_getLast? h
  obtain ⟨t, _, e⟩ := List.mem_map.mp this
  cases e
theorem cut_parts (ts : List (Option Tk)) : parts ts = partsOf (cut ts).1 (cut ts).2 := by
  induction ts using snoc_ind with
  | h0 => rfl
  | h1 ts t ih =>
    rw [parts_snoc, cut_snoc, ih]
    generalize cut ts = s
    obtain ⟨f, mo⟩ := s
    match mo, t with
    | none, some t => simp [addT, partsOf, stepP, segE]
    | none, none =>
      exact (stepP_star (segE_last f)).trans (by simp [addT, partsOf, segE])
    | some (ms, l), some t => simp [addT, partsOf, stepP, segE]
    | some (ms, []), none =>
      exact stepP_same (by simp [partsOf, segE])
    | some (ms, t :: l), none =>
      have : (segE f ++ (List.flatMap (fun m => none :: segE m) ms ++ none :: segE (t :: l))).getLast? ≠ some none := by
        have h := segE_last (t :: l)
        simp only [segE, List.map_cons] at h ⊢
        rw [List.getLast?_append, List.getLast?_append, List.getLast?_cons_cons]
        cases q : (some t.enc :: List.map (fun t => some t.enc) l).getLast? with
        | none => simp at q
        | some v => rw [q] at h; simpa using h
      exact (stepP_star this).trans (by simp [addT, partsOf, segE])
/-! the leftmost place is the best -/
theorem seek_some {p : List Tk} {ts : List (Option Tk)} (hp : p ≠ []) : ∀ x : List Nat, wild (none :: (p.map some ++ none :: ts)) x = match seek (p.map Tk.itm) x with | none => false | some y => wild (none :: ts) y
  | [] => by
    cases p with
    | nil => exact absurd rfl hp
    | cons t p => simp [wild, seek]
  | c :: x => by
    rw [wild, seek_some hp x, wild_some]
    simp only [seek]
    cases hf : fitsAt (p.map Tk.itm) (c :: x) with
    | false => simp
    | true =>
      simp only [Bool.true_and, if_true, List.length_map]
      cases hw : wild (none :: ts) ((c :: x).drop p.length) with
      | true => rfl
      | false =>
        rw [Bool.false_or, ← seek_some hp x]
        cases hq : wild (none :: (p.map some ++ none :: ts)) x with
        | false => rfl
        | true =>
          exfalso
          obtain ⟨k, hk, h⟩ := (wild_star _ _).mp hq
          rw [wild_some, Bool.and_eq_true, List.drop_drop] at h
          have : wild (none :: ts) ((c :: x).drop p.length) = true := by
            refine wild_star_mono (k + 1) ?_
            rw [List.drop_drop]
            have e : (c :: x).drop (p.length + (k + 1)) = x.drop (k + p.length) := by
              rw [show p.length + (k + 1) = (k + p.length) + 1 from by omega, List.drop_succ_cons]
            rw [e]
            exact h.2
          rw [this] at hw
          cases hw
theorem wild_last (l : List Tk) (x : List Nat) : wild (none :: l.map some) x = lastB l x := by
  rw [Bool.eq_iff_iff, wild_star, lastB, Bool.and_eq_true, decide_eq_true_iff]
  constructor
  · rintro ⟨k, hk, h⟩
    rw [wild_end, Bool.and_eq_true, decide_eq_true_iff, List.length_drop] at h
    refine ⟨by omega, ?_⟩
    rw [show x.length - l.length = k from by omega]
    exact h.1
  · rintro ⟨h1, h2⟩
    refine ⟨x.length - l.length, by omega, ?_⟩
    rw [wild_end, h2, List.length_drop, Bool.true_and, decide_eq_true_iff]
    omega
theorem wild_mids (l : List Tk) : ∀ (ms : List (List Tk)) (x : List Nat), (∀ m ∈ ms, m ≠ []) → wild (ms.flatMap (fun m => none :: m.map some) ++ none :: l.map some) x = match seeks ms x with | none => false | some t => lastB l t
  | [], x, _ => wild_last l x
  | m :: ms, x, h => by
    have hs : ∃ U, ms.flatMap (fun m => none :: m.map some) ++ none :: l.map some = (none : Option Tk) :: U := by
      cases ms with
      | nil => exact ⟨_, rfl⟩
      | cons m' ms => exact ⟨_, rfl⟩
    obtain ⟨U, hU⟩ := hs
    have ih := fun y => wild_mids l ms y fun m' hm => h m' (.tail _ hm)
    rw [List.flatMap_cons, List.cons_append, List.cons_append, List.append_assoc, hU, seek_some (h m (.head _))]
    simp only [hU] at ih
    simp only [seeks]
    cases seek (m.map Tk.itm) x with
    | none => rfl
    | some y => simp only [Option.bind_some]; exact ih y
theorem runs_wild (ts : List (Option Tk)) (x : List Nat) : runsB (cut ts).1 (cut ts).2 x = wild ts x := by
  have h := cut_wild ts [] x
  rw [List.append_nil, List.append_nil] at h
  rw [← h]
  have hm := cut_mids ts
  generalize cut ts = s at *
  obtain ⟨f, mo⟩ := s
  match mo with
  | none => simp only [runsB, toksOf, wild_end]
  | some (ms, l) =>
    simp only [runsB, toksOf, wild_some]
    rw [wild_mids l ms _ hm]
    try rfl
/-! quotes doubled in a pattern and in a name -/
def dqT : Option Tk → List (Option Tk)
  | none => [none]
  | some (.lit c) => if c = 34 then [some (.lit 34), some (.lit 34)] else [some (.lit c)]
  | some (.set neg cs) => [some (.set neg (dq cs))]
def dqs (ts : List (Option Tk)) : List (Option Tk) := ts.flatMap dqT
abbrev q34 : Option Tk := some (.lit 34)
def tsR (ts : List (Option Tk)) : List (Option Tk) := some (.lit 50) :: some (.lit 53) :: some (.lit 55) :: some (.lit 32) :: q34 :: (dqs ts ++ [q34])
def quoteOk : Option Tk → Prop
  | some (.set neg cs) => mt (.set neg cs) 34 = false
  | _ => True
theorem dq_append : ∀ a b : List Nat, dq (a ++ b) = dq a ++ dq b
  | [], _ => rfl
  | c :: a, b => by
    simp only [List.cons_append, dq, dq_append a b]
    split <;> simp
theorem dq_contains (c : Nat) : ∀ a : List Nat, (dq a).contains c = a.contains c
  | [] => rfl
  | x :: a => by
    have ih := dq_contains c a
    unfold dq
    split
    · rename_i h
      subst h
      simp only [List.contains_cons, ih]
      cases (c == 34) <;> rfl
    · simp only [List.contains_cons, ih]
theorem mt_dq (neg : Bool) (cs : List Nat) (c : Nat) : mt (.set neg (dq cs)) c = mt (.set neg cs) c := by
  simp only [mt, Tk.itm, dq_contains]
theorem mt_lit (a c : Nat) : mt (.lit a) c = decide (c = a) := by
  simp [mt, Tk.itm]
theorem wild_ne34 : ∀ ts : List (Option Tk), wild (ts ++ [q34]) [] = false
  | [] => by simp [wild]
  | none :: ts => by rw [List.cons_append, wild]; exact wild_ne34 ts
  | some t :: ts => by rw [List.cons_append, wild]
theorem dq_drop : ∀ (x : List Nat) (k : Nat), (∃ j, j ≤ x.length ∧ (dq x ++ [34]).drop k = dq (x.drop j) ++ [34]) ∨ (∃ j r, j ≤ x.length ∧ x.drop j = 34 :: r ∧ (dq x ++ [34]).drop k = 34 :: (dq r ++ [34])) ∨ (dq x ++ [34]).drop k = []
  | x, 0 => .inl ⟨0, Nat.zero_le _, rfl⟩
  | [], k + 1 => .inr (.inr (by simp [dq]))
  | c :: x, k + 1 => by
    by_cases hc : c = 34
    · subst hc
      cases k with
      | zero => exact .inr (.inl ⟨0, x, Nat.zero_le _, rfl, by simp [dq]⟩)
      | succ k =>
        have e : (dq (34 :: x) ++ [34]).drop (k + 1 + 1) = (dq x ++ [34]).drop k := by simp [dq]
        rw [e]
        rcases dq_drop x k with ⟨j, hj, h⟩ | ⟨j, r, hj, h1, h2⟩ | h
        · exact .inl ⟨j + 1, Nat.succ_le_succ hj, h⟩
        · exact .inr (.inl ⟨j + 1, r, Nat.succ_le_succ hj, h1, h2⟩)
        · exact .inr (.inr h)
    · have e : (dq (c :: x) ++ [34]).drop (k + 1) = (dq x ++ [34]).drop k := by simp [dq, hc]
      rw [e]
      rcases dq_drop x k with ⟨j, hj, h⟩ | ⟨j, r, hj, h1, h2⟩ | h
      · exact .inl ⟨j + 1, Nat.succ_le_succ hj, h⟩
      · exact .inr (.inl ⟨j + 1, r, Nat.succ_le_succ hj, h1, h2⟩)
      · exact .inr (.inr h)
/-- a token that takes no quote, doubled to one token -/
theorem one_tok {t : Tk} (h : quoteOk (some t)) : (t = .lit 34) ∨ ∃ t', dqT (some t) = [some t'] ∧ (∀ c, mt t' c = mt t c) ∧ mt t 34 = false := by
  cases t with
  | lit c =>
    by_cases hc : c = 34
    · exact .inl (by rw [hc])
    · exact .inr ⟨.lit c, by simp [dqT, hc], fun _ => rfl, by rw [mt_lit]; simp [Ne.symm hc]⟩
  | set neg cs => exact .inr ⟨.set neg (dq cs), rfl, mt_dq neg cs, h⟩
theorem dqs_cons (t : Option Tk) (ts : List (Option Tk)) : dqs (t :: ts) = dqT t ++ dqs ts := by simp [dqs]
theorem dq_back : ∀ (ts : List (Option Tk)), (∀ t ∈ ts, quoteOk t) → ∀ x, (wild (dqs ts ++ [q34]) (dq x ++ [34]) = true → wild ts x = true) ∧ (wild (dqs ts ++ [q34]) (34 :: (dq x ++ [34])) = true → wild ts (34 :: x) = true)
  | [], _, x => by
    have e : dqs [] ++ [q34] = [q34] := rfl
    rw [e]
    constructor
    · cases x with
      | nil => intro _; simp [wild]
      | cons c x =>
        intro h
        exfalso
        by_cases hc : c = 34
        · subst hc
          simp [dq, wild] at h
        · simp [dq, hc, wild] at h
    · intro h
      exfalso
      simp [wild] at h
  | none :: ts, hok, x => by
    have ih := dq_back ts fun t ht => hok t (.tail _ ht)
    have e : dqs (none :: ts) ++ [q34] = none :: (dqs ts ++ [q34]) := rfl
    rw [e]
    have h1 : wild (none :: (dqs ts ++ [q34])) (dq x ++ [34]) = true → wild (none :: ts) x = true := by
      intro h
      obtain ⟨k, _, h⟩ := (wild_star _ _).mp h
      rcases dq_drop x k with ⟨j, hj, e⟩ | ⟨j, r, hj, e1, e⟩ | e
      · rw [e] at h
        exact (wild_star _ _).mpr ⟨j, hj, (ih _).1 h⟩
      · rw [e] at h
        exact (wild_star _ _).mpr ⟨j, hj, by rw [e1]; exact (ih _).2 h⟩
      · rw [e, wild_ne34] at h
        cases h
    refine ⟨h1, ?_⟩
    intro h
    rw [wild, Bool.or_eq_true] at h ⊢
    rcases h with h | h
    · exact .inl ((ih x).2 h)
    · exact .inr (h1 h)
  | some t :: ts, hok, x => by
    have ih := dq_back ts fun t ht => hok t (.tail _ ht)
    rcases one_tok (hok _ (.head _)) with rfl | ⟨t', e, hm, h34⟩
    · have e : dqs (some (.lit 34) :: ts) ++ [q34] = q34 :: q34 :: (dqs ts ++ [q34]) := rfl
      rw [e]
      constructor
      · cases x with
        | nil => intro h; simp [dq, wild] at h
        | cons c x =>
          intro h
          by_cases hc : c = 34
          · subst hc
            simp only [dq, if_true, List.cons_append, wild, Bool.and_eq_true] at h
            rw [wild, Bool.and_eq_true]
            exact ⟨h.1, (ih x).1 h.2.2⟩
          · simp [dq, hc, wild, mt_lit] at h
      · cases x with
        | nil =>
          intro h
          exfalso
          simp only [dq, List.nil_append, wild, Bool.and_eq_true, wild_ne34] at h
          cases h.2.2
        | cons c x =>
          intro h
          by_cases hc : c = 34
          · subst hc
            simp only [dq, if_true, List.cons_append, wild, Bool.and_eq_true] at h
            rw [wild, Bool.and_eq_true]
            exact ⟨h.1, (ih x).2 h.2.2⟩
          · simp [dq, hc, wild, mt_lit] at h
    · have e : dqs (some t :: ts) ++ [q34] = some t' :: (dqs ts ++ [q34]) := by rw [dqs_cons, e]; rfl
      rw [e]
      constructor
      · cases x with
        | nil => intro h; simp [dq, wild, hm, h34] at h
        | cons c x =>
          intro h
          by_cases hc : c = 34
          · subst hc
            simp [dq, wild, hm, h34] at h
          · simp only [dq, if_neg hc, List.cons_append, wild, Bool.and_eq_true, hm] at h
            rw [wild, Bool.and_eq_true]
            exact ⟨h.1, (ih x).1 h.2⟩
      · intro h
        simp [wild, hm, h34] at h
theorem dq_fwd : ∀ (ts : List (Option Tk)), (∀ t ∈ ts, quoteOk t) → ∀ x, wild ts x = true → wild (dqs ts ++ [q34]) (dq x ++ [34]) = true
  | [], _, x => by
    intro h
    rw [wild, List.isEmpty_iff] at h
    subst h
    simp [dqs, dq, wild, mt_lit]
  | none :: ts, hok, x => by
    intro h
    have ih := dq_fwd ts fun t ht => hok t (.tail _ ht)
    obtain ⟨k, hk, h⟩ := (wild_star _ _).mp h
    have e : dqs (none :: ts) ++ [q34] = none :: (dqs ts ++ [q34]) := rfl
    rw [e]
    refine wild_star_mono (dq (x.take k)).length ?_
    have e2 : dq x = dq (x.take k) ++ dq (x.drop k) := by rw [← dq_append, List.take_append_drop]
    rw [e2, List.append_assoc, List.drop_left]
    exact (wild_star _ _).mpr ⟨0, Nat.zero_le _, ih _ h⟩
  | some t :: ts, hok, x => by
    intro h
    have ih := dq_fwd ts fun t ht => hok t (.tail _ ht)
    cases x with
    | nil => simp [wild] at h
    | cons c x =>
      rw [wild, Bool.and_eq_true] at h
      rcases one_tok (hok _ (.head _)) with rfl | ⟨t', e, hm, h34⟩
      · have hc : c = 34 := by simpa [mt_lit] using h.1
        subst hc
        have e : dqs (some (.lit 34) :: ts) ++ [q34] = q34 :: q34 :: (dqs ts ++ [q34]) := rfl
        rw [e]
        simp only [dq, if_true, List.cons_append, wild, Bool.and_eq_true]
        exact ⟨h.1, h.1, ih x h.2⟩
      · have hc : c ≠ 34 := fun q => by rw [q, h34] at h; cases h.1
        have e : dqs (some t :: ts) ++ [q34] = some t' :: (dqs ts ++ [q34]) := by rw [dqs_cons, e]; rfl
        rw [e]
        simp only [dq, if_neg hc, List.cons_append, wild, Bool.and_eq_true, hm]
        exact ⟨h.1, ih x h.2⟩
theorem wild_reply {ts : List (Option Tk)} (hok : ∀ t ∈ ts, quoteOk t) (x : List Nat) : wild (tsR ts) (replyL x) = wild ts x := by
  have e : wild (tsR ts) (replyL x) = wild (dqs ts ++ [q34]) (dq x ++ [34]) := by
    simp only [tsR, replyL, List.cons_append, List.nil_append, wild, mt_lit, decide_true, Bool.true_and]
  rw [e, Bool.eq_iff_iff]
  exact ⟨(dq_back ts hok x).1, dq_fwd ts hok x⟩
theorem pats_append (a b : List (Option Tk)) : pats (a ++ b) = pats a ++ pats b := by simp [pats]
theorem pats_dqT : ∀ t : Option Tk, pats (dqT t) = dq (ptxt t)
  | none => rfl
  | some (.lit c) => by
    by_cases hc : c = 34
    · subst hc; rfl
    · simp [dqT, hc, pats, ptxt, dq]
  | some (.set neg cs) => by
    cases neg <;> simp [dqT, pats, ptxt, dq, dq_append]
theorem pats_dqs : ∀ ts : List (Option Tk), pats (dqs ts) = dq (pats ts)
  | [] => rfl
  | t :: ts => by
    rw [dqs_cons, pats_append, pats_dqT, pats_dqs ts, ← dq_append]
    rfl
theorem pats_reply (ts : List (Option Tk)) : pats (tsR ts) = replyL (pats ts) := by
  have : pats (tsR ts) = [50, 53, 55, 32, 34] ++ (pats (dqs ts) ++ [34]) := by simp [tsR, pats, ptxt]
  rw [this, pats_dqs]
  simp [replyL]
/-! the table -/
def tokI : Item → Option Tk
  | none => none
  | some (b, s) => if b || spec3 s then some (.set b s) else some (.lit (s.headD 0))
def itmOk : Item → Prop
  | none => True
  | some (b, s) => (b || spec3 s) = true ∨ ∃ c, s = [c]
theorem mt_tokI {b : Bool} {s : List Nat} (h : itmOk (some (b, s))) : ∃ t, tokI (some (b, s)) = some t ∧ ∀ c, mt t c = (s.contains c != b) := by
  simp only [tokI]
  by_cases hs : (b || spec3 s) = true
  · exact ⟨_, if_pos hs, fun _ => rfl⟩
  · refine ⟨_, if_neg hs, fun c => ?_⟩
    rcases h with h | ⟨a, rfl⟩
    · exact absurd h hs
    · simp only [Bool.not_eq_true, Bool.or_eq_false_iff] at hs
      rw [hs.1]
      rfl
theorem scan_get : ∀ (s : Bool) (R : List Bool) (j : Nat), (scanOr s R)[j]? = some true ↔ j < R.length ∧ (s = true ∨ ∃ k, k ≤ j ∧ R[k]? = some true)
  | s, [], j => by simp [scanOr]
  | s, r :: t, 0 => by
    simp only [scanOr, List.getElem?_cons_zero, Option.some.injEq, List.length_cons, Bool.or_eq_true]
    constructor
    · rintro (h | h)
      · exact ⟨Nat.succ_pos _, .inl h⟩
      · exact ⟨Nat.succ_pos _, .inr ⟨0, Nat.le_refl _, by simp [h]⟩⟩
    · rintro ⟨_, h | ⟨k, hk, h⟩⟩
      · exact .inl h
      · obtain rfl : k = 0 := by omega
        exact .inr (by simpa using h)
  | s, r :: t, j + 1 => by
    simp only [scanOr, List.getElem?_cons_succ, scan_get (s || r) t j, List.length_cons, Bool.or_eq_true]
    constructor
    · rintro ⟨hj, (h | h) | ⟨k, hk, h⟩⟩
      · exact ⟨Nat.succ_lt_succ hj, .inl h⟩
      · exact ⟨Nat.succ_lt_succ hj, .inr ⟨0, Nat.zero_le _, by simp [h]⟩⟩
      · exact ⟨Nat.succ_lt_succ hj, .inr ⟨k + 1, Nat.succ_le_succ hk, by simpa using h⟩⟩
    · rintro ⟨hj, h | ⟨k, hk, h⟩⟩
      · exact ⟨Nat.lt_of_succ_lt_succ hj, .inl (.inl h)⟩
      · cases k with
        | zero => exact ⟨Nat.lt_of_succ_lt_succ hj, .inl (.inr (by simpa using h))⟩
        | succ k => exact ⟨Nat.lt_of_succ_lt_succ hj, .inr ⟨k, Nat.le_of_succ_le_succ hk, by simpa using h⟩⟩
theorem means_from (x : List Nat) : ∀ (is : List Item), (∀ i ∈ is, itmOk i) → ∀ R : List Bool, R.length = x.length + 1 →
    (((is.foldl (stepM x) R).getLast?).getD false = true ↔ ∃ k, k ≤ x.length ∧ R[k]? = some true ∧ wild (is.map tokI) (x.drop k) = true)
  | [], _, R, hR => by
    rw [List.foldl_nil, List.getLast?_eq_getElem?, hR, Nat.add_sub_cancel]
    constructor
    · intro h
      refine ⟨x.length, Nat.le_refl _, ?_, by simp [wild]⟩
      cases q : R[x.length]? with
      | none => rw [q] at h; cases h
      | some b => rw [q] at h; simpa using h
    · rintro ⟨k, hk, h1, h2⟩
      simp only [List.map_nil, wild, List.isEmpty_iff, List.drop_eq_nil_iff] at h2
      obtain rfl : k = x.length := by omega
      rw [h1]; rfl
  | none :: is, hok, R, hR => by
    have ih := means_from x is (fun i hi => hok i (.tail _ hi)) (stepM x R none) (stepM_len hR none)
    rw [List.foldl_cons, ih]
    simp only [stepM, scan_get, List.map_cons, tokI]
    constructor
    · rintro ⟨k, hk, ⟨_, h | ⟨j, hj, h⟩⟩, hw⟩
      · cases h
      · refine ⟨j, by omega, h, (wild_star _ _).mpr ⟨k - j, by rw [List.length_drop]; omega, ?_⟩⟩
        rw [List.drop_drop, show j + (k - j) = k from by omega]
        exact hw
    · rintro ⟨j, hj, h, hw⟩
      obtain ⟨k, hk, hw⟩ := (wild_star _ _).mp hw
      rw [List.length_drop] at hk
      rw [List.drop_drop] at hw
      exact ⟨j + k, by omega, ⟨by omega, .inr ⟨j, by omega, h⟩⟩, hw⟩
  | some (b, s) :: is, hok, R, hR => by
    have ih := means_from x is (fun i hi => hok i (.tail _ hi)) (stepM x R (some (b, s))) (stepM_len hR _)
    rw [List.foldl_cons, ih]
    obtain ⟨t, ht, hm⟩ := mt_tokI (hok _ (.head _))
    simp only [List.map_cons, ht]
    constructor
    · rintro ⟨k, hk, h, hw⟩
      cases k with
      | zero => simp [stepM] at h
      | succ k =>
        have hkx : k < x.length := by omega
        have hkR : k < R.length := by omega
        simp only [stepM, List.getElem?_cons_succ, List.getElem?_map, List.getElem?_zip_eq_some, Option.map_eq_some_iff] at h
        obtain ⟨p, hp, h⟩ := h
        obtain ⟨h1, h2⟩ := hp
        rw [Bool.and_eq_true] at h
        refine ⟨k, by omega, by rw [h1, h.1], ?_⟩
        have hx := (List.getElem?_eq_some_iff.mp h2).2
        rw [List.drop_eq_getElem_cons hkx, hx, wild, hm, h.2, hw]
        rfl
    · rintro ⟨k, hk, h, hw⟩
      by_cases hkx : k < x.length
      · rw [List.drop_eq_getElem_cons hkx, wild, Bool.and_eq_true, hm] at hw
        refine ⟨k + 1, by omega, ?_, hw.2⟩
        simp only [stepM, List.getElem?_cons_succ, List.getElem?_map, Option.map_eq_some_iff]
        exact ⟨(true, x[k]), List.getElem?_zip_eq_some.mpr ⟨h, List.getElem?_eq_getElem hkx⟩, by rw [Bool.true_and]; exact hw.1⟩
      · rw [List.drop_eq_nil_of_le (by omega), wild] at hw
        cases hw
theorem means_wild {is : List Item} (hok : ∀ i ∈ is, itmOk i) (x : List Nat) : meansL is x = wild (is.map tokI) x := by
  rw [Bool.eq_iff_iff, meansL, means_from x is hok _ (by simp [reach0])]
  constructor
  · rintro ⟨k, hk, h, hw⟩
    cases k with
    | zero => exact hw
    | succ k =>
      simp only [reach0, List.getElem?_cons_succ] at h
      have := List.mem_of_getElem? h
      rw [List.mem_replicate] at this
      cases this.2
  · intro hw
    exact ⟨0, Nat.zero_le _, rfl, hw⟩
/-! which tokens there are, and bounds -/
def okL (N : List (List Nat)) : Option Tk → Prop
  | none => True
  | some (.lit c) => c ≠ 42 ∧ c ≠ 63 ∧ c ≠ 91
  | some (.set true cs) => cs ∈ N
  | some (.set false cs) => cs ∈ ([[97, 98], [42], [63], [91]] : List (List Nat))
def N0 : List (List Nat) := [[34], [97, 34]]
def N1 : List (List Nat) := [[34, 34], [97, 34, 34]]
def N2 : List (List Nat) := [[34, 34, 34, 34], [97, 34, 34, 34, 34]]
def goodB : Tk → Bool
  | .lit _ => true
  | .set neg cs => cs.all (fun c => c != 93 && c != 92) && (neg || cs.head? != some 94)
theorem good_of {t : Tk} (h : goodB t = true) : t.good := by
  cases t with
  | lit c => trivial
  | set neg cs =>
    simp only [goodB, Bool.and_eq_true, List.all_eq_true] at h
    refine ⟨fun c hc => by simpa using h.1 c hc, fun hn => ?_⟩
    subst hn
    simpa using h.2
structure AllOk (t : Option Tk) : Prop where
  ok : okT t
  quote : quoteOk t
  good : ∀ k, t = some k → k.good
  enc : ∀ k, t = some k → k.enc.length ≤ 18
  txt : (ptxt t).length ≤ 10
def okN (N : List (List Nat)) : Bool := N.all fun cs => stuffs.contains (33 :: cs) && !mt (.set true cs) 34 && goodB (.set true cs) && decide ((Tk.set true cs).enc.length ≤ 18) && decide (cs.length ≤ 5)
theorem okL_all {N : List (List Nat)} (hN : okN N = true) : ∀ {t : Option Tk}, okL N t → AllOk t
  | none, _ => ⟨trivial, trivial, fun k e => (by cases e), fun k e => (by cases e), by decide⟩
  | some (.lit c), h => ⟨h, trivial, fun k e => (by cases e; trivial), fun k e => (by cases e; simp only [Tk.enc, escL]; split <;> simp), by simp [ptxt]⟩
  | some (.set true cs), h => by
    have := List.all_eq_true.mp hN cs h
    simp only [Bool.and_eq_true, decide_eq_true_eq, Bool.not_eq_true'] at this
    obtain ⟨⟨⟨⟨h1, h2⟩, h3⟩, h4⟩, h5⟩ := this
    exact ⟨⟨List.contains_iff_mem.mp h1, fun e => (by cases e)⟩, h2, fun k e => (by cases e; exact good_of h3), fun k e => (by cases e; exact h4), by simp [ptxt]; omega⟩
  | some (.set false cs), h => by
    have : ∀ cs ∈ ([[97, 98], [42], [63], [91]] : List (List Nat)), (stuffs.contains cs && !mt (.set false cs) 34 && goodB (.set false cs) && decide ((Tk.set false cs).enc.length ≤ 18) && decide (cs.length ≤ 5) && decide (cs.head? ≠ some 33)) = true := by decide +kernel
    have := this cs h
    simp only [Bool.and_eq_true, decide_eq_true_eq, Bool.not_eq_true'] at this
    obtain ⟨⟨⟨⟨⟨h1, h2⟩, h3⟩, h4⟩, h5⟩, h6⟩ := this
    exact ⟨⟨List.contains_iff_mem.mp h1, fun _ => h6⟩, h2, fun k e => (by cases e; exact good_of h3), fun k e => (by cases e; exact h4), by simp [ptxt]; omega⟩
theorem okL_dqT {N M : List (List Nat)} (hNM : N.map dq = M) : ∀ {t : Option Tk}, okL N t → ∀ t' ∈ dqT t, okL M t'
  | none, _, t', h => by rw [List.mem_singleton.mp h]; trivial
  | some (.lit c), hc, t', h => by
    simp only [dqT] at h
    split at h
    · simp only [List.mem_cons, List.not_mem_nil, or_false, or_self] at h
      subst h
      exact ⟨by decide, by decide, by decide⟩
    · rw [List.mem_singleton.mp h]; exact hc
  | some (.set true cs), hc, t', h => by
    rw [List.mem_singleton.mp h, ← hNM]
    exact List.mem_map_of_mem hc
  | some (.set false cs), hc, t', h => by
    rw [List.mem_singleton.mp h]
    have : ∀ cs ∈ ([[97, 98], [42], [63], [91]] : List (List Nat)), dq cs ∈ ([[97, 98], [42], [63], [91]] : List (List Nat)) := by decide
    exact this cs hc
theorem okL_reply {N M : List (List Nat)} (hNM : N.map dq = M) {ts : List (Option Tk)} (h : ∀ t ∈ ts, okL N t) : ∀ t ∈ tsR ts, okL M t := by
  intro t ht
  simp only [tsR, List.mem_cons, List.mem_append, List.not_mem_nil, or_false] at ht
  rcases ht with rfl | rfl | rfl | rfl | rfl | ht | rfl
  all_goals first | exact ⟨by decide, by decide, by decide⟩ | skip
  obtain ⟨t0, h0, h1⟩ := List.mem_flatMap.mp ht
  exact okL_dqT hNM (h t0 h0) t h1
theorem dqT_len (t : Option Tk) : (dqT t).length ≤ 2 := by
  match t with
  | none => simp [dqT]
  | some (.lit c) => simp only [dqT]; split <;> simp
  | some (.set neg cs) => simp [dqT]
theorem dqs_len : ∀ ts : List (Option Tk), (dqs ts).length ≤ 2 * ts.length
  | [] => Nat.le_refl _
  | t :: ts => by
    have h1 := dqs_len ts
    have h2 := dqT_len t
    rw [dqs_cons, List.length_append, List.length_cons]
    omega
theorem tsR_len (ts : List (Option Tk)) : (tsR ts).length ≤ 2 * ts.length + 6 := by
  have := dqs_len ts
  simp only [tsR, List.length_cons, List.length_append, List.length_nil]
  omega
theorem pats_len : ∀ {ts : List (Option Tk)}, (∀ t ∈ ts, AllOk t) → (pats ts).length ≤ 10 * ts.length
  | [], _ => Nat.le_refl _
  | t :: ts, h => by
    have h1 := pats_len fun t ht => h t (.tail _ ht)
    have h2 := (h t (.head _)).txt
    simp only [pats, List.flatMap_cons, List.length_append, List.length_cons] at h1 ⊢
    omega
structure CutOk (ts : List (Option Tk)) (s : List Tk × More) : Prop where
  mem : ∀ p ∈ s.1 :: s.2.ps, ∀ t ∈ p, some t ∈ ts
  len : ∀ p ∈ s.1 :: s.2.ps, p.length ≤ ts.length
  num : s.2.ps.length ≤ ts.length
  txt : (encs s.1).length + (tailE s.2).length ≤ 20 * ts.length
theorem cut_ok {ts : List (Option Tk)} : (∀ t ∈ ts, AllOk t) → CutOk ts (cut ts) := by
  induction ts using snoc_ind with
  | h0 => exact fun _ => ⟨fun p hp t ht => (by rw [List.mem_singleton.mp hp] at ht; cases ht), fun p hp => (by rw [List.mem_singleton.mp hp]; exact Nat.le_refl _), Nat.le_refl _, Nat.le_refl _⟩
  | h1 ts t ih =>
    intro hok
    have ih := ih fun t ht => hok t (List.mem_append_left _ ht)
    have hen := (hok t (List.mem_append_right _ (.head _))).enc
    rw [cut_snoc]
    generalize cut ts = s at ih
    obtain ⟨f, mo⟩ := s
    obtain ⟨i1, i2, i3, i4⟩ := ih
    match mo, t with
    | none, some t =>
      have h18 := hen t rfl
      refine ⟨fun p hp x hx => ?_, fun p hp => ?_, Nat.zero_le _, ?_⟩
      · rw [List.mem_singleton.mp (show p ∈ [f ++ [t]] from hp)] at hx
        rcases List.mem_append.mp hx with hx | hx
        · exact List.mem_append_left _ (i1 f (.head _) x hx)
        · rw [List.mem_singleton.mp hx]; exact List.mem_append_right _ (.head _)
      · rw [List.mem_singleton.mp (show p ∈ [f ++ [t]] from hp)]
        have := i2 f (.head _)
        simp only [List.length_append, List.length_cons, List.length_nil]
        omega
      · simp only [addT, encs, List.flatMap_append, List.flatMap_cons, List.flatMap_nil, List.length_append, List.length_cons, List.length_nil, tailE] at i4 ⊢
        omega
    | none, none =>
      refine ⟨fun p hp x hx => ?_, fun p hp => ?_, ?_, ?_⟩
      · rcases List.mem_cons.mp hp with rfl | hp
        · exact List.mem_append_left _ (i1 _ (.head _) x hx)
        · rw [List.mem_singleton.mp (show p ∈ [[]] from hp)] at hx; cases hx
      · rcases List.mem_cons.mp hp with rfl | hp
        · have := i2 _ (.head _)
          simp only [List.length_append, List.length_cons, List.length_nil]
          exact Nat.le_trans this (Nat.le_add_right _ _)
        · rw [List.mem_singleton.mp (show p ∈ [[]] from hp)]; exact Nat.zero_le _
      · simp [addT, More.ps]
      · simp only [addT, tailE, encs, List.flatMap_nil, List.length_append, List.length_cons, List.length_nil, List.nil_append] at i4 ⊢
        omega
    | some (ms, l), some t =>
      have h18 := hen t rfl
      refine ⟨fun p hp x hx => ?_, fun p hp => ?_, ?_, ?_⟩
      · rcases List.mem_cons.mp hp with rfl | hp
        · exact List.mem_append_left _ (i1 _ (.head _) x hx)
        · rcases List.mem_append.mp (show p ∈ ms ++ [l ++ [t]] from hp) with hp | hp
          · exact List.mem_append_left _ (i1 p (.tail _ (List.mem_append_left _ hp)) x hx)
          · rw [List.mem_singleton.mp hp] at hx
            rcases List.mem_append.mp hx with hx | hx
            · exact List.mem_append_left _ (i1 l (.tail _ (List.mem_append_right _ (.head _))) x hx)
            · rw [List.mem_singleton.mp hx]; exact List.mem_append_right _ (.head _)
      · rw [List.length_append, List.length_singleton]
        rcases List.mem_cons.mp hp with rfl | hp
        · exact Nat.le_trans (i2 _ (.head _)) (Nat.le_add_right _ _)
        · rcases List.mem_append.mp (show p ∈ ms ++ [l ++ [t]] from hp) with hp | hp
          · exact Nat.le_trans (i2 p (.tail _ (List.mem_append_left _ hp))) (Nat.le_add_right _ _)
          · rw [List.mem_singleton.mp hp]
            have := i2 l (.tail _ (List.mem_append_right _ (.head _)))
            rw [List.length_append, List.length_singleton]
            omega
      · simp only [addT, More.ps, List.length_append, List.length_cons, List.length_nil] at i3 ⊢
        omega
      · simp only [addT, tailE, encs, List.flatMap_append, List.flatMap_cons, List.flatMap_nil, List.length_append, List.length_cons, List.length_nil] at i4 ⊢
        omega
    | some (ms, []), none =>
      refine ⟨fun p hp x hx => List.mem_append_left _ (i1 p hp x hx), fun p hp => ?_, ?_, ?_⟩
      · rw [List.length_append]; exact Nat.le_trans (i2 p hp) (Nat.le_add_right _ _)
      · rw [List.length_append]; exact Nat.le_trans i3 (Nat.le_add_right _ _)
      · rw [List.length_append]; exact Nat.le_trans i4 (by omega)
    | some (ms, t :: l), none =>
      refine ⟨fun p hp x hx => ?_, fun p hp => ?_, ?_, ?_⟩
      · rcases List.mem_cons.mp hp with rfl | hp
        · exact List.mem_append_left _ (i1 _ (.head _) x hx)
        · rcases List.mem_append.mp (show p ∈ (ms ++ [t :: l]) ++ [[]] from hp) with hp | hp
          · exact List.mem_append_left _ (i1 p (.tail _ hp) x hx)
          · rw [List.mem_singleton.mp hp] at hx; cases hx
      · rw [List.length_append, List.length_singleton]
        rcases List.mem_cons.mp hp with rfl | hp
        · exact Nat.le_trans (i2 _ (.head _)) (Nat.le_add_right _ _)
        · rcases List.mem_append.mp (show p ∈ (ms ++ [t :: l]) ++ [[]] from hp) with hp | hp
          · exact Nat.le_trans (i2 p (.tail _ hp)) (Nat.le_add_right _ _)
          · rw [List.mem_singleton.mp hp]; exact Nat.zero_le _
      · simp only [addT, More.ps, List.length_append, List.length_cons, List.length_nil] at i3 ⊢
        omega
      · simp only [addT, tailE, encs, midE, List.flatMap_append, List.flatMap_cons, List.flatMap_nil, List.length_append, List.length_cons, List.length_nil] at i4 ⊢
        omega
/-! the items that numbers draw -/
theorem drI_ok {ns : List Int} {i : Item} (hi : i ∈ drI ns) : itmOk i ∧ okL N0 (tokI i) ∧ (∀ b x, i = some (b, x) → x ≠ []) ∧ wr i = ptxt (tokI i) := by
  obtain ⟨n, _, e⟩ := List.mem_filterMap.mp hi
  unfold pairAt at e
  generalize signN (n.fdiv 16) = c at e
  have one : ∀ c : Nat, i = some (false, [c]) → itmOk i ∧ okL N0 (tokI i) ∧ (∀ b x, i = some (b, x) → x ≠ []) ∧ wr i = ptxt (tokI i) := by
    rintro c rfl
    refine ⟨.inr ⟨c, rfl⟩, ?_, fun b x e => (by cases e; simp), ?_⟩
    · by_cases h : spec3 [c] = true
      · have hc : (c = 42 ∨ c = 63) ∨ c = 91 := by simpa [spec3] using h
        have : tokI (some (false, [c])) = some (.set false [c]) := by simp [tokI, h]
        rw [this]
        show [c] ∈ ([[97, 98], [42], [63], [91]] : List (List Nat))
        rcases hc with (rfl | rfl) | rfl <;> decide
      · have : tokI (some (false, [c])) = some (.lit c) := by simp [tokI, h]
        rw [this]
        refine ⟨fun q => h ?_, fun q => h ?_, fun q => h ?_⟩ <;> (subst q; decide)
    · by_cases h : spec3 [c] = true
      · simp [tokI, h, wr, ptxt]
      · simp [tokI, h, wr, ptxt]
  unfold pairOf at e
  split at e <;> simp only [Option.some.injEq, reduceCtorEq] at e
  all_goals first
    | exact one _ e.symm
    | (subst e; exact ⟨trivial, trivial, fun b x e => (by cases e), rfl⟩)
    | (subst e; exact ⟨.inl rfl, (by first | (show [97, 98] ∈ ([[97, 98], [42], [63], [91]] : List (List Nat)); decide) | (show [34] ∈ N0; decide) | (show [97, 34] ∈ N0; decide)), fun b x e => (by cases e; simp), by decide⟩)
theorem written_pats {is : List Item} (h : ∀ i ∈ is, wr i = ptxt (tokI i)) : writtenL is = pats (is.map tokI) := by
  induction is with
  | nil => rfl
  | cons i is ih =>
    have h1 := ih fun j hj => h j (.tail _ hj)
    simp only [writtenL, pats, List.map_cons, List.flatMap_cons] at h1 ⊢
    rw [h1, h i (.head _)]
theorem drI_len : ∀ ns : List Int, (drI ns).length ≤ ns.length := fun ns => List.length_filterMap_le ..
/-! _law_right -/
def TS (ns : List Int) : Nat → List (Option Tk)
  | 0 => tsR (tsR ((drI ns).map tokI))
  | 1 => tsR ((drI ns).map tokI)
  | _ => (drI ns).map tokI
def XS (ns : List Int) : Nat → List Nat
  | 0 => replyL (replyL (drN ns))
  | 1 => replyL (drN ns)
  | _ => drN ns
structure LvOk (ts : List (Option Tk)) (x : List Nat) (meant : Bool) : Prop where
  ok : ∀ t ∈ ts, AllOk t
  len : ts.length ≤ 60
  eq : wild ts x = meant
  xl : x.length ≤ 1000
theorem replyL_len (x : List Nat) : (replyL x).length ≤ 2 * x.length + 6 := by
  have := dq_le x
  simp only [replyL, List.length_append, List.length_cons, List.length_nil]
  omega
theorem lv_ok {ns : List Int} (hn : ns.length ≤ 8) (k : Nat) : LvOk (TS ns k) (XS ns k) (meansL (drI ns) (drN ns)) := by
  have hI : ∀ i ∈ drI ns, itmOk i ∧ okL N0 (tokI i) ∧ (∀ b x, i = some (b, x) → x ≠ []) ∧ wr i = ptxt (tokI i) := fun i hi => drI_ok hi
  have h0 : ∀ t ∈ (drI ns).map tokI, okL N0 t := fun t ht => by
    obtain ⟨i, hi, rfl⟩ := List.mem_map.mp ht
    exact (hI i hi).2.1
  have h1 := okL_reply (N := N0) (M := N1) (by decide) h0
  have h2 := okL_reply (N := N1) (M := N2) (by decide) h1
  have a0 : ∀ t ∈ (drI ns).map tokI, AllOk t := fun t ht => okL_all (by decide +kernel) (h0 t ht)
  have a1 : ∀ t ∈ tsR ((drI ns).map tokI), AllOk t := fun t ht => okL_all (by decide +kernel) (h1 t ht)
  have a2 : ∀ t ∈ tsR (tsR ((drI ns).map tokI)), AllOk t := fun t ht => okL_all (by decide +kernel) (h2 t ht)
  have l0 : ((drI ns).map tokI).length ≤ 8 := by rw [List.length_map]; exact Nat.le_trans (drI_len ns) hn
  have l1 := tsR_len ((drI ns).map tokI)
  have l2 := tsR_len (tsR ((drI ns).map tokI))
  have x0 := drN_len ns
  have x1 := replyL_len (drN ns)
  have x2 := replyL_len (replyL (drN ns))
  have e0 : wild ((drI ns).map tokI) (drN ns) = meansL (drI ns) (drN ns) := (means_wild (fun i hi => (hI i hi).1) _).symm
  have e1 := (wild_reply (fun t ht => (a0 t ht).quote) (drN ns)).trans e0
  have e2 := (wild_reply (fun t ht => (a1 t ht).quote) (replyL (drN ns))).trans e1
  match k with
  | 0 => exact ⟨a2, by show (tsR _).length ≤ _; omega, e2, by show (replyL _).length ≤ _; omega⟩
  | 1 => exact ⟨a1, by show (tsR _).length ≤ _; omega, e1, by show (replyL _).length ≤ _; omega⟩
  | k + 2 => exact ⟨a0, by show (List.map _ _).length ≤ _; omega, e0, by show (drN _).length ≤ _; omega⟩
section
variable {prog : Program} {w : World} {mg mb : Str → Option Value} {A : Around} {E : Value → Shared → Prop} {h : Heap} {g : Array GenState} {d : Drawn} {tk : Nat} {os : OsState}
set_option pp.proofs false
theorem c_right {l : Addr} {vs : List Value} {n : Nat} {ns : List Int} {ps : Array Value} {Q : Value → Shared → Prop} (O : Ok A 100 1000) (D : Gd w mg mb (hideAll h [57])) (hP : h.get? 57 = some (tabObj ps)) (hps : TriplesOk ps.toList)
    (ho : h.get? l = some (lst vs n)) (hi : IntsAre vs ns) (hn : ns.length ≤ 8)
    (hQ : ∀ h' k ps', (hideAll h [57]).StaysIn h' → h'.get? 57 = some (tabObj ps') → Q (.bool true) ⟨h', g, d, k, os⟩) :
    wpAny (model prog w) A (call (.ref 178) [.ref l]) Q E ⟨h, g, d, tk, os⟩ := by
  refine enter [("numbers", .ref l)] (O.le : Ok A (99+1) (997+3)) (D.keeps fun b o e => of_hideAll _ e) rfl rfl rfl rfl rfl rfl rfl rfl ?_
  intro L h₁ tk₁ A' V O'
  have V := V.own57 hP
  have h57 : (hideAll h [57]).get? 57 = none := hideAll_none _ (.head _)
  have hoB : (hideAll h [57]).get? l = some (lst vs n) := hideAll_get _ ho fun q => by
    have : l = 57 := by simpa using q
    rw [this, hP] at ho
    cases ho
  generalize hideAll h [57] = B at *
  have hlv := lv_ok hn
  have hI : ∀ i ∈ drI ns, itmOk i ∧ okL N0 (tokI i) ∧ (∀ b x, i = some (b, x) → x ≠ []) ∧ wr i = ptxt (tokI i) := fun i hi => drI_ok hi
  have hw : writtenL (drI ns) = pats ((drI ns).map tokI) := written_pats fun i hi => (hI i hi).2.2.2
  have hwl : (pats ((drI ns).map tokI)).length ≤ 600 := by
    have h1 := pats_len (hlv 2).ok
    have h2 := (hlv 2).len
    have h3 : (pats (TS ns 2)).length = (pats ((drI ns).map tokI)).length := rfl
    omega
  have hnl : (drN ns).length ≤ 16 := Nat.le_trans (drN_len ns) (by omega)
  repeat walk_at "zz"
  refine c_drawn (O'.le) (D.keeps (Led.keep (by with_reducible assumption))) (by walk_at "ho") hi (by omega) fun h2 k2 aD aI us kI tD fz hst N haD haI hin => ?_
  have V2 : Led B L _ h2 ([(57, tabObj ps)] ++ fz) := Led.addNew (by with_reducible assumption) hst N
  rw [List.singleton_append] at V2
  clear hst N
  repeat walk_at "zz"
  refine c_written (O'.le) (D.keeps (Led.keep (by with_reducible assumption))) (by walk_at "ho") (hin.at fun p hp => (Led.nw (by with_reducible assumption) _ (.tail _ hp)).1) (by rw [hw]; omega) (fun b x hx => (hI _ hx).2.2.1 b x rfl) fun h3 k3 t3 hst => ?_
  have V3 := Led.grow (by with_reducible assumption) hst
  clear hst
  rw [hw]
  repeat walk_at "zz"
  refine c_back (O'.le) (D.keeps (Led.keep (by with_reducible assumption))) (by omega) fun h4 k4 aB lP nP t41 t42 t43 fz2 hst N haB haP => ?_
  have V4 : Led B L _ h4 ((57, tabObj ps) :: (fz ++ fz2)) := Led.addNew (by with_reducible assumption) hst N
  clear hst N
  rw [← pats_reply, ← pats_reply] at haP
  replace haI := List.mem_append_left fz2 haI
  replace haB := List.mem_append_right fz haB
  replace haP := List.mem_append_right fz haP
  replace hin : ItemsIn (fz ++ fz2) us (drI ns) := hin.mono fun p hp => List.mem_append_left fz2 hp
  clear haD
  generalize fz ++ fz2 = fz at *
  repeat walk_at "zz"
  refine c_back (O'.le) (D.keeps (Led.keep (by with_reducible assumption))) (by omega) fun h5 k5 aC lN nN t51 t52 t53 fz3 hst N haC haN => ?_
  have V5 : Led B L _ h5 ((57, tabObj ps) :: (fz ++ fz3)) := Led.addNew (by with_reducible assumption) hst N
  clear hst N
  replace haI := List.mem_append_left fz3 haI
  replace haP := List.mem_append_left fz3 haP
  replace haC := List.mem_append_right fz haC
  replace haN := List.mem_append_right fz haN
  replace hin : ItemsIn (fz ++ fz3) us (drI ns) := hin.mono fun p hp => List.mem_append_left fz3 hp
  clear haB
  generalize fz ++ fz3 = fz at *
  repeat walk_at "zz"
  refine c_means (O'.le) (D.keeps (Led.keep (by with_reducible assumption))) (by walk_at "ho") (hin.at fun p hp => (Led.nw (by with_reducible assumption) _ (.tail _ hp)).1) (by omega) fun h6 k6 hst => ?_
  have V6 := Led.grow (by with_reducible assumption) hst
  clear hst
  generalize meansL (drI ns) (drN ns) = M at *
  repeat walk_at "zz"
  refine wpAny_For ?_ (by intro _; rfl)
  repeat walk_at "zz"
  refine z_pyIterR (n := 3) (by assumption) (by assumption) (by decide) fun it h7 V7 => ?_
  refine z_forR O'.hd (fun i m news => ∃ ps', news = (57, tabObj ps') :: fz ∧ TriplesOk ps'.toList ∧ m "patterns" = some (.ref lP) ∧ m "names" = some (.ref lN) ∧ m "meant" = some (.bool M) ∧ m "all_back" = some (.bool true) ∧ m "names_back" = some (.bool true)) V7 ⟨ps, rfl, hps, rfl, rfl, rfl, rfl, rfl⟩ ?_ ?_
  · rintro i m news h8 t8 u o hi3 ⟨ps8, rfl, hps8, hm1, hm2, hm3, hm4, hm5⟩ V
    have hk := hlv i
    have hco := cut_ok hk.ok
    have hpl := pats_len hk.ok
    have hlen := hk.len
    have hrl : (render (cut (TS ns i)).1 (cut (TS ns i)).2).length ≤ 2000 := by
      have := hco.txt
      simp only [render, List.length_append, List.length_cons, List.length_nil]
      omega
    obtain ⟨tp, hpk⟩ : ∃ t, ([Value.str (mkS (pats (tsR (tsR ((drI ns).map tokI))))) t41, .str (mkS (pats (tsR ((drI ns).map tokI)))) t42, .str (mkS (pats ((drI ns).map tokI))) t43] : List Value)[i]? = some (.str (mkS (pats (TS ns i))) t) :=
      match i, hi3 with
      | 0, _ => ⟨_, rfl⟩
      | 1, _ => ⟨_, rfl⟩
      | 2, _ => ⟨_, rfl⟩
    obtain ⟨tn, hnk⟩ : ∃ t, ([Value.str (mkS (replyL (replyL (drN ns)))) t51, .str (mkS (replyL (drN ns))) t52, .str (mkS (drN ns)) t53] : List Value)[i]? = some (.str (mkS (XS ns i)) t) :=
      match i, hi3 with
      | 0, _ => ⟨_, rfl⟩
      | 1, _ => ⟨_, rfl⟩
      | 2, _ => ⟨_, rfl⟩
    repeat walk_at "zz"
    refine c_translate (ts := TS ns i) (first := (cut (TS ns i)).1) (more := (cut (TS ns i)).2) (O'.le) (D.keeps (Led.hide57 (by with_reducible assumption) h57)) (Led.at (by with_reducible assumption) 1 rfl) hps8 (fun t ht => (hk.ok t ht).ok) (by omega) (by omega) (cut_parts _) (cut_mids _) (by omega) fun h9 k9 t9 ps9 hst h579 hps9 => ?_
    have V9 : Led B L _ h9 _ := Led.after57 (i := 1) (by with_reducible assumption) (by rfl) hst h579
    dsimp only [List.set_cons_succ, List.set_cons_zero] at V9
    clear hst
    repeat walk_at "zz"
    refine c_runs (O'.le) (D.keeps (Led.keep (by with_reducible assumption))) (by omega) (by have := hk.xl; omega) (fun p hp t ht => (hk.ok _ (hco.mem p hp t ht)).good t rfl) (fun p hp => Nat.le_trans (hco.len p hp) (by omega)) (Nat.le_trans hco.num (by omega)) fun h10 k10 v hst hv => ?_
    have V10 := Led.grow (by with_reducible assumption) hst
    clear hst
    rw [runs_wild, hk.eq] at hv
    cases M with
    | true =>
      obtain ⟨a, rfl⟩ := hv
      repeat walk_at "zz"
      refine z_iteF rfl ?_
      repeat walk_at "zz"
      exact f_next (by with_reducible assumption) ⟨ps9, rfl, hps9, by assumption, by assumption, by assumption, by assumption, by assumption⟩
    | false =>
      obtain rfl := hv
      repeat walk_at "zz"
      refine z_iteF rfl ?_
      repeat walk_at "zz"
      exact f_next (by with_reducible assumption) ⟨ps9, rfl, hps9, by assumption, by assumption, by assumption, by assumption, by assumption⟩
  · rintro m news h8 t8 ⟨ps8, rfl, hps8, hm1, hm2, hm3, hm4, hm5⟩ V
    repeat walk_at "zz"
    exact hQ _ _ ps8 V.keep (V.at 0 rfl)
end
/-! law, at the head's own words -/
section
variable {prog : Program} {w : World} {A : Around} {E : Value → Shared → Prop} {h : Heap} {g : Array GenState} {d : Drawn} {t : Nat} {os : OsState} {B : Heap} {L l : Addr} {m : Str → Option Value} {news : List (Addr × Obj)} {vs : List Value} {Q : Value → Shared → Prop} {value slice : Expr} {u : Tok}
theorem z_luptoI {k : Int} (V : Led B L m h news) (ho : h.IsList l vs.toArray) (h0 : 0 ≤ k) (hz : vs.length ≤ 16777216)
    (z : ∀ a h', Led B L m h' ((a, lst (vs.take k.toNat) 0) :: news) → Q (.ref a) ⟨h', g, d, t, os⟩)
    (hs : subscripted slice false (.ref l) (.ref h.objs.size) = operate [.ref h.objs.size, .ref l] (getItem (.ref l) (.ref h.objs.size))) :
    wpAny (model prog w) A (subscriptTail value slice (.ref l) (.ref h.objs.size)) Q E ⟨h.push { cls := .type "slice", data := .fields #[.none, .int k u, .none] }, g, d, t, os⟩ := by
  obtain ⟨c, rfl⟩ := Int.eq_ofNat_of_zero_le h0
  have V' := V.push { cls := .type "slice", data := .fields #[.none, .int (c : Int) u, .none] } rfl
  have hl : (h.push { cls := .type "slice", data := .fields #[.none, .int (c : Int) u, .none] }).IsList l vs.toArray := let ⟨o, e, r⟩ := ho; ⟨o, Heap.get?_push_of_some _ e, r⟩
  refine tail_any hl.typeIs PySem.F.slot_list_getitem.lookup (wpAny_getItem_list_slice (lo := none) (hi := some (c : Int)) (st := none) hl ⟨_, Heap.get?_push_size _ rfl, rfl, rfl⟩ .none (.int _ u) .none (by intro e; cases e) ?_ (by rw [List.size_toArray]; exact hz)) hs
  have e := z _ _ ((V'.push (lst (slicePick vs.toArray none (some (c : Int)) none).toList 0) rfl).sub (List.Sublist.cons_cons _ (List.Sublist.cons _ (List.Sublist.refl _))) |> fun V => by rw [slicePick_upto'] at V; exact V)
  simpa [slicePick_upto'] using e
theorem led_start {s : Heap} {h₁ : Heap} (F : Fr (ghostOf s [(61, 57)]) s.objs.size h₁ m) (N : News (ghostOf s [(61, 57)]) s.objs.size h₁ [(57, tabObj #[])]) : Led (ghostOf s [(61, 57)]) s.objs.size m h₁ [(57, tabObj #[])] := by
  refine ⟨F.ns, F.keep, ?_, fun p hp => ⟨(N p hp).1, (N p hp).2.2, (N p hp).2.1⟩, List.Pairwise.cons (fun _ hb => by cases hb) List.Pairwise.nil⟩
  cases q : (ghostOf s [(61, 57)]).get? s.objs.size with
  | none => rfl
  | some o => have := of_hideAll _ q; rw [get_size_none] at this; cases this
theorem gd_start {p : Program} {loose : List Str} {mean : ExcName → Option Value} {mg mb : Str → Option Value} {G : Heap} (X : (KF w).In G) (T : Top p loose mean mg mb G) : Gd w mg mb G :=
  ⟨X, T.g, T.b, T.nolimit, T.builtins, T.bmain⟩
theorem ok_start {env : Env} : Ok (callerA.deeper env) 110 1100 := ⟨rfl, by show 1 + claimMargin + 1 + 110 < recursionLimit; decide, by show 4 + 3 + 1100 < cLine; decide⟩
end
theorem intsAre_len : ∀ {vs : List Value} {ns : List Int}, IntsAre vs ns → vs.length = ns.length
  | _, _, .nil => rfl
  | _, _, .cons _ _ r => congrArg (· + 1) (intsAre_len r)
theorem isList_keep {h h' : Heap} {l : Addr} {xs : Array Value} (x : h.IsList l xs) (k : h.StaysIn h') : h'.IsList l xs := let ⟨o, e, r⟩ := x; ⟨o, k _ _ e, r⟩
theorem holds : PySem.Challenge.rw_ij0030_01.Holds := by
  w_on
  refine holds_law ws fun said => ?_
  refine holds_open (q := Vw) (loose := LOOSE) (Xt := Xt0) (XP := XL Vw []) (Yf := Hook.obs HK) (Ya := Hook.val HK) (YP := Hook.says (kmHook K Kat hK [57])) (N := 4820) left (Hook.of HK) (Hook.keeps HK) (fun s e => xl_of s (Bool.and_eq_true_iff.mp e).1) XL.keeps (by rfl) (by rfl) (by rfl) (fun s e => recFacts_of (Bool.and_eq_true_iff.mp e).2) (by rfl) (by first | assumption | decide +kernel) (by decide +kernel) ⟨rfl, rfl, rfl, rfl, rfl, by decide +kernel⟩ ?hw ?hc
  case hw => w_witness2
  k_go0
  rename Frag.In _ (ghostOf _ _) => X'
  rename Top _ _ _ _ _ (ghostOf _ _) => T'
  rename Fr _ _ _ _ => F'
  rename News _ _ _ _ => N'
  rename IntsAre _ _ => hI
  rename ¬ (_ : Int) < _ => hlen
  have V := led_start F' N'
  have D := gd_start X' T'
  have h57 := (V.nw _ (.head _)).2.1
  dsimp only
  repeat walk_at "zz"
  have hl63 := intsAre_len hI
  refine z_luptoI (by with_reducible assumption) (isList_keep lifted F'.keep) (by decide) (by omega) (fun a h2 V2 => ?_) (by with_unfolding_all rfl)
  have hI8 := hI.take 8
  repeat walk_at "zz"
  refine z_ite (fun hc => ?_) (fun hc => ?_)
  · repeat walk_at "zz"
    refine c_right (ok_start.le) (D.keeps (Led.hide57 (by with_reducible assumption) h57)) (Led.at (by with_reducible assumption) 1 rfl) (show TriplesOk (#[] : Array Value).toList from trivial) (Led.at (by with_reducible assumption) 0 rfl) hI8 (by rw [List.length_take]; omega) fun h3 k3 ps3 hst h573 => ?_
    have V3 : Led _ _ _ h3 _ := Led.after57 (i := 1) (by with_reducible assumption) (by rfl) hst h573
    repeat walk_at "zz"
    exact ⟨⟨.inl ⟨_, _, [], rfl, fun _ => rfl, ReadsW.bool true, (by wrow_post), fun _ => ⟨List.nodup_nil, fun _ hm => (nomatch hm)⟩⟩, V3.keep, rfl, by assumption⟩, ⟨ps3, h573⟩, trivial⟩
  · repeat walk_at "zz"
    refine c_right (ns := [0, 6, 3, 11, 4]) (ok_start.le) (D.keeps (Led.hide57 (by with_reducible assumption) h57)) (Led.at (by with_reducible assumption) 2 rfl) (show TriplesOk (#[] : Array Value).toList from trivial) (Led.at (by with_reducible assumption) 0 rfl) (.cons _ _ (.cons _ _ (.cons _ _ (.cons _ _ (.cons _ _ .nil))))) (by decide) fun h3 k3 ps3 hst h573 => ?_
    have V3 : Led _ _ _ h3 _ := Led.after57 (i := 2) (by with_reducible assumption) (by rfl) hst h573
    repeat walk_at "zz"
    exact ⟨⟨.inl ⟨_, _, [], rfl, fun _ => rfl, ReadsW.bool true, (by wrow_post), fun _ => ⟨List.nodup_nil, fun _ hm => (nomatch hm)⟩⟩, V3.keep, rfl, by assumption⟩, ⟨ps3, h573⟩, trivial⟩
end Mine
theorem PySem.Challenge.cw_ij0030_01_holds : PySem.Challenge.rw_ij0030_01.Holds := by
  exact Mine.holds
