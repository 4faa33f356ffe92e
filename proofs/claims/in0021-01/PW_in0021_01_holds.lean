import PyProof.Rows.All
import Wide.All
import OpenK.AllK
import Wide.FinOn
import KE.KItem
import KE.LcTurns
import KE.KLam
import KE.KTurns
import KE.KLcPair
import KE.KxPercent
import KE.KxWritten
import Lean
import PySem.Challenge.RW_in0021_01
section
open PySem PySem.W PyProof.Rows
set_option Elab.async false
set_option maxRecDepth 100000
set_option maxHeartbeats 0
namespace Mine
noncomputable def vw : Program := view PySem.Challenge.pw_in0021_01 [0, 2, 3, 4, 5, 6, 7, 8, 9, 10, 11, 12, 14, 15, 17, 19, 20, 21, 22, 23]
noncomputable abbrev lse : List Str := [Str.ofString "_twin_re_7", Str.ofString "HEADER_TOKEN_RE", Str.ofString "HEADER_QUOTED_VALUE_RE", Str.ofString "HEADER_VALUE_RE", Str.ofString "HEADER_ESCAPE_RE", Str.ofString "HEADER_JOIN_TOKEN_RE", Str.ofString "HEADER_JOIN_ESCAPE_RE", Str.ofString "_twin_re_1", Str.ofString "_special_chars_map"]
noncomputable abbrev xt : Shared → Bool := fun s => xlAt vw [] s && recOk (RowW.records (PySem.Challenge.rw_in0021_01.row.toRowW)) s
theorem two_rows {P : World → Prop} (r1 r2 : String) (h1 : ∀ w : World, P ((w.withFollow r2 false).withFollow r1 false)) (h2 : ∀ w : World, P ((w.withFollow r2 true).withFollow r1 false)) (h3 : ∀ w : World, P ((w.withFollow r2 false).withFollow r1 true)) (h4 : ∀ w : World, P ((w.withFollow r2 true).withFollow r1 true)) (w : World) : P w :=
  byRow2 r1 (byRow2 r2 (P := fun w => P (w.withFollow r1 false)) h1 h2) (byRow2 r2 (P := fun w => P (w.withFollow r1 true)) h3 h4) w
theorem said : PySem.Challenge.rw_in0021_01.wellSaid = true := by kernel_rfl
structure HookFor where
  L : Prop
  W : Prop
  ok : L → W → PySem.Challenge.rw_in0021_01.Holds
local macro_rules | `(tactic| o_head $H) => `(tactic| (
  refine PySem.W.holds_open (q := vw) (loose := lse) (Xt := xt) (XP := XL vw []) (Yf := Hook.obs $H) (Ya := Hook.val $H) (YP := Hook.says $H) (N := 4690) ?hl (Hook.of $H) (Hook.keeps $H) (fun s e => xl_of s (Bool.and_eq_true_iff.mp e).1) XL.keeps (by rfl) (by rfl) (by rfl) (fun s e => recFacts_of (Bool.and_eq_true_iff.mp e).2) (by rfl) (by first | assumption | decide +kernel) (by decide +kernel) ⟨rfl, rfl, rfl, rfl, rfl, by decide +kernel⟩ ?hw ?hc))
noncomputable def hf : HookFor := by
  refine' ⟨_, _, fun left walk => ?ok⟩
  case ok =>
    w_on
    refine holds_law said fun said' => ?_
    k_head
    case hl => exact left
    case hw => w_witness2
    case hc => exact walk
end Mine
end
section
open PySem PySem.W PyProof.Rows
set_option Elab.async false
set_option maxRecDepth 100000
set_option maxHeartbeats 0
namespace Mine
noncomputable def adr : List Addr := [2, 3, 6, 11, 12, 35, 36, 37, 39, 40, 42, 43, 47, 48, 52, 53, 57, 58, 62, 63, 64, 66, 67, 69, 70, 74, 75, 79, 80, 81, 83, 84, 86, 87, 91, 92, 94, 98, 100, 101, 103, 104, 105, 107, 108, 110, 111, 112, 114, 115, 117, 118, 119, 121, 122, 124, 125, 126, 129, 130, 131, 133, 134, 136, 137, 138, 141, 142]
noncomputable def PP (w : World) : Prop := Option.map (fun s => (openSeen vw lse (importedModules PySem.Challenge.rw_in0021_01.row.prog.main.body) xt true s, (adr.map s.heap.get?, [106, 82, 65].map s.heap.get?))) (openEnds treeTable PySem.Challenge.rw_in0021_01.row.prog w 4690) = some (openGood vw lse, ((hf.heap_1 w.params).map fun p => some p.2, ([106, 82, 65] : List Addr).map fun _ => some (tabObj #[])))
theorem eL : hf.L = ∀ w, PP w := by kernel_rfl
theorem run1 (w : World) : PP ((w.withFollow "special-get-raises" false).withFollow "comprehension-iter-twice" false) := by
  unfold PP openEnds fencedOpening topFrom
  rw [PySem.W.Fast.te14364793385576792824, PySem.W.Fast.te14082659384304107361, PySem.W.Fast.te14289696077712309145, PySem.W.Fast.te1435165496053646825, PySem.W.Fast.te10274390034422433532, PySem.W.Fast.te4187177175401517315]
  kernel_rfl
theorem run2 (w : World) : PP ((w.withFollow "special-get-raises" true).withFollow "comprehension-iter-twice" false) := by
  unfold PP openEnds fencedOpening topFrom
  rw [PySem.W.Fast.te14364793385576792824, PySem.W.Fast.te14082659384304107361, PySem.W.Fast.te14289696077712309145, PySem.W.Fast.te1435165496053646825, PySem.W.Fast.te10274390034422433532, PySem.W.Fast.te4187177175401517315]
  kernel_rfl
theorem run3 (w : World) : PP ((w.withFollow "special-get-raises" false).withFollow "comprehension-iter-twice" true) := by
  unfold PP openEnds fencedOpening topFrom
  rw [PySem.W.Fast.te14364793385576792824, PySem.W.Fast.te14082659384304107361, PySem.W.Fast.te14289696077712309145, PySem.W.Fast.te1435165496053646825, PySem.W.Fast.te10274390034422433532, PySem.W.Fast.te4187177175401517315]
  kernel_rfl
theorem run4 (w : World) : PP ((w.withFollow "special-get-raises" true).withFollow "comprehension-iter-twice" true) := by
  unfold PP openEnds fencedOpening topFrom
  rw [PySem.W.Fast.te14364793385576792824, PySem.W.Fast.te14082659384304107361, PySem.W.Fast.te14289696077712309145, PySem.W.Fast.te1435165496053646825, PySem.W.Fast.te10274390034422433532, PySem.W.Fast.te4187177175401517315]
  kernel_rfl
theorem left : hf.L := Eq.mpr eL (two_rows (P := PP) "comprehension-iter-twice" "special-get-raises" run1 run2 run3 run4)
end Mine
end
section
theorem Mine.off_W15a : True := by (w_top off; trivial)
open PySem PySem.W PyProof.Rows PySem.Spec PySem.Calls
set_option Elab.async false
set_option maxRecDepth 100000
namespace Mine
/-- the end of an element of a comprehension whose elements may make generators; the ground is the block's own frame C -/
noncomputable def EndC (h₀ : Heap) (C : Addr) (m : Str → Option Value) (I L D : Addr) (oI oL oD : Obj) (J : List (Addr × Obj) → Array GenState → Prop) (s₁ s₂ : Shared) : Prop :=
  ∃ h' tk g' nx, s₂ = { s₁ with heap := h', toks := tk, gens := g' } ∧ Fr h₀ C h' m ∧ News h₀ C h' ((I, oI) :: (L, oL) :: (D, oD) :: nx) ∧ LCg.Off3 I C D nx ∧ (∀ p ∈ nx, p.1 ≠ L) ∧ J nx g'
/-- the tests of a comprehension's turn, and its element behind them -/
noncomputable def TurnC (prog : Program) (w : World) (A : Around) (h₀ : Heap) (L : Addr) (env : Env) (elt : Expr) (ifs : List Expr) (x : Str) (scope : Scope) (cl : List (Str × Addr)) (s : Shared) (n : Nat) (P : Nat → Value → Prop) (J : Nat → List Value → List (Addr × Obj) → Array GenState → Prop) (I : Addr) : Prop :=
  ∀ i v ys oI oL C D m₂ h tk g nw (E' : Value → Shared → Prop), i < n → P i v → J i ys nw g → 1 ≤ tk → m₂ x = some v → Fr h₀ C h m₂ → News h₀ C h ((I, oI) :: (L, oL) :: (D, LCg.lst ys) :: nw) → LCg.Off3 I C D nw → (∀ p ∈ nw, p.1 ≠ L) → ((@Ne Nat I L) ∧ (@Ne Nat I D) ∧ (@Ne Nat L D)) →
    wpAny (model prog w) A (forIn ifs true fun c r => if r = true then do let ok ← isTrue c (compEnvC scope cl C env) (eval c (compEnvC scope cl C env)); pure (ForInStep.yield ok) else pure (ForInStep.yield r)) (fun ok s' =>
      if ok = true then wpAny (model prog w) A (eval elt (compEnvC scope cl C env)) (fun y => EndC h₀ C m₂ I L D oI oL (LCg.lst ys) (J (i + 1) (ys ++ [y])) { s with heap := h, toks := tk, gens := g }) E' s'
      else EndC h₀ C m₂ I L D oI oL (LCg.lst ys) (J (i + 1) ys) { s with heap := h, toks := tk, gens := g } s') E' { s with heap := h, toks := tk, gens := g }
section
variable {prog : Program} {w : World} {A : Around} {E : Value → Shared → Prop} {s : Shared} {h₀ : Heap} {L : Addr} {m : Str → Option Value} {env : Env}
theorem block_G {elt iter : Expr} {ifs : List Expr} {x : Str} {px : Pos} {scope : Scope} {cl : List (Str × Addr)} {pos : Pos} {s₂ : Shared} {n : Nat} {P : Nat → Value → Prop} {St : Nat → Heap → Prop} {fp : List Addr} {news : List (Addr × Obj)}
    {J : Nat → List Value → List (Addr × Obj) → Array GenState → Prop} {RR : Value → Addr → Result → Shared → Prop} {I : Addr}
    (W : Walks prog w A I fp [I] n P St) (hsz : n ≤ sizeLine) (hIo : ∀ i h, St i h → ∃ o, h.get? I = some o)
    (hSt : ∀ i ys nw g (h h' : Heap) o, St i h → h.get? I = some o → h'.get? I = some o → J i ys nw g → (∀ p ∈ nw, h'.get? p.1 = some p.2) → St i h')
    (hcell : ∀ y ∈ scope.names, y.2 ≠ .cell) (hkind : scope.kind = .function) (hx : scope.names.lookup x = some .local) (hst : St 0 s₂.heap) (hfp : ∀ b ∈ fp, b < s₂.heap.objs.size)
    (F : Fr h₀ L s₂.heap m) (N : News h₀ L s₂.heap news) (hIL : L ≠ I) (hI₀ : h₀.get? I = none) (off : ∀ p ∈ news, p.1 ≠ I) (j0 : J 0 [] news s₂.gens)
    (turn : TurnC prog w A h₀ L env elt ifs x scope cl s₂ n P J I)
    (hRR : ∀ D C h tk g m' ys nw, Fr h₀ L h m → News h₀ L h ((D, LCg.lst ys) :: nw) → (∀ p ∈ nw, p.1 ≠ D) → h.Ns C m' → h₀.get? C = none → h₀.get? D = none → C ≠ L → D ≠ L → C ≠ D → (∀ p ∈ nw, p.1 ≠ C) → J n ys nw g → RR (.ref D) C (.ok .next) { s₂ with heap := h, toks := tk, gens := g }) :
    wpAny (model prog w) A (newList []) (fun acc s₃ => wpAny (model prog w) A (newFunctionEnv scope env.globals cl [] env.qual none .none (some env)) (fun cenv s₄ =>
      codeAny (model prog w) A (.compStart (.ListComp elt [⟨.Name x px, iter, ifs, 0⟩] scope pos) 0 (.ref I) acc { cenv with scope := relabel scope env }) (RR acc cenv.locals) s₄) E s₃) E s₂ := by
  have hIf : I ∈ fp := W.sub I (List.mem_singleton.mpr rfl)
  have hIlt : I < s₂.heap.objs.size := hfp I hIf
  refine wpAny_newObj_type (wpAny_newFunctionEnv hcell (by intro y hy; simp at hy) (fun h₁ hns₁ hsb₁ => ?_) hkind)
  dsimp only at hns₁ hsb₁ ⊢
  generalize hH2 : s₂.heap.push { cls := .type "list", dict := none, data := .seq ([] : List Value).toArray } = H2 at hns₁ hsb₁ ⊢
  have hC : H2.objs.size = s₂.heap.objs.size + 1 := by rw [← hH2, Heap.size_push]
  have hDC : s₂.heap.objs.size ≠ H2.objs.size := by rw [hC]; exact Nat.ne_of_lt (Nat.lt_succ_self _)
  have below : ∀ b, b < s₂.heap.objs.size → b ≠ H2.objs.size ∧ b ≠ s₂.heap.objs.size := fun b hb => ⟨by rw [hC]; exact Nat.ne_of_lt (Nat.lt_succ_of_lt hb), Nat.ne_of_lt hb⟩
  have hDf : s₂.heap.objs.size ∉ fp := fun hm => Nat.lt_irrefl _ (hfp _ hm)
  have hCf : H2.objs.size ∉ fp := fun hm => by have := hfp _ hm; rw [hC] at this; exact Nat.lt_irrefl _ (Nat.lt_of_succ_lt this)
  have old : ∀ b o, s₂.heap.get? b = some o → h₁.get? b = some o := fun b o e => hsb₁.extBut b o (below b (Heap.lt_size e)).1 (Heap.get?_push_of_some _ (hH2 ▸ Heap.get?_push_of_some _ e))
  have hacc : h₁.get? s₂.heap.objs.size = some (LCg.lst []) := hsb₁.extBut _ _ hDC (Heap.get?_push_of_some _ (hH2 ▸ Heap.get?_push_size _ rfl))
  have hst₁ : St 0 h₁ := W.frame _ _ _ hst fun b _ o e => old b o e
  have fresh₀ : ∀ a, s₂.heap.objs.size ≤ a → h₀.get? a = none := fun a ha => by
    cases e : h₀.get? a with
    | none => rfl
    | some o' => exact absurd (Heap.lt_size (F.keep a o' e)) (Nat.not_lt.mpr ha)
  have hD₀ : h₀.get? s₂.heap.objs.size = none := fresh₀ _ (Nat.le_refl _)
  have hC₀ : h₀.get? H2.objs.size = none := fresh₀ _ (by rw [hC]; exact Nat.le_succ _)
  have hLlt : L < s₂.heap.objs.size := F.ns.lt
  have hDL : s₂.heap.objs.size ≠ L := Ne.symm (below L hLlt).2
  have hCL : H2.objs.size ≠ L := Ne.symm (below L hLlt).1
  have hCI : I ≠ H2.objs.size := (below I hIlt).1
  have hDI : I ≠ s₂.heap.objs.size := (below I hIlt).2
  have hL₀ : h₀.get? L = none := Heap.get?_none_of_le F.above
  have h0C : h₀.objs.size ≤ H2.objs.size := by rw [hC]; exact Nat.le_succ_of_le (Nat.le_trans F.above (Nat.le_of_lt hLlt))
  have off₀ : LCg.Off3 I H2.objs.size s₂.heap.objs.size news := LCg.Off3.of fun p hp => ⟨off p hp, (below _ (Heap.lt_size (N p hp).1)).1, (below _ (Heap.lt_size (N p hp).1)).2⟩
  have loop : ∀ s₃ : Shared, s₃ = { s₂ with heap := h₁, toks := s₂.toks + ([] : List (Str × Value)).length } →
      codeAny (model prog w) A (.compLoop (.ListComp elt [⟨.Name x px, iter, ifs, 0⟩] scope pos) 0 (.ref I) (.ref s₂.heap.objs.size) (compEnvC scope cl H2.objs.size env))
        (RR (.ref s₂.heap.objs.size) H2.objs.size) s₃ := by
    rintro s₃ rfl
    let Inv : Nat → Shared → Prop := fun k' s' => ∃ h' tk g i ys m' nw, s' = { s₂ with heap := h', toks := tk, gens := g } ∧ i ≤ n ∧ k' = n + 1 - i ∧ ys.length ≤ i ∧ St i h' ∧ Fr h₀ L h' m ∧ h'.Ns H2.objs.size m' ∧ News h₀ L h' ((s₂.heap.objs.size, LCg.lst ys) :: nw) ∧
        LCg.Off3 I H2.objs.size s₂.heap.objs.size nw ∧ J i ys nw g
    refine codeAny_compLoop_tests Inv ?_ (n + 1)
      ⟨h₁, _, _, 0, [], _, news, rfl, Nat.zero_le _, rfl, Nat.le_refl _, hst₁, F.keeps old, hns₁, fun p hp => ?_, off₀, j0⟩
    · rintro k' s' ⟨h', tk, g, i, ys, m', nw, rfl, hi, rfl, hyl, hst', F', hn', N', off', J'⟩
      by_cases hlt : i < n
      · refine W.item i _ _ _ hlt hst' fun v h₂ tk₂ hPv hst₂ hk₂ => ?_
        refine wpAny_assign_Name (wpAny_storeName_local (lookup_relabel_local hx) (hn'.at' fun o e => hk₂ _ o (by simpa using Ne.symm hCI) e) (fun h₃ hn₃ hs₃ => ?_) (by simp [compEnvC, relabel, hkind]))
        have hst₃ : St (i + 1) h₃ := W.frame _ _ _ hst₂ fun b hb o e => hs₃.extBut b o (fun q => hCf (by have q' : b = H2.objs.size := q; rw [← q']; exact hb)) e
        have off3 := off'.mem
        have F₃ : Fr h₀ L h₃ m := (LCg.fr_but F' hk₂ hIL hI₀).change hs₃ hCL hC₀
        have N₂ : News h₀ L h₂ ((s₂.heap.objs.size, LCg.lst ys) :: nw) := LCg.news_but N' hk₂ fun p hp => by
          rcases List.mem_cons.mp hp with rfl | hp
          · exact Ne.symm hDI
          · exact (off3 p hp).1
        obtain ⟨oI, heI⟩ := hIo _ _ hst₃
        obtain ⟨oL, heL, hoL⟩ := LCg.ns_obj F₃.ns
        have N₃ : News h₀ H2.objs.size h₃ ((I, oI) :: (L, oL) :: (s₂.heap.objs.size, LCg.lst ys) :: nw) := fun p hp => by
          rcases List.mem_cons.mp hp with rfl | hp
          · exact ⟨heI, hCI, hI₀⟩
          · rcases List.mem_cons.mp hp with rfl | hp
            · exact ⟨heL, hCL.symm, hL₀⟩
            · have z := N₂ p hp
              have ne : p.1 ≠ H2.objs.size := by
                rcases List.mem_cons.mp hp with rfl | hp
                · exact hDC
                · exact (off3 p hp).2.1
              exact ⟨hs₃.extBut _ _ ne z.1, ne, z.2.2⟩
        have nL : ∀ p ∈ nw, p.1 ≠ L := fun p hp => (N₂ p (.tail _ hp)).2.1
        have F₄ : Fr h₀ H2.objs.size h₃ _ := ⟨hn₃, F₃.keep, h0C⟩
        have back : ∀ ys' s₄ (b : Bool), ys'.length ≤ i + 1 → EndC h₀ H2.objs.size (fun z => if z = x then some v else m' z) I L s₂.heap.objs.size oI oL (LCg.lst ys) (J (i + 1) ys') { s₂ with heap := h₃, toks := tk₂ + 1, gens := g } s₄ →
            ∃ h₄ tk₄ g₄ nx, s₄ = { s₂ with heap := h₄, toks := tk₄, gens := g₄ } ∧ St (i + 1) h₄ ∧ Fr h₀ L h₄ m ∧ Fr h₀ H2.objs.size h₄ (fun z => if z = x then some v else m' z) ∧ News h₀ L h₄ ((s₂.heap.objs.size, LCg.lst ys) :: nx) ∧ LCg.Off3 I H2.objs.size s₂.heap.objs.size nx ∧ J (i + 1) ys' nx g₄ := by
          rintro ys' s₄ b hl' ⟨h₄, tk₄, g₄, nx, rfl, F₅, N₅, off₅, nL₅, J₅⟩
          have zL := (N₅ (L, oL) (.tail _ (.head _))).1
          have zD := (N₅ (s₂.heap.objs.size, LCg.lst ys) (.tail _ (.tail _ (.head _)))).1
          refine ⟨h₄, tk₄, g₄, nx, rfl, hSt _ _ _ _ _ _ _ hst₃ heI (N₅ (I, oI) (.head _)).1 J₅ (fun p hp => (N₅ p (.tail _ (.tail _ (.tail _ hp)))).1), ⟨hoL.ns zL, F₅.keep, F'.above⟩, F₅, fun p hp => ?_, off₅, J₅⟩
          rcases List.mem_cons.mp hp with rfl | hp
          · exact ⟨zD, hDL, hD₀⟩
          · have z := N₅ p (.tail _ (.tail _ (.tail _ hp)))
            exact ⟨z.1, nL₅ p hp, z.2.2⟩
        refine wpAny_mono (turn i v ys oI oL H2.objs.size s₂.heap.objs.size _ h₃ _ g nw _ hlt hPv J' (by omega) (by simp) F₄ N₃ off' nL ⟨hIL.symm, hDI, hDL.symm⟩) (fun ok s₄ h₄ => ?_) fun _ _ e => e
        by_cases hok : ok = true
        · rw [if_pos hok] at h₄ ⊢
          refine wpAny_mono h₄ (fun y s₄ h₄ => ?_) fun _ _ e => e
          obtain ⟨h₄, tk₄, g₄, nx, rfl, hst₄, F₆, F₅, N₅, off₅, J₅⟩ := back _ _ true (by rw [List.length_append, List.length_singleton]; omega) h₄
          have zD := (N₅ _ (.head _)).1
          refine append_at (hsz := by show ys.toArray.size ≤ sizeLine; rw [List.size_toArray]; exact Nat.le_trans hyl (Nat.le_trans hi hsz)) zD fun h₅ hs₅ hD₅ => ?_
          have off4 := off₅.mem
          refine ⟨n + 1 - (i + 1), by omega, h₅, tk₄, g₄, i + 1, ys ++ [y], _, nx, rfl, hlt, rfl, by rw [List.length_append, List.length_singleton]; omega, W.frame _ _ _ hst₄ fun b hb o e => hs₅.extBut b o (fun q => hDf (q ▸ hb)) e, F₆.change hs₅ hDL hD₀, F₅.ns.sameBut hs₅ (Ne.symm hDC), fun p hp => ?_, off₅, J₅⟩
          rcases List.mem_cons.mp hp with rfl | hp
          · exact ⟨hD₅.trans (congrArg some (LCg.lst_snoc ys y)), hDL, hD₀⟩
          · exact ⟨hs₅.extBut _ _ (off4 p hp).2.2 (N₅ p (.tail _ hp)).1, (N₅ p (.tail _ hp)).2⟩
        · rw [if_neg hok] at h₄ ⊢
          obtain ⟨h₅, tk₄, g₄, nx, rfl, hst₄, F₆, F₅, N₅, off₅, J₅⟩ := back _ _ true (by omega) h₄
          exact ⟨n + 1 - (i + 1), by omega, h₅, tk₄, g₄, i + 1, ys, _, nx, rfl, hlt, rfl, by omega, hst₄, F₆, F₅.ns, N₅, off₅, J₅⟩
      · obtain rfl : i = n := Nat.le_antisymm hi (Nat.not_lt.mp hlt)
        refine W.done _ _ _ hst' fun h₂ tk₂ hk₂ => ?_
        have off3 := off'.mem
        exact hRR _ _ h₂ tk₂ g _ ys nw (LCg.fr_but F' hk₂ hIL hI₀) (LCg.news_but N' hk₂ fun p hp => by
          rcases List.mem_cons.mp hp with rfl | hp
          · exact Ne.symm hDI
          · exact (off3 p hp).1) (fun p hp => (off3 p hp).2.2) (hn'.at' fun o e => hk₂ _ o (by simpa using Ne.symm hCI) e) hC₀ hD₀ hCL hDL (Ne.symm hDC) (fun p hp => (off3 p hp).2.1) J'
    · rcases List.mem_cons.mp hp with rfl | hp
      · exact ⟨hacc, hDL, hD₀⟩
      · exact ⟨old _ _ (N p hp).1, (N p hp).2⟩
  exact codeAny_compStart_list (loop _ rfl) (W.self 0 _ _ _ hst₁ (loop _ rfl))
/-- what a comprehension asks of its source: a list of the ledger, or a range -/
inductive SrcK (h₀ : Heap) (L : Addr) (s₁ : Shared) (news : List (Addr × Obj)) (J : Nat → List Value → List (Addr × Obj) → Array GenState → Prop) : Value → Nat → (Nat → Value → Prop) → Prop
  | list {ax vs k} : (∀ i ys nw g, J i ys nw g → (ax, W.listOf vs k) ∈ nw) → SrcK h₀ L s₁ news J (.ref ax) vs.size (fun i v => vs[i]? = some v)
  | range {r b t u v n} : IsRange s₁.heap r 0 b 1 t u v → Builtin.Range.small 0 b 1 = true → Builtin.Range.rangeSize 0 b 1 = ((n : Nat) : Int) → SrcK h₀ L s₁ news J (.ref r) n (fun i v => ∃ t, v = .int ((i : Nat) : Int) t)
noncomputable def SrcG (prog : Program) (w : World) (A : Around) (h₀ : Heap) (L : Addr) (m : Str → Option Value) (env : Env) (elt : Expr) (ifs : List Expr) (x : Str) (scope : Scope) (cl : List (Str × Addr)) (Fin : Shared → Nat → Array GenState → List Value → List (Addr × Obj) → Prop) (xv : Value) (s₁ : Shared) : Prop :=
  ∃ n P news, ∃ J : Nat → List Value → List (Addr × Obj) → Array GenState → Prop, A.handled = none ∧ Fr h₀ L s₁.heap m ∧ News h₀ L s₁.heap news ∧ n ≤ sizeLine ∧ SrcK h₀ L s₁ news J xv n P ∧ J 0 [] news s₁.gens ∧
    (∀ I, TurnC prog w A h₀ L env elt ifs x scope cl s₁ n P J I) ∧ ∀ g ys nw, J n ys nw g → Fin s₁ n g ys nw
theorem srcG_block {elt iter : Expr} {ifs : List Expr} {x : Str} {px : Pos} {scope : Scope} {cl : List (Str × Addr)} {pos : Pos} {s₁ : Shared} {xv : Value} {Fin : Shared → Nat → Array GenState → List Value → List (Addr × Obj) → Prop} {RR : Value → Addr → Result → Shared → Prop}
    (hcell : ∀ y ∈ scope.names, y.2 ≠ .cell) (hkind : scope.kind = .function) (hx : scope.names.lookup x = some .local)
    (h : SrcG prog w A h₀ L m env elt ifs x scope cl Fin xv s₁)
    (hRR : ∀ n D C h tk g m' ys nw, Fr h₀ L h m → News h₀ L h ((D, LCg.lst ys) :: nw) → (∀ p ∈ nw, p.1 ≠ D) → h.Ns C m' → h₀.get? C = none → h₀.get? D = none → C ≠ L → D ≠ L → C ≠ D → (∀ p ∈ nw, p.1 ≠ C) → Fin s₁ n g ys nw → RR (.ref D) C (.ok .next) { s₁ with heap := h, toks := tk, gens := g }) :
    wpAny (model prog w) A (pyIter xv) (fun it s₂ => wpAny (model prog w) A (newList []) (fun acc s₃ => wpAny (model prog w) A (newFunctionEnv scope env.globals cl [] env.qual none .none (some env)) (fun cenv s₄ =>
      codeAny (model prog w) A (.compStart (.ListComp elt [⟨.Name x px, iter, ifs, 0⟩] scope pos) 0 it acc { cenv with scope := relabel scope env }) (RR acc cenv.locals) s₄) E s₃) E s₂) E s₁ := by
  obtain ⟨n, P, news, J, hh, F, N, hsz, src, j0, turn, fin⟩ := h
  cases src with
  | list hJ =>
    rename_i ax vs k
    have hm := hJ _ _ _ _ j0
    have hl : s₁.heap.IsList ax vs := ⟨_, (N _ hm).1, rfl, _, rfl⟩
    have hlt : ax < s₁.heap.objs.size := Heap.lt_size (N _ hm).1
    refine wpAny_pyIter_list hl ?_
    have up : ∀ b o, s₁.heap.get? b = some o → (s₁.heap.push { cls := .type "list_iterator", data := .fields #[.ref ax, .int 0 0] }).get? b = some o := fun b o e => Heap.get?_push_of_some _ e
    refine block_G (J := J) (I := s₁.heap.objs.size) (Walks.list hh s₁.heap.objs.size ax (Nat.ne_of_lt hlt) vs) hsz (fun i h st => by obtain ⟨o, e, _⟩ := st.1; exact ⟨o, e⟩)
      (fun i ys nw g h h' o st e e' j k => ⟨by obtain ⟨o', q, r⟩ := st.1; rw [e] at q; cases q; exact ⟨o, e', r⟩, ⟨_, k _ (hJ _ _ _ _ j), rfl, _, rfl⟩⟩)
      hcell hkind hx ⟨⟨_, Heap.get?_push_size _ rfl, rfl, rfl⟩, hl.push _⟩ (fun b hb => ?_) (F.keeps up) (N.grown up) (Nat.ne_of_lt F.ns.lt) (next_is_new F) (fun p hp => Nat.ne_of_lt (Heap.lt_size (N p hp).1)) j0 (turn _)
      fun D C h tk g m' ys nw a b c d e f g' h' i' j k => hRR _ D C h tk g m' ys nw a b c d e f g' h' i' j (fin _ _ _ k)
    show b < (s₁.heap.push _).objs.size
    rw [Heap.size_push]
    rcases List.mem_cons.mp hb with rfl | hb
    · exact Nat.lt_succ_self _
    · rw [List.mem_singleton.mp hb]; exact Nat.lt_succ_of_lt hlt
  | range hr hsm hn =>
    rename_i r b t u v
    refine wpAny_pyIter_range hr hsm ?_
    have W := LCg.range_walks (prog := prog) (w := w) (I := s₁.heap.objs.size) hh 0 n
    simp only [Int.zero_add] at W
    refine block_G (J := J) (I := s₁.heap.objs.size) W hsz (fun i h st => ⟨_, st⟩)
      (fun i ys nw g h h' o st e e' _ _ => by
        have st' : h.get? s₁.heap.objs.size = some _ := st
        show h'.get? s₁.heap.objs.size = some _
        rw [e', ← e]; exact st')
      hcell hkind hx (by show IsRangeIter _ _ _ _ _; rw [hn]; simpa using Heap.get?_push_size _ rfl) (fun b hb => ?_)
      (F.keeps fun _ _ e => Heap.get?_push_of_some _ e) (N.grown fun _ _ e => Heap.get?_push_of_some _ e) (Nat.ne_of_lt F.ns.lt) (next_is_new F) (fun p hp => Nat.ne_of_lt (Heap.lt_size (N p hp).1)) j0 (turn _)
      fun D C h tk g m' ys nw a b c d e f g' h' i' j k => hRR _ D C h tk g m' ys nw a b c d e f g' h' i' j (fin _ _ _ k)
    rw [List.mem_singleton.mp hb]
    show s₁.heap.objs.size < (s₁.heap.push _).objs.size
    rw [Heap.size_push]; exact Nat.lt_succ_self _
noncomputable def FinEG (h₀ : Heap) (L : Addr) (m : Str → Option Value) (Q : Value → Shared → Prop) (s : Shared) (_n : Nat) (g : Array GenState) (ys : List Value) (nw : List (Addr × Obj)) : Prop :=
  ∀ D h tk, Fr h₀ L h m → News h₀ L h ((D, LCg.lst ys) :: nw) → (∀ p ∈ nw, p.1 ≠ D) → Q (.ref D) { s with heap := h, toks := tk, gens := g }
noncomputable def FinAG (h₀ : Heap) (L : Addr) (m : Str → Option Value) (y : Str) (Q : Flow → Shared → Prop) (s : Shared) (_n : Nat) (g : Array GenState) (ys : List Value) (nw : List (Addr × Obj)) : Prop :=
  ∀ D h tk, Fr h₀ L h (fun z => if z = y then some (.ref D) else m z) → News h₀ L h ((D, LCg.lst ys) :: nw) → (∀ p ∈ nw, p.1 ≠ D) → Q .next { s with heap := h, toks := tk, gens := g }
theorem k_comp {elt iter : Expr} {ifs : List Expr} {x : Str} {px : Pos} {scope : Scope} {cl : List (Str × Addr)} {pos : Pos} {Q : Value → Shared → Prop} (_F : Fr h₀ L s.heap m)
    (hclos : closureFor scope env = pure cl) (hcell : ∀ y ∈ scope.names, y.2 ≠ .cell) (hkind : scope.kind = .function)
    (hnames : ∀ y ∈ scope.names, y.2 = .local → scope.names.lookup y.1 = some .local) (hx : scope.names.lookup x = some .local)
    (h : wpAny (model prog w) A (eval iter env) (SrcG prog w A h₀ L m env elt ifs x scope cl (FinEG h₀ L m Q)) E s)
    (hs : ∀ x, foldedSetIterable iter env x = pure x := by intro _; rfl) :
    wpAny (model prog w) A (eval (.ListComp elt [⟨.Name x px, iter, ifs, 0⟩] scope pos) env) Q E s := by
  rw [eval_ListComp]
  refine wpAny_comprehension_free (use := none) rfl hs hclos hkind hnames (wpAny_mono h (fun xv s₁ h₁ => ?_) fun _ _ e => e)
  refine srcG_block hcell hkind hx h₁ ?_
  intro n D C h tk g m' ys nw F' N' o1 hn hC₀ hD₀ hCL hDL hCD offC fin
  refine ⟨m', hn, fun h'' hs'' => fin D h'' tk (F'.change hs'' hCL hC₀) (fun p hp => ?_) o1⟩
  refine ⟨hs''.extBut _ _ ?_ (N' p hp).1, (N' p hp).2⟩
  rcases List.mem_cons.mp hp with rfl | hp
  · exact Ne.symm hCD
  · exact offC p hp
theorem k_compA {elt iter : Expr} {ifs : List Expr} {x y : Str} {px py : Pos} {scope : Scope} {cl : List (Str × Addr)} {pos spos : Pos} {Q : Flow → Shared → Prop} (_F : Fr h₀ L s.heap m) (hLe : env.locals = L)
    (hsw : swapsWith (.ListComp elt [⟨.Name x px, iter, ifs, 0⟩] scope pos) (some (.Name y py)) spos.line env = pure true)
    (hclos : closureFor scope env = pure cl) (hcell : ∀ z ∈ scope.names, z.2 ≠ .cell) (hkind : scope.kind = .function)
    (hnames : ∀ z ∈ scope.names, z.2 = .local → scope.names.lookup z.1 = some .local) (hx : scope.names.lookup x = some .local)
    (hy : env.kindOf y = some .local) (hp : (env.scope.kind == .class || (env.scope.kind == .module && env.locals != env.globals)) = false)
    (h : wpAny (model prog w) A (eval iter env) (SrcG prog w A h₀ L m env elt ifs x scope cl (FinAG h₀ L m y Q)) E s)
    (hs : ∀ x, foldedSetIterable iter env x = pure x := by intro _; rfl) :
    wpAny (model prog w) A (exec (.Assign [.Name y py] (.ListComp elt [⟨.Name x px, iter, ifs, 0⟩] scope pos) spos) env) Q E s := by
  subst hLe
  rw [exec_Assign_Name_used _ _ _ _ hsw]
  refine wpAny_bind (wpAny_standAt (wpAny_bind ?_))
  show wpAny _ A (do let _ ← comprehension (.ListComp elt [⟨.Name x px, iter, ifs, 0⟩] scope pos) scope env _ (newList []) false (eval iter env) (some (assign (.Name y py) env))) _ _ s
  refine wpAny_bind (wpAny_mono (wpAny_comprehension_free (use := some (assign (.Name y py) env)) (Q := fun _ s' => Q .next s') rfl hs hclos hkind hnames
    (wpAny_mono h (fun xv s₁ h₁ => ?_) fun _ _ e => e)) (fun _ s' hq => wpAny_pure (wpAny_pure hq)) fun _ _ e => e)
  refine srcG_block hcell hkind hx h₁ ?_
  intro n D C h' tk g m' ys nw F' N' o1 hn hC₀ hD₀ hCL hDL hCD offC fin
  show wpAny _ A (assign (.Name y py) env (.ref D)) _ _ _
  refine wpAny_assign_Name (wpAny_storeName_local hy F'.ns (fun h₂ hn₂ hs₂ => ?_) hp)
  have hL₀ : h₀.get? env.locals = none := Heap.get?_none_of_le F'.above
  have F₂ : Fr h₀ env.locals h₂ (fun z => if z = y then some (.ref D) else m z) := ⟨hn₂, fun b o e => hs₂.extBut b o (fun q => by rw [q, hL₀] at e; cases e) (F'.keep b o e), F'.above⟩
  refine ⟨m', hn.sameBut hs₂ hCL, fun h'' hs'' => fin D h'' _ (F₂.change hs'' hCL hC₀) (fun p hp => ?_) o1⟩
  have z : h₂.get? p.1 = some p.2 := hs₂.extBut _ _ (N' p hp).2.1 (N' p hp).1
  refine ⟨hs''.extBut _ _ ?_ z, (N' p hp).2⟩
  rcases List.mem_cons.mp hp with rfl | hp
  · exact Ne.symm hCD
  · exact offC p hp
end
end Mine
end
section
theorem Mine.off_M1 : True := by (w_top off; trivial)
open PySem PySem.W PyProof.Rows PySem.Spec PySem.Calls
set_option Elab.async false
set_option maxRecDepth 100000
namespace Mine
/-- once a test for the kind of a hidden object; no longer used -/
noncomputable def tabish (_ : Obj) : Bool := true
/-- a table P holds ps; every code in it is a code that TL keeps, named by its line -/
noncomputable def TabOk (TL : List (Addr × Obj)) (P : Addr) (qq : Nat → Str) : Prop :=
  ∃ ps, (P, tabObj ps) ∈ TL ∧ TriplesOk ps.toList ∧ ∀ pos v, codeAmong pos ps.toList = some v → ∃ c oc vs t, v = .ref c ∧ (c, oc) ∈ TL ∧ oc.data = .fields vs ∧ vs[1]? = some (.str (qq pos.line) t)
/-- what the walk keeps of the whole: the hidden part TL (tables and codes) of heap h -/
structure Hid (h : Heap) (TL : List (Addr × Obj)) : Prop where
  at_ : ∀ p ∈ TL, h.get? p.1 = some p.2
  tab : ∀ p ∈ TL, tabish p.2 = true
noncomputable abbrev frz (h : Heap) (TL : List (Addr × Obj)) : Heap := hideAll h (TL.map (·.1))
section
variable {prog : Program} {w : World} {A : Around} {s : Shared} {K : Frag} {mg mb : Str → Option Value} {p : Program} {loose : List Str} {mean : ExcName → Option Value} {TL : List (Addr × Obj)}
theorem enter {R : Result → Shared → Prop} {name qual : Str} {params : Arguments} {body : List Stmt} {scope : Scope} {dV kV doc pm cdv ct oc : Value} {an od : Option Addr} {osl : Array (Option Value)} {f : Addr} {args : Args} {binds : List (Str × Value)}
    (H : Hid s.heap TL) (X : K.In (frz s.heap TL)) (T : Top p loose mean mg mb (frz s.heap TL))
    (ho : K.lookup f = some ⟨oc, od, .func (fnOf name qual params body scope dV kV doc pm an cdv ct), osl⟩) (hcd : codeIn K cdv qual = true) (hroom : A.depth < recursionLimit)
    (hbind : BindsTo s (fnOf name qual params body scope dV kV doc pm an cdv ct) args binds) (hloc : ∀ y ∈ binds, scope.names.lookup y.1 = some .local)
    (h : ∀ h₁, Fr (frz s.heap TL) s.heap.objs.size h₁ (fun y => binds.reverse.lookup y) → News (frz s.heap TL) s.heap.objs.size h₁ TL →
      wpAny (model prog w) (A.deeper (envOf qual scope s.heap.objs.size f cdv)) (execs body (envOf qual scope s.heap.objs.size f cdv))
        (fun fl s' => R (.ok (.ret (match fl with | .ret v => v | _ => .none))) s') (fun _ _ => False)
        { s with heap := h₁, toks := s.toks + binds.length })
    (hco : scope.isCoroutine = false) (hgen : scope.isGenerator = false) (hk : scope.kind = .function)
    (hcell : ∀ x ∈ scope.names, x.2 ≠ .cell) : codeAny (model prog w) A (.call (.ref f) args) R s := by
  have hk0 : ∀ b o, (frz s.heap TL).get? b = some o → s.heap.get? b = some o := fun b o e => of_hideAll _ e
  refine codeAny_call_def (fd := fnOf name qual params body scope dV kV doc pm an cdv ct) (body := body) (binds := binds) hroom (hk0 _ _ (X _ _ ho)) rfl (T.nolimit.keeps hk0) ((codeRec_of X hcd).keeps hk0) rfl hbind hcell hloc (fun h₁ hns hk₁ => ?_) hco hgen hk
  refine wpAny_mono (h h₁ ⟨hns, fun b o e => hk₁ b o (hk0 _ _ e), Nat.le_of_eq (hideAll_size _ _)⟩ (fun p hp => ⟨hk₁ _ _ (H.at_ p hp), Nat.ne_of_lt (Heap.lt_size (H.at_ p hp)), hideAll_none _ (List.mem_map_of_mem hp)⟩)) (fun fl s' hl => hl) fun _ _ y => y.elim
end
end Mine
end
section
theorem Mine.off_RF : True := by (w_top off; trivial)
open PySem PySem.W PyProof.Rows PySem.Spec PySem.Calls
set_option Elab.async false
set_option maxRecDepth 100000
namespace Mine
theorem plainAttrs_re_Match : PlainAttrs "re.Match" :=
  ⟨⟨"object.__getattribute__", by rw [typeLookup_type, builtinLookup_eq_fast]; kernel_rfl, by decide +kernel⟩, by rw [typeLookup_type, builtinLookup_eq_fast]; kernel_rfl⟩
theorem owner_re_Match : Manifest.owners.lookup (String.ofList ['h', 'c', 't', 'a', 'M', '.', 'e', 'r'].reverse) = some Manifest.sig_re_Match := by kernel_rfl
theorem slot_re_Match_span : Slot "re.Match" "span" "re.Match.span" :=
  .of (owner := "re.Match") (n := "span") (by rw [typeLookup_type, builtinLookup_eq_fast]; kernel_rfl) (by decide +kernel) (by decide +kernel) (by decide +kernel)
    (by first | exact .inl (by decide +kernel) | exact .inr (by decide +kernel)) (by rw [isSubtype_type]; kernel_rfl)
theorem type_re_Match_span : typeOf (.builtin "re.Match.span") = pure (.type "method_descriptor") := by show builtinType _ = _; rw [builtinType_eq_fast]; kernel_rfl
theorem entry_re_Match_span : entryFor table "re.Match.span" = some Builtin.«re.Match.span» := entryFor_of_tree (by kernel_rfl)
theorem args_re_Match_span_1 (a : Value) : argsOk "re.Match.span" ⟨[a], []⟩ := by
  unfold argsOk; rw [signature?_of (id := "re.Match.span") (n := ['n', 'a', 'p', 's']) (o := ['h', 'c', 't', 'a', 'M', '.', 'e', 'r']) (by kernel_rfl) owner_re_Match]; kernel_rfl
theorem args_re_Match_span_2 (a b : Value) : argsOk "re.Match.span" ⟨[a, b], []⟩ := by
  unfold argsOk; rw [signature?_of (id := "re.Match.span") (n := ['n', 'a', 'p', 's']) (o := ['h', 'c', 't', 'a', 'M', '.', 'e', 'r']) (by kernel_rfl) owner_re_Match]; kernel_rfl
theorem slot_re_Match_group : Slot "re.Match" "group" "re.Match.group" :=
  .of (owner := "re.Match") (n := "group") (by rw [typeLookup_type, builtinLookup_eq_fast]; kernel_rfl) (by decide +kernel) (by decide +kernel) (by decide +kernel)
    (by first | exact .inl (by decide +kernel) | exact .inr (by decide +kernel)) (by rw [isSubtype_type]; kernel_rfl)
theorem type_re_Match_group : typeOf (.builtin "re.Match.group") = pure (.type "method_descriptor") := by show builtinType _ = _; rw [builtinType_eq_fast]; kernel_rfl
theorem entry_re_Match_group : entryFor table "re.Match.group" = some Builtin.«re.Match.group» := entryFor_of_tree (by kernel_rfl)
theorem args_re_Match_group_2 (a b : Value) : argsOk "re.Match.group" ⟨[a, b], []⟩ := by
  unfold argsOk; rw [signature?_of (id := "re.Match.group") (n := ['p', 'u', 'o', 'r', 'g']) (o := ['h', 'c', 't', 'a', 'M', '.', 'e', 'r']) (by kernel_rfl) owner_re_Match]; kernel_rfl
theorem plainAttrs_re_Pattern : PlainAttrs "re.Pattern" :=
  ⟨⟨"object.__getattribute__", by rw [typeLookup_type, builtinLookup_eq_fast]; kernel_rfl, by decide +kernel⟩, by rw [typeLookup_type, builtinLookup_eq_fast]; kernel_rfl⟩
theorem owner_re_Pattern : Manifest.owners.lookup (String.ofList ['n', 'r', 'e', 't', 't', 'a', 'P', '.', 'e', 'r'].reverse) = some Manifest.sig_re_Pattern := by kernel_rfl
theorem slot_re_Pattern_search : Slot "re.Pattern" "search" "re.Pattern.search" :=
  .of (owner := "re.Pattern") (n := "search") (by rw [typeLookup_type, builtinLookup_eq_fast]; kernel_rfl) (by decide +kernel) (by decide +kernel) (by decide +kernel)
    (by first | exact .inl (by decide +kernel) | exact .inr (by decide +kernel)) (by rw [isSubtype_type]; kernel_rfl)
theorem type_re_Pattern_search : typeOf (.builtin "re.Pattern.search") = pure (.type "method_descriptor") := by show builtinType _ = _; rw [builtinType_eq_fast]; kernel_rfl
theorem entry_re_Pattern_search : entryFor table "re.Pattern.search" = some Builtin.«re.Pattern.search» := entryFor_of_tree (by kernel_rfl)
theorem args_re_Pattern_search_2 (a b : Value) : argsOk "re.Pattern.search" ⟨[a, b], []⟩ := by
  unfold argsOk; rw [signature?_of (id := "re.Pattern.search") (n := ['h', 'c', 'r', 'a', 'e', 's']) (o := ['n', 'r', 'e', 't', 't', 'a', 'P', '.', 'e', 'r']) (by kernel_rfl) owner_re_Pattern]; kernel_rfl
theorem slot_re_Pattern_fullmatch : Slot "re.Pattern" "fullmatch" "re.Pattern.fullmatch" :=
  .of (owner := "re.Pattern") (n := "fullmatch") (by rw [typeLookup_type, builtinLookup_eq_fast]; kernel_rfl) (by decide +kernel) (by decide +kernel) (by decide +kernel)
    (by first | exact .inl (by decide +kernel) | exact .inr (by decide +kernel)) (by rw [isSubtype_type]; kernel_rfl)
theorem type_re_Pattern_fullmatch : typeOf (.builtin "re.Pattern.fullmatch") = pure (.type "method_descriptor") := by show builtinType _ = _; rw [builtinType_eq_fast]; kernel_rfl
theorem entry_re_Pattern_fullmatch : entryFor table "re.Pattern.fullmatch" = some Builtin.«re.Pattern.fullmatch» := entryFor_of_tree (by kernel_rfl)
theorem args_re_Pattern_fullmatch_2 (a b : Value) : argsOk "re.Pattern.fullmatch" ⟨[a, b], []⟩ := by
  unfold argsOk; rw [signature?_of (id := "re.Pattern.fullmatch") (n := ['h', 'c', 't', 'a', 'm', 'l', 'l', 'u', 'f']) (o := ['n', 'r', 'e', 't', 't', 'a', 'P', '.', 'e', 'r']) (by kernel_rfl) owner_re_Pattern]; kernel_rfl
theorem slot_re_Pattern_sub : Slot "re.Pattern" "sub" "re.Pattern.sub" :=
  .of (owner := "re.Pattern") (n := "sub") (by rw [typeLookup_type, builtinLookup_eq_fast]; kernel_rfl) (by decide +kernel) (by decide +kernel) (by decide +kernel)
    (by first | exact .inl (by decide +kernel) | exact .inr (by decide +kernel)) (by rw [isSubtype_type]; kernel_rfl)
theorem type_re_Pattern_sub : typeOf (.builtin "re.Pattern.sub") = pure (.type "method_descriptor") := by show builtinType _ = _; rw [builtinType_eq_fast]; kernel_rfl
theorem entry_re_Pattern_sub : entryFor table "re.Pattern.sub" = some Builtin.«re.Pattern.sub» := entryFor_of_tree (by kernel_rfl)
theorem args_re_Pattern_sub_3 (a b c : Value) : argsOk "re.Pattern.sub" ⟨[a, b, c], []⟩ := by
  unfold argsOk; rw [signature?_of (id := "re.Pattern.sub") (n := ['b', 'u', 's']) (o := ['n', 'r', 'e', 't', 't', 'a', 'P', '.', 'e', 'r']) (by kernel_rfl) owner_re_Pattern]; kernel_rfl
theorem slot_re_Pattern_subn : Slot "re.Pattern" "subn" "re.Pattern.subn" :=
  .of (owner := "re.Pattern") (n := "subn") (by rw [typeLookup_type, builtinLookup_eq_fast]; kernel_rfl) (by decide +kernel) (by decide +kernel) (by decide +kernel)
    (by first | exact .inl (by decide +kernel) | exact .inr (by decide +kernel)) (by rw [isSubtype_type]; kernel_rfl)
theorem type_re_Pattern_subn : typeOf (.builtin "re.Pattern.subn") = pure (.type "method_descriptor") := by show builtinType _ = _; rw [builtinType_eq_fast]; kernel_rfl
theorem entry_re_Pattern_subn : entryFor table "re.Pattern.subn" = some Builtin.«re.Pattern.subn» := entryFor_of_tree (by kernel_rfl)
theorem args_re_Pattern_subn_3 (a b c : Value) : argsOk "re.Pattern.subn" ⟨[a, b, c], []⟩ := by
  unfold argsOk; rw [signature?_of (id := "re.Pattern.subn") (n := ['n', 'b', 'u', 's']) (o := ['n', 'r', 'e', 't', 't', 'a', 'P', '.', 'e', 'r']) (by kernel_rfl) owner_re_Pattern]; kernel_rfl
end Mine
end
section
theorem Mine.off_MA : True := by (w_top off; trivial)
open PySem PySem.W PyProof.Rows PySem.Spec PySem.Calls
set_option Elab.async false
set_option maxRecDepth 100000
namespace Mine
theorem lk_m_string : typeLookup (.type "re.Match") "string" = pure (some (.builtin "re.Match.string")) := by rw [typeLookup_type, builtinLookup_eq_fast]; kernel_rfl
theorem lk_m_ga : typeLookup (.type "re.Match") "__getattribute__" = pure (some (.builtin "object.__getattribute__")) := by rw [typeLookup_type, builtinLookup_eq_fast]; kernel_rfl
theorem ty_m_string : typeOf (.builtin "re.Match.string") = pure (.type "member_descriptor") := by show builtinType _ = _; rw [builtinType_eq_fast]; kernel_rfl
theorem entry_m_string : entryFor table "re.Match.string" = some Builtin.«re.Match.string» := entryFor_of_tree (by kernel_rfl)
theorem slot_mem_set : Slot "member_descriptor" "__set__" "member_descriptor.__set__" :=
  .of (owner := "member_descriptor") (n := "__set__") (by rw [typeLookup_type, builtinLookup_eq_fast]; kernel_rfl) (by decide +kernel) (by decide +kernel) (by decide +kernel)
    (by first | exact .inl (by decide +kernel) | exact .inr (by decide +kernel)) (by rw [isSubtype_type]; kernel_rfl)
theorem own_m_string : (".".intercalate ("re.Match.string".cutAt '.').dropLast) = "re.Match" := by
  have e0 : "re.Match.string".cutAt '.' = ["re", "Match", "string"] := by first | rfl | decide +kernel
  rw [e0]; decide +kernel
theorem sub_m_string : isSubtype (.type "re.Match") (.type (".".intercalate ("re.Match.string".cutAt '.').dropLast)) = pure true := by
  rw [own_m_string, isSubtype_type]; kernel_rfl
theorem slot_m_ga : Slot "re.Match" "__getattribute__" "object.__getattribute__" :=
  .of (owner := "object") (n := "__getattribute__") (by rw [typeLookup_type, builtinLookup_eq_fast]; kernel_rfl) (by decide +kernel) (by decide +kernel) (by decide +kernel)
    (by first | exact .inl (by decide +kernel) | exact .inr (by decide +kernel)) (by rw [isSubtype_type]; kernel_rfl)
theorem entry_ga : entryFor table "object.__getattribute__" = some Builtin.«object.__getattribute__» := entryFor_of_tree (by kernel_rfl)
section
variable {prog : Program} {w : World} {A : Around} {E : Value → Shared → Prop} {h : Heap} {g : Array GenState} {d : Drawn} {t : Nat} {os : OsState} {a : Addr} {o : Obj} {vs : Array Value} {v : Value}
theorem ms_get {R : Result → Shared → Prop} (hx : h.get? a = some o) (hc : o.cls = .type "re.Match") (hd : o.data = .fields vs) (hv : vs[0]? = some v) (hq : R (.ok (.ret v)) ⟨h, g, d, t, os⟩) :
    codeAny (model prog w) A (.call (.builtin "member_descriptor.__get__") ⟨[.builtin "re.Match.string", .ref a, .type "re.Match"], []⟩) R ⟨h, g, d, t, os⟩ := by
  have hT : (⟨h, g, d, t, os⟩ : Shared).TypeIs (.ref a) "re.Match" := ⟨_, hx, hc⟩
  have hT5 : (⟨h, g, d, t, os⟩ : Shared).TypeIs (.builtin "re.Match.string") "member_descriptor" := ty_m_string
  have f8 := sub_m_string
  refine codeAny_call_builtin KF.slot_mem.plain KF.entry_mem (KF.slot_mem.check _ _ _ _ _ _ _ _ hT5 (KF.args_mem _ _ _) ?_)
  repeat (any_goals (first | assumption | wp_step))
  refine ⟨Code.quiet_builtin _ (by decide +kernel), codeAny_builtin entry_m_string ?_⟩
  unfold Builtin.«re.Match.string»
  exact wpAny_bind (wpAny_field hx hd hv (wpAny_pure hq))
theorem ms_entry {tk : Tok} {Q : Fin → Shared → Prop} (hx : h.get? a = some o) (hc : o.cls = .type "re.Match") (hd : o.data = .fields vs) (hv : vs[0]? = some v) (hq : Q (.done (.ret v)) ⟨h, g, d, t, os⟩) :
    wpAny (model prog w) A (Builtin.«object.__getattribute__» ⟨[.ref a, .str "string" tk], []⟩) Q E ⟨h, g, d, t, os⟩ := by
  have hT : (⟨h, g, d, t, os⟩ : Shared).TypeIs (.ref a) "re.Match" := ⟨_, hx, hc⟩
  have hT5 : (⟨h, g, d, t, os⟩ : Shared).TypeIs (.builtin "re.Match.string") "member_descriptor" := ty_m_string
  have f4 := lk_m_string
  have f5 := ty_m_string
  have f6 := KF.slot_mem.lookup
  have f7 := KF.slot_mset.lookup
  repeat (any_goals (first | assumption | wp_step))
  refine ms_get hx hc hd hv ?_
  repeat (any_goals (first | assumption | wp_step))
theorem ms_call {tk : Tok} {R : Result → Shared → Prop} (hx : h.get? a = some o) (hc : o.cls = .type "re.Match") (hd : o.data = .fields vs) (hv : vs[0]? = some v) (hq : R (.ok (.ret v)) ⟨h, g, d, t, os⟩) :
    codeAny (model prog w) A (.call (.builtin "object.__getattribute__") ⟨[.ref a, .str "string" tk], []⟩) R ⟨h, g, d, t, os⟩ :=
  codeAny_call_builtin slot_m_ga.plain entry_ga (slot_m_ga.check _ _ _ _ _ _ _ _ (show (⟨h, g, d, t, os⟩ : Shared).TypeIs (.ref a) "re.Match" from ⟨_, hx, hc⟩) (by unfold argsOk; kernel_rfl) (ms_entry hx hc hd hv hq))
theorem ms_by {tk : Tok} {b : Bool} {x : Str} {u : Tok} {Q : Value → Shared → Prop} (hx : h.get? a = some o) (hc : o.cls = .type "re.Match") (hd : o.data = .fields vs) (hv : vs[0]? = some (.str x u)) (hq : Q (.str x u) ⟨h, g, d, t, os⟩) :
    wpAny (model prog w) A (getAttrBy (.ref a) (.str "string" tk) true b) Q E ⟨h, g, d, t, os⟩ := by
  have hT : (⟨h, g, d, t, os⟩ : Shared).TypeIs (.ref a) "re.Match" := ⟨_, hx, hc⟩
  have f2 := lk_m_ga
  have f3 := slot_m_ga.bind (.ref a)
  repeat (any_goals (first | assumption | wp_step))
  rw [show (b && onTheHeap (Value.builtin "object.__getattribute__")) = false from Bool.and_false _, if_neg Bool.false_ne_true]
  unfold boundAndCalled
  refine wpAny_bind ?_
  rw [f3]
  refine wpAny_pure (wpAny_call (ms_call hx hc hd hv ?_))
  repeat (any_goals (first | assumption | wp_step))
theorem ms_attr {b : Bool} {x : Str} {u : Tok} {Q : Value → Shared → Prop} {s : Shared} (hx : s.heap.get? a = some o) (hc : o.cls = .type "re.Match") (hd : o.data = .fields vs) (hv : vs[0]? = some (.str x u)) (hq : ∀ tk, Q (.str x u) { s with toks := tk }) :
    wpAny (model prog w) A (getAttr (.ref a) "string" b) Q E s := by
  unfold getAttr
  exact wpAny_bind (wpAny_mkText (ms_by hx hc hd hv (hq _)))
end
end Mine
end
section
theorem Mine.off_MB : True := by (w_top off; trivial)
open PySem PySem.W PyProof.Rows PySem.Spec PySem.Calls
set_option Elab.async false
set_option maxRecDepth 100000
namespace Mine
open PySem.Builtin.Re
noncomputable abbrev matchObj (x : Str) (tx : Tok) (pat : Addr) (pos lim li : Int) (sp : Addr) : Obj :=
  { cls := .type "re.Match", data := .fields #[.str x tx, .ref pat, .int pos 0, .int lim 0, .int li 0, .ref sp] }
noncomputable abbrev rawTup (l : List Int) : Obj := { cls := .type "tuple", data := .seq (l.map rawInt).toArray 0 }
/-- a match object over the text x with these spans -/
noncomputable def MatchAt (h : Heap) (a : Addr) (x : Str) (tx : Tok) (l : List Int) : Prop :=
  ∃ pat pos lim li sp, h.get? a = some (matchObj x tx pat pos lim li sp) ∧ h.get? sp = some (rawTup l)
theorem MatchAt.keeps {h h' : Heap} {a : Addr} {x : Str} {tx : Tok} {l : List Int} (m : MatchAt h a x tx l) (k : ∀ b o, h.get? b = some o → h'.get? b = some o) : MatchAt h' a x tx l :=
  let ⟨p, q, r, s, t, e1, e2⟩ := m; ⟨p, q, r, s, t, k _ _ e1, k _ _ e2⟩
section
variable {prog : Program} {w : World} {A : Around} {E : Value → Shared → Prop} {s : Shared} {a : Addr} {x : Str} {tx : Tok} {l : List Int}
theorem map_raw (l : List Int) : Array.map reRawOf ((some (List.map rawInt l).toArray).getD #[]) = l.toArray := by
  show Array.map reRawOf (List.map rawInt l).toArray = l.toArray
  rw [List.map_toArray, List.map_map]
  congr 1
  exact List.map_id' l
theorem rawItems_is {sp : Addr} {Q : Array Int → Shared → Prop} (h2 : s.heap.get? sp = some (rawTup l)) (hq : Q l.toArray s) : wpAny (model prog w) A (reRawItems (.ref sp)) Q E s := by
  unfold reRawItems
  repeat (any_goals (first | assumption | wp_step))
  rw [map_raw]; exact hq
theorem found_is {Q : ReFound → Shared → Prop} (M : MatchAt s.heap a x tx l) (hq : ∀ fs, fs.getD 0 .none = .str x tx → Q ⟨fs, l.toArray⟩ s) : wpAny (model prog w) A (reFound (.ref a)) Q E s := by
  obtain ⟨pat, pos, lim, li, sp, h1, h2⟩ := M
  unfold reFound
  repeat (any_goals (first | assumption | wp_step))
  rw [map_raw]; exact hq _ rfl
theorem number_is {k : Int} {u : Tok} {fs : Array Value} {Q : Nat → Shared → Prop} (hk : 0 ≤ k) (hl : 2 * k < l.length) (hb : k < 2 ^ 63) (hq : Q k.toNat s) : wpAny (model prog w) A (reGroupNumber ⟨fs, l.toArray⟩ (.int k u)) Q E s := by
  unfold reGroupNumber
  repeat (any_goals (first | assumption | wp_step))
theorem text_is {fs : Array Value} {k b e : Nat} {Q : Value → Shared → Prop} (hf : fs.getD 0 .none = .str x tx) (h1 : l[2 * k]? = some (b : Int)) (h2 : l[2 * k + 1]? = some (e : Int)) (hz : x.length ≤ sizeLine)
    (hq : Q (.str ⟨x.cps.extract b e⟩ s.toks) { s with toks := s.toks + 1 }) : wpAny (model prog w) A (reGroupText ⟨fs, l.toArray⟩ k .none) Q E s := by
  unfold reGroupText
  rw [hf]
  have e1 : l.toArray.getD (2 * k) (-1) = (b : Int) := by simp [h1]
  have e2 : l.toArray.getD (2 * k + 1) (-1) = (e : Int) := by simp [h2]
  dsimp only
  rw [e1, e2]
  repeat (any_goals (first | assumption | wp_step))
  rw [if_neg (by
    show ¬ (x.cps.extract b e).size > sizeLine
    have h3 : (x.cps.extract b e).size ≤ x.cps.size := by rw [Array.size_extract]; omega
    have h4 : x.cps.size ≤ sizeLine := hz
    omega)]
  exact wpAny_bind (wpAny_fresh (wpAny_pure hq))
theorem span_call {u : Tok} {b e : Int} {Q : Value → Shared → Prop} (M : MatchAt s.heap a x tx l) (h0 : l[0]? = some b) (h1 : l[1]? = some e)
    (hq : ∀ t1 t2 tk, Q (.ref s.heap.objs.size) { s with heap := s.heap.push { cls := .type "tuple", data := .seq #[.int b t1, .int e t2] 0 }, toks := tk }) : wpAny (model prog w) A (call (.builtin "re.Match.span") [.ref a, .int 0 u]) Q E s := by
  obtain ⟨pat, pos, lim, li, sp, g1, g2⟩ := id M
  have hT : s.TypeIs (.ref a) "re.Match" := ⟨_, g1, rfl⟩
  refine wpAny_call (codeAny_call_builtin slot_re_Match_span.plain entry_re_Match_span (slot_re_Match_span.check _ _ _ _ _ _ _ _ hT (args_re_Match_span_2 _ _) ?_))
  unfold Builtin.«re.Match.span» reOneGroup
  have e1 : l.toArray.getD 0 (-1) = b := by simp [h0]
  have e2 : l.toArray.getD 1 (-1) = e := by simp [h1]
  have hlen : 2 * (0 : Int) < (l.length : Int) := by
    cases l with
    | nil => cases h0
    | cons _ r => simp only [List.length_cons]; omega
  refine wpAny_bind (wpAny_bind ?_)
  repeat (any_goals (first | assumption | (with_reducible refine found_is M fun fs hf => ?_) | (with_reducible refine number_is (by decide) hlen (by decide) ?_) | wp_step))
  show Q (.ref s.heap.objs.size) { s with heap := s.heap.push { cls := .type "tuple", data := .seq #[.int (l.toArray.getD 0 (-1)) s.toks, .int (l.toArray.getD 1 (-1)) (s.toks + 1)] 0 }, toks := s.toks + 1 + 1 }
  rw [e1, e2]
  exact hq _ _ _
theorem group_call {u : Tok} {k : Int} {b e : Nat} {Q : Value → Shared → Prop} (M : MatchAt s.heap a x tx l) (hk : 0 ≤ k) (hl : 2 * k < l.length) (hkb : k < 2 ^ 63) (h1 : l[2 * k.toNat]? = some (b : Int)) (h2 : l[2 * k.toNat + 1]? = some (e : Int)) (hz : x.length ≤ sizeLine)
    (hq : Q (.str ⟨x.cps.extract b e⟩ s.toks) { s with toks := s.toks + 1 }) : wpAny (model prog w) A (call (.builtin "re.Match.group") [.ref a, .int k u]) Q E s := by
  obtain ⟨pat, pos, lim, li, sp, g1, g2⟩ := id M
  have hT : s.TypeIs (.ref a) "re.Match" := ⟨_, g1, rfl⟩
  refine wpAny_call (codeAny_call_builtin slot_re_Match_group.plain entry_re_Match_group (slot_re_Match_group.check _ _ _ _ _ _ _ _ hT (args_re_Match_group_2 _ _) ?_))
  unfold Builtin.«re.Match.group»
  repeat (any_goals (first | assumption | (with_reducible refine found_is M fun fs hf => ?_) | (with_reducible refine number_is hk hl hkb ?_) | (with_reducible refine text_is hf h1 h2 hz ?_) | wp_step))
end
end Mine
end
section
theorem Mine.off_MC : True := by (w_top off; trivial)
open PySem PySem.W PyProof.Rows PySem.Spec PySem.Calls
set_option Elab.async false
set_option maxRecDepth 100000
namespace Mine
open PySem.Builtin.Re
open PySem.Sre (M)
theorem runFor_done {m : M} (h : m.outcome.isSome = true) : ∀ n, m.runFor n = m
  | 0 => rfl
  | n + 1 => by unfold M.runFor; rw [if_pos h]
theorem runFor_add : ∀ (a b : Nat) (m : M), m.runFor (a + b) = (m.runFor a).runFor b
  | 0, b, m => by rw [Nat.zero_add]; rfl
  | a + 1, b, m => by
    rw [Nat.succ_add]
    show (if m.outcome.isSome then m else (m.step).runFor (a + b)) = (if m.outcome.isSome then m else (m.step).runFor a).runFor b
    by_cases h : m.outcome.isSome = true
    · rw [if_pos h, if_pos h, runFor_done h]
    · rw [if_neg h, if_neg h, runFor_add a b]
/-- the machine m comes to its end at r -/
noncomputable def Ends (m r : M) (k : Nat) : Prop := m.runFor k = r ∧ r.outcome.isSome = true
theorem Ends.more {m r : M} {k n : Nat} (e : Ends m r k) (h : k ≤ n) : m.runFor n = r := by
  obtain ⟨d, rfl⟩ := Nat.exists_eq_add_of_le h
  rw [runFor_add, e.1, runFor_done e.2]
section
variable {prog : Program} {w : World} {A : Around} {E : Value → Shared → Prop} {s : Shared} {a : Addr} {x : Str} {tx : Tok} {l : List Int}
theorem drive_is : ∀ (T : Nat) {m r : M} {k : Nat} {Q : M → Shared → Prop}, Ends m r k → k < 4 * T → Q r s → wpAny (model prog w) A (reDrive T m) Q E s
  | 0, _, _, _, _, _, h, _ => by omega
  | T + 1, m, r, k, Q, e, hk, hq => by
    unfold reDrive
    show wpAny _ _ (if (m.runFor 4).outcome.isSome then pure (m.runFor 4) else do rule "sre.turn"; reDrive T (m.runFor 4)) _ _ _
    by_cases h : (m.runFor 4).outcome.isSome = true
    · rw [if_pos h]
      have : m.runFor 4 = r := by
        rcases Nat.le_total 4 k with q | q
        · have := Ends.more (⟨rfl, h⟩ : Ends m (m.runFor 4) 4) q
          rw [← e.1, this]
        · exact e.more q
      rw [this]; exact wpAny_pure hq
    · rw [if_neg h]
      have h4 : 4 ≤ k := by
        refine Nat.le_of_not_lt fun q => h ?_
        rw [e.more (Nat.le_of_lt q)]; exact e.2
      have e' : Ends (m.runFor 4) r (k - 4) := ⟨by rw [← runFor_add, Nat.add_sub_cancel' h4]; exact e.1, e.2⟩
      exact wpAny_bind (wpAny_rule (drive_is T e' (by omega) hq))
theorem rules_is (f : Nat → Bool) (nm : Nat → String) {Q : PUnit → Shared → Prop} (hq : Q ⟨⟩ s) : ∀ l : List Nat, wpAny (model prog w) A
    (forIn l PUnit.unit fun i __s => if f i = true then do rule (nm i); pure (ForInStep.yield PUnit.unit) else pure (ForInStep.yield PUnit.unit)) Q E s
  | [] => by rw [List.forIn_nil]; exact wpAny_pure hq
  | i :: r => by
    rw [List.forIn_cons]
    refine wpAny_bind ?_
    have ih := rules_is f nm hq r
    by_cases h : f i = true
    · rw [if_pos h]
      exact wpAny_bind (wpAny_rule (wpAny_pure ih))
    · rw [if_neg h]
      exact wpAny_pure ih
theorem toEnd_ok {m r : M} {k : Nat} {Q : Option M → Shared → Prop} (e : Ends m r k) (hk : k < 2 ^ 65) (ho : r.outcome = some .matched) (hq : Q (some r) s) : wpAny (model prog w) A (reRunToEnd m) Q E s := by
  unfold reRunToEnd
  refine wpAny_bind (drive_is _ e (by omega) (wpAny_bind (rules_is _ _ ?_ _)))
  rw [ho]; exact wpAny_pure hq
theorem toEnd_no {m r : M} {k : Nat} {Q : Option M → Shared → Prop} (e : Ends m r k) (hk : k < 2 ^ 65) (ho : r.outcome = some .failed) (hq : Q none s) : wpAny (model prog w) A (reRunToEnd m) Q E s := by
  unfold reRunToEnd
  refine wpAny_bind (drive_is _ e (by omega) (wpAny_bind (rules_is _ _ ?_ _)))
  rw [ho]; exact wpAny_pure hq
noncomputable abbrev patObj (ps : Str) (pt : Tok) (fl : Int) (ft : Tok) (groups : Nat) (sp : Addr) : Obj :=
  { cls := .type "re.Pattern", data := .fields #[.str ps pt, .int fl ft, rawInt groups, .none, .none, .ref sp, rawInt 0] }
/-- a compiled pattern for texts -/
noncomputable def PatAt (h : Heap) (a : Addr) (code : List Nat) (groups : Nat) : Prop :=
  ∃ ps pt fl ft sp, h.get? a = some (patObj ps pt fl ft groups sp) ∧ h.get? sp = some (rawTup (code.map fun (c : Nat) => (c : Int)))
theorem PatAt.keeps {h h' : Heap} {a : Addr} {code : List Nat} {groups : Nat} (m : PatAt h a code groups) (k : ∀ b o, h.get? b = some o → h'.get? b = some o) : PatAt h' a code groups :=
  let ⟨p, q, r, s, t, e1, e2⟩ := m; ⟨p, q, r, s, t, k _ _ e1, k _ _ e2⟩
theorem code_back (code : List Nat) : (Array.map (fun (x : Int) => x.toNat) (code.map fun (c : Nat) => (c : Int)).toArray) = code.toArray := by
  rw [List.map_toArray, List.map_map]
  congr 1
  exact List.map_id' code
variable {code : List Nat} {groups : Nat}
theorem target_is {id f : String} {Q : ReTarget → Shared → Prop} (P : PatAt s.heap a code groups) (hz : x.length < 2 ^ 62)
    (hq : Q { pattern := .ref a, string := .str x tx, code := code.toArray, text := x.cps, kind := 0, groups := groups, pos := 0, lim := x.cps.size } s) : wpAny (model prog w) A (reTarget id f ⟨[.ref a, .str x tx], []⟩) Q E s := by
  obtain ⟨ps, pt, fl, ft, sp, h1, h2⟩ := P
  unfold reTarget
  repeat (any_goals (first | assumption | (with_reducible refine rawItems_is h2 ?_) | wp_step))
  rw [map_raw, code_back]
  have e1 : min (2 ^ 63 - 1 : Int).toNat x.cps.size = x.cps.size := Nat.min_eq_right (by
    have : x.cps.size < 2 ^ 62 := hz
    have e : (2 ^ 63 - 1 : Int).toNat = 2 ^ 63 - 1 := by decide
    rw [e]; omega)
  show Q { pattern := .ref a, string := .str x tx, code := code.toArray, text := x.cps, kind := 0, groups := reRawNat (rawInt groups), pos := min (0 : Int).toNat x.cps.size, lim := min (2 ^ 63 - 1 : Int).toNat x.cps.size } s
  rw [e1, show min (0 : Int).toNat x.cps.size = 0 from Nat.zero_min _]
  exact hq
noncomputable def spansOf (groups : Nat) (m : M) : List Int := (List.range groups).flatMap fun g =>
    match if ((2 * g + 1 : Nat) : Int) ≤ m.lastmark then (m.marks.getD (2 * g) none, m.marks.getD (2 * g + 1) none) else (none, none) with
    | (some b, some e) => [(b : Int), (e : Int)]
    | _ => [-1, -1]
noncomputable def wrongSpan (groups : Nat) (m : M) : Bool := (List.range groups).any (fun g => match m.marks.getD (2 * g) none, m.marks.getD (2 * g + 1) none with | some b, some e => ((2 * g + 1 : Nat) : Int) ≤ m.lastmark && e < b | _, _ => false)
noncomputable def rawSpans (groups : Nat) (m : M) : List Value := (List.range groups).flatMap fun g =>
    match if ((2 * g + 1 : Nat) : Int) ≤ m.lastmark then (m.marks.getD (2 * g) none, m.marks.getD (2 * g + 1) none) else (none, none) with
    | (some b, some e) => [rawInt b, rawInt e]
    | _ => [rawInt (-1), rawInt (-1)]
theorem spans_raw (groups : Nat) (m : M) : rawSpans groups m = (spansOf groups m).map rawInt := by
  unfold spansOf rawSpans
  rw [List.map_flatMap]
  congr 1
  funext g
  split <;> rfl
noncomputable abbrev newMatch (h : Heap) (x : Str) (tx : Tok) (a : Addr) (pos lim : Nat) (groups : Nat) (r : M) : Heap :=
  (h.push (rawTup ((r.start : Int) :: (r.handed : Int) :: spansOf groups r))).push (matchObj x tx a pos lim r.lastindex h.objs.size)
theorem newMatch_is {pos lim : Nat} {r : M} {Q : Value → Shared → Prop} (hw : wrongSpan groups r = false) (hg : groups ≤ 100)
    (hq : Q (.ref (s.heap.objs.size + 1)) { s with heap := newMatch s.heap x tx a pos lim groups r }) : wpAny (model prog w) A (reNewMatch (.ref a) (.str x tx) groups pos lim r) Q E s := by
  unfold reNewMatch
  have hr : wpAny (model prog w) A (newTuple (rawInt r.start :: rawInt r.handed :: rawSpans groups r) >>= fun t => newFields "re.Match" [.str x tx, .ref a, rawInt pos, rawInt lim, rawInt r.lastindex, t]) Q E s := by
    rw [spans_raw]
    have hsz : (spansOf groups r).length ≤ 2 * groups := by
      unfold spansOf
      rw [List.length_flatMap]
      have : ∀ l : List Nat, (l.map fun g => (match if ((2 * g + 1 : Nat) : Int) ≤ r.lastmark then (r.marks.getD (2 * g) none, r.marks.getD (2 * g + 1) none) else (none, none) with
        | (some b, some e) => [(b : Int), (e : Int)]
        | _ => [-1, -1]).length).sum = 2 * l.length := by
        intro l
        induction l with
        | nil => rfl
        | cons q t ih =>
          rw [List.map_cons, List.sum_cons, ih, List.length_cons]
          have : (match if ((2 * q + 1 : Nat) : Int) ≤ r.lastmark then (r.marks.getD (2 * q) none, r.marks.getD (2 * q + 1) none) else (none, none) with
            | (some b, some e) => [(b : Int), (e : Int)]
            | _ => [-1, -1]).length = 2 := by split <;> rfl
          rw [this]; omega
      rw [this, List.length_range]
      exact Nat.le_refl _
    refine wpAny_bind ?_
    refine wpAny_newObj_type ?_ ?_
    · repeat (any_goals (first | assumption | wp_step))
      rw [Heap.size_push]
      exact hq
    · show (rawInt r.start :: rawInt r.handed :: (spansOf groups r).map rawInt).toArray.size ≤ sizeLine
      simp only [List.size_toArray, List.length_cons, List.length_map]
      have : sizeLine = 2 ^ 24 := rfl
      omega
  show wpAny (model prog w) A (if wrongSpan groups r = true then _ else newTuple (rawInt r.start :: rawInt r.handed :: rawSpans groups r) >>= fun t => newFields "re.Match" [.str x tx, .ref a, rawInt pos, rawInt lim, rawInt r.lastindex, t]) Q E s
  rw [hw, if_neg Bool.false_ne_true]
  exact hr
theorem search_yes {k : Nat} {r : M} {Q : Value → Shared → Prop} (P : PatAt s.heap a code groups) (hz : x.length < 2 ^ 62) (hg : groups ≤ 100)
    (e : Ends (Sre.forSearch code.toArray x.cps groups 0 x.cps.size false) r k) (hk : k < 2 ^ 65) (ho : r.outcome = some .matched) (hw : wrongSpan groups r = false)
    (hq : Q (.ref (s.heap.objs.size + 1)) { s with heap := newMatch s.heap x tx a 0 x.cps.size groups r }) : wpAny (model prog w) A (call (.builtin "re.Pattern.search") [.ref a, .str x tx]) Q E s := by
  obtain ⟨ps, pt, fl, ft, sp, h1, h2⟩ := id P
  have hT : s.TypeIs (.ref a) "re.Pattern" := ⟨_, h1, rfl⟩
  refine wpAny_call (codeAny_call_builtin slot_re_Pattern_search.plain entry_re_Pattern_search (slot_re_Pattern_search.check _ _ _ _ _ _ _ _ hT (args_re_Pattern_search_2 _ _) ?_))
  unfold Builtin.«re.Pattern.search»
  refine wpAny_bind (target_is P hz ?_)
  unfold reAnswer
  refine wpAny_bind (toEnd_ok e hk ho (wpAny_bind (newMatch_is hw hg (wpAny_pure hq))))
theorem search_no {k : Nat} {r : M} {Q : Value → Shared → Prop} (P : PatAt s.heap a code groups) (hz : x.length < 2 ^ 62)
    (e : Ends (Sre.forSearch code.toArray x.cps groups 0 x.cps.size false) r k) (hk : k < 2 ^ 65) (ho : r.outcome = some .failed)
    (hq : Q .none s) : wpAny (model prog w) A (call (.builtin "re.Pattern.search") [.ref a, .str x tx]) Q E s := by
  obtain ⟨ps, pt, fl, ft, sp, h1, h2⟩ := id P
  have hT : s.TypeIs (.ref a) "re.Pattern" := ⟨_, h1, rfl⟩
  refine wpAny_call (codeAny_call_builtin slot_re_Pattern_search.plain entry_re_Pattern_search (slot_re_Pattern_search.check _ _ _ _ _ _ _ _ hT (args_re_Pattern_search_2 _ _) ?_))
  unfold Builtin.«re.Pattern.search»
  refine wpAny_bind (target_is P hz ?_)
  unfold reAnswer
  refine wpAny_bind (toEnd_no e hk ho (wpAny_pure hq))
theorem full_yes {k : Nat} {r : M} {Q : Value → Shared → Prop} (P : PatAt s.heap a code groups) (hz : x.length < 2 ^ 62) (hg : groups ≤ 100)
    (e : Ends (Sre.forMatch code.toArray x.cps groups 0 x.cps.size true false) r k) (hk : k < 2 ^ 65) (ho : r.outcome = some .matched) (hw : wrongSpan groups r = false)
    (hq : Q (.ref (s.heap.objs.size + 1)) { s with heap := newMatch s.heap x tx a 0 x.cps.size groups r }) : wpAny (model prog w) A (call (.builtin "re.Pattern.fullmatch") [.ref a, .str x tx]) Q E s := by
  obtain ⟨ps, pt, fl, ft, sp, h1, h2⟩ := id P
  have hT : s.TypeIs (.ref a) "re.Pattern" := ⟨_, h1, rfl⟩
  refine wpAny_call (codeAny_call_builtin slot_re_Pattern_fullmatch.plain entry_re_Pattern_fullmatch (slot_re_Pattern_fullmatch.check _ _ _ _ _ _ _ _ hT (args_re_Pattern_fullmatch_2 _ _) ?_))
  unfold Builtin.«re.Pattern.fullmatch»
  refine wpAny_bind (target_is P hz ?_)
  unfold reAnswer
  refine wpAny_bind (toEnd_ok e hk ho (wpAny_bind (newMatch_is hw hg (wpAny_pure hq))))
theorem full_no {k : Nat} {r : M} {Q : Value → Shared → Prop} (P : PatAt s.heap a code groups) (hz : x.length < 2 ^ 62)
    (e : Ends (Sre.forMatch code.toArray x.cps groups 0 x.cps.size true false) r k) (hk : k < 2 ^ 65) (ho : r.outcome = some .failed)
    (hq : Q .none s) : wpAny (model prog w) A (call (.builtin "re.Pattern.fullmatch") [.ref a, .str x tx]) Q E s := by
  obtain ⟨ps, pt, fl, ft, sp, h1, h2⟩ := id P
  have hT : s.TypeIs (.ref a) "re.Pattern" := ⟨_, h1, rfl⟩
  refine wpAny_call (codeAny_call_builtin slot_re_Pattern_fullmatch.plain entry_re_Pattern_fullmatch (slot_re_Pattern_fullmatch.check _ _ _ _ _ _ _ _ hT (args_re_Pattern_fullmatch_2 _ _) ?_))
  unfold Builtin.«re.Pattern.fullmatch»
  refine wpAny_bind (target_is P hz ?_)
  unfold reAnswer
  refine wpAny_bind (toEnd_no e hk ho (wpAny_pure hq))
end
end Mine
end
section
theorem Mine.off_MG : True := by (w_top off; trivial)
open PySem
set_option Elab.async false
set_option maxRecDepth 100000
namespace Mine
open PySem.Sre (M Loop Wait Op)
/-- what a run of the machine leaves alone -/
structure Cx where
  code : Array Nat
  text : Array Nat
  lim : Nat
  lastStart : Nat
  whole : Bool
/-- its registers -/
structure Rg where
  start : Nat
  pc : Nat
  pos : Nat
  handed : Nat
  outer : Bool
  marks : Array (Option Nat)
  lastmark : Int
  lastindex : Int
  loops : Array Loop
  inner : Option Nat
  frames : List Sre.Frame
  weight : Nat
noncomputable def Cx.m (c : Cx) (r : Rg) (ans : Option Bool) (sn : Sre.Seen) : M :=
  { code := c.code, text := c.text, lim := c.lim, start := r.start, lastStart := c.lastStart, wholeText := c.whole, mustAdvance := false, pc := r.pc, pos := r.pos, handed := r.handed, outermost := r.outer, marks := r.marks, lastmark := r.lastmark,
    lastindex := r.lastindex, loops := r.loops, inner := r.inner, frames := r.frames, weight := r.weight, answer := ans, seen := sn, outcome := none }
/-- k steps lead from r, a to r', a' -/
noncomputable def Go (c : Cx) (r : Rg) (a : Option Bool) (r' : Rg) (a' : Option Bool) (k : Nat) : Prop := ∀ sn, ∃ sn', (c.m r a sn).runFor k = c.m r' a' sn'
theorem Go.refl {c : Cx} {r : Rg} {a : Option Bool} : Go c r a r a 0 := fun sn => ⟨sn, rfl⟩
theorem Go.trans {c : Cx} {r r' r'' : Rg} {a a' a'' : Option Bool} {k k' : Nat} (h : Go c r a r' a' k) (h' : Go c r' a' r'' a'' k') : Go c r a r'' a'' (k + k') := fun sn => by
  obtain ⟨s1, e1⟩ := h sn
  obtain ⟨s2, e2⟩ := h' s1
  exact ⟨s2, by rw [runFor_add, e1, e2]⟩
theorem run_one (m : M) (h : m.outcome = none) : m.runFor 1 = m.step := by
  unfold M.runFor
  rw [h]; rfl
theorem Go.one {c : Cx} {r r' : Rg} {a a' : Option Bool} (h : ∀ sn, ∃ sn', (c.m r a sn).step = c.m r' a' sn') : Go c r a r' a' 1 := fun sn => by
  obtain ⟨s', e⟩ := h sn
  exact ⟨s', by rw [run_one _ rfl, e]⟩
/-- the run ends -/
theorem Go.ends {c : Cx} {r r' : Rg} {a : Option Bool} {b : Bool} {k : Nat} (h : Go c r a r' (some b) k) (hf : r'.frames = []) (sn : Sre.Seen) :
    ∃ m, Ends (c.m r a sn) m (k + 1) ∧ m.outcome = some (if b then .matched else .failed) ∧ m.start = r'.start ∧ m.handed = r'.handed ∧ m.marks = r'.marks ∧ m.lastmark = r'.lastmark ∧ m.lastindex = r'.lastindex := by
  obtain ⟨s', e⟩ := h sn
  refine ⟨{ c.m r' (some b) s' with outcome := some (if b then .matched else .failed) }, ⟨?_, rfl⟩, rfl, rfl, rfl, rfl, rfl, rfl⟩
  rw [runFor_add, e, run_one _ rfl]
  unfold M.step
  simp only [Cx.m, hf]
  rfl
section
variable {c : Cx} {r : Rg}
theorem step_exec (sn : Sre.Seen) (hpc : r.pc < c.code.size) : (c.m r none sn).step = (c.m r none sn).exec := by
  unfold M.step
  rw [if_neg (by show ¬ (none : Option Sre.Outcome).isSome = true; decide)]
  exact if_pos hpc
theorem go_exec {r' : Rg} {a' : Option Bool} (hpc : r.pc < c.code.size) (h : ∀ sn, ∃ sn', (c.m r none sn).exec = c.m r' a' sn') : Go c r none r' a' 1 :=
  Go.one fun sn => by rw [step_exec sn hpc]; exact h sn
theorem go_mark {i : Nat} (hpc : r.pc < c.code.size) (ho : Sre.ops[c.code.getD r.pc 0]? = some .MARK) (hi : c.code.getD (r.pc + 1) 0 = i) (hl : (i : Int) ≤ r.lastmark + 1) :
    Go c r none { r with marks := r.marks.setIfInBounds i (some r.pos), lastmark := max r.lastmark i, lastindex := if i % 2 == 1 then (i / 2 + 1 : Nat) else r.lastindex, pc := r.pc + 2 } none 1 := by
  refine go_exec hpc fun sn => ?_
  unfold M.exec
  simp only [M.word, Cx.m, Nat.add_zero, ho, hi, M.mark, if_pos hl]
  exact ⟨_, rfl⟩
theorem go_at_yes (hpc : r.pc < c.code.size) (ho : Sre.ops[c.code.getD r.pc 0]? = some .AT) (hi : c.code.getD (r.pc + 1) 0 = 0) (hp : r.pos = 0) : Go c r none { r with pc := r.pc + 2 } none 1 := by
  refine go_exec hpc fun sn => ?_
  unfold M.exec
  simp only [M.word, Cx.m, Nat.add_zero, ho, hi, M.isAt, hp]
  exact ⟨_, rfl⟩
theorem go_at_no (hpc : r.pc < c.code.size) (ho : Sre.ops[c.code.getD r.pc 0]? = some .AT) (hi : c.code.getD (r.pc + 1) 0 = 0) (hp : r.pos ≠ 0) : Go c r none r (some false) 1 := by
  refine go_exec hpc fun sn => ?_
  have : (r.pos == 0) = false := by simpa using hp
  unfold M.exec
  simp only [M.word, Cx.m, Nat.add_zero, ho, hi, M.isAt, this, M.say, Bool.false_eq_true, if_false]
  exact ⟨_, rfl⟩
theorem go_lit_yes {x : Nat} (hpc : r.pc < c.code.size) (ho : Sre.ops[c.code.getD r.pc 0]? = some .LITERAL) (hi : c.code.getD (r.pc + 1) 0 = x) (hp : r.pos < c.lim) (hx : c.text.getD r.pos 0 = x) :
    Go c r none { r with pc := r.pc + 2, pos := r.pos + 1 } none 1 := by
  refine go_exec hpc fun sn => ?_
  unfold M.exec
  have h1 : ¬ (r.pos ≥ c.lim) := by omega
  simp only [M.word, Cx.m, Nat.add_zero, ho, h1, if_false, Sre.accepts, hi, hx, Sre.itemWidth, beq_self_eq_true]
  exact ⟨_, rfl⟩
theorem go_lit_no {x : Nat} (hpc : r.pc < c.code.size) (ho : Sre.ops[c.code.getD r.pc 0]? = some .LITERAL) (hi : c.code.getD (r.pc + 1) 0 = x) (hx : r.pos < c.lim → c.text.getD r.pos 0 ≠ x) :
    Go c r none r (some false) 1 := by
  refine go_exec hpc fun sn => ?_
  unfold M.exec
  by_cases hp : r.pos < c.lim
  · have h1 : ¬ (r.pos ≥ c.lim) := by omega
    have : (c.text.getD r.pos 0 == x) = false := by simpa using hx hp
    simp only [M.word, Cx.m, Nat.add_zero, ho, h1, if_false, Sre.accepts, hi, this]
    exact ⟨_, rfl⟩
  · have h1 : r.pos ≥ c.lim := by omega
    simp only [M.word, Cx.m, Nat.add_zero, ho, h1, if_true]
    exact ⟨_, rfl⟩
theorem go_in_yes (hpc : r.pc < c.code.size) (ho : Sre.ops[c.code.getD r.pc 0]? = some .IN) (hp : r.pos < c.lim)
    (hs : ∀ sn, ∃ sn', Sre.inSet c.code (c.text.getD r.pos 0) c.code.size (r.pc + 2) true sn = .ok (true, sn')) :
    Go c r none { r with pc := r.pc + (1 + c.code.getD (r.pc + 1) 0), pos := r.pos + 1 } none 1 := by
  refine go_exec hpc fun sn => ?_
  unfold M.exec
  have h1 : ¬ (r.pos ≥ c.lim) := by omega
  obtain ⟨sn', e⟩ := hs (sn.add (c.code.getD r.pc 0))
  simp only [M.word, Cx.m, Nat.add_zero, ho, h1, if_false, Sre.accepts, e, Sre.itemWidth]
  exact ⟨_, rfl⟩
theorem go_any_yes (hpc : r.pc < c.code.size) (ho : Sre.ops[c.code.getD r.pc 0]? = some .ANY) (hp : r.pos < c.lim) (hx : c.text.getD r.pos 0 ≠ 10) :
    Go c r none { r with pc := r.pc + 1, pos := r.pos + 1 } none 1 := by
  refine go_exec hpc fun sn => ?_
  unfold M.exec
  have h1 : ¬ (r.pos ≥ c.lim) := by omega
  have : (c.text.getD r.pos 0 != 10) = true := by simpa using hx
  simp only [M.word, Cx.m, Nat.add_zero, ho, h1, if_false, Sre.accepts, this, Sre.itemWidth]
  exact ⟨_, rfl⟩
theorem go_succ (hpc : r.pc < c.code.size) (ho : Sre.ops[c.code.getD r.pc 0]? = some .SUCCESS) (hw : r.outer = true → c.whole = true → r.pos = c.lim) :
    Go c r none { r with handed := r.pos } (some true) 1 := by
  refine go_exec hpc fun sn => ?_
  unfold M.exec
  have h1 : (r.outer && ((c.whole && r.pos != c.lim) || (false && r.pos == r.start))) = false := by
    cases q1 : r.outer with
    | false => rfl
    | true => cases q2 : c.whole with
      | false => rfl
      | true => simp [hw q1 q2]
  simp only [M.word, Cx.m, Nat.add_zero, ho, h1, Bool.false_eq_true, if_false]
  exact ⟨_, rfl⟩
theorem go_succ_no (hpc : r.pc < c.code.size) (ho : Sre.ops[c.code.getD r.pc 0]? = some .SUCCESS) (hw : r.outer = true) (hw2 : c.whole = true) (hp : r.pos ≠ c.lim) :
    Go c r none r (some false) 1 := by
  refine go_exec hpc fun sn => ?_
  unfold M.exec
  have h1 : (r.outer && ((c.whole && r.pos != c.lim) || (false && r.pos == r.start))) = true := by simp [hw, hw2, hp]
  simp only [M.word, Cx.m, Nat.add_zero, ho, h1, if_true]
  exact ⟨_, rfl⟩
/-- what REPEAT_ONE keeps -/
noncomputable def kept (r : Rg) : Sre.Kept := { lastmark := r.lastmark, lastindex := r.lastindex, whole := r.inner.isSome, marks := if r.inner.isSome then r.marks.extract 0 (r.lastmark + 1).toNat else #[] }
noncomputable def gbFrame (r : Rg) (n : Nat) : Sre.Frame := { wait := .giveBack, pc := r.pc, pos := r.pos + n, outermost := r.outer, count := n, kept := kept r }
theorem go_rep_yes {n lo hi : Nat} (hpc : r.pc < c.code.size) (ho : Sre.ops[c.code.getD r.pc 0]? = some .REPEAT_ONE) (h2 : c.code.getD (r.pc + 2) 0 = lo) (h3 : c.code.getD (r.pc + 3) 0 = hi) (hroom : r.pos + lo ≤ c.lim)
    (hrun : ∀ sn, ∃ sn', Sre.run c.code c.text (r.pc + 4) (min hi (c.lim - r.pos)) r.pos 0 sn = .ok (n, sn')) (hn : lo ≤ n) (hwt : r.weight + 1 + (kept r).marks.size ≤ 16777216) :
    Go c r none { r with pc := r.pc + 1 + c.code.getD (r.pc + 1) 0, pos := r.pos + n, handed := r.pos + n, frames := gbFrame r n :: r.frames, weight := r.weight + 1 + (kept r).marks.size } none 1 := by
  refine go_exec hpc fun sn => ?_
  obtain ⟨sn', e⟩ := hrun ((sn.add (c.code.getD r.pc 0)).add (c.code.getD (r.pc + 4) 0))
  unfold M.exec
  have q1 : ¬ ((lo : Int) > (c.lim : Int) - r.pos) := by omega
  have er : ((c.lim : Int) - r.pos).toNat = c.lim - r.pos := by omega
  have q2 : ¬ (n < lo) := by omega
  have q3 : ¬ (r.weight + 1 + (if r.inner.isSome then r.marks.extract 0 (r.lastmark + 1).toNat else #[]).size > 16777216) := Nat.not_lt.mpr hwt
  simp only [M.word, Cx.m, Nat.add_zero, ho, h2, h3, q1, if_false, er, Bool.false_eq_true, e, q2, M.afterRun, M.frame, M.keep, M.attempt]
  exact ⟨_, (if_neg q3).trans rfl⟩
theorem go_rep_no {n lo hi : Nat} (hpc : r.pc < c.code.size) (ho : Sre.ops[c.code.getD r.pc 0]? = some .REPEAT_ONE) (h2 : c.code.getD (r.pc + 2) 0 = lo) (h3 : c.code.getD (r.pc + 3) 0 = hi) (hp : r.pos ≤ c.lim)
    (hrun : r.pos + lo ≤ c.lim → ∀ sn, ∃ sn', Sre.run c.code c.text (r.pc + 4) (min hi (c.lim - r.pos)) r.pos 0 sn = .ok (n, sn')) (hn : n < lo) :
    Go c r none r (some false) 1 := by
  refine go_exec hpc fun sn => ?_
  unfold M.exec
  by_cases hroom : r.pos + lo ≤ c.lim
  · have q1 : ¬ ((lo : Int) > (c.lim : Int) - r.pos) := by omega
    obtain ⟨sn', e⟩ := hrun hroom ((sn.add (c.code.getD r.pc 0)).add (c.code.getD (r.pc + 4) 0))
    have er : ((c.lim : Int) - r.pos).toNat = c.lim - r.pos := by omega
    simp only [M.word, Cx.m, Nat.add_zero, ho, h2, h3, q1, if_false, er, Bool.false_eq_true, e, hn, if_true]
    exact ⟨_, rfl⟩
  · have q1 : ((lo : Int) > (c.lim : Int) - r.pos) := by omega
    simp only [M.word, Cx.m, Nat.add_zero, ho, h2, h3, q1, if_true]
    exact ⟨_, rfl⟩
theorem step_resume {yes : Bool} {f : Sre.Frame} {fs : List Sre.Frame} (sn : Sre.Seen) (hf : r.frames = f :: fs) : (c.m r (some yes) sn).step = M.resume (c.m { r with frames := fs, weight := r.weight - (1 + f.kept.marks.size), pc := f.pc, pos := f.pos, outer := f.outermost } none sn) f yes := by
  unfold M.step
  simp only [Cx.m, hf]
  rfl
/-- put back what a frame kept -/
noncomputable def back (r : Rg) (k : Sre.Kept) : Rg := { r with lastmark := k.lastmark, lastindex := k.lastindex, marks := if k.whole then k.marks ++ r.marks.extract k.marks.size r.marks.size else r.marks }
theorem go_back_yes {f : Sre.Frame} {fs : List Sre.Frame} (hf : r.frames = f :: fs) (hw : f.wait = .giveBack) :
    Go c r (some true) { r with frames := fs, weight := r.weight - (1 + f.kept.marks.size), pc := f.pc, pos := f.pos, outer := f.outermost } (some true) 1 := by
  refine Go.one fun sn => ?_
  rw [step_resume sn hf]
  unfold M.resume
  simp only [hw]
  exact ⟨_, rfl⟩
theorem go_back_end {f : Sre.Frame} {fs : List Sre.Frame} (hf : r.frames = f :: fs) (hw : f.wait = .giveBack) (hc : f.count - 1 < c.code.getD (f.pc + 2) 0) :
    Go c r (some false) (back { r with frames := fs, weight := r.weight - (1 + f.kept.marks.size), pc := f.pc, pos := f.pos, outer := f.outermost } f.kept) (some false) 1 := by
  refine Go.one fun sn => ?_
  rw [step_resume sn hf]
  unfold M.resume
  simp only [hw, M.word, Cx.m, hc, if_true, Bool.false_eq_true, if_false]
  exact ⟨_, rfl⟩
theorem go_back_more {f : Sre.Frame} {fs : List Sre.Frame} (hf : r.frames = f :: fs) (hw : f.wait = .giveBack) (hc : ¬ f.count - 1 < c.code.getD (f.pc + 2) 0) (hwt : r.weight - (1 + f.kept.marks.size) + 1 + f.kept.marks.size ≤ 16777216) :
    Go c r (some false) { back { r with frames := fs, weight := r.weight - (1 + f.kept.marks.size), pc := f.pc, pos := f.pos, outer := f.outermost } f.kept with
      pos := f.pos - 1, handed := f.pos - 1, pc := f.pc + 1 + c.code.getD (f.pc + 1) 0, frames := { wait := .giveBack, pc := f.pc, pos := f.pos - 1, outermost := f.outermost, count := f.count - 1, kept := f.kept } :: fs,
      weight := r.weight - (1 + f.kept.marks.size) + 1 + f.kept.marks.size } none 1 := by
  refine Go.one fun sn => ?_
  rw [step_resume sn hf]
  unfold M.resume
  simp only [hw, M.word, Cx.m, hc, if_false, Bool.false_eq_true, M.afterRun, M.frame, M.attempt, M.putBack]
  exact ⟨_, (if_neg (Nat.not_lt.mpr hwt)).trans rfl⟩
theorem go_next_yes {f : Sre.Frame} {fs : List Sre.Frame} (hf : r.frames = f :: fs) (hw : f.wait = .nextStart) :
    Go c r (some true) { r with frames := fs, weight := r.weight - (1 + f.kept.marks.size), pc := f.pc, pos := f.pos, outer := f.outermost } (some true) 1 := by
  refine Go.one fun sn => ?_
  rw [step_resume sn hf]
  unfold M.resume
  simp only [hw]
  exact ⟨_, rfl⟩
theorem go_next_end {f : Sre.Frame} {fs : List Sre.Frame} (hf : r.frames = f :: fs) (hw : f.wait = .nextStart) (hp : c.lastStart ≤ f.pos) :
    Go c r (some false) { r with frames := fs, weight := r.weight - (1 + f.kept.marks.size), pc := f.pc, pos := f.pos, outer := f.outermost } (some false) 1 := by
  refine Go.one fun sn => ?_
  rw [step_resume sn hf]
  unfold M.resume
  have h1 : ¬ (f.pos < c.lastStart) := by omega
  simp only [hw, Cx.m, Bool.false_eq_true, if_false, h1]
  exact ⟨_, rfl⟩
noncomputable def nsFrame (pc s : Nat) (outer : Bool) : Sre.Frame := { wait := .nextStart, pc := pc, pos := s, outermost := outer }
/-- an attempt at s -/
noncomputable def atStart (r : Rg) (s : Nat) (outer : Bool) : Rg :=
  { r with start := s, pos := s, handed := s, lastmark := -1, lastindex := -1, frames := nsFrame r.pc s outer :: r.frames, weight := r.weight + 1, outer := outer }
theorem go_next_no {f : Sre.Frame} {fs : List Sre.Frame} (hf : r.frames = f :: fs) (hw : f.wait = .nextStart) (hk : f.kept.marks = #[]) (hp : f.pos < c.lastStart) (hwt : r.weight ≤ 16777216) (hw1 : 1 ≤ r.weight)
    (hs : (Sre.ops[c.code.getD 0 0]? = some .INFO → c.code.getD 2 0 ≠ 4)) :
    Go c r (some false) (atStart { r with frames := fs, weight := r.weight - 1, pc := f.pc, pos := f.pos, outer := f.outermost } (f.pos + 1) false) none 1 := by
  refine Go.one fun sn => ?_
  rw [step_resume sn hf]
  unfold M.resume
  simp only [hw, Cx.m, Bool.false_eq_true, if_false, hp, if_true]
  have hfs : ∀ m : M, m.code = c.code → m.hasFirstSet = false := by
    intro m hm
    unfold M.hasFirstSet
    rw [hm]
    cases q : Sre.ops[c.code.getD 0 0]? with
    | none => rfl
    | some o => cases o with
      | INFO => simpa using hs q
      | _ => rfl
  have q3 : ¬ (r.weight - (1 + 0) + 1 + 0 > 16777216) := by omega
  unfold M.attemptFrom
  rw [hfs _ (by rfl)]
  simp only [Bool.not_false, if_true, M.attemptAt, M.attempt, hk, List.size_toArray, List.length_nil, q3, if_false]
  exact ⟨_, rfl⟩
end
end Mine
end
section
theorem Mine.off_MH : True := by (w_top off; trivial)
open PySem
set_option Elab.async false
set_option maxRecDepth 100000
namespace Mine
open PySem.Sre (M Loop Wait Op)
noncomputable abbrev cJunk : List Nat := [14, 4, 0, 0, 4294967295, 6, 0, 24, 13, 0, 4294967295, 13, 8, 16, 61, 8, 12, 16, 59, 0, 1, 1]
noncomputable abbrev cName : List Nat := [14, 4, 0, 1, 4294967295, 6, 0, 24, 9, 0, 4294967295, 13, 4, 8, 12, 0, 1, 17, 0, 24, 19, 1, 4294967295, 13, 14, 21, 9, 0, 671092736, 0, 0, 0, 0, 0, 0, 8, 12, 0, 1, 17, 1, 1]
noncomputable abbrev cQuot : List Nat := [14, 4, 0, 3, 4294967295, 6, 0, 24, 9, 0, 4294967295, 13, 4, 8, 12, 0, 1, 16, 61, 24, 9, 0, 4294967295, 13, 4, 8, 12, 0, 1, 16, 34, 17, 0, 24, 12, 0, 4294967295, 13, 7, 21, 16, 34, 16, 92, 0, 1, 23, 19, 0, 4294967295, 16, 92, 2, 24, 12, 0, 4294967295, 13, 7, 21, 16, 34, 16, 92, 0, 1, 18, 17, 1, 16, 34, 1]
noncomputable abbrev cVal : List Nat := [14, 4, 0, 1, 4294967295, 6, 0, 24, 9, 0, 4294967295, 13, 4, 8, 12, 0, 1, 16, 61, 24, 9, 0, 4294967295, 13, 4, 8, 12, 0, 1, 17, 0, 24, 14, 0, 4294967295, 13, 9, 21, 8, 12, 16, 59, 16, 44, 0, 1, 17, 1, 1]
noncomputable abbrev cUnesc : List Nat := [14, 8, 1, 2, 2, 1, 1, 92, 0, 16, 92, 17, 0, 2, 17, 1, 1]
noncomputable abbrev cToks : List Nat := [14, 4, 0, 1, 4294967295, 24, 16, 1, 4294967295, 13, 11, 9, 0, 67071226, 3355443198, 1476395007, 0, 0, 0, 0, 0, 1, 1]
noncomputable abbrev cEsc : List Nat := [14, 9, 4, 1, 1, 16, 34, 16, 92, 0, 17, 0, 13, 6, 16, 34, 16, 92, 0, 17, 1, 1]
noncomputable abbrev cTilde : List Nat := [14, 14, 4, 1, 1, 9, 0, 64, 0, 1342177280, 0, 0, 0, 0, 0, 17, 0, 13, 11, 9, 0, 64, 0, 1342177280, 0, 0, 0, 0, 0, 17, 1, 1]
/-- a set of signs that code tells from i on -/
noncomputable def InS (code : List Nat) (fuel i : Nat) (yes : Bool) (f : Nat → Bool) : Prop := ∀ c sn, ∃ sn', Sre.inSet code.toArray c fuel i yes sn = .ok (f c, sn')
section
variable {code : List Nat} {n i x : Nat} {yes : Bool} {f : Nat → Bool}
theorem arr (code : List Nat) (i : Nat) : code.toArray.getD i 0 = code.getD i 0 := by simp
theorem ins_end (h0 : code.getD i 0 = 0) : InS code (n + 1) i yes (fun _ => !yes) := fun c sn => by
  unfold Sre.inSet
  simp only [Nat.add_zero, arr, h0]
  exact ⟨_, rfl⟩
theorem ins_neg (h0 : code.getD i 0 = 21) (h : InS code n (i + 1) (!yes) f) : InS code (n + 1) i yes f := fun c sn => by
  unfold Sre.inSet
  simp only [Nat.add_zero, arr, h0]
  exact h c _
theorem ins_lit (h0 : code.getD i 0 = 16) (h1 : code.getD (i + 1) 0 = x) (h : InS code n (i + 2) yes f) : InS code (n + 1) i yes (fun c => if c == x then yes else f c) := fun c sn => by
  unfold Sre.inSet
  simp only [Nat.add_zero, arr, h0, h1]
  cases q : (c == x) with
  | true => exact ⟨_, rfl⟩
  | false => exact h c _
theorem cat12 (c : Nat) : Sre.category 12 c = .ok (Unicode.isSpace c) := by
  show Except.ok (Unicode.isSpace c != false) = _
  rw [Bool.bne_false]
theorem ins_space (h0 : code.getD i 0 = 8) (h1 : code.getD (i + 1) 0 = 12) (h : InS code n (i + 2) yes f) : InS code (n + 1) i yes (fun c => if Unicode.isSpace c then yes else f c) := fun c sn => by
  unfold Sre.inSet
  simp only [Nat.add_zero, arr, h0, h1, cat12]
  cases q : Unicode.isSpace c with
  | true => exact ⟨_, rfl⟩
  | false => exact h c _
theorem ins_char (h0 : code.getD i 0 = 9) (h : InS code n (i + 9) yes f) : InS code (n + 1) i yes (fun c => if (c < 256 && (code.getD (i + (1 + c / 32)) 0).testBit (c % 32)) then yes else f c) := fun c sn => by
  unfold Sre.inSet
  simp only [Nat.add_zero, arr, h0]
  cases q : (decide (c < 256) && (code.getD (i + (1 + c / 32)) 0).testBit (c % 32)) with
  | true => exact ⟨_, rfl⟩
  | false => exact h c _
theorem InS.eq {g : Nat → Bool} (h : InS code n i yes f) (e : ∀ c, f c = g c) : InS code n i yes g := fun c sn => by rw [← e c]; exact h c sn
end
/-- the set at i of an IN -/
noncomputable abbrev SetIs (code : List Nat) (i : Nat) (f : Nat → Bool) : Prop := InS code code.length i true f
def isTok (c : Nat) : Bool := c < 256 && ([0, 67071226, 3355443198, 1476395007, 0, 0, 0, 0].getD (c / 32) 0).testBit (c % 32)
noncomputable def isEq (c : Nat) : Bool := c < 256 && ([0, 671092736, 0, 0, 0, 0, 0, 0].getD (c / 32) 0).testBit (c % 32)
noncomputable def isTil (c : Nat) : Bool := c < 256 && ([0, 64, 0, 1342177280, 0, 0, 0, 0].getD (c / 32) 0).testBit (c % 32)
noncomputable abbrev isSp := Unicode.isSpace
noncomputable def inQuot (c : Nat) : Bool := !(c == 34 || c == 92)
noncomputable def inName (c : Nat) : Bool := !(isEq c || isSp c)
noncomputable def inVal (c : Nat) : Bool := !(isSp c || c == 59 || c == 44)
noncomputable def inJunk (c : Nat) : Bool := c == 61 || isSp c || c == 59
def isEsc (c : Nat) : Bool := c == 34 || c == 92
theorem quotAt (i : Nat) (h0 : cQuot.getD i 0 = 21) (h1 : cQuot.getD (i + 1) 0 = 16) (h2 : cQuot.getD (i + 1 + 1) 0 = 34) (h3 : cQuot.getD (i + 1 + 2) 0 = 16) (h4 : cQuot.getD (i + 1 + 2 + 1) 0 = 92) (h5 : cQuot.getD (i + 1 + 2 + 2) 0 = 0) : SetIs cQuot i inQuot := by
  have h : InS cQuot 72 i true (fun c => if c == 34 then !true else if c == 92 then !true else !!true) := ins_neg h0 (ins_lit h1 h2 (ins_lit h3 h4 (ins_end h5)))
  exact h.eq fun c => by
    show _ = !(c == 34 || c == 92)
    cases c == 34 <;> cases c == 92 <;> rfl
theorem s_quot1 : SetIs cQuot 39 inQuot := quotAt 39 rfl rfl rfl rfl rfl rfl
theorem s_quot2 : SetIs cQuot 59 inQuot := quotAt 59 rfl rfl rfl rfl rfl rfl
theorem s_junk : SetIs cJunk 13 inJunk := by
  have h : InS cJunk 22 13 true (fun c => if c == 61 then true else if isSp c then true else if c == 59 then true else !true) := ins_lit rfl rfl (ins_space rfl rfl (ins_lit rfl rfl (ins_end rfl)))
  exact h.eq fun c => by
    show _ = (c == 61 || isSp c || c == 59)
    cases c == 61 <;> cases isSp c <;> cases c == 59 <;> rfl
theorem s_val : SetIs cVal 37 inVal := by
  have h : InS cVal 49 37 true (fun c => if isSp c then !true else if c == 59 then !true else if c == 44 then !true else !!true) := ins_neg rfl (ins_space rfl rfl (ins_lit rfl rfl (ins_lit rfl rfl (ins_end rfl))))
  exact h.eq fun c => by
    show _ = !(isSp c || c == 59 || c == 44)
    cases c == 59 <;> cases isSp c <;> cases c == 44 <;> rfl
theorem s_sp (code : List Nat) (i n : Nat) (hn : code.length = n + 2) (h0 : code.getD i 0 = 8) (h1 : code.getD (i + 1) 0 = 12) (h2 : code.getD (i + 2) 0 = 0) : SetIs code i isSp := by
  unfold SetIs; rw [hn]
  have h : InS code (n + 2) i true (fun c => if isSp c then true else !true) := ins_space h0 h1 (ins_end h2)
  exact h.eq fun c => by
    show _ = isSp c
    cases isSp c <;> rfl
theorem char_eq (l : List Nat) (code : List Nat) (i c : Nat) (h : ∀ k < 8, code.getD (i + (1 + k)) 0 = l.getD k 0) : (decide (c < 256) && (code.getD (i + (1 + c / 32)) 0).testBit (c % 32)) = (decide (c < 256) && (l.getD (c / 32) 0).testBit (c % 32)) := by
  by_cases q : c < 256
  · rw [h (c / 32) (by omega)]
  · simp [q]
theorem s_name : SetIs cName 25 inName := by
  have h : InS cName 42 25 true (fun c => if (decide (c < 256) && (cName.getD (25 + 1 + (1 + c / 32)) 0).testBit (c % 32)) then !true else if isSp c then !true else !!true) := ins_neg rfl (ins_char rfl (ins_space rfl rfl (ins_end rfl)))
  exact h.eq fun c => by
    rw [char_eq [0, 671092736, 0, 0, 0, 0, 0, 0] cName (25 + 1) c (by decide)]
    show _ = !((decide (c < 256) && ([0, 671092736, 0, 0, 0, 0, 0, 0].getD (c / 32) 0).testBit (c % 32)) || isSp c)
    cases (decide (c < 256) && ([0, 671092736, 0, 0, 0, 0, 0, 0].getD (c / 32) 0).testBit (c % 32)) <;> cases isSp c <;> rfl
theorem s_tok : SetIs cToks 11 isTok := by
  have h : InS cToks 23 11 true (fun c => if (decide (c < 256) && (cToks.getD (11 + (1 + c / 32)) 0).testBit (c % 32)) then true else !true) := ins_char rfl (ins_end rfl)
  exact h.eq fun c => by
    rw [char_eq [0, 67071226, 3355443198, 1476395007, 0, 0, 0, 0] cToks 11 c (by decide)]
    show _ = (decide (c < 256) && ([0, 67071226, 3355443198, 1476395007, 0, 0, 0, 0].getD (c / 32) 0).testBit (c % 32))
    cases (decide (c < 256) && ([0, 67071226, 3355443198, 1476395007, 0, 0, 0, 0].getD (c / 32) 0).testBit (c % 32)) <;> rfl
theorem s_esc (i : Nat) (h0 : cEsc.getD i 0 = 16) (h1 : cEsc.getD (i + 1) 0 = 34) (h2 : cEsc.getD (i + 2) 0 = 16) (h3 : cEsc.getD (i + 2 + 1) 0 = 92) (h4 : cEsc.getD (i + 2 + 2) 0 = 0) : SetIs cEsc i isEsc := by
  have h : InS cEsc 22 i true (fun c => if c == 34 then true else if c == 92 then true else !true) := ins_lit h0 h1 (ins_lit h2 h3 (ins_end h4))
  exact h.eq fun c => by
    show _ = (c == 34 || c == 92)
    cases c == 34 <;> cases c == 92 <;> rfl
theorem s_til (i : Nat) (h0 : cTilde.getD i 0 = 9) (hk : ∀ k < 8, cTilde.getD (i + (1 + k)) 0 = [0, 64, 0, 1342177280, 0, 0, 0, 0].getD k 0) (h4 : cTilde.getD (i + 9) 0 = 0) : SetIs cTilde i isTil := by
  have h : InS cTilde 32 i true (fun c => if (decide (c < 256) && (cTilde.getD (i + (1 + c / 32)) 0).testBit (c % 32)) then true else !true) := ins_char h0 (ins_end h4)
  exact h.eq fun c => by
    rw [char_eq [0, 64, 0, 1342177280, 0, 0, 0, 0] cTilde i c hk]
    show _ = (decide (c < 256) && ([0, 64, 0, 1342177280, 0, 0, 0, 0].getD (c / 32) 0).testBit (c % 32))
    cases (decide (c < 256) && ([0, 64, 0, 1342177280, 0, 0, 0, 0].getD (c / 32) 0).testBit (c % 32)) <;> rfl
/-- signs in a row that f takes -/
def cnt (f : Nat → Bool) (text : Array Nat) : Nat → Nat → Nat
  | 0, _ => 0
  | n + 1, p => if f (text.getD p 0) then cnt f text n (p + 1) + 1 else 0
theorem run_is {code : List Nat} {i : Nat} {f : Nat → Bool} (ho : Sre.ops[code.getD i 0]? = some .IN) (hs : SetIs code (i + 2) f) (text : Array Nat) : ∀ (n p found : Nat) (sn : Sre.Seen), ∃ sn', Sre.run code.toArray text i n p found sn = .ok (found + cnt f text n p, sn')
  | 0, _, _, _ => ⟨_, rfl⟩
  | n + 1, p, found, sn => by
    unfold Sre.run
    have ea : ∃ sn', Sre.accepts code.toArray i (text.getD p 0) sn = .ok (f (text.getD p 0), sn') := by
      unfold Sre.accepts
      simp only [arr, ho, List.size_toArray]
      exact hs _ _
    obtain ⟨s1, e1⟩ := ea
    rw [e1]
    unfold cnt
    cases q : f (text.getD p 0) with
    | true =>
      obtain ⟨s2, e2⟩ := run_is ho hs text n (p + 1) (found + 1) s1
      exact ⟨s2, e2.trans (by rw [if_pos rfl, Nat.add_assoc, Nat.add_comm 1])⟩
    | false => exact ⟨s1, rfl⟩
theorem cnt_seg {f : Nat → Bool} {T : List Nat} : ∀ (seg rest : List Nat) (p : Nat), T.drop p = seg ++ rest → (∀ c ∈ seg, f c = true) → (∀ c r, rest = c :: r → f c = false) → cnt f T.toArray (T.length - p) p = seg.length
  | [], rest, p, e, _, hr => by
    cases rest with
    | nil =>
      have : T.length ≤ p := List.drop_eq_nil_iff.mp (by simpa using e)
      rw [Nat.sub_eq_zero_of_le this]; rfl
    | cons c r =>
      have hp : p < T.length := by
        have := congrArg List.length e
        simp only [List.length_drop, List.nil_append, List.length_cons] at this
        omega
      have hc : T.toArray.getD p 0 = c := by
        have : T[p]? = some c := by
          have := congrArg List.head? e
          simpa [List.head?_drop] using this
        simp [this]
      obtain ⟨n, hn⟩ : ∃ n, T.length - p = n + 1 := ⟨T.length - p - 1, by omega⟩
      rw [hn]; unfold cnt
      rw [hc, hr c r rfl]; rfl
  | c :: seg, rest, p, e, hs, hr => by
    have hp : p < T.length := by
      have := congrArg List.length e
      simp only [List.length_drop, List.cons_append, List.length_cons] at this
      omega
    have hc : T.toArray.getD p 0 = c := by
      have : T[p]? = some c := by
        have := congrArg List.head? e
        simpa [List.head?_drop] using this
      simp [this]
    have e' : T.drop (p + 1) = seg ++ rest := by
      rw [← List.tail_drop, e]; rfl
    have ih := cnt_seg seg rest (p + 1) e' (fun x hx => hs x (.tail _ hx)) hr
    obtain ⟨n, hn⟩ : ∃ n, T.length - p = n + 1 := ⟨T.length - p - 1, by omega⟩
    rw [hn]; unfold cnt
    rw [hc, hs c (.head _), if_pos rfl, show n = T.length - (p + 1) by omega, ih]; rfl
end Mine
end
section
theorem Mine.off_MI : True := by (w_top off; trivial)
open PySem
set_option Elab.async false
set_option maxRecDepth 100000
namespace Mine
open PySem.Sre (M Loop Wait Op)
/-- registers at the start of a run -/
noncomputable abbrev rg0 (groups pc pos : Nat) : Rg := { start := pos, pc := pc, pos := pos, handed := pos, outer := true, marks := Array.replicate (2 * groups) none, lastmark := -1, lastindex := -1, loops := #[], inner := none, frames := [], weight := 0 }
/-- the machine ends in b, with these registers -/
noncomputable def EndsIn (m : M) (b : Bool) (start handed : Nat) (marks : Array (Option Nat)) (lastmark lastindex : Int) : Prop :=
  ∃ r k, Ends m r k ∧ k < 2 ^ 65 ∧ r.outcome = some (if b then .matched else .failed) ∧ r.start = start ∧ r.handed = handed ∧ r.marks = marks ∧ r.lastmark = lastmark ∧ r.lastindex = lastindex
theorem Go.fin {c : Cx} {r r' : Rg} {a : Option Bool} {b : Bool} {k : Nat} (h : Go c r a r' (some b) k) (hk : k < 2 ^ 64) (hf : r'.frames = []) (sn : Sre.Seen) : EndsIn (c.m r a sn) b r'.start r'.handed r'.marks r'.lastmark r'.lastindex := by
  obtain ⟨m, e, ho, h1, h2, h3, h4, h5⟩ := h.ends hf sn
  exact ⟨m, k + 1, e, by omega, ho, h1, h2, h3, h4, h5⟩
/-- the machine fails -/
noncomputable def Fails (m : M) : Prop := ∃ r k, Ends m r k ∧ k < 2 ^ 65 ∧ r.outcome = some .failed
theorem Go.fails {c : Cx} {r r' : Rg} {a : Option Bool} {k : Nat} (h : Go c r a r' (some false) k) (hk : k < 2 ^ 64) (hf : r'.frames = []) (sn : Sre.Seen) : Fails (c.m r a sn) := by
  obtain ⟨m, e, ho, _⟩ := h.ends hf sn
  exact ⟨m, k + 1, e, by omega, ho⟩
section tok
/-- the registers of the full match behind the run of n signs -/
noncomputable abbrev tokR (n : Nat) (k : Int) : Rg := { start := 0, pc := 22, pos := n, handed := n, outer := true, marks := #[], lastmark := -1, lastindex := -1, loops := #[], inner := none, frames := [{ wait := .giveBack, pc := 5, pos := n, outermost := true, count := k, kept := { lastmark := -1, lastindex := -1, whole := false, marks := #[] } }], weight := 1 }
noncomputable abbrev tokC (T : List Nat) : Cx := { code := cToks.toArray, text := T.toArray, lim := T.length, lastStart := 0, whole := true }
theorem tok_back {T : List Nat} : ∀ (n : Nat) (k : Int), k = n + 1 → n + 1 ≠ T.length → n < T.length → ∃ r' j, Go (tokC T) (tokR (n + 1) k) none r' (some false) j ∧ j ≤ 2 * (n + 1) ∧ r'.frames = []
  | 0, k, hk, hne, _ => by
    have g1 : Go (tokC T) (tokR 1 k) none (tokR 1 k) (some false) 1 := go_succ_no (by show 22 < 23; decide) rfl rfl rfl hne
    have g2 := go_back_end (c := tokC T) (r := tokR 1 k) rfl rfl (by show k - 1 < ((1 : Nat) : Int); omega)
    exact ⟨_, _, g1.trans g2, by omega, rfl⟩
  | n + 1, k, hk, hne, hlt => by
    have g1 : Go (tokC T) (tokR (n + 2) k) none (tokR (n + 2) k) (some false) 1 := go_succ_no (by show 22 < 23; decide) rfl rfl rfl hne
    have g2 : Go (tokC T) (tokR (n + 2) k) (some false) (tokR (n + 1) (k - 1)) none 1 := go_back_more (c := tokC T) (r := tokR (n + 2) k) rfl rfl (by show ¬ k - 1 < ((1 : Nat) : Int); omega) (by show 1 - (1 + 0) + 1 + 0 ≤ 16777216; decide)
    obtain ⟨r', j, g3, hj, hf'⟩ := tok_back (T := T) n (k - 1) (by omega) (by omega) (by omega)
    exact ⟨r', _, (g1.trans g2).trans g3, by omega, hf'⟩
theorem tw_all {f : Nat → Bool} : ∀ T : List Nat, T.all f = true → T.takeWhile f = T
  | [], _ => rfl
  | x :: t, h => by
    rw [List.all_cons, Bool.and_eq_true] at h
    rw [List.takeWhile_cons, if_pos h.1, tw_all t h.2]
theorem cnt_all {f : Nat → Bool} : ∀ (T : List Nat) (p : Nat) (U : List Nat), U.drop p = T → cnt f U.toArray (U.length - p) p = (T.takeWhile f).length := by
  intro T p U e
  have h := cnt_seg (f := f) (T := U) (T.takeWhile f) (T.dropWhile f) p (by rw [e, List.takeWhile_append_dropWhile]) (fun c hc => by
    have := List.all_takeWhile (p := f) (l := T)
    exact List.all_eq_true.mp this c hc) (fun c r hr => by
    have := List.head?_dropWhile_not f T
    rw [hr] at this
    simpa using this)
  exact h
/-- the full match of the set of tokens -/
theorem tok_full (T : List Nat) (hl : T.length < 2 ^ 31) : ∃ r k, Ends (Sre.forMatch cToks.toArray T.toArray 0 0 T.length true false) r k ∧ k < 2 ^ 65 ∧ r.outcome = some (if (!T.isEmpty && T.all isTok) then .matched else .failed) := by
  cases T with
  | nil =>
    have e : Sre.forMatch cToks.toArray ([] : List Nat).toArray 0 0 ([] : List Nat).length true false = (tokC []).m (rg0 0 5 0) (some false) (({} : Sre.Seen).add 14) := rfl
    rw [e]
    obtain ⟨m, he, ho, _⟩ := (Go.refl (c := tokC []) (r := rg0 0 5 0) (a := some false)).ends rfl (({} : Sre.Seen).add 14)
    exact ⟨m, _, he, by decide, ho⟩
  | cons x t =>
    have hb : ((Sre.header cToks.toArray).1 != 0 && decide (0 ≤ (x :: t).length) && decide ((x :: t).length - 0 < (Sre.header cToks.toArray).1)) = false := by
      show (true && decide _ && decide (_ < 1)) = false
      simp
    have e : Sre.forMatch cToks.toArray (x :: t).toArray 0 0 (x :: t).length true false = (tokC (x :: t)).m (rg0 0 5 0) none (({} : Sre.Seen).add 14) := by
      unfold Sre.forMatch
      dsimp only
      rw [hb, if_neg Bool.false_ne_true]
      rfl
    rw [e]
    generalize hT : x :: t = T at *
    have hn0 : 0 < T.length := by rw [← hT]; simp
    have hc : cnt isTok T.toArray T.length 0 = (T.takeWhile isTok).length := cnt_all T 0 T (by simp)
    have hle : (T.takeWhile isTok).length ≤ T.length := (List.takeWhile_sublist _).length_le
    have hall : (T.takeWhile isTok).length = T.length ↔ T.all isTok = true := by
      constructor
      · intro h
        have : T.takeWhile isTok = T := List.takeWhile_prefix isTok |>.eq_of_length h
        have h2 := List.all_takeWhile (p := isTok) (l := T)
        rw [this] at h2; exact h2
      · intro h
        rw [tw_all T h]
    have hemp : T.isEmpty = false := by rw [← hT]; rfl
    rw [hemp]
    have hmin : min 4294967295 (T.length - 0) = T.length := by omega
    have hrun : ∀ sn, ∃ sn', Sre.run cToks.toArray T.toArray 9 (min 4294967295 (T.length - 0)) 0 0 sn = .ok ((T.takeWhile isTok).length, sn') := fun sn => by
      obtain ⟨sn', e⟩ := run_is (code := cToks) (i := 9) rfl s_tok T.toArray (min 4294967295 (T.length - 0)) 0 0 sn
      rw [hmin] at e ⊢
      exact ⟨sn', by rw [e, hc, Nat.zero_add]⟩
    by_cases h0 : (T.takeWhile isTok).length = 0
    · have g : Go (tokC T) (rg0 0 5 0) none (rg0 0 5 0) (some false) 1 := go_rep_no (n := (T.takeWhile isTok).length) (lo := 1) (hi := 4294967295) (by show 5 < 23; decide) rfl rfl rfl (by show 0 ≤ T.length; omega) (fun _ => hrun) (by omega)
      obtain ⟨m, he, ho, _⟩ := g.ends rfl (({} : Sre.Seen).add 14)
      refine ⟨m, _, he, by omega, ?_⟩
      have : T.all isTok = false := by
        cases q : T.all isTok with
        | false => rfl
        | true => have := hall.mpr q; omega
      rw [ho, this]; rfl
    · obtain ⟨n, hn⟩ : ∃ n, (T.takeWhile isTok).length = n + 1 := ⟨(T.takeWhile isTok).length - 1, by omega⟩
      rw [hn] at hrun
      have g : Go (tokC T) (rg0 0 5 0) none (tokR (n + 1) ((n + 1 : Nat) : Int)) none 1 := by
        have g0 := go_rep_yes (c := tokC T) (r := rg0 0 5 0) (n := n + 1) (lo := 1) (hi := 4294967295) (by show 5 < 23; decide) rfl rfl rfl (by show 0 + 1 ≤ T.length; omega) hrun (by omega) (by show 0 + 1 + 0 ≤ 16777216; decide)
        simpa [gbFrame, kept, tokR, rg0] using g0
      by_cases hq : n + 1 = T.length
      · have g2 : Go (tokC T) (tokR (n + 1) ((n + 1 : Nat) : Int)) none (tokR (n + 1) ((n + 1 : Nat) : Int)) (some true) 1 := go_succ (by show 22 < 23; decide) rfl (fun _ _ => hq)
        have g3 := go_back_yes (c := tokC T) (r := tokR (n + 1) ((n + 1 : Nat) : Int)) rfl rfl
        obtain ⟨m, he, ho, _⟩ := ((g.trans g2).trans g3).ends rfl (({} : Sre.Seen).add 14)
        refine ⟨m, _, he, by omega, ?_⟩
        rw [hall.mp (by omega)]
        exact ho
      · obtain ⟨r', j, g2, hj, hf⟩ := tok_back (T := T) n ((n + 1 : Nat) : Int) (by omega) hq (by omega)
        obtain ⟨m, he, ho, _⟩ := (g.trans g2).ends hf (({} : Sre.Seen).add 14)
        refine ⟨m, _, he, by omega, ?_⟩
        have : T.all isTok = false := by
          cases q : T.all isTok with
          | false => rfl
          | true => have := hall.mpr q; omega
        rw [ho, this]; rfl
end tok
end Mine
end
section
theorem Mine.off_MJ : True := by (w_top off; trivial)
open PySem
set_option Elab.async false
set_option maxRecDepth 100000
namespace Mine
open PySem.Sre (M Loop Wait Op)
theorem run_seg {code : List Nat} {i : Nat} {f : Nat → Bool} (ho : Sre.ops[code.getD i 0]? = some .IN) (hs : SetIs code (i + 2) f) {T seg rest : List Nat} {p : Nat} (e : T.drop p = seg ++ rest) (h1 : ∀ c ∈ seg, f c = true) (h2 : ∀ c r, rest = c :: r → f c = false) (hl : T.length < 2 ^ 31) :
    ∀ sn, ∃ sn', Sre.run code.toArray T.toArray i (min 4294967295 (T.length - p)) p 0 sn = .ok (seg.length, sn') := fun sn => by
  obtain ⟨sn', e'⟩ := run_is ho hs T.toArray (min 4294967295 (T.length - p)) p 0 sn
  rw [show min 4294967295 (T.length - p) = T.length - p by omega] at e' ⊢
  exact ⟨sn', by rw [e', cnt_seg seg rest p e h1 h2, Nat.zero_add]⟩
theorem at_drop {T rest : List Nat} {p x : Nat} (e : T.drop p = x :: rest) : p < T.length ∧ T.toArray.getD p 0 = x ∧ T.drop (p + 1) = rest := by
  have hp : p < T.length := by
    have := congrArg List.length e
    simp only [List.length_drop, List.length_cons] at this
    omega
  refine ⟨hp, ?_, ?_⟩
  · have : T[p]? = some x := by
      have := congrArg List.head? e
      simpa [List.head?_drop] using this
    simp [this]
  · rw [← List.tail_drop, e]; rfl
theorem drop_app {T a b : List Nat} {p : Nat} (e : T.drop p = a ++ b) : T.drop (p + a.length) = b := by
  rw [← List.drop_drop, e, List.drop_left]
/-- the context of a search -/
noncomputable abbrev sC (code : List Nat) (T : List Nat) (last : Nat) : Cx := { code := code.toArray, text := T.toArray, lim := T.length, lastStart := last, whole := false }
/-- an anchored pattern fails from s on when it failed at s -/
theorem anch_fail {code T : List Nat} {last pc : Nat} (hpc : pc < code.length) (ho : Sre.ops[code.getD pc 0]? = some .AT) (hi : code.getD (pc + 1) 0 = 0) (hfs : code.getD 2 0 ≠ 4) : ∀ (d s : Nat) (o : Bool) (r : Rg), r.frames = [nsFrame pc s o] → r.weight = 1 → last ≤ s + d →
    ∃ r' k, Go (sC code T last) r (some false) r' (some false) k ∧ k ≤ 2 * d + 1 ∧ r'.frames = []
  | 0, s, o, r, hf, hw, hl => ⟨_, _, go_next_end hf rfl (by show last ≤ s; omega), by omega, rfl⟩
  | d + 1, s, o, r, hf, hw, hl => by
    by_cases hd : last ≤ s
    · exact ⟨_, _, go_next_end hf rfl (by show last ≤ s; omega), by omega, rfl⟩
    · have g1 := go_next_no (c := sC code T last) hf rfl rfl (by show s < last; omega) (by omega) (by omega) (fun _ => by rw [arr]; exact hfs)
      have g2 := g1.trans (go_at_no (by show pc < code.toArray.size; simpa using hpc) (by show Sre.ops[code.toArray.getD pc 0]? = _; rw [arr]; exact ho) (by show code.toArray.getD (pc + 1) 0 = 0; rw [arr]; exact hi) (by show s + 1 ≠ 0; omega))
      obtain ⟨r', k, g3, hk, hf'⟩ := anch_fail (code := code) (T := T) (last := last) hpc ho hi hfs d (s + 1) false (atStart { r with frames := [], weight := r.weight - 1, pc := pc, pos := s, outer := o } (s + 1) false) rfl (by show r.weight - 1 + 1 = 1; omega) (by omega)
      exact ⟨r', _, g2.trans g3, by omega, hf'⟩
theorem anch_fails {code T : List Nat} {last pc : Nat} {o : Bool} {r : Rg} {a : Option Bool} {r1 : Rg} {k1 : Nat} (hpc : pc < code.length) (ho : Sre.ops[code.getD pc 0]? = some .AT) (hi : code.getD (pc + 1) 0 = 0) (hfs : code.getD 2 0 ≠ 4) (hl : last < 2 ^ 31)
    (g : Go (sC code T last) r a r1 (some false) k1) (hk : k1 < 2 ^ 40) {s : Nat} (hf : r1.frames = [nsFrame pc s o]) (hw : r1.weight = 1) (sn : Sre.Seen) : Fails ((sC code T last).m r a sn) := by
  obtain ⟨r', k, g3, hk', hf'⟩ := anch_fail (T := T) (last := last) hpc ho hi hfs last s o r1 hf hw (by omega)
  exact (g.trans g3).fails (by omega) hf' sn
theorem search_at {code T : List Nat} {groups pos least pc last : Nat} (hh : Sre.header code.toArray = (least, pc)) (hfs : code.getD 2 0 ≠ 4) (hp : pos ≤ T.length) (hl : least ≤ T.length - pos)
    (hlast : (if (decide (least > 1) && !(pc != 0 && code.getD 2 0 &&& 5 != 0)) = true then max pos (T.length - (least - 1)) else T.length) = last) :
    ∃ sn, Sre.forSearch code.toArray T.toArray groups pos T.length false = (sC code T last).m (atStart (rg0 groups pc pos) pos true) none sn := by
  have hm : ∀ m : M, m.code = code.toArray → m.hasFirstSet = false := by
    intro m hm
    unfold M.hasFirstSet
    rw [hm, arr code 2]
    have : (code.getD 2 0 == 4) = false := by simpa using hfs
    rw [this, Bool.and_false]
  obtain ⟨rfl, rfl⟩ : (Sre.header code.toArray).1 = least ∧ (Sre.header code.toArray).2 = pc := by rw [hh]; exact ⟨rfl, rfl⟩
  subst hlast
  unfold Sre.forSearch
  dsimp only
  rw [if_neg (by simp; omega)]
  unfold M.attemptFrom
  rw [hm _ (by rfl), if_pos (by rfl)]
  rw [← arr code 2]
  exact ⟨_, rfl⟩
/-- too short for the pattern -/
theorem search_short {code T : List Nat} {groups pos least pc : Nat} (hh : Sre.header code.toArray = (least, pc)) (hl : T.length < pos ∨ T.length - pos < least) : Fails (Sre.forSearch code.toArray T.toArray groups pos T.length false) := by
  obtain ⟨rfl, rfl⟩ : (Sre.header code.toArray).1 = least ∧ (Sre.header code.toArray).2 = pc := by rw [hh]; exact ⟨rfl, rfl⟩
  have e : ∃ sn, Sre.forSearch code.toArray T.toArray groups pos T.length false = (sC code T 0).m (rg0 groups (Sre.header code.toArray).2 pos) (some false) sn := by
    unfold Sre.forSearch
    dsimp only
    rw [if_pos (by simp; omega)]
    exact ⟨_, rfl⟩
  obtain ⟨sn, e⟩ := e
  rw [e]
  exact Go.refl.fails (by decide) rfl sn
/-- registers of a search that began at 0 -/
noncomputable abbrev st1 (pc pos handed : Nat) (marks : Array (Option Nat)) (lm li : Int) (frames : List Sre.Frame) (weight : Nat) : Rg := { start := 0, pc := pc, pos := pos, handed := handed, outer := true, marks := marks, lastmark := lm, lastindex := li, loops := #[], inner := none, frames := frames, weight := weight }
noncomputable abbrev k0 (lm li : Int) : Sre.Kept := { lastmark := lm, lastindex := li, whole := false, marks := #[] }
/-- the name's search: blanks, then a name -/
theorem name_yes {T sp nm rest : List Nat} (hT : T = sp ++ nm ++ rest) (hsp : ∀ c ∈ sp, isSp c = true) (hnm : ∀ c ∈ nm, inName c = true) (hne : nm ≠ []) (hns : ∀ c r, nm = c :: r → isSp c = false) (hr : ∀ c r, rest = c :: r → inName c = false) (hl : T.length < 2 ^ 30) :
    EndsIn (Sre.forSearch cName.toArray T.toArray 1 0 T.length false) true 0 (sp.length + nm.length) #[some sp.length, some (sp.length + nm.length)] 1 1 := by
  have hlen : T.length = sp.length + nm.length + rest.length := by rw [hT]; simp [Nat.add_assoc]
  have hnl : 1 ≤ nm.length := by cases nm with | nil => exact absurd rfl hne | cons _ _ => simp
  obtain ⟨sn, e⟩ := search_at (code := cName) (T := T) (groups := 1) (pos := 0) (least := 1) (pc := 5) (last := T.length) rfl (by decide) (by omega) (by omega) rfl
  rw [e]
  have d0 : T.drop 0 = sp ++ (nm ++ rest) := by rw [List.drop_zero, hT, List.append_assoc]
  have d1 : T.drop (0 + sp.length) = nm ++ rest := drop_app d0
  have hr0 : ∀ c r, nm ++ rest = c :: r → isSp c = false := fun c r h => by
    cases nm with
    | nil => exact absurd rfl hne
    | cons x t => cases h; exact hns _ _ rfl
  let f0 := nsFrame 5 0 true
  let f1 : Sre.Frame := { wait := .giveBack, pc := 7, pos := 0 + sp.length, outermost := true, count := sp.length, kept := k0 (-1) (-1) }
  let f2 : Sre.Frame := { wait := .giveBack, pc := 19, pos := 0 + sp.length + nm.length, outermost := true, count := nm.length, kept := k0 0 (-1) }
  let m1 : Array (Option Nat) := #[some (0 + sp.length), none]
  let m2 : Array (Option Nat) := #[some (0 + sp.length), some (0 + sp.length + nm.length)]
  let e1 := 0 + sp.length
  let e2 := 0 + sp.length + nm.length
  have g1 : Go (sC cName T T.length) (st1 5 0 0 #[none, none] (-1) (-1) [f0] 1) none (st1 7 0 0 #[none, none] (-1) (-1) [f0] 1) none 1 := go_at_yes (by show 5 < 42; decide) rfl rfl rfl
  have g2 : Go (sC cName T T.length) (st1 7 0 0 #[none, none] (-1) (-1) [f0] 1) none (st1 17 e1 e1 #[none, none] (-1) (-1) [f1, f0] 2) none 1 :=
    go_rep_yes (n := sp.length) (lo := 0) (hi := 4294967295) (by show 7 < 42; decide) rfl rfl rfl (by show 0 + 0 ≤ T.length; omega) (run_seg (code := cName) (i := 11) rfl (s_sp cName 13 40 rfl rfl rfl rfl) d0 hsp hr0 (by omega)) (by omega) (by show 1 + 1 + 0 ≤ 16777216; decide)
  have g3 : Go (sC cName T T.length) (st1 17 e1 e1 #[none, none] (-1) (-1) [f1, f0] 2) none (st1 19 e1 e1 m1 0 (-1) [f1, f0] 2) none 1 :=
    go_mark (i := 0) (by show 17 < 42; decide) rfl rfl (by show ((0 : Nat) : Int) ≤ -1 + 1; decide)
  have g4 : Go (sC cName T T.length) (st1 19 e1 e1 m1 0 (-1) [f1, f0] 2) none (st1 39 e2 e2 m1 0 (-1) [f2, f1, f0] 3) none 1 :=
    go_rep_yes (n := nm.length) (lo := 1) (hi := 4294967295) (by show 19 < 42; decide) rfl rfl rfl (by show 0 + sp.length + 1 ≤ T.length; omega) (run_seg (code := cName) (i := 23) rfl s_name d1 hnm hr (by omega)) hnl (by show 2 + 1 + 0 ≤ 16777216; decide)
  have g5 : Go (sC cName T T.length) (st1 39 e2 e2 m1 0 (-1) [f2, f1, f0] 3) none (st1 41 e2 e2 m2 1 1 [f2, f1, f0] 3) none 1 :=
    go_mark (i := 1) (by show 39 < 42; decide) rfl rfl (by show ((1 : Nat) : Int) ≤ 0 + 1; decide)
  have g6 : Go (sC cName T T.length) (st1 41 e2 e2 m2 1 1 [f2, f1, f0] 3) none (st1 41 e2 e2 m2 1 1 [f2, f1, f0] 3) (some true) 1 :=
    go_succ (by show 41 < 42; decide) rfl (by intro _ h; cases h)
  have g7 : Go (sC cName T T.length) (st1 41 e2 e2 m2 1 1 [f2, f1, f0] 3) (some true) (st1 19 e2 e2 m2 1 1 [f1, f0] 2) (some true) 1 := go_back_yes (f := f2) (fs := [f1, f0]) rfl rfl
  have g8 : Go (sC cName T T.length) (st1 19 e2 e2 m2 1 1 [f1, f0] 2) (some true) (st1 7 e1 e2 m2 1 1 [f0] 1) (some true) 1 := go_back_yes (f := f1) (fs := [f0]) rfl rfl
  have g9 : Go (sC cName T T.length) (st1 7 e1 e2 m2 1 1 [f0] 1) (some true) (st1 5 0 e2 m2 1 1 [] 0) (some true) 1 := go_next_yes (f := f0) (fs := []) rfl rfl
  have F : EndsIn ((sC cName T T.length).m (atStart (rg0 1 5 0) 0 true) none sn) true 0 (0 + sp.length + nm.length) #[some (0 + sp.length), some (0 + sp.length + nm.length)] 1 1 :=
    ((((((((g1.trans g2).trans g3).trans g4).trans g5).trans g6).trans g7).trans g8).trans g9).fin (by omega) rfl sn
  rw [Nat.zero_add] at F
  exact F
/-- the name's search at a sign that is no name's: ; or , -/
theorem name_no {T rest : List Nat} {x : Nat} (hT : T = x :: rest) (h1 : isSp x = false) (h2 : inName x = false) (hl : T.length < 2 ^ 30) : Fails (Sre.forSearch cName.toArray T.toArray 1 0 T.length false) := by
  have hlen : T.length = rest.length + 1 := by rw [hT]; rfl
  obtain ⟨sn, e⟩ := search_at (code := cName) (T := T) (groups := 1) (pos := 0) (least := 1) (pc := 5) (last := T.length) rfl (by decide) (by omega) (by omega) rfl
  rw [e]
  have d0 : T.drop 0 = [] ++ (x :: rest) := by rw [List.drop_zero, hT]; rfl
  let f0 := nsFrame 5 0 true
  let f1 : Sre.Frame := { wait := .giveBack, pc := 7, pos := 0 + 0, outermost := true, count := (0 : Nat), kept := k0 (-1) (-1) }
  let m1 : Array (Option Nat) := #[some (0 + 0), none]
  have g1 : Go (sC cName T T.length) (st1 5 0 0 #[none, none] (-1) (-1) [f0] 1) none (st1 7 0 0 #[none, none] (-1) (-1) [f0] 1) none 1 := go_at_yes (by show 5 < 42; decide) rfl rfl rfl
  have g2 : Go (sC cName T T.length) (st1 7 0 0 #[none, none] (-1) (-1) [f0] 1) none (st1 17 (0 + 0) (0 + 0) #[none, none] (-1) (-1) [f1, f0] 2) none 1 :=
    go_rep_yes (n := 0) (lo := 0) (hi := 4294967295) (by show 7 < 42; decide) rfl rfl rfl (by show 0 + 0 ≤ T.length; omega) (run_seg (code := cName) (i := 11) (seg := []) rfl (s_sp cName 13 40 rfl rfl rfl rfl) d0 (by intro c hc; cases hc) (by intro c r h; cases h; exact h1) (by omega)) (by omega) (by show 1 + 1 + 0 ≤ 16777216; decide)
  have g3 : Go (sC cName T T.length) (st1 17 (0 + 0) (0 + 0) #[none, none] (-1) (-1) [f1, f0] 2) none (st1 19 (0 + 0) (0 + 0) m1 0 (-1) [f1, f0] 2) none 1 :=
    go_mark (i := 0) (by show 17 < 42; decide) rfl rfl (by show ((0 : Nat) : Int) ≤ -1 + 1; decide)
  have g4 : Go (sC cName T T.length) (st1 19 (0 + 0) (0 + 0) m1 0 (-1) [f1, f0] 2) none (st1 19 (0 + 0) (0 + 0) m1 0 (-1) [f1, f0] 2) (some false) 1 :=
    go_rep_no (n := 0) (lo := 1) (hi := 4294967295) (by show 19 < 42; decide) rfl rfl rfl (by show 0 + 0 ≤ T.length; omega) (fun _ => run_seg (code := cName) (i := 23) (seg := []) rfl s_name (by show T.drop (0 + 0) = [] ++ (x :: rest); exact d0) (by intro c hc; cases hc) (by intro c r h; cases h; exact h2) (by omega)) (by decide)
  have g5 := go_back_end (c := sC cName T T.length) (r := st1 19 (0 + 0) (0 + 0) m1 0 (-1) [f1, f0] 2) (f := f1) (fs := [f0]) rfl rfl (by show ((0 : Nat) : Int) - 1 < ((0 : Nat) : Int); decide)
  exact anch_fails (code := cName) (pc := 5) (by decide) rfl rfl (by decide) (by omega) ((((g1.trans g2).trans g3).trans g4).trans g5) (by decide) (s := 0) (o := true) rfl rfl sn
/-- the value's search: = and a bare value -/
theorem val_yes {T v rest : List Nat} (hT : T = 61 :: (v ++ rest)) (hv : ∀ c ∈ v, inVal c = true) (hns : ∀ c r, v ++ rest = c :: r → isSp c = false) (hr : ∀ c r, rest = c :: r → inVal c = false) (hl : T.length < 2 ^ 30) :
    EndsIn (Sre.forSearch cVal.toArray T.toArray 1 0 T.length false) true 0 (1 + v.length) #[some 1, some (1 + v.length)] 1 1 := by
  have hlen : T.length = v.length + rest.length + 1 := by rw [hT]; simp
  obtain ⟨sn, e⟩ := search_at (code := cVal) (T := T) (groups := 1) (pos := 0) (least := 1) (pc := 5) (last := T.length) rfl (by decide) (by omega) (by omega) rfl
  rw [e]
  have d0 : T.drop 0 = [] ++ (61 :: (v ++ rest)) := by rw [List.drop_zero, hT]; rfl
  have d1 : T.drop (0 + 0 + 1) = [] ++ (v ++ rest) := by rw [hT]; rfl
  have a0 := at_drop (T := T) (p := 0 + 0) (x := 61) (rest := v ++ rest) d0
  let f0 := nsFrame 5 0 true
  let f1 : Sre.Frame := { wait := .giveBack, pc := 7, pos := 0 + 0, outermost := true, count := (0 : Nat), kept := k0 (-1) (-1) }
  let f2 : Sre.Frame := { wait := .giveBack, pc := 19, pos := 0 + 0 + 1 + 0, outermost := true, count := (0 : Nat), kept := k0 (-1) (-1) }
  let f3 : Sre.Frame := { wait := .giveBack, pc := 31, pos := 0 + 0 + 1 + 0 + v.length, outermost := true, count := v.length, kept := k0 0 (-1) }
  let m0 : Array (Option Nat) := #[none, none]
  let m1 : Array (Option Nat) := #[some (0 + 0 + 1 + 0), none]
  let e3 := 0 + 0 + 1 + 0 + v.length
  let m2 : Array (Option Nat) := #[some (0 + 0 + 1 + 0), some e3]
  let c := sC cVal T T.length
  have g1 : Go c (st1 5 0 0 m0 (-1) (-1) [f0] 1) none (st1 7 0 0 m0 (-1) (-1) [f0] 1) none 1 := go_at_yes (by show 5 < 49; decide) rfl rfl rfl
  have g2 : Go c (st1 7 0 0 m0 (-1) (-1) [f0] 1) none (st1 17 (0 + 0) (0 + 0) m0 (-1) (-1) [f1, f0] 2) none 1 :=
    go_rep_yes (n := 0) (lo := 0) (hi := 4294967295) (by show 7 < 49; decide) rfl rfl rfl (by show 0 + 0 ≤ T.length; omega) (run_seg (code := cVal) (i := 11) (seg := []) rfl (s_sp cVal 13 47 rfl rfl rfl rfl) d0 (by intro c hc; cases hc) (by intro c r h; cases h; decide +kernel) (by omega)) (by omega) (by show 1 + 1 + 0 ≤ 16777216; decide)
  have g3 : Go c (st1 17 (0 + 0) (0 + 0) m0 (-1) (-1) [f1, f0] 2) none (st1 19 (0 + 0 + 1) (0 + 0) m0 (-1) (-1) [f1, f0] 2) none 1 :=
    go_lit_yes (x := 61) (by show 17 < 49; decide) rfl rfl a0.1 a0.2.1
  have g4 : Go c (st1 19 (0 + 0 + 1) (0 + 0) m0 (-1) (-1) [f1, f0] 2) none (st1 29 (0 + 0 + 1 + 0) (0 + 0 + 1 + 0) m0 (-1) (-1) [f2, f1, f0] 3) none 1 :=
    go_rep_yes (n := 0) (lo := 0) (hi := 4294967295) (by show 19 < 49; decide) rfl rfl rfl (by show 0 + 0 + 1 + 0 ≤ T.length; omega) (run_seg (code := cVal) (i := 23) (seg := []) rfl (s_sp cVal 25 47 rfl rfl rfl rfl) d1 (by intro c hc; cases hc) hns (by omega)) (by omega) (by show 2 + 1 + 0 ≤ 16777216; decide)
  have g5 : Go c (st1 29 (0 + 0 + 1 + 0) (0 + 0 + 1 + 0) m0 (-1) (-1) [f2, f1, f0] 3) none (st1 31 (0 + 0 + 1 + 0) (0 + 0 + 1 + 0) m1 0 (-1) [f2, f1, f0] 3) none 1 :=
    go_mark (i := 0) (by show 29 < 49; decide) rfl rfl (by show ((0 : Nat) : Int) ≤ -1 + 1; decide)
  have g6 : Go c (st1 31 (0 + 0 + 1 + 0) (0 + 0 + 1 + 0) m1 0 (-1) [f2, f1, f0] 3) none (st1 46 e3 e3 m1 0 (-1) [f3, f2, f1, f0] 4) none 1 :=
    go_rep_yes (n := v.length) (lo := 0) (hi := 4294967295) (by show 31 < 49; decide) rfl rfl rfl (by show 0 + 0 + 1 + 0 + 0 ≤ T.length; omega) (run_seg (code := cVal) (i := 35) rfl s_val d1 hv hr (by omega)) (by omega) (by show 3 + 1 + 0 ≤ 16777216; decide)
  have g7 : Go c (st1 46 e3 e3 m1 0 (-1) [f3, f2, f1, f0] 4) none (st1 48 e3 e3 m2 1 1 [f3, f2, f1, f0] 4) none 1 :=
    go_mark (i := 1) (by show 46 < 49; decide) rfl rfl (by show ((1 : Nat) : Int) ≤ 0 + 1; decide)
  have g8 : Go c (st1 48 e3 e3 m2 1 1 [f3, f2, f1, f0] 4) none (st1 48 e3 e3 m2 1 1 [f3, f2, f1, f0] 4) (some true) 1 :=
    go_succ (by show 48 < 49; decide) rfl (by intro _ h; cases h)
  have g9 : Go c (st1 48 e3 e3 m2 1 1 [f3, f2, f1, f0] 4) (some true) (st1 31 e3 e3 m2 1 1 [f2, f1, f0] 3) (some true) 1 := go_back_yes (f := f3) (fs := [f2, f1, f0]) rfl rfl
  have g10 : Go c (st1 31 e3 e3 m2 1 1 [f2, f1, f0] 3) (some true) (st1 19 (0 + 0 + 1 + 0) e3 m2 1 1 [f1, f0] 2) (some true) 1 := go_back_yes (f := f2) (fs := [f1, f0]) rfl rfl
  have g11 : Go c (st1 19 (0 + 0 + 1 + 0) e3 m2 1 1 [f1, f0] 2) (some true) (st1 7 (0 + 0) e3 m2 1 1 [f0] 1) (some true) 1 := go_back_yes (f := f1) (fs := [f0]) rfl rfl
  have g12 : Go c (st1 7 (0 + 0) e3 m2 1 1 [f0] 1) (some true) (st1 5 0 e3 m2 1 1 [] 0) (some true) 1 := go_next_yes (f := f0) (fs := []) rfl rfl
  exact (((((((((((g1.trans g2).trans g3).trans g4).trans g5).trans g6).trans g7).trans g8).trans g9).trans g10).trans g11).trans g12).fin (by omega) rfl sn
/-- the value's search at a sign that is no blank and no = -/
theorem val_no {T rest : List Nat} {x : Nat} (hT : T = x :: rest) (h1 : isSp x = false) (h2 : x ≠ 61) (hl : T.length < 2 ^ 30) : Fails (Sre.forSearch cVal.toArray T.toArray 1 0 T.length false) := by
  have hlen : T.length = rest.length + 1 := by rw [hT]; rfl
  obtain ⟨sn, e⟩ := search_at (code := cVal) (T := T) (groups := 1) (pos := 0) (least := 1) (pc := 5) (last := T.length) rfl (by decide) (by omega) (by omega) rfl
  rw [e]
  have d0 : T.drop 0 = [] ++ (x :: rest) := by rw [List.drop_zero, hT]; rfl
  have a0 := at_drop (T := T) (p := 0 + 0) (x := x) (rest := rest) d0
  let f0 := nsFrame 5 0 true
  let f1 : Sre.Frame := { wait := .giveBack, pc := 7, pos := 0 + 0, outermost := true, count := (0 : Nat), kept := k0 (-1) (-1) }
  let m0 : Array (Option Nat) := #[none, none]
  let c := sC cVal T T.length
  have g1 : Go c (st1 5 0 0 m0 (-1) (-1) [f0] 1) none (st1 7 0 0 m0 (-1) (-1) [f0] 1) none 1 := go_at_yes (by show 5 < 49; decide) rfl rfl rfl
  have g2 : Go c (st1 7 0 0 m0 (-1) (-1) [f0] 1) none (st1 17 (0 + 0) (0 + 0) m0 (-1) (-1) [f1, f0] 2) none 1 :=
    go_rep_yes (n := 0) (lo := 0) (hi := 4294967295) (by show 7 < 49; decide) rfl rfl rfl (by show 0 + 0 ≤ T.length; omega) (run_seg (code := cVal) (i := 11) (seg := []) rfl (s_sp cVal 13 47 rfl rfl rfl rfl) d0 (by intro c hc; cases hc) (by intro c r h; cases h; exact h1) (by omega)) (by omega) (by show 1 + 1 + 0 ≤ 16777216; decide)
  have g3 : Go c (st1 17 (0 + 0) (0 + 0) m0 (-1) (-1) [f1, f0] 2) none (st1 17 (0 + 0) (0 + 0) m0 (-1) (-1) [f1, f0] 2) (some false) 1 :=
    go_lit_no (x := 61) (by show 17 < 49; decide) rfl rfl (fun _ => by show T.toArray.getD (0 + 0) 0 ≠ 61; rw [a0.2.1]; exact h2)
  have g5 := go_back_end (c := c) (r := st1 17 (0 + 0) (0 + 0) m0 (-1) (-1) [f1, f0] 2) (f := f1) (fs := [f0]) rfl rfl (by show ((0 : Nat) : Int) - 1 < ((0 : Nat) : Int); decide)
  exact anch_fails (code := cVal) (pc := 5) (by decide) rfl rfl (by decide) (by omega) (((g1.trans g2).trans g3).trans g5) (by decide) (s := 0) (o := true) rfl rfl sn
/-- the junk at the head -/
theorem junk_yes {T v rest : List Nat} (hT : T = v ++ rest) (hv : ∀ c ∈ v, inJunk c = true) (hr : ∀ c r, rest = c :: r → inJunk c = false) (hl : T.length < 2 ^ 30) :
    EndsIn (Sre.forSearch cJunk.toArray T.toArray 0 0 T.length false) true 0 v.length #[] (-1) (-1) := by
  have hlen : T.length = v.length + rest.length := by rw [hT]; simp
  obtain ⟨sn, e⟩ := search_at (code := cJunk) (T := T) (groups := 0) (pos := 0) (least := 0) (pc := 5) (last := T.length) rfl (by decide) (by omega) (by omega) rfl
  rw [e]
  have d0 : T.drop 0 = v ++ rest := by rw [List.drop_zero, hT]
  let f0 := nsFrame 5 0 true
  let e1 := 0 + v.length
  let f1 : Sre.Frame := { wait := .giveBack, pc := 7, pos := e1, outermost := true, count := v.length, kept := k0 (-1) (-1) }
  let c := sC cJunk T T.length
  have g1 : Go c (st1 5 0 0 #[] (-1) (-1) [f0] 1) none (st1 7 0 0 #[] (-1) (-1) [f0] 1) none 1 := go_at_yes (by show 5 < 22; decide) rfl rfl rfl
  have g2 : Go c (st1 7 0 0 #[] (-1) (-1) [f0] 1) none (st1 21 e1 e1 #[] (-1) (-1) [f1, f0] 2) none 1 :=
    go_rep_yes (n := v.length) (lo := 0) (hi := 4294967295) (by show 7 < 22; decide) rfl rfl rfl (by show 0 + 0 ≤ T.length; omega) (run_seg (code := cJunk) (i := 11) rfl s_junk d0 hv hr (by omega)) (by omega) (by show 1 + 1 + 0 ≤ 16777216; decide)
  have g3 : Go c (st1 21 e1 e1 #[] (-1) (-1) [f1, f0] 2) none (st1 21 e1 e1 #[] (-1) (-1) [f1, f0] 2) (some true) 1 := go_succ (by show 21 < 22; decide) rfl (by intro _ h; cases h)
  have g4 : Go c (st1 21 e1 e1 #[] (-1) (-1) [f1, f0] 2) (some true) (st1 7 e1 e1 #[] (-1) (-1) [f0] 1) (some true) 1 := go_back_yes (f := f1) (fs := [f0]) rfl rfl
  have g5 : Go c (st1 7 e1 e1 #[] (-1) (-1) [f0] 1) (some true) (st1 5 0 e1 #[] (-1) (-1) [] 0) (some true) 1 := go_next_yes (f := f0) (fs := []) rfl rfl
  have F : EndsIn (c.m (atStart (rg0 0 5 0) 0 true) none sn) true 0 (0 + v.length) #[] (-1) (-1) := ((((g1.trans g2).trans g3).trans g4).trans g5).fin (by omega) rfl sn
  rw [Nat.zero_add] at F
  exact F
/-- no junk behind the head -/
theorem junk_no {T : List Nat} {p : Nat} (hp : 0 < p) (hpl : p ≤ T.length) (hl : T.length < 2 ^ 30) : Fails (Sre.forSearch cJunk.toArray T.toArray 0 p T.length false) := by
  obtain ⟨sn, e⟩ := search_at (code := cJunk) (T := T) (groups := 0) (pos := p) (least := 0) (pc := 5) (last := T.length) rfl (by decide) (by omega) (by omega) rfl
  rw [e]
  have g1 : Go (sC cJunk T T.length) (atStart (rg0 0 5 p) p true) none (atStart (rg0 0 5 p) p true) (some false) 1 := go_at_no (by show 5 < 22; decide) rfl rfl (by show p ≠ 0; omega)
  exact anch_fails (code := cJunk) (pc := 5) (by decide) rfl rfl (by decide) (by omega) g1 (by decide) (s := p) (o := true) rfl rfl sn
end Mine
end
section
theorem Mine.off_MK : True := by (w_top off; trivial)
open PySem
set_option Elab.async false
set_option maxRecDepth 100000
namespace Mine
open PySem.Sre (M Loop Wait Op)
/-- the quoted value's search where no = with a quote stands -/
theorem quot_no1 {T rest : List Nat} {x : Nat} (hT : T = x :: rest) (h1 : isSp x = false) (h2 : x ≠ 61) (hl : T.length < 2 ^ 30) : Fails (Sre.forSearch cQuot.toArray T.toArray 1 0 T.length false) := by
  by_cases h3 : T.length < 3
  · exact search_short (least := 3) (pc := 5) rfl (by omega)
  obtain ⟨sn, e⟩ := search_at (code := cQuot) (T := T) (groups := 1) (pos := 0) (least := 3) (pc := 5) (last := max 0 (T.length - (3 - 1))) rfl (by decide) (by omega) (by omega) rfl
  rw [e]
  have d0 : T.drop 0 = [] ++ (x :: rest) := by rw [List.drop_zero, hT]; rfl
  have a0 := at_drop (T := T) (p := 0 + 0) (x := x) (rest := rest) d0
  let f0 := nsFrame 5 0 true
  let f1 : Sre.Frame := { wait := .giveBack, pc := 7, pos := 0 + 0, outermost := true, count := (0 : Nat), kept := k0 (-1) (-1) }
  let m0 : Array (Option Nat) := #[none, none]
  let c := sC cQuot T (max 0 (T.length - (3 - 1)))
  have g1 : Go c (st1 5 0 0 m0 (-1) (-1) [f0] 1) none (st1 7 0 0 m0 (-1) (-1) [f0] 1) none 1 := go_at_yes (by show 5 < 72; decide) rfl rfl rfl
  have g2 : Go c (st1 7 0 0 m0 (-1) (-1) [f0] 1) none (st1 17 (0 + 0) (0 + 0) m0 (-1) (-1) [f1, f0] 2) none 1 :=
    go_rep_yes (n := 0) (lo := 0) (hi := 4294967295) (by show 7 < 72; decide) rfl rfl rfl (by show 0 + 0 ≤ T.length; omega) (run_seg (code := cQuot) (i := 11) (seg := []) rfl (s_sp cQuot 13 70 rfl rfl rfl rfl) d0 (by intro c hc; cases hc) (by intro c r h; cases h; exact h1) (by omega)) (by omega) (by show 1 + 1 + 0 ≤ 16777216; decide)
  have g3 : Go c (st1 17 (0 + 0) (0 + 0) m0 (-1) (-1) [f1, f0] 2) none (st1 17 (0 + 0) (0 + 0) m0 (-1) (-1) [f1, f0] 2) (some false) 1 :=
    go_lit_no (x := 61) (by show 17 < 72; decide) rfl rfl (fun _ => by show T.toArray.getD (0 + 0) 0 ≠ 61; rw [a0.2.1]; exact h2)
  have g5 := go_back_end (c := c) (r := st1 17 (0 + 0) (0 + 0) m0 (-1) (-1) [f1, f0] 2) (f := f1) (fs := [f0]) rfl rfl (by show ((0 : Nat) : Int) - 1 < ((0 : Nat) : Int); decide)
  exact anch_fails (code := cQuot) (pc := 5) (by decide) rfl rfl (by decide) (by omega) (((g1.trans g2).trans g3).trans g5) (by decide) (s := 0) (o := true) rfl rfl sn
theorem quot_no2 {T rest : List Nat} {x : Nat} (hT : T = 61 :: x :: rest) (h1 : isSp x = false) (h2 : x ≠ 34) (hl : T.length < 2 ^ 30) : Fails (Sre.forSearch cQuot.toArray T.toArray 1 0 T.length false) := by
  by_cases h3 : T.length < 3
  · exact search_short (least := 3) (pc := 5) rfl (by omega)
  obtain ⟨sn, e⟩ := search_at (code := cQuot) (T := T) (groups := 1) (pos := 0) (least := 3) (pc := 5) (last := max 0 (T.length - (3 - 1))) rfl (by decide) (by omega) (by omega) rfl
  rw [e]
  have d0 : T.drop 0 = [] ++ (61 :: x :: rest) := by rw [List.drop_zero, hT]; rfl
  have a0 := at_drop (T := T) (p := 0 + 0) (x := 61) (rest := x :: rest) d0
  have d1 : T.drop (0 + 0 + 1) = [] ++ (x :: rest) := by rw [hT]; rfl
  have a1 := at_drop (T := T) (p := 0 + 0 + 1 + 0) (x := x) (rest := rest) d1
  let f0 := nsFrame 5 0 true
  let f1 : Sre.Frame := { wait := .giveBack, pc := 7, pos := 0 + 0, outermost := true, count := (0 : Nat), kept := k0 (-1) (-1) }
  let f2 : Sre.Frame := { wait := .giveBack, pc := 19, pos := 0 + 0 + 1 + 0, outermost := true, count := (0 : Nat), kept := k0 (-1) (-1) }
  let m0 : Array (Option Nat) := #[none, none]
  let c := sC cQuot T (max 0 (T.length - (3 - 1)))
  have g1 : Go c (st1 5 0 0 m0 (-1) (-1) [f0] 1) none (st1 7 0 0 m0 (-1) (-1) [f0] 1) none 1 := go_at_yes (by show 5 < 72; decide) rfl rfl rfl
  have g2 : Go c (st1 7 0 0 m0 (-1) (-1) [f0] 1) none (st1 17 (0 + 0) (0 + 0) m0 (-1) (-1) [f1, f0] 2) none 1 :=
    go_rep_yes (n := 0) (lo := 0) (hi := 4294967295) (by show 7 < 72; decide) rfl rfl rfl (by show 0 + 0 ≤ T.length; omega) (run_seg (code := cQuot) (i := 11) (seg := []) rfl (s_sp cQuot 13 70 rfl rfl rfl rfl) d0 (by intro c hc; cases hc) (by intro c r h; cases h; decide +kernel) (by omega)) (by omega) (by show 1 + 1 + 0 ≤ 16777216; decide)
  have g3 : Go c (st1 17 (0 + 0) (0 + 0) m0 (-1) (-1) [f1, f0] 2) none (st1 19 (0 + 0 + 1) (0 + 0) m0 (-1) (-1) [f1, f0] 2) none 1 :=
    go_lit_yes (x := 61) (by show 17 < 72; decide) rfl rfl a0.1 a0.2.1
  have g4 : Go c (st1 19 (0 + 0 + 1) (0 + 0) m0 (-1) (-1) [f1, f0] 2) none (st1 29 (0 + 0 + 1 + 0) (0 + 0 + 1 + 0) m0 (-1) (-1) [f2, f1, f0] 3) none 1 :=
    go_rep_yes (n := 0) (lo := 0) (hi := 4294967295) (by show 19 < 72; decide) rfl rfl rfl (by show 0 + 0 + 1 + 0 ≤ T.length; omega) (run_seg (code := cQuot) (i := 23) (seg := []) rfl (s_sp cQuot 25 70 rfl rfl rfl rfl) d1 (by intro c hc; cases hc) (by intro c r h; cases h; exact h1) (by omega)) (by omega) (by show 2 + 1 + 0 ≤ 16777216; decide)
  have g5 : Go c (st1 29 (0 + 0 + 1 + 0) (0 + 0 + 1 + 0) m0 (-1) (-1) [f2, f1, f0] 3) none (st1 29 (0 + 0 + 1 + 0) (0 + 0 + 1 + 0) m0 (-1) (-1) [f2, f1, f0] 3) (some false) 1 :=
    go_lit_no (x := 34) (by show 29 < 72; decide) rfl rfl (fun _ => by show T.toArray.getD (0 + 0 + 1 + 0) 0 ≠ 34; rw [a1.2.1]; exact h2)
  have g6 : Go c (st1 29 (0 + 0 + 1 + 0) (0 + 0 + 1 + 0) m0 (-1) (-1) [f2, f1, f0] 3) (some false) (st1 19 (0 + 0 + 1 + 0) (0 + 0 + 1 + 0) m0 (-1) (-1) [f1, f0] 2) (some false) 1 :=
    go_back_end (f := f2) (fs := [f1, f0]) rfl rfl (by show ((0 : Nat) : Int) - 1 < ((0 : Nat) : Int); decide)
  have g7 := go_back_end (c := c) (r := st1 19 (0 + 0 + 1 + 0) (0 + 0 + 1 + 0) m0 (-1) (-1) [f1, f0] 2) (f := f1) (fs := [f0]) rfl rfl (by show ((0 : Nat) : Int) - 1 < ((0 : Nat) : Int); decide)
  exact anch_fails (code := cQuot) (pc := 5) (by decide) rfl rfl (by decide) (by omega) ((((((g1.trans g2).trans g3).trans g4).trans g5).trans g6).trans g7) (by decide) (s := 0) (o := true) rfl rfl sn
section
variable {c : Cx} {r : Rg}
/-- a frame that hands a yes on -/
noncomputable def easy (f : Sre.Frame) : Prop := f.wait = .giveBack ∨ f.wait = .nextStart ∨ f.wait = .closeLoop ∨ f.wait = .maxMore ∨ f.wait = .maxTail
theorem pop_yes {f : Sre.Frame} {fs : List Sre.Frame} (hf : r.frames = f :: fs) (he : easy f) : ∃ r', Go c r (some true) r' (some true) 1 ∧ r'.frames = fs ∧ r'.start = r.start ∧ r'.handed = r.handed ∧ r'.marks = r.marks ∧ r'.lastmark = r.lastmark ∧ r'.lastindex = r.lastindex := by
  rcases he with hw | hw | hw | hw | hw
  · exact ⟨_, go_back_yes hf hw, rfl, rfl, rfl, rfl, rfl, rfl⟩
  · exact ⟨_, go_next_yes hf hw, rfl, rfl, rfl, rfl, rfl, rfl⟩
  · let r1 : Rg := { r with frames := fs, weight := r.weight - (1 + f.kept.marks.size), pc := f.pc, pos := f.pos, outer := f.outermost }
    refine ⟨{ r1 with inner := (r.loops.getD f.loop { pc := 0, outer := none }).outer, loops := r.loops.pop }, Go.one fun sn => ?_, rfl, rfl, rfl, rfl, rfl, rfl⟩
    rw [step_resume sn hf]
    unfold M.resume
    simp only [hw]
    exact ⟨_, rfl⟩
  · let r1 : Rg := { r with frames := fs, weight := r.weight - (1 + f.kept.marks.size), pc := f.pc, pos := f.pos, outer := f.outermost }
    refine ⟨{ r1 with loops := r.loops.modify f.loop fun l => { l with began := f.began } }, Go.one fun sn => ?_, rfl, rfl, rfl, rfl, rfl, rfl⟩
    rw [step_resume sn hf]
    unfold M.resume
    simp only [hw]
    exact ⟨_, rfl⟩
  · let r1 : Rg := { r with frames := fs, weight := r.weight - (1 + f.kept.marks.size), pc := f.pc, pos := f.pos, outer := f.outermost }
    refine ⟨{ r1 with inner := some f.loop }, Go.one fun sn => ?_, rfl, rfl, rfl, rfl, rfl, rfl⟩
    rw [step_resume sn hf]
    unfold M.resume
    simp only [hw]
    exact ⟨_, rfl⟩
theorem pop_all : ∀ (fs : List Sre.Frame) (r : Rg), r.frames = fs → (∀ f ∈ fs, easy f) → ∃ r', Go c r (some true) r' (some true) fs.length ∧ r'.frames = [] ∧ r'.start = r.start ∧ r'.handed = r.handed ∧ r'.marks = r.marks ∧ r'.lastmark = r.lastmark ∧ r'.lastindex = r.lastindex
  | [], r, hf, _ => ⟨r, Go.refl, hf, rfl, rfl, rfl, rfl, rfl⟩
  | f :: fs, r, hf, he => by
    obtain ⟨r1, g1, a1, a2, a3, a4, a5, a6⟩ := pop_yes (c := c) hf (he f (.head _))
    obtain ⟨r2, g2, b1, b2, b3, b4, b5, b6⟩ := pop_all fs r1 a1 fun x hx => he x (.tail _ hx)
    exact ⟨r2, by rw [List.length_cons, Nat.add_comm]; exact g1.trans g2, b1, b2.trans a2, b3.trans a3, b4.trans a4, b5.trans a5, b6.trans a6⟩
theorem go_repeat (hpc : r.pc < c.code.size) (ho : Sre.ops[c.code.getD r.pc 0]? = some .REPEAT) (hwt : r.weight + 1 ≤ 16777216) :
    Go c r none { r with loops := r.loops.push { pc := r.pc, outer := r.inner }, inner := some r.loops.size, pc := r.pc + 1 + c.code.getD (r.pc + 1) 0, handed := r.pos, frames := { wait := .closeLoop, pc := r.pc, pos := r.pos, outermost := r.outer, loop := r.loops.size } :: r.frames, weight := r.weight + 1 + 0 } none 1 := by
  refine go_exec hpc fun sn => ?_
  unfold M.exec
  simp only [M.word, Cx.m, Nat.add_zero, ho, M.attempt, M.frame]
  exact ⟨_, (if_neg (by show ¬ r.weight + 1 + 0 > 16777216; omega)).trans rfl⟩
/-- MAX_UNTIL goes round once more -/
theorem go_round {l : Loop} {cn : Int} (hpc : r.pc < c.code.size) (ho : Sre.ops[c.code.getD r.pc 0]? = some .MAX_UNTIL) (hin : r.inner = some 0) (hlo : r.loops = #[l]) (hcn : l.count + 1 = cn) (hc0 : 0 ≤ cn) (h2 : c.code.getD (l.pc + 2) 0 = 0) (h3 : c.code.getD (l.pc + 3) 0 = 4294967295) (hb : l.began ≠ some r.pos)
    (hwt : r.weight + 1 + (r.marks.extract 0 (r.lastmark + 1).toNat).size ≤ 16777216) :
    Go c r none { r with loops := #[{ l with count := cn, began := some r.pos }], pc := l.pc + 4, handed := r.pos, frames := { wait := .maxMore, pc := r.pc + 1, pos := r.pos, outermost := r.outer, loop := 0, count := cn, kept := { lastmark := r.lastmark, lastindex := r.lastindex, whole := true, marks := r.marks.extract 0 (r.lastmark + 1).toNat }, began := l.began } :: r.frames, weight := r.weight + 1 + (r.marks.extract 0 (r.lastmark + 1).toNat).size } none 1 := by
  refine go_exec hpc fun sn => ?_
  unfold M.exec
  have q1 : ¬ (cn < ((0 : Nat) : Int)) := by omega
  have q2 : (l.began != some r.pos) = true := by simpa using hb
  have q3 : (((decide (cn < ((4294967295 : Nat) : Int)) || (4294967295 : Nat) == Sre.maxRepeat) && l.began != some r.pos)) = true := by
    rw [q2, Bool.and_true, show ((4294967295 : Nat) == Sre.maxRepeat) = true from rfl, Bool.or_true]
  have el : ∀ d : Loop, (#[l] : Array Loop).getD 0 d = l := fun _ => rfl
  simp only [M.word, Cx.m, Nat.add_zero, ho, M.until_, hin, M.loopAt, hlo, el, hcn, h2, h3, q1, if_false, Bool.not_true, Bool.false_eq_true, q3, if_true, M.round, M.setLoop, M.keep, M.frame, M.attempt]
  exact ⟨_, (if_neg (Nat.not_lt.mpr hwt)).trans rfl⟩
/-- the round came to nothing: on behind the loop -/
theorem go_leave {l : Loop} {f : Sre.Frame} {fs : List Sre.Frame} (hf : r.frames = f :: fs) (hw : f.wait = .maxMore) (hfl : f.loop = 0) (hlo : r.loops = #[l]) (hwt : r.weight ≤ 16777216) (hw1 : 1 + f.kept.marks.size ≤ r.weight) :
    Go c r (some false) { back { r with pc := f.pc, pos := f.pos, outer := f.outermost } f.kept with loops := #[{ l with count := f.count - 1, began := f.began }], inner := l.outer, handed := f.pos, frames := { wait := .maxTail, pc := f.pc, pos := f.pos, outermost := f.outermost, loop := 0, count := f.count, kept := { lastmark := f.kept.lastmark, lastindex := f.kept.lastindex, whole := false, marks := #[] } } :: fs, weight := r.weight - (1 + f.kept.marks.size) + 1 + 0 } none 1 := by
  refine Go.one fun sn => ?_
  rw [step_resume sn hf]
  unfold M.resume
  have q3 : ¬ (r.weight - (1 + f.kept.marks.size) + 1 + 0 > 16777216) := by omega
  simp only [hw, hfl, Bool.false_eq_true, if_false, M.setLoop, M.putBack, M.afterLoop, M.loopAt, M.keep, M.frame, M.attempt, Cx.m, hlo]
  exact ⟨_, (if_neg q3).trans rfl⟩
end
end Mine
end
section
theorem Mine.off_ML : True := by (w_top off; trivial)
open PySem
set_option Elab.async false
set_option maxRecDepth 100000
namespace Mine
open PySem.Sre (M Loop Wait Op)
/-- a text with a backslash ahead of quotes and backslashes -/
def escL (v : List Nat) : List Nat := v.flatMap fun c => if isEsc c then [92, c] else [c]
theorem escL_cons_esc {x : Nat} {v : List Nat} (h : isEsc x = true) : escL (x :: v) = 92 :: x :: escL v := by unfold escL; rw [List.flatMap_cons, if_pos h]; rfl
theorem escL_cons {x : Nat} {v : List Nat} (h : isEsc x = false) : escL (x :: v) = x :: escL v := by unfold escL; rw [List.flatMap_cons, h]; rfl
theorem inQuot_esc (c : Nat) : inQuot c = !isEsc c := rfl
/-- the plain signs ahead of the first that is escaped -/
theorem esc_split : ∀ v : List Nat, ∃ seg v', v = seg ++ v' ∧ escL v = seg ++ escL v' ∧ (∀ c ∈ seg, inQuot c = true) ∧ (v' = [] ∨ ∃ x t, v' = x :: t ∧ isEsc x = true)
  | [] => ⟨[], [], rfl, rfl, (by intro c h; cases h), .inl rfl⟩
  | x :: t => by
    cases h : isEsc x with
    | true => exact ⟨[], x :: t, rfl, rfl, (by intro c h; cases h), .inr ⟨x, t, rfl, h⟩⟩
    | false =>
      obtain ⟨seg, v', e1, e2, h1, h2⟩ := esc_split t
      refine ⟨x :: seg, v', by rw [e1]; rfl, by rw [escL_cons h, e2]; rfl, ?_, h2⟩
      intro c hc
      rcases List.mem_cons.mp hc with rfl | hc
      · rw [inQuot_esc, h]; rfl
      · exact h1 c hc
theorem esc_head {v rest : List Nat} (h : v = [] ∨ ∃ x t, v = x :: t ∧ isEsc x = true) : ∀ c r, escL v ++ 34 :: rest = c :: r → inQuot c = false := by
  intro c r e
  rcases h with rfl | ⟨x, t, rfl, hx⟩
  · cases e; rfl
  · rw [escL_cons_esc hx] at e; cases e; rfl
theorem isEsc_ne {x : Nat} (h : isEsc x = true) : x ≠ 10 := by
  intro e; subst e; cases h
noncomputable abbrev lq (b p h : Nat) (l : Loop) (fs : List Sre.Frame) (w : Nat) : Rg := { start := 0, pc := 66, pos := p, handed := h, outer := true, marks := #[some b, none], lastmark := 0, lastindex := -1, loops := #[l], inner := some 0, frames := fs, weight := w }
/-- from the loop's until to the end -/
theorem quot_loop {T rest : List Nat} {last b : Nat} (hl : T.length < 2 ^ 20) : ∀ (n : Nat) (v : List Nat) (p h : Nat) (l : Loop) (fs : List Sre.Frame) (w : Nat), v.length ≤ n → T.drop p = escL v ++ 34 :: rest → (v = [] ∨ ∃ x t, v = x :: t ∧ isEsc x = true) → l.pc = 46 → l.outer = none → 0 ≤ l.count + 1 → l.began ≠ some p → (∀ f ∈ fs, easy f) → w + 4 * v.length + 8 ≤ 16777216 →
    ∃ r' k, Go (sC cQuot T last) (lq b p h l fs w) none r' (some true) k ∧ k ≤ 20 * v.length + 30 + fs.length ∧ r'.frames = [] ∧ r'.start = 0 ∧ r'.handed = p + (escL v).length + 1 ∧ r'.marks = #[some b, some (p + (escL v).length)] ∧ r'.lastmark = 1
  | n, [], p, h, l, fs, w, _, hd, _, hpc, hout, hcn, hbg, hfs, hw => by
    let c := sC cQuot T last
    have a0 := at_drop (T := T) (p := p) (x := 34) (rest := rest) hd
    let K : Sre.Kept := { lastmark := 0, lastindex := -1, whole := true, marks := #[some b] }
    let f1 : Sre.Frame := { wait := .maxMore, pc := 67, pos := p, outermost := true, loop := 0, count := l.count + 1, kept := K, began := l.began }
    let f2 : Sre.Frame := { wait := .maxTail, pc := 67, pos := p, outermost := true, loop := 0, count := l.count + 1, kept := k0 0 (-1) }
    let l1 : Loop := { l with count := l.count + 1, began := some p }
    let l2 : Loop := { l1 with count := l.count + 1 - 1, began := l.began }
    let r1 : Rg := { lq b p p l1 (f1 :: fs) (w + 1 + 1) with pc := l.pc + 4 }
    have g1 : Go c (lq b p h l fs w) none r1 none 1 := go_round (c := c) (r := lq b p h l fs w) (l := l) (cn := l.count + 1) (by show 66 < 72; decide) rfl rfl rfl rfl hcn (by rw [hpc]; rfl) (by rw [hpc]; rfl) hbg (by show w + 1 + 1 ≤ 16777216; omega)
    have g2 : Go c r1 none r1 (some false) 1 := go_lit_no (x := 92) (by show l.pc + 4 < 72; omega) (by show Sre.ops[c.code.getD (l.pc + 4) 0]? = _; rw [hpc]; rfl) (by show c.code.getD (l.pc + 4 + 1) 0 = 92; rw [hpc]; rfl) (fun _ => by show T.toArray.getD p 0 ≠ 92; rw [a0.2.1]; decide)
    let r3 : Rg := { start := 0, pc := 67, pos := p, handed := p, outer := true, marks := #[some b, none], lastmark := 0, lastindex := -1, loops := #[l2], inner := l.outer, frames := f2 :: fs, weight := w + 1 + 1 - (1 + 1) + 1 + 0 }
    have g3 : Go c r1 (some false) r3 none 1 := go_leave (c := c) (r := r1) (l := l1) (f := f1) (fs := fs) rfl rfl rfl rfl (by show w + 1 + 1 ≤ 16777216; omega) (by show 1 + 1 ≤ w + 1 + 1; omega)
    let r4 : Rg := { r3 with marks := #[some b, some p], lastmark := 1, lastindex := 1, pc := 69 }
    have g4 : Go c r3 none r4 none 1 := go_mark (i := 1) (by show 67 < 72; decide) rfl rfl (by show ((1 : Nat) : Int) ≤ 0 + 1; decide)
    let r5 : Rg := { r4 with pc := 71, pos := p + 1 }
    have g5 : Go c r4 none r5 none 1 := go_lit_yes (x := 34) (by show 69 < 72; decide) rfl rfl a0.1 a0.2.1
    let r6 : Rg := { r5 with handed := p + 1 }
    have g6 : Go c r5 none r6 (some true) 1 := go_succ (by show 71 < 72; decide) rfl (by intro _ h; cases h)
    obtain ⟨r', g7, b1, b2, b3, b4, b5, _⟩ := pop_all (c := c) (f2 :: fs) r6 rfl (by
      intro f hf
      rcases List.mem_cons.mp hf with rfl | hf
      · exact .inr (.inr (.inr (.inr rfl)))
      · exact hfs f hf)
    refine ⟨r', _, (((((g1.trans g2).trans g3).trans g4).trans g5).trans g6).trans g7, ?_, b1, b2, b3, b4, b5⟩
    simp only [List.length_cons, List.length_nil]; omega
  | 0, _ :: _, _, _, _, _, _, hn, _, _, _, _, _, _, _, _ => absurd hn (by simp)
  | n + 1, x :: t, p, h, l, fs, w, hn, hd, hv, hpc, hout, hcn, hbg, hfs, hw => by
    have hx : isEsc x = true := by
      rcases hv with h | ⟨y, u, e, hy⟩
      · cases h
      · cases e; exact hy
    let c := sC cQuot T last
    obtain ⟨seg, v', e1, e2, h1, h2⟩ := esc_split t
    have hlen : t.length = seg.length + v'.length := by rw [e1]; simp
    rw [escL_cons_esc hx, e2] at hd
    have hd' : T.drop p = 92 :: (x :: (seg ++ (escL v' ++ 34 :: rest))) := by rw [hd]; simp
    have a0 := at_drop hd'
    have a1 := at_drop a0.2.2
    have hesc : (escL (x :: t)).length = 2 + seg.length + (escL v').length := by rw [escL_cons_esc hx, e2]; simp; omega
    let K : Sre.Kept := { lastmark := 0, lastindex := -1, whole := true, marks := #[some b] }
    let f1 : Sre.Frame := { wait := .maxMore, pc := 67, pos := p, outermost := true, loop := 0, count := l.count + 1, kept := K, began := l.began }
    let l1 : Loop := { l with count := l.count + 1, began := some p }
    let r1 : Rg := { lq b p p l1 (f1 :: fs) (w + 1 + 1) with pc := l.pc + 4 }
    have g1 : Go c (lq b p h l fs w) none r1 none 1 := go_round (c := c) (r := lq b p h l fs w) (l := l) (cn := l.count + 1) (by show 66 < 72; decide) rfl rfl rfl rfl hcn (by rw [hpc]; rfl) (by rw [hpc]; rfl) hbg (by show w + 1 + 1 ≤ 16777216; omega)
    let r2 : Rg := { lq b (p + 1) p l1 (f1 :: fs) (w + 1 + 1) with pc := l.pc + 4 + 2 }
    have g2 : Go c r1 none r2 none 1 := go_lit_yes (x := 92) (by show l.pc + 4 < 72; omega) (by show Sre.ops[c.code.getD (l.pc + 4) 0]? = _; rw [hpc]; rfl) (by show c.code.getD (l.pc + 4 + 1) 0 = 92; rw [hpc]; rfl) a0.1 a0.2.1
    let r3 : Rg := { lq b (p + 1 + 1) p l1 (f1 :: fs) (w + 1 + 1) with pc := l.pc + 4 + 2 + 1 }
    have g3 : Go c r2 none r3 none 1 := go_any_yes (by show l.pc + 4 + 2 < 72; omega) (by show Sre.ops[c.code.getD (l.pc + 4 + 2) 0]? = _; rw [hpc]; rfl) a1.1 (by show T.toArray.getD (p + 1) 0 ≠ 10; rw [a1.2.1]; exact isEsc_ne hx)
    let f2 : Sre.Frame := { wait := .giveBack, pc := l.pc + 4 + 2 + 1, pos := p + 1 + 1 + seg.length, outermost := true, count := seg.length, kept := K }
    have g4 : Go c r3 none (lq b (p + 1 + 1 + seg.length) (p + 1 + 1 + seg.length) l1 (f2 :: f1 :: fs) (w + 1 + 1 + 1 + 1)) none 1 := by
      have q := go_rep_yes (c := c) (r := r3) (n := seg.length) (lo := 0) (hi := 4294967295) (by show l.pc + 4 + 2 + 1 < 72; omega) (by show Sre.ops[c.code.getD (l.pc + 4 + 2 + 1) 0]? = _; rw [hpc]; rfl) (by show c.code.getD (l.pc + 4 + 2 + 1 + 2) 0 = 0; rw [hpc]; rfl) (by show c.code.getD (l.pc + 4 + 2 + 1 + 3) 0 = 4294967295; rw [hpc]; rfl) (by show p + 1 + 1 + 0 ≤ T.length; have := a1.1; omega)
        (by show ∀ sn, ∃ sn', Sre.run cQuot.toArray T.toArray (l.pc + 4 + 2 + 1 + 4) (min 4294967295 (T.length - (p + 1 + 1))) (p + 1 + 1) 0 sn = _
            rw [hpc]
            exact run_seg (code := cQuot) (i := 57) rfl s_quot2 a1.2.2 h1 (esc_head h2) (by omega)) (by omega) (by show w + 1 + 1 + 1 + 1 ≤ 16777216; simp only [List.length_cons] at hw; omega)
      have e66 : (66 : Nat) = l.pc + 4 + 2 + 1 + 1 + c.code.getD (l.pc + 4 + 2 + 1 + 1) 0 := by rw [hpc]; rfl
      show Go c r3 none { lq b (p + 1 + 1 + seg.length) (p + 1 + 1 + seg.length) l1 (f2 :: f1 :: fs) (w + 1 + 1 + 1 + 1) with pc := 66 } none 1
      rw [e66]
      exact q
    have hdv : T.drop (p + 1 + 1 + seg.length) = escL v' ++ 34 :: rest := drop_app a1.2.2
    simp only [List.length_cons] at hn hw
    obtain ⟨r', k, g5, hk, b1, b2, b3, b4, b5⟩ := quot_loop (T := T) (rest := rest) (last := last) (b := b) hl n v' (p + 1 + 1 + seg.length) (p + 1 + 1 + seg.length) l1 (f2 :: f1 :: fs) (w + 1 + 1 + 1 + 1) (by omega) hdv h2 hpc hout (by show 0 ≤ l.count + 1 + 1; omega) (by show some p ≠ some (p + 1 + 1 + seg.length); intro e; have := Option.some.inj e; omega) (by
      intro f hf
      rcases List.mem_cons.mp hf with rfl | hf
      · exact .inl rfl
      · rcases List.mem_cons.mp hf with rfl | hf
        · exact .inr (.inr (.inr (.inl rfl)))
        · exact hfs f hf) (by omega)
    refine ⟨r', _, (((g1.trans g2).trans g3).trans g4).trans g5, ?_, b1, b2, ?_, ?_, b5⟩
    · have q1 : (f2 :: f1 :: fs).length = fs.length + 2 := rfl
      have q2 : (x :: t).length = t.length + 1 := rfl
      omega
    · rw [b3, hesc]; omega
    · have q3 : p + 1 + 1 + seg.length + (escL v').length = p + (2 + seg.length + (escL v').length) := by omega
      rw [b4, hesc, q3]
/-- the quoted value's search -/
theorem quot_yes {T v rest : List Nat} (hT : T = 61 :: 34 :: (escL v ++ 34 :: rest)) (hl : T.length < 2 ^ 20) :
    ∃ li, EndsIn (Sre.forSearch cQuot.toArray T.toArray 1 0 T.length false) true 0 (2 + (escL v).length + 1) #[some 2, some (2 + (escL v).length)] 1 li := by
  have hlen : T.length = (escL v).length + rest.length + 3 := by rw [hT]; simp only [List.length_cons, List.length_append]; omega
  obtain ⟨sn, e⟩ := search_at (code := cQuot) (T := T) (groups := 1) (pos := 0) (least := 3) (pc := 5) (last := max 0 (T.length - (3 - 1))) rfl (by decide) (by omega) (by omega) rfl
  rw [e]
  obtain ⟨seg, v', e1, e2, h1, h2⟩ := esc_split v
  have d0 : T.drop 0 = [] ++ (61 :: 34 :: (escL v ++ 34 :: rest)) := by rw [List.drop_zero, hT]; rfl
  have a0 := at_drop (T := T) (p := 0 + 0) (x := 61) (rest := 34 :: (escL v ++ 34 :: rest)) d0
  have d1 : T.drop (0 + 0 + 1) = [] ++ (34 :: (escL v ++ 34 :: rest)) := a0.2.2
  have a1 := at_drop (T := T) (p := 0 + 0 + 1 + 0) (x := 34) (rest := escL v ++ 34 :: rest) d1
  have d2 : T.drop (0 + 0 + 1 + 0 + 1) = seg ++ (escL v' ++ 34 :: rest) := by rw [a1.2.2, e2, List.append_assoc]
  have d3 : T.drop (0 + 0 + 1 + 0 + 1 + seg.length) = escL v' ++ 34 :: rest := drop_app d2
  have hel : (escL v).length = seg.length + (escL v').length := by rw [e2]; simp
  have hvl : v'.length ≤ T.length := by
    have : ∀ u : List Nat, u.length ≤ (escL u).length := by
      intro u
      induction u with
      | nil => exact Nat.le_refl _
      | cons x t ih =>
        cases h : isEsc x with
        | true => rw [escL_cons_esc h]; simp only [List.length_cons]; omega
        | false => rw [escL_cons h]; simp only [List.length_cons]; omega
    have := this v'; omega
  let f0 := nsFrame 5 0 true
  let f1 : Sre.Frame := { wait := .giveBack, pc := 7, pos := 0 + 0, outermost := true, count := (0 : Nat), kept := k0 (-1) (-1) }
  let f2 : Sre.Frame := { wait := .giveBack, pc := 19, pos := 0 + 0 + 1 + 0, outermost := true, count := (0 : Nat), kept := k0 (-1) (-1) }
  let m0 : Array (Option Nat) := #[none, none]
  let p2 := 0 + 0 + 1 + 0 + 1
  let m1 : Array (Option Nat) := #[some p2, none]
  let p3 := 0 + 0 + 1 + 0 + 1 + seg.length
  let f3 : Sre.Frame := { wait := .giveBack, pc := 33, pos := p3, outermost := true, count := seg.length, kept := k0 0 (-1) }
  let f4 : Sre.Frame := { wait := .closeLoop, pc := 46, pos := p3, outermost := true, loop := 0 }
  let c := sC cQuot T (max 0 (T.length - (3 - 1)))
  have g1 : Go c (st1 5 0 0 m0 (-1) (-1) [f0] 1) none (st1 7 0 0 m0 (-1) (-1) [f0] 1) none 1 := go_at_yes (by show 5 < 72; decide) rfl rfl rfl
  have g2 : Go c (st1 7 0 0 m0 (-1) (-1) [f0] 1) none (st1 17 (0 + 0) (0 + 0) m0 (-1) (-1) [f1, f0] 2) none 1 :=
    go_rep_yes (n := 0) (lo := 0) (hi := 4294967295) (by show 7 < 72; decide) rfl rfl rfl (by show 0 + 0 ≤ T.length; omega) (run_seg (code := cQuot) (i := 11) (seg := []) rfl (s_sp cQuot 13 70 rfl rfl rfl rfl) d0 (by intro c hc; cases hc) (by intro c r h; cases h; decide +kernel) (by omega)) (by omega) (by show 1 + 1 + 0 ≤ 16777216; decide)
  have g3 : Go c (st1 17 (0 + 0) (0 + 0) m0 (-1) (-1) [f1, f0] 2) none (st1 19 (0 + 0 + 1) (0 + 0) m0 (-1) (-1) [f1, f0] 2) none 1 :=
    go_lit_yes (x := 61) (by show 17 < 72; decide) rfl rfl a0.1 a0.2.1
  have g4 : Go c (st1 19 (0 + 0 + 1) (0 + 0) m0 (-1) (-1) [f1, f0] 2) none (st1 29 (0 + 0 + 1 + 0) (0 + 0 + 1 + 0) m0 (-1) (-1) [f2, f1, f0] 3) none 1 :=
    go_rep_yes (n := 0) (lo := 0) (hi := 4294967295) (by show 19 < 72; decide) rfl rfl rfl (by show 0 + 0 + 1 + 0 ≤ T.length; omega) (run_seg (code := cQuot) (i := 23) (seg := []) rfl (s_sp cQuot 25 70 rfl rfl rfl rfl) d1 (by intro c hc; cases hc) (by intro c r h; cases h; decide +kernel) (by omega)) (by omega) (by show 2 + 1 + 0 ≤ 16777216; decide)
  have g5 : Go c (st1 29 (0 + 0 + 1 + 0) (0 + 0 + 1 + 0) m0 (-1) (-1) [f2, f1, f0] 3) none (st1 31 p2 (0 + 0 + 1 + 0) m0 (-1) (-1) [f2, f1, f0] 3) none 1 :=
    go_lit_yes (x := 34) (by show 29 < 72; decide) rfl rfl a1.1 a1.2.1
  have g6 : Go c (st1 31 p2 (0 + 0 + 1 + 0) m0 (-1) (-1) [f2, f1, f0] 3) none (st1 33 p2 (0 + 0 + 1 + 0) m1 0 (-1) [f2, f1, f0] 3) none 1 :=
    go_mark (i := 0) (by show 31 < 72; decide) rfl rfl (by show ((0 : Nat) : Int) ≤ -1 + 1; decide)
  have g7 : Go c (st1 33 p2 (0 + 0 + 1 + 0) m1 0 (-1) [f2, f1, f0] 3) none (st1 46 p3 p3 m1 0 (-1) [f3, f2, f1, f0] 4) none 1 :=
    go_rep_yes (n := seg.length) (lo := 0) (hi := 4294967295) (by show 33 < 72; decide) rfl rfl rfl (by show 0 + 0 + 1 + 0 + 1 + 0 ≤ T.length; omega) (run_seg (code := cQuot) (i := 37) rfl s_quot1 d2 h1 (esc_head h2) (by omega)) (by omega) (by show 3 + 1 + 0 ≤ 16777216; decide)
  have g8 : Go c (st1 46 p3 p3 m1 0 (-1) [f3, f2, f1, f0] 4) none (lq p2 p3 p3 { pc := 46, outer := none } [f4, f3, f2, f1, f0] 5) none 1 :=
    go_repeat (by show 46 < 72; decide) rfl (by show 4 + 1 ≤ 16777216; decide)
  obtain ⟨r', k, g9, hk, b1, b2, b3, b4, b5⟩ := quot_loop (T := T) (rest := rest) (last := max 0 (T.length - (3 - 1))) (b := p2) hl v'.length v' p3 p3 { pc := 46, outer := none } [f4, f3, f2, f1, f0] 5 (Nat.le_refl _) d3 h2 rfl rfl (by decide) (by intro q; cases q) (by
    intro f hf
    simp only [List.mem_cons, List.not_mem_nil, or_false] at hf
    rcases hf with rfl | rfl | rfl | rfl | rfl
    · exact .inr (.inr (.inl rfl))
    · exact .inl rfl
    · exact .inl rfl
    · exact .inl rfl
    · exact .inr (.inl rfl)) (by omega)
  have q5 : [f4, f3, f2, f1, f0].length = 5 := rfl
  have F := ((((((((g1.trans g2).trans g3).trans g4).trans g5).trans g6).trans g7).trans g8).trans g9).fin (by omega) b1 sn
  rw [b2, b3, b4, b5] at F
  have w1 : p3 + (escL v').length = 2 + (escL v).length := by rw [hel]; show 0 + 0 + 1 + 0 + 1 + seg.length + (escL v').length = _; omega
  have w2 : p2 = 2 := rfl
  rw [w1, w2] at F
  exact ⟨_, F⟩
end Mine
end
section
theorem Mine.off_MD : True := by (w_top off; trivial)
open PySem PySem.W PyProof.Rows PySem.Spec PySem.Calls
set_option Elab.async false
set_option maxRecDepth 100000
namespace Mine
open PySem.Builtin.Re
open PySem.Sre (M)
/-- a text from its signs -/
noncomputable abbrev S (l : List Nat) : Str := ⟨l.toArray⟩
theorem S_append (a b : List Nat) : S a ++ S b = S (a ++ b) := by
  refine Str.ext' ?_
  rw [Str.cps_append]
  simp
theorem S_len (l : List Nat) : (S l).length = l.length := by show l.toArray.size = _; simp
theorem S_of (x : Str) : x = S x.cps.toList := by cases x; simp
/-- texts joined -/
def joinL (sep : List Nat) : List (List Nat) → List Nat
  | [] => []
  | [x] => x
  | x :: y :: r => x ++ sep ++ joinL sep (y :: r)
theorem joinL_nil : ∀ (l : List (List Nat)), joinL [] l = l.flatten
  | [] => rfl
  | [x] => by simp [joinL]
  | x :: y :: r => by rw [joinL, joinL_nil (y :: r)]; simp
theorem join_S (sep : List Nat) : ∀ l : List (List Nat), Str.join (S sep) (l.map S) = S (joinL sep l)
  | [] => rfl
  | [x] => rfl
  | x :: y :: r => by
    show S x ++ S sep ++ Str.join (S sep) (S y :: r.map S) = _
    have := join_S sep (y :: r)
    rw [List.map_cons] at this
    rw [this, S_append, S_append]; rfl
theorem txtjoin_S (sep : List Nat) (l : List (List Nat)) : Txt.join (S sep) (l.map S) = S (joinL sep l) := by
  rw [← join_S]
  exact StrLaws.glued_eq_join _ _
noncomputable abbrev listObj (vs : List Value) (n : Nat) : Obj := { cls := .type "list", data := .seq vs.toArray n }
/-- values that are texts -/
inductive Txts : List Value → List (List Nat) → Prop
  | nil : Txts [] []
  | cons {l : List Nat} {t : Tok} {vs ws} : Txts vs ws → Txts (.str (S l) t :: vs) (l :: ws)
theorem Txts.snoc {l : List Nat} {t : Tok} : ∀ {vs ws}, Txts vs ws → Txts (vs ++ [.str (S l) t]) (ws ++ [l])
  | _, _, .nil => .cons .nil
  | _, _, .cons h => .cons h.snoc
theorem Txts.strs : ∀ {vs ws}, Txts vs ws → StrsAre vs (ws.map S)
  | _, _, .nil => .nil
  | _, _, .cons h => .cons _ _ h.strs
theorem Txts.length : ∀ {vs ws}, Txts vs ws → vs.length = ws.length
  | _, _, .nil => rfl
  | _, _, .cons h => by simp [h.length]
/-- the heap h grew out of h₀ and holds the pieces at pl -/
structure Pcs (h₀ h : Heap) (pl : Addr) (vs : List Value) : Prop where
  keep : ∀ b o, h₀.get? b = some o → h.get? b = some o
  at_ : ∃ n, h.get? pl = some (listObj vs n)
  fresh : h₀.get? pl = none
  big : h₀.objs.size ≤ h.objs.size
theorem Pcs.list {h₀ h : Heap} {pl : Addr} {vs : List Value} (p : Pcs h₀ h pl vs) : h.IsList pl vs.toArray := let ⟨n, e⟩ := p.at_; ⟨_, e, rfl, n, rfl⟩
theorem Pcs.alloc {h₀ h : Heap} {pl : Addr} {vs : List Value} (p : Pcs h₀ h pl vs) (o : Obj) : Pcs h₀ (h.push o) pl vs :=
  ⟨fun b o' e => Heap.get?_push_of_some _ (p.keep b o' e), p.at_.imp fun _ e => Heap.get?_push_of_some _ e, p.fresh, by rw [Heap.size_push]; exact Nat.le_succ_of_le p.big⟩
theorem Pcs.ext {h₀ h h' : Heap} {pl : Addr} {vs : List Value} (p : Pcs h₀ h pl vs) (k : ∀ b o, h.get? b = some o → h'.get? b = some o) (hs : h.objs.size ≤ h'.objs.size) : Pcs h₀ h' pl vs :=
  ⟨fun b o' e => k _ _ (p.keep b o' e), p.at_.imp fun _ e => k _ _ e, p.fresh, Nat.le_trans p.big hs⟩
theorem Pcs.push {h₀ h : Heap} {pl : Addr} {vs : List Value} (p : Pcs h₀ h pl vs) (v : Value) : Pcs h₀ (h.update pl (Obj.mapSeq fun xs => xs.push v)) pl (vs ++ [v]) := by
  obtain ⟨n, e⟩ := p.at_
  have hs : Heap.SameBut pl h (h.update pl (Obj.mapSeq fun xs => xs.push v)) := Heap.SameBut.update ..
  refine ⟨fun b o' e' => (hs.2 b fun q => ?_).trans (p.keep b o' e'), ⟨n + 1, ?_⟩, p.fresh, by rw [hs.1]; exact p.big⟩
  · rw [q, p.fresh] at e'; cases e'
  · rw [Heap.get?_update_self _ e rfl]
    simp [Obj.mapSeq]
section
variable {prog : Program} {w : World} {A : Around} {E : Value → Shared → Prop} {s : Shared} {a : Addr} {x : Str} {tx : Tok} {l : List Int} {code : List Nat} {groups : Nat}
noncomputable abbrev tgt (a : Addr) (x : Str) (tx : Tok) (code : List Nat) (groups : Nat) : ReTarget := { pattern := .ref a, string := .str x tx, code := code.toArray, text := x.cps, kind := 0, groups := groups, pos := 0, lim := x.cps.size }
theorem wtarget_is {Q : ReTarget → Shared → Prop} (P : PatAt s.heap a code groups)
    (hq : Q (tgt a x tx code groups) s) : wpAny (model prog w) A (reWholeTarget (.ref a) (.str x tx)) Q E s := by
  obtain ⟨ps, pt, fl, ft, sp, h1, h2⟩ := P
  unfold reWholeTarget
  repeat (any_goals (first | assumption | wp_step))
  rw [map_raw, code_back]
  exact hq
theorem slice_is {t : Array Nat} {b e : Nat} {Q : Value → Shared → Prop} (hz : t.size ≤ sizeLine) (hq : Q (.str ⟨t.extract b e⟩ s.toks) { s with toks := s.toks + 1 }) : wpAny (model prog w) A (reSlice t 0 b e) Q E s := by
  unfold reSlice
  have h3 : (t.extract b e).size ≤ t.size := by rw [Array.size_extract]; omega
  exact wpAny_mkStr hq (Nat.le_trans h3 hz)
theorem entry_sub_loop : entryFor table "re.Pattern.sub.loop" = some Builtin.«re.Pattern.sub.loop» := entryFor_of_tree (by kernel_rfl)
theorem next_ok {t : ReTarget} {st : Int} {st' : Nat} {must : Bool} {k : Nat} {r : M} {Q : Option M → Shared → Prop} (hst : st = st') (e : Ends (Sre.forSearch t.code t.text t.groups st' t.lim must) r k) (hk : k < 2 ^ 65) (ho : r.outcome = some .matched) (hq : Q (some r) s) :
    wpAny (model prog w) A (reNextFound t st.toNat must) Q E s := by
  subst hst
  exact toEnd_ok e hk ho hq
theorem next_no {t : ReTarget} {st : Int} {st' : Nat} {must : Bool} {k : Nat} {r : M} {Q : Option M → Shared → Prop} (hst : st = st') (e : Ends (Sre.forSearch t.code t.text t.groups st' t.lim must) r k) (hk : k < 2 ^ 65) (ho : r.outcome = some .failed) (hq : Q none s) :
    wpAny (model prog w) A (reNextFound t st.toNat must) Q E s := by
  subst hst
  exact toEnd_no e hk ho hq
/-- what the loop of sub does behind a match r -/
theorem loop_step {R : Result → Shared → Prop} {f pl : Addr} {cnt : Int} {start done : Nat} {must wc : Bool} {k : Nat} {r : M} {h₀ : Heap} {vs : List Value} {T : List Nat} {φ : List Nat} (P : PatAt h₀ a code groups) (hz : T.length ≤ sizeLine) (L : Pcs h₀ s.heap pl vs) (hvs : vs.length + 2 ≤ sizeLine)
    (e : Ends (Sre.forSearch code.toArray T.toArray groups start T.length must) r k) (hk : k < 2 ^ 65) (ho : r.outcome = some .matched) (hw : wrongSpan groups r = false) (hg : groups ≤ 100)
    (cb : ∀ (s' : Shared) (ma : Addr) (R' : Result → Shared → Prop), (∀ b o, h₀.get? b = some o → s'.heap.get? b = some o) → h₀.objs.size ≤ s'.heap.objs.size → MatchAt s'.heap ma (S T) tx (r.start :: r.handed :: spansOf groups r) →
      (∀ h' tk t, (∀ b o, s'.heap.get? b = some o → h'.get? b = some o) → s'.heap.objs.size ≤ h'.objs.size → R' (.ok (.ret (.str (S φ) t))) { s' with heap := h', toks := tk }) → codeAny (model prog w) A.in1 (.call (.ref f) ⟨[.ref ma], []⟩) R' s')
    (h : ∀ h' tk t1 t2, Pcs h₀ h' pl (vs ++ ((if done < r.start then [.str (S (T.toArray.extract done r.start).toList) t1] else []) ++ [.str (S φ) t2])) →
      codeAny (model prog w) A (.builtin "re.Pattern.sub.loop" ⟨[.ref a, .str (S T) tx, .ref f, rawInt 1, rawInt 0, rawInt (cnt + 1), rawInt r.handed, rawInt r.handed, .bool (r.handed == r.start), .ref pl, .bool wc], []⟩) R { s with heap := h', toks := tk }) :
    codeAny (model prog w) A (.builtin "re.Pattern.sub.loop" ⟨[.ref a, .str (S T) tx, .ref f, rawInt 1, rawInt 0, rawInt cnt, rawInt done, rawInt start, .bool must, .ref pl, .bool wc], []⟩) R s := by
  refine codeAny_builtin entry_sub_loop ?_
  rw [Around.under_plainId (by decide +kernel)]
  unfold Builtin.«re.Pattern.sub.loop»
  have e' : Ends (Sre.forSearch code.toArray (S T).cps groups start (S T).cps.size must) r k := by simpa using e
  repeat (any_goals (first | assumption | (with_reducible refine wtarget_is (P.keeps L.keep) ?_) | ((with_reducible show wpAny _ _ (reNextFound _ _ _) _ _ _); with_reducible refine next_ok rfl e' hk ho ?_) | wp_step))
  have tail : ∀ (h' : Heap) (tk : Nat) (vs' : List Value), Pcs h₀ h' pl vs' → vs'.length + 1 ≤ sizeLine →
      (∀ h'' tk'' t2, Pcs h₀ h'' pl (vs' ++ [.str (S φ) t2]) → codeAny (model prog w) A (.builtin "re.Pattern.sub.loop" ⟨[.ref a, .str (S T) tx, .ref f, rawInt 1, rawInt 0, rawInt (cnt + 1), rawInt r.handed, rawInt r.handed, .bool (r.handed == r.start), .ref pl, .bool wc], []⟩) R { s with heap := h'', toks := tk'' }) →
      wpAny (model prog w) A.in1 (reNewMatch (.ref a) (.str (S T) tx) groups 0 (S T).cps.size r >>= fun found => (holding [found] (call (.ref f) [found]) >>= fun item =>
        if (item != Value.none) = true then (updateSeq pl (fun x => x.push item) >>= fun _ => again (.builtin "re.Pattern.sub.loop" ⟨[.ref a, .str (S T) tx, .ref f, rawInt 1, rawInt 0, rawInt (cnt + 1), rawInt r.handed, rawInt r.handed, .bool (r.handed == r.start), .ref pl, .bool wc], []⟩))
        else again (.builtin "re.Pattern.sub.loop" ⟨[.ref a, .str (S T) tx, .ref f, rawInt 1, rawInt 0, rawInt (cnt + 1), rawInt r.handed, rawInt r.handed, .bool (r.handed == r.start), .ref pl, .bool wc], []⟩)))
        (fun fin s' => match fin with
          | .done f => R (.ok f) s'
          | .again c' => c'.quiet = true ∧ codeAny (model prog w) A c' R s') (fun e s' => R (.error e) s') { s with heap := h', toks := tk } := by
    intro h' tk vs' L' hl hc
    refine wpAny_bind (newMatch_is hw hg ?_)
    have L2 : Pcs h₀ (newMatch h' (S T) tx a 0 (S T).cps.size groups r) pl vs' := (L'.alloc _).alloc _
    have hM : MatchAt (newMatch h' (S T) tx a 0 (S T).cps.size groups r) (h'.objs.size + 1) (S T) tx (r.start :: r.handed :: spansOf groups r) := by
      refine ⟨a, (0 : Nat), (S T).cps.size, r.lastindex, h'.objs.size, ?_, ?_⟩
      · have : (newMatch h' (S T) tx a 0 (S T).cps.size groups r).get? (h'.push (rawTup ((r.start : Int) :: (r.handed : Int) :: spansOf groups r))).objs.size = some (matchObj (S T) tx a (0 : Nat) (S T).cps.size r.lastindex h'.objs.size) := Heap.get?_push_size _ rfl
        rw [Heap.size_push] at this
        exact this
      · exact Heap.get?_push_of_some _ (Heap.get?_push_size _ rfl)
    refine wpAny_bind (wpAny_holding (wpAny_call (cb _ _ _ L2.keep L2.big hM fun h2 tk2 t hk2 hs2 => ?_)))
    have L3 : Pcs h₀ h2 pl vs' := L2.ext hk2 hs2
    obtain ⟨n, e3⟩ := L3.at_
    show wpAny _ _ (if (Value.str (S φ) t != Value.none) = true then _ else _) _ _ _
    rw [if_pos (by rfl)]
    refine wpAny_bind (wpAny_updateSeq e3 rfl ?_ (by rw [List.size_toArray]; omega) (by show (vs'.toArray.push _).size ≤ _; rw [Array.size_push, List.size_toArray]; omega))
    exact wpAny_pure ⟨Code.quiet_builtin _ (by decide +kernel), hc _ _ t (L3.push _)⟩
  by_cases hd : done < r.start
  · simp only [if_pos hd] at h
    rw [if_pos (show ((done : Int)).toNat < r.start from hd)]
    refine wpAny_bind (slice_is (t := T.toArray) (by rw [List.size_toArray]; exact hz) ?_)
    obtain ⟨n, e3⟩ := L.at_
    refine wpAny_bind (wpAny_updateSeq e3 rfl ?_ (by rw [List.size_toArray]; omega) (by show (vs.toArray.push _).size ≤ _; rw [Array.size_push, List.size_toArray]; omega))
    refine tail _ _ (vs ++ [_]) (L.push _) (by rw [List.length_append]; show vs.length + 1 + 1 ≤ _; omega) fun h'' tk'' t2 L'' => h _ _ s.toks t2 ?_
    rw [List.append_assoc] at L''
    have eS : (⟨T.toArray.extract done r.start⟩ : Str) = S (T.toArray.extract done r.start).toList := by simp
    rw [show ((done : Int)).toNat = done from rfl, eS] at L''
    exact L''
  · simp only [if_neg hd] at h
    rw [if_neg (show ¬ ((done : Int)).toNat < r.start from hd)]
    exact tail _ _ vs L (by omega) fun h'' tk'' t2 L'' => h _ _ 0 t2 L''
theorem Pcs.more {h₀ h : Heap} {pl : Addr} {vs : List Value} (L : Pcs h₀ h pl vs) : ∃ n, h.get? pl = some (listObj vs n) := L.at_
theorem join_tail {β : Type} {h₀ h : Heap} {pl : Addr} {vs : List Value} {ws : List (List Nat)} {T : List Nat} {tk : Nat} {C : Value → Sem β} {Q : β → Shared → Prop} (L : Pcs h₀ h pl vs) (W : Txts vs ws) (hz : T.length ≤ sizeLine) (hsum : (ws.map List.length).sum ≤ 2 ^ 24)
    (hC : ∀ tk' t, wpAny (model prog w) A (C (.str (S ws.flatten) t)) Q E { s with heap := h, toks := tk' }) :
    wpAny (model prog w) A (reSlice T.toArray 0 0 0 >>= fun joiner => seqItems? (.ref pl) >>= fun xs => if (xs.getD #[]).isEmpty = true then (pure joiner >>= C) else (call (.builtin "str.join") [joiner, .ref pl] >>= C)) Q E { s with heap := h, toks := tk } := by
  refine wpAny_bind (slice_is (by rw [List.size_toArray]; exact hz) ?_)
  obtain ⟨n, e3⟩ := L.at_
  refine wpAny_bind (wpAny_seqItems e3 rfl ?_)
  have e0 : (⟨T.toArray.extract 0 0⟩ : Str) = S [] := by simp
  rw [e0]
  cases W with
  | nil =>
    rw [if_pos (by rfl)]
    exact wpAny_bind (wpAny_pure (hC _ _))
  | @cons l t vs' ws' W' =>
    rw [if_neg (by simp)]
    refine wpAny_bind (join_list (ys := (l :: ws').map S) L.list ?_ ?_ fun t' k => ?_)
    · rw [List.toList_toArray]; exact (Txts.cons W').strs
    · rw [List.map_map]
      have : (Str.length ∘ S) = List.length := by funext q; exact S_len q
      rw [this, show (S []).length = 0 from rfl, Nat.mul_zero, Nat.add_zero]
      exact hsum
    · rw [txtjoin_S, joinL_nil]
      exact hC _ _
theorem loop_last {R : Result → Shared → Prop} {f : Value} {pl : Addr} {cnt : Int} {start done : Nat} {must : Bool} {k : Nat} {r : M} {h₀ : Heap} {vs : List Value} {ws : List (List Nat)} {T : List Nat} (P : PatAt h₀ a code groups) (hz : T.length ≤ sizeLine) (L : Pcs h₀ s.heap pl vs) (hvs : vs.length + 2 ≤ 2 ^ 20) (W : Txts vs ws)
    (e : Ends (Sre.forSearch code.toArray T.toArray groups start T.length must) r k) (hk : k < 2 ^ 65) (ho : r.outcome = some .failed)
    (hsum : (ws.map List.length).sum + T.length ≤ 2 ^ 23)
    (h : ∀ h' tk t, (∀ b o, h₀.get? b = some o → h'.get? b = some o) → h₀.objs.size ≤ h'.objs.size → R (.ok (.ret (.str (S (ws.flatten ++ T.drop done)) t))) { s with heap := h', toks := tk }) :
    codeAny (model prog w) A (.builtin "re.Pattern.sub.loop" ⟨[.ref a, .str (S T) tx, f, rawInt 1, rawInt 0, rawInt cnt, rawInt done, rawInt start, .bool must, .ref pl, .bool false], []⟩) R s := by
  refine codeAny_builtin entry_sub_loop ?_
  rw [Around.under_plainId (by decide +kernel)]
  unfold Builtin.«re.Pattern.sub.loop»
  have e' : Ends (Sre.forSearch code.toArray (S T).cps groups start (S T).cps.size must) r k := by simpa using e
  repeat (any_goals (first | assumption | (with_reducible refine wtarget_is (P.keeps L.keep) ?_) | ((with_reducible show wpAny _ _ (reNextFound _ _ _) _ _ _); with_reducible refine next_no rfl e' hk ho ?_) | wp_step))
  have hsz : (S T).cps.size = T.length := by simp
  have h24 : sizeLine = 2 ^ 24 := rfl
  by_cases hd : done < T.length
  · rw [if_pos (show ((done : Int)).toNat < (S T).cps.size by rw [hsz]; exact hd)]
    refine wpAny_bind (slice_is (t := T.toArray) (by rw [List.size_toArray]; exact hz) ?_)
    obtain ⟨n, e3⟩ := L.at_
    refine wpAny_bind (wpAny_updateSeq e3 rfl ?_ (by rw [List.size_toArray]; omega) (by show (vs.toArray.push _).size ≤ _; rw [Array.size_push, List.size_toArray]; omega))
    have eS : (⟨T.toArray.extract ((done : Int)).toNat (tgt a (S T) tx code groups).lim⟩ : Str) = S (T.drop done) := by
      show (⟨T.toArray.extract done (S T).cps.size⟩ : Str) = _
      rw [hsz]; simp
      exact List.take_of_length_le (by rw [List.length_drop]; exact Nat.le_refl _)
    rw [eS]
    refine join_tail (T := T) (L.push _) W.snoc hz ?_ fun tk' t => ?_
    · rw [List.map_append, List.sum_append]
      show _ + ((T.drop done).length + 0) ≤ _
      rw [List.length_drop]; omega
    · show wpAny _ _ (ret _) _ _ _
      have L2 := L.push (.str (S (T.drop done)) s.toks)
      rw [List.flatten_append]
      have : [T.drop done].flatten = T.drop done := by simp
      rw [this]
      exact wpAny_pure (h _ _ _ L2.keep L2.big)
  · rw [if_neg (show ¬ ((done : Int)).toNat < (S T).cps.size by rw [hsz]; exact hd)]
    refine join_tail (T := T) L W hz (by omega) fun tk' t => ?_
    show wpAny _ _ (ret _) _ _ _
    have : T.drop done = [] := List.drop_eq_nil_of_le (by omega)
    rw [this, List.append_nil] at h
    exact wpAny_pure (h _ _ _ L.keep L.big)
/-- what is left of a text for sub: the pieces that it makes from here -/
inductive Rest (code : Array Nat) (groups : Nat) (T : List Nat) (G : List Int → List Nat → Prop) : Nat → Nat → Bool → List (List Nat) → Prop
  | stop {st dn : Nat} {mu : Bool} {k : Nat} {r : M} : Ends (Sre.forSearch code T.toArray groups st T.length mu) r k → k < 2 ^ 65 → r.outcome = some .failed → Rest code groups T G st dn mu [T.drop dn]
  | step {st dn : Nat} {mu : Bool} {k : Nat} {r : M} {φ : List Nat} {ps : List (List Nat)} : Ends (Sre.forSearch code T.toArray groups st T.length mu) r k → k < 2 ^ 65 → r.outcome = some .matched → wrongSpan groups r = false →
      G (r.start :: r.handed :: spansOf groups r) φ → Rest code groups T G r.handed r.handed (r.handed == r.start) ps → Rest code groups T G st dn mu ((T.toArray.extract dn r.start).toList :: φ :: ps)
/-- the callback f gives φ for a match of these spans -/
noncomputable abbrev Calls1 (prog : Program) (w : World) (A : Around) (h₀ : Heap) (f : Addr) (T : List Nat) (tx : Tok) (G : List Int → List Nat → Prop) : Prop :=
  ∀ (s' : Shared) (ma : Addr) (R' : Result → Shared → Prop) (l : List Int) (φ : List Nat), G l φ → (∀ b o, h₀.get? b = some o → s'.heap.get? b = some o) → h₀.objs.size ≤ s'.heap.objs.size → MatchAt s'.heap ma (S T) tx l →
      (∀ h' tk t, (∀ b o, s'.heap.get? b = some o → h'.get? b = some o) → s'.heap.objs.size ≤ h'.objs.size → R' (.ok (.ret (.str (S φ) t))) { s' with heap := h', toks := tk }) → codeAny (model prog w) A.in1 (.call (.ref f) ⟨[.ref ma], []⟩) R' s'
theorem loop_all {f pl : Addr} {h₀ : Heap} {T : List Nat} {G : List Int → List Nat → Prop} {R : Result → Shared → Prop} (P : PatAt h₀ a code groups) (hg : groups ≤ 100) (hz : T.length ≤ 2 ^ 22) (cb : Calls1 prog w A h₀ f T tx G) :
    ∀ {start done : Nat} {must : Bool} {ps : List (List Nat)}, Rest code.toArray groups T G start done must ps → ∀ (s : Shared) (cnt : Int) (vs : List Value) (ws : List (List Nat)), Pcs h₀ s.heap pl vs → Txts vs ws → vs.length + ps.length ≤ 2 ^ 19 →
      (ws.map List.length).sum + (ps.map List.length).sum ≤ 2 ^ 22 →
      (∀ h' tk t, (∀ b o, h₀.get? b = some o → h'.get? b = some o) → h₀.objs.size ≤ h'.objs.size → R (.ok (.ret (.str (S (ws.flatten ++ ps.flatten)) t))) { s with heap := h', toks := tk }) →
      codeAny (model prog w) A (.builtin "re.Pattern.sub.loop" ⟨[.ref a, .str (S T) tx, .ref f, rawInt 1, rawInt 0, rawInt cnt, rawInt done, rawInt start, .bool must, .ref pl, .bool false], []⟩) R s := by
  have h24 : sizeLine = 2 ^ 24 := rfl
  intro start done must ps hr
  induction hr with
  | stop e hk ho =>
    intro s cnt vs ws L W hn hs h
    refine loop_last P (by omega) L (by simp only [List.length_cons, List.length_nil] at hn; omega) W e hk ho (by omega) fun h' tk t k1 k2 => ?_
    have := h h' tk t k1 k2
    simpa using this
  | @step st dn mu k r φ ps e hk ho hw hG _ ih =>
    intro s cnt vs ws L W hn hs h
    simp only [List.length_cons, List.map_cons, List.sum_cons] at hn hs
    refine loop_step (φ := φ) P (by omega) L (by omega) e hk ho hw hg (fun s' ma R' hk' hb' M hR' => cb s' ma R' _ _ hG hk' hb' M hR') fun h' tk t1 t2 L' => ?_
    · by_cases hd : dn < r.start
      · simp only [if_pos hd] at L'
        refine ih { s with heap := h', toks := tk } _ _ (ws ++ [(T.toArray.extract dn r.start).toList, φ]) L' (by have := (W.snoc (l := (T.toArray.extract dn r.start).toList) (t := t1)).snoc (l := φ) (t := t2); simpa using this) (by simp only [List.length_append, List.length_cons, List.length_nil]; omega) ?_ fun h'' tk' t k1 k2 => ?_
        · rw [List.map_append, List.sum_append]
          simp only [List.map_cons, List.map_nil, List.sum_cons, List.sum_nil]
          omega
        · have := h h'' tk' t k1 k2
          simpa using this
      · simp only [if_neg hd, List.nil_append] at L'
        have e0 : (T.toArray.extract dn r.start).toList = [] := by
          simp only [Array.toList_extract, List.extract_eq_drop_take]
          rw [show r.start - dn = 0 by omega]; simp
        rw [e0] at hs h
        refine ih { s with heap := h', toks := tk } _ _ (ws ++ [φ]) L' W.snoc (by simp only [List.length_append, List.length_cons, List.length_nil]; omega) ?_ fun h'' tk' t k1 k2 => ?_
        · rw [List.map_append, List.sum_append]
          simp only [List.map_cons, List.map_nil, List.sum_cons, List.sum_nil, List.length_nil] at hs ⊢
          omega
        · have := h h'' tk' t k1 k2
          simpa using this
end
end Mine
end
section
theorem Mine.off_ME : True := by (w_top off; trivial)
open PySem PySem.W PyProof.Rows PySem.Spec PySem.Calls
set_option Elab.async false
set_option maxRecDepth 100000
namespace Mine
open PySem.Builtin.Re
open PySem.Sre (M)
section
variable {prog : Program} {w : World} {A : Around} {E : Value → Shared → Prop} {s : Shared} {a : Addr} {x : Str} {tx : Tok} {l : List Int} {code : List Nat} {groups : Nat}
theorem lk_fn_call : typeLookup (.type "function") "__call__" = pure (some (.builtin "function.__call__")) := by rw [typeLookup_type, builtinLookup_eq_fast]; kernel_rfl
theorem sub_str_ba : isSubtype (.type "str") (.type "bytearray") = pure false := by rw [isSubtype_type]; kernel_rfl
theorem sub_call {f : Addr} {fo : Obj} {T : List Nat} {G : List Int → List Nat → Prop} {ps : List (List Nat)} {Q : Value → Shared → Prop} (P : PatAt s.heap a code groups) (hg : groups ≤ 100) (hz : T.length ≤ 2 ^ 22) (hf : s.heap.get? f = some fo) (hfc : fo.cls = .type "function")
    (cb : Calls1 prog w A s.heap f T tx G) (hr : Rest code.toArray groups T G 0 0 false ps) (hn : ps.length ≤ 2 ^ 19) (hs : (ps.map List.length).sum ≤ 2 ^ 22)
    (hq : ∀ h' tk t, (∀ b o, s.heap.get? b = some o → h'.get? b = some o) → s.heap.objs.size ≤ h'.objs.size → Q (.str (S ps.flatten) t) { s with heap := h', toks := tk }) :
    wpAny (model prog w) A (call (.builtin "re.Pattern.sub") [.ref a, .ref f, .str (S T) tx]) Q E s := by
  obtain ⟨ps', pt, fl, ft, sp, h1, h2⟩ := id P
  have hT : s.TypeIs (.ref a) "re.Pattern" := ⟨_, h1, rfl⟩
  have hF : s.TypeIs (.ref f) "function" := ⟨_, hf, hfc⟩
  have f1 := lk_fn_call
  have f2 := sub_str_ba
  refine wpAny_call (codeAny_call_builtin slot_re_Pattern_sub.plain entry_re_Pattern_sub (slot_re_Pattern_sub.check _ _ _ _ _ _ _ _ hT (args_re_Pattern_sub_3 _ _ _) ?_))
  unfold Builtin.«re.Pattern.sub» reSubstitute
  repeat (any_goals (first | assumption | (with_reducible refine wtarget_is P ?_) | wp_step))
  refine ⟨Code.quiet_builtin _ (by decide +kernel), ?_⟩
  have L : Pcs s.heap (s.heap.push (listObj [] 0)) s.heap.objs.size [] :=
    ⟨fun b o e => Heap.get?_push_of_some _ e, ⟨0, Heap.get?_push_size _ rfl⟩, Heap.get?_none_of_le (Nat.le_refl _), by rw [Heap.size_push]; exact Nat.le_succ _⟩
  refine loop_all P hg hz cb hr { s with heap := s.heap.push (listObj [] 0) } 0 [] [] L .nil (by simpa using hn) (by simpa using hs) fun h' tk t k1 k2 => ?_
  have := hq h' tk t k1 k2
  simpa using this
end
end Mine
end
section
theorem Mine.off_MN : True := by (w_top off; trivial)
open PySem
set_option Elab.async false
set_option maxRecDepth 100000
namespace Mine
open PySem.Sre (M Loop Wait Op)
/-- a backslash ahead of the signs of f -/
def escF (f : Nat → Bool) (v : List Nat) : List Nat := v.flatMap fun c => if f c then [92, c] else [c]
theorem escL_eq (v : List Nat) : escL v = escF isEsc v := rfl
theorem escF_cons_esc {f : Nat → Bool} {x : Nat} {v : List Nat} (h : f x = true) : escF f (x :: v) = 92 :: x :: escF f v := by unfold escF; rw [List.flatMap_cons, if_pos h]; rfl
theorem escF_cons {f : Nat → Bool} {x : Nat} {v : List Nat} (h : f x = false) : escF f (x :: v) = x :: escF f v := by unfold escF; rw [List.flatMap_cons, h]; rfl
theorem escF_plain {f : Nat → Bool} : ∀ {v : List Nat}, (∀ c ∈ v, f c = false) → escF f v = v
  | [], _ => rfl
  | x :: t, h => by rw [escF_cons (h x (.head _)), escF_plain fun c hc => h c (.tail _ hc)]
theorem escF_app {f : Nat → Bool} (a b : List Nat) : escF f (a ++ b) = escF f a ++ escF f b := by unfold escF; rw [List.flatMap_append]
/-- what lies ahead of the first sign of f -/
theorem find_split (f : Nat → Bool) : ∀ v : List Nat, (∀ c ∈ v, f c = false) ∨ ∃ pre x post, v = pre ++ x :: post ∧ (∀ c ∈ pre, f c = false) ∧ f x = true
  | [] => .inl (by intro c h; cases h)
  | x :: t => by
    cases h : f x with
    | true => exact .inr ⟨[], x, t, rfl, (by intro c h; cases h), h⟩
    | false =>
      rcases find_split f t with q | ⟨pre, y, post, e, q1, q2⟩
      · left; intro c hc; rcases List.mem_cons.mp hc with rfl | hc; exact h; exact q c hc
      · right; refine ⟨x :: pre, y, post, by rw [e]; rfl, ?_, q2⟩
        intro c hc; rcases List.mem_cons.mp hc with rfl | hc; exact h; exact q1 c hc
theorem admitted_yes {f : Nat → Bool} {code T : List Nat} (hs : SetIs code 5 f) (m : M) (hc : m.code = code.toArray) (ht : m.text = T.toArray) (hlim : m.lim = T.length) : ∀ (pre : List Nat) (x : Nat) (post : List Nat) (fuel s : Nat) (sn : Sre.Seen), T.drop s = pre ++ x :: post → (∀ c ∈ pre, f c = false) → f x = true → pre.length < fuel →
    ∃ sn', m.admitted fuel s sn = .ok (some (s + pre.length), sn')
  | [], x, post, fuel + 1, s, sn, e, _, hx, _ => by
    have a := at_drop (T := T) e
    unfold M.admitted
    rw [hlim, if_neg (by omega), ht, a.2.1, hc]
    obtain ⟨sn', es⟩ := hs x sn
    rw [List.size_toArray, es, hx]
    exact ⟨sn', rfl⟩
  | y :: pre, x, post, fuel + 1, s, sn, e, hp, hx, hf => by
    have a := at_drop (T := T) e
    unfold M.admitted
    rw [hlim, if_neg (by omega), ht, a.2.1, hc]
    obtain ⟨s1, es⟩ := hs y sn
    rw [List.size_toArray, es, hp y (.head _)]
    obtain ⟨s2, e2⟩ := admitted_yes hs m hc ht hlim pre x post fuel (s + 1) s1 a.2.2 (fun c hc => hp c (.tail _ hc)) hx (by simp only [List.length_cons] at hf; omega)
    refine ⟨s2, ?_⟩
    show m.admitted fuel (s + 1) s1 = _
    rw [e2, List.length_cons, Nat.add_assoc, Nat.add_comm 1]
  | _, _, _, 0, _, _, _, _, _, hf => absurd hf (Nat.not_lt_zero _)
theorem admitted_no {f : Nat → Bool} {code T : List Nat} (hs : SetIs code 5 f) (m : M) (hc : m.code = code.toArray) (ht : m.text = T.toArray) (hlim : m.lim = T.length) : ∀ (fuel s : Nat) (sn : Sre.Seen), (∀ c ∈ T.drop s, f c = false) →
    ∃ sn', m.admitted fuel s sn = .ok (none, sn')
  | 0, _, _, _ => ⟨_, rfl⟩
  | fuel + 1, s, sn, h => by
    unfold M.admitted
    rw [hlim]
    by_cases hl : s ≥ T.length
    · rw [if_pos hl]; exact ⟨_, rfl⟩
    · rw [if_neg hl, ht, hc]
      obtain ⟨y, t, e⟩ : ∃ y t, T.drop s = y :: t := by
        cases q : T.drop s with
        | nil => have := List.drop_eq_nil_iff.mp q; omega
        | cons y t => exact ⟨y, t, rfl⟩
      have a := at_drop (T := T) e
      rw [a.2.1]
      obtain ⟨s1, es⟩ := hs y sn
      rw [List.size_toArray, es, h y (by rw [e]; exact .head _)]
      exact admitted_no hs m hc ht hlim fuel (s + 1) s1 (by rw [a.2.2]; intro c hc; exact h c (by rw [e]; exact .tail _ hc))
theorem from_yes {f : Nat → Bool} {code T pre post : List Nat} {x pos : Nat} (hs : SetIs code 5 f) (h0 : code.getD 0 0 = 14) (hfs : code.getD 2 0 = 4) (e : T.drop pos = pre ++ x :: post) (hp : ∀ c ∈ pre, f c = false) (hx : f x = true) (m : M) (Y : Sre.Seen → M) (hc : m.code = code.toArray) (ht : m.text = T.toArray) (hlim : m.lim = T.length)
    (hY : ∀ sn, ({ m with mustAdvance := false, seen := sn } : M).attemptAt (pos + pre.length) true = Y sn) : ∃ sn, m.attemptFrom pos true = Y sn := by
  have hlen : pre.length + 1 ≤ T.length - pos := by
    have := congrArg List.length e
    simp only [List.length_drop, List.length_append, List.length_cons] at this
    omega
  have hm : m.hasFirstSet = true := by
    unfold M.hasFirstSet
    rw [hc, arr code 2, arr code 0, h0, hfs]
    rfl
  unfold M.attemptFrom
  rw [hm, if_neg (by decide)]
  obtain ⟨sn', ea⟩ := admitted_yes hs m hc ht hlim pre x post (m.lim + 1 - pos) pos m.seen e hp hx (by omega)
  rw [ea]
  exact ⟨sn', hY sn'⟩
theorem from_no {f : Nat → Bool} {code T : List Nat} {pos : Nat} (hs : SetIs code 5 f) (h0 : code.getD 0 0 = 14) (hfs : code.getD 2 0 = 4) (hp : ∀ c ∈ T.drop pos, f c = false) (m : M) (Y : Sre.Seen → M) (hc : m.code = code.toArray) (ht : m.text = T.toArray) (hlim : m.lim = T.length)
    (hY : ∀ sn, ({ m with seen := sn } : M).say false = Y sn) : ∃ sn, m.attemptFrom pos true = Y sn := by
  have hm : m.hasFirstSet = true := by
    unfold M.hasFirstSet
    rw [hc, arr code 2, arr code 0, h0, hfs]
    rfl
  unfold M.attemptFrom
  rw [hm, if_neg (by decide)]
  obtain ⟨sn', ea⟩ := admitted_no hs m hc ht hlim (m.lim + 1 - pos) pos m.seen hp
  rw [ea]
  exact ⟨sn', hY sn'⟩
theorem search_set {f : Nat → Bool} {code T pre post : List Nat} {x groups pos pc : Nat} (hs : SetIs code 5 f) (hh : Sre.header code.toArray = (1, pc)) (h0 : code.getD 0 0 = 14) (hfs : code.getD 2 0 = 4) (e : T.drop pos = pre ++ x :: post) (hp : ∀ c ∈ pre, f c = false) (hx : f x = true) :
    ∃ sn, Sre.forSearch code.toArray T.toArray groups pos T.length false = (sC code T T.length).m (atStart (rg0 groups pc pos) (pos + pre.length) true) none sn := by
  have hlen : pre.length + 1 ≤ T.length - pos := by
    have := congrArg List.length e
    simp only [List.length_drop, List.length_append, List.length_cons] at this
    omega
  obtain ⟨h1, rfl⟩ : (Sre.header code.toArray).1 = 1 ∧ (Sre.header code.toArray).2 = pc := by rw [hh]; exact ⟨rfl, rfl⟩
  unfold Sre.forSearch
  dsimp only
  rw [h1, if_neg (by simp; omega)]
  exact from_yes hs h0 hfs e hp hx _ _ rfl rfl rfl (fun _ => rfl)
theorem search_set_no {f : Nat → Bool} {code T : List Nat} {groups pos pc : Nat} (hs : SetIs code 5 f) (hh : Sre.header code.toArray = (1, pc)) (h0 : code.getD 0 0 = 14) (hfs : code.getD 2 0 = 4) (hp : ∀ c ∈ T.drop pos, f c = false) :
    Fails (Sre.forSearch code.toArray T.toArray groups pos T.length false) := by
  by_cases hsh : T.length < pos ∨ T.length - pos < 1
  · exact search_short hh hsh
  obtain ⟨h1, rfl⟩ : (Sre.header code.toArray).1 = 1 ∧ (Sre.header code.toArray).2 = pc := by rw [hh]; exact ⟨rfl, rfl⟩
  have q : ∃ sn, Sre.forSearch code.toArray T.toArray groups pos T.length false = (sC code T T.length).m (rg0 groups (Sre.header code.toArray).2 pos) (some false) sn := by
    unfold Sre.forSearch
    dsimp only
    rw [h1, if_neg (by simp; omega)]
    exact from_no hs h0 hfs hp _ _ rfl rfl rfl (fun _ => rfl)
  obtain ⟨sn, q⟩ := q
  rw [q]
  exact Go.refl.fails (by decide) rfl sn
end Mine
end
section
theorem Mine.off_MO : True := by (w_top off; trivial)
open PySem
set_option Elab.async false
set_option maxRecDepth 100000
namespace Mine
open PySem.Sre (M Loop Wait Op)
/-- a code that marks one sign of the set f -/
structure OneSet (code : List Nat) (pc L : Nat) (f : Nat → Bool) : Prop where
  head : Sre.header code.toArray = (1, pc)
  info : code.getD 0 0 = 14
  flag : code.getD 2 0 = 4
  first : SetIs code 5 f
  size : pc + 5 + L < code.length
  m0 : Sre.ops[code.getD pc 0]? = some .MARK
  w0 : code.getD (pc + 1) 0 = 0
  set : Sre.ops[code.getD (pc + 2) 0]? = some .IN
  skip : code.getD (pc + 3) 0 = L
  body : SetIs code (pc + 4) f
  m1 : Sre.ops[code.getD (pc + 3 + L) 0]? = some .MARK
  w1 : code.getD (pc + 3 + L + 1) 0 = 1
  last : Sre.ops[code.getD (pc + 5 + L) 0]? = some .SUCCESS
theorem one_esc : OneSet cEsc 10 6 isEsc := ⟨rfl, rfl, rfl, s_esc 5 rfl rfl rfl rfl rfl, by decide, rfl, rfl, rfl, rfl, s_esc 14 rfl rfl rfl rfl rfl, rfl, rfl, rfl⟩
theorem one_til : OneSet cTilde 15 11 isTil := ⟨rfl, rfl, rfl, s_til 5 rfl (by decide) rfl, by decide, rfl, rfl, rfl, rfl, s_til 19 rfl (by decide) rfl, rfl, rfl, rfl⟩
theorem one_yes {code T pre post : List Nat} {pc L x pos : Nat} {f : Nat → Bool} (O : OneSet code pc L f) (e : T.drop pos = pre ++ x :: post) (hp : ∀ c ∈ pre, f c = false) (hx : f x = true) :
    EndsIn (Sre.forSearch code.toArray T.toArray 1 pos T.length false) true (pos + pre.length) (pos + pre.length + 1) #[some (pos + pre.length), some (pos + pre.length + 1)] 1 1 := by
  obtain ⟨sn, q⟩ := search_set (groups := 1) O.first O.head O.info O.flag e hp hx
  rw [q]
  have a0 := at_drop (drop_app e)
  let c := sC code T T.length
  let s := pos + pre.length
  let f0 := nsFrame pc s true
  have hsz := O.size
  have harr : code.toArray.size = code.length := by simp
  let R (pc' p h : Nat) (m : Array (Option Nat)) (lm li : Int) (fs : List Sre.Frame) (w : Nat) : Rg := { start := s, pc := pc', pos := p, handed := h, outer := true, marks := m, lastmark := lm, lastindex := li, loops := #[], inner := none, frames := fs, weight := w }
  have g1 : Go c (R pc s s #[none, none] (-1) (-1) [f0] 1) none (R (pc + 2) s s #[some s, none] 0 (-1) [f0] 1) none 1 :=
    go_mark (i := 0) (by show pc < code.toArray.size; omega) (by show Sre.ops[code.toArray.getD pc 0]? = _; rw [arr]; exact O.m0) (by show code.toArray.getD (pc + 1) 0 = 0; rw [arr]; exact O.w0) (by show ((0 : Nat) : Int) ≤ -1 + 1; decide)
  have g2 : Go c (R (pc + 2) s s #[some s, none] 0 (-1) [f0] 1) none (R (pc + 2 + (1 + code.toArray.getD (pc + 2 + 1) 0)) (s + 1) s #[some s, none] 0 (-1) [f0] 1) none 1 :=
    go_in_yes (by show pc + 2 < code.toArray.size; omega) (by show Sre.ops[code.toArray.getD (pc + 2) 0]? = _; rw [arr]; exact O.set) a0.1 (fun sn => by
      show ∃ sn', Sre.inSet code.toArray (T.toArray.getD s 0) code.toArray.size (pc + 2 + 2) true sn = _
      rw [a0.2.1, harr]
      obtain ⟨sn', q⟩ := O.body x sn
      exact ⟨sn', by rw [q, hx]⟩)
  have e2 : pc + 2 + (1 + code.toArray.getD (pc + 2 + 1) 0) = pc + 3 + L := by rw [arr, show pc + 2 + 1 = pc + 3 from rfl, O.skip]; omega
  rw [e2] at g2
  have g3 : Go c (R (pc + 3 + L) (s + 1) s #[some s, none] 0 (-1) [f0] 1) none (R (pc + 3 + L + 2) (s + 1) s #[some s, some (s + 1)] 1 1 [f0] 1) none 1 :=
    go_mark (i := 1) (by show pc + 3 + L < code.toArray.size; omega) (by show Sre.ops[code.toArray.getD (pc + 3 + L) 0]? = _; rw [arr]; exact O.m1) (by show code.toArray.getD (pc + 3 + L + 1) 0 = 1; rw [arr]; exact O.w1) (by show ((1 : Nat) : Int) ≤ 0 + 1; decide)
  have e3 : pc + 3 + L + 2 = pc + 5 + L := by omega
  rw [e3] at g3
  have g4 : Go c (R (pc + 5 + L) (s + 1) s #[some s, some (s + 1)] 1 1 [f0] 1) none (R (pc + 5 + L) (s + 1) (s + 1) #[some s, some (s + 1)] 1 1 [f0] 1) (some true) 1 :=
    go_succ (by show pc + 5 + L < code.toArray.size; omega) (by show Sre.ops[code.toArray.getD (pc + 5 + L) 0]? = _; rw [arr]; exact O.last) (by intro _ h; cases h)
  have g5 : Go c (R (pc + 5 + L) (s + 1) (s + 1) #[some s, some (s + 1)] 1 1 [f0] 1) (some true) (R pc s (s + 1) #[some s, some (s + 1)] 1 1 [] 0) (some true) 1 := go_next_yes (f := f0) (fs := []) rfl rfl
  exact ((((g1.trans g2).trans g3).trans g4).trans g5).fin (by omega) rfl sn
/-- what the callback of sub gives: a written text, then the first group -/
noncomputable def Gp (pre T : List Nat) (l : List Int) (φ : List Nat) : Prop := ∃ a b c d : Nat, l = [(a : Int), (b : Int), (c : Int), (d : Int)] ∧ c < d ∧ d ≤ T.length ∧ φ = pre ++ (T.toArray.extract c d).toList
theorem EndsIn.step {T : List Nat} {code : Array Nat} {st dn s h c d : Nat} {mu : Bool} {li : Int} {pre φ : List Nat} {ps : List (List Nat)} (E : EndsIn (Sre.forSearch code T.toArray 1 st T.length mu) true s h #[some c, some d] 1 li) (hcd : c < d) (hd : d ≤ T.length) (hφ : φ = pre ++ (T.toArray.extract c d).toList) (hsh : s ≠ h)
    (R : Rest code 1 T (Gp pre T) h h false ps) : Rest code 1 T (Gp pre T) st dn mu ((T.toArray.extract dn s).toList :: φ :: ps) := by
  obtain ⟨r, k, e, hk, ho, h1, h2, h3, h4, h5⟩ := E
  subst h1
  subst h2
  refine .step e hk ho ?_ ?_ ?_
  · unfold wrongSpan
    rw [h3, h4]
    show ((decide (((2 * 0 + 1 : Nat) : Int) ≤ 1) && decide (d < c)) || false) = false
    rw [decide_eq_false (show ¬ d < c by omega), Bool.and_false]; rfl
  · refine ⟨r.start, r.handed, c, d, ?_, hcd, hd, hφ⟩
    unfold spansOf
    rw [h3, h4]; rfl
  · have : (r.handed == r.start) = false := by simpa using fun q => hsh q.symm
    rw [this]; exact R
theorem Fails.stop {T : List Nat} {code : Array Nat} {groups st dn : Nat} {mu : Bool} {G : List Int → List Nat → Prop} (F : Fails (Sre.forSearch code T.toArray groups st T.length mu)) : Rest code groups T G st dn mu [T.drop dn] := by
  obtain ⟨r, k, e, hk, ho⟩ := F
  exact .stop e hk ho
theorem extract_drop (T : List Nat) (a b : Nat) : (T.toArray.extract a b).toList = (T.drop a).take (b - a) := by simp
/-- all that sub makes of a text by a set -/
theorem one_rest {code T : List Nat} {pc L : Nat} {f : Nat → Bool} (O : OneSet code pc L f) : ∀ (n st : Nat), T.length - st ≤ n → ∃ ps, Rest code.toArray 1 T (Gp [92] T) st st false ps ∧ ps.flatten = escF f (T.drop st) ∧ ps.length ≤ 2 * (T.length - st) + 1
  | n, st, hn => by
    rcases find_split f (T.drop st) with h | ⟨pre, x, post, e, hp, hx⟩
    · exact ⟨_, (search_set_no O.first O.head O.info O.flag h).stop, by rw [escF_plain h]; simp, by simp⟩
    · have E := one_yes O e hp hx
      have hlen : T.length - st = pre.length + post.length + 1 := by
        have := congrArg List.length e
        simp only [List.length_drop, List.length_append, List.length_cons] at this
        omega
      cases n with
      | zero => omega
      | succ n =>
        have hd1 : T.drop (st + pre.length) = x :: post := drop_app e
        have hd2 : T.drop (st + pre.length + 1) = post := (at_drop hd1).2.2
        obtain ⟨ps, R, h1, h2⟩ := one_rest (T := T) O n (st + pre.length + 1) (by omega)
        refine ⟨_, E.step (dn := st) (pre := [92]) (by omega) (by omega) rfl (by omega) R, ?_, ?_⟩
        · rw [List.flatten_cons, List.flatten_cons, h1, hd2, e, escF_app, escF_plain hp, escF_cons_esc hx, extract_drop, extract_drop, e, hd1]
          have w1 : (pre ++ x :: post).take (st + pre.length - st) = pre := by rw [show st + pre.length - st = pre.length by omega, List.take_left']; rfl
          have w2 : (x :: post).take (st + pre.length + 1 - (st + pre.length)) = [x] := by rw [show st + pre.length + 1 - (st + pre.length) = 1 by omega]; rfl
          rw [w1, w2]; rfl
        · simp only [List.length_cons]; omega
end Mine
end
section
theorem Mine.off_MP : True := by (w_top off; trivial)
open PySem
set_option Elab.async false
set_option maxRecDepth 100000
namespace Mine
open PySem.Sre (M Loop Wait Op)
noncomputable abbrev unR (s : Nat) (o : Bool) : Rg := { start := s, pc := 9, pos := s, handed := s, outer := o, marks := #[none, none], lastmark := -1, lastindex := -1, loops := #[], inner := none, frames := [nsFrame 9 s o], weight := 1 }
theorem un_go {T : List Nat} : ∀ (pre rest : List Nat) (s : Nat) (o : Bool), T.drop s = pre ++ rest → (∀ c ∈ pre, c ≠ 92) → ∃ o' k, Go (sC cUnesc T T.length) (unR s o) none (unR (s + pre.length) o') none k ∧ k ≤ 2 * pre.length
  | [], _, s, o, _, _ => ⟨o, 0, Go.refl, by simp⟩
  | x :: pre, rest, s, o, e, h => by
    have a0 := at_drop (T := T) e
    have g1 : Go (sC cUnesc T T.length) (unR s o) none (unR s o) (some false) 1 := go_lit_no (x := 92) (by show 9 < 17; decide) rfl rfl (fun _ => by show T.toArray.getD s 0 ≠ 92; rw [a0.2.1]; exact h x (.head _))
    have g2 : Go (sC cUnesc T T.length) (unR s o) (some false) (unR (s + 1) false) none 1 := go_next_no (c := sC cUnesc T T.length) (r := unR s o) (f := nsFrame 9 s o) (fs := []) rfl rfl rfl a0.1 (by show 1 ≤ 16777216; decide) (by show 1 ≤ 1; decide) (fun _ => by show (1 : Nat) ≠ 4; decide)
    obtain ⟨o', k, g3, hk⟩ := un_go (T := T) pre rest (s + 1) false a0.2.2 (fun c hc => h c (.tail _ hc))
    have e3 : s + (x :: pre).length = s + 1 + pre.length := by simp only [List.length_cons]; omega
    exact ⟨o', _, by rw [e3]; exact (g1.trans g2).trans g3, by simp only [List.length_cons]; omega⟩
theorem un_yes {T pre post : List Nat} {x pos : Nat} (e : T.drop pos = pre ++ 92 :: x :: post) (hp : ∀ c ∈ pre, c ≠ 92) (hx : x ≠ 10) (hl : T.length < 2 ^ 30) :
    EndsIn (Sre.forSearch cUnesc.toArray T.toArray 1 pos T.length false) true (pos + pre.length) (pos + pre.length + 2) #[some (pos + pre.length + 1), some (pos + pre.length + 2)] 1 1 := by
  have hlen : T.length - pos = pre.length + post.length + 2 := by
    have := congrArg List.length e
    simp only [List.length_drop, List.length_append, List.length_cons] at this
    omega
  obtain ⟨sn, q⟩ := search_at (code := cUnesc) (T := T) (groups := 1) (pos := pos) (least := 2) (pc := 9) (last := T.length) rfl (by decide) (by omega) (by omega) rfl
  rw [q]
  have a0 := at_drop (drop_app e)
  have a1 := at_drop a0.2.2
  let c := sC cUnesc T T.length
  let s := pos + pre.length
  obtain ⟨o, k, g0, hk⟩ := un_go (T := T) pre (92 :: x :: post) pos true e hp
  let f0 := nsFrame 9 s o
  let R (pc' p h : Nat) (ou : Bool) (m : Array (Option Nat)) (lm li : Int) (fs : List Sre.Frame) (w : Nat) : Rg := { start := s, pc := pc', pos := p, handed := h, outer := ou, marks := m, lastmark := lm, lastindex := li, loops := #[], inner := none, frames := fs, weight := w }
  have g1 : Go c (unR s o) none (R 11 (s + 1) s o #[none, none] (-1) (-1) [f0] 1) none 1 := go_lit_yes (x := 92) (by show 9 < 17; decide) rfl rfl a0.1 a0.2.1
  have g2 : Go c (R 11 (s + 1) s o #[none, none] (-1) (-1) [f0] 1) none (R 13 (s + 1) s o #[some (s + 1), none] 0 (-1) [f0] 1) none 1 := go_mark (i := 0) (by show 11 < 17; decide) rfl rfl (by show ((0 : Nat) : Int) ≤ -1 + 1; decide)
  have g3 : Go c (R 13 (s + 1) s o #[some (s + 1), none] 0 (-1) [f0] 1) none (R 14 (s + 1 + 1) s o #[some (s + 1), none] 0 (-1) [f0] 1) none 1 := go_any_yes (by show 13 < 17; decide) rfl a1.1 (by show T.toArray.getD (s + 1) 0 ≠ 10; rw [a1.2.1]; exact hx)
  have g4 : Go c (R 14 (s + 1 + 1) s o #[some (s + 1), none] 0 (-1) [f0] 1) none (R 16 (s + 1 + 1) s o #[some (s + 1), some (s + 1 + 1)] 1 1 [f0] 1) none 1 := go_mark (i := 1) (by show 14 < 17; decide) rfl rfl (by show ((1 : Nat) : Int) ≤ 0 + 1; decide)
  have g5 : Go c (R 16 (s + 1 + 1) s o #[some (s + 1), some (s + 1 + 1)] 1 1 [f0] 1) none (R 16 (s + 1 + 1) (s + 1 + 1) o #[some (s + 1), some (s + 1 + 1)] 1 1 [f0] 1) (some true) 1 := go_succ (by show 16 < 17; decide) rfl (by intro _ h; cases h)
  have g6 : Go c (R 16 (s + 1 + 1) (s + 1 + 1) o #[some (s + 1), some (s + 1 + 1)] 1 1 [f0] 1) (some true) (R 9 s (s + 1 + 1) o #[some (s + 1), some (s + 1 + 1)] 1 1 [] 0) (some true) 1 := go_next_yes (f := f0) (fs := []) rfl rfl
  exact ((((((g0.trans g1).trans g2).trans g3).trans g4).trans g5).trans g6).fin (by omega) rfl sn
theorem un_no {T : List Nat} {pos : Nat} (hp : ∀ c ∈ T.drop pos, c ≠ 92) (hl : T.length < 2 ^ 30) : Fails (Sre.forSearch cUnesc.toArray T.toArray 1 pos T.length false) := by
  by_cases hsh : T.length < pos ∨ T.length - pos < 2
  · exact search_short (least := 2) (pc := 9) rfl hsh
  obtain ⟨sn, q⟩ := search_at (code := cUnesc) (T := T) (groups := 1) (pos := pos) (least := 2) (pc := 9) (last := T.length) rfl (by decide) (by omega) (by omega) rfl
  rw [q]
  obtain ⟨o, k, g0, hk⟩ := un_go (T := T) (T.drop pos) [] pos true (by simp) hp
  have e3 : pos + (T.drop pos).length = T.length := by rw [List.length_drop]; omega
  rw [e3] at g0
  have g1 : Go (sC cUnesc T T.length) (unR T.length o) none (unR T.length o) (some false) 1 := go_lit_no (x := 92) (by show 9 < 17; decide) rfl rfl (fun h => absurd h (Nat.lt_irrefl _))
  have g2 := go_next_end (c := sC cUnesc T T.length) (r := unR T.length o) (f := nsFrame 9 T.length o) (fs := []) rfl rfl (Nat.le_refl _)
  rw [List.length_drop] at hk
  exact ((g0.trans g1).trans g2).fails (by omega) rfl sn
theorem escL_mem_ne {seg : List Nat} (h : ∀ c ∈ seg, inQuot c = true) : ∀ c ∈ seg, c ≠ 92 := by
  intro c hc e
  have := h c hc
  subst e; cases this
/-- what sub makes of an escaped text: the text -/
theorem un_rest {T : List Nat} (hl : T.length < 2 ^ 30) : ∀ (n : Nat) (w : List Nat) (st : Nat), w.length ≤ n → T.drop st = escL w → st ≤ T.length → ∃ ps, Rest cUnesc.toArray 1 T (Gp [] T) st st false ps ∧ ps.flatten = w ∧ ps.length ≤ 2 * w.length + 1
  | n, w, st, hn, e, hst => by
    obtain ⟨seg, w', e1, e2, h1, h2⟩ := esc_split w
    rcases h2 with rfl | ⟨x, t, rfl, hx⟩
    · rw [List.append_nil] at e1
      have e3 : T.drop st = seg := by rw [e, e2]; simp [escL]
      exact ⟨_, (un_no (by rw [e3]; exact escL_mem_ne h1) hl).stop, by rw [e3, e1]; simp, by simp⟩
    · have e3 : T.drop st = seg ++ 92 :: x :: escL t := by rw [e, e2, escL_cons_esc hx]
      have E := un_yes e3 (escL_mem_ne h1) (isEsc_ne hx) hl
      have hwl : w.length = seg.length + t.length + 1 := by rw [e1]; simp only [List.length_append, List.length_cons]; omega
      have hTl : T.length - st = seg.length + (escL t).length + 2 := by
        have := congrArg List.length e3
        simp only [List.length_drop, List.length_append, List.length_cons] at this
        omega
      cases n with
      | zero => omega
      | succ n =>
        have hd1 : T.drop (st + seg.length) = 92 :: x :: escL t := drop_app e3
        have hd2 : T.drop (st + seg.length + 1) = x :: escL t := (at_drop hd1).2.2
        have hd3 : T.drop (st + seg.length + 2) = escL t := (at_drop hd2).2.2
        obtain ⟨ps, R, q1, q2⟩ := un_rest hl n t (st + seg.length + 2) (by omega) hd3 (by omega)
        refine ⟨_, E.step (dn := st) (pre := []) (by omega) (by omega) rfl (by omega) R, ?_, ?_⟩
        · rw [List.flatten_cons, List.flatten_cons, q1, extract_drop, extract_drop, e3, hd2]
          have w1 : (seg ++ 92 :: x :: escL t).take (st + seg.length - st) = seg := by rw [show st + seg.length - st = seg.length by omega, List.take_left']; rfl
          have w2 : (x :: escL t).take (st + seg.length + 2 - (st + seg.length + 1)) = [x] := by rw [show st + seg.length + 2 - (st + seg.length + 1) = 1 by omega]; rfl
          rw [w1, w2, e1]; rfl
        · simp only [List.length_cons]; omega
end Mine
end
section
theorem Mine.off_MF : True := by (w_top off; trivial)
open PySem PySem.W PyProof.Rows PySem.Spec PySem.Calls
set_option Elab.async false
set_option maxRecDepth 100000
namespace Mine
open PySem.Builtin.Re
open PySem.Sre (M)
section
variable {prog : Program} {w : World} {A : Around} {E : Value → Shared → Prop} {s : Shared} {a : Addr} {x : Str} {tx : Tok} {l : List Int} {code : List Nat} {groups : Nat}
theorem loop0_step {R : Result → Shared → Prop} {y : Str} {u : Tok} {pl : Addr} {cnt : Int} {start : Nat} {must wc : Bool} {k : Nat} {r : M} {h₀ : Heap} {vs : List Value} {T : List Nat} (P : PatAt h₀ a code groups) (L : Pcs h₀ s.heap pl vs) (hvs : vs.length + 2 ≤ sizeLine)
    (e : Ends (Sre.forSearch code.toArray T.toArray groups start T.length must) r k) (hk : k < 2 ^ 65) (ho : r.outcome = some .matched) (hst : r.start = 0)
    (h : ∀ h' tk, Pcs h₀ h' pl (vs ++ [.str y u]) →
      codeAny (model prog w) A (.builtin "re.Pattern.sub.loop" ⟨[.ref a, .str (S T) tx, .str y u, rawInt 0, rawInt 0, rawInt (cnt + 1), rawInt r.handed, rawInt r.handed, .bool (r.handed == r.start), .ref pl, .bool wc], []⟩) R { s with heap := h', toks := tk }) :
    codeAny (model prog w) A (.builtin "re.Pattern.sub.loop" ⟨[.ref a, .str (S T) tx, .str y u, rawInt 0, rawInt 0, rawInt cnt, rawInt (0 : Nat), rawInt start, .bool must, .ref pl, .bool wc], []⟩) R s := by
  refine codeAny_builtin entry_sub_loop ?_
  rw [Around.under_plainId (by decide +kernel)]
  unfold Builtin.«re.Pattern.sub.loop» reLiteralCannotBeTurned
  have e' : Ends (Sre.forSearch code.toArray (S T).cps groups start (S T).cps.size must) r k := by simpa using e
  obtain ⟨n, e3⟩ := L.at_
  repeat (any_goals (first | assumption | (with_reducible refine wtarget_is (P.keeps L.keep) ?_) | ((with_reducible show wpAny _ _ (reNextFound _ _ _) _ _ _); with_reducible refine next_ok rfl e' hk ho ?_) | ((with_reducible show wpAny _ _ (updateSeq _ _) _ _ _); with_reducible refine wpAny_updateSeq e3 rfl ?u1 ?u2 ?u3) | wp_step))
  · exact ⟨Code.quiet_builtin _ (by decide +kernel), h _ _ (L.push _)⟩
  · rw [List.size_toArray]; omega
  · show (vs.toArray.push _).size ≤ _; rw [Array.size_push, List.size_toArray]; omega
theorem loop0_last {R : Result → Shared → Prop} {y : Str} {u : Tok} {pl : Addr} {cnt : Int} {start done : Nat} {must : Bool} {k : Nat} {r : M} {h₀ : Heap} {vs : List Value} {ws : List (List Nat)} {T : List Nat} (P : PatAt h₀ a code groups) (hz : T.length ≤ sizeLine) (L : Pcs h₀ s.heap pl vs) (hvs : vs.length + 2 ≤ 2 ^ 20) (W : Txts vs ws)
    (e : Ends (Sre.forSearch code.toArray T.toArray groups start T.length must) r k) (hk : k < 2 ^ 65) (ho : r.outcome = some .failed)
    (hsum : (ws.map List.length).sum + T.length ≤ 2 ^ 23)
    (h : ∀ (h' : Heap) tk t t2, (∀ b o, h₀.get? b = some o → h'.get? b = some o) → h₀.objs.size ≤ h'.objs.size → R (.ok (.ret (.ref h'.objs.size))) { s with heap := h'.push { cls := .type "tuple", data := .seq #[.str (S (ws.flatten ++ T.drop done)) t, .int cnt t2] 0 }, toks := tk }) :
    codeAny (model prog w) A (.builtin "re.Pattern.sub.loop" ⟨[.ref a, .str (S T) tx, .str y u, rawInt 0, rawInt 0, rawInt cnt, rawInt done, rawInt start, .bool must, .ref pl, .bool true], []⟩) R s := by
  refine codeAny_builtin entry_sub_loop ?_
  rw [Around.under_plainId (by decide +kernel)]
  unfold Builtin.«re.Pattern.sub.loop» reLiteralCannotBeTurned
  have e' : Ends (Sre.forSearch code.toArray (S T).cps groups start (S T).cps.size must) r k := by simpa using e
  repeat (any_goals (first | assumption | (with_reducible refine wtarget_is (P.keeps L.keep) ?_) | ((with_reducible show wpAny _ _ (reNextFound _ _ _) _ _ _); with_reducible refine next_no rfl e' hk ho ?_) | wp_step))
  have hsz : (S T).cps.size = T.length := by simp
  have h24 : sizeLine = 2 ^ 24 := rfl
  by_cases hd : done < T.length
  · rw [if_pos (show ((done : Int)).toNat < (S T).cps.size by rw [hsz]; exact hd)]
    refine wpAny_bind (slice_is (t := T.toArray) (by rw [List.size_toArray]; exact hz) ?_)
    obtain ⟨n, e3⟩ := L.at_
    refine wpAny_bind (wpAny_updateSeq e3 rfl ?_ (by rw [List.size_toArray]; omega) (by show (vs.toArray.push _).size ≤ _; rw [Array.size_push, List.size_toArray]; omega))
    have eS : (⟨T.toArray.extract ((done : Int)).toNat (tgt a (S T) tx code groups).lim⟩ : Str) = S (T.drop done) := by
      show (⟨T.toArray.extract done (S T).cps.size⟩ : Str) = _
      rw [hsz]; simp
      exact List.take_of_length_le (by rw [List.length_drop]; exact Nat.le_refl _)
    rw [eS]
    refine join_tail (T := T) (L.push _) W.snoc hz ?_ fun tk' t => ?_
    · rw [List.map_append, List.sum_append]
      show _ + ((T.drop done).length + 0) ≤ _
      rw [List.length_drop]; omega
    · have L2 := L.push (.str (S (T.drop done)) s.toks)
      rw [List.flatten_append]
      have : [T.drop done].flatten = T.drop done := by simp
      rw [this]
      refine wpAny_bind (wpAny_holding (wpAny_bind (wpAny_mkInt (wpAny_newObj_type ?_ (by show 2 ≤ sizeLine; decide)))))
      exact wpAny_pure (h _ _ _ _ L2.keep L2.big)
  · rw [if_neg (show ¬ ((done : Int)).toNat < (S T).cps.size by rw [hsz]; exact hd)]
    refine join_tail (T := T) L W hz (by omega) fun tk' t => ?_
    have : T.drop done = [] := List.drop_eq_nil_of_le (by omega)
    rw [this, List.append_nil] at h
    refine wpAny_bind (wpAny_holding (wpAny_bind (wpAny_mkInt (wpAny_newObj_type ?_ (by show 2 ≤ sizeLine; decide)))))
    exact wpAny_pure (h _ _ _ _ L.keep L.big)
theorem lk_str_call : typeLookup (.type "str") "__call__" = pure none := by rw [typeLookup_type, builtinLookup_eq_fast]; kernel_rfl
set_option maxHeartbeats 4000000 in
theorem subn_call {y : Str} {u : Tok} {T : List Nat} {k1 k2 : Nat} {r1 r2 : M} {Q : Value → Shared → Prop} (P : PatAt s.heap a code groups) (hz : T.length ≤ 2 ^ 22) (hy : y = S [])
    (e1 : Ends (Sre.forSearch code.toArray T.toArray groups 0 T.length false) r1 k1) (hk1 : k1 < 2 ^ 65) (ho1 : r1.outcome = some .matched) (hst : r1.start = 0)
    (e2 : Ends (Sre.forSearch code.toArray T.toArray groups r1.handed T.length (r1.handed == r1.start)) r2 k2) (hk2 : k2 < 2 ^ 65) (ho2 : r2.outcome = some .failed)
    (hq : ∀ (h' : Heap) tk t t2, (∀ b o, s.heap.get? b = some o → h'.get? b = some o) → s.heap.objs.size ≤ h'.objs.size → Q (.ref h'.objs.size) { s with heap := h'.push { cls := .type "tuple", data := .seq #[.str (S (T.drop r1.handed)) t, .int 1 t2] 0 }, toks := tk }) :
    wpAny (model prog w) A (call (.builtin "re.Pattern.subn") [.ref a, .str y u, .str (S T) tx]) Q E s := by
  obtain ⟨ps', pt, fl, ft, sp, h1, h2⟩ := id P
  have hT : s.TypeIs (.ref a) "re.Pattern" := ⟨_, h1, rfl⟩
  have f2 := sub_str_ba
  have f3 := lk_str_call
  refine wpAny_call (codeAny_call_builtin slot_re_Pattern_subn.plain entry_re_Pattern_subn (slot_re_Pattern_subn.check _ _ _ _ _ _ _ _ hT (args_re_Pattern_subn_3 _ _ _) ?_))
  subst hy
  unfold Builtin.«re.Pattern.subn» reSubstitute
  repeat (any_goals (first | assumption | (with_reducible refine wtarget_is P ?_) | wp_step))
  refine ⟨Code.quiet_builtin _ (by decide +kernel), ?_⟩
  have L : Pcs s.heap (s.heap.push (listObj [] 0)) s.heap.objs.size [] :=
    ⟨fun b o e => Heap.get?_push_of_some _ e, ⟨0, Heap.get?_push_size _ rfl⟩, Heap.get?_none_of_le (Nat.le_refl _), by rw [Heap.size_push]; exact Nat.le_succ _⟩
  have h24 : sizeLine = 2 ^ 24 := rfl
  refine loop0_step (s := { s with heap := s.heap.push (listObj [] 0) }) (cnt := 0) (start := 0) P L (by decide) e1 hk1 ho1 hst fun h' tk L' => ?_
  refine loop0_last (ws := [[]]) P (by omega) L' (by simp) (.cons .nil) e2 hk2 ho2 (by simp; omega) fun h'' tk' t t2 q1 q2 => ?_
  have := hq h'' tk' t t2 q1 q2
  simpa using this
end
end Mine
end
section
theorem Mine.off_W0 : True := by (w_top off; trivial)
open PySem PySem.W PyProof.Rows PySem.Spec PySem.Calls
set_option Elab.async false
set_option maxRecDepth 100000
namespace Mine
noncomputable abbrev Am (dp un : Nat) (fr : Option (List Env)) (gd : Option (List Code)) : Around := { handled := none, depth := dp, frames := fr, guards := gd, units := un }
theorem sliceL_to {T : List Nat} {b : Nat} (hb : b ≤ T.length) : Txt.slice (S T) none (some (b : Int)) = S (T.take b) := by
  have := StrLaws.sliceText_to (x := S T) (j := (b : Int)) ⟨by omega, by show (b : Int) ≤ T.toArray.toList.length; simp; omega⟩
  refine this.trans ?_
  simp
theorem sliceL_from {T : List Nat} {b : Nat} (hb : b ≤ T.length) : Txt.slice (S T) (some (b : Int)) none = S (T.drop b) := by
  have := StrLaws.sliceText_from (x := S T) (i := (b : Int)) ⟨by omega, by show (b : Int) ≤ T.toArray.toList.length; simp; omega⟩
  refine this.trans ?_
  simp
  exact List.take_of_length_le (by rw [List.length_drop]; omega)
theorem sliceL_mid {T : List Nat} {b e : Nat} (hb : b ≤ e) (he : e ≤ T.length) : Txt.slice (S T) (some (b : Int)) (some (e : Int)) = S ((T.drop b).take (e - b)) := by
  have := StrLaws.sliceText_nat (S T) (a := b) (b := e) hb (by rw [S_len]; exact he)
  refine this.trans ?_
  simp
section
variable {M : Model} {prog : Program} {w : World} {A : Around} {E : Value → Shared → Prop} {s : Shared} {h₀ : Heap} {L a : Addr} {m : Str → Option Value} {news : List (Addr × Obj)} {x : Str} {tx : Tok} {l : List Int}
theorem MatchAt.obj {h : Heap} (hM : MatchAt h a x tx l) : ∃ o vs, h.get? a = some o ∧ o.cls = .type "re.Match" ∧ o.dict = none ∧ o.data = .fields vs ∧ vs[0]? = some (.str x tx) :=
  let ⟨_, _, _, _, _, e, _⟩ := hM; ⟨_, _, e, rfl, rfl, rfl, rfl⟩
theorem k_getMethod_match {name : Str} {id : String} {pl : Sem Bool} {Q : Value × List Value → Shared → Prop} (F : Fr h₀ L s.heap m) (hM : MatchAt h₀ a x tx l) (slot : Slot "re.Match" name id) (hty : typeOf (.builtin id) = pure (.type "method_descriptor"))
    (h : Q (.builtin id, [.ref a]) s) : wpAny M A (getMethod (.ref a) name pl) Q E s := by
  obtain ⟨o, vs, e, hc, hd, _⟩ := (hM.keeps F.keep).obj
  exact getMethod_builtin ⟨_, e, hc⟩ plainAttrs_re_Match slot hty (fun b q => by cases q; exact ⟨_, e, hd⟩) h
theorem k_span {u : Tok} {b e : Int} {Q : Value → Shared → Prop} (F : Fr h₀ L s.heap m) (N : News h₀ L s.heap news) (hM : MatchAt h₀ a x tx l) (h0 : l[0]? = some b) (h1 : l[1]? = some e)
    (hq : ∀ T h' tk t1 t2, Fr h₀ L h' m → News h₀ L h' ((T, { cls := .type "tuple", data := .seq [.int b t1, .int e t2].toArray }) :: news) → (∀ p ∈ news, p.1 < T) → Q (.ref T) { s with heap := h', toks := tk }) : wpAny (model prog w) A (call (.builtin "re.Match.span") [.ref a, .int 0 u]) Q E s :=
  span_call (hM.keeps F.keep) h0 h1 fun t1 t2 tk => hq _ _ _ t1 t2 (F.push _) (N.push F _) fun p hp => Heap.lt_size (N p hp).1
theorem k_string {b : Bool} {Q : Value → Shared → Prop} (F : Fr h₀ L s.heap m) (hM : MatchAt h₀ a x tx l) (hq : ∀ tk, Q (.str x tx) { s with toks := tk }) : wpAny (model prog w) A (getAttr (.ref a) "string" b) Q E s :=
  let ⟨_, _, e, hc, _, hd, hv⟩ := (hM.keeps F.keep).obj
  ms_attr e hc hd hv hq
theorem k_group {u : Tok} {k : Int} {b e : Nat} {T : List Nat} {Q : Value → Shared → Prop} (F : Fr h₀ L s.heap m) (hM : MatchAt h₀ a (S T) tx l) (hk : 0 ≤ k) (hl : 2 * k < l.length) (hkb : k < 2 ^ 63) (h1 : l[2 * k.toNat]? = some (b : Int)) (h2 : l[2 * k.toNat + 1]? = some (e : Int)) (hz : T.length ≤ 2 ^ 22)
    (hq : ∀ t tk, Q (.str (S ((T.drop b).take (e - b))) t) { s with toks := tk }) : wpAny (model prog w) A (call (.builtin "re.Match.group") [.ref a, .int k u]) Q E s :=
  group_call (hM.keeps F.keep) hk hl hkb h1 h2 (by rw [S_len]; show T.length ≤ 2 ^ 24; omega) (by
    have e : (⟨(S T).cps.extract b e⟩ : Str) = S ((T.drop b).take (e - b)) := by
      rw [S_of (⟨(S T).cps.extract b e⟩ : Str), ← extract_drop]
    rw [e]
    exact hq _ _)
theorem k_slice_to {value slice : Expr} {T : List Nat} {t : Tok} {Q : Value → Shared → Prop} {b : Nat} {j : Int} {uj : Tok} (F : Fr h₀ L s.heap m) (N : News h₀ L s.heap news) (hj : j = b) (hb : b ≤ T.length) (hz : T.length ≤ 2 ^ 22)
    (h : ∀ h' t' k, Fr h₀ L h' m → News h₀ L h' news → Q (.str (S (T.take b)) t') { s with heap := h', toks := k })
    (hs : subscripted slice false (.str (S T) t) (.ref s.heap.objs.size) = operate [.ref s.heap.objs.size, .str (S T) t] (getItem (.str (S T) t) (.ref s.heap.objs.size)) := by with_unfolding_all rfl)
    (hg : ∀ r, letTemporaryGo value (.str (S T) t) r = pure () := by intro _; rfl) :
    wpAny (model prog w) A (subscriptTail value slice (.str (S T) t) (.ref s.heap.objs.size)) Q E { s with heap := s.heap.push { cls := .type "slice", data := .fields #[.none, .int j uj, .none] } } := by
  subst hj
  refine slice_strN_ns F N (fun h' t' k F' N' => ?_) hs hg (by rw [S_len]; show T.length ≤ 2 ^ 24; omega)
  rw [sliceL_to hb]; exact h h' t' k F' N'
theorem k_slice_from {value slice : Expr} {T : List Nat} {t : Tok} {Q : Value → Shared → Prop} {b : Nat} {j : Int} {uj : Tok} (F : Fr h₀ L s.heap m) (N : News h₀ L s.heap news) (hj : j = b) (hb : b ≤ T.length) (hz : T.length ≤ 2 ^ 22)
    (h : ∀ h' t' k, Fr h₀ L h' m → News h₀ L h' news → Q (.str (S (T.drop b)) t') { s with heap := h', toks := k })
    (hs : subscripted slice false (.str (S T) t) (.ref s.heap.objs.size) = operate [.ref s.heap.objs.size, .str (S T) t] (getItem (.str (S T) t) (.ref s.heap.objs.size)) := by with_unfolding_all rfl)
    (hg : ∀ r, letTemporaryGo value (.str (S T) t) r = pure () := by intro _; rfl) :
    wpAny (model prog w) A (subscriptTail value slice (.str (S T) t) (.ref s.heap.objs.size)) Q E { s with heap := s.heap.push { cls := .type "slice", data := .fields #[.int j uj, .none, .none] } } := by
  subst hj
  refine slice_strN_sn F N (fun h' t' k F' N' => ?_) hs hg (by rw [S_len]; show T.length ≤ 2 ^ 24; omega)
  rw [sliceL_from hb]; exact h h' t' k F' N'
theorem k_add {a b : List Nat} {t u : Tok} {Q : Value → Shared → Prop} (hz : a.length + b.length ≤ 2 ^ 23) (h : ∀ t' tk, Q (.str (S (a ++ b)) t') { s with toks := tk }) : wpAny (model prog w) A (binaryOp .Add (.str (S a) t) (.str (S b) u)) Q E s := by
  refine add_str (fun t' tk => ?_) (by rw [S_len, S_len]; show a.length + b.length ≤ 2 ^ 24; omega)
  rw [S_append]; exact h t' tk
end
end Mine
end
section
theorem Mine.off_W1 : True := by (w_top off; trivial)
open PySem PySem.W PyProof.Rows PySem.Spec PySem.Calls
set_option Elab.async false
set_option maxRecDepth 100000
namespace Mine
set_option maxHeartbeats 1000000 in
theorem unmatched_spec {w : World} {mg mb : Str → Option Value} {p : Program} {loose : List Str} {mean : ExcName → Option Value} {dp un : Nat} {fr : Option (List Env)} {gd : Option (List Code)} {s : Shared} {TL : List (Addr × Obj)} {R : Result → Shared → Prop} {T : List Nat} {tx : Tok} {ma : Addr} {l : List Int} {b e : Nat}
    (H : Hid s.heap TL) (X : (hf.heap_1 w.params).In (frz s.heap TL)) (Tp : Top p loose mean mg mb (frz s.heap TL)) (hroom : dp + 1 < recursionLimit)
    (hM : MatchAt (frz s.heap TL) ma (S T) tx l) (h0 : l[0]? = some (b : Int)) (h1 : l[1]? = some (e : Int)) (hb : b ≤ T.length) (he : e ≤ T.length) (hl : T.length ≤ 2 ^ 20)
    (hR : ∀ h' tk t, Hid h' TL → (∀ x o, (frz s.heap TL).get? x = some o → h'.get? x = some o) → s.heap.objs.size ≤ h'.objs.size → R (.ok (.ret (.str (S (T.take b ++ T.drop e)) t))) { s with heap := h', toks := tk }) :
    codeAny (model PySem.Challenge.rw_in0021_01.prog w) (Am dp un fr gd) (.call (.ref 43) ⟨[.ref ma], []⟩) R s := by
  refine' enter (binds := [(Str.ofString "match", .ref ma)]) H X Tp ?k6 ?k7 ?k8 ?k9 ?kB ?_ ?c2 ?c3 ?c4 ?c5
  case k6 => k_is
  case k7 => k_is
  case k8 => show dp < recursionLimit; omega
  case k9 => exact BindsTo.of_eq rfl
  case kB => exact locs rfl
  case c2 => exact rfl
  case c3 => exact rfl
  case c4 => exact rfl
  case c5 => decide
  intro h₁ F N
  try k_fold
  (repeat' (first | (k_unfold; (try dsimp only)) | ((with_reducible show wpAny _ _ (exec _ _) _ _ _); k_fold) | (first | ((with_reducible show wpAny _ _ (binaryOp Operator.Add (Value.str (S _) _) (Value.str (S _) _)) _ _ _); (refine k_add (by simp only [List.length_take, List.length_drop, List.length_append]; omega) ?_); intro t' tk'; (try dsimp only)) | ((with_reducible show wpAny _ _ (subscriptTail _ (Expr.Slice none (some _) none _) (Value.str (S _) _) _) _ _ _); (refine k_slice_to (s := ⟨_, _, _, _, _⟩) (by k_asm) (by k_asm) rfl (by omega) (by omega) ?_); intro h' t' k' F' N'; (try dsimp only)) | ((with_reducible show wpAny _ _ (subscriptTail _ (Expr.Slice (some _) none none _) (Value.str (S _) _) _) _ _ _); (refine k_slice_from (s := ⟨_, _, _, _, _⟩) (by k_asm) (by k_asm) rfl (by omega) (by omega) ?_); intro h' t' k' F' N'; (try dsimp only)) | ((with_reducible show wpAny _ _ (getAttr (Value.ref _) _ _) _ _ _); (refine' k_string ?zqF ?zqM ?_; (case zqF => k_asm); (case zqM => assumption)); intro tk'; (try dsimp only)) | ((with_reducible show wpAny _ _ (call (Value.builtin "re.Match.span") _ _) _ _ _); (refine' k_span ?zqF ?zqN ?zqM ?zqh0 ?zqh1 ?_; (case zqF => k_asm); (case zqN => k_asm); (case zqM => assumption); (case zqh0 => assumption); (case zqh1 => assumption)); intro T' h' tk' t1' t2' F' N' l1; (try k_lt l1); (try dsimp only)) | ((with_reducible show wpAny _ _ (getMethod (Value.ref _) _ _) _ _ _); (first | (refine' k_getMethod_match ?zqF ?zqM slot_re_Match_span type_re_Match_span ?_; (case zqF => k_asm); (case zqM => assumption)) | (refine' k_getMethod_match ?zqF ?zqM slot_re_Match_group type_re_Match_group ?_; (case zqF => k_asm); (case zqM => assumption))))) | walk1 | (dsimp only; walk1)))
  rename Fr _ _ _ _ => F'
  rename News _ _ _ _ => N'
  exact hR _ _ _ ⟨fun p hp => (N' p (.tail _ hp)).1, H.tab⟩ F'.keep (Nat.le_of_lt F'.ns.lt)
end Mine
end
section
theorem Mine.off_W2 : True := by (w_top off; trivial)
open PySem PySem.W PyProof.Rows PySem.Spec PySem.Calls
set_option Elab.async false
set_option maxRecDepth 100000
namespace Mine
section
variable {prog : Program} {w : World} {A : Around} {E : Value → Shared → Prop} {s : Shared} {env : Env} {h₀ : Heap} {target : Expr} {body : List Stmt} {Q : Flow → Shared → Prop}
/-- the state at the end of a turn over a list: the iterator as it was, the invariant for the next turn -/
noncomputable def EndG (h₀ : Heap) (L I : Addr) (oI : Obj) (J : (Str → Option Value) → List (Addr × Obj) → Prop) (s₁ s₂ : Shared) : Prop :=
  ∃ h' tk m' nx, s₂ = { s₁ with heap := h', toks := tk } ∧ Fr h₀ L h' m' ∧ News h₀ L h' ((I, oI) :: nx) ∧ (∀ p ∈ nx, p.1 ≠ I) ∧ J m' nx
noncomputable def PostG (h₀ : Heap) (L I : Addr) (oI : Obj) (J : (Str → Option Value) → List (Addr × Obj) → Prop) (s₁ : Shared) (Q : Flow → Shared → Prop) (f : Flow) (s₂ : Shared) : Prop :=
  match f with
  | .ret v => Q (.ret v) s₂
  | .brk => Q .next s₂
  | _ => EndG h₀ L I oI J s₁ s₂
theorem list_turns {l : Addr} {vs : List Value} {m₀ : Str → Option Value} {news : List (Addr × Obj)} (J : Nat → (Str → Option Value) → List (Addr × Obj) → Prop)
    (hh : A.handled = none) (hl : h₀.IsList l vs.toArray) (F : Fr h₀ env.locals s.heap m₀) (N : News h₀ env.locals s.heap news) (hj : J 0 m₀ news)
    (turn : ∀ I, (∀ p ∈ news, p.1 < I) → ∀ i v m₁ news₁ h tk oI, vs[i]? = some v → J i m₁ news₁ → (∀ p ∈ news₁, p.1 ≠ I) → Fr h₀ env.locals h m₁ → News h₀ env.locals h ((I, oI) :: news₁) →
      wpAny (model prog w) A (assign target env v) (fun _ s₃ => wpAny (model prog w) A (execs body env) (PostG h₀ env.locals I (oI) (J (i + 1)) { s with heap := h, toks := tk } Q) E s₃) E { s with heap := h, toks := tk })
    (done : ∀ m₁ news₁ h tk, J vs.length m₁ news₁ → Fr h₀ env.locals h m₁ → News h₀ env.locals h news₁ → Q .next { s with heap := h, toks := tk }) :
    wpAny (model prog w) A (pyIter (.ref l)) (fun it s₂ => TurnsAt prog w A h₀ env target body Q E it s₂) E s := by
  have hls : s.heap.IsList l vs.toArray := hl.at fun o e => F.keep l o e
  obtain ⟨ol, hol, _⟩ := id hl
  have hlt : l < h₀.objs.size := Heap.lt_size hol
  have hne : l ≠ s.heap.objs.size := Nat.ne_of_lt (Nat.lt_trans (Nat.lt_of_lt_of_le hlt F.above) F.ns.lt)
  refine wpAny_pyIter_list hls ?_
  have W := Walks.list (prog := prog) (w := w) hh s.heap.objs.size l hne vs.toArray
  have hlen : vs.toArray.size = vs.length := by simp
  rw [hlen] at W
  refine ⟨_, _, _, vs.length, _, _, _, m₀, news, J, rfl, KTurns.ofWalks W fun i v s Q E st q => letGo_listiter st.1 q, ?_, ?_, ?_, ⟨⟨_, Heap.get?_push_size _ rfl, rfl, rfl⟩, hls.at fun o e => Heap.get?_push_of_some _ e⟩, F.push _, (fun p hp => ⟨Heap.get?_push_of_some _ (N p hp).1, (N p hp).2⟩), hj, ?_, ?_⟩
  · intro hm
    rcases List.mem_cons.mp hm with e | hm
    · exact absurd F.ns.lt (e ▸ Nat.lt_irrefl _)
    · exact absurd (Nat.lt_of_lt_of_le hlt F.above) ((List.mem_singleton.mp hm) ▸ Nat.lt_irrefl _)
  · intro b hb
    rw [List.mem_singleton.mp hb]
    exact next_is_new F
  · intro p hp hI
    exact absurd (Heap.lt_size (N p hp).1) ((List.mem_singleton.mp hI) ▸ Nat.lt_irrefl _)
  · intro i v m₁ news₁ h tk own hin hP hJ hoff hown hget hall hst F₁ N₁
    obtain ⟨⟨oI, hoI, _⟩, _⟩ := id hst
    have hP' : vs[i]? = some v := by simpa using hP
    have hone : ∀ p ∈ own, p = (s.heap.objs.size, oI) := by
      rintro ⟨a, o⟩ hp
      have e : a = s.heap.objs.size := by
        rcases List.mem_cons.mp (hown _ hp) with e | e
        · exact e
        · have e' : a = l := List.mem_singleton.mp e
          have := (N₁ _ (List.mem_append_left _ hp)).2.2
          rw [e', hol] at this
          cases this
      subst e
      have := hget _ hp
      rw [hoI] at this
      rw [Option.some.inj this]
    have hin' : (s.heap.objs.size, oI) ∈ own := hall _ (List.mem_cons_self ..) (next_is_new F) _ hoI
    have hoff' : ∀ p ∈ news₁, p.1 ≠ s.heap.objs.size := fun p hp e => hoff p hp (by rw [e]; exact List.mem_singleton.mpr rfl)
    have N₂ : News h₀ env.locals h ((s.heap.objs.size, oI) :: news₁) := fun p hp => by
      rcases List.mem_cons.mp hp with rfl | hp
      · exact N₁ _ (List.mem_append_left _ hin')
      · exact N₁ _ (List.mem_append_right _ hp)
    refine wpAny_mono (turn _ (fun p hp => Heap.lt_size (N p hp).1) i v m₁ news₁ h tk oI hP' hJ hoff' F₁ N₂) (fun _ s₂ h₂ => wpAny_mono h₂ (fun f s₃ p => ?_) fun _ _ e => e) fun _ _ e => e
    have fin : EndG h₀ env.locals s.heap.objs.size oI (J (i + 1)) { s with heap := h, toks := tk } s₃ → LoopStepU h₀ env.locals [s.heap.objs.size] own (J (i + 1)) { s with heap := h, toks := tk } .next s₃ := by
      rintro ⟨h', tk', m', nx, e, F', N', ho, hj'⟩
      refine ⟨rfl, h', tk', m', nx, e, F', fun p hp => ?_, fun p hp q => ho p hp (List.mem_singleton.mp q), hj'⟩
      rcases List.mem_append.mp hp with hp | hp
      · rw [hone p hp]; exact N' _ (List.mem_cons_self ..)
      · exact N' _ (List.mem_cons_of_mem _ hp)
    cases f with
    | ret v => exact .ret p
    | brk => exact .brk p
    | next => exact .next (fin p)
    | cont => exact .cont (fin p)
  · intro h' tk m' news' F' N' _ hJ
    exact done m' news' h' tk hJ F' N'
end
end Mine
end
section
theorem Mine.off_W3 : True := by (w_top off; trivial)
open PySem PySem.W PyProof.Rows PySem.Spec PySem.Calls
set_option Elab.async false
set_option maxRecDepth 100000
namespace Mine
noncomputable abbrev frm (names : List (Str × Value)) (u : Str → Option Value) : Str → Option Value := fun y => match names.lookup y with | some v => some v | none => u y
theorem frm_of {m : Str → Option Value} : ∀ (names : List (Str × Value)), (∀ p ∈ names, m p.1 = some p.2) → ∃ u, m = frm names u
  | names, h => ⟨m, by
    funext y
    show m y = match names.lookup y with | some v => some v | none => m y
    cases e : names.lookup y with
    | none => rfl
    | some v =>
      have : (y, v) ∈ names := by
        clear h
        induction names with
        | nil => cases e
        | cons p r ih =>
          obtain ⟨a, b⟩ := p
          rw [List.lookup_cons] at e
          by_cases q : y == a
          · rw [q] at e
            have := Option.some.inj e
            subst this
            rw [eq_of_beq q]
            exact List.mem_cons_self ..
          · rw [Bool.not_eq_true _ |>.mp q] at e
            exact List.mem_cons_of_mem _ (ih e)
      exact h _ this⟩
theorem frm_of2 {m : Str → Option Value} {x1 x2 : Str} {v1 v2 : Value} (h1 : m x1 = some v1) (h2 : m x2 = some v2) : ∃ u, m = frm [(x1, v1), (x2, v2)] u :=
  frm_of _ fun p hp => by
    rcases List.mem_cons.mp hp with rfl | hp
    · exact h1
    · rw [List.mem_singleton.mp hp]; exact h2
theorem sliceL_to' {T : List Nat} {b : Nat} : Txt.slice (S T) none (some (b : Int)) = S (T.take b) := by
  by_cases h : b ≤ T.length
  · exact sliceL_to h
  · have e : Builtin.Str.strSliceIndices none (some (b : Int)) 1 (S T).length = Builtin.Str.strSliceIndices none (some ((T.length : Nat) : Int)) 1 (S T).length := by
      rw [S_len]
      have a : ¬ ((b : Int) < 0) := by omega
      have a2 : ¬ ((T.length : Int) < 0) := by omega
      have e1 : min (b : Int) (T.length : Int) = T.length := by omega
      simp [Builtin.Str.strSliceIndices, a, a2, e1]
    have := sliceL_to (T := T) (Nat.le_refl _)
    unfold Txt.slice at this ⊢
    rw [e, this, List.take_length, List.take_of_length_le (by omega)]
section
variable {prog : Program} {w : World} {A : Around} {s : Shared} {h₀ : Heap} {L : Addr} {m : Str → Option Value} {news : List (Addr × Obj)} {E : Value → Shared → Prop}
theorem k_slice_to' {value slice : Expr} {T : List Nat} {t : Tok} {Q : Value → Shared → Prop} {b : Nat} {j : Int} {uj : Tok} (F : Fr h₀ L s.heap m) (N : News h₀ L s.heap news) (hj : j = b) (hz : T.length ≤ 2 ^ 22)
    (h : ∀ h' t' k, Fr h₀ L h' m → News h₀ L h' news → Q (.str (S (T.take b)) t') { s with heap := h', toks := k })
    (hs : subscripted slice false (.str (S T) t) (.ref s.heap.objs.size) = operate [.ref s.heap.objs.size, .str (S T) t] (getItem (.str (S T) t) (.ref s.heap.objs.size)) := by with_unfolding_all rfl)
    (hg : ∀ r, letTemporaryGo value (.str (S T) t) r = pure () := by intro _; rfl) :
    wpAny (model prog w) A (subscriptTail value slice (.str (S T) t) (.ref s.heap.objs.size)) Q E { s with heap := s.heap.push { cls := .type "slice", data := .fields #[.none, .int j uj, .none] } } := by
  subst hj
  refine slice_strN_ns F N (fun h' t' k F' N' => ?_) hs hg (by rw [S_len]; show T.length ≤ 2 ^ 24; omega)
  rw [sliceL_to']; exact h h' t' k F' N'
end
section
variable {prog : Program} {w : World} {A : Around} {E : Value → Shared → Prop} {s : Shared} {Q : Value → Shared → Prop} {t u : Tok}
theorem k_eq_is {x y : Str} (b : Bool) (hb : (x == y) = b) (h : Q (.bool b) s) : wpAny (model prog w) A (compareOp .Eq (.str x t) (.str y u)) Q E s := by
  refine PyProof.Rows.eq_str ?_
  rw [hb]; exact h
theorem k_ne_is {x y : Str} (b : Bool) (hb : (x == y) = b) (h : Q (.bool (!b)) s) : wpAny (model prog w) A (compareOp .NotEq (.str x t) (.str y u)) Q E s := by
  refine PyProof.Rows.ne_str ?_
  show Q (.bool (!(x == y))) s
  rw [hb]; exact h
theorem k_le1 {a b : Nat} (h : Q (.bool (decide (a ≤ b))) s) : wpAny (model prog w) A (compareOp .LtE (.str (S [a]) t) (.str (S [b]) u)) Q E s := by
  refine P.le_str ?_
  have e : (!decide ((S [b]).cps.toList < (S [a]).cps.toList)) = decide (a ≤ b) := by
    show (!decide ([b] < [a])) = decide (a ≤ b)
    have z : ([b] < [a]) ↔ b < a := by rw [List.cons_lt_cons_iff]; simp
    rw [Bool.eq_iff_iff, decide_eq_true_eq, Bool.not_eq_true', decide_eq_false_iff_not, z]
    omega
  rw [e]; exact h
theorem k_at {value slice : Expr} {T : List Nat} {c : Nat} {i : Int} (h0 : 0 ≤ i) (h1 : i < 2 ^ 62) (hc : T[i.toNat]? = some c)
    (h : ∀ t' k, Q (.str (S [c]) t') { s with toks := k })
    (hs : subscripted slice false (.str (S T) t) (.int i u) = operate [.str (S T) t, .int i u] (getItem (.str (S T) t) (.int i u)) := by with_unfolding_all rfl)
    (ht : ∀ r, letTemporaryGo value (.str (S T) t) r = pure () := by intro _; rfl) :
    wpAny (model prog w) A (subscriptTail value slice (.str (S T) t) (.int i u)) Q E s := by
  have hl : i.toNat < T.length := (List.getElem?_eq_some_iff.mp hc).1
  have hS : (S T).length = T.length := by simp [S_len]
  refine item_str (fitsSsize_of (N := 9223372036854775808) (by omega) (by omega) (Int.le_refl _)) (by omega) (by omega) (fun _ => ?_) hs ht
  have e : Txt.item (S T) i = S [c] := by
    rw [item_meets ⟨h0, by omega⟩]
    show (⟨#[T.toArray.getD i.toNat 0]⟩ : Str) = ⟨#[c]⟩
    have : T.toArray.getD i.toNat 0 = c := by
      rw [Array.getD_eq_getD_getElem?]
      simp [hc]
    rw [this]
  rw [e]; exact h _ _
end
end Mine
end
section
theorem Mine.off_W4 : True := by (w_top off; trivial)
open PySem PySem.W PyProof.Rows PySem.Spec PySem.Calls
set_option Elab.async false
set_option maxRecDepth 100000
namespace Mine
noncomputable abbrev Rq := Bool × Nat × Option Nat
def enc1 : Rq → List Nat
  | (true, a, none) => [92, a]
  | (true, a, some b) => [92, a, 45, b]
  | (false, a, none) => [a]
  | (false, a, some b) => [a, 45, b]
def encs : List Rq → List Nat
  | [] => []
  | r :: rs => enc1 r ++ encs rs
noncomputable def rgIn (c : Nat) (r : Rq) : Bool := decide (r.2.1 ≤ c) && decide (c ≤ r.2.2.getD r.2.1)
noncomputable def rgOk (r : Rq) : Bool := if r.1 then r.2.2.isNone else (r.2.1 != 92 && r.2.1 != 45)
noncomputable def allRq : List Rq := [(true, 45, none), (false, 33, none), (false, 35, none), (false, 36, none), (false, 37, none), (true, 38, none), (false, 39, none), (false, 42, none), (false, 43, none), (false, 46, none), (false, 94, none), (false, 95, none), (false, 96, none), (true, 124, none), (true, 126, none), (false, 48, some 57), (false, 65, some 90), (false, 97, some 122)]
theorem any_isTok (c : Nat) : allRq.any (rgIn c) = isTok c := by
  by_cases h : c < 128
  · have : ∀ d, d < 128 → allRq.any (rgIn d) = isTok d := by decide +kernel
    exact this c h
  · have h1 : allRq.any (rgIn c) = false := by
      rw [List.any_eq_false]
      intro r hr
      have hb : ∀ r ∈ allRq, r.2.2.getD r.2.1 < 128 := by decide
      have := hb r hr
      unfold rgIn
      simp
      omega
    have h2 : isTok c = false := by
      unfold isTok
      by_cases h3 : c < 256
      · have : ∀ d, d < 256 → 128 ≤ d → ([0, 67071226, 3355443198, 1476395007, 0, 0, 0, 0].getD (d / 32) 0).testBit (d % 32) = false := by decide +kernel
        rw [this c h3 (by omega), Bool.and_false]
      · simp [h3]
    rw [h1, h2]
theorem encs_head {rs : List Rq} (h : rs.all rgOk = true) : (S ((encs rs).take 1) == Str.ofString "-") = false := by
  cases rs with
  | nil => rfl
  | cons r rs =>
    obtain ⟨e, a, o⟩ := r
    have h1 : rgOk (e, a, o) = true := by simp at h; exact h.1
    cases e with
    | true => cases o <;> rfl
    | false =>
      have h2 : a ≠ 45 := by simp [rgOk] at h1; exact h1.2
      have e1 : (encs ((false, a, o) :: rs)).take 1 = [a] := by cases o <;> rfl
      rw [e1]
      rw [beq_eq_false_iff_ne]
      intro q
      have : (S [a]).cps.toList = (Str.ofString "-").cps.toList := by rw [q]
      have q2 : [a] = [45] := this
      exact h2 (List.cons.inj q2).1
theorem S_cons_ne {a : Nat} {X : List Nat} : (S (a :: X) == Str.ofString "") = false := by
  rw [beq_eq_false_iff_ne]
  intro q
  have : (S (a :: X)).cps.toList = (Str.ofString "").cps.toList := by rw [q]
  have q2 : a :: X = [] := this
  cases q2
theorem S_one_ne {a b : Nat} {x : Str} (hx : x.cps.toList = [b]) (h : a ≠ b) : (S [a] == x) = false := by
  rw [beq_eq_false_iff_ne]
  intro q
  have : (S [a]).cps.toList = x.cps.toList := by rw [q]
  rw [hx] at this
  exact h (List.cons.inj this).1
noncomputable abbrev TkInv4 (TL : List (Addr × Obj)) (c : Nat) (t2 : Tok) (n : Nat) (m₁ : Str → Option Value) (news₁ : List (Addr × Obj)) : Prop := news₁ = TL ∧ ∃ rs, n = rs.length ∧ (encs rs).length ≤ 100 ∧ rs.all rgOk = true ∧ rs.any (rgIn c) = isTok c ∧ ∃ t u, m₁ = frm [(Str.ofString "body", .str (S (encs rs)) t), (Str.ofString "sign", .str (S [c]) t2)] u
set_option maxHeartbeats 1000000 in
theorem takes_spec {w : World} {mg mb : Str → Option Value} {p : Program} {loose : List Str} {mean : ExcName → Option Value} {dp un : Nat} {fr : Option (List Env)} {gd : Option (List Code)} {s : Shared} {TL : List (Addr × Obj)} {R : Result → Shared → Prop} {c : Nat} {t1 t2 : Tok}
    (H : Hid s.heap TL) (X : (hf.heap_1 w.params).In (frz s.heap TL)) (Tp : Top p loose mean mg mb (frz s.heap TL)) (hroom : dp + 1 < recursionLimit)
    (hR : ∀ h' tk, Hid h' TL → (∀ x o, (frz s.heap TL).get? x = some o → h'.get? x = some o) → s.heap.objs.size ≤ h'.objs.size → R (.ok (.ret (.bool (isTok c)))) { s with heap := h', toks := tk }) :
    codeAny (model PySem.Challenge.rw_in0021_01.prog w) (Am dp un fr gd) (.call (.ref 125) ⟨[.str (Str.ofString "[\\-!#$%\\&'*+.^_`\\|\\~0-9A-Za-z]") t1, .str (S [c]) t2], []⟩) R s := by
  refine' enter (binds := [(Str.ofString "part", .str (Str.ofString "[\\-!#$%\\&'*+.^_`\\|\\~0-9A-Za-z]") t1), (Str.ofString "sign", .str (S [c]) t2)]) H X Tp ?k6 ?k7 ?k8 ?k9 ?kB ?_ ?c2 ?c3 ?c4 ?c5
  case k6 => k_is
  case k7 => k_is
  case k8 => show dp < recursionLimit; omega
  case k9 => exact BindsTo.of_eq rfl
  case kB => exact locs rfl
  case c2 => exact rfl
  case c3 => exact rfl
  case c4 => exact rfl
  case c5 => decide
  intro h₁ F N
  try k_fold
  (repeat' ((fail_if_success (with_reducible show wpAny _ _ (exec (Stmt.While _ _ _ _) _) _ _ _)); first | (k_unfold; (try dsimp only)) | ((with_reducible show wpAny _ _ (exec _ _) _ _ _); k_fold) | fail | walk1 | (dsimp only; walk1)))
  rename Fr _ _ _ _ => F'
  rename News _ _ _ _ => N'
  refine While_inv2 (TkInv4 TL c t2) (n₀ := 18) F' N' ?j ?turn ?hE
  case j =>
    exact ⟨rfl, allRq, rfl, by decide, by decide, any_isTok c, _, frm_of2 rfl rfl⟩
  case hE => exact fun _ _ h => h.elim
  case turn =>
    clear F' N'
    rintro n m₁ news₁ h₂ tk₁ F₁ N₁ ⟨rfl, rs, rfl, hlen, hok, hany, t, u, rfl⟩
    have hbs : (S [92] == Str.ofString "\\") = true := rfl
    have hda : (S [45] == Str.ofString "-") = true := rfl
    cases rs with
    | nil =>
      have hE : (S (encs []) == Str.ofString "") = true := rfl
      show wpAny _ _ _ _ _ _
      try k_fold
      (repeat' ((fail_if_success (with_reducible show wpAny _ _ (exec (Stmt.While _ _ _ _) _) _ _ _)); first | (k_unfold; (try dsimp only)) | ((with_reducible show wpAny _ _ (exec _ _) _ _ _); k_fold) | (first | ((with_reducible show wpAny _ _ (compareOp CmpOp.NotEq (Value.str _ _) (Value.str _ _)) _ _ _); (first | (refine k_ne_is true (by assumption) ?_) | (refine k_ne_is false (by assumption) ?_)); (try dsimp only [Bool.not_true, Bool.not_false]))) | walk1 | (dsimp only; walk1)))
      rename Fr _ _ _ _ => F'
      rename News _ _ _ _ => N'
      have e : isTok c = false := by rw [← hany]; rfl
      rw [e] at hR
      exact hR _ _ ⟨fun p hp => (N' p hp).1, H.tab⟩ F'.keep (Nat.le_of_lt F'.ns.lt)
    | cons r rs =>
      have hok1 : rgOk r = true ∧ rs.all rgOk = true := by simpa using hok
      have hX := encs_head hok1.2
      obtain ⟨e, a, o⟩ := r
      have fin1 : ∀ {h' : Heap} {tk : Nat} {m' : Str → Option Value}, Fr (frz s.heap news₁) s.heap.objs.size h' m' → News (frz s.heap news₁) s.heap.objs.size h' news₁ → rgIn c (e, a, o) = true → R (.ok (.ret (.bool true))) { s with heap := h', toks := tk } := by
        intro h' tk m' F' N' hc
        have e : isTok c = true := by rw [← hany, List.any_cons, hc]; rfl
        rw [e] at hR
        exact hR _ _ ⟨fun p hp => (N' p hp).1, H.tab⟩ F'.keep (Nat.le_of_lt F'.ns.lt)
      have any2 : rgIn c (e, a, o) = false → rs.any (rgIn c) = isTok c := by
        intro hc
        rw [← hany, List.any_cons, hc]; rfl
      cases e with
      | true =>
        cases o with
        | none =>
          have hN : (S [92] == Str.ofString "\\") = true := rfl
          have F₂ : Fr (frz s.heap news₁) s.heap.objs.size h₂ (frm [(Str.ofString "body", .str (S (92 :: a :: encs rs)) t), (Str.ofString "sign", .str (S [c]) t2)] u) := F₁
          clear F₁
          have hE : (S (92 :: a :: encs rs) == Str.ofString "") = false := S_cons_ne
          have hlen' : (encs rs).length ≤ 98 := Nat.le_of_succ_le_succ (Nat.le_of_succ_le_succ hlen)
          show wpAny _ _ _ _ _ _
          try k_fold
          (repeat' ((fail_if_success (with_reducible show wpAny _ _ (exec (Stmt.While _ _ _ _) _) _ _ _)); first | (k_unfold; (try dsimp only)) | ((with_reducible show wpAny _ _ (exec _ _) _ _ _); k_fold) | (first | ((with_reducible show wpAny _ _ (compareOp CmpOp.LtE (Value.str (S [_]) _) (Value.str (S [_]) _)) _ _ _); (refine k_le1 ?_)) | ((with_reducible show wpAny _ _ (compareOp CmpOp.NotEq (Value.str _ _) (Value.str _ _)) _ _ _); (first | (refine k_ne_is true (by assumption) ?_) | (refine k_ne_is false (by assumption) ?_)); (try dsimp only [Bool.not_true, Bool.not_false])) | ((with_reducible show wpAny _ _ (compareOp CmpOp.Eq (Value.str _ _) (Value.str _ _)) _ _ _); (first | (refine k_eq_is true (by assumption) ?_) | (refine k_eq_is false (by assumption) ?_)); (try dsimp only)) | ((with_reducible show wpAny _ _ (subscriptTail _ (Expr.Constant (Const.int _) _ _) (Value.str (S _) _) _) _ _ _); (refine k_at (by decide) (by decide) rfl ?_); intro t' k'; (try dsimp only)) | ((with_reducible show wpAny _ _ (subscriptTail _ (Expr.Slice none (some _) none _) (Value.str (S _) _) _) _ _ _); (refine k_slice_to' (s := ⟨_, _, _, _, _⟩) (by k_asm) (by k_asm) rfl (by first | omega | (simp only [List.length_cons]; omega)) ?_); intro h' t' k' F' N'; (try simp only [List.take_succ_cons, List.take_zero]); (try dsimp only)) | ((with_reducible show wpAny _ _ (subscriptTail _ (Expr.Slice (some _) none none _) (Value.str (S _) _) _) _ _ _); (refine k_slice_from (s := ⟨_, _, _, _, _⟩) (by k_asm) (by k_asm) rfl (by simp) (by first | omega | (simp only [List.length_cons]; omega)) ?_); intro h' t' k' F' N'; (try simp only [List.drop_succ_cons, List.drop_zero]); (try dsimp only))) | walk1 | (dsimp only; walk1)))
          all_goals (rename Fr _ _ _ _ => F'; rename News _ _ _ _ => N')
          all_goals first | exact fin1 F' N' (by simp [rgIn]; omega) | exact ⟨_, _, _, _, _, rfl, F', N', Nat.lt_succ_self _, rfl, rs, rfl, by omega, hok1.2, any2 (by simp [rgIn]; omega), _, frm_of2 rfl rfl⟩
        | some b => simp [rgOk] at hok1
      | false =>
        have hN : (S [a] == Str.ofString "\\") = false := S_one_ne rfl (by simp [rgOk] at hok1; exact hok1.1.1)
        cases o with
        | none =>
          have F₂ : Fr (frz s.heap news₁) s.heap.objs.size h₂ (frm [(Str.ofString "body", .str (S (a :: encs rs)) t), (Str.ofString "sign", .str (S [c]) t2)] u) := F₁
          clear F₁
          have hE : (S (a :: encs rs) == Str.ofString "") = false := S_cons_ne
          have hlen' : (encs rs).length ≤ 99 := Nat.le_of_succ_le_succ hlen
          show wpAny _ _ _ _ _ _
          try k_fold
          (repeat' ((fail_if_success (with_reducible show wpAny _ _ (exec (Stmt.While _ _ _ _) _) _ _ _)); first | (k_unfold; (try dsimp only)) | ((with_reducible show wpAny _ _ (exec _ _) _ _ _); k_fold) | (first | ((with_reducible show wpAny _ _ (compareOp CmpOp.LtE (Value.str (S [_]) _) (Value.str (S [_]) _)) _ _ _); (refine k_le1 ?_)) | ((with_reducible show wpAny _ _ (compareOp CmpOp.NotEq (Value.str _ _) (Value.str _ _)) _ _ _); (first | (refine k_ne_is true (by assumption) ?_) | (refine k_ne_is false (by assumption) ?_)); (try dsimp only [Bool.not_true, Bool.not_false])) | ((with_reducible show wpAny _ _ (compareOp CmpOp.Eq (Value.str _ _) (Value.str _ _)) _ _ _); (first | (refine k_eq_is true (by assumption) ?_) | (refine k_eq_is false (by assumption) ?_)); (try dsimp only)) | ((with_reducible show wpAny _ _ (subscriptTail _ (Expr.Constant (Const.int _) _ _) (Value.str (S _) _) _) _ _ _); (refine k_at (by decide) (by decide) rfl ?_); intro t' k'; (try dsimp only)) | ((with_reducible show wpAny _ _ (subscriptTail _ (Expr.Slice none (some _) none _) (Value.str (S _) _) _) _ _ _); (refine k_slice_to' (s := ⟨_, _, _, _, _⟩) (by k_asm) (by k_asm) rfl (by first | omega | (simp only [List.length_cons]; omega)) ?_); intro h' t' k' F' N'; (try simp only [List.take_succ_cons, List.take_zero]); (try dsimp only)) | ((with_reducible show wpAny _ _ (subscriptTail _ (Expr.Slice (some _) none none _) (Value.str (S _) _) _) _ _ _); (refine k_slice_from (s := ⟨_, _, _, _, _⟩) (by k_asm) (by k_asm) rfl (by simp) (by first | omega | (simp only [List.length_cons]; omega)) ?_); intro h' t' k' F' N'; (try simp only [List.drop_succ_cons, List.drop_zero]); (try dsimp only))) | walk1 | (dsimp only; walk1)))
          all_goals (rename Fr _ _ _ _ => F'; rename News _ _ _ _ => N')
          all_goals first | exact fin1 F' N' (by simp [rgIn]; omega) | exact ⟨_, _, _, _, _, rfl, F', N', Nat.lt_succ_self _, rfl, rs, rfl, by omega, hok1.2, any2 (by simp [rgIn]; omega), _, frm_of2 rfl rfl⟩
        | some b =>
          have F₂ : Fr (frz s.heap news₁) s.heap.objs.size h₂ (frm [(Str.ofString "body", .str (S (a :: 45 :: b :: encs rs)) t), (Str.ofString "sign", .str (S [c]) t2)] u) := F₁
          clear F₁
          have hE : (S (a :: 45 :: b :: encs rs) == Str.ofString "") = false := S_cons_ne
          have hlen' : (encs rs).length ≤ 97 := Nat.le_of_succ_le_succ (Nat.le_of_succ_le_succ (Nat.le_of_succ_le_succ hlen))
          show wpAny _ _ _ _ _ _
          try k_fold
          (repeat' ((fail_if_success (with_reducible show wpAny _ _ (exec (Stmt.While _ _ _ _) _) _ _ _)); first | (k_unfold; (try dsimp only)) | ((with_reducible show wpAny _ _ (exec _ _) _ _ _); k_fold) | (first | ((with_reducible show wpAny _ _ (compareOp CmpOp.LtE (Value.str (S [_]) _) (Value.str (S [_]) _)) _ _ _); (refine k_le1 ?_)) | ((with_reducible show wpAny _ _ (compareOp CmpOp.NotEq (Value.str _ _) (Value.str _ _)) _ _ _); (first | (refine k_ne_is true (by assumption) ?_) | (refine k_ne_is false (by assumption) ?_)); (try dsimp only [Bool.not_true, Bool.not_false])) | ((with_reducible show wpAny _ _ (compareOp CmpOp.Eq (Value.str _ _) (Value.str _ _)) _ _ _); (first | (refine k_eq_is true (by assumption) ?_) | (refine k_eq_is false (by assumption) ?_)); (try dsimp only)) | ((with_reducible show wpAny _ _ (subscriptTail _ (Expr.Constant (Const.int _) _ _) (Value.str (S _) _) _) _ _ _); (refine k_at (by decide) (by decide) rfl ?_); intro t' k'; (try dsimp only)) | ((with_reducible show wpAny _ _ (subscriptTail _ (Expr.Slice none (some _) none _) (Value.str (S _) _) _) _ _ _); (refine k_slice_to' (s := ⟨_, _, _, _, _⟩) (by k_asm) (by k_asm) rfl (by first | omega | (simp only [List.length_cons]; omega)) ?_); intro h' t' k' F' N'; (try simp only [List.take_succ_cons, List.take_zero]); (try dsimp only)) | ((with_reducible show wpAny _ _ (subscriptTail _ (Expr.Slice (some _) none none _) (Value.str (S _) _) _) _ _ _); (refine k_slice_from (s := ⟨_, _, _, _, _⟩) (by k_asm) (by k_asm) rfl (by simp) (by first | omega | (simp only [List.length_cons]; omega)) ?_); intro h' t' k' F' N'; (try simp only [List.drop_succ_cons, List.drop_zero]); (try dsimp only))) | walk1 | (dsimp only; walk1)))
          all_goals (rename Fr _ _ _ _ => F'; rename News _ _ _ _ => N')
          all_goals first | exact fin1 F' N' (by simp [rgIn]; omega) | exact ⟨_, _, _, _, _, rfl, F', N', Nat.lt_succ_self _, rfl, rs, rfl, by omega, hok1.2, any2 (by simp [rgIn]; omega), _, frm_of2 rfl rfl⟩
end Mine
end
section
theorem Mine.off_W5 : True := by (w_top off; trivial)
open PySem PySem.W PyProof.Rows PySem.Spec PySem.Calls
set_option Elab.async false
set_option maxRecDepth 100000
namespace Mine
theorem Txts.append : ∀ {vs ws vs' ws'}, Txts vs ws → Txts vs' ws' → Txts (vs ++ vs') (ws ++ ws')
  | _, _, _, _, .nil, h => h
  | _, _, _, _, .cons g, h => .cons (g.append h)
theorem frm_of1 {m : Str → Option Value} {x1 : Str} {v1 : Value} (h1 : m x1 = some v1) : ∃ u, m = frm [(x1, v1)] u :=
  frm_of _ fun p hp => by rw [List.mem_singleton.mp hp]; exact h1
section
variable {prog : Program} {w : World} {A : Around} {E : Value → Shared → Prop} {s : Shared} {h₀ : Heap} {L D : Addr} {m : Str → Option Value} {news news' : List (Addr × Obj)} {vs : List Value} {x : Value} {n : Nat} {t u : Tok}
theorem k_last {value slice : Expr} {Q : Value → Shared → Prop} (N : News h₀ L s.heap news) (hm : (D, listOf (vs ++ [x]).toArray n) ∈ news) (hz : vs.length < 2 ^ 22) (h : Q x s)
    (hs : subscripted slice false (.ref D) (.int (-1) u) = operate [.ref D, .int (-1) u] (getItem (.ref D) (.int (-1) u)) := by with_unfolding_all rfl) :
    wpAny (model prog w) A (subscriptTail value slice (.ref D) (.int (-1) u)) Q E s := by
  have hl : s.heap.IsList D (vs ++ [x]).toArray := ⟨_, (N _ hm).1, rfl, n, rfl⟩
  have hsz : (vs ++ [x]).toArray.size = vs.length + 1 := by simp
  refine tail_any hl.typeIs slot_list_getitem.lookup (wpAny_getItem_list_neg hl (by decide) (by rw [hsz]; omega) (by decide) ?_ h) hs
  rw [hsz]
  have : (-1 + ((vs.length + 1 : Nat) : Int)).toNat = vs.length := by omega
  rw [this]
  simp
theorem ki_setL_snoc : ∀ (l : List Value) (x v : Value), ki_setL (l ++ [x]) l.length v = some (l ++ [v])
  | [], _, _ => rfl
  | a :: r, x, v => by
    show (match ki_setL (r ++ [x]) r.length v with | some q => some (a :: q) | none => none) = _
    rw [ki_setL_snoc r x v]; rfl
theorem k_setlast {v : Value} {Q : Unit → Shared → Prop} (F : Fr h₀ L s.heap m) (N : News h₀ L s.heap news) (U : Upd D (listOf (vs ++ [x]).toArray n) (listOf (vs ++ [v]).toArray n) news news')
    (h : ∀ h', Fr h₀ L h' m → News h₀ L h' news' → Q () { s with heap := h' }) : wpAny (model prog w) A (setItem (.ref D) (.int (-1) u) v) Q E s := by
  have hj : seqIndex? (-1) (vs ++ [x]).toArray.size = some vs.length := by
    have hsz : (vs ++ [x]).toArray.size = vs.length + 1 := by simp
    rw [hsz, StrLaws.seqIndex_neg (by decide) (by omega)]
    congr 1
    omega
  exact ki_setNeg F N (by decide) (by decide) hj (by simpa using ki_setL_snoc vs x v) U h
theorem k_pick {value slice : Expr} {y : Str} {i : Int} {Q : Value → Shared → Prop} (h0 : 0 ≤ i) (h1 : i < y.length) (hy : y.length < 2 ^ 22) (h : ∀ c t' k, Q (.str (S [c]) t') { s with toks := k })
    (hs : subscripted slice false (.str y t) (.int i u) = operate [.str y t, .int i u] (getItem (.str y t) (.int i u)) := by with_unfolding_all rfl)
    (ht : ∀ r, letTemporaryGo value (.str y t) r = pure () := by intro _; rfl) :
    wpAny (model prog w) A (subscriptTail value slice (.str y t) (.int i u)) Q E s := by
  refine item_str (fitsSsize_of (N := 9223372036854775808) (by omega) (by omega) (Int.le_refl _)) (by omega) (by omega) (fun _ => ?_) hs ht
  exact h _ _ _
theorem k_chr {i : Int} {Q : Value → Shared → Prop} (h0 : 0 ≤ i) (h1 : i ≤ 1114111) (h : ∀ c t' k, Q (.str (S [c]) t') { s with toks := k }) : wpAny (model prog w) A (call (.builtin "chr") [.int i t]) Q E s :=
  chr_of_range h0 h1 (h _ _ _)
theorem k_len {l : List Value} {Q : Value → Shared → Prop} (N : News h₀ L s.heap news) (hm : (D, listOf l.toArray n) ∈ news) (hz : l.length < 2 ^ 22) (h : ∀ t k, Q (.int (l.length : Nat) t) { s with toks := k }) :
    wpAny (model prog w) A (call (.builtin "len") [.ref D]) Q E s := by
  have hl : s.heap.IsList D l.toArray := ⟨_, (N _ hm).1, rfl, n, rfl⟩
  refine len_list hl (by rw [List.size_toArray]; omega) ?_
  rw [List.size_toArray]
  exact h _ _
theorem k_append {l : List Value} {v : Value} {Q : Value → Shared → Prop} (F : Fr h₀ L s.heap m) (N : News h₀ L s.heap news) (U : Upd D (listOf l.toArray n) (listOf (l ++ [v]).toArray (n + 1)) news news') (hz : l.length < 2 ^ 22)
    (h : ∀ h', Fr h₀ L h' m → News h₀ L h' news' → Q .none { s with heap := h' }) : wpAny (model prog w) A (call (.builtin "list.append") [.ref D, v]) Q E s := by
  have e : l.toArray.push v = (l ++ [v]).toArray := by simp
  rw [← e] at U
  exact append_K F N U h (by rw [List.size_toArray]; show l.length ≤ 2 ^ 24; omega)
end
section
variable {prog : Program} {w : World} {A : Around} {E : Value → Shared → Prop} {s : Shared} {t u : Tok}
theorem k_pickB {value slice : Expr} {y : Str} {T : List Nat} {i : Int} {Q : Value → Shared → Prop} (hy : y = S T) (h0 : 0 ≤ i) (h1 : i < T.length) (hT : ∀ c ∈ T, c < 1114112) (hz : T.length ≤ 100) (h : ∀ c t' k, c < 1114112 → Q (.str (S [c]) t') { s with toks := k })
    (hs : subscripted slice false (.str y t) (.int i u) = operate [.str y t, .int i u] (getItem (.str y t) (.int i u)) := by with_unfolding_all rfl)
    (ht : ∀ r, letTemporaryGo value (.str y t) r = pure () := by intro _; rfl) :
    wpAny (model prog w) A (subscriptTail value slice (.str y t) (.int i u)) Q E s := by
  subst hy
  have hl : i.toNat < T.length := by omega
  exact k_at h0 (by omega) (List.getElem?_eq_getElem hl) (fun t' k => h _ t' k (hT _ (List.getElem_mem hl))) hs ht
theorem k_chrB {i : Int} {Q : Value → Shared → Prop} (h0 : 0 ≤ i) (h1 : i ≤ 1114111) (h : ∀ c t' k, c < 1114112 → Q (.str (S [c]) t') { s with toks := k }) : wpAny (model prog w) A (call (.builtin "chr") [.int i t]) Q E s :=
  chr_of_range h0 h1 (h _ _ _ (by omega))
end
noncomputable abbrev VInv5 (TL : List (Addr × Obj)) (D : Addr) (i : Nat) (m₁ : Str → Option Value) (news₁ : List (Addr × Obj)) : Prop := ∃ vs ws x tx n, news₁ = (D, W.listOf (vs ++ [.str (S x) tx]).toArray n) :: TL ∧ Txts vs ws ∧ ws.length < 5 ∧ (∀ y ∈ ws ++ [x], y.length ≤ 2 + i) ∧ (∀ y ∈ ws ++ [x], ∀ c ∈ y, c < 1114112) ∧ ∃ u, m₁ = frm [(Str.ofString "values", .ref D)] u
set_option maxHeartbeats 1000000 in
theorem values_spec {w : World} {mg mb : Str → Option Value} {p : Program} {loose : List Str} {mean : ExcName → Option Value} {dp un : Nat} {fr : Option (List Env)} {gd : Option (List Code)} {s : Shared} {TL : List (Addr × Obj)} {R : Result → Shared → Prop} {l : Addr} {is : List Value} {ns : List Int}
    (H : Hid s.heap TL) (X : (hf.heap_1 w.params).In (frz s.heap TL)) (Tp : Top p loose mean mg mb (frz s.heap TL)) (hroom : dp + 1 < recursionLimit)
    (hl : (frz s.heap TL).IsList l is.toArray) (hi : IntsAre is ns) (hlen : ns.length ≤ 8)
    (hR : ∀ h' tk r (vs : List Value) ws n, Hid h' TL → (∀ x o, (frz s.heap TL).get? x = some o → h'.get? x = some o) → s.heap.objs.size ≤ h'.objs.size → h'.get? r = some (W.listOf vs.toArray n) → (frz s.heap TL).get? r = none → r ≠ s.heap.objs.size → (∀ q ∈ TL, q.1 ≠ r) → Txts vs (ws ++ [[45, 126], []]) → 1 ≤ ws.length → ws.length ≤ 5 → (∀ y ∈ ws, y.length ≤ 10) → (∀ y ∈ ws, ∀ c ∈ y, c < 1114112) → R (.ok (.ret (.ref r))) { s with heap := h', toks := tk }) :
    codeAny (model PySem.Challenge.rw_in0021_01.prog w) (Am dp un fr gd) (.call (.ref 118) ⟨[.ref l], []⟩) R s := by
  refine' enter (binds := [(Str.ofString "script", .ref l)]) H X Tp ?k6 ?k7 ?k8 ?k9 ?kB ?_ ?c2 ?c3 ?c4 ?c5
  case k6 => k_is
  case k7 => k_is
  case k8 => show dp < recursionLimit; omega
  case k9 => exact BindsTo.of_eq rfl
  case kB => exact locs rfl
  case c2 => exact rfl
  case c3 => exact rfl
  case c4 => exact rfl
  case c5 => decide
  intro h₁ F N
  try k_fold
  (repeat' ((fail_if_success (with_reducible show wpAny _ _ (exec (Stmt.For _ _ _ _ _) _) _ _ _)); first | (k_unfold; (try dsimp only)) | ((with_reducible show wpAny _ _ (exec _ _) _ _ _); k_fold) | fail | walk1 | (dsimp only; walk1)))
  rename Fr _ _ _ _ => F'
  rename News _ _ _ _ => N'
  refine For_turns F' ?_
  (repeat' ((fail_if_success (with_reducible show wpAny _ _ (exec (Stmt.For _ _ _ _ _) _) _ _ _)); first | (k_unfold; (try dsimp only)) | ((with_reducible show wpAny _ _ (exec _ _) _ _ _); k_fold) | fail | walk1 | (dsimp only; walk1)))
  rename_i tq D hx l1 hy
  refine list_turns (VInv5 TL D) rfl hl F' N' ?j ?turn ?done
  case j => exact ⟨[], [], [97, 34], tq, 0, rfl, .nil, by decide, by simp, by decide, frm_of1 rfl⟩
  case turn =>
    clear F' N'
    rintro I hI i v m₁ news₁ h tk oI hv ⟨vs, ws, x, tx, n, rfl, htx, hw, hy5, hcd, u, rfl⟩ hne F₁ N₁
    have hDI : D < I := hI _ (List.mem_cons_self ..)
    have hTI : ∀ p ∈ TL, p.1 < I := fun p hp => hI _ (List.mem_cons_of_mem _ hp)
    have hi' : i < ns.length := by rw [← hi.length]; exact (List.getElem?_eq_some_iff.mp hv).1
    obtain ⟨t, ht⟩ := hi.get i ns[i] (by simp [hi'])
    have hv' : v = .int ns[i] t := by rw [ht] at hv; exact (Option.some.inj hv).symm
    subst hv'
    have hID : I ≠ D := Nat.ne_of_gt hDI
    have hTD : ∀ p ∈ TL, p.1 ≠ D := fun p hp => Nat.ne_of_lt (l1 p hp)
    have hk0 : 0 ≤ ns[i].fmod 13 := Int.fmod_nonneg_of_pos _ (by decide)
    have hk1 : ns[i].fmod 13 < 13 := Int.fmod_lt_of_pos _ (by decide)
    have hvw := htx.length
    have hvl : vs.length < 5 := by rw [htx.length]; exact hw
    have hxl : x.length ≤ 100 := by have := hy5 x (by simp); omega
    show wpAny _ _ _ _ _ _
    have hoffI : ∀ o : Obj, ∀ p ∈ (D, o) :: TL, p.1 ≠ I := fun o p hp => by
      rcases List.mem_cons.mp hp with rfl | hp
      · exact Nat.ne_of_lt hDI
      · exact Nat.ne_of_lt (hTI p hp)
    have hA : ∀ y ∈ (ws ++ [x]) ++ [[]], y.length ≤ 2 + (i + 1) := fun y hy => by
      rcases List.mem_append.mp hy with hy | hy
      · have := hy5 y hy; omega
      · rw [List.mem_singleton.mp hy]; simp
    have hcA : ∀ y ∈ (ws ++ [x]) ++ [[]], ∀ c ∈ y, c < 1114112 := fun y hy => by
      rcases List.mem_append.mp hy with hy | hy
      · exact hcd y hy
      · rw [List.mem_singleton.mp hy]; exact fun _ h => (nomatch h)
    have hcB : ∀ c, c < 1114112 → ∀ y ∈ ws ++ [x ++ [c]], ∀ d ∈ y, d < 1114112 := fun c hc y hy d hd => by
      rcases List.mem_append.mp hy with hy | hy
      · exact hcd y (List.mem_append_left _ hy) d hd
      · rw [List.mem_singleton.mp hy] at hd
        rcases List.mem_append.mp hd with hd | hd
        · exact hcd x (by simp) d hd
        · rw [List.mem_singleton.mp hd]; exact hc
    have hC : ∀ y ∈ ws ++ [x], y.length ≤ 2 + (i + 1) := fun y hy => by have := hy5 y hy; omega
    have hB : ∀ c, ∀ y ∈ ws ++ [x ++ [c]], y.length ≤ 2 + (i + 1) := fun c y hy => by
      rcases List.mem_append.mp hy with hy | hy
      · exact hC y (List.mem_append_left _ hy)
      · rw [List.mem_singleton.mp hy]
        have := hy5 x (by simp)
        simp; omega
    show wpAny _ _ _ _ _ _
    try k_fold
    (repeat' ((fail_if_success (with_reducible show wpAny _ _ (exec (Stmt.For _ _ _ _ _) _) _ _ _)); first | (k_unfold; (try dsimp only)) | ((with_reducible show wpAny _ _ (exec _ _) _ _ _); k_fold) | (first | ((with_reducible show wpAny _ _ (binaryOp Operator.Add (Value.str (S _) _) (Value.str (S _) _)) _ _ _); (refine k_add (by simp only [List.length_cons, List.length_nil]; omega) ?_); intro t' tk'; (try dsimp only)) | ((with_reducible show wpAny _ _ (setItem (Value.ref _) (Value.int _ _) (Value.str _ _)) _ _ _); (refine' k_setlast ?zqF ?zqN ?zqU ?_; (case zqF => k_asm); (case zqN => k_asm); (case zqU => (first | ((repeat (first | (refine' Upd.head ?zqb; (case zqb => assumption)) | (refine' Upd.tail ?zqa ?_; (case zqa => assumption); rotate_left))); done) | k_upd))); intro h' F' N'; (try dsimp only)) | ((with_reducible show wpAny _ _ (subscriptTail _ (Expr.UnaryOp _ _ _) (Value.ref _) _) _ _ _); (refine k_last (by k_asm) (by k_mem) (by omega) ?_)) | ((with_reducible show wpAny _ _ (call (Value.builtin "list.append") [Value.ref _, _]) _ _ _); (refine' k_append ?zqF ?zqN ?zqU ?zqz ?_; (case zqF => k_asm); (case zqN => k_asm); (case zqU => (first | ((repeat (first | (refine' Upd.head ?zqb; (case zqb => assumption)) | (refine' Upd.tail ?zqa ?_; (case zqa => assumption); rotate_left))); done) | k_upd)); (case zqz => (simp only [List.length_append, List.length_cons, List.length_nil]; omega))); intro h' F' N'; (try dsimp only)) | ((with_reducible show wpAny _ _ (call (Value.builtin "len") [Value.ref _]) _ _ _); (refine k_len (by k_asm) (by k_mem) (by simp only [List.length_append, List.length_cons, List.length_nil]; omega) ?_); intro t' k'; (try simp only [List.length_append, List.length_cons, List.length_nil]); (try dsimp only)) | ((with_reducible show wpAny _ _ (call (Value.builtin "chr") _) _ _ _); (refine k_chrB (Int.fmod_nonneg_of_pos _ (by decide)) (Int.le_trans (Int.le_of_lt (Int.fmod_lt_of_pos _ (by decide))) (by decide)) ?_); intro c' t' k' hc'; (try dsimp only)) | ((with_reducible show wpAny _ _ (subscriptTail _ (Expr.BinOp _ _ _ _) (Value.str (Str.ofString _) _) _) _ _ _); (refine k_pickB (T := [97, 55, 45, 46, 34, 92, 32, 44, 59, 61, 47]) rfl (by omega) (Int.lt_of_lt_of_le (b := 11) (by omega) (by decide)) (by decide) (by decide) ?_); intro c' t' k' hc'; (try dsimp only))) | walk1 | (dsimp only; walk1)))
    all_goals (rename Fr _ _ _ _ => F'; rename News _ _ _ _ => N')
    all_goals first
      | exact ⟨_, _, _, _, rfl, F', N', hoffI _, vs, ws, x, tx, n, rfl, htx, hw, hC, hcd, frm_of1 rfl⟩
      | exact ⟨_, _, _, _, rfl, F', N', hoffI _, vs, ws, _, _, n, rfl, htx, hw, hB _, hcB _ (by assumption), frm_of1 rfl⟩
      | exact ⟨_, _, _, _, rfl, F', N', hoffI _, _, ws ++ [x], [], _, n + 1, rfl, htx.snoc, by simp; omega, hA, hcA, frm_of1 rfl⟩
  case done =>
    clear F' N'
    rintro m₁ news₁ h tk ⟨vs, ws, x, tx, n, rfl, htx, hw, hy5, hcd, u, rfl⟩ F₁ N₁
    have hvw := htx.length
    have hvl : vs.length < 5 := by rw [htx.length]; exact hw
    (repeat' ((fail_if_success (with_reducible show wpAny _ _ (exec (Stmt.For _ _ _ _ _) _) _ _ _)); first | (k_unfold; (try dsimp only)) | ((with_reducible show wpAny _ _ (exec _ _) _ _ _); k_fold) | fail | walk1 | (dsimp only; walk1)))
    rename Fr _ _ _ _ => F'
    rename News _ _ _ _ => N'
    rename News _ _ _ (_ :: _ :: TL) => N1
    refine hR _ _ _ _ (ws ++ [x]) 0 ⟨fun p hp => (N' p (.tail _ (.tail _ (.tail _ hp)))).1, H.tab⟩ F'.keep (Nat.le_of_lt F'.ns.lt) (N' _ (.head _)).1 (N' _ (.head _)).2.2 (N' _ (.head _)).2.1 (fun q hq => Nat.ne_of_lt (Heap.lt_size (N1 q (.tail _ (.tail _ hq))).1)) ((htx.snoc).append (.cons (.cons .nil))) (by simp) (by simp; omega) ?_ hcd
    intro y hy
    have h1 := hy5 y hy
    have h2 := hi.length
    omega
end Mine
end
section
theorem Mine.off_W6 : True := by (w_top off; trivial)
open PySem PySem.W PyProof.Rows PySem.Spec PySem.Calls
set_option Elab.async false
set_option maxRecDepth 100000
namespace Mine
theorem codeAmong_snoc' {pos pos' : Pos} {c v : Value} (l : List Value) (h : TriplesOk l) (hs : codeAmong pos' (l ++ [rawInt pos.line, rawInt pos.col, c]) = some v) :
    codeAmong pos' l = some v ∨ (pos'.line = pos.line ∧ v = c) := by
  fun_induction TriplesOk l with
  | case1 =>
    right
    simp only [List.nil_append, codeAmong, rawInt] at hs
    split at hs
    · rename_i q
      have q1 : ((pos.line : Int) == (pos'.line : Int)) = true := by
        rw [Bool.and_eq_true] at q; exact q.1
      have := eq_of_beq q1
      exact ⟨by omega, (Option.some.inj hs).symm⟩
    · cases hs
  | case2 a t b u x rest ih =>
    simp only [List.cons_append, codeAmong] at hs ⊢
    split at hs
    · rename_i q; rw [if_pos q]; exact .inl hs
    · rename_i q; rw [if_neg q]; exact ih h hs
  | case3 l h1 h2 => exact h.elim
/-- the hidden part TL' of heap h' that grew out of TL in heap h -/
structure Grown (h h' : Heap) (TL TL' : List (Addr × Obj)) : Prop where
  hid : Hid h' TL'
  fresh : ∀ p ∈ TL', (frz h TL).get? p.1 = none
  keep : ∀ x o, (frz h TL).get? x = some o → h'.get? x = some o
  size : h.objs.size ≤ h'.objs.size
theorem frz_of {h₀ h : Heap} {TL : List (Addr × Obj)} (keep : ∀ b o, h₀.get? b = some o → h.get? b = some o) (off : ∀ p ∈ TL, h₀.get? p.1 = none) : ∀ b o, h₀.get? b = some o → (frz h TL).get? b = some o := fun b o e =>
  hideAll_get _ (keep b o e) fun q => by
    obtain ⟨p, hp, rfl⟩ := List.mem_map.mp q
    rw [off p hp] at e
    cases e
theorem frz_get {h : Heap} {TL : List (Addr × Obj)} {b : Addr} {o : Obj} (e : h.get? b = some o) (off : ∀ p ∈ TL, p.1 ≠ b) : (frz h TL).get? b = some o :=
  hideAll_get _ e fun q => by
    obtain ⟨p, hp, rfl⟩ := List.mem_map.mp q
    exact off p hp rfl
section
variable {h₀ h h' : Heap} {L : Addr} {m : Str → Option Value} {news pre TL TL' : List (Addr × Obj)}
theorem hid_of (N : News h₀ L h news) (sub : ∀ p ∈ TL, p ∈ news) : Hid h TL := ⟨fun p hp => (N p (sub p hp)).1, fun _ _ => rfl⟩
theorem Grown.same (H : Hid h' TL) (k : ∀ x o, (frz h TL).get? x = some o → h'.get? x = some o) (z : h.objs.size ≤ h'.objs.size) : Grown h h' TL TL :=
  ⟨H, fun p hp => hideAll_none _ (List.mem_map_of_mem hp), k, z⟩
theorem Grown.of (F : Fr (frz h TL) L h' m) (N : News (frz h TL) L h' news) (sub : ∀ p ∈ TL', p ∈ news) (z : h.objs.size ≤ L) : Grown h h' TL TL' :=
  ⟨hid_of N sub, fun p hp => (N p (sub p hp)).2.2, F.keep, Nat.le_trans z (Nat.le_of_lt F.ns.lt)⟩
theorem Grown.frz {x : Addr} {o : Obj} (G : Grown h h' TL TL') (e : (frz h TL).get? x = some o) : (frz h' TL').get? x = some o :=
  hideAll_get _ (G.keep x o e) fun q => by
    obtain ⟨p, hp, rfl⟩ := List.mem_map.mp q
    rw [G.fresh p hp] at e
    cases e
theorem Grown.trans {h'' : Heap} {TL'' : List (Addr × Obj)} (a : Grown h h' TL TL') (b : Grown h' h'' TL' TL'') : Grown h h'' TL TL'' :=
  ⟨b.hid, fun p hp => (by
    cases e : (Mine.frz h TL).get? p.1 with
    | none => rfl
    | some o =>
      have := a.frz e
      rw [b.fresh p hp] at this
      cases this), fun x o e => b.keep x o (a.frz e), Nat.le_trans a.size b.size⟩
/-- back from a call whose walk hid TL -/
theorem backK (F : Fr h₀ L h m) (N : News h₀ L h (pre ++ TL)) (sep : ∀ p ∈ pre, ∀ q ∈ TL, p.1 ≠ q.1) (G : Grown h h' TL TL') : Fr h₀ L h' m ∧ News h₀ L h' (pre ++ TL') ∧ ∀ p ∈ pre, ∀ q ∈ TL', p.1 ≠ q.1 := by
  have off : ∀ p ∈ TL, h₀.get? p.1 = none := fun p hp => (N p (List.mem_append_right _ hp)).2.2
  have hL : ∀ o, h.get? L = some o → (frz h TL).get? L = some o := fun o e => frz_get e fun p hp => (N p (List.mem_append_right _ hp)).2.1
  refine ⟨⟨F.ns.at' fun o e => G.keep _ _ (hL o e), fun b o e => G.keep _ _ (frz_of F.keep off b o e), F.above⟩, fun p hp => ?_, fun p hp q hq e => ?_⟩
  · rcases List.mem_append.mp hp with hp | hp
    · have n := N p (List.mem_append_left _ hp)
      exact ⟨G.keep _ _ (frz_get n.1 fun q hq => (sep p hp q hq).symm), n.2⟩
    · refine ⟨G.hid.at_ p hp, fun e => ?_, ?_⟩
      · obtain ⟨o, ho⟩ : ∃ o, h.get? L = some o := let ⟨o, _, _, e, _⟩ := F.ns; ⟨o, e⟩
        have := hL o ho
        rw [← e, G.fresh p hp] at this
        cases this
      · cases e : h₀.get? p.1 with
        | none => rfl
        | some o =>
          have := frz_of F.keep off _ _ e
          rw [G.fresh p hp] at this
          cases this
  · have n := N p (List.mem_append_left _ hp)
    have := frz_get n.1 fun q hq => (sep p hp q hq).symm
    rw [e, G.fresh q hq] at this
    cases this
/-- the ledger news is pre ahead of TL -/
inductive Endg (TL : List (Addr × Obj)) : List (Addr × Obj) → List (Addr × Obj) → Prop
  | nil : Endg TL TL []
  | cons {x news pre} : Endg TL news pre → Endg TL (x :: news) (x :: pre)
theorem Endg.eq {TL news pre : List (Addr × Obj)} (e : Endg TL news pre) : news = pre ++ TL := by
  induction e with
  | nil => rfl
  | cons _ ih => rw [ih]; rfl
end
section
variable {M : Model} {A : Around} {E : Value → Shared → Prop} {s : Shared} {h₀ : Heap} {L a c P : Addr} {m mg mb : Str → Option Value} {cn : Str} {cs : Scope} {ccd : Value} {cl : List (Str × Addr)} {news pre TL : List (Addr × Obj)}
  {p : Program} {loose : List Str} {mean : ExcName → Option Value} {params : Arguments} {body : Expr} {scope : Scope} {pos : Pos} {clos : List (Str × Addr)}
theorem triples_one {l : List Value} (h : TriplesOk l) : ∀ x t, l[1]? ≠ some (.str x t) := by
  intro x t q
  fun_induction TriplesOk l with
  | case1 => simp at q
  | case2 a t b u x rest ih => simp at q
  | case3 l h1 h2 => exact h.elim
theorem TabOk.off {h : Heap} {ps : Array Value} {oc : Obj} {vs : Array Value} {y : Str} {t : Tok} {b : Addr} (H : ∀ p ∈ TL, h.get? p.1 = some p.2) (hm : (P, tabObj ps) ∈ TL) (ht : TriplesOk ps.toList) (e2 : (b, oc) ∈ TL) (e3 : oc.data = .fields vs) (e4 : vs[1]? = some (.str y t)) : b ≠ P := fun q => by
  subst q
  have h1 := H _ e2
  have h2 := H _ hm
  rw [h1] at h2
  have h3 : oc = tabObj ps := Option.some.inj h2
  rw [h3] at e3
  have h4 : ps = vs := Data.fields.inj e3
  subst h4
  exact triples_one ht y t (by rw [Array.getElem?_toList]; exact e4)
theorem TabOk.grow {h : Heap} {P P' c' : Addr} {ps : Array Value} {oc : Obj} {qq : Nat → Str} (H : ∀ p ∈ TL, h.get? p.1 = some p.2) (hm : (P, tabObj ps) ∈ TL) (ht : TriplesOk ps.toList) (hne : P' ≠ P) (T : TabOk TL P' qq) {x : Obj} :
    TabOk ((P, x) :: (c', oc) :: TL.filter (fun p => p.1 != P)) P' qq := by
  obtain ⟨qs, a, b, e⟩ := T
  refine ⟨qs, .tail _ (.tail _ (List.mem_filter.mpr ⟨a, by simpa using hne⟩)), b, fun pos v hv => ?_⟩
  obtain ⟨c, oc, vs, t, e1, e2, e3, e4⟩ := e pos v hv
  have := TabOk.off H hm ht e2 e3 e4
  exact ⟨c, oc, vs, t, e1, .tail _ (.tail _ (List.mem_filter.mpr ⟨e2, by simpa using this⟩)), e3, e4⟩
theorem TabOk.grown {h : Heap} {c' : Addr} {ps vs : Array Value} {oc : Obj} {qq : Nat → Str} {t : Tok} (H : ∀ p ∈ TL, h.get? p.1 = some p.2) (hm : (P, tabObj ps) ∈ TL) (ht : TriplesOk ps.toList)
    (hq : ∀ pos v, codeAmong pos ps.toList = some v → ∃ c oc vs t, v = .ref c ∧ (c, oc) ∈ TL ∧ oc.data = .fields vs ∧ vs[1]? = some (.str (qq pos.line) t)) (hd : oc.data = .fields vs) (hv : vs[1]? = some (.str (qq pos.line) t)) :
    TabOk ((P, tabObj (ps ++ #[rawInt pos.line, rawInt pos.col, .ref c'])) :: (c', oc) :: TL.filter (fun p => p.1 != P)) P qq := by
  have e : (ps ++ #[rawInt pos.line, rawInt pos.col, .ref c']).toList = ps.toList ++ [rawInt pos.line, rawInt pos.col, .ref c'] := by simp
  refine ⟨_, .head _, by rw [e]; exact TriplesOk_snoc _ _ _ _ ht, fun pos' v hv' => ?_⟩
  rw [e] at hv'
  rcases codeAmong_snoc' _ ht hv' with h1 | ⟨h1, rfl⟩
  · obtain ⟨c, oc, vs, t, e1, e2, e3, e4⟩ := hq pos' v h1
    have := TabOk.off H hm ht e2 e3 e4
    exact ⟨c, oc, vs, t, e1, .tail _ (.tail _ (List.mem_filter.mpr ⟨e2, by simpa using this⟩)), e3, e4⟩
  · exact ⟨c', oc, vs, t, rfl, .tail _ (.head _), hd, by rw [h1]; exact hv⟩
/-- the three tables of codes that the law's functions grow -/
noncomputable def qq65 : Nat → Str := fun _ => Str.ofString "split_header_words.<locals>.<lambda>"
noncomputable def qq82 : Nat → Str := fun _ => Str.ofString "join_header_words.<locals>.<lambda>"
noncomputable def qq106 : Nat → Str := fun n => if n = 119 then Str.ofString "_translate.<locals>.<genexpr>" else Str.ofString "_translate.<locals>.<lambda>"
structure Tabs (TL : List (Addr × Obj)) : Prop where
  t65 : TabOk TL 65 qq65
  t82 : TabOk TL 82 qq82
  t106 : TabOk TL 106 qq106
/-- a table of the three -/
noncomputable def TabAt (P : Addr) (qq : Nat → Str) : Prop := (P = 65 ∧ qq = qq65) ∨ (P = 82 ∧ qq = qq82) ∨ (P = 106 ∧ qq = qq106)
theorem Tabs.get {qq : Nat → Str} (T : Tabs TL) (h : TabAt P qq) : TabOk TL P qq := by
  rcases h with ⟨rfl, rfl⟩ | ⟨rfl, rfl⟩ | ⟨rfl, rfl⟩
  · exact T.t65
  · exact T.t82
  · exact T.t106
theorem Tabs.grow {h : Heap} {c' : Addr} {ps vs : Array Value} {oc : Obj} {qq : Nat → Str} {t : Tok} (T : Tabs TL) (hP : TabAt P qq) (H : ∀ p ∈ TL, h.get? p.1 = some p.2) (hm : (P, tabObj ps) ∈ TL) (ht : TriplesOk ps.toList)
    (hq : ∀ pos v, codeAmong pos ps.toList = some v → ∃ c oc vs t, v = .ref c ∧ (c, oc) ∈ TL ∧ oc.data = .fields vs ∧ vs[1]? = some (.str (qq pos.line) t)) (hd : oc.data = .fields vs) (hv : vs[1]? = some (.str (qq pos.line) t)) :
    Tabs ((P, tabObj (ps ++ #[rawInt pos.line, rawInt pos.col, .ref c'])) :: (c', oc) :: TL.filter (fun p => p.1 != P)) := by
  have g := TabOk.grown (c' := c') (pos := pos) H hm ht hq hd hv
  rcases hP with ⟨rfl, rfl⟩ | ⟨rfl, rfl⟩ | ⟨rfl, rfl⟩
  · exact ⟨g, T.t82.grow H hm ht (by decide), T.t106.grow H hm ht (by decide)⟩
  · exact ⟨T.t65.grow H hm ht (by decide), g, T.t106.grow H hm ht (by decide)⟩
  · exact ⟨T.t65.grow H hm ht (by decide), T.t82.grow H hm ht (by decide), g⟩
/-- a new table from an old one, with the table P at the head -/
theorem news_swap {h : Heap} {ps : Array Value} (N : News h₀ L h (pre ++ TL)) (hm : (P, tabObj ps) ∈ TL) : News h₀ L h (pre ++ (P, tabObj ps) :: TL.filter (fun p => p.1 != P)) := fun p hp => by
  rcases List.mem_append.mp hp with hp | hp
  · exact N p (List.mem_append_left _ hp)
  · rcases List.mem_cons.mp hp with rfl | hp
    · exact N _ (List.mem_append_right _ hm)
    · exact N p (List.mem_append_right _ (List.mem_filter.mp hp).1)
theorem updF_at {o : Obj} {post : List (Addr × Obj)} : ∀ {pre : List (Addr × Obj)}, (∀ p ∈ pre, p.1 ≠ P) → (∀ p ∈ post, p.1 ≠ P) → UpdF P o (pre ++ (P, o) :: post) (fun o' => pre ++ (P, o') :: post)
  | [], _, h => .head h
  | _ :: _, g, h => .tail (g _ (.head _)) (updF_at (fun p hp => g p (.tail _ hp)) h)
theorem k_lambda {qual : Str} {qq : Nat → Str} {Q : Value → Shared → Prop} (F : Fr h₀ L s.heap m) (N : News h₀ L s.heap news) (TB : Tabs TL) (En : Endg TL news pre) (hP : TabAt P qq) (sep : ∀ p ∈ pre, ∀ q ∈ TL, p.1 ≠ q.1) (T : Top p loose mean mg mb h₀) (C : CodeHd h₀ c P) (hcd : ccd = .ref c)
    (hdef : defaultsOf params (envX cn cs L a ccd cl) = ([], [])) (hql : (envX cn cs L a ccd cl).qual ++ Str.ofString "<lambda>" = qual) (hqq : qq pos.line = qual) (hcl : closureFor scope (envX cn cs L a ccd cl) = pure clos)
    (h : ∀ f c' oc vs t ctv TL' h' tk, Fr h₀ L h' m → News h₀ L h' ((f, kla_obj (Str.ofString "<lambda>") qual params body scope clos ((mg "__name__").getD .none) c' ctv) :: (pre ++ TL')) → Tabs TL' → (∀ p ∈ pre, ∀ q ∈ TL', p.1 ≠ q.1) →
      (c', oc) ∈ TL' → oc.data = .fields vs → vs[1]? = some (.str qual t) → (∀ q ∈ pre ++ TL', q.1 < f) → Q (.ref f) { s with heap := h', toks := tk }) :
    wpAny M A (eval (.Lambda params body scope pos) (envX cn cs L a ccd cl)) Q E s := by
  have en := En.eq
  subst en
  subst hql
  refine kla_eval hdef ?_
  obtain ⟨ps, hm, ht, hq⟩ := TB.get hP
  have H : ∀ p ∈ TL, s.heap.get? p.1 = some p.2 := fun p hp => (N p (List.mem_append_right _ hp)).1
  cases hc : codeAmong pos ps.toList with
  | some v =>
    obtain ⟨c', oc, vs, t, rfl, e2, e3, e4⟩ := hq pos v hc
    rw [hqq] at e4
    refine kla_hit F N T C hcd (List.mem_append_right _ hm) ht hc hcl fun f ctv h' tk F' N' l => ?_
    exact h f c' oc vs t ctv TL h' tk F' N' TB sep e2 e3 e4 l
  | none =>
    have hpost : ∀ p ∈ TL.filter (fun p => p.1 != P), p.1 ≠ P := fun p hp => by simpa using (List.mem_filter.mp hp).2
    have hpre : ∀ p ∈ pre, p.1 ≠ P := fun p hp => sep p hp _ hm
    refine kla_nest F (news_swap N hm) T C hcd (updF_at hpre hpost) ht hc hcl fun f c' oc vs t ctv h' tk F' N' hd hv l l2 => ?_
    have hPc : P < c' := l _ (List.mem_append_right _ (.head _))
    have N'' : News h₀ L h' ((f, kla_obj (Str.ofString "<lambda>") ((envX cn cs L a ccd cl).qual ++ Str.ofString "<lambda>") params body scope clos ((mg "__name__").getD .none) c' ctv) :: (pre ++ ((P, tabObj (ps ++ #[rawInt pos.line, rawInt pos.col, .ref c'])) :: (c', oc) :: TL.filter (fun p => p.1 != P)))) := fun p hp => by
      rcases List.mem_cons.mp hp with rfl | hp
      · exact N' _ (.head _)
      · rcases List.mem_append.mp hp with hp | hp
        · exact N' p (.tail _ (.tail _ (List.mem_append_left _ hp)))
        · rcases List.mem_cons.mp hp with rfl | hp
          · exact N' _ (.tail _ (.tail _ (List.mem_append_right _ (.head _))))
          · rcases List.mem_cons.mp hp with rfl | hp
            · exact N' _ (.tail _ (.head _))
            · exact N' p (.tail _ (.tail _ (List.mem_append_right _ (.tail _ hp))))
    refine h f c' oc vs t ctv _ h' tk F' N'' (TB.grow hP H hm ht hq hd (by rw [hqq]; exact hv)) (fun p hp q hq => ?_) (.tail _ (.head _)) hd hv fun q hq => ?_
    · rcases List.mem_cons.mp hq with rfl | hq
      · exact hpre p hp
      · rcases List.mem_cons.mp hq with rfl | hq
        · exact Nat.ne_of_lt (l p (List.mem_append_left _ hp))
        · exact sep p hp q (List.mem_filter.mp hq).1
    · rcases List.mem_append.mp hq with hq | hq
      · exact Nat.lt_trans (l q (List.mem_append_left _ hq)) l2
      · rcases List.mem_cons.mp hq with rfl | hq
        · exact Nat.lt_trans hPc l2
        · rcases List.mem_cons.mp hq with rfl | hq
          · exact l2
          · exact Nat.lt_trans (l q (List.mem_append_right _ (.tail _ hq))) l2
end
end Mine
end
section
theorem Mine.off_W7 : True := by (w_top off; trivial)
open PySem PySem.W PyProof.Rows PySem.Spec PySem.Calls
set_option Elab.async false
set_option maxRecDepth 100000
namespace Mine
section
variable {prog : Program} {w : World} {A : Around} {s : Shared} {K : Frag} {mg mb : Str → Option Value} {p : Program} {loose : List Str} {mean : ExcName → Option Value}
theorem enter_lam {R : Result → Shared → Prop} {name qual : Str} {params : Arguments} {body : Expr} {scope : Scope} {cl : List (Str × Addr)} {pm ctv : Value} {c' : Addr} {f : Addr} {args : Args} {binds : List (Str × Value)}
    (T : Top p loose mean mg mb s.heap) (ho : s.heap.get? f = some (kla_obj name qual params body scope cl pm c' ctv)) (hcd : s.heap.CodeRec (.ref c') qual) (hroom : A.depth < recursionLimit)
    (hbind : bindArgs (kla_fn name qual params body scope cl pm (.ref c') ctv) args = pure binds) (hloc : ∀ y ∈ binds, scope.names.lookup y.1 = some .local)
    (h : ∀ h₁, Fr s.heap s.heap.objs.size h₁ (fun y => binds.reverse.lookup y) → News s.heap s.heap.objs.size h₁ [] →
      wpAny (model prog w) (A.deeper (envX qual scope s.heap.objs.size f (.ref c') cl)) (eval body (envX qual scope s.heap.objs.size f (.ref c') cl))
        (fun v s' => R (.ok (.ret v)) s') (fun _ _ => False) { s with heap := h₁, toks := s.toks + binds.length })
    (hco : scope.isCoroutine = false) (hgen : scope.isGenerator = false) (hk : scope.kind = .function)
    (hcell : ∀ x ∈ scope.names, x.2 ≠ .cell) : codeAny (model prog w) A (.call (.ref f) args) R s := by
  refine kla_callFunE hroom ho rfl hco hgen rfl hcd ?_
  rw [hbind]
  refine wpAny_pure (wpAny_newFunctionEnv hcell hloc (fun h₁ hns hsb => ⟨(T.nolimit).fresh _ hsb, ?_⟩) hk)
  show codeAny _ _ (.expr body (envX qual scope s.heap.objs.size f (.ref c') cl)) _ _
  have hk₁ : ∀ b o, s.heap.get? b = some o → h₁.get? b = some o := fun b o e => hsb.extBut b o (Nat.ne_of_lt (Heap.lt_size e)) (Heap.get?_push_of_some _ e)
  exact kla_codeExpr (wpAny_mono (h h₁ ⟨hns, hk₁, Nat.le_refl _⟩ (fun p hp => by cases hp)) (fun v s' hl => hl) fun _ _ y => y.elim)
end
section
variable {prog : Program} {w : World} {A : Around} {E : Value → Shared → Prop} {s : Shared} {t : Tok} {T : List Nat}
theorem k_truthy {Q : Bool → Shared → Prop} (b : Bool) (hz : T.length ≤ 2 ^ 24) (hb : T.isEmpty = !b) (h : ∀ k, Q b { s with toks := k }) : wpAny (model prog w) A (truthy (.str (S T) t)) Q E s := by
  have hl : (S T).length = T.length := by rw [S_len]
  refine P.truthy_str (by rw [hl]; omega) ?_
  have e : (((S T).length : Int) != 0) = b := by
    rw [hl]
    cases T with
    | nil => cases b <;> simp at hb ⊢
    | cons x r =>
      cases b with
      | false => simp at hb
      | true => simp; omega
  rw [e]; exact h _
theorem k_addL {x : Str} {a b : List Nat} {u : Tok} {Q : Value → Shared → Prop} (hz : b.length ≤ 2 ^ 23) (hx : x = S a) (h : ∀ t' tk, Q (.str (S (a ++ b)) t') { s with toks := tk }) (ha : a.length ≤ 2 ^ 23 := by decide) : wpAny (model prog w) A (binaryOp .Add (.str x t) (.str (S b) u)) Q E s := by
  subst hx
  refine add_str (fun t' tk => ?_) (by rw [S_len, S_len]; show a.length + b.length ≤ 2 ^ 24; omega)
  rw [S_append]; exact h t' tk
end
noncomputable abbrev lamParams (p : Pos) : Arguments := { posonlyargs := [], args := [{ arg := Str.ofString "_m", annotation := none, pos := p }], vararg := none, kwonlyargs := [], kw_defaults := [], kwarg := none, defaults := [] }
noncomputable abbrev lamBody (x : Str) (p1 p2 p3 p4 p5 p6 p7 p8 : Pos) : Expr := .BinOp (.Constant (.str x) 0 p1) .Add (.BoolOp .Or [.Call (.Attribute (.Name (Str.ofString "_m") p2) (Str.ofString "group") p3) [.Constant (.int 1) 0 p4] [] p5, .Constant (.str (Str.ofString "")) 0 p6] p7) p8
noncomputable abbrev lamScope : Scope := { kind := .function, names := [(Str.ofString "_m", .local)], isGenerator := false, isCoroutine := false, more := [] }
set_option maxHeartbeats 1000000 in
theorem lam_cb65 {w : World} {mg mb : Str → Option Value} {p : Program} {loose : List Str} {mean : ExcName → Option Value} {dp un : Nat} {fr : Option (List Env)} {gd : Option (List Code)} {h₀ : Heap} {f c' : Addr} {qual : Str} {T : List Nat} {tx : Tok} {pm ctv : Value}
    (X : (hf.heap_1 w.params).In h₀) (Tp : Top p loose mean mg mb h₀) (hroom : dp + 1 < recursionLimit) (hz : T.length ≤ 2 ^ 22)
    (ho : h₀.get? f = some (kla_obj (Str.ofString "<lambda>") qual (lamParams ⟨26, 56, 26, 58⟩) (lamBody (Str.ofString "") ⟨26, 60, 26, 62⟩ ⟨26, 66, 26, 68⟩ ⟨26, 66, 26, 74⟩ ⟨26, 75, 26, 76⟩ ⟨26, 66, 26, 77⟩ ⟨26, 81, 26, 83⟩ ⟨26, 66, 26, 83⟩ ⟨26, 60, 26, 84⟩) lamScope [] pm c' ctv)) (hcd : h₀.CodeRec (.ref c') qual) :
    Calls1 PySem.Challenge.rw_in0021_01.prog w (Am dp un fr gd) h₀ f T tx (Gp [] T) := by
  intro s' ma R' l φ hG k1 k2 hM hR
  obtain ⟨a, b, c, d, rfl, hcd2, hd2, rfl⟩ := hG
  have X' := X.keeps k1
  have Tp' := Tp.keeps k1
  refine' enter_lam (binds := [(Str.ofString "_m", .ref ma)]) Tp' (k1 _ _ ho) (hcd.keeps k1) ?k8 ?k9 ?kB ?_ ?c2 ?c3 ?c4 ?c5
  case k8 => show dp < recursionLimit; omega
  case k9 => exact rfl
  case kB => exact locs rfl
  case c2 => exact rfl
  case c3 => exact rfl
  case c4 => exact rfl
  case c5 => decide
  clear X Tp ho hcd
  have hne : (List.take (d - c) (List.drop c T)).isEmpty = !true := by
    have : (List.take (d - c) (List.drop c T)).length = d - c := by rw [List.length_take, List.length_drop]; omega
    cases h : List.take (d - c) (List.drop c T) with
    | nil => rw [h] at this; simp at this; omega
    | cons x r => rfl
  have hlz : (List.take (d - c) (List.drop c T)).length ≤ 2 ^ 22 := by rw [List.length_take, List.length_drop]; omega
  rw [extract_drop] at hR
  intro h₁ F N
  try k_fold
  (repeat' (first | (k_unfold; (try dsimp only)) | ((with_reducible show wpAny _ _ (exec _ _) _ _ _); k_fold) | (first | ((with_reducible show wpAny _ _ (binaryOp Operator.Add (Value.str _ _) (Value.str (S _) _)) _ _ _); (refine k_addL (by omega) rfl ?_); intro t' tk'; (try dsimp only)) | ((with_reducible show wpAny _ _ (truthy (Value.str (S _) _)) _ _ _); (first | refine k_truthy true (by omega) (by assumption) ?_ | refine k_truthy false (by omega) (by assumption) ?_); intro tk'; (try dsimp only)) | ((with_reducible show wpAny _ _ (call (Value.builtin "re.Match.group") _) _ _ _); (refine' k_group ?zqF ?zqM ?zqh0 ?zqh1 ?zqh2 ?zqh3 ?zqh4 ?zqh5 ?_; (case zqF => k_asm); (case zqM => assumption); (case zqh0 => decide); (case zqh1 => exact (by decide : (2 : Int) < 4)); (case zqh2 => decide); (case zqh3 => rfl); (case zqh4 => rfl); (case zqh5 => omega)); intro t' tk'; (try dsimp only)) | ((with_reducible show wpAny _ _ (getMethod (Value.ref _) _ _) _ _ _); (first | (refine' k_getMethod_match ?zqF ?zqM slot_re_Match_span type_re_Match_span ?_; (case zqF => k_asm); (case zqM => assumption)) | (refine' k_getMethod_match ?zqF ?zqM slot_re_Match_group type_re_Match_group ?_; (case zqF => k_asm); (case zqM => assumption))))) | walk1 | (dsimp only; walk1)))
  rename Fr _ _ _ _ => F'
  exact hR _ _ _ F'.keep (Nat.le_of_lt F'.ns.lt)
set_option maxHeartbeats 1000000 in
theorem lam_cb82 {w : World} {mg mb : Str → Option Value} {p : Program} {loose : List Str} {mean : ExcName → Option Value} {dp un : Nat} {fr : Option (List Env)} {gd : Option (List Code)} {h₀ : Heap} {f c' : Addr} {qual : Str} {T : List Nat} {tx : Tok} {pm ctv : Value}
    (X : (hf.heap_1 w.params).In h₀) (Tp : Top p loose mean mg mb h₀) (hroom : dp + 1 < recursionLimit) (hz : T.length ≤ 2 ^ 22)
    (ho : h₀.get? f = some (kla_obj (Str.ofString "<lambda>") qual (lamParams ⟨57, 57, 57, 59⟩) (lamBody (Str.ofString "\\") ⟨57, 61, 57, 65⟩ ⟨57, 69, 57, 71⟩ ⟨57, 69, 57, 77⟩ ⟨57, 78, 57, 79⟩ ⟨57, 69, 57, 80⟩ ⟨57, 84, 57, 86⟩ ⟨57, 69, 57, 86⟩ ⟨57, 61, 57, 87⟩) lamScope [] pm c' ctv)) (hcd : h₀.CodeRec (.ref c') qual) :
    Calls1 PySem.Challenge.rw_in0021_01.prog w (Am dp un fr gd) h₀ f T tx (Gp [92] T) := by
  intro s' ma R' l φ hG k1 k2 hM hR
  obtain ⟨a, b, c, d, rfl, hcd2, hd2, rfl⟩ := hG
  have X' := X.keeps k1
  have Tp' := Tp.keeps k1
  refine' enter_lam (binds := [(Str.ofString "_m", .ref ma)]) Tp' (k1 _ _ ho) (hcd.keeps k1) ?k8 ?k9 ?kB ?_ ?c2 ?c3 ?c4 ?c5
  case k8 => show dp < recursionLimit; omega
  case k9 => exact rfl
  case kB => exact locs rfl
  case c2 => exact rfl
  case c3 => exact rfl
  case c4 => exact rfl
  case c5 => decide
  clear X Tp ho hcd
  have hne : (List.take (d - c) (List.drop c T)).isEmpty = !true := by
    have : (List.take (d - c) (List.drop c T)).length = d - c := by rw [List.length_take, List.length_drop]; omega
    cases h : List.take (d - c) (List.drop c T) with
    | nil => rw [h] at this; simp at this; omega
    | cons x r => rfl
  have hlz : (List.take (d - c) (List.drop c T)).length ≤ 2 ^ 22 := by rw [List.length_take, List.length_drop]; omega
  rw [extract_drop] at hR
  intro h₁ F N
  try k_fold
  (repeat' (first | (k_unfold; (try dsimp only)) | ((with_reducible show wpAny _ _ (exec _ _) _ _ _); k_fold) | (first | ((with_reducible show wpAny _ _ (binaryOp Operator.Add (Value.str _ _) (Value.str (S _) _)) _ _ _); (refine k_addL (by omega) rfl ?_); intro t' tk'; (try dsimp only)) | ((with_reducible show wpAny _ _ (truthy (Value.str (S _) _)) _ _ _); (first | refine k_truthy true (by omega) (by assumption) ?_ | refine k_truthy false (by omega) (by assumption) ?_); intro tk'; (try dsimp only)) | ((with_reducible show wpAny _ _ (call (Value.builtin "re.Match.group") _) _ _ _); (refine' k_group ?zqF ?zqM ?zqh0 ?zqh1 ?zqh2 ?zqh3 ?zqh4 ?zqh5 ?_; (case zqF => k_asm); (case zqM => assumption); (case zqh0 => decide); (case zqh1 => exact (by decide : (2 : Int) < 4)); (case zqh2 => decide); (case zqh3 => rfl); (case zqh4 => rfl); (case zqh5 => omega)); intro t' tk'; (try dsimp only)) | ((with_reducible show wpAny _ _ (getMethod (Value.ref _) _ _) _ _ _); (first | (refine' k_getMethod_match ?zqF ?zqM slot_re_Match_span type_re_Match_span ?_; (case zqF => k_asm); (case zqM => assumption)) | (refine' k_getMethod_match ?zqF ?zqM slot_re_Match_group type_re_Match_group ?_; (case zqF => k_asm); (case zqM => assumption))))) | walk1 | (dsimp only; walk1)))
  rename Fr _ _ _ _ => F'
  exact hR _ _ _ F'.keep (Nat.le_of_lt F'.ns.lt)
set_option maxHeartbeats 1000000 in
theorem lam_cb106 {w : World} {mg mb : Str → Option Value} {p : Program} {loose : List Str} {mean : ExcName → Option Value} {dp un : Nat} {fr : Option (List Env)} {gd : Option (List Code)} {h₀ : Heap} {f c' : Addr} {qual : Str} {T : List Nat} {tx : Tok} {pm ctv : Value}
    (X : (hf.heap_1 w.params).In h₀) (Tp : Top p loose mean mg mb h₀) (hroom : dp + 1 < recursionLimit) (hz : T.length ≤ 2 ^ 22)
    (ho : h₀.get? f = some (kla_obj (Str.ofString "<lambda>") qual (lamParams ⟨120, 46, 120, 48⟩) (lamBody (Str.ofString "\\") ⟨120, 50, 120, 54⟩ ⟨120, 58, 120, 60⟩ ⟨120, 58, 120, 66⟩ ⟨120, 67, 120, 68⟩ ⟨120, 58, 120, 69⟩ ⟨120, 73, 120, 75⟩ ⟨120, 58, 120, 75⟩ ⟨120, 50, 120, 76⟩) lamScope [] pm c' ctv)) (hcd : h₀.CodeRec (.ref c') qual) :
    Calls1 PySem.Challenge.rw_in0021_01.prog w (Am dp un fr gd) h₀ f T tx (Gp [92] T) := by
  intro s' ma R' l φ hG k1 k2 hM hR
  obtain ⟨a, b, c, d, rfl, hcd2, hd2, rfl⟩ := hG
  have X' := X.keeps k1
  have Tp' := Tp.keeps k1
  refine' enter_lam (binds := [(Str.ofString "_m", .ref ma)]) Tp' (k1 _ _ ho) (hcd.keeps k1) ?k8 ?k9 ?kB ?_ ?c2 ?c3 ?c4 ?c5
  case k8 => show dp < recursionLimit; omega
  case k9 => exact rfl
  case kB => exact locs rfl
  case c2 => exact rfl
  case c3 => exact rfl
  case c4 => exact rfl
  case c5 => decide
  clear X Tp ho hcd
  have hne : (List.take (d - c) (List.drop c T)).isEmpty = !true := by
    have : (List.take (d - c) (List.drop c T)).length = d - c := by rw [List.length_take, List.length_drop]; omega
    cases h : List.take (d - c) (List.drop c T) with
    | nil => rw [h] at this; simp at this; omega
    | cons x r => rfl
  have hlz : (List.take (d - c) (List.drop c T)).length ≤ 2 ^ 22 := by rw [List.length_take, List.length_drop]; omega
  rw [extract_drop] at hR
  intro h₁ F N
  try k_fold
  (repeat' (first | (k_unfold; (try dsimp only)) | ((with_reducible show wpAny _ _ (exec _ _) _ _ _); k_fold) | (first | ((with_reducible show wpAny _ _ (binaryOp Operator.Add (Value.str _ _) (Value.str (S _) _)) _ _ _); (refine k_addL (by omega) rfl ?_); intro t' tk'; (try dsimp only)) | ((with_reducible show wpAny _ _ (truthy (Value.str (S _) _)) _ _ _); (first | refine k_truthy true (by omega) (by assumption) ?_ | refine k_truthy false (by omega) (by assumption) ?_); intro tk'; (try dsimp only)) | ((with_reducible show wpAny _ _ (call (Value.builtin "re.Match.group") _) _ _ _); (refine' k_group ?zqF ?zqM ?zqh0 ?zqh1 ?zqh2 ?zqh3 ?zqh4 ?zqh5 ?_; (case zqF => k_asm); (case zqM => assumption); (case zqh0 => decide); (case zqh1 => exact (by decide : (2 : Int) < 4)); (case zqh2 => decide); (case zqh3 => rfl); (case zqh4 => rfl); (case zqh5 => omega)); intro t' tk'; (try dsimp only)) | ((with_reducible show wpAny _ _ (getMethod (Value.ref _) _ _) _ _ _); (first | (refine' k_getMethod_match ?zqF ?zqM slot_re_Match_span type_re_Match_span ?_; (case zqF => k_asm); (case zqM => assumption)) | (refine' k_getMethod_match ?zqF ?zqM slot_re_Match_group type_re_Match_group ?_; (case zqF => k_asm); (case zqM => assumption))))) | walk1 | (dsimp only; walk1)))
  rename Fr _ _ _ _ => F'
  exact hR _ _ _ F'.keep (Nat.le_of_lt F'.ns.lt)
end Mine
end
section
theorem Mine.off_W8 : True := by (w_top off; trivial)
open PySem PySem.W PyProof.Rows PySem.Spec PySem.Calls
set_option Elab.async false
set_option maxRecDepth 100000
namespace Mine
theorem noBool_match : typeLookup (.type "re.Match") "__bool__" = pure none := by rw [typeLookup_type, builtinLookup_eq_fast]; kernel_rfl
theorem noLen_match : typeLookup (.type "re.Match") "__len__" = pure none := by rw [typeLookup_type, builtinLookup_eq_fast]; kernel_rfl
section
variable {M : Model} {prog : Program} {w : World} {A : Around} {E : Value → Shared → Prop} {s : Shared} {h₀ : Heap} {L a : Addr} {m : Str → Option Value} {news : List (Addr × Obj)} {tx : Tok} {T code : List Nat} {groups : Nat}
theorem k_getMethod_pat {name : Str} {id : String} {pl : Sem Bool} {Q : Value × List Value → Shared → Prop} (F : Fr h₀ L s.heap m) (hP : PatAt h₀ a code groups) (slot : Slot "re.Pattern" name id) (hty : typeOf (.builtin id) = pure (.type "method_descriptor"))
    (h : Q (.builtin id, [.ref a]) s) : wpAny M A (getMethod (.ref a) name pl) Q E s := by
  obtain ⟨ps, pt, fl, ft, sp, h1, h2⟩ := hP.keeps F.keep
  exact getMethod_builtin ⟨_, h1, rfl⟩ plainAttrs_re_Pattern slot hty (fun b q => by cases q; exact ⟨_, h1, rfl⟩) h
theorem k_truthy_match {Q : Bool → Shared → Prop} {o : Obj} (N : News h₀ L s.heap news) (hm : (a, o) ∈ news) (hc : o.cls = .type "re.Match") (h : Q true s) : wpAny (model prog w) A (truthy (.ref a)) Q E s := by
  have hT : s.TypeIs (.ref a) "re.Match" := ⟨_, (N _ hm).1, hc⟩
  unfold truthy
  have f1 := noBool_match
  have f2 := noLen_match
  first
    | refine wpAny_bind (wpAny_callSpecial?_none (name := Str.ofString "__bool__") hT noBool_match ?_)
    | refine wpAny_bind (wpAny_pure (wpAny_bind (wpAny_callSpecial?_none (name := Str.ofString "__bool__") hT noBool_match ?_)))
  repeat (any_goals (first | assumption | wp_step))
theorem k_full {Q : Value → Shared → Prop} (F : Fr h₀ L s.heap m) (N : News h₀ L s.heap news) (hP : PatAt h₀ a cToks 0) (hz : T.length < 2 ^ 22)
    (yes : (!T.isEmpty && T.all isTok) = true → ∀ M o h', o.cls = .type "re.Match" → Fr h₀ L h' m → News h₀ L h' ((M, o) :: news) → (∀ p ∈ news, p.1 < M) → Q (.ref M) { s with heap := h' })
    (no : (!T.isEmpty && T.all isTok) = false → Q .none s) : wpAny (model prog w) A (call (.builtin "re.Pattern.fullmatch") [.ref a, .str (S T) tx]) Q E s := by
  obtain ⟨r, k, e, hk, ho⟩ := tok_full T (by omega)
  have hP' := hP.keeps F.keep
  have e' : Ends (Sre.forMatch cToks.toArray (S T).cps 0 0 (S T).cps.size true false) r k := e
  cases hb : (!T.isEmpty && T.all isTok) with
  | true =>
    rw [hb] at ho
    refine full_yes hP' (by rw [S_len]; omega) (by decide) e' hk ho rfl ?_
    have F1 := F.push (rawTup ((r.start : Int) :: (r.handed : Int) :: spansOf 0 r))
    have N1 := N.push F (rawTup ((r.start : Int) :: (r.handed : Int) :: spansOf 0 r))
    refine yes hb _ (matchObj (S T) tx a 0 (S T).cps.size r.lastindex s.heap.objs.size) _ rfl (F1.push _) (fun p hp => ?_) fun p hp => Nat.lt_succ_of_lt (Heap.lt_size (N p hp).1)
    have N2 := N1.push F1 (matchObj (S T) tx a 0 (S T).cps.size r.lastindex s.heap.objs.size)
    rcases List.mem_cons.mp hp with rfl | hp
    · have := N2 _ (.head _)
      rw [Heap.size_push] at this
      exact this
    · exact N2 p (.tail _ (.tail _ hp))
  | false =>
    rw [hb] at ho
    exact full_no hP' (by rw [S_len]; omega) e' hk ho (no hb)
theorem k_sub {f : Addr} {fo : Obj} {G : List Int → List Nat → Prop} {ps : List (List Nat)} {Q : Value → Shared → Prop} (F : Fr h₀ L s.heap m) (N : News h₀ L s.heap news) (hP : PatAt h₀ a code groups) (hg : groups ≤ 100) (hz : T.length ≤ 2 ^ 22)
    (hf : (f, fo) ∈ news) (hfc : fo.cls = .type "function") (cb : Calls1 prog w A s.heap f T tx G) (hr : Rest code.toArray groups T G 0 0 false ps) (hn : ps.length ≤ 2 ^ 19) (hs : ps.flatten.length ≤ 2 ^ 22)
    (hq : ∀ h' tk t, Fr h₀ L h' m → News h₀ L h' news → Q (.str (S ps.flatten) t) { s with heap := h', toks := tk }) :
    wpAny (model prog w) A (call (.builtin "re.Pattern.sub") [.ref a, .ref f, .str (S T) tx]) Q E s := by
  refine sub_call (hP.keeps F.keep) hg hz (N _ hf).1 hfc cb hr hn (by rw [← List.length_flatten]; exact hs) fun h' tk t k1 k2 => hq h' tk t ?_ ?_
  · exact ⟨F.ns.keeps k1, fun b o e => k1 b o (F.keep b o e), F.above⟩
  · exact fun p hp => ⟨k1 _ _ (N p hp).1, (N p hp).2⟩
end
end Mine
end
section
theorem Mine.off_W8b : True := by (w_top off; trivial)
open PySem PySem.W PyProof.Rows PySem.Spec PySem.Calls
set_option Elab.async false
set_option maxRecDepth 100000
namespace Mine
section
variable {prog : Program} {w : World} {A : Around} {E : Value → Shared → Prop} {s : Shared} {h₀ : Heap} {L D : Addr} {m : Str → Option Value} {news : List (Addr × Obj)} {t u : Tok} {n : Nat}
theorem k_pct {y : List Nat} {Q : Value → Shared → Prop} (hy : y.length ≤ 1000000) (h : ∀ t' k, Q (.str (S (34 :: y ++ [34])) t') { s with toks := k }) :
    wpAny (model prog w) A (binaryOp .Mod (.str (Str.ofString "\"%s\"") t) (.str (S y) u)) Q E s := by
  refine' KPc.mod_str ?a ?b ?c ?_
  case a => kpc_eq
  case b => rw [S_len]; exact hy
  case c => k_dflt kpc_run_s
  intro t' k
  have e : (34 :: y ++ [34]) = [34] ++ y ++ [34] := rfl
  rw [e, ← S_append, ← S_append] at h
  exact h t' k
theorem k_truthy_list {l : List Value} {Q : Bool → Shared → Prop} (b : Bool) (N : News h₀ L s.heap news) (hm : (D, listOf l.toArray n) ∈ news) (hz : l.length < 2 ^ 22) (hb : l.isEmpty = !b) (h : ∀ k, Q b { s with toks := k }) : wpAny (model prog w) A (truthy (.ref D)) Q E s := by
  have hl : s.heap.IsList D l.toArray := ⟨_, (N _ hm).1, rfl, n, rfl⟩
  refine wpAny_truthy_list hl (by rw [List.size_toArray]; omega) ?_
  have e : (!l.toArray.isEmpty) = b := by
    rw [List.isEmpty_toArray, hb]; cases b <;> rfl
  rw [e]; exact h _
theorem k_join {l : List Value} {ws : List (List Nat)} {x : Str} {sep : List Nat} {Q : Value → Shared → Prop} (N : News h₀ L s.heap news) (hm : (D, listOf l.toArray n) ∈ news) (ht : Txts l ws) (hx : x = S sep) (hs : sep.length ≤ 2) (hw : (ws.map List.length).sum + ws.length * 2 ≤ 2 ^ 23)
    (h : ∀ t' k, Q (.str (S (joinL sep ws)) t') { s with toks := k }) : wpAny (model prog w) A (call (.builtin "str.join") [.str x t, .ref D]) Q E s := by
  subst hx
  have hl : s.heap.IsList D l.toArray := ⟨_, (N _ hm).1, rfl, n, rfl⟩
  refine join_list (ys := ws.map S) hl (by simpa using ht.strs) ?_ fun t' k => ?_
  · have e : (ws.map S).map (·.length) = ws.map List.length := by
      rw [List.map_map]
      congr 1
    have e2 : (ws.map S).length * (S sep).length ≤ ws.length * 2 := by
      rw [List.length_map, S_len]
      exact Nat.mul_le_mul_left _ hs
    have e1 : ((ws.map S).map (·.length)).sum = (ws.map List.length).sum := by rw [e]
    omega
  · rw [txtjoin_S]; exact h _ _
end
end Mine
end
section
theorem Mine.off_W9 : True := by (w_top off; trivial)
open PySem PySem.W PyProof.Rows PySem.Spec PySem.Calls
set_option Elab.async false
set_option maxRecDepth 100000
namespace Mine
inductive Both {α : Type} (R : Value → α → Prop) : List Value → List α → Prop
  | nil : Both R [] []
  | cons {v x vs xs} : R v x → Both R vs xs → Both R (v :: vs) (x :: xs)
theorem Both.length {α : Type} {R : Value → α → Prop} {vs : List Value} {xs : List α} (h : Both R vs xs) : vs.length = xs.length := by
  induction h with
  | nil => rfl
  | cons _ _ ih => simp [ih]
theorem Both.get {α : Type} {R : Value → α → Prop} {vs : List Value} {xs : List α} (h : Both R vs xs) : ∀ {i : Nat} {v : Value}, vs[i]? = some v → ∃ x, xs[i]? = some x ∧ R v x := by
  induction h with
  | nil => intro i v e; simp at e
  | cons r _ ih =>
    intro i v e
    cases i with
    | zero => simp at e; subst e; exact ⟨_, rfl, r⟩
    | succ i => exact ih (by simpa using e)
theorem Both.imp {α : Type} {R R' : Value → α → Prop} (f : ∀ v x, R v x → R' v x) {vs : List Value} {xs : List α} (h : Both R vs xs) : Both R' vs xs := by
  induction h with
  | nil => exact .nil
  | cons r _ ih => exact .cons (f _ _ r) ih
noncomputable abbrev KV := List Nat × Option (List Nat)
def OptIs (v : Value) : Option (List Nat) → Prop
  | none => v = .none
  | some x => ∃ t, v = .str (S x) t
noncomputable def PairAt (h : Heap) (v : Value) (kv : KV) : Prop := ∃ T tk u, v = .ref T ∧ IsTup h T #[.str (S kv.1) tk, u] ∧ OptIs u kv.2
noncomputable def RowAt (h : Heap) (v : Value) (row : List KV) : Prop := ∃ l vs, v = .ref l ∧ h.IsList l vs.toArray ∧ Both (PairAt h) vs row
noncomputable def RowsAt (h : Heap) (l : Addr) (rows : List (List KV)) : Prop := ∃ vs, h.IsList l vs.toArray ∧ Both (RowAt h) vs rows
def bareV (x : List Nat) : Bool := !x.isEmpty && x.all isTok
def itemT : KV → List Nat
  | (k, none) => k
  | (k, some v) => k ++ 61 :: (if bareV v then v else 34 :: escL v ++ [34])
def rowT (row : List KV) : List Nat := joinL [59, 32] (row.map itemT)
def allT (rows : List (List KV)) : List Nat := joinL [44, 32] ((rows.filter fun r => !r.isEmpty).map rowT)
noncomputable def SmallKV (kv : KV) : Prop := kv.1.length ≤ 10 ∧ ∀ x, kv.2 = some x → x.length ≤ 10
noncomputable def Small (rows : List (List KV)) : Prop := rows.length ≤ 20 ∧ ∀ row ∈ rows, row.length ≤ 10 ∧ ∀ kv ∈ row, SmallKV kv
theorem allLt_mem {d : Addr} {l : List (Addr × Obj)} (h : AllLt d l) : ∀ p ∈ l, p.1 < d := by
  induction l with
  | nil => intro p hp; cases hp
  | cons x r ih =>
    intro p hp
    rcases List.mem_cons.mp hp with rfl | hp
    · exact h.1
    · exact ih h.2 p hp
theorem sep_nil {TL : List (Addr × Obj)} : ∀ p ∈ ([] : List (Addr × Obj)), ∀ q ∈ TL, p.1 ≠ q.1 := fun _ h => (nomatch h)
theorem sep_cons {TL pre : List (Addr × Obj)} {a : Addr} {o : Obj} (h : ∀ q ∈ TL, q.1 ≠ a) (r : ∀ p ∈ pre, ∀ q ∈ TL, p.1 ≠ q.1) : ∀ p ∈ (a, o) :: pre, ∀ q ∈ TL, p.1 ≠ q.1 := fun p hp q hq => by
  rcases List.mem_cons.mp hp with rfl | hp
  · exact (h q hq).symm
  · exact r p hp q hq
theorem sep_at {TL pre : List (Addr × Obj)} {p : Addr × Obj} (r : ∀ p ∈ pre, ∀ q ∈ TL, p.1 ≠ q.1) (hp : p ∈ pre) : ∀ q ∈ TL, q.1 ≠ p.1 := fun q hq => (r p hp q hq).symm
theorem sum_le {α : Type} (f : α → Nat) (c : Nat) : ∀ (l : List α), (∀ x ∈ l, f x ≤ c) → (l.map f).sum ≤ l.length * c
  | [], _ => by simp
  | x :: l, h => by
    have h1 := h x (.head _)
    have h2 := sum_le f c l fun y hy => h y (.tail _ hy)
    simp only [List.map_cons, List.sum_cons, List.length_cons, Nat.add_mul, Nat.one_mul]
    omega
theorem joinL_len (sep : List Nat) : ∀ (l : List (List Nat)), (joinL sep l).length ≤ (l.map List.length).sum + l.length * sep.length
  | [] => by simp [joinL]
  | [x] => by simp [joinL]
  | x :: y :: r => by
    have := joinL_len sep (y :: r)
    simp only [joinL, List.length_append, List.map_cons, List.sum_cons, List.length_cons, Nat.add_mul, Nat.one_mul] at this ⊢
    omega
theorem escF_len' {f : Nat → Bool} : ∀ (v : List Nat), (escF f v).length ≤ 2 * v.length
  | [] => by simp [escF]
  | x :: v => by
    have := escF_len' (f := f) v
    cases h : f x with
    | true => rw [escF_cons_esc h]; simp only [List.length_cons]; omega
    | false => rw [escF_cons h]; simp only [List.length_cons]; omega
theorem item_len {kv : KV} (h : SmallKV kv) : (itemT kv).length ≤ 50 := by
  obtain ⟨k, ov⟩ := kv
  obtain ⟨h1, h2⟩ := h
  cases ov with
  | none => show k.length ≤ 50; have : k.length ≤ 10 := h1; omega
  | some v =>
    have h3 := h2 v rfl
    have h4 : k.length ≤ 10 := h1
    have h5 := escF_len' (f := isEsc) v
    show (k ++ 61 :: (if bareV v then v else 34 :: escL v ++ [34])).length ≤ 50
    rw [escL_eq]
    split <;> simp only [List.length_append, List.length_cons, List.length_nil] <;> omega
theorem items_sum {row : List KV} (h : row.length ≤ 10) (hk : ∀ kv ∈ row, SmallKV kv) : ((row.map itemT).map List.length).sum ≤ 500 := by
  rw [List.map_map]
  refine Nat.le_trans (sum_le _ 50 row fun kv hkv => item_len (hk kv hkv)) ?_
  omega
theorem row_len {row : List KV} (h : row.length ≤ 10) (hk : ∀ kv ∈ row, SmallKV kv) : (rowT row).length ≤ 520 := by
  refine Nat.le_trans (joinL_len _ _) ?_
  have := items_sum h hk
  simp only [List.length_map, List.length_cons, List.length_nil]
  omega
theorem emp_S {k : List Nat} : Str.empty ++ S k = S k := by
  have e : Str.empty = S [] := rfl
  rw [e, S_append]; rfl
theorem app61 {a : List Nat} : S a ++ Str.ofString "=" = S (a ++ [61]) := by
  have e : Str.ofString "=" = S [61] := rfl
  rw [e, S_append]
theorem app34 {a : List Nat} : S a ++ Str.ofString "\"" = S (a ++ [34]) := by
  have e : Str.ofString "\"" = S [34] := rfl
  rw [e, S_append]
theorem emp34 : Str.empty ++ Str.ofString "\"" = S [34] := rfl
theorem parts_and {M : Model} {A : Around} {E : Value → Shared → Prop} {s : Shared} {out out' : Str} {rest : List (Sem Value)} {Q : Value → Shared → Prop} (e : out = out') (hz : out'.length ≤ sizeLine) (h : wpAny M A (joinParts out' rest) Q E s) : out.length ≤ sizeLine ∧ wpAny M A (joinParts out rest) Q E s := by
  subst e; exact ⟨hz, h⟩
theorem news_get {h₀ h : Heap} {L b : Addr} {o : Obj} {news : List (Addr × Obj)} (N : News h₀ L h news) (hm : (b, o) ∈ news) : h.get? b = some o := (N _ hm).1
theorem escF_len {f : Nat → Bool} : ∀ (v : List Nat), (escF f v).length ≤ 2 * v.length
  | [] => by simp [escF]
  | x :: v => by
    have := escF_len (f := f) v
    cases h : f x with
    | true => rw [escF_cons_esc h]; simp only [List.length_cons]; omega
    | false => rw [escF_cons h]; simp only [List.length_cons]; omega
theorem sep_at' {TL pre : List (Addr × Obj)} {a : Addr} {o : Obj} (r : ∀ p ∈ pre, ∀ q ∈ TL, p.1 ≠ q.1) (hp : (a, o) ∈ pre) : ∀ q ∈ TL, q.1 ≠ a := fun q hq => (r _ hp q hq).symm
noncomputable abbrev OInv9 (rows : List (List KV)) (D : Addr) (i : Nat) (m₁ : Str → Option Value) (news₁ : List (Addr × Obj)) : Prop := ∃ vs n TL₁, news₁ = (D, W.listOf vs.toArray n) :: TL₁ ∧ Txts vs (((rows.take i).filter fun r => !r.isEmpty).map rowT) ∧ Tabs TL₁ ∧ (∀ q ∈ TL₁, q.1 ≠ D) ∧ ∃ u, m₁ = frm [(Str.ofString "headers", .ref D)] u
noncomputable abbrev AInv9 (row : List KV) (A I D : Addr) (oI : Obj) (vs : List Value) (n : Nat) (j : Nat) (m₂ : Str → Option Value) (news₂ : List (Addr × Obj)) : Prop := ∃ as n' TL₂, news₂ = (A, W.listOf as.toArray n') :: (I, oI) :: (D, W.listOf vs.toArray n) :: TL₂ ∧ Txts as ((row.take j).map itemT) ∧ Tabs TL₂ ∧ (∀ q ∈ TL₂, q.1 ≠ A) ∧ (∀ q ∈ TL₂, q.1 ≠ I) ∧ (∀ q ∈ TL₂, q.1 ≠ D) ∧ ∃ u, m₂ = frm [(Str.ofString "headers", .ref D), (Str.ofString "attr", .ref A)] u
set_option maxHeartbeats 1000000 in
theorem join_spec {w : World} {mg mb : Str → Option Value} {p : Program} {loose : List Str} {mean : ExcName → Option Value} {dp un : Nat} {fr : Option (List Env)} {gd : Option (List Code)} {s : Shared} {TL : List (Addr × Obj)} {R : Result → Shared → Prop} {l : Addr} {rows : List (List KV)}
    (H : Hid s.heap TL) (TB : Tabs TL) (X : (hf.heap_1 w.params).In (frz s.heap TL)) (Tp : Top p loose mean mg mb (frz s.heap TL)) (hroom : dp + 3 < recursionLimit)
    (hl : RowsAt (frz s.heap TL) l rows) (hsm : Small rows)
    (hR : ∀ h' tk t TL', Grown s.heap h' TL TL' → Tabs TL' → R (.ok (.ret (.str (S (allT rows)) t))) { s with heap := h', toks := tk }) :
    codeAny (model PySem.Challenge.rw_in0021_01.prog w) (Am dp un fr gd) (.call (.ref 87) ⟨[.ref l], []⟩) R s := by
  obtain ⟨lvs, hlist, hrows⟩ := hl
  refine' enter (binds := [(Str.ofString "lists", .ref l)]) H X Tp ?k6 ?k7 ?k8 ?k9 ?kB ?_ ?c2 ?c3 ?c4 ?c5
  case k6 => k_is
  case k7 => k_is
  case k8 => show dp < recursionLimit; omega
  case k9 => exact BindsTo.of_eq rfl
  case kB => exact locs rfl
  case c2 => exact rfl
  case c3 => exact rfl
  case c4 => exact rfl
  case c5 => decide
  intro h₁ F N
  try k_fold
  (repeat' ((fail_if_success (with_reducible show wpAny _ _ (exec (Stmt.For _ _ _ _ _) _) _ _ _)); first | (k_unfold; (try dsimp only)) | ((with_reducible show wpAny _ _ (exec _ _) _ _ _); k_fold) | fail | walk1 | (dsimp only; walk1)))
  rename Fr _ _ _ _ => F'
  rename News _ _ _ _ => N'
  refine For_turns F' ?_
  (repeat' ((fail_if_success (with_reducible show wpAny _ _ (exec (Stmt.For _ _ _ _ _) _) _ _ _)); first | (k_unfold; (try dsimp only)) | ((with_reducible show wpAny _ _ (exec _ _) _ _ _); k_fold) | fail | walk1 | (dsimp only; walk1)))
  rename_i D hx lD hy
  have P75 : PatAt (frz s.heap TL) 75 cToks 0 := ⟨_, _, _, _, _, X _ _ (by k_is), X _ _ (by k_is)⟩
  have P80 : PatAt (frz s.heap TL) 80 cEsc 1 := ⟨_, _, _, _, _, X _ _ (by k_is), X _ _ (by k_is)⟩
  refine list_turns (OInv9 rows D) rfl hlist F' N' ?j ?turn ?done
  case j => exact ⟨[], 0, TL, rfl, .nil, TB, fun q hq => Nat.ne_of_lt (lD q hq), frm_of1 rfl⟩
  case done =>
    clear F' N'
    rintro m₁ news₁ h tk ⟨vs, n, TL₁, rfl, htx, TB₁, hD, u, rfl⟩ F₁ N₁
    rw [hrows.length, List.take_length] at htx
    have hsum : ((((rows.filter fun r => !r.isEmpty).map rowT).map List.length).sum + ((rows.filter fun r => !r.isEmpty).map rowT).length * 2) ≤ 2 ^ 23 := by
      have h1 : (rows.filter fun r => !r.isEmpty).length ≤ 20 := Nat.le_trans (List.length_filter_le _ _) hsm.1
      have h2 := sum_le (fun r => (rowT r).length) 520 (rows.filter fun r => !r.isEmpty) fun r hr => row_len (hsm.2 r (List.mem_filter.mp hr).1).1 (hsm.2 r (List.mem_filter.mp hr).1).2
      rw [List.map_map, List.length_map]
      have h3 : (List.map (List.length ∘ rowT) (rows.filter fun r => !r.isEmpty)).sum ≤ 20 * 520 := Nat.le_trans h2 (Nat.mul_le_mul_right _ h1)
      omega
    show wpAny _ _ _ _ _ _
    (repeat' ((fail_if_success (with_reducible show wpAny _ _ (exec (Stmt.For _ _ _ _ _) _) _ _ _)); first | (k_unfold; (try dsimp only)) | ((with_reducible show wpAny _ _ (exec _ _) _ _ _); k_fold) | (first | ((with_reducible show wpAny _ _ (call (Value.builtin "str.join") [Value.str _ _, Value.ref _]) _ _ _); (refine' k_join ?zqN ?zqM ?zqT ?zqx ?zqs ?zqw ?_; (case zqN => k_asm); (case zqM => k_mem); (case zqT => assumption); (case zqx => exact rfl); (case zqs => decide); (case zqw => assumption)); intro t' tk'; (try dsimp only))) | walk1 | (dsimp only; walk1)))
    rename Fr _ _ _ _ => F'
    rename News _ _ _ _ => N'
    exact hR _ _ _ TL₁ (Grown.of F' N' (fun p hp => .tail _ hp) (Nat.le_refl _)) TB₁
  case turn =>
    clear F' N'
    rintro I hI i v m₁ news₁ h tk oI hv ⟨vs, n, TL₁, rfl, htx, TB₁, hD, u, rfl⟩ hne F₁ N₁
    obtain ⟨row, hrow, rl, rvs, rfl, hrl, hpairs⟩ := hrows.get hv
    have hDI : D < I := hI _ (List.mem_cons_self ..)
    have hID : I ≠ D := Nat.ne_of_gt hDI
    have hTI : ∀ q ∈ TL₁, q.1 ≠ I := fun q hq => hne q (.tail _ hq)
    show wpAny _ _ _ _ _ _
    try k_fold
    (repeat' ((fail_if_success (with_reducible show wpAny _ _ (exec (Stmt.For _ _ _ _ _) _) _ _ _)); first | (k_unfold; (try dsimp only)) | ((with_reducible show wpAny _ _ (exec _ _) _ _ _); k_fold) | fail | walk1 | (dsimp only; walk1)))
    rename Fr _ _ _ _ => F'
    rename News _ _ _ _ => N'
    refine For_turns F' ?_
    (repeat' ((fail_if_success (with_reducible show wpAny _ _ (exec (Stmt.For _ _ _ _ _) _) _ _ _)); first | (k_unfold; (try dsimp only)) | ((with_reducible show wpAny _ _ (exec _ _) _ _ _); k_fold) | fail | walk1 | (dsimp only; walk1)))
    rename_i hz A hx2 lA hy2
    obtain ⟨hIA, hDA, hTA⟩ := lA
    refine list_turns (AInv9 row A I D oI vs n) rfl hrl F' N' ?j2 ?turn2 ?done2
    case j2 => exact ⟨[], 0, TL₁, rfl, .nil, TB₁, fun q hq => Nat.ne_of_lt (allLt_mem hTA q hq), hTI, hD, frm_of2 rfl rfl⟩
    case done2 =>
      clear F' N'
      rintro m₂ news₂ h2 tk2 ⟨as, n', TL₂, rfl, htx2, TB₂, sA, sI, sD, u2, rfl⟩ F₂ N₂
      rw [hpairs.length, List.take_length] at htx2
      have hrl' : row.length ≤ 10 := (hsm.2 row (List.mem_of_getElem? hrow)).1
      have hrk := (hsm.2 row (List.mem_of_getElem? hrow)).2
      have hasl : as.length = row.length := by rw [htx2.length, List.length_map]
      have hsum : ((row.map itemT).map List.length).sum + (row.map itemT).length * 2 ≤ 2 ^ 23 := by
        have := items_sum hrl' hrk
        rw [List.length_map]; omega
      have hil : i < rows.length := (List.getElem?_eq_some_iff.mp hrow).1
      have hvsl : vs.length ≤ 20 := by
        rw [htx.length, List.length_map]
        refine Nat.le_trans (List.length_filter_le _ _) ?_
        rw [List.length_take]
        have := hsm.1
        omega
      have hID2 : ∀ o : Obj, ∀ p ∈ (D, o) :: TL₂, p.1 ≠ I := fun o p hp => by
        rcases List.mem_cons.mp hp with rfl | hp
        · exact hID.symm
        · exact sI p hp
      have hAD : A ≠ D := Nat.ne_of_gt hDA
      have hstepR : rows.take (i + 1) = rows.take i ++ [row] := by rw [List.take_add_one, hrow]; rfl
      cases hrow2 : row.isEmpty with
      | true =>
        have hae : as.isEmpty = !false := by
          have : row = [] := List.isEmpty_iff.mp hrow2
          subst this
          cases as with
          | nil => rfl
          | cons _ _ => simp at hasl
        have hkeep : ((rows.take (i + 1)).filter fun r => !r.isEmpty).map rowT = ((rows.take i).filter fun r => !r.isEmpty).map rowT := by
          rw [hstepR, List.filter_append]; simp [hrow2]
        show wpAny _ _ _ _ _ _
        (repeat' ((fail_if_success (with_reducible show wpAny _ _ (exec (Stmt.For _ _ _ _ _) _) _ _ _)); first | (k_unfold; (try dsimp only)) | ((with_reducible show wpAny _ _ (exec _ _) _ _ _); k_fold) | (first | ((with_reducible show wpAny _ _ (truthy (Value.ref _)) _ _ _); (first | refine k_truthy_list true (by k_asm) (by k_mem) (by omega) (by assumption) ?_ | refine k_truthy_list false (by k_asm) (by k_mem) (by omega) (by assumption) ?_); intro tk'; (try dsimp only))) | walk1 | (dsimp only; walk1)))
        rename Fr _ _ _ _ => F'
        rename News _ _ _ _ => N'
        exact ⟨_, _, _, _, rfl, F', fun p hp => N' p (.tail _ hp), hID2 _, vs, n, TL₂, rfl, hkeep ▸ htx, TB₂, sD, frm_of1 rfl⟩
      | false =>
        have hae : as.isEmpty = !true := by
          cases as with
          | nil =>
            cases row with
            | nil => cases hrow2
            | cons _ _ => simp at hasl
          | cons _ _ => rfl
        have hkeep : ((rows.take (i + 1)).filter fun r => !r.isEmpty).map rowT = ((rows.take i).filter fun r => !r.isEmpty).map rowT ++ [rowT row] := by
          rw [hstepR, List.filter_append]; simp [hrow2]
        show wpAny _ _ _ _ _ _
        (repeat' ((fail_if_success (with_reducible show wpAny _ _ (exec (Stmt.For _ _ _ _ _) _) _ _ _)); first | (k_unfold; (try dsimp only)) | ((with_reducible show wpAny _ _ (exec _ _) _ _ _); k_fold) | (first | ((with_reducible show wpAny _ _ (call (Value.builtin "list.append") [Value.ref _, _]) _ _ _); (refine' k_append ?zqF ?zqN ?zqU ?zqz ?_; (case zqF => k_asm); (case zqN => k_asm); (case zqU => (first | ((repeat (first | (refine' Upd.head ?zqb; (case zqb => ((repeat (first | (refine' List.forall_mem_cons.mpr ⟨?zqc, ?_⟩; (case zqc => k_ne)) | assumption | exact sep_at' (by assumption) (.head _) | exact sep_at' (by assumption) (.tail _ (.head _)) | exact sep_at' (by assumption) (.tail _ (.tail _ (.head _))) | exact sep_at' (by assumption) (.tail _ (.tail _ (.tail _ (.head _)))))); done))) | (refine' Upd.tail ?zqa ?_; (case zqa => first | k_ne | assumption); rotate_left))); done) | k_upd)); (case zqz => omega)); intro h' F' N'; (try dsimp only)) | ((with_reducible show wpAny _ _ (call (Value.builtin "str.join") [Value.str _ _, Value.ref _]) _ _ _); (refine' k_join ?zqN ?zqM ?zqT ?zqx ?zqs ?zqw ?_; (case zqN => k_asm); (case zqM => k_mem); (case zqT => assumption); (case zqx => exact rfl); (case zqs => decide); (case zqw => assumption)); intro t' tk'; (try dsimp only)) | ((with_reducible show wpAny _ _ (truthy (Value.ref _)) _ _ _); (first | refine k_truthy_list true (by k_asm) (by k_mem) (by omega) (by assumption) ?_ | refine k_truthy_list false (by k_asm) (by k_mem) (by omega) (by assumption) ?_); intro tk'; (try dsimp only))) | walk1 | (dsimp only; walk1)))
        rename Fr _ _ _ _ => F'
        rename News _ _ _ _ => N'
        exact ⟨_, _, _, _, rfl, F', fun p hp => N' p (.tail _ hp), hID2 _, _, _, TL₂, rfl, hkeep ▸ htx.snoc, TB₂, sD, frm_of1 rfl⟩
    case turn2 =>
      clear F' N'
      rintro I2 hI2 j v2 m₂ news₂ h2 tk2 oI2 hv2 ⟨as, n', TL₂, rfl, htx2, TB₂, sA, sI, sD, u2, rfl⟩ hne2 F₂ N₂
      obtain ⟨kv, hkv, T, tkT, uT, rfl, hT, hO⟩ := hpairs.get hv2
      obtain ⟨k, ov⟩ := kv
      replace hT : IsTup (frz s.heap TL) T #[.str (S k) tkT, uT] := hT
      have C86 : CodeHd (frz s.heap TL) 86 82 := ⟨_, _, _, _, _, _, _, _, _, X _ _ (by k_is), rfl, rfl, rfl, rfl, rfl, rfl, rfl, rfl, by decide⟩
      have hroom2 : dp + 1 + 1 < recursionLimit := by omega
      have hkl : k.length ≤ 10 := ((hsm.2 row (List.mem_of_getElem? hrow)).2 _ (List.mem_of_getElem? hkv)).1
      have hAI2 : A < I2 := hI2 _ (List.mem_cons_self ..)
      have hsk : SmallKV (k, ov) := (hsm.2 row (List.mem_of_getElem? hrow)).2 _ (List.mem_of_getElem? hkv)
      have hA2 : I2 ≠ A := Nat.ne_of_gt hAI2
      have hTA' : ∀ p ∈ (I, oI) :: (D, W.listOf vs.toArray n) :: TL₂, p.1 ≠ A := fun p hp => by
        rcases List.mem_cons.mp hp with rfl | hp
        · exact Nat.ne_of_lt hIA
        · rcases List.mem_cons.mp hp with rfl | hp
          · exact Nat.ne_of_lt hDA
          · exact sA p hp
      have sI2 : ∀ q ∈ TL₂, q.1 ≠ I2 := fun q hq => hne2 q (.tail _ (.tail _ (.tail _ hq)))
      have hjl : j < row.length := (List.getElem?_eq_some_iff.mp hkv).1
      have hrl' : row.length ≤ 10 := (hsm.2 row (List.mem_of_getElem? hrow)).1
      have hasl : as.length = j := by rw [htx2.length, List.length_map, List.length_take]; omega
      have hneI2 : ∀ (o : Obj) {TL' : List (Addr × Obj)}, (∀ q ∈ TL', q.1 ≠ I2) → ∀ p ∈ (A, o) :: (I, oI) :: (D, W.listOf vs.toArray n) :: TL', p.1 ≠ I2 := fun o TL' hq p hp => by
        rcases List.mem_cons.mp hp with rfl | hp
        · exact hA2.symm
        · rcases List.mem_cons.mp hp with rfl | hp
          · exact hne2 _ (.tail _ (.head _))
          · rcases List.mem_cons.mp hp with rfl | hp
            · exact hne2 _ (.tail _ (.tail _ (.head _)))
            · exact hq p hp
      have hstep : (row.take (j + 1)).map itemT = (row.take j).map itemT ++ [itemT (k, ov)] := by
        rw [List.take_add_one, hkv]; simp
      cases ov with
      | none =>
        have hO' : uT = .none := hO
        subst hO'
        show wpAny _ _ _ _ _ _
        try k_fold
        (repeat' ((fail_if_success (with_reducible show wpAny _ _ (exec (Stmt.For _ _ _ _ _) _) _ _ _)); first | (k_unfold; (try dsimp only)) | ((with_reducible show wpAny _ _ (exec _ _) _ _ _); k_fold) | (first | ((with_reducible show wpAny _ _ (call (Value.builtin "list.append") [Value.ref _, _]) _ _ _); (refine' k_append ?zqF ?zqN ?zqU ?zqz ?_; (case zqF => k_asm); (case zqN => k_asm); (case zqU => (first | ((repeat (first | (refine' Upd.head ?zqb; (case zqb => ((repeat (first | (refine' List.forall_mem_cons.mpr ⟨?zqc, ?_⟩; (case zqc => k_ne)) | assumption | exact sep_at' (by assumption) (.head _) | exact sep_at' (by assumption) (.tail _ (.head _)) | exact sep_at' (by assumption) (.tail _ (.tail _ (.head _))) | exact sep_at' (by assumption) (.tail _ (.tail _ (.tail _ (.head _)))))); done))) | (refine' Upd.tail ?zqa ?_; (case zqa => first | k_ne | assumption); rotate_left))); done) | k_upd)); (case zqz => omega)); intro h' F' N'; (try dsimp only))) | walk1 | (dsimp only; walk1)))
        rename Fr _ _ _ _ => F'
        rename News _ _ _ _ => N'
        exact ⟨_, _, _, _, rfl, F', N', hneI2 _ sI2, _, _, TL₂, rfl, hstep ▸ htx2.snoc, TB₂, sA, sI, sD, frm_of2 rfl rfl⟩
      | some x =>
        obtain ⟨tx, rfl⟩ := hO
        have hxl : x.length ≤ 10 := hsk.2 x rfl
        obtain ⟨ps, hps1, hps2, hps3⟩ := one_rest one_esc (T := x) _ 0 (Nat.le_refl _)
        have hpl : ps.flatten.length ≤ 20 := by
          rw [hps2, List.drop_zero]
          have := escF_len (f := isEsc) x
          omega
        show wpAny _ _ _ _ _ _
        try k_fold
        (repeat' ((fail_if_success (with_reducible show wpAny _ _ (exec (Stmt.For _ _ _ _ _) _) _ _ _)); first | (k_unfold; (try dsimp only)) | ((with_reducible show wpAny _ _ (exec _ _) _ _ _); k_fold) | (first | ((with_reducible show wpAny _ _ (eval (Expr.Lambda _ _ _ _) _) _ _ _); (refine' k_lambda ?zqF ?zqN ?zqTB ?zqEn (.inr (.inl ⟨rfl, rfl⟩)) ?zqsep ?zqT ?zqC ?zqcd ?zqdf ?zqql ?zqqq ?zqcl ?_; (case zqF => k_asm); (case zqN => k_asm); (case zqTB => assumption); (case zqEn => repeat (first | exact Endg.nil | apply Endg.cons)); (case zqsep => repeat (first | exact sep_nil | refine sep_cons (by assumption) ?_)); (case zqT => k_asm); (case zqcd => exact rfl); (case zqC => kn_code); (case zqdf => exact rfl); (case zqqq => exact rfl); (case zqql => exact rfl); (case zqcl => exact rfl)); intro f' c' oc' vs' t' ct' TL' h' tk' F' N' TB' sep' hm' hd' hv' l'; (try dsimp only [List.cons_append, List.nil_append] at N' sep' l'); (try k_lt l'); (try dsimp only)) | ((with_reducible show wpAny _ _ (truthy (Value.ref _)) _ _ _); (refine' k_truthy_match ?zqN ?zqM ?zqc ?_; (case zqN => k_asm); (case zqM => k_mem); (case zqc => assumption)); (try dsimp only)) | ((with_reducible show wpAny _ _ (call (Value.builtin "re.Pattern.fullmatch") _) _ _ _); (refine' k_full ?zqF ?zqN ?zqP ?zqz ?_ ?_; (case zqF => k_asm); (case zqN => k_asm); (case zqP => assumption); (case zqz => omega)); (first | (intro hb' M' o' h' hc' F' N' l'; (try k_lt l')) | (intro hb')); (try dsimp only)) | ((with_reducible show wpAny _ _ (getMethod (Value.ref _) _ _) _ _ _); (first | (refine' k_getMethod_pat ?zqF ?zqM slot_re_Pattern_fullmatch type_re_Pattern_fullmatch ?_; (case zqF => k_asm); (case zqM => assumption)) | (refine' k_getMethod_pat ?zqF ?zqM slot_re_Pattern_sub type_re_Pattern_sub ?_; (case zqF => k_asm); (case zqM => assumption)))) | ((with_reducible show wpAny _ _ (call (Value.builtin "list.append") [Value.ref _, _]) _ _ _); (refine' k_append ?zqF ?zqN ?zqU ?zqz ?_; (case zqF => k_asm); (case zqN => k_asm); (case zqU => (first | ((repeat (first | (refine' Upd.head ?zqb; (case zqb => ((repeat (first | (refine' List.forall_mem_cons.mpr ⟨?zqc, ?_⟩; (case zqc => k_ne)) | assumption | exact sep_at' (by assumption) (.head _) | exact sep_at' (by assumption) (.tail _ (.head _)) | exact sep_at' (by assumption) (.tail _ (.tail _ (.head _))) | exact sep_at' (by assumption) (.tail _ (.tail _ (.tail _ (.head _)))))); done))) | (refine' Upd.tail ?zqa ?_; (case zqa => first | k_ne | assumption); rotate_left))); done) | k_upd)); (case zqz => omega)); intro h' F' N'; (try dsimp only)) | ((with_reducible show wpAny _ _ (formatField (Value.str (S _) _) _) _ _ _); (refine formatField_str (hsz := ?zqhsz) ?_; (case zqhsz => (rw [S_len]; show _ ≤ 2 ^ 24; (try simp only [List.length_append, List.length_cons, List.length_nil]); omega))); intro _ _; (try dsimp only)) | ((with_reducible show wpAny _ _ (convS (Value.str (S _) _)) _ _ _); (refine SB.convS_str (hsz := ?zqhsz) ?_; (case zqhsz => (rw [S_len]; show _ ≤ 2 ^ 24; (try simp only [List.length_append, List.length_cons, List.length_nil]); omega))); intro _ _; (try dsimp only)) | ((with_reducible show wpAny _ _ (binaryOp Operator.Mod (Value.str (Str.ofString "\"%s\"") _) (Value.str (S _) _)) _ _ _); (refine k_pct (by omega) ?_); intro t' tk'; (try dsimp only)) | ((with_reducible show wpAny _ _ (call (Value.builtin "re.Pattern.sub") _) _ _ _); (refine' k_sub ?zqF ?zqN ?zqP ?zqg ?zqz ?zqhf ?zqhfc ?zqcb ?zqhr ?zqn ?zqsz ?_; (case zqF => k_asm); (case zqN => k_asm); (case zqP => assumption); (case zqg => decide); (case zqz => omega); (case zqhf => k_mem); (case zqhfc => exact rfl); (case zqhr => assumption); (case zqn => omega); (case zqsz => omega); (case zqcb => (refine' lam_cb82 ?zqX ?zqT ?zqroom ?zqzz ?zqho ?zqhcd; (case zqX => exact Frag.In.keeps (by assumption) (Fr.keep (by assumption))); (case zqT => exact Top.keeps (by assumption) (Fr.keep (by assumption))); (case zqroom => assumption); (case zqzz => omega); (case zqho => exact news_get (by k_asm) (by k_mem)); (case zqhcd => exact codeRec_news (by k_asm) (by repeat (first | assumption | apply List.Mem.tail)) (by assumption) (by assumption))))); intro h' tk' t' F' N'; (try dsimp only)) | ((with_reducible show wpAny _ _ (joinParts (S _) (evalEach [] _)) _ _ _); (refine joinParts_nilE (joinParts_nil ?_ ?zqz); (case zqz => (rw [S_len]; show _ ≤ 2 ^ 24; (try simp only [List.length_append, List.length_cons, List.length_nil]); omega))); (try dsimp only)) | ((with_reducible show _ ∧ wpAny _ _ (joinParts _ _) _ _ _); (refine' parts_and ?zqe ?zqz ?_; (case zqe => with_reducible first | exact app61 | exact app34 | exact emp34 | exact emp_S | exact S_append _ _); (case zqz => (rw [S_len]; show _ ≤ 2 ^ 24; (try simp only [List.length_append, List.length_cons, List.length_nil]); omega))))) | walk1 | (dsimp only; walk1)))
        all_goals (rename Fr _ _ _ _ => F'; rename News _ _ _ _ => N')
        · rename (!x.isEmpty && x.all isTok) = true => hb
          have e : itemT (k, some x) = k ++ [61] ++ x := by
            show k ++ 61 :: (if bareV x then x else 34 :: escL x ++ [34]) = _
            rw [if_pos (show bareV x = true from hb)]; simp
          rw [e] at hstep
          exact ⟨_, _, _, _, rfl, F', fun p hp => N' p (.tail _ hp), hneI2 _ sI2, _, _, TL₂, rfl, hstep ▸ htx2.snoc, TB₂, sA, sI, sD, frm_of2 rfl rfl⟩
        · rename (!x.isEmpty && x.all isTok) = false => hb
          have e : itemT (k, some x) = k ++ [61] ++ (34 :: ps.flatten ++ [34]) := by
            show k ++ 61 :: (if bareV x then x else 34 :: escL x ++ [34]) = _
            rw [if_neg (by rw [show bareV x = false from hb]; decide), hps2, List.drop_zero, escL_eq]; simp
          rw [e] at hstep
          rename Tabs _ => TB3
          rename ∀ p ∈ [_, _, _, _], _ => sep3
          exact ⟨_, _, _, _, rfl, F', fun p hp => N' p (.tail _ hp), hneI2 _ (sep_at sep3 (.head _)), _, _, _, rfl, hstep ▸ htx2.snoc, TB3, sep_at sep3 (.tail _ (.head _)), sep_at sep3 (.tail _ (.tail _ (.head _))), sep_at sep3 (.tail _ (.tail _ (.tail _ (.head _)))), frm_of2 rfl rfl⟩
end Mine
end
section
theorem Mine.off_W10 : True := by (w_top off; trivial)
open PySem PySem.W PyProof.Rows PySem.Spec PySem.Calls
set_option Elab.async false
set_option maxRecDepth 100000
namespace Mine
section
variable {M : Model} {prog : Program} {w : World} {A : Around} {E : Value → Shared → Prop} {s : Shared} {h₀ : Heap} {L a : Addr} {m : Str → Option Value} {news : List (Addr × Obj)} {tx : Tok} {T code : List Nat}
/-- the objects oM at M and oP at P are a match over T with these spans -/
noncomputable def IsMat (M P : Addr) (oM oP : Obj) (T : List Nat) (tx : Tok) (l : List Int) : Prop := oM.cls = .type "re.Match" ∧ ∀ g : Heap, g.get? M = some oM → g.get? P = some oP → MatchAt g M (S T) tx l
theorem k_search_yes {Q : Value → Shared → Prop} {hnd b e : Nat} {li : Int} (F : Fr h₀ L s.heap m) (N : News h₀ L s.heap news) (hP : PatAt h₀ a code 1) (hz : T.length < 2 ^ 22)
    (En : EndsIn (Sre.forSearch code.toArray T.toArray 1 0 T.length false) true 0 hnd #[some b, some e] 1 li) (hbe : b ≤ e)
    (h : ∀ M P oM oP h', IsMat M P oM oP T tx [((0 : Nat) : Int), (hnd : Int), (b : Int), (e : Int)] → Fr h₀ L h' m → News h₀ L h' ((M, oM) :: (P, oP) :: news) → (∀ p ∈ news, p.1 < P) → P < M → Q (.ref M) { s with heap := h' }) :
    wpAny (model prog w) A (call (.builtin "re.Pattern.search") [.ref a, .str (S T) tx]) Q E s := by
  obtain ⟨r, k, e', hk, ho, h1, h2, h3, h4, h5⟩ := En
  have hw : wrongSpan 1 r = false := by
    unfold wrongSpan
    rw [h3, h4]
    show ((decide (((2 * 0 + 1 : Nat) : Int) ≤ 1) && decide (e < b)) || false) = false
    rw [decide_eq_false (show ¬ e < b by omega), Bool.and_false]; rfl
  have hsp : spansOf 1 r = [(b : Int), (e : Int)] := by
    unfold spansOf
    rw [h3, h4]; rfl
  refine search_yes (hP.keeps F.keep) (by rw [S_len]; omega) (by decide) e' hk ho hw ?_
  have F1 := F.push (rawTup ((r.start : Int) :: (r.handed : Int) :: spansOf 1 r))
  have N1 := N.push F (rawTup ((r.start : Int) :: (r.handed : Int) :: spansOf 1 r))
  have N2 := N1.push F1 (matchObj (S T) tx a 0 (S T).cps.size r.lastindex s.heap.objs.size)
  rw [Heap.size_push] at N2
  refine h _ s.heap.objs.size (matchObj (S T) tx a 0 (S T).cps.size r.lastindex s.heap.objs.size) (rawTup ((r.start : Int) :: (r.handed : Int) :: spansOf 1 r)) _ ⟨rfl, fun g g1 g2 => ?_⟩ (F1.push _) N2 (fun p hp => Heap.lt_size (N p hp).1) (Nat.lt_succ_self _)
  rw [h1, h2, hsp] at g2
  exact ⟨_, _, _, _, _, g1, g2⟩
theorem k_search_no {Q : Value → Shared → Prop} (F : Fr h₀ L s.heap m) (hP : PatAt h₀ a code 1) (hz : T.length < 2 ^ 22) (Fl : Fails (Sre.forSearch code.toArray T.toArray 1 0 T.length false)) (h : Q .none s) :
    wpAny (model prog w) A (call (.builtin "re.Pattern.search") [.ref a, .str (S T) tx]) Q E s := by
  obtain ⟨r, k, e', hk, ho⟩ := Fl
  exact search_no (hP.keeps F.keep) (by rw [S_len]; omega) e' hk ho h
theorem IsMat.at_ {M P : Addr} {oM oP : Obj} {l : List Int} {h : Heap} (I : IsMat M P oM oP T tx l) (N : News h₀ L h news) (h1 : (M, oM) ∈ news) (h2 : (P, oP) ∈ news) : MatchAt h M (S T) tx l := I.2 _ (N _ h1).1 (N _ h2).1
theorem k_getMethod_mat {Mt P : Addr} {oM oP : Obj} {l : List Int} {name : Str} {id : String} {pl : Sem Bool} {Q : Value × List Value → Shared → Prop} (I : IsMat Mt P oM oP T tx l) (N : News h₀ L s.heap news) (h1 : (Mt, oM) ∈ news) (h2 : (P, oP) ∈ news) (slot : Slot "re.Match" name id) (hty : typeOf (.builtin id) = pure (.type "method_descriptor"))
    (h : Q (.builtin id, [.ref Mt]) s) : wpAny M A (getMethod (.ref Mt) name pl) Q E s := by
  obtain ⟨o, vs, e, hc, hd, _⟩ := (I.at_ N h1 h2).obj
  exact getMethod_builtin ⟨_, e, hc⟩ plainAttrs_re_Match slot hty (fun b q => by cases q; exact ⟨_, e, hd⟩) h
theorem k_group1 {Mt P : Addr} {oM oP : Obj} {hnd b e : Nat} {u : Tok} {Q : Value → Shared → Prop} (I : IsMat Mt P oM oP T tx [((0 : Nat) : Int), (hnd : Int), (b : Int), (e : Int)]) (N : News h₀ L s.heap news) (h1 : (Mt, oM) ∈ news) (h2 : (P, oP) ∈ news) (hz : T.length ≤ 2 ^ 22)
    (hq : ∀ t tk, Q (.str (S ((T.drop b).take (e - b))) t) { s with toks := tk }) : wpAny (model prog w) A (call (.builtin "re.Match.group") [.ref Mt, .int 1 u]) Q E s :=
  group_call (I.at_ N h1 h2) (by decide) (by exact (by decide : (2 : Int) < 4)) (by decide) rfl rfl (by rw [S_len]; show T.length ≤ 2 ^ 24; omega) (by
    have e' : (⟨(S T).cps.extract b e⟩ : Str) = S ((T.drop b).take (e - b)) := by
      rw [S_of (⟨(S T).cps.extract b e⟩ : Str), ← extract_drop]
    rw [e']
    exact hq _ _)
end
theorem k_unmatched {w : World} {dp un : Nat} {fr : Option (List Env)} {gd : Option (List Code)} {E : Value → Shared → Prop} {s : Shared} {h₀ : Heap} {L : Addr} {m mg mb : Str → Option Value} {news : List (Addr × Obj)} {tx : Tok} {T : List Nat} {Mt P : Addr} {oM oP : Obj} {hnd b e : Nat} {p : Program} {loose : List Str} {mean : ExcName → Option Value} {Q : Value → Shared → Prop}
    (F : Fr h₀ L s.heap m) (N : News h₀ L s.heap news) (X : (hf.heap_1 w.params).In h₀) (Tp : Top p loose mean mg mb h₀) (hroom : dp + 1 < recursionLimit)
    (I : IsMat Mt P oM oP T tx [((0 : Nat) : Int), (hnd : Int), (b : Int), (e : Int)]) (h1 : (Mt, oM) ∈ news) (h2 : (P, oP) ∈ news) (hh : hnd ≤ T.length) (hl : T.length ≤ 2 ^ 20)
    (hq : ∀ h' tk t, Fr h₀ L h' m → News h₀ L h' news → Q (.str (S (T.drop hnd)) t) { s with heap := h', toks := tk }) :
    wpAny (model PySem.Challenge.rw_in0021_01.prog w) (Am dp un fr gd) (call (.ref 43) [.ref Mt]) Q E s := by
  refine wpAny_call (unmatched_spec (TL := []) (b := 0) (e := hnd) ⟨fun _ h => (nomatch h), fun _ _ => rfl⟩ (X.keeps F.keep) (Tp.keeps F.keep) hroom (I.at_ N h1 h2) rfl rfl (Nat.zero_le _) hh hl fun h' tk t _ k1 k2 => ?_)
  have e1 : T.take 0 ++ T.drop hnd = T.drop hnd := rfl
  rw [e1]
  exact hq h' tk t ⟨F.ns.keeps k1, fun b o e => k1 b o (F.keep b o e), F.above⟩ fun p hp => ⟨k1 _ _ (N p hp).1, (N p hp).2⟩
end Mine
end
section
theorem Mine.off_W10b : True := by (w_top off; trivial)
open PySem PySem.W PyProof.Rows PySem.Spec PySem.Calls
set_option Elab.async false
set_option maxRecDepth 100000
namespace Mine
def tailR : List (List KV) → List Nat
  | [] => []
  | row :: rs => 44 :: 32 :: (rowT row ++ tailR rs)
def midR (r : List KV) (rs : List (List KV)) : List Nat := match r with
  | [] => tailR rs
  | kv :: r => 59 :: 32 :: (rowT (kv :: r) ++ tailR rs)
theorem rowT_cons (kv : KV) (r : List KV) (rs : List (List KV)) : rowT (kv :: r) ++ tailR rs = itemT kv ++ midR r rs := by
  cases r with
  | nil => rfl
  | cons kv' r =>
    show joinL [59, 32] (itemT kv :: itemT kv' :: r.map itemT) ++ tailR rs = itemT kv ++ 59 :: 32 :: (joinL [59, 32] (itemT kv' :: r.map itemT) ++ tailR rs)
    simp [joinL]
theorem allT_cons : ∀ (row : List KV) (rs : List (List KV)), joinL [44, 32] ((row :: rs).map rowT) = rowT row ++ tailR rs
  | row, [] => by simp [joinL, tailR]
  | row, row' :: rs => by
    have := allT_cons row' rs
    simp only [List.map_cons] at this ⊢
    show rowT row ++ [44, 32] ++ joinL [44, 32] (rowT row' :: rs.map rowT) = _
    rw [this]
    simp [tailR]
noncomputable def GoodKV (kv : KV) : Prop := kv.1 ≠ [] ∧ ∀ c ∈ kv.1, inName c = true
noncomputable def Good (rows : List (List KV)) : Prop := ∀ row ∈ rows, row ≠ [] ∧ ∀ kv ∈ row, GoodKV kv
/-- where the reading of a header stands: its rows full, the text left, the pairs and the rows read -/
inductive SSt (full : List (List KV)) : List Nat → List KV → List (List KV) → Prop
  | item {sp cur kv r rs dn} : (sp = [] ∨ sp = [32]) → full = dn ++ (cur ++ kv :: r) :: rs → SSt full (sp ++ (itemT kv ++ midR r rs)) cur dn
  | mid {cur r rs dn} : cur ≠ [] → full = dn ++ (cur ++ r) :: rs → SSt full (midR r rs) cur dn
  | nil : full = [] → SSt full [] [] []
theorem SSt.start {full : List (List KV)} (h : Good full) : SSt full (joinL [44, 32] (full.map rowT)) [] [] := by
  cases full with
  | nil => exact .nil rfl
  | cons row rs =>
    rw [allT_cons]
    have hr := (h row (.head _)).1
    cases row with
    | nil => exact absurd rfl hr
    | cons kv r =>
      rw [rowT_cons]
      exact SSt.item (sp := []) (cur := []) (dn := []) (.inl rfl) rfl
/-- what may follow an item -/
theorem midR_head (r : List KV) (rs : List (List KV)) : midR r rs = [] ∧ r = [] ∧ rs = [] ∨ (∃ x, midR r rs = 59 :: 32 :: x) ∨ ∃ row rs', r = [] ∧ rs = row :: rs' ∧ midR r rs = 44 :: 32 :: (rowT row ++ tailR rs') := by
  cases r with
  | nil =>
    cases rs with
    | nil => exact .inl ⟨rfl, rfl, rfl⟩
    | cons row rs' => exact .inr (.inr ⟨row, rs', rfl, rfl, rfl⟩)
  | cons kv r => exact .inr (.inl ⟨_, rfl⟩)
theorem midR_inName {r : List KV} {rs : List (List KV)} : ∀ c t, midR r rs = c :: t → inName c = false ∧ inVal c = false ∧ isSp c = false ∧ c ≠ 61 := by
  intro c t h
  rcases midR_head r rs with ⟨e, _⟩ | ⟨x, e⟩ | ⟨_, _, _, _, e⟩
  · rw [e] at h; cases h
  · rw [e] at h; rw [← (List.cons.inj h).1]; decide
  · rw [e] at h; rw [← (List.cons.inj h).1]; decide
theorem inName_sp {c : Nat} (h : inName c = true) : isSp c = false := by
  unfold inName at h
  cases e : isSp c with
  | true => rw [e] at h; simp at h
  | false => rfl
theorem item_head {kv : KV} (h : GoodKV kv) : ∃ c t, itemT kv = c :: t ∧ inName c = true := by
  obtain ⟨k, ov⟩ := kv
  obtain ⟨h1, h2⟩ := h
  cases k with
  | nil => exact absurd rfl h1
  | cons c k =>
    cases ov with
    | none => exact ⟨c, k, rfl, h2 c (.head _)⟩
    | some v => exact ⟨c, _, rfl, h2 c (.head _)⟩
theorem SSt.done {full : List (List KV)} {cur : List KV} {dn : List (List KV)} (hg : Good full) (h : SSt full [] cur dn) : (cur ≠ [] ∧ full = dn ++ [cur]) ∨ (cur = [] ∧ full = dn) := by
  generalize ht : ([] : List Nat) = t at h
  cases h with
  | item hs e =>
    rename_i sp kv r rs
    exfalso
    obtain ⟨c, t, e2, _⟩ := item_head ((hg (cur ++ kv :: r) (by rw [e]; simp)).2 kv (by simp))
    rw [e2] at ht
    cases sp <;> simp at ht
  | mid hc e =>
    rename_i r rs
    rcases midR_head r rs with ⟨_, rfl, rfl⟩ | ⟨x, e2⟩ | ⟨_, _, _, _, e2⟩
    · exact .inl ⟨hc, by simpa using e⟩
    · rw [e2] at ht; cases ht
    · rw [e2] at ht; cases ht
  | nil e => exact .inr ⟨rfl, e⟩
/-- pairs and rows by membership in the part G of the ledger -/
noncomputable def PairIn (G : List (Addr × Obj)) (v : Value) (kv : KV) : Prop := ∃ T tk u n, v = .ref T ∧ (T, ({ cls := .type "tuple", data := .seq #[.str (S kv.1) tk, u] n } : Obj)) ∈ G ∧ OptIs u kv.2
noncomputable def RowIn (G : List (Addr × Obj)) (v : Value) (row : List KV) : Prop := ∃ l vs n, v = .ref l ∧ (l, listOf vs.toArray n) ∈ G ∧ Both (PairIn G) vs row
theorem PairIn.mono {G G' : List (Addr × Obj)} (h : ∀ p ∈ G, p ∈ G') (v : Value) (kv : KV) : PairIn G v kv → PairIn G' v kv
  | ⟨T, tk, u, n, e, m, o⟩ => ⟨T, tk, u, n, e, h _ m, o⟩
theorem RowIn.mono {G G' : List (Addr × Obj)} (h : ∀ p ∈ G, p ∈ G') (v : Value) (row : List KV) : RowIn G v row → RowIn G' v row
  | ⟨l, vs, n, e, m, b⟩ => ⟨l, vs, n, e, h _ m, b.imp (PairIn.mono h)⟩
theorem Both.snoc {α : Type} {R : Value → α → Prop} {vs : List Value} {xs : List α} {v : Value} {x : α} (h : Both R vs xs) (r : R v x) : Both R (vs ++ [v]) (xs ++ [x]) := by
  induction h with
  | nil => exact .cons r .nil
  | cons r' _ ih => exact .cons r' ih
theorem endg_app {TL : List (Addr × Obj)} : ∀ (G : List (Addr × Obj)), Endg TL (G ++ TL) G
  | [] => .nil
  | _ :: G => .cons (endg_app G)
theorem frm_of3 {m : Str → Option Value} {x1 x2 x3 : Str} {v1 v2 v3 : Value} (h1 : m x1 = some v1) (h2 : m x2 = some v2) (h3 : m x3 = some v3) : ∃ u, m = frm [(x1, v1), (x2, v2), (x3, v3)] u :=
  frm_of _ fun p hp => by
    rcases List.mem_cons.mp hp with rfl | hp
    · exact h1
    · rcases List.mem_cons.mp hp with rfl | hp
      · exact h2
      · rw [List.mem_singleton.mp hp]; exact h3
end Mine
end
section
theorem Mine.off_W10c : True := by (w_top off; trivial)
open PySem PySem.W PyProof.Rows PySem.Spec PySem.Calls
set_option Elab.async false
set_option maxRecDepth 100000
namespace Mine
theorem isTok_lt {c : Nat} (h : isTok c = true) : c < 256 := by
  unfold isTok at h
  rw [Bool.and_eq_true] at h
  exact of_decide_eq_true h.1
theorem tok_facts {c : Nat} (h : isTok c = true) : inVal c = true ∧ isSp c = false ∧ c ≠ 34 := by
  have hc := isTok_lt h
  have : ∀ d, d < 256 → isTok d = true → inVal d = true ∧ isSp d = false ∧ d ≠ 34 := by decide +kernel
  exact this c hc h
theorem name_facts {sp k rest : List Nat} (hs : sp = [] ∨ sp = [32]) (hk : k ≠ [] ∧ ∀ c ∈ k, inName c = true) (hr : ∀ c t, rest = c :: t → inName c = false) (hl : (sp ++ (k ++ rest)).length < 2 ^ 30) :
    ∃ b e hnd, EndsIn (Sre.forSearch cName.toArray (sp ++ (k ++ rest)).toArray 1 0 (sp ++ (k ++ rest)).length false) true 0 hnd #[some b, some e] 1 1 ∧ b ≤ e ∧ hnd ≤ (sp ++ (k ++ rest)).length ∧ (sp ++ (k ++ rest)).drop hnd = rest ∧ ((sp ++ (k ++ rest)).drop b).take (e - b) = k ∧ 0 < hnd := by
  have hk1 : 0 < k.length := by
    cases k with
    | nil => exact absurd rfl hk.1
    | cons _ _ => simp
  refine ⟨sp.length, sp.length + k.length, sp.length + k.length, name_yes (sp := sp) (nm := k) (rest := rest) (by simp) ?_ hk.2 hk.1 ?_ hr hl, by omega, ?_, ?_, ?_, by omega⟩
  · intro c hc
    rcases hs with rfl | rfl
    · cases hc
    · rw [List.mem_singleton.mp hc]; decide
  · intro c r e
    exact inName_sp (hk.2 c (by rw [e]; exact .head _))
  · simp only [List.length_append]; omega
  · rw [← List.append_assoc, List.drop_left' (by simp)]
  · rw [List.drop_left' rfl, Nat.add_sub_cancel_left, List.take_left' rfl]
theorem none_facts {r : List KV} {rs : List (List KV)} (hl : (midR r rs).length < 2 ^ 30) : Fails (Sre.forSearch cQuot.toArray (midR r rs).toArray 1 0 (midR r rs).length false) ∧ Fails (Sre.forSearch cVal.toArray (midR r rs).toArray 1 0 (midR r rs).length false) := by
  cases e : midR r rs with
  | nil => exact ⟨search_short (least := 3) (pc := 5) rfl (by simp), search_short (least := 1) (pc := 5) rfl (by simp)⟩
  | cons c t =>
    obtain ⟨_, _, h1, h2⟩ := midR_inName c t e
    rw [e] at hl
    exact ⟨quot_no1 rfl h1 h2 hl, val_no rfl h1 h2 hl⟩
theorem bare_facts {v : List Nat} {r : List KV} {rs : List (List KV)} (hb : bareV v = true) (hl : (61 :: (v ++ midR r rs)).length < 2 ^ 30) :
    Fails (Sre.forSearch cQuot.toArray (61 :: (v ++ midR r rs)).toArray 1 0 (61 :: (v ++ midR r rs)).length false) ∧
    ∃ hnd e, EndsIn (Sre.forSearch cVal.toArray (61 :: (v ++ midR r rs)).toArray 1 0 (61 :: (v ++ midR r rs)).length false) true 0 hnd #[some 1, some e] 1 1 ∧ 1 ≤ e ∧ hnd ≤ (61 :: (v ++ midR r rs)).length ∧ (61 :: (v ++ midR r rs)).drop hnd = midR r rs ∧ ((61 :: (v ++ midR r rs)).drop 1).take (e - 1) = v := by
  unfold bareV at hb
  rw [Bool.and_eq_true] at hb
  obtain ⟨h1, h2⟩ := hb
  have h3 : ∀ c ∈ v, isTok c = true := by simpa using h2
  cases v with
  | nil => simp at h1
  | cons c v =>
    have hc := tok_facts (h3 c (.head _))
    refine ⟨quot_no2 (x := c) (rest := v ++ midR r rs) rfl hc.2.1 hc.2.2 hl, 1 + (c :: v).length, 1 + (c :: v).length, val_yes (v := c :: v) (rest := midR r rs) rfl (fun d hd => (tok_facts (h3 d hd)).1) ?_ (fun d t e => (midR_inName d t e).2.1) hl, by omega, ?_, ?_, ?_⟩
    · intro d t e
      have : d = c := (List.cons.inj e).1.symm
      rw [this]; exact hc.2.1
    · simp only [List.length_cons, List.length_append]; omega
    · rw [Nat.add_comm 1]
      show ((c :: v) ++ midR r rs).drop (c :: v).length = _
      rw [List.drop_left' rfl]
    · show (((c :: v) ++ midR r rs)).take (1 + (c :: v).length - 1) = _
      rw [Nat.add_sub_cancel_left, List.take_left' rfl]
theorem quot_facts {v rest : List Nat} (hl : (61 :: 34 :: (escL v ++ 34 :: rest)).length < 2 ^ 20) :
    ∃ li hnd e, EndsIn (Sre.forSearch cQuot.toArray (61 :: 34 :: (escL v ++ 34 :: rest)).toArray 1 0 (61 :: 34 :: (escL v ++ 34 :: rest)).length false) true 0 hnd #[some 2, some e] 1 li ∧ 2 ≤ e ∧ hnd ≤ (61 :: 34 :: (escL v ++ 34 :: rest)).length ∧ (61 :: 34 :: (escL v ++ 34 :: rest)).drop hnd = rest ∧ ((61 :: 34 :: (escL v ++ 34 :: rest)).drop 2).take (e - 2) = escL v := by
  obtain ⟨li, h⟩ := quot_yes (v := v) (rest := rest) rfl hl
  refine ⟨li, _, _, h, by omega, ?_, ?_, ?_⟩
  · simp only [List.length_cons, List.length_append]; omega
  · rw [show 2 + (escL v).length + 1 = (escL v ++ [34]).length + 2 by simp; omega]
    show (escL v ++ 34 :: rest).drop (escL v ++ [34]).length = rest
    rw [show escL v ++ 34 :: rest = (escL v ++ [34]) ++ rest by simp, List.drop_left' rfl]
  · rw [Nat.add_sub_cancel_left]
    show (escL v ++ 34 :: rest).take (escL v).length = _
    rw [List.take_left' rfl]
theorem unesc_facts {v : List Nat} (hl : (escL v).length < 2 ^ 30) : ∃ ps, Rest cUnesc.toArray 1 (escL v) (Gp [] (escL v)) 0 0 false ps ∧ ps.flatten = v ∧ ps.length ≤ 2 * v.length + 1 :=
  un_rest hl _ v 0 (Nat.le_refl _) rfl (Nat.zero_le _)
theorem semi_facts {c : Nat} {t : List Nat} (hc : inName c = true) (hl : (59 :: 32 :: c :: t).length < 2 ^ 30) :
    Fails (Sre.forSearch cName.toArray (59 :: 32 :: c :: t).toArray 1 0 (59 :: 32 :: c :: t).length false) ∧
    EndsIn (Sre.forSearch cJunk.toArray (59 :: 32 :: c :: t).toArray 0 0 (59 :: 32 :: c :: t).length false) true 0 2 #[] (-1) (-1) ∧ Fails (Sre.forSearch cJunk.toArray (59 :: 32 :: c :: t).toArray 0 2 (59 :: 32 :: c :: t).length false) := by
  refine ⟨name_no rfl (by decide) (by decide) hl, junk_yes (v := [59, 32]) (rest := c :: t) rfl (by decide) ?_ hl, junk_no (by decide) (by simp) hl⟩
  intro d r e
  rw [← (List.cons.inj e).1]
  have h1 := inName_sp hc
  have h2 : c ≠ 61 := fun q => by rw [q] at hc; revert hc; decide
  have h3 : c ≠ 59 := fun q => by rw [q] at hc; revert hc; decide
  unfold inJunk
  rw [h1]
  simp [h2, h3]
theorem comma_facts {t : List Nat} (hl : (44 :: t).length < 2 ^ 30) : Fails (Sre.forSearch cName.toArray (44 :: t).toArray 1 0 (44 :: t).length false) := name_no rfl (by decide) (by decide) hl
end Mine
end
section
theorem Mine.off_W10d : True := by (w_top off; trivial)
open PySem PySem.W PyProof.Rows PySem.Spec PySem.Calls
set_option Elab.async false
set_option maxRecDepth 100000
namespace Mine
theorem S_lstrip {c : Nat} {t : List Nat} (h : isSp c = false) : Txt.lstrip (S (c :: t)) = S (c :: t) := by
  have h1 : stripLo Unicode.isSpace true (S (c :: t)) = 0 := by
    show ((c :: t).takeWhile Unicode.isSpace).length = 0
    rw [List.takeWhile_cons, if_neg (by rw [show Unicode.isSpace c = false from h]; decide)]; rfl
  unfold Txt.lstrip Txt.stripBy
  rw [if_pos]
  unfold stripSame
  rw [h1]
  simp [stripHi]
theorem S_rstrip {t : List Nat} (h : ∀ c ∈ t, isSp c = false) : Txt.rstrip (S t) = S t := by
  unfold Txt.rstrip Txt.stripBy
  rw [if_pos]
  unfold stripSame stripLo stripHi
  have h2 : (((S t).cps.toList.drop 0).reverse.takeWhile Unicode.isSpace) = [] := by
    show (t.drop 0).reverse.takeWhile Unicode.isSpace = []
    rw [List.drop_zero]
    cases e : t.reverse with
    | nil => rfl
    | cons x r =>
      have : isSp x = false := h x (by rw [← List.mem_reverse, e]; exact .head _)
      rw [List.takeWhile_cons, if_neg (by rw [show Unicode.isSpace x = false from this]; decide)]
  simp only [Bool.false_eq_true, if_false, if_true]
  rw [h2]
  simp
theorem S_starts {c : Nat} {t : List Nat} : Txt.startswith (S (c :: t)) (Str.ofString ",") = (c == 44) := by
  unfold Txt.startswith Builtin.Str.subAt
  have e1 : (Str.ofString ",").length = 1 := rfl
  have e2 : (S (c :: t)).length = t.length + 1 := by rw [S_len]; rfl
  rw [e1, e2]
  have e3 : (S (c :: t)).cps.extract 0 (0 + 1) = #[c] := by
    show (c :: t).toArray.extract 0 1 = #[c]
    simp
  rw [e3]
  have e4 : (Str.ofString ",").cps = #[44] := rfl
  rw [e4]
  have e5 : decide (0 + 1 ≤ t.length + 1) = true := by simp
  rw [e5, Bool.true_and]
  by_cases h : c = 44
  · subst h; rfl
  · have : (c == 44) = false := by simpa using h
    rw [this, beq_eq_false_iff_ne]
    intro q
    have : [c] = [44] := congrArg Array.toList q
    exact h (List.cons.inj this).1
section
variable {prog : Program} {w : World} {A : Around} {E : Value → Shared → Prop} {s : Shared} {h₀ : Heap} {L a : Addr} {m : Str → Option Value} {news : List (Addr × Obj)} {tx u : Tok} {T T' code : List Nat}
theorem k_starts {x : Str} {b : Bool} {Q : Value → Shared → Prop} (e : Txt.startswith (S T) x = b) (h : Q (.bool b) s) : wpAny (model prog w) A (call (.builtin "str.startswith") [.str (S T) tx, .str x u]) Q E s := SC.startswith (by rw [e]; exact h)
theorem k_slice_from' {value slice : Expr} {t : Tok} {Q : Value → Shared → Prop} {b : Nat} {j : Int} {uj : Tok} (F : Fr h₀ L s.heap m) (N : News h₀ L s.heap news) (hj : j = b) (hb : b ≤ T.length) (hz : T.length ≤ 2 ^ 22) (hd' : T.drop b = T')
    (h : ∀ h' t' k, Fr h₀ L h' m → News h₀ L h' news → Q (.str (S T') t') { s with heap := h', toks := k })
    (hs : subscripted slice false (.str (S T) t) (.ref s.heap.objs.size) = operate [.ref s.heap.objs.size, .str (S T) t] (getItem (.str (S T) t) (.ref s.heap.objs.size)) := by with_unfolding_all rfl)
    (hg : ∀ r, letTemporaryGo value (.str (S T) t) r = pure () := by intro _; rfl) :
    wpAny (model prog w) A (subscriptTail value slice (.str (S T) t) (.ref s.heap.objs.size)) Q E { s with heap := s.heap.push { cls := .type "slice", data := .fields #[.int j uj, .none, .none] } } := by
  subst hd'
  exact k_slice_from F N hj hb hz h hs hg
theorem k_subn {x : Str} {n : Nat} {Q : Value → Shared → Prop} (F : Fr h₀ L s.heap m) (N : News h₀ L s.heap news) (hP : PatAt h₀ a code 0) (hz : T.length ≤ 2 ^ 22) (hx : x = S [])
    (En : EndsIn (Sre.forSearch code.toArray T.toArray 0 0 T.length false) true 0 n #[] (-1) (-1)) (hn : 0 < n) (Fl : Fails (Sre.forSearch code.toArray T.toArray 0 n T.length false)) (hd' : T.drop n = T')
    (h : ∀ D h' tk t t2, Fr h₀ L h' m → News h₀ L h' ((D, { cls := .type "tuple", data := .seq #[.str (S T') t, .int 1 t2] 0 }) :: news) → (∀ p ∈ news, p.1 < D) → Q (.ref D) { s with heap := h', toks := tk }) :
    wpAny (model prog w) A (call (.builtin "re.Pattern.subn") [.ref a, .str x u, .str (S T) tx]) Q E s := by
  obtain ⟨r1, k1, e1, hk1, ho1, hs1, hh1, _⟩ := En
  obtain ⟨r2, k2, e2, hk2, ho2⟩ := Fl
  have hmu : (r1.handed == r1.start) = false := by
    rw [hs1, hh1, beq_eq_false_iff_ne]; omega
  refine subn_call (hP.keeps F.keep) hz hx e1 hk1 ho1 hs1 (r2 := r2) (k2 := k2) ?_ hk2 ho2 fun h' tk t t2 q1 q2 => ?_
  · rw [hmu, hh1]; exact e2
  · rw [hh1, hd']
    have F1 : Fr h₀ L h' m := ⟨F.ns.keeps q1, fun b o e => q1 b o (F.keep b o e), F.above⟩
    have N1 : News h₀ L h' news := fun p hp => ⟨q1 _ _ (N p hp).1, (N p hp).2⟩
    exact h _ _ _ _ _ (F1.push _) (N1.push F1 _) fun p hp => Heap.lt_size (N1 p hp).1
end
structure Sep (P I R : Addr) (G TL : List (Addr × Obj)) : Prop where
  pi : P ≠ I
  pr : P ≠ R
  sP : ∀ q ∈ G ++ TL, q.1 ≠ P
  sI : ∀ q ∈ G ++ TL, q.1 ≠ I
  sR : ∀ q ∈ G ++ TL, q.1 ≠ R
  sG : ∀ p ∈ G, ∀ q ∈ TL, p.1 ≠ q.1
section
variable {P I R D P1 M1 P2 M2 : Addr} {o o1 oI o2 oM1 oP1 oM2 oP2 : Obj} {G TL TL' : List (Addr × Obj)}
theorem ne_of_allLt {d e : Addr} {l : List (Addr × Obj)} (h : AllLt d l) (hde : (d : Nat) ≤ e) : ∀ q ∈ l, q.1 ≠ e := fun q hq => Nat.ne_of_lt (Nat.lt_of_lt_of_le (allLt_mem h q hq) hde)
theorem sep7 (Sp : Sep P I R G TL) (l1 : P < P1 ∧ I < P1 ∧ R < P1 ∧ AllLt P1 (G ++ TL)) (l2 : P1 < M1) (l3 : M1 < P2 ∧ P1 < P2 ∧ P < P2 ∧ I < P2 ∧ R < P2 ∧ AllLt P2 (G ++ TL)) (l4 : P2 < M2) :
    ∀ p ∈ (M2, oM2) :: (P2, oP2) :: (M1, oM1) :: (P1, oP1) :: (P, o1) :: (I, oI) :: (R, o2) :: G, ∀ q ∈ TL, p.1 ≠ q.1 := by
  have a1 := l1.2.2.2
  have a3 := l3.2.2.2.2.2
  refine sep_cons (fun q hq => ne_of_allLt a3 (Nat.le_of_lt l4) q (List.mem_append_right _ hq)) (sep_cons (fun q hq => ne_of_allLt a3 (Nat.le_refl _) q (List.mem_append_right _ hq)) (sep_cons (fun q hq => ne_of_allLt a1 (Nat.le_of_lt l2) q (List.mem_append_right _ hq)) (sep_cons (fun q hq => ne_of_allLt a1 (Nat.le_refl _) q (List.mem_append_right _ hq))
    (sep_cons (fun q hq => Sp.sP q (List.mem_append_right _ hq)) (sep_cons (fun q hq => Sp.sI q (List.mem_append_right _ hq)) (sep_cons (fun q hq => Sp.sR q (List.mem_append_right _ hq)) Sp.sG))))))
/-- a new pair ahead of the finished ones -/
theorem Sep.pair (Sp : Sep P I R G TL) (hP : P < D) (hI : I < D) (hR : R < D) (hA : AllLt D (G ++ TL)) : Sep P I R ((D, o) :: G) TL := by
  refine ⟨Sp.pi, Sp.pr, fun q hq => ?_, fun q hq => ?_, fun q hq => ?_, fun p hp q hq => ?_⟩
  · rcases List.mem_cons.mp hq with rfl | hq
    · exact (Nat.ne_of_gt hP)
    · exact Sp.sP q hq
  · rcases List.mem_cons.mp hq with rfl | hq
    · exact (Nat.ne_of_gt hI)
    · exact Sp.sI q hq
  · rcases List.mem_cons.mp hq with rfl | hq
    · exact (Nat.ne_of_gt hR)
    · exact Sp.sR q hq
  · rcases List.mem_cons.mp hp with rfl | hp
    · exact Nat.ne_of_gt (allLt_mem hA q (List.mem_append_right _ hq))
    · exact Sp.sG p hp q hq
/-- the tables have grown -/
theorem Sep.grow (Sp : Sep P I R G TL) (s : ∀ p ∈ (M2, oM2) :: (P2, oP2) :: (M1, oM1) :: (P1, oP1) :: (P, o1) :: (I, oI) :: (R, o2) :: G, ∀ q ∈ TL', p.1 ≠ q.1) : Sep P I R G TL' := by
  have sG : ∀ p ∈ G, ∀ q ∈ TL', p.1 ≠ q.1 := fun p hp => s p (.tail _ (.tail _ (.tail _ (.tail _ (.tail _ (.tail _ (.tail _ hp)))))))
  refine ⟨Sp.pi, Sp.pr, fun q hq => ?_, fun q hq => ?_, fun q hq => ?_, sG⟩
  · rcases List.mem_append.mp hq with hq | hq
    · exact Sp.sP q (List.mem_append_left _ hq)
    · exact (s (P, o1) (.tail _ (.tail _ (.tail _ (.tail _ (.head _))))) q hq).symm
  · rcases List.mem_append.mp hq with hq | hq
    · exact Sp.sI q (List.mem_append_left _ hq)
    · exact (s (I, oI) (.tail _ (.tail _ (.tail _ (.tail _ (.tail _ (.head _)))))) q hq).symm
  · rcases List.mem_append.mp hq with hq | hq
    · exact Sp.sR q (List.mem_append_left _ hq)
    · exact (s (R, o2) (.tail _ (.tail _ (.tail _ (.tail _ (.tail _ (.tail _ (.head _))))))) q hq).symm
/-- the row P is done, D is the new one -/
theorem Sep.row (Sp : Sep P I R G TL) (hI : I < D) (hR : R < D) (hP : P < D) (hA : AllLt D (G ++ TL)) : Sep D I R ((P, o) :: G) TL := by
  refine ⟨Nat.ne_of_gt hI, Nat.ne_of_gt hR, fun q hq => ?_, fun q hq => ?_, fun q hq => ?_, fun p hp q hq => ?_⟩
  · rcases List.mem_cons.mp hq with rfl | hq
    · exact Nat.ne_of_lt hP
    · exact Nat.ne_of_lt (allLt_mem hA q hq)
  · rcases List.mem_cons.mp hq with rfl | hq
    · exact Sp.pi
    · exact Sp.sI q hq
  · rcases List.mem_cons.mp hq with rfl | hq
    · exact Sp.pr
    · exact Sp.sR q hq
  · rcases List.mem_cons.mp hp with rfl | hp
    · exact (Sp.sP q (List.mem_append_right _ hq)).symm
    · exact Sp.sG p hp q hq
end
/-- the state of the while over one header -/
noncomputable def SInv (full pre : List (List KV)) (I R : Addr) (oI : Obj) (n : Nat) (m₁ : Str → Option Value) (news₁ : List (Addr × Obj)) : Prop :=
  ∃ P ps n1 rs n2 G TL T tt cur dn u, n = T.length ∧ T.length ≤ 2 ^ 19 ∧ news₁ = (P, W.listOf ps.toArray n1) :: (I, oI) :: (R, W.listOf rs.toArray n2) :: (G ++ TL) ∧ SSt full T cur dn ∧ Both (PairIn G) ps cur ∧ Both (RowIn G) rs (pre ++ dn) ∧ Tabs TL ∧ Sep P I R G TL ∧
    m₁ = frm [(Str.ofString "result", .ref R), (Str.ofString "text", .str (S T) tt), (Str.ofString "pairs", .ref P)] u
theorem SInv.of {full pre : List (List KV)} {I R P : Addr} {oI : Obj} {m : Str → Option Value} {ps rs : List Value} {n1 n2 : Nat} {G TL : List (Addr × Obj)} {T : List Nat} {tt : Tok} {cur : List KV} {dn : List (List KV)}
    (hst : SSt full T cur dn) (hT : T.length ≤ 2 ^ 19) (hps : Both (PairIn G) ps cur) (hrs : Both (RowIn G) rs (pre ++ dn)) (TB : Tabs TL) (Sp : Sep P I R G TL)
    (h1 : m (Str.ofString "result") = some (.ref R)) (h2 : m (Str.ofString "text") = some (.str (S T) tt)) (h3 : m (Str.ofString "pairs") = some (.ref P)) :
    SInv full pre I R oI T.length m ((P, W.listOf ps.toArray n1) :: (I, oI) :: (R, W.listOf rs.toArray n2) :: (G ++ TL)) := by
  obtain ⟨u, e⟩ := frm_of3 h1 h2 h3
  exact ⟨P, ps, n1, rs, n2, G, TL, T, tt, cur, dn, u, rfl, hT, rfl, hst, hps, hrs, TB, Sp, e⟩
theorem both_pair {G : List (Addr × Obj)} {ps : List Value} {cur : List KV} {D : Addr} {k : List Nat} {tk : Tok} {u : Value} {ov : Option (List Nat)} (h : Both (PairIn G) ps cur) (ho : OptIs u ov) :
    Both (PairIn ((D, ({ cls := .type "tuple", data := .seq #[.str (S k) tk, u] } : Obj)) :: G)) (ps ++ [.ref D]) (cur ++ [(k, ov)]) :=
  (h.imp (PairIn.mono fun p hp => .tail _ hp)).snoc ⟨D, tk, u, _, rfl, .head _, ho⟩
theorem both_rows {G : List (Addr × Obj)} {x : Addr × Obj} {rs : List Value} {rows : List (List KV)} (h : Both (RowIn G) rs rows) : Both (RowIn (x :: G)) rs rows := h.imp (RowIn.mono fun p hp => .tail _ hp)
theorem both_row {G : List (Addr × Obj)} {rs ps : List Value} {cur : List KV} {rows : List (List KV)} {P : Addr} {n : Nat} (h : Both (RowIn G) rs rows) (hp : Both (PairIn G) ps cur) : Both (RowIn ((P, W.listOf ps.toArray n) :: G)) (rs ++ [.ref P]) (rows ++ [cur]) :=
  (both_rows h).snoc ⟨P, ps, n, rfl, .head _, hp.imp (PairIn.mono fun p hp => .tail _ hp)⟩
/-- orders of ledgers -/
theorem led1 {a b c d e f : Addr × Obj} {l : List (Addr × Obj)} : ∀ p ∈ d :: e :: f :: (a :: l), p ∈ a :: b :: c :: d :: e :: f :: l := fun p hp => by
  simp only [List.mem_cons] at hp ⊢
  rcases hp with h | h | h | h | h <;> simp [h]
theorem led0 {a d e f : Addr × Obj} {l : List (Addr × Obj)} : ∀ p ∈ d :: e :: f :: (a :: l), p ∈ d :: a :: e :: f :: l := fun p hp => by
  simp only [List.mem_cons] at hp ⊢
  rcases hp with h | h | h | h | h <;> simp [h]
theorem led2 {a b c d e f g h : Addr × Obj} {l : List (Addr × Obj)} : ∀ p ∈ f :: g :: h :: (a :: l), p ∈ a :: b :: c :: d :: e :: f :: g :: h :: l := fun p hp => by
  simp only [List.mem_cons] at hp ⊢
  rcases hp with h | h | h | h | h <;> simp [h]
theorem led3 {a b c d e f g h i : Addr × Obj} {l : List (Addr × Obj)} : ∀ p ∈ g :: h :: i :: (a :: l), p ∈ a :: b :: c :: d :: e :: f :: g :: h :: i :: l := fun p hp => by
  simp only [List.mem_cons] at hp ⊢
  rcases hp with h | h | h | h | h <;> simp [h]
theorem SSt.len {full : List (List KV)} (h : Small full) : (joinL [44, 32] (full.map rowT)).length ≤ 2 ^ 19 := by
  refine Nat.le_trans (joinL_len _ _) ?_
  have h2 := sum_le (fun r => (rowT r).length) 520 full fun r hr => row_len (h.2 r hr).1 (h.2 r hr).2
  rw [List.map_map, List.length_map]
  have h3 : (List.map (List.length ∘ rowT) full).sum ≤ full.length * 520 := h2
  have := h.1
  have h4 : full.length * 520 ≤ 20 * 520 := Nat.mul_le_mul_right _ this
  have h5 : ([44, 32] : List Nat).length = 2 := rfl
  rw [h5]
  omega
end Mine
end
section
theorem Mine.off_W11 : True := by (w_top off; trivial)
open PySem PySem.W PyProof.Rows PySem.Spec PySem.Calls
set_option Elab.async false
set_option maxRecDepth 100000
namespace Mine
theorem Txts.at_ {vs : List Value} {ws : List (List Nat)} (h : Txts vs ws) : ∀ {i : Nat} {v : Value}, vs[i]? = some v → ∃ x, ws[i]? = some x ∧ ∃ t, v = .str (S x) t := by
  induction h with
  | nil => intro i v e; simp at e
  | cons _ ih =>
    intro i v e
    cases i with
    | zero => simp at e; subst e; exact ⟨_, rfl, _, rfl⟩
    | succ i => exact ih (by simpa using e)
theorem IsMat.cls {M P : Addr} {oM oP : Obj} {T : List Nat} {tx : Tok} {l : List Int} (I : IsMat M P oM oP T tx l) : oM.cls = .type "re.Match" := I.1
theorem k_group1' {prog : Program} {w : World} {A : Around} {E : Value → Shared → Prop} {s : Shared} {h₀ : Heap} {L : Addr} {news : List (Addr × Obj)} {tx : Tok} {T g : List Nat} {Mt P : Addr} {oM oP : Obj} {hnd b e : Nat} {u : Tok} {Q : Value → Shared → Prop} (I : IsMat Mt P oM oP T tx [((0 : Nat) : Int), (hnd : Int), (b : Int), (e : Int)]) (N : News h₀ L s.heap news) (h1 : (Mt, oM) ∈ news) (h2 : (P, oP) ∈ news) (hz : T.length ≤ 2 ^ 22)
    (hg : (T.drop b).take (e - b) = g) (hq : ∀ t tk, Q (.str (S g) t) { s with toks := tk }) : wpAny (model prog w) A (call (.builtin "re.Match.group") [.ref Mt, .int 1 u]) Q E s := by
  subst hg; exact k_group1 I N h1 h2 hz hq
theorem k_unmatched' {w : World} {dp un : Nat} {fr : Option (List Env)} {gd : Option (List Code)} {E : Value → Shared → Prop} {s : Shared} {h₀ : Heap} {L : Addr} {m mg mb : Str → Option Value} {news : List (Addr × Obj)} {tx : Tok} {T T' : List Nat} {Mt P : Addr} {oM oP : Obj} {hnd b e : Nat} {p : Program} {loose : List Str} {mean : ExcName → Option Value} {Q : Value → Shared → Prop}
    (F : Fr h₀ L s.heap m) (N : News h₀ L s.heap news) (X : (hf.heap_1 w.params).In h₀) (Tp : Top p loose mean mg mb h₀) (hroom : dp + 1 < recursionLimit)
    (I : IsMat Mt P oM oP T tx [((0 : Nat) : Int), (hnd : Int), (b : Int), (e : Int)]) (h1 : (Mt, oM) ∈ news) (h2 : (P, oP) ∈ news) (hl : T.length ≤ 2 ^ 20) (hd' : T.drop hnd = T') (hh : hnd ≤ T.length)
    (hq : ∀ h' tk t, Fr h₀ L h' m → News h₀ L h' news → Q (.str (S T') t) { s with heap := h', toks := tk }) :
    wpAny (model PySem.Challenge.rw_in0021_01.prog w) (Am dp un fr gd) (call (.ref 43) [.ref Mt]) Q E s := by
  subst hd'; exact k_unmatched F N X Tp hroom I h1 h2 hh hl hq
noncomputable abbrev OInv11 (fulls : List (List (List KV))) (Rr : Addr) (i : Nat) (m₁ : Str → Option Value) (news₁ : List (Addr × Obj)) : Prop := ∃ rs n G TL₁, news₁ = (Rr, W.listOf rs.toArray n) :: (G ++ TL₁) ∧ Both (RowIn G) rs (fulls.take i).flatten ∧ Tabs TL₁ ∧ (∀ q ∈ G ++ TL₁, q.1 ≠ Rr) ∧ (∀ p ∈ G, ∀ q ∈ TL₁, p.1 ≠ q.1) ∧ ∃ u, m₁ = frm [(Str.ofString "result", .ref Rr)] u
set_option maxHeartbeats 4000000 in
theorem split_spec {w : World} {mg mb : Str → Option Value} {p : Program} {loose : List Str} {mean : ExcName → Option Value} {dp un : Nat} {fr : Option (List Env)} {gd : Option (List Code)} {s : Shared} {TL : List (Addr × Obj)} {R : Result → Shared → Prop} {l : Addr} {lvs : List Value} {ts : List (List Nat)} {fulls : List (List (List KV))}
    (H : Hid s.heap TL) (TB : Tabs TL) (X : (hf.heap_1 w.params).In (frz s.heap TL)) (Tp : Top p loose mean mg mb (frz s.heap TL)) (hroom : dp + 3 < recursionLimit)
    (hlist : (frz s.heap TL).IsList l lvs.toArray) (hts : Txts lvs ts) (hfs : ts = fulls.map fun full => joinL [44, 32] (full.map rowT)) (hgs : ∀ full ∈ fulls, Good full ∧ Small full) (hf10 : fulls.length ≤ 10)
    (hR : ∀ h' tk TL' Rr vs n G, Grown s.heap h' TL TL' → Tabs TL' → (∀ p ∈ (Rr, W.listOf vs.toArray n) :: G, h'.get? p.1 = some p.2 ∧ (frz s.heap TL).get? p.1 = none ∧ p.1 ≠ s.heap.objs.size) → (∀ p ∈ (Rr, W.listOf vs.toArray n) :: G, ∀ q ∈ TL', p.1 ≠ q.1) →
      Both (RowIn G) vs fulls.flatten → R (.ok (.ret (.ref Rr))) { s with heap := h', toks := tk }) :
    codeAny (model PySem.Challenge.rw_in0021_01.prog w) (Am dp un fr gd) (.call (.ref 70) ⟨[.ref l], []⟩) R s := by
  refine' enter (binds := [(Str.ofString "header_values", .ref l)]) H X Tp ?k6 ?k7 ?k8 ?k9 ?kB ?_ ?c2 ?c3 ?c4 ?c5
  case k6 => k_is
  case k7 => k_is
  case k8 => show dp < recursionLimit; omega
  case k9 => exact BindsTo.of_eq rfl
  case kB => exact locs rfl
  case c2 => exact rfl
  case c3 => exact rfl
  case c4 => exact rfl
  case c5 => decide
  intro h₁ F N
  try k_fold
  (repeat' ((fail_if_success (with_reducible show wpAny _ _ (exec (Stmt.For _ _ _ _ _) _) _ _ _)); (fail_if_success (with_reducible show wpAny _ _ (exec (Stmt.While _ _ _ _) _) _ _ _)); first | (k_unfold; (try dsimp only)) | ((with_reducible show wpAny _ _ (exec _ _) _ _ _); k_fold) | fail | walk1 | (dsimp only; walk1)))
  rename Fr _ _ _ _ => F'
  rename News _ _ _ _ => N'
  refine For_turns F' ?_
  (repeat' ((fail_if_success (with_reducible show wpAny _ _ (exec (Stmt.For _ _ _ _ _) _) _ _ _)); (fail_if_success (with_reducible show wpAny _ _ (exec (Stmt.While _ _ _ _) _) _ _ _)); first | (k_unfold; (try dsimp only)) | ((with_reducible show wpAny _ _ (exec _ _) _ _ _); k_fold) | fail | walk1 | (dsimp only; walk1)))
  rename_i Rr hx lR hy
  have P48 : PatAt (frz s.heap TL) 48 cName 1 := ⟨_, _, _, _, _, X _ _ (by k_is), X _ _ (by k_is)⟩
  have P53 : PatAt (frz s.heap TL) 53 cQuot 1 := ⟨_, _, _, _, _, X _ _ (by k_is), X _ _ (by k_is)⟩
  have P58 : PatAt (frz s.heap TL) 58 cVal 1 := ⟨_, _, _, _, _, X _ _ (by k_is), X _ _ (by k_is)⟩
  have P63 : PatAt (frz s.heap TL) 63 cUnesc 1 := ⟨_, _, _, _, _, X _ _ (by k_is), X _ _ (by k_is)⟩
  have P36 : PatAt (frz s.heap TL) 36 cJunk 0 := ⟨_, _, _, _, _, X _ _ (by k_is), X _ _ (by k_is)⟩
  have C69 : CodeHd (frz s.heap TL) 69 65 := ⟨_, _, _, _, _, _, _, _, _, X _ _ (by k_is), rfl, rfl, rfl, rfl, rfl, rfl, rfl, rfl, by decide⟩
  have hroom2 : dp + 1 + 1 < recursionLimit := by omega
  refine list_turns (OInv11 fulls Rr) rfl hlist F' N' ?j ?turn ?done
  case j => exact ⟨[], 0, [], TL, rfl, .nil, TB, fun q hq => Nat.ne_of_lt (lR q hq), fun _ h => (nomatch h), frm_of1 rfl⟩
  case done =>
    clear F' N'
    rintro m₁ news₁ h tk ⟨rs, n, G, TL₁, rfl, hrs, TB₁, sR, sG, u, rfl⟩ F₁ N₁
    rw [hts.length, hfs, List.length_map, List.take_length] at hrs
    show wpAny _ _ _ _ _ _
    (repeat' ((fail_if_success (with_reducible show wpAny _ _ (exec (Stmt.For _ _ _ _ _) _) _ _ _)); (fail_if_success (with_reducible show wpAny _ _ (exec (Stmt.While _ _ _ _) _) _ _ _)); first | (k_unfold; (try dsimp only)) | ((with_reducible show wpAny _ _ (exec _ _) _ _ _); k_fold) | fail | walk1 | (dsimp only; walk1)))
    rename Fr _ _ _ _ => F'
    rename News _ _ _ _ => N'
    refine hR _ _ TL₁ Rr rs n G (Grown.of F' N' (fun p hp => .tail _ (List.mem_append_right _ hp)) (Nat.le_refl _)) TB₁ (fun p hp => ?_) (sep_cons (fun q hq => sR q (List.mem_append_right _ hq)) sG) hrs
    have hp' : p ∈ (Rr, W.listOf rs.toArray n) :: (G ++ TL₁) := by
      rcases List.mem_cons.mp hp with rfl | hp
      · exact .head _
      · exact .tail _ (List.mem_append_left _ hp)
    exact ⟨(N' p hp').1, (N' p hp').2.2, (N' p hp').2.1⟩
  case turn =>
    clear F' N'
    rintro I hI i v m₁ news₁ h tk oI hv ⟨rs, n, G, TL₁, rfl, hrs, TB₁, sR, sG, u, rfl⟩ hne F₁ N₁
    have hRI : Rr < I := hI _ (List.mem_cons_self ..)
    have hIR : @Ne Nat I Rr := Nat.ne_of_gt hRI
    obtain ⟨t0, ht0, tt, rfl⟩ := hts.at_ hv
    obtain ⟨full, hfull, rfl⟩ : ∃ full, fulls[i]? = some full ∧ t0 = joinL [44, 32] (full.map rowT) := by
      rw [hfs, List.getElem?_map] at ht0
      cases e : fulls[i]? with
      | none => rw [e] at ht0; cases ht0
      | some full => rw [e] at ht0; exact ⟨full, rfl, (Option.some.inj ht0).symm⟩
    obtain ⟨hgood, hsmall⟩ := hgs full (List.mem_of_getElem? hfull)
    have hstep : (fulls.take (i + 1)).flatten = (fulls.take i).flatten ++ full := by
      rw [List.take_add_one, hfull]; simp
    show wpAny _ _ _ _ _ _
    try k_fold
    (repeat' ((fail_if_success (with_reducible show wpAny _ _ (exec (Stmt.For _ _ _ _ _) _) _ _ _)); (fail_if_success (with_reducible show wpAny _ _ (exec (Stmt.While _ _ _ _) _) _ _ _)); first | (k_unfold; (try dsimp only)) | ((with_reducible show wpAny _ _ (exec _ _) _ _ _); k_fold) | fail | walk1 | (dsimp only; walk1)))
    rename Fr _ _ _ _ => F'
    rename News _ _ _ _ => N'
    rename_i hx1 tkx hx2 P0 hx3 lP0 hx4
    obtain ⟨lPI, lPR, lPG⟩ := lP0
    have hpre : (fulls.take i).flatten.length ≤ 200 := by
      rw [List.length_flatten]
      refine Nat.le_trans (sum_le List.length 20 (fulls.take i) fun x hx => (hgs x (List.mem_of_mem_take hx)).2.1) ?_
      rw [List.length_take]; omega
    refine While_inv2 (SInv full (fulls.take i).flatten I Rr oI) (n₀ := (joinL [44, 32] (full.map rowT)).length) F' N' ?j2 ?turn2 ?hE
    case hE => exact fun _ _ h => h.elim
    case j2 =>
      exact SInv.of (SSt.start hgood) (SSt.len hsmall) .nil (by rw [List.append_nil]; exact hrs) TB₁ ⟨Nat.ne_of_gt lPI, Nat.ne_of_gt lPR, fun q hq => Nat.ne_of_lt (allLt_mem lPG q hq), fun q hq => hne q (.tail _ hq), sR, sG⟩ rfl rfl rfl
    case turn2 =>
      clear F' N' lPI lPR lPG TB₁ sR sG hrs
      rintro n m₁ news₁ h2 tk2 F₂ N₂ ⟨P, ps, n1, rs, n2, G, TL₁, T, tt, cur, dn, u2, rfl, hTl, rfl, hst, hps, hrs, TB₁, Sp, rfl⟩
      have hPI : @Ne Nat P I := Sp.pi
      have hPR : @Ne Nat P Rr := Sp.pr
      have sP := Sp.sP
      have sI := Sp.sI
      have sR := Sp.sR
      have sG := Sp.sG
      have hpl : ps.length = cur.length := hps.length
      have hrl : rs.length = (fulls.take i).flatten.length + dn.length := by rw [hrs.length, List.length_append]
      have hsI : ∀ (o1 o2 : Obj), ∀ p ∈ (Rr, o2) :: ((P, o1) :: G ++ TL₁), p.1 ≠ I := fun o1 o2 p hp => by
        rcases List.mem_cons.mp hp with rfl | hp
        · exact Ne.symm hIR
        · rcases List.mem_cons.mp hp with rfl | hp
          · exact hPI
          · exact sI p hp
      cases hst with
      | nil e =>
        have hpe : ps.isEmpty = !false := by
          cases hp0 : ps with
          | nil => rfl
          | cons _ _ => rw [hp0] at hpl; simp at hpl
        have htf : ([] : List Nat).isEmpty = !false := rfl
        have hpl' : ps.length < 2 ^ 22 := by rw [hpl]; exact (by decide)
        show wpAny _ _ _ _ _ _
        try k_fold
        (repeat' ((fail_if_success (with_reducible show wpAny _ _ (exec (Stmt.For _ _ _ _ _) _) _ _ _)); (fail_if_success (with_reducible show wpAny _ _ (exec (Stmt.While _ _ _ _) _) _ _ _)); first | (k_unfold; (try dsimp only)) | ((with_reducible show wpAny _ _ (exec _ _) _ _ _); k_fold) | (first | ((with_reducible show wpAny _ _ (truthy (Value.ref _)) _ _ _); (first | ((refine k_truthy_list true (by k_asm) (by k_mem) (by omega) (by assumption) ?_); intro tk') | ((refine k_truthy_list false (by k_asm) (by k_mem) (by omega) (by assumption) ?_); intro tk') | (refine' k_truthy_match ?zqN ?zqM ?zqc ?_; (case zqN => k_asm); (case zqM => k_mem); (case zqc => exact IsMat.cls (by assumption)))); (try dsimp only)) | ((with_reducible show wpAny _ _ (truthy (Value.str (S _) _)) _ _ _); (first | refine k_truthy true (by omega) (by assumption) ?_ | refine k_truthy false (by omega) (by assumption) ?_); intro tk'; (try dsimp only))) | walk1 | (dsimp only; walk1)))
        rename Fr _ _ _ _ => F'
        rename News _ _ _ _ => N'
        refine ⟨_, _, _, _, rfl, F', fun p hp => N' p (.tail _ hp), ?_, rs, n2, G, TL₁, rfl, ?_, TB₁, sR, sG, frm_of1 rfl⟩
        · intro p hp
          rcases List.mem_cons.mp hp with rfl | hp
          · exact Ne.symm hIR
          · exact sI p hp
        · rw [hstep, e, List.append_nil]; rw [List.append_nil] at hrs; exact hrs
      | mid hc e =>
        rename_i r rws
        have hcl : cur.length ≤ 10 := by
          have := (hsmall.2 (cur ++ r) (by rw [e]; simp)).1
          rw [List.length_append] at this; omega
        have hdl : dn.length ≤ 20 := by
          have := hsmall.1
          rw [e] at this
          simp only [List.length_append, List.length_cons] at this
          omega
        have hpe : ps.isEmpty = !true := by
          cases hp0 : ps with
          | nil => rw [hp0] at hpl; exact absurd (List.eq_nil_of_length_eq_zero hpl.symm) hc
          | cons _ _ => rfl
        rcases midR_head r rws with ⟨hE, rfl, rfl⟩ | ⟨x, hE⟩ | ⟨row, rws', rfl, rfl, hE⟩
        · have hE' : midR ([] : List KV) [] = [] := rfl
          rw [hE'] at F₂
          have htf : ([] : List Nat).isEmpty = !false := rfl
          have htl : ([] : List Nat).length ≤ 2 ^ 24 := Nat.zero_le _
          have hrl' : rs.length < 2 ^ 22 := by omega
          show wpAny _ _ _ _ _ _
          try k_fold
          (repeat' ((fail_if_success (with_reducible show wpAny _ _ (exec (Stmt.For _ _ _ _ _) _) _ _ _)); (fail_if_success (with_reducible show wpAny _ _ (exec (Stmt.While _ _ _ _) _) _ _ _)); first | (k_unfold; (try dsimp only)) | ((with_reducible show wpAny _ _ (exec _ _) _ _ _); k_fold) | (first | ((with_reducible show wpAny _ _ (truthy (Value.ref _)) _ _ _); (first | ((refine k_truthy_list true (by k_asm) (by k_mem) (by omega) (by assumption) ?_); intro tk') | ((refine k_truthy_list false (by k_asm) (by k_mem) (by omega) (by assumption) ?_); intro tk') | (refine' k_truthy_match ?zqN ?zqM ?zqc ?_; (case zqN => k_asm); (case zqM => k_mem); (case zqc => exact IsMat.cls (by assumption)))); (try dsimp only)) | ((with_reducible show wpAny _ _ (truthy (Value.str (S _) _)) _ _ _); (first | refine k_truthy true (by omega) (by assumption) ?_ | refine k_truthy false (by omega) (by assumption) ?_); intro tk'; (try dsimp only)) | ((with_reducible show wpAny _ _ (call (Value.builtin "list.append") [Value.ref _, _]) _ _ _); (refine' k_append ?zqF ?zqN ?zqU ?zqz ?_; (case zqF => k_asm); (case zqN => k_asm); (case zqU => (first | ((repeat (first | (refine' Upd.head ?zqb; (case zqb => ((repeat (first | assumption | exact (Sep.grow (by assumption) (by assumption)).sP | (refine' List.forall_mem_cons.mpr ⟨?zqc, ?_⟩; (case zqc => k_ne)))); done))) | (refine' Upd.tail ?zqa ?_; (case zqa => first | assumption | k_ne); rotate_left))); done) | k_upd)); (case zqz => omega)); intro h' F' N'; (try dsimp only))) | walk1 | (dsimp only; walk1)))
          rename Fr _ _ _ _ => F'
          rename News _ _ _ _ => N'
          refine ⟨_, _, _, _, rfl, F', fun p hp => N' p ?_, hsI _ _, rs ++ [.ref P], n2 + 1, (P, W.listOf ps.toArray n1) :: G, TL₁, rfl, ?_, TB₁, ?_, ?_, frm_of1 rfl⟩
          · simp only [List.mem_cons, List.cons_append] at hp ⊢
            rcases hp with h | h | h | h <;> simp [h]
          · have := both_row (P := P) (n := n1) hrs hps
            rw [hstep, e, List.append_nil]
            rw [List.append_assoc] at this
            exact this
          · intro q hq
            rcases List.mem_cons.mp hq with rfl | hq
            · exact hPR
            · exact sR q hq
          · exact sep_cons (fun q hq => sP q (List.mem_append_right _ hq)) sG
        · obtain ⟨kv, r', rfl⟩ : ∃ kv r', r = kv :: r' := by
            cases r with
            | nil =>
              cases rws with
              | nil => cases hE
              | cons row rws' => exact absurd (List.cons.inj hE).1 (by decide)
            | cons kv r' => exact ⟨kv, r', rfl⟩
          have hm : midR (kv :: r') rws = 59 :: 32 :: (itemT kv ++ midR r' rws) := by rw [← rowT_cons]; rfl
          have hgk : GoodKV kv := (hgood (cur ++ kv :: r') (by rw [e]; simp)).2 kv (by simp)
          obtain ⟨c0, t0', hi0, hn0⟩ := item_head hgk
          obtain ⟨g1, g2, g3⟩ := semi_facts (c := c0) (t := t0' ++ midR r' rws) hn0 (by rw [hm, hi0] at hTl; simp only [List.length_cons, List.cons_append] at hTl ⊢; omega)
          have hst' : SSt full ([] ++ (itemT kv ++ midR r' rws)) cur dn := .item (.inl rfl) e
          rw [List.nil_append] at hst'
          have hm2 : midR (kv :: r') rws = 59 :: 32 :: c0 :: (t0' ++ midR r' rws) := by rw [hm, hi0]; rfl
          have hd2 : (midR (kv :: r') rws).drop 2 = itemT kv ++ midR r' rws := by rw [hm]; rfl
          have hml : (itemT kv ++ midR r' rws).length + 2 = (midR (kv :: r') rws).length := by rw [hm]; rfl
          have htrue : (midR (kv :: r') rws).isEmpty = !true := by rw [hm]; rfl
          have hls : Txt.lstrip (S (midR (kv :: r') rws)) = S (midR (kv :: r') rws) := by rw [hm2]; exact S_lstrip (by decide)
          have hsw : Txt.startswith (S (midR (kv :: r') rws)) (Str.ofString ",") = false := by rw [hm2, S_starts]; rfl
          rw [← hm2] at g1 g2 g3
          generalize midR (kv :: r') rws = T at *
          generalize itemT kv ++ midR r' rws = T1 at *
          show wpAny _ _ _ _ _ _
          try k_fold
          (repeat' ((fail_if_success (with_reducible show wpAny _ _ (exec (Stmt.For _ _ _ _ _) _) _ _ _)); (fail_if_success (with_reducible show wpAny _ _ (exec (Stmt.While _ _ _ _) _) _ _ _)); first | (k_unfold; (try dsimp only)) | ((with_reducible show wpAny _ _ (exec _ _) _ _ _); k_fold) | (first | ((with_reducible show wpAny _ _ (call (Value.builtin "re.Pattern.subn") _) _ _ _); (refine' k_subn ?zqF ?zqN ?zqP ?zqz ?zqx ?zqEn ?zqn ?zqFl ?zqhd ?_; (case zqF => k_asm); (case zqN => k_asm); (case zqP => assumption); (case zqz => omega); (case zqx => exact rfl); (case zqEn => assumption); (case zqn => decide); (case zqFl => assumption); (case zqhd => assumption)); intro D' h' tk' t' t2' F' N' l'; (try k_lt l'); (try dsimp only)) | ((with_reducible show wpAny _ _ (call (Value.builtin "str.startswith") [Value.str (S _) _, Value.str _ _]) _ _ _); (refine k_starts (by assumption) ?_); (try dsimp only)) | ((with_reducible show wpAny _ _ (call (Value.builtin "str.lstrip") [Value.str _ _]) _ _ _); (refine KXw.lstrip (by assumption) (by rw [S_len]; show _ ≤ 2 ^ 24; omega) ?_); intro t' tk'; (try dsimp only)) | ((with_reducible show wpAny _ _ (truthy (Value.str (S _) _)) _ _ _); (first | refine k_truthy true (by omega) (by assumption) ?_ | refine k_truthy false (by omega) (by assumption) ?_); intro tk'; (try dsimp only)) | ((with_reducible show wpAny _ _ (call (Value.builtin "re.Pattern.search") _) _ _ _); (first | (refine' k_search_yes ?zqF ?zqN ?zqP ?zqz ?zqEn ?zqbe ?_; (case zqF => k_asm); (case zqN => k_asm); (case zqP => assumption); (case zqz => omega); (case zqEn => assumption); (case zqbe => omega); intro M' P' oM' oP' h' I' F' N' l' l2'; (try k_lt l'); k_lt2 l2'; (try dsimp only)) | (refine' k_search_no ?zqF ?zqP ?zqz ?zqEn ?_; (case zqF => k_asm); (case zqP => assumption); (case zqz => omega); (case zqEn => assumption); (try dsimp only)))) | ((with_reducible show wpAny _ _ (getMethod (Value.ref _) _ _) _ _ _); (first | (refine' k_getMethod_pat ?zqF ?zqM slot_re_Pattern_search type_re_Pattern_search ?_; (case zqF => k_asm); (case zqM => assumption)) | (refine' k_getMethod_pat ?zqF ?zqM slot_re_Pattern_sub type_re_Pattern_sub ?_; (case zqF => k_asm); (case zqM => assumption)) | (refine' k_getMethod_pat ?zqF ?zqM slot_re_Pattern_subn type_re_Pattern_subn ?_; (case zqF => k_asm); (case zqM => assumption)) | (refine' k_getMethod_mat ?zqI ?zqN ?zqh1 ?zqh2 slot_re_Match_group type_re_Match_group ?_; (case zqI => assumption); (case zqN => k_asm); (case zqh1 => k_mem); (case zqh2 => k_mem))))) | walk1 | (dsimp only; walk1)))
          rename Fr _ _ _ _ => F'
          rename News _ _ _ _ => N'
          exact ⟨_, _, _, _, _, rfl, F', fun p hp => N' p (.tail _ hp), by omega, SInv.of hst' (by omega) hps hrs TB₁ Sp rfl rfl rfl⟩
        · obtain ⟨kv, r', rfl⟩ : ∃ kv r', row = kv :: r' := by
            have := (hgood row (by rw [e]; simp)).1
            cases row with
            | nil => exact absurd rfl this
            | cons kv r' => exact ⟨kv, r', rfl⟩
          have hm : midR [] ((kv :: r') :: rws') = 44 :: 32 :: (itemT kv ++ midR r' rws') := by rw [← rowT_cons]; rfl
          have g1 := comma_facts (t := 32 :: (itemT kv ++ midR r' rws')) (by rw [hm] at hTl; omega)
          have hst' : SSt full ([32] ++ (itemT kv ++ midR r' rws')) [] (dn ++ [cur]) := .item (cur := []) (.inr rfl) (by rw [e]; simp)
          have hd2 : (midR [] ((kv :: r') :: rws')).drop 1 = [32] ++ (itemT kv ++ midR r' rws') := by rw [hm]; rfl
          have hml : ([32] ++ (itemT kv ++ midR r' rws')).length + 1 = (midR [] ((kv :: r') :: rws')).length := by rw [hm]; rfl
          have htrue : (midR [] ((kv :: r') :: rws')).isEmpty = !true := by rw [hm]; rfl
          have hls : Txt.lstrip (S (midR [] ((kv :: r') :: rws'))) = S (midR [] ((kv :: r') :: rws')) := by rw [hm]; exact S_lstrip (by decide)
          have hsw : Txt.startswith (S (midR [] ((kv :: r') :: rws'))) (Str.ofString ",") = true := by rw [hm, S_starts]; rfl
          rw [← hm] at g1
          generalize midR [] ((kv :: r') :: rws') = T at *
          generalize [32] ++ (itemT kv ++ midR r' rws') = T1 at *
          show wpAny _ _ _ _ _ _
          try k_fold
          (repeat' ((fail_if_success (with_reducible show wpAny _ _ (exec (Stmt.For _ _ _ _ _) _) _ _ _)); (fail_if_success (with_reducible show wpAny _ _ (exec (Stmt.While _ _ _ _) _) _ _ _)); first | (k_unfold; (try dsimp only)) | ((with_reducible show wpAny _ _ (exec _ _) _ _ _); k_fold) | (first | ((with_reducible show wpAny _ _ (subscriptTail _ (Expr.Slice (some _) none none _) (Value.str (S _) _) _) _ _ _); (refine k_slice_from' (s := ⟨_, _, _, _, _⟩) (b := 1) (by k_asm) (by k_asm) rfl (by omega) (by omega) (by assumption) ?_); intro h' t' k' F' N'; (try dsimp only)) | ((with_reducible show wpAny _ _ (call (Value.builtin "str.startswith") [Value.str (S _) _, Value.str _ _]) _ _ _); (refine k_starts (by assumption) ?_); (try dsimp only)) | ((with_reducible show wpAny _ _ (call (Value.builtin "str.lstrip") [Value.str _ _]) _ _ _); (refine KXw.lstrip (by assumption) (by rw [S_len]; show _ ≤ 2 ^ 24; omega) ?_); intro t' tk'; (try dsimp only)) | ((with_reducible show wpAny _ _ (truthy (Value.ref _)) _ _ _); (first | ((refine k_truthy_list true (by k_asm) (by k_mem) (by omega) (by assumption) ?_); intro tk') | ((refine k_truthy_list false (by k_asm) (by k_mem) (by omega) (by assumption) ?_); intro tk') | (refine' k_truthy_match ?zqN ?zqM ?zqc ?_; (case zqN => k_asm); (case zqM => k_mem); (case zqc => exact IsMat.cls (by assumption)))); (try dsimp only)) | ((with_reducible show wpAny _ _ (truthy (Value.str (S _) _)) _ _ _); (first | refine k_truthy true (by omega) (by assumption) ?_ | refine k_truthy false (by omega) (by assumption) ?_); intro tk'; (try dsimp only)) | ((with_reducible show wpAny _ _ (call (Value.builtin "list.append") [Value.ref _, _]) _ _ _); (refine' k_append ?zqF ?zqN ?zqU ?zqz ?_; (case zqF => k_asm); (case zqN => k_asm); (case zqU => (first | ((repeat (first | (refine' Upd.head ?zqb; (case zqb => ((repeat (first | assumption | exact (Sep.grow (by assumption) (by assumption)).sP | (refine' List.forall_mem_cons.mpr ⟨?zqc, ?_⟩; (case zqc => k_ne)))); done))) | (refine' Upd.tail ?zqa ?_; (case zqa => first | assumption | k_ne); rotate_left))); done) | k_upd)); (case zqz => omega)); intro h' F' N'; (try dsimp only)) | ((with_reducible show wpAny _ _ (call (Value.builtin "re.Pattern.search") _) _ _ _); (first | (refine' k_search_yes ?zqF ?zqN ?zqP ?zqz ?zqEn ?zqbe ?_; (case zqF => k_asm); (case zqN => k_asm); (case zqP => assumption); (case zqz => omega); (case zqEn => assumption); (case zqbe => omega); intro M' P' oM' oP' h' I' F' N' l' l2'; (try k_lt l'); k_lt2 l2'; (try dsimp only)) | (refine' k_search_no ?zqF ?zqP ?zqz ?zqEn ?_; (case zqF => k_asm); (case zqP => assumption); (case zqz => omega); (case zqEn => assumption); (try dsimp only)))) | ((with_reducible show wpAny _ _ (getMethod (Value.ref _) _ _) _ _ _); (first | (refine' k_getMethod_pat ?zqF ?zqM slot_re_Pattern_search type_re_Pattern_search ?_; (case zqF => k_asm); (case zqM => assumption)) | (refine' k_getMethod_pat ?zqF ?zqM slot_re_Pattern_sub type_re_Pattern_sub ?_; (case zqF => k_asm); (case zqM => assumption)) | (refine' k_getMethod_pat ?zqF ?zqM slot_re_Pattern_subn type_re_Pattern_subn ?_; (case zqF => k_asm); (case zqM => assumption)) | (refine' k_getMethod_mat ?zqI ?zqN ?zqh1 ?zqh2 slot_re_Match_group type_re_Match_group ?_; (case zqI => assumption); (case zqN => k_asm); (case zqh1 => k_mem); (case zqh2 => k_mem))))) | walk1 | (dsimp only; walk1)))
          rename Fr _ _ _ _ => F'
          rename News _ _ _ _ => N'
          rename (_ ∧ _ ∧ _ ∧ AllLt _ _) => lD
          rename_i D _ _ _ _ _
          exact ⟨_, _, _, _, _, rfl, F', fun p hp => N' p (led0 p hp), by omega, SInv.of (ps := []) (rs := rs ++ [.ref P]) (n2 := n2 + 1) (G := (P, W.listOf ps.toArray n1) :: G) hst' (by omega) .nil (by rw [← List.append_assoc]; exact both_row hrs hps) TB₁ (Sp.row lD.2.1 lD.2.2.1 lD.1 lD.2.2.2) rfl rfl rfl⟩
      | item hs e =>
        rename_i sp kv r rws
        obtain ⟨k, ov⟩ := kv
        have hgk : GoodKV (k, ov) := (hgood (cur ++ (k, ov) :: r) (by rw [e]; simp)).2 (k, ov) (by simp)
        have hsk : SmallKV (k, ov) := (hsmall.2 (cur ++ (k, ov) :: r) (by rw [e]; simp)).2 (k, ov) (by simp)
        have hcl : cur.length ≤ 10 := by
          have := (hsmall.2 (cur ++ (k, ov) :: r) (by rw [e]; simp)).1
          rw [List.length_append] at this; omega
        cases ov with
        | some v =>
          have hvl : v.length ≤ 10 := hsk.2 v rfl
          cases hbv : bareV v with
          | true =>
            have hi0 : itemT (k, some v) = k ++ 61 :: v := by
              show k ++ 61 :: (if bareV v then v else 34 :: escL v ++ [34]) = _
              rw [hbv]; rfl
            have hi1 : itemT (k, some v) ++ midR r rws = k ++ (61 :: (v ++ midR r rws)) := by rw [hi0]; simp
            rw [hi1] at F₂ hTl ⊢
            have hq0 : 61 :: (v ++ midR r rws) = 61 :: (v ++ midR r rws) := rfl
            obtain ⟨b1, e1, hnd1, f1, f2, f3, f4, f5, f6⟩ := name_facts (sp := sp) (k := k) (rest := 61 :: (v ++ midR r rws)) hs hgk (fun c t e => by rw [← (List.cons.inj e).1]; decide) (by omega)
            have hml : (61 :: (v ++ midR r rws)).length + 1 ≤ (sp ++ (k ++ (61 :: (v ++ midR r rws)))).length := by
              have := congrArg List.length f4
              rw [List.length_drop] at this; omega
            obtain ⟨g1, hnd2, e2, g2, g3, g4, g5, g6⟩ := bare_facts (v := v) (r := r) (rs := rws) hbv (by omega)
            have hml2 : (midR r rws).length + 1 ≤ (61 :: (v ++ midR r rws)).length := by simp only [List.length_cons, List.length_append]; omega
            have hst' : SSt full (midR r rws) (cur ++ [(k, some v)]) dn := .mid (by simp) (by rw [e]; simp)
            have htrue : (sp ++ (k ++ (61 :: (v ++ midR r rws)))).isEmpty = !true := by
              cases h : sp ++ (k ++ (61 :: (v ++ midR r rws))) with
              | nil => rw [h] at hml; simp at hml
              | cons _ _ => rfl
            have hrs0 : Txt.rstrip (S v) = S v := S_rstrip fun c hc => by
              have : (!v.isEmpty && v.all isTok) = true := hbv
              rw [Bool.and_eq_true] at this
              have h3 : ∀ c ∈ v, isTok c = true := by simpa using this.2
              exact (tok_facts (h3 c hc)).2.1
            clear hq0 hi0 hi1
            generalize sp ++ (k ++ (61 :: (v ++ midR r rws))) = T at *
            generalize 61 :: (v ++ midR r rws) = T2 at *
            generalize midR r rws = T1 at *
            show wpAny _ _ _ _ _ _
            try k_fold
            (repeat' ((fail_if_success (with_reducible show wpAny _ _ (exec (Stmt.For _ _ _ _ _) _) _ _ _)); (fail_if_success (with_reducible show wpAny _ _ (exec (Stmt.While _ _ _ _) _) _ _ _)); first | (k_unfold; (try dsimp only)) | ((with_reducible show wpAny _ _ (exec _ _) _ _ _); k_fold) | (first | ((with_reducible show wpAny _ _ (call (Value.builtin "str.rstrip") [Value.str _ _]) _ _ _); (refine KXw.rstrip (by assumption) (by rw [S_len]; show _ ≤ 2 ^ 24; omega) ?_); intro t' tk'; (try dsimp only)) | ((with_reducible show wpAny _ _ (truthy (Value.ref _)) _ _ _); (first | ((refine k_truthy_list true (by k_asm) (by k_mem) (by omega) (by assumption) ?_); intro tk') | ((refine k_truthy_list false (by k_asm) (by k_mem) (by omega) (by assumption) ?_); intro tk') | (refine' k_truthy_match ?zqN ?zqM ?zqc ?_; (case zqN => k_asm); (case zqM => k_mem); (case zqc => exact IsMat.cls (by assumption)))); (try dsimp only)) | ((with_reducible show wpAny _ _ (truthy (Value.str (S _) _)) _ _ _); (first | refine k_truthy true (by omega) (by assumption) ?_ | refine k_truthy false (by omega) (by assumption) ?_); intro tk'; (try dsimp only)) | ((with_reducible show wpAny _ _ (call (Value.builtin "list.append") [Value.ref _, _]) _ _ _); (refine' k_append ?zqF ?zqN ?zqU ?zqz ?_; (case zqF => k_asm); (case zqN => k_asm); (case zqU => (first | ((repeat (first | (refine' Upd.head ?zqb; (case zqb => ((repeat (first | assumption | exact (Sep.grow (by assumption) (by assumption)).sP | (refine' List.forall_mem_cons.mpr ⟨?zqc, ?_⟩; (case zqc => k_ne)))); done))) | (refine' Upd.tail ?zqa ?_; (case zqa => first | assumption | k_ne); rotate_left))); done) | k_upd)); (case zqz => omega)); intro h' F' N'; (try dsimp only)) | ((with_reducible show wpAny _ _ (call (Value.ref 43) [Value.ref _]) _ _ _); (refine' k_unmatched' ?zqF ?zqN ?zqX ?zqT ?zqr ?zqI ?zqh1 ?zqh2 ?zqz ?zqg ?zqhh ?_; (case zqI => assumption); (case zqF => k_asm); (case zqN => k_asm); (case zqX => assumption); (case zqT => assumption); (case zqr => assumption); (case zqh1 => k_mem); (case zqh2 => k_mem); (case zqz => omega); (case zqg => assumption); (case zqhh => assumption)); intro h' tk' t' F' N'; (try dsimp only)) | ((with_reducible show wpAny _ _ (call (Value.builtin "re.Match.group") _) _ _ _); (refine' k_group1' ?zqI ?zqN ?zqh1 ?zqh2 ?zqz ?zqg ?_; (case zqI => assumption); (case zqN => k_asm); (case zqh1 => k_mem); (case zqh2 => k_mem); (case zqz => omega); (case zqg => assumption)); intro t' tk'; (try dsimp only)) | ((with_reducible show wpAny _ _ (call (Value.builtin "re.Pattern.search") _) _ _ _); (first | (refine' k_search_yes ?zqF ?zqN ?zqP ?zqz ?zqEn ?zqbe ?_; (case zqF => k_asm); (case zqN => k_asm); (case zqP => assumption); (case zqz => omega); (case zqEn => assumption); (case zqbe => omega); intro M' P' oM' oP' h' I' F' N' l' l2'; (try k_lt l'); k_lt2 l2'; (try dsimp only)) | (refine' k_search_no ?zqF ?zqP ?zqz ?zqEn ?_; (case zqF => k_asm); (case zqP => assumption); (case zqz => omega); (case zqEn => assumption); (try dsimp only)))) | ((with_reducible show wpAny _ _ (getMethod (Value.ref _) _ _) _ _ _); (first | (refine' k_getMethod_pat ?zqF ?zqM slot_re_Pattern_search type_re_Pattern_search ?_; (case zqF => k_asm); (case zqM => assumption)) | (refine' k_getMethod_pat ?zqF ?zqM slot_re_Pattern_sub type_re_Pattern_sub ?_; (case zqF => k_asm); (case zqM => assumption)) | (refine' k_getMethod_pat ?zqF ?zqM slot_re_Pattern_subn type_re_Pattern_subn ?_; (case zqF => k_asm); (case zqM => assumption)) | (refine' k_getMethod_mat ?zqI ?zqN ?zqh1 ?zqh2 slot_re_Match_group type_re_Match_group ?_; (case zqI => assumption); (case zqN => k_asm); (case zqh1 => k_mem); (case zqh2 => k_mem))))) | walk1 | (dsimp only; walk1)))
            rename Fr _ _ _ _ => F'
            rename News _ _ _ _ => N'
            rename (_ ∧ _ ∧ _ ∧ _ ∧ _ ∧ _ ∧ _ ∧ AllLt _ _) => lD
            exact ⟨_, _, _, _, _, rfl, F', fun p hp => N' p (led2 p hp), by omega, SInv.of hst' (by omega) (both_pair hps ⟨_, rfl⟩) (both_rows hrs) TB₁ (Sp.pair lD.2.2.2.2.1 lD.2.2.2.2.2.1 lD.2.2.2.2.2.2.1 lD.2.2.2.2.2.2.2) rfl rfl rfl⟩
          | false =>
            have hi0 : itemT (k, some v) = k ++ 61 :: (34 :: escL v ++ [34]) := by
              show k ++ 61 :: (if bareV v then v else 34 :: escL v ++ [34]) = _
              rw [hbv]; rfl
            have hi1 : itemT (k, some v) ++ midR r rws = k ++ (61 :: 34 :: (escL v ++ 34 :: midR r rws)) := by rw [hi0]; simp
            rw [hi1] at F₂ hTl ⊢
            obtain ⟨b1, e1, hnd1, f1, f2, f3, f4, f5, f6⟩ := name_facts (sp := sp) (k := k) (rest := 61 :: 34 :: (escL v ++ 34 :: midR r rws)) hs hgk (fun c t e => by rw [← (List.cons.inj e).1]; decide) (by omega)
            have hml : (61 :: 34 :: (escL v ++ 34 :: midR r rws)).length + 1 ≤ (sp ++ (k ++ (61 :: 34 :: (escL v ++ 34 :: midR r rws)))).length := by
              have := congrArg List.length f4
              rw [List.length_drop] at this; omega
            obtain ⟨li2, hnd2, e2, g2, g3, g4, g5, g6⟩ := quot_facts (v := v) (rest := midR r rws) (by omega)
            have hml2 : (midR r rws).length + 1 ≤ (61 :: 34 :: (escL v ++ 34 :: midR r rws)).length := by simp only [List.length_cons, List.length_append]; omega
            have hevl : (escL v).length ≤ 20 := by
              have := escF_len (f := isEsc) v
              rw [← escL_eq] at this; omega
            obtain ⟨qs, q1, q2, q3⟩ := unesc_facts (v := v) (by omega)
            have q4 : qs.length ≤ 21 := by omega
            have q5 : qs.flatten.length ≤ 10 := by rw [q2]; exact hvl
            have hst' : SSt full (midR r rws) (cur ++ [(k, some qs.flatten)]) dn := .mid (by simp) (by rw [e, q2]; simp)
            have htrue : (sp ++ (k ++ (61 :: 34 :: (escL v ++ 34 :: midR r rws)))).isEmpty = !true := by
              cases h : sp ++ (k ++ (61 :: 34 :: (escL v ++ 34 :: midR r rws))) with
              | nil => rw [h] at hml; simp at hml
              | cons _ _ => rfl
            clear hi0 hi1
            generalize sp ++ (k ++ (61 :: 34 :: (escL v ++ 34 :: midR r rws))) = T at *
            generalize 61 :: 34 :: (escL v ++ 34 :: midR r rws) = T2 at *
            generalize midR r rws = T1 at *
            generalize escL v = ev at *
            show wpAny _ _ _ _ _ _
            try k_fold
            (repeat' ((fail_if_success (with_reducible show wpAny _ _ (exec (Stmt.For _ _ _ _ _) _) _ _ _)); (fail_if_success (with_reducible show wpAny _ _ (exec (Stmt.While _ _ _ _) _) _ _ _)); first | (k_unfold; (try dsimp only)) | ((with_reducible show wpAny _ _ (exec _ _) _ _ _); k_fold) | (first | ((with_reducible show wpAny _ _ (call (Value.builtin "re.Pattern.sub") _) _ _ _); (refine' k_sub ?zqF ?zqN ?zqP ?zqg ?zqz ?zqhf ?zqhfc ?zqcb ?zqhr ?zqn ?zqsz ?_; (case zqF => k_asm); (case zqN => k_asm); (case zqP => assumption); (case zqg => decide); (case zqz => omega); (case zqhf => k_mem); (case zqhfc => exact rfl); (case zqhr => assumption); (case zqn => omega); (case zqsz => omega); (case zqcb => (refine' lam_cb65 ?zqX ?zqT ?zqroom ?zqzz ?zqho ?zqhcd; (case zqX => exact Frag.In.keeps (by assumption) (Fr.keep (by assumption))); (case zqT => exact Top.keeps (by assumption) (Fr.keep (by assumption))); (case zqroom => assumption); (case zqzz => omega); (case zqho => exact news_get (by k_asm) (by k_mem)); (case zqhcd => exact codeRec_news (by k_asm) (by repeat (first | assumption | apply List.Mem.tail | apply List.mem_append_right)) (by assumption) (by assumption))))); intro h' tk' t' F' N'; (try dsimp only)) | ((with_reducible show wpAny _ _ (eval (Expr.Lambda _ _ _ _) _) _ _ _); (refine' k_lambda ?zqF ?zqN ?zqTB (Endg.cons (Endg.cons (Endg.cons (Endg.cons (Endg.cons (Endg.cons (Endg.cons (endg_app _)))))))) (.inl ⟨rfl, rfl⟩) ?zqsep ?zqT ?zqC ?zqcd ?zqdf ?zqql ?zqqq ?zqcl ?_; (case zqF => k_asm); (case zqN => k_asm); (case zqTB => assumption); (case zqsep => exact sep7 (by assumption) (by assumption) (by assumption) (by assumption) (by assumption)); (case zqT => k_asm); (case zqcd => exact rfl); (case zqC => kn_code); (case zqdf => exact rfl); (case zqqq => exact rfl); (case zqql => exact rfl); (case zqcl => exact rfl)); intro f' c' oc' vs' t' ct' TL' h' tk' F' N' TB' sep' hm' hd' hv' l'; (try dsimp only [List.cons_append, List.nil_append] at N' sep' l'); (try k_lt l'); (try dsimp only)) | ((with_reducible show wpAny _ _ (truthy (Value.ref _)) _ _ _); (first | ((refine k_truthy_list true (by k_asm) (by k_mem) (by omega) (by assumption) ?_); intro tk') | ((refine k_truthy_list false (by k_asm) (by k_mem) (by omega) (by assumption) ?_); intro tk') | (refine' k_truthy_match ?zqN ?zqM ?zqc ?_; (case zqN => k_asm); (case zqM => k_mem); (case zqc => exact IsMat.cls (by assumption)))); (try dsimp only)) | ((with_reducible show wpAny _ _ (truthy (Value.str (S _) _)) _ _ _); (first | refine k_truthy true (by omega) (by assumption) ?_ | refine k_truthy false (by omega) (by assumption) ?_); intro tk'; (try dsimp only)) | ((with_reducible show wpAny _ _ (call (Value.builtin "list.append") [Value.ref _, _]) _ _ _); (refine' k_append ?zqF ?zqN ?zqU ?zqz ?_; (case zqF => k_asm); (case zqN => k_asm); (case zqU => (first | ((repeat (first | (refine' Upd.head ?zqb; (case zqb => ((repeat (first | assumption | exact (Sep.grow (by assumption) (by assumption)).sP | (refine' List.forall_mem_cons.mpr ⟨?zqc, ?_⟩; (case zqc => k_ne)))); done))) | (refine' Upd.tail ?zqa ?_; (case zqa => first | assumption | k_ne); rotate_left))); done) | k_upd)); (case zqz => omega)); intro h' F' N'; (try dsimp only)) | ((with_reducible show wpAny _ _ (call (Value.ref 43) [Value.ref _]) _ _ _); (refine' k_unmatched' ?zqF ?zqN ?zqX ?zqT ?zqr ?zqI ?zqh1 ?zqh2 ?zqz ?zqg ?zqhh ?_; (case zqI => assumption); (case zqF => k_asm); (case zqN => k_asm); (case zqX => assumption); (case zqT => assumption); (case zqr => assumption); (case zqh1 => k_mem); (case zqh2 => k_mem); (case zqz => omega); (case zqg => assumption); (case zqhh => assumption)); intro h' tk' t' F' N'; (try dsimp only)) | ((with_reducible show wpAny _ _ (call (Value.builtin "re.Match.group") _) _ _ _); (refine' k_group1' ?zqI ?zqN ?zqh1 ?zqh2 ?zqz ?zqg ?_; (case zqI => assumption); (case zqN => k_asm); (case zqh1 => k_mem); (case zqh2 => k_mem); (case zqz => omega); (case zqg => assumption)); intro t' tk'; (try dsimp only)) | ((with_reducible show wpAny _ _ (call (Value.builtin "re.Pattern.search") _) _ _ _); (first | (refine' k_search_yes ?zqF ?zqN ?zqP ?zqz ?zqEn ?zqbe ?_; (case zqF => k_asm); (case zqN => k_asm); (case zqP => assumption); (case zqz => omega); (case zqEn => assumption); (case zqbe => omega); intro M' P' oM' oP' h' I' F' N' l' l2'; (try k_lt l'); k_lt2 l2'; (try dsimp only)) | (refine' k_search_no ?zqF ?zqP ?zqz ?zqEn ?_; (case zqF => k_asm); (case zqP => assumption); (case zqz => omega); (case zqEn => assumption); (try dsimp only)))) | ((with_reducible show wpAny _ _ (getMethod (Value.ref _) _ _) _ _ _); (first | (refine' k_getMethod_pat ?zqF ?zqM slot_re_Pattern_search type_re_Pattern_search ?_; (case zqF => k_asm); (case zqM => assumption)) | (refine' k_getMethod_pat ?zqF ?zqM slot_re_Pattern_sub type_re_Pattern_sub ?_; (case zqF => k_asm); (case zqM => assumption)) | (refine' k_getMethod_pat ?zqF ?zqM slot_re_Pattern_subn type_re_Pattern_subn ?_; (case zqF => k_asm); (case zqM => assumption)) | (refine' k_getMethod_mat ?zqI ?zqN ?zqh1 ?zqh2 slot_re_Match_group type_re_Match_group ?_; (case zqI => assumption); (case zqN => k_asm); (case zqh1 => k_mem); (case zqh2 => k_mem))))) | walk1 | (dsimp only; walk1)))
            rename Fr _ _ _ _ => F'
            rename News _ _ _ _ => N'
            rename (_ ∧ _ ∧ _ ∧ _ ∧ _ ∧ _ ∧ _ ∧ _ ∧ AllLt _ _) => lD
            rename Tabs _ => TB3
            have Sp3 : Sep P I Rr G _ := Sep.grow Sp (by assumption)
            exact ⟨_, _, _, _, _, rfl, F', fun p hp => N' p (led3 p hp), by omega, SInv.of hst' (by omega) (both_pair hps ⟨_, rfl⟩) (both_rows hrs) TB3 (Sp3.pair lD.2.2.2.2.2.1 lD.2.2.2.2.2.2.1 lD.2.2.2.2.2.2.2.1 lD.2.2.2.2.2.2.2.2) rfl rfl rfl⟩
        | none =>
          have hi0 : itemT (k, none) = k := rfl
          rw [hi0] at F₂ hTl ⊢
          obtain ⟨b1, e1, hnd1, f1, f2, f3, f4, f5, f6⟩ := name_facts (sp := sp) (k := k) (rest := midR r rws) hs hgk (fun c t e => (midR_inName c t e).1) (by omega)
          obtain ⟨g1, g2⟩ := none_facts (r := r) (rs := rws) (by simp only [List.length_append] at hTl; omega)
          have hml : (midR r rws).length + 1 ≤ (sp ++ (k ++ midR r rws)).length := by
            have := congrArg List.length f4
            rw [List.length_drop] at this; omega
          have hst' : SSt full (midR r rws) (cur ++ [(k, none)]) dn := .mid (by simp) (by rw [e]; simp)
          have htrue : (sp ++ (k ++ midR r rws)).isEmpty = !true := by
            cases h : sp ++ (k ++ midR r rws) with
            | nil => rw [h] at hml; simp at hml
            | cons _ _ => rfl
          generalize sp ++ (k ++ midR r rws) = T at *
          generalize midR r rws = T1 at *
          show wpAny _ _ _ _ _ _
          try k_fold
          (repeat' ((fail_if_success (with_reducible show wpAny _ _ (exec (Stmt.For _ _ _ _ _) _) _ _ _)); (fail_if_success (with_reducible show wpAny _ _ (exec (Stmt.While _ _ _ _) _) _ _ _)); first | (k_unfold; (try dsimp only)) | ((with_reducible show wpAny _ _ (exec _ _) _ _ _); k_fold) | (first | ((with_reducible show wpAny _ _ (truthy (Value.ref _)) _ _ _); (first | ((refine k_truthy_list true (by k_asm) (by k_mem) (by omega) (by assumption) ?_); intro tk') | ((refine k_truthy_list false (by k_asm) (by k_mem) (by omega) (by assumption) ?_); intro tk') | (refine' k_truthy_match ?zqN ?zqM ?zqc ?_; (case zqN => k_asm); (case zqM => k_mem); (case zqc => exact IsMat.cls (by assumption)))); (try dsimp only)) | ((with_reducible show wpAny _ _ (truthy (Value.str (S _) _)) _ _ _); (first | refine k_truthy true (by omega) (by assumption) ?_ | refine k_truthy false (by omega) (by assumption) ?_); intro tk'; (try dsimp only)) | ((with_reducible show wpAny _ _ (call (Value.builtin "list.append") [Value.ref _, _]) _ _ _); (refine' k_append ?zqF ?zqN ?zqU ?zqz ?_; (case zqF => k_asm); (case zqN => k_asm); (case zqU => (first | ((repeat (first | (refine' Upd.head ?zqb; (case zqb => ((repeat (first | assumption | exact (Sep.grow (by assumption) (by assumption)).sP | (refine' List.forall_mem_cons.mpr ⟨?zqc, ?_⟩; (case zqc => k_ne)))); done))) | (refine' Upd.tail ?zqa ?_; (case zqa => first | assumption | k_ne); rotate_left))); done) | k_upd)); (case zqz => omega)); intro h' F' N'; (try dsimp only)) | ((with_reducible show wpAny _ _ (call (Value.ref 43) [Value.ref _]) _ _ _); (refine' k_unmatched' ?zqF ?zqN ?zqX ?zqT ?zqr ?zqI ?zqh1 ?zqh2 ?zqz ?zqg ?zqhh ?_; (case zqI => assumption); (case zqF => k_asm); (case zqN => k_asm); (case zqX => assumption); (case zqT => assumption); (case zqr => assumption); (case zqh1 => k_mem); (case zqh2 => k_mem); (case zqz => omega); (case zqg => assumption); (case zqhh => assumption)); intro h' tk' t' F' N'; (try dsimp only)) | ((with_reducible show wpAny _ _ (call (Value.builtin "re.Match.group") _) _ _ _); (refine' k_group1' ?zqI ?zqN ?zqh1 ?zqh2 ?zqz ?zqg ?_; (case zqI => assumption); (case zqN => k_asm); (case zqh1 => k_mem); (case zqh2 => k_mem); (case zqz => omega); (case zqg => assumption)); intro t' tk'; (try dsimp only)) | ((with_reducible show wpAny _ _ (call (Value.builtin "re.Pattern.search") _) _ _ _); (first | (refine' k_search_yes ?zqF ?zqN ?zqP ?zqz ?zqEn ?zqbe ?_; (case zqF => k_asm); (case zqN => k_asm); (case zqP => assumption); (case zqz => omega); (case zqEn => assumption); (case zqbe => omega); intro M' P' oM' oP' h' I' F' N' l' l2'; (try k_lt l'); k_lt2 l2'; (try dsimp only)) | (refine' k_search_no ?zqF ?zqP ?zqz ?zqEn ?_; (case zqF => k_asm); (case zqP => assumption); (case zqz => omega); (case zqEn => assumption); (try dsimp only)))) | ((with_reducible show wpAny _ _ (getMethod (Value.ref _) _ _) _ _ _); (first | (refine' k_getMethod_pat ?zqF ?zqM slot_re_Pattern_search type_re_Pattern_search ?_; (case zqF => k_asm); (case zqM => assumption)) | (refine' k_getMethod_pat ?zqF ?zqM slot_re_Pattern_sub type_re_Pattern_sub ?_; (case zqF => k_asm); (case zqM => assumption)) | (refine' k_getMethod_pat ?zqF ?zqM slot_re_Pattern_subn type_re_Pattern_subn ?_; (case zqF => k_asm); (case zqM => assumption)) | (refine' k_getMethod_mat ?zqI ?zqN ?zqh1 ?zqh2 slot_re_Match_group type_re_Match_group ?_; (case zqI => assumption); (case zqN => k_asm); (case zqh1 => k_mem); (case zqh2 => k_mem))))) | walk1 | (dsimp only; walk1)))
          rename Fr _ _ _ _ => F'
          rename News _ _ _ _ => N'
          rename (_ ∧ _ ∧ _ ∧ _ ∧ _ ∧ AllLt _ _) => lD
          exact ⟨_, _, _, _, _, rfl, F', fun p hp => N' p (led1 p hp), by omega, SInv.of hst' (by omega) (both_pair hps rfl) (both_rows hrs) TB₁ (Sp.pair lD.2.2.1 lD.2.2.2.1 lD.2.2.2.2.1 lD.2.2.2.2.2) rfl rfl rfl⟩
end Mine
end
section
theorem Mine.off_MQ : True := by (w_top off; trivial)
open PySem PySem.W PyProof.Rows PySem.Spec PySem.Calls
set_option Elab.async false
set_option maxRecDepth 100000
namespace Mine
/-- the bound method append of the list a -/
noncomputable abbrev bapp (a : Addr) : Obj := { cls := .type "builtin_function_or_method", data := .fields #[.builtin "list.append", .ref a] }
theorem lk_l_append : typeLookup (.type "list") "append" = pure (some (.builtin "list.append")) := by rw [typeLookup_type, builtinLookup_eq_fast]; kernel_rfl
theorem ty_l_append : typeOf (.builtin "list.append") = pure (.type "method_descriptor") := by show builtinType _ = _; rw [builtinType_eq_fast]; kernel_rfl
theorem slot_md : Slot "method_descriptor" "__get__" "method_descriptor.__get__" :=
  .of (owner := "method_descriptor") (n := "__get__") (by rw [typeLookup_type, builtinLookup_eq_fast]; kernel_rfl) (by decide +kernel) (by decide +kernel) (by decide +kernel)
    (by first | exact .inl (by decide +kernel) | exact .inr (by decide +kernel)) (by rw [isSubtype_type]; kernel_rfl)
theorem entry_md : entryFor table "method_descriptor.__get__" = some Builtin.«method_descriptor.__get__» := entryFor_of_tree (by kernel_rfl)
theorem args_md (a b c : Value) : argsOk "method_descriptor.__get__" ⟨[a, b, c], []⟩ := by unfold argsOk; kernel_rfl
theorem lk_md_set : typeLookup (.type "method_descriptor") "__set__" = pure none := by rw [typeLookup_type, builtinLookup_eq_fast]; kernel_rfl
theorem lk_md_del : typeLookup (.type "method_descriptor") "__delete__" = pure none := by rw [typeLookup_type, builtinLookup_eq_fast]; kernel_rfl
theorem own_l_append : (".".intercalate ("list.append".cutAt '.').dropLast) = "list" := by
  have e0 : "list.append".cutAt '.' = ["list", "append"] := by first | rfl | decide +kernel
  rw [e0]; decide +kernel
theorem sub_l_append : isSubtype (.type "list") (.type (".".intercalate ("list.append".cutAt '.').dropLast)) = pure true := by
  rw [own_l_append, isSubtype_type]; kernel_rfl
section
variable {prog : Program} {w : World} {A : Around} {E : Value → Shared → Prop} {h : Heap} {g : Array GenState} {d : Drawn} {t : Nat} {os : OsState} {a : Addr} {xs : Array Value} {n : Nat}
theorem la_get {R : Result → Shared → Prop} (hx : h.get? a = some (W.listOf xs n)) (hq : R (.ok (.ret (.ref h.objs.size))) ⟨h.push (bapp a), g, d, t, os⟩) :
    codeAny (model prog w) A (.call (.builtin "method_descriptor.__get__") ⟨[.builtin "list.append", .ref a, .type "list"], []⟩) R ⟨h, g, d, t, os⟩ := by
  have hT : (⟨h, g, d, t, os⟩ : Shared).TypeIs (.ref a) "list" := ⟨_, hx, rfl⟩
  have hT5 : (⟨h, g, d, t, os⟩ : Shared).TypeIs (.builtin "list.append") "method_descriptor" := ty_l_append
  have f9 := sub_l_append
  refine codeAny_call_builtin slot_md.plain entry_md (slot_md.check _ _ _ _ _ _ _ _ hT5 (args_md _ _ _) ?_)
  unfold Builtin.«method_descriptor.__get__»
  repeat (any_goals (first | assumption | wp_step))
theorem la_entry {tk : Tok} {Q : Fin → Shared → Prop} (hx : h.get? a = some (W.listOf xs n)) (hq : Q (.done (.ret (.ref h.objs.size))) ⟨h.push (bapp a), g, d, t, os⟩) :
    wpAny (model prog w) A (Builtin.«object.__getattribute__» ⟨[.ref a, .str "append" tk], []⟩) Q E ⟨h, g, d, t, os⟩ := by
  have hT : (⟨h, g, d, t, os⟩ : Shared).TypeIs (.ref a) "list" := ⟨_, hx, rfl⟩
  have hT5 : (⟨h, g, d, t, os⟩ : Shared).TypeIs (.builtin "list.append") "method_descriptor" := ty_l_append
  have f4 := lk_l_append
  have f5 := ty_l_append
  have f6 := slot_md.lookup
  have f7 := lk_md_set
  have f8 := lk_md_del
  unfold Builtin.«object.__getattribute__»
  repeat (any_goals (first | assumption | wp_step))
  refine la_get hx ?_
  repeat (any_goals (first | assumption | wp_step))
theorem la_call {tk : Tok} {R : Result → Shared → Prop} (hx : h.get? a = some (W.listOf xs n)) (hq : R (.ok (.ret (.ref h.objs.size))) ⟨h.push (bapp a), g, d, t, os⟩) :
    codeAny (model prog w) A (.call (.builtin "list.__getattribute__") ⟨[.ref a, .str "append" tk], []⟩) R ⟨h, g, d, t, os⟩ :=
  codeAny_call_builtin F.slot_list_getattribute.plain am_entry_list_getattribute (F.slot_list_getattribute.check _ _ _ _ _ _ _ _ (show (⟨h, g, d, t, os⟩ : Shared).TypeIs (.ref a) "list" from ⟨_, hx, rfl⟩) (F.args_list_getattribute_2 _ _) (la_entry hx hq))
theorem la_by {tk : Tok} {b : Bool} {Q : Value → Shared → Prop} (hx : h.get? a = some (W.listOf xs n)) (hq : Q (.ref h.objs.size) ⟨h.push (bapp a), g, d, t, os⟩) :
    wpAny (model prog w) A (getAttrBy (.ref a) (.str "append" tk) true b) Q E ⟨h, g, d, t, os⟩ := by
  have hT : (⟨h, g, d, t, os⟩ : Shared).TypeIs (.ref a) "list" := ⟨_, hx, rfl⟩
  have f2 := F.slot_list_getattribute.lookup
  have f3 := F.slot_list_getattribute.bind (.ref a)
  unfold getAttrBy
  repeat (any_goals (first | assumption | wp_step))
  rw [show (b && onTheHeap (Value.builtin "list.__getattribute__")) = false from Bool.and_false _, if_neg Bool.false_ne_true]
  unfold boundAndCalled
  refine wpAny_bind ?_
  rw [f3]
  refine wpAny_pure (wpAny_call (la_call hx ?_))
  repeat (any_goals (first | assumption | wp_step))
theorem la_attr {b : Bool} {Q : Value → Shared → Prop} {s : Shared} (hx : s.heap.get? a = some (W.listOf xs n)) (hq : ∀ tk, Q (.ref s.heap.objs.size) { s with heap := s.heap.push (bapp a), toks := tk }) :
    wpAny (model prog w) A (getAttr (.ref a) "append" b) Q E s := by
  unfold getAttr
  exact wpAny_bind (wpAny_mkText (la_by hx (hq _)))
end
section
variable {prog : Program} {w : World} {M : Model} {A : Around} {E : Value → Shared → Prop} {s : Shared} {h₀ : Heap} {L a x : Addr} {m : Str → Option Value} {news news' : List (Addr × Obj)} {xs : Array Value} {n : Nat}
theorem k_bapp {b : Bool} {Q : Value → Shared → Prop} (F : Fr h₀ L s.heap m) (N : News h₀ L s.heap news) (hm : (a, W.listOf xs n) ∈ news)
    (h : ∀ x h' tk, Fr h₀ L h' m → News h₀ L h' ((x, bapp a) :: news) → (∀ p ∈ news, p.1 < x) → Q (.ref x) { s with heap := h', toks := tk }) :
    wpAny (model prog w) A (getAttr (.ref a) "append" b) Q E s :=
  la_attr (N _ hm).1 fun _ => h _ _ _ (F.push _) (N.push F _) fun p hp => Heap.lt_size (N p hp).1
theorem sub_l_module : isSubtype (.type "list") (.type "module") = pure false := by rw [isSubtype_type]; kernel_rfl
theorem check_la {v : Value} {Q : Unit → Shared → Prop} (hl : s.heap.get? a = some (W.listOf xs n)) (h : Q () s) : wpAny M A (checkBoundCall "list.append" ⟨[.ref a, v], []⟩) Q E s := by
  have hT : s.TypeIs (.ref a) "list" := ⟨_, hl, rfl⟩
  have f1 := sub_l_module
  have f2 : isSubtype (.type "list") (.type "type") = pure false := by rw [isSubtype_type]; kernel_rfl
  unfold checkBoundCall
  repeat (any_goals (first | assumption | wp_step))
theorem quiet_la {as : Args} : (Code.builtin "list.append" as).quiet = true := Code.quiet_builtin _ (by decide +kernel)
/-- a call of the bound append -/
theorem k_callapp {v : Value} {Q : Value → Shared → Prop} (F : Fr h₀ L s.heap m) (N : News h₀ L s.heap news) (hx : (x, bapp a) ∈ news) (U : Upd a (W.listOf xs n) (W.listOf (xs.push v) (n + 1)) news news') (hz : xs.size ≤ sizeLine)
    (h : ∀ h', Fr h₀ L h' m → News h₀ L h' news' → Q .none { s with heap := h' }) :
    wpAny (model prog w) A (call (.ref x) [v]) Q E s := by
  obtain ⟨pre, post, rfl, rfl, ha, hb⟩ := U.split
  have z := N (a, W.listOf xs n) (List.mem_append.mpr (.inr (.head _)))
  refine wpAny_call (codeAny_of_tree ?_)
  show wpAny _ A.in1 (callAny (.ref x) ⟨[v], []⟩) _ _ s
  simp only [callAny]
  refine wpAny_bind (wpAny_load (N _ hx).1 ?_)
  simp only [show (Value.type "builtin_function_or_method" == Value.type "method" || Value.type "builtin_function_or_method" == Value.type "builtin_function_or_method" || Value.type "builtin_function_or_method" == Value.type "method-wrapper") = true by decide, if_true]
  refine KFB.if_so (by decide) ?_
  refine wpAny_bind (check_la (v := v) z.1 ?_)
  refine wpAny_bind (wpAny_pure (wpAny_pure ?_))
  refine ⟨quiet_la, codeAny_builtin entry_list_append ?_⟩
  show wpAny _ _ (updateSeq a (·.push v) >>= fun _ => ret .none) _ _ s
  refine wpAny_bind ?_
  have fin : ∀ h', Heap.SameBut a s.heap h' → h'.get? a = some (W.listOf (xs.push v) (n + 1)) → Q .none { s with heap := h' } := fun h' hs e => h h' (F.change hs z.2.1 z.2.2) (news_set N ha hb hs e)
  refine wpAny_updateSeq z.1 rfl (wpAny_pure (fin _ (Heap.SameBut.update ..) ?_))
  rw [Heap.get?_update_self _ z.1 (by rw [mapSeq_push]; rfl), mapSeq_push]
end
end Mine
end
section
theorem Mine.off_W12a : True := by (w_top off; trivial)
open PySem PySem.W PyProof.Rows PySem.Spec PySem.Calls
set_option Elab.async false
set_option maxRecDepth 100000
namespace Mine
/-- the end of a turn that may also have made generators -/
noncomputable def WhileStepG (h₀ : Heap) (L : Addr) (s : Shared) (J : Nat → (Str → Option Value) → List (Addr × Obj) → Array GenState → Prop) (Q : Flow → Shared → Prop) (n : Nat) (f : Flow) (s₃ : Shared) : Prop :=
  match f with
  | .next | .cont => ∃ h' tk g' m₂ news₂ n', s₃ = { s with heap := h', toks := tk, gens := g' } ∧ Fr h₀ L h' m₂ ∧ News h₀ L h' news₂ ∧ n' < n ∧ J n' m₂ news₂ g'
  | .brk => Q .next s₃
  | .ret v => Q (.ret v) s₃
section
variable {prog : Program} {w : World} {A : Around} {E : Value → Shared → Prop} {Q : Flow → Shared → Prop} {s : Shared} {env : Env} {h₀ : Heap} {L : Addr}
theorem While_invG {test : Expr} {body : List Stmt} {pos : Pos} {m : Str → Option Value} {news : List (Addr × Obj)} (J : Nat → (Str → Option Value) → List (Addr × Obj) → Array GenState → Prop) {n₀ : Nat}
    (F : Fr h₀ L s.heap m) (N : News h₀ L s.heap news) (hJ : J n₀ m news s.gens)
    (turn : ∀ n m₁ news₁ h₁ tk₁ g₁, Fr h₀ L h₁ m₁ → News h₀ L h₁ news₁ → J n m₁ news₁ g₁ →
      wpAny (model prog w) A (isTrue test env (eval test env)) (fun b s₂ =>
        if b = true then wpAny (model prog w) A (execs body env) (WhileStepG h₀ L s J Q n) E s₂ else Q .next s₂) E { s with heap := h₁, toks := tk₁, gens := g₁ })
    (hE : PassesOwn (model prog w) A env E := by passes_own) :
    wpAny (model prog w) A (exec (.While test body [] pos) env) Q E s := by
  refine wpAny_While (codeAny_whileLoop (fun n s' => ∃ h₁ tk₁ g₁ m₁ news₁, s' = { s with heap := h₁, toks := tk₁, gens := g₁ } ∧ Fr h₀ L h₁ m₁ ∧ News h₀ L h₁ news₁ ∧ J n m₁ news₁ g₁) ?_ n₀ ⟨s.heap, s.toks, s.gens, m, news, rfl, F, N, hJ⟩)
  rintro n s' ⟨h₁, tk₁, g₁, m₁, news₁, rfl, F₁, N₁, J₁⟩
  refine wpAny_mono (turn n m₁ news₁ h₁ tk₁ g₁ F₁ N₁ J₁) (fun b s₂ h₂ => ?_) hE
  cases b with
  | false =>
    simp only [Bool.false_eq_true, if_false] at h₂ ⊢
    exact wpAny_execs_nil h₂
  | true =>
    simp only [if_true] at h₂ ⊢
    refine wpAny_mono h₂ (fun f s₃ h₃ => ?_) hE
    cases f with
    | next =>
      obtain ⟨h', tk, g', m₂, news₂, n', rfl, F₂, N₂, hn, J₂⟩ := h₃
      exact ⟨n', hn, h', tk, g', m₂, news₂, rfl, F₂, N₂, J₂⟩
    | cont =>
      obtain ⟨h', tk, g', m₂, news₂, n', rfl, F₂, N₂, hn, J₂⟩ := h₃
      exact ⟨n', hn, h', tk, g', m₂, news₂, rfl, F₂, N₂, J₂⟩
    | brk => exact h₃
    | ret v => exact h₃
end
/-- the glob's set, its copies, what the translation makes of it -/
def Z : List Nat := [91, 45, 33, 35, 36, 37, 38, 39, 42, 43, 46, 94, 95, 96, 124, 126, 48, 45, 57, 65, 45, 90, 97, 45, 122, 93]
def reps : Nat → List Nat
  | 0 => []
  | n + 1 => Z ++ reps n
theorem reps_len : ∀ n, (reps n).length = 26 * n
  | 0 => rfl
  | n + 1 => by show (Z ++ reps n).length = _; rw [List.length_append, reps_len n]; show 26 + _ = _; omega
theorem reps_drop : ∀ {t n : Nat}, t ≤ n → (reps n).drop (26 * t) = reps (n - t)
  | 0, n, _ => rfl
  | t + 1, n + 1, h => by
    show (Z ++ reps n).drop (26 * (t + 1)) = reps (n + 1 - (t + 1))
    have e : 26 * (t + 1) = Z.length + 26 * t := by show _ = 26 + _; omega
    rw [e, ← List.drop_drop, List.drop_left' rfl, reps_drop (Nat.le_of_succ_le_succ h), Nat.add_sub_add_right]
theorem reps_at {t n : Nat} (h : t < n) : ∃ r, (reps n).drop (26 * t) = Z ++ r := by
  rw [reps_drop (Nat.le_of_lt h)]
  obtain ⟨k, hk⟩ : ∃ k, n - t = k + 1 := ⟨n - t - 1, by omega⟩
  rw [hk]
  exact ⟨reps k, rfl⟩
theorem reps_get {t n a c : Nat} {i : Int} (h : t < n) (hi : i = 26 * (t : Int) + a) (ha : a < 26) (hc : Z[a]? = some c) : (reps n)[i.toNat]? = some c := by
  obtain ⟨r, hr⟩ := reps_at h
  have e : i.toNat = 26 * t + a := by omega
  rw [e, ← List.getElem?_drop, hr, List.getElem?_append_left (by show a < 26; exact ha), hc]
theorem reps_cut {t n a b : Nat} {v : List Nat} (h : t < n) (hb : b ≤ 26) (hv : (Z.drop a).take (b - a) = v) : ((reps n).drop (26 * t + a)).take (26 * t + b - (26 * t + a)) = v := by
  obtain ⟨r, hr⟩ := reps_at h
  rw [← List.drop_drop, hr, ← hv, show 26 * t + b - (26 * t + a) = b - a by omega]
  by_cases hab : a ≤ b
  · rw [List.drop_append_of_le_length (by show a ≤ 26; omega), List.take_append_of_le_length]
    rw [List.length_drop]; show b - a ≤ 26 - a; omega
  · have : b - a = 0 := by omega
    rw [this, List.take_zero, List.take_zero]
/-- a cut of the copies -/
noncomputable def CutIs (T : List Nat) (i j : Int) (v : List Nat) : Prop := ∃ a b : Nat, i = a ∧ j = b ∧ a ≤ b ∧ b ≤ T.length ∧ (T.drop a).take (b - a) = v
theorem reps_cutIs {t n a b : Nat} {i j : Int} {v : List Nat} (h : t < n) (hi : i = 26 * (t : Int) + a) (hj : j = 26 * (t : Int) + b) (hab : a ≤ b) (hb : b ≤ 26) (hv : (Z.drop a).take (b - a) = v) : CutIs (reps n) i j v :=
  ⟨26 * t + a, 26 * t + b, by omega, by omega, by omega, by rw [reps_len]; omega, reps_cut h hb hv⟩
section
variable {prog : Program} {w : World} {A : Around} {E : Value → Shared → Prop} {s : Shared} {h₀ : Heap} {L : Addr} {m : Str → Option Value} {news : List (Addr × Obj)} {T v : List Nat} {i j : Int} {ui uj t : Tok}
theorem k_cut {value slice : Expr} {Q : Value → Shared → Prop} (F : Fr h₀ L s.heap m) (N : News h₀ L s.heap news) (hc : CutIs T i j v) (hz : T.length ≤ 2 ^ 22)
    (h : ∀ h' t' k, Fr h₀ L h' m → News h₀ L h' news → Q (.str (S v) t') { s with heap := h', toks := k })
    (hs : subscripted slice false (.str (S T) t) (.ref s.heap.objs.size) = operate [.ref s.heap.objs.size, .str (S T) t] (getItem (.str (S T) t) (.ref s.heap.objs.size)) := by with_unfolding_all rfl)
    (hg : ∀ r, letTemporaryGo value (.str (S T) t) r = pure () := by intro _; rfl) :
    wpAny (model prog w) A (subscriptTail value slice (.str (S T) t) (.ref s.heap.objs.size)) Q E { s with heap := s.heap.push { cls := .type "slice", data := .fields #[.int i ui, .int j uj, .none] } } := by
  obtain ⟨a, b, rfl, rfl, hab, hb, rfl⟩ := hc
  refine slice_strN_ss F N (fun h' t' k F' N' => ?_) hs hg (by rw [S_len]; show T.length ≤ 2 ^ 24; omega)
  rw [sliceL_mid hab hb]; exact h h' t' k F' N'
end
/-- txt find of a hyphen -/
theorem allBare_nil : True := trivial
end Mine
end
section
theorem Mine.off_W12b : True := by (w_top off; trivial)
open PySem PySem.W PyProof.Rows PySem.Spec PySem.Calls
set_option Elab.async false
set_option maxRecDepth 100000
namespace Mine
open PySem.Builtin PySem.Builtin.Str in
/-- text.find(sub, lo, hi) -/
noncomputable def find4 (x y : Str) (i j : Int) : Int := match occurrences x y (fromIndex x.length i) (min (fromIndex x.length j) x.length) 1 with | k :: _ => (k : Int) | [] => -1
open PySem.Builtin PySem.Builtin.Str in
theorem gives_find4 (x y : Str) (i j : Int) (t u v v' : Tok) : Gives («str.find» ⟨[.str x t, .str y u, .int i v, .int j v'], []⟩) (.int (find4 x y i j)) := by
  show Gives (match occurrences x y (fromIndex x.length i) (min (fromIndex x.length j) x.length) 1 with | k :: _ => retInt k | [] => (do rule "str.find.not-found"; retInt (-1))) _
  unfold find4
  cases occurrences x y (fromIndex x.length i) (min (fromIndex x.length j) x.length) 1 with
  | nil => exact .rule (.of_eq rfl)
  | cons k _ => exact .of_eq rfl
theorem args_find_4 (a b c d : Value) : argsOk "str.find" ⟨[a, b, c, d], []⟩ := by unfold argsOk; kernel_rfl
theorem k_find4 {prog : Program} {w : World} {A : Around} {E : Value → Shared → Prop} {s : Shared} {x y : Str} {t u v v' : Tok} {i j r : Int} {Q : Value → Shared → Prop} (e : find4 x y i j = r) (hq : ∀ t k, Q (.int r t) { s with toks := k }) :
    wpAny (model prog w) A (call (.builtin "str.find") [.str x t, .str y u, .int i v, .int j v']) Q E s :=
  call_gives F.slot_str_find (typeIs_str _ _ _) F.entry_str_find (args_find_4 _ _ _ _) (gives_find4 x y i j t u v v') (by rw [e]; exact hq _ _)
open PySem.Builtin PySem.Builtin.Str in
theorem occ_skip {s sub : Str} {hi : Nat} : ∀ (l : List Nat) (st : Array Nat × Nat), (∀ i ∈ l, subAt s sub i = false) → (forIn l st (StrLaws.occBody s sub hi 1)).run = st
  | [], st, _ => by simp
  | a :: l, st, h => by
    rw [List.forIn_cons]
    have ha := h a (.head _)
    unfold StrLaws.occBody
    rw [if_neg (by rw [ha]; simp)]
    exact occ_skip l st fun i hi => h i (.tail _ hi)
open PySem.Builtin PySem.Builtin.Str in
theorem occ_full {s sub : Str} {hi : Nat} : ∀ (l : List Nat) (st : Array Nat × Nat), st.1.size = 1 → (forIn l st (StrLaws.occBody s sub hi 1)).run = st
  | [], st, _ => by simp
  | a :: l, st, h => by
    rw [List.forIn_cons]
    unfold StrLaws.occBody
    rw [if_neg (by rw [h]; simp)]
    exact occ_full l st h
open PySem.Builtin PySem.Builtin.Str in
theorem occ_first {s sub : Str} {hi p : Nat} {l2 : List Nat} (hp : p + sub.length ≤ hi) (hs : subAt s sub p = true) : ∀ (l1 : List Nat) (st : Array Nat × Nat), (∀ i ∈ l1, subAt s sub i = false) → st.1 = #[] → st.2 ≤ p → (forIn (l1 ++ p :: l2) st (StrLaws.occBody s sub hi 1)).run.1 = #[p]
  | [], st, _, h1, h2 => by
    rw [List.nil_append, List.forIn_cons]
    unfold StrLaws.occBody
    rw [if_pos (by rw [h1]; exact ⟨⟨⟨by simp, h2⟩, hp⟩, hs⟩)]
    have := occ_full (s := s) (sub := sub) (hi := hi) l2 (st.1.push p, p + sub.length) (by rw [h1]; rfl)
    rw [h1] at this ⊢
    exact congrArg Prod.fst this
  | a :: l1, st, h, h1, h2 => by
    rw [List.cons_append, List.forIn_cons]
    have ha := h a (.head _)
    unfold StrLaws.occBody
    rw [if_neg (by rw [ha]; simp)]
    exact occ_first hp hs l1 st (fun i hi => h i (.tail _ hi)) h1 h2
theorem sub_hyphen {T : List Nat} {i : Nat} (hi : i < T.length) : Builtin.Str.subAt (S T) (Str.ofString "-") i = (T[i]? == some 45) := by
  unfold Builtin.Str.subAt
  have e1 : (Str.ofString "-").length = 1 := rfl
  have e2 : (Str.ofString "-").cps = #[45] := rfl
  rw [e1, e2]
  have e3 : (S T).cps.extract i (i + 1) = #[T[i]] := by
    show T.toArray.extract i (i + 1) = #[T[i]]
    rw [List.extract_toArray]
    congr 1
    rw [List.extract_eq_take_drop, Nat.add_sub_cancel_left, List.drop_eq_getElem_cons hi, List.take_succ_cons, List.take_zero]
  rw [e3, List.getElem?_eq_getElem hi]
  by_cases h : T[i] = 45
  · rw [h]; rfl
  · have : (some T[i] == some 45) = false := by simpa using h
    rw [this, beq_eq_false_iff_ne]
    intro q
    have : [T[i]] = [45] := congrArg Array.toList q
    exact h (List.cons.inj this).1
open PySem.Builtin PySem.Builtin.Str in
theorem find4_at {T : List Nat} {lo hi p : Nat} (h1 : lo ≤ p) (h2 : p < hi) (h3 : hi ≤ T.length) (h4 : ∀ i, lo ≤ i → i < p → T[i]? ≠ some 45) (h5 : T[p]? = some 45) : find4 (S T) (Str.ofString "-") lo hi = p := by
  have hl : (S T).length = T.length := S_len T
  have e1 : fromIndex (S T).length ((lo : Nat) : Int) = lo := by unfold fromIndex; rw [if_neg (by omega)]; omega
  have e2 : fromIndex (S T).length ((hi : Nat) : Int) = hi := by unfold fromIndex; rw [if_neg (by omega)]; omega
  unfold find4
  rw [e1, e2, hl, Nat.min_eq_left h3, StrLaws.occ_eq]
  have hs : List.range' lo (hi + 1 - lo) = List.range' lo (p - lo) ++ p :: List.range' (p + 1) (hi - p) := by
    rw [show hi + 1 - lo = (p - lo) + ((hi - p) + 1) by omega, ← List.range'_append_1, List.range'_succ]
    congr 1
    rw [show lo + (p - lo) = p by omega]
  have k1 := occ_first (s := S T) (sub := Str.ofString "-") (hi := hi) (p := p) (l2 := List.range' (p + 1) (hi - p)) (by show p + 1 ≤ hi; omega) (by rw [sub_hyphen (by omega), h5]; rfl) (List.range' lo (p - lo)) (#[], lo) (fun i hi' => by
    have := List.mem_range'_1.mp hi'
    rw [sub_hyphen (by omega)]
    have h6 := h4 i (by omega) (by omega)
    cases q : T[i]? with
    | none => rfl
    | some c =>
      have : c ≠ 45 := fun e => h6 (by rw [q, e])
      simpa using this) rfl h1
  rw [hs, k1]
open PySem.Builtin PySem.Builtin.Str in
theorem find4_none {T : List Nat} {lo hi : Nat} (h1 : hi < lo) (h3 : hi ≤ T.length) : find4 (S T) (Str.ofString "-") lo hi = -1 := by
  have hl : (S T).length = T.length := S_len T
  have e1 : fromIndex (S T).length ((lo : Nat) : Int) = lo := by unfold fromIndex; rw [if_neg (by omega)]; omega
  have e2 : fromIndex (S T).length ((hi : Nat) : Int) = hi := by unfold fromIndex; rw [if_neg (by omega)]; omega
  unfold find4
  rw [e1, e2, hl, Nat.min_eq_left h3, StrLaws.occ_eq, show hi + 1 - lo = 0 by omega]
  rfl
/-- the turns of the while that cuts a set at its hyphens -/
def Plan (T : List Nat) (j : Int) : Int → Int → List (List Nat) → Int → Prop
  | i, k, [], iF => find4 (S T) (Str.ofString "-") k j = -1 ∧ i = iF
  | i, k, v :: vs, iF => ∃ r, find4 (S T) (Str.ofString "-") k j = r ∧ 0 ≤ r ∧ r ≤ 1000 ∧ CutIs T i r v ∧ Plan T j (r + 1) (r + 3) vs iF
noncomputable def c0 : List Nat := [45, 33, 35, 36, 37, 38, 39, 42, 43, 46, 94, 95, 96, 124, 126, 48]
theorem find_reps {t n a b p : Nat} {k j : Int} (h : t < n) (hk : k = 26 * (t : Int) + a) (hj : j = 26 * (t : Int) + b) (h1 : a ≤ p) (h2 : p < b) (h3 : b ≤ 26) (h4 : ∀ i, i < p → a ≤ i → Z[i]? ≠ some 45) (h5 : Z[p]? = some 45) : find4 (S (reps n)) (Str.ofString "-") k j = 26 * (t : Int) + p := by
  have e1 : k = ((26 * t + a : Nat) : Int) := by omega
  have e2 : j = ((26 * t + b : Nat) : Int) := by omega
  have hz : ∀ i, i < 26 → (reps n)[26 * t + i]? = Z[i]? := fun i hi => by
    obtain ⟨r, hr⟩ := reps_at h
    rw [← List.getElem?_drop, hr, List.getElem?_append_left (by show i < 26; exact hi)]
  rw [e1, e2, find4_at (p := 26 * t + p) (by omega) (by omega) (by rw [reps_len]; omega) (fun i hi1 hi2 => ?_) (by rw [hz p (by omega)]; exact h5)]
  · push_cast; rfl
  · have : i = 26 * t + (i - 26 * t) := by omega
    rw [this, hz _ (by omega)]
    exact h4 _ (by omega) (by omega)
theorem plan_reps {t n : Nat} {i k j : Int} (h : t < n) (hn : n ≤ 10) (hi : i = 26 * (t : Int) + 1) (hk : k = 26 * (t : Int) + 2) (hj : j = 26 * (t : Int) + 25) : Plan (reps n) j i k [c0, [57, 65], [90, 97]] (26 * (t : Int) + 24) := by
  refine ⟨26 * (t : Int) + (17 : Nat), find_reps h hk hj (by decide) (by decide) (by decide) (by decide) rfl, by omega, by omega, reps_cutIs (a := 1) (b := 17) h (by omega) (by omega) (by decide) (by decide) rfl, ?_⟩
  refine ⟨26 * (t : Int) + (20 : Nat), find_reps (a := 20) h (by omega) hj (by decide) (by decide) (by decide) (by decide) rfl, by omega, by omega, reps_cutIs (a := 18) (b := 20) h (by omega) (by omega) (by decide) (by decide) rfl, ?_⟩
  refine ⟨26 * (t : Int) + (23 : Nat), find_reps (a := 23) h (by omega) hj (by decide) (by decide) (by decide) (by decide) rfl, by omega, by omega, reps_cutIs (a := 21) (b := 23) h (by omega) (by omega) (by decide) (by decide) rfl, ?_⟩
  refine ⟨?_, by omega⟩
  have e1 : 26 * (t : Int) + (23 : Nat) + 3 = ((26 * t + 26 : Nat) : Int) := by omega
  have e2 : j = ((26 * t + 25 : Nat) : Int) := by omega
  rw [e1, e2]
  exact find4_none (by omega) (by rw [reps_len]; omega)
end Mine
end
section
theorem Mine.off_W12c : True := by (w_top off; trivial)
open PySem PySem.W PyProof.Rows PySem.Spec PySem.Calls
set_option Elab.async false
set_option maxRecDepth 100000
namespace Mine
/-- what the translation makes of one set -/
noncomputable def Yt : Str := Str.ofString "[\\-!#$%\\&'*+.^_`\\|\\~0-9A-Za-z]"
/-- the while over the sets -/
noncomputable def TInv (n : Nat) (D B : Addr) (nl : Nat) (m : Str → Option Value) (news : List (Addr × Obj)) (g : Array GenState) : Prop :=
  ∃ (t : Nat) (vs : List Value) (k : Nat) (TL : List (Addr × Obj)) (iv : Int) (tt ti tn tq : Tok) (u : Str → Option Value), nl = n - t ∧ t ≤ n ∧ news = (B, bapp D) :: (D, W.listOf vs.toArray k) :: TL ∧ vs.length = t ∧ (∀ v ∈ vs, ∃ t, v = Value.str Yt t) ∧ Tabs TL ∧ AllBare g ∧ (∀ q ∈ TL, q.1 ≠ B) ∧ (∀ q ∈ TL, q.1 ≠ D) ∧ iv = 26 * (t : Int) ∧
    m = frm [(Str.ofString "pat", .str (S (reps n)) tt), (Str.ofString "STAR", .none), (Str.ofString "QUESTION_MARK", .str (Str.ofString ".") tq), (Str.ofString "res", .ref D), (Str.ofString "add", .ref B), (Str.ofString "i", .int iv ti), (Str.ofString "n", .int (26 * (n : Int)) tn)] u
theorem TInv.of {n : Nat} {D B : Addr} {m : Str → Option Value} {g : Array GenState} {t : Nat} {vs : List Value} {k : Nat} {TL : List (Addr × Obj)} {iv nv : Int} {tt ti tn tq : Tok}
    (ht : t ≤ n) (hv : vs.length = t) (hy : ∀ v ∈ vs, ∃ t, v = Value.str Yt t) (TB : Tabs TL) (hb : AllBare g) (sB : ∀ q ∈ TL, q.1 ≠ B) (sD : ∀ q ∈ TL, q.1 ≠ D) (hi : iv = 26 * (t : Int)) (hn : nv = 26 * (n : Int))
    (h1 : m (Str.ofString "pat") = some (.str (S (reps n)) tt)) (h2 : m (Str.ofString "STAR") = some .none) (h3 : m (Str.ofString "QUESTION_MARK") = some (.str (Str.ofString ".") tq)) (h4 : m (Str.ofString "res") = some (.ref D)) (h5 : m (Str.ofString "add") = some (.ref B))
    (h6 : m (Str.ofString "i") = some (.int iv ti)) (h7 : m (Str.ofString "n") = some (.int nv tn)) : TInv n D B (n - t) m ((B, bapp D) :: (D, W.listOf vs.toArray k) :: TL) g := by
  subst hn
  obtain ⟨u, e⟩ := frm_of (m := m) [(Str.ofString "pat", .str (S (reps n)) tt), (Str.ofString "STAR", .none), (Str.ofString "QUESTION_MARK", .str (Str.ofString ".") tq), (Str.ofString "res", .ref D), (Str.ofString "add", .ref B), (Str.ofString "i", .int iv ti), (Str.ofString "n", .int (26 * (n : Int)) tn)] (by
    intro p hp
    simp only [List.mem_cons, List.not_mem_nil, or_false] at hp
    rcases hp with rfl | rfl | rfl | rfl | rfl | rfl | rfl
    · exact h1
    · exact h2
    · exact h3
    · exact h4
    · exact h5
    · exact h6
    · exact h7)
  exact ⟨t, vs, k, TL, iv, tt, ti, tn, tq, u, rfl, ht, rfl, hv, hy, TB, hb, sB, sD, hi, e⟩
/-- the while that seeks the set's end -/
noncomputable def JInv (n t : Nat) (base : List (Str × Value)) (news₀ : List (Addr × Obj)) (nl : Nat) (m : Str → Option Value) (news : List (Addr × Obj)) : Prop :=
  ∃ (a : Nat) (jv : Int) (tj : Tok) (u : Str → Option Value), nl = 25 - a ∧ 1 ≤ a ∧ a ≤ 25 ∧ jv = 26 * (t : Int) + a ∧ news = news₀ ∧ m = frm ((Str.ofString "j", .int jv tj) :: base) u
theorem JInv.of {n t : Nat} {base : List (Str × Value)} {news₀ : List (Addr × Obj)} {m : Str → Option Value} {a : Nat} {jv : Int} {tj : Tok} (h1 : 1 ≤ a) (h2 : a ≤ 25) (hj : jv = 26 * (t : Int) + a) (hm : m (Str.ofString "j") = some (.int jv tj)) (hb : ∀ p ∈ base, m p.1 = some p.2) :
    JInv n t base news₀ (25 - a) m news₀ := by
  obtain ⟨u, e⟩ := frm_of (m := m) ((Str.ofString "j", .int jv tj) :: base) (by
    intro p hp
    rcases List.mem_cons.mp hp with rfl | hp
    · exact hm
    · exact hb p hp)
  exact ⟨a, jv, tj, u, rfl, h1, h2, hj, rfl, e⟩
/-- the while that cuts the set -/
noncomputable def KInv (T : List Nat) (jv iF : Int) (all : List (List Nat)) (C : Addr) (base : List (Str × Value)) (news₀ : List (Addr × Obj)) (nl : Nat) (m : Str → Option Value) (news : List (Addr × Obj)) : Prop :=
  ∃ (iv kv : Int) (cs : List Value) (k : Nat) (dn vs : List (List Nat)) (ti tk : Tok) (u : Str → Option Value), nl = vs.length ∧ Plan T jv iv kv vs iF ∧ all = dn ++ vs ∧ Txts cs dn ∧ news = (C, W.listOf cs.toArray k) :: news₀ ∧ 0 ≤ kv ∧ kv ≤ 2000 ∧
    m = frm ((Str.ofString "i", .int iv ti) :: (Str.ofString "k", .int kv tk) :: base) u
theorem KInv.of {T : List Nat} {jv iF iv kv : Int} {all : List (List Nat)} {C : Addr} {base : List (Str × Value)} {news₀ : List (Addr × Obj)} {m : Str → Option Value} {cs : List Value} {k : Nat} {dn vs : List (List Nat)} {ti tk : Tok}
    (hp : Plan T jv iv kv vs iF) (ha : all = dn ++ vs) (hc : Txts cs dn) (hk0 : 0 ≤ kv) (hk : kv ≤ 2000) (h1 : m (Str.ofString "i") = some (.int iv ti)) (h2 : m (Str.ofString "k") = some (.int kv tk)) (hb : ∀ p ∈ base, m p.1 = some p.2) :
    KInv T jv iF all C base news₀ vs.length m ((C, W.listOf cs.toArray k) :: news₀) := by
  obtain ⟨u, e⟩ := frm_of (m := m) ((Str.ofString "i", .int iv ti) :: (Str.ofString "k", .int kv tk) :: base) (by
    intro p hp
    rcases List.mem_cons.mp hp with rfl | hp
    · exact h1
    · rcases List.mem_cons.mp hp with rfl | hp
      · exact h2
      · exact hb p hp)
  exact ⟨iv, kv, cs, k, dn, vs, ti, tk, u, rfl, hp, ha, hc, rfl, hk0, hk, e⟩
theorem tok_of {h₀ h : Heap} {L : Addr} {m : Str → Option Value} {x : Str} {v : Int} {t : Tok} (_F : Fr h₀ L h m) (e : m x = some (.int v t)) : ∃ t', m x = some (.int v t') := ⟨t, e⟩
theorem head_of {h₀ h : Heap} {L C : Addr} {o : Obj} {r : List (Addr × Obj)} (_N : News h₀ L h ((C, o) :: r)) : ∃ C', C' = C := ⟨C, rfl⟩
theorem head_of2 {h₀ h : Heap} {L C : Addr} {o : Obj} {x : Addr × Obj} {r : List (Addr × Obj)} (_N : News h₀ L h (x :: (C, o) :: r)) : ∃ C', C' = C := ⟨C, rfl⟩
theorem head_of3 {h₀ h : Heap} {L C : Addr} {o : Obj} {x y : Addr × Obj} {r : List (Addr × Obj)} (_N : News h₀ L h (x :: y :: (C, o) :: r)) : ∃ C', C' = C := ⟨C, rfl⟩
theorem txts3 {cs : List Value} {a b c : List Nat} (h : Txts cs [a, b, c]) : ∃ x y z, cs = [.str (S a) x, .str (S b) y, .str (S c) z] := by
  cases h with
  | cons h =>
    cases h with
    | cons h =>
      cases h with
      | cons h =>
        cases h with
        | nil => exact ⟨_, _, _, rfl⟩
theorem strtok_of {h₀ h : Heap} {L : Addr} {m : Str → Option Value} {x v : Str} {t : Tok} (_F : Fr h₀ L h m) (e : m x = some (.str v t)) : ∃ t', m x = some (.str v t') := ⟨t, e⟩
/-- the signs between the brackets -/
noncomputable def stuff0 : List Nat := [45, 33, 35, 36, 37, 38, 39, 42, 43, 46, 94, 95, 96, 124, 126, 48, 45, 57, 65, 45, 90, 97, 45, 122]
theorem contains_stuff : Txt.contains (S stuff0) (Str.ofString "-") = true := by decide +kernel
theorem Z_mid {a : Nat} (h : a < 25) : ∃ c, Z[a]? = some c ∧ c ≠ 93 := by
  have hz : ∀ a, a < 25 → ((Z[a]?.isSome) && Z[a]? != some 93) = true := by decide
  have := hz a h
  rw [Bool.and_eq_true] at this
  obtain ⟨h1, h2⟩ := this
  obtain ⟨c, hc⟩ := Option.isSome_iff_exists.mp h1
  refine ⟨c, hc, fun e => ?_⟩
  subst e
  rw [hc] at h2
  exact absurd h2 (by decide)
theorem k_notin {prog : Program} {w : World} {A : Around} {E : Value → Shared → Prop} {s : Shared} {x y : Str} {t u : Tok} {b : Bool} {Q : Value → Shared → Prop} (e : Txt.contains x y = b) (h : Q (.bool (!b)) s) : wpAny (model prog w) A (compareOp .NotIn (.str y u) (.str x t)) Q E s := by
  subst e
  exact P.notIn_str h
theorem off4 {a b c i : Addr} {o1 o2 o3 : Obj} {TL : List (Addr × Obj)} (h : a < i ∧ b < i ∧ c < i ∧ AllLt i TL) : ∀ q ∈ (a, o1) :: (b, o2) :: (c, o3) :: TL, q.1 ≠ i := fun q hq => by
  rcases List.mem_cons.mp hq with rfl | hq
  · exact Nat.ne_of_lt h.1
  · rcases List.mem_cons.mp hq with rfl | hq
    · exact Nat.ne_of_lt h.2.1
    · rcases List.mem_cons.mp hq with rfl | hq
      · exact Nat.ne_of_lt h.2.2.1
      · exact Nat.ne_of_lt (allLt_mem h.2.2.2 q hq)
section
variable {prog : Program} {w : World} {A : Around} {E : Value → Shared → Prop} {s : Shared} {h₀ : Heap} {L D : Addr} {news : List (Addr × Obj)} {T : List Nat} {i : Int} {t u : Tok}
theorem k_item {value slice : Expr} {l : List Value} {n : Nat} {v : Value} {Q : Value → Shared → Prop} (N : News h₀ L s.heap news) (hm : (D, W.listOf l.toArray n) ∈ news) (h0 : 0 ≤ i) (h1 : i < 2 ^ 62) (hv : l[i.toNat]? = some v) (h : Q v s)
    (hs : subscripted slice false (.ref D) (.int i u) = operate [.ref D, .int i u] (getItem (.ref D) (.int i u)) := by with_unfolding_all rfl) :
    wpAny (model prog w) A (subscriptTail value slice (.ref D) (.int i u)) Q E s := by
  have hl : s.heap.IsList D l.toArray := ⟨_, (N _ hm).1, rfl, n, rfl⟩
  refine tail_any hl.typeIs slot_list_getitem.lookup (wpAny_getItem_list hl h0 (by omega) ?_ h) hs
  simpa using hv
theorem k_tlast {value slice : Expr} {c : Nat} {Q : Value → Shared → Prop} (hc : T.getLast? = some c) (hz : T.length ≤ 2 ^ 24) (h : ∀ t' k, Q (.str (S [c]) t') { s with toks := k })
    (hs : subscripted slice false (.str (S T) t) (.int (-1) u) = operate [.str (S T) t, .int (-1) u] (getItem (.str (S T) t) (.int (-1) u)) := by with_unfolding_all rfl)
    (ht : ∀ r, letTemporaryGo value (.str (S T) t) r = pure () := by intro _; rfl) :
    wpAny (model prog w) A (subscriptTail value slice (.str (S T) t) (.int (-1) u)) Q E s := by
  have hS : (S T).length = T.length := S_len T
  have hl : 0 < T.length := by cases T with
    | nil => simp at hc
    | cons _ _ => simp
  refine item_str (by decide) (by rw [hS]; omega) (by rw [hS]; omega) (fun _ => ?_) hs ht
  have e : Txt.item (S T) (-1) = S [c] := by
    unfold Txt.item Txt.charAt
    rw [hS, StrLaws.seqIndex_neg (by decide) (by omega)]
    have e2 : (-1 + (T.length : Int)).toNat = T.length - 1 := by omega
    have e3 : T[T.length - 1]? = some c := by rw [← List.getLast?_eq_getElem?]; exact hc
    have e4 : (S T).cps[(-1 + (T.length : Int)).toNat]? = some c := by
      rw [e2]
      show T.toArray[T.length - 1]? = some c
      rw [List.getElem?_toArray]; exact e3
    first
      | (simp only [Option.bind_some]; rw [e4]; rfl)
      | (simp [e4])
  rw [e]; exact h _ _
theorem k_gt1 {a b : Nat} {r : Bool} {Q : Value → Shared → Prop} (hr : decide (b < a) = r) (h : Q (.bool r) s) : wpAny (model prog w) A (compareOp .Gt (.str (S [a]) t) (.str (S [b]) u)) Q E s := by
  refine P.gt_str ?_
  have e : decide ((S [b]).cps.toList < (S [a]).cps.toList) = decide (b < a) := by
    show decide ([b] < [a]) = decide (b < a)
    have z : ([b] < [a]) ↔ b < a := by rw [List.cons_lt_cons_iff]; simp
    rw [Bool.eq_iff_iff, decide_eq_true_eq, decide_eq_true_eq, z]
  rw [e, hr]; exact h
end
end Mine
end
section
theorem Mine.off_W12d : True := by (w_top off; trivial)
open PySem PySem.W PyProof.Rows PySem.Spec PySem.Calls
set_option Elab.async false
set_option maxRecDepth 100000
namespace Mine
/-- the generator a gives n values, and leaves the ledger alone -/
noncomputable def GenW (prog : Program) (w : World) (A : Around) (h₀ : Heap) (L : Addr) (news : List (Addr × Obj)) (a : Addr) (n : Nat) (Fv : Nat → Value → Prop) (s : Shared) : Prop :=
  ∃ fp wr g St, WalksS prog w A.in4 a fp wr (GenOnlyQ g) n Fv St ∧ St 0 s ∧ (∀ i s', St i s' → s'.TypeIs (.ref a) "generator") ∧ a ∈ fp ∧ (∀ b ∈ fp, b < s.heap.objs.size) ∧ ∀ b ∈ wr, b ≠ L ∧ h₀.get? b = none ∧ ∀ p ∈ news, p.1 ≠ b
theorem passing_all (n : Nat) : passing (fun _ => true) n 0 = List.range n := by simp [passing]
section
variable {prog : Program} {w : World} {A : Around} {E : Value → Shared → Prop} {s : Shared} {h₀ : Heap} {L a c P D : Addr} {m mg mb : Str → Option Value} {news pre TL : List (Addr × Obj)} {p : Program} {loose : List Str} {mean : ExcName → Option Value} {scope : Scope} {pos : Pos} {clos : List (Str × Addr)} {vs : List Value} {n : Nat}
theorem k_gencode {env : Env} {qual : Str} {qq : Nat → Str} {Q : Value → Shared → Prop} (F : Fr h₀ L s.heap m) (N : News h₀ L s.heap news) (TB : Tabs TL) (En : Endg TL news pre) (hP : TabAt P qq) (sep : ∀ p ∈ pre, ∀ q ∈ TL, p.1 ≠ q.1) (C : CodeHd h₀ c P) (hcode : env.code = .ref c) (hqq : qq pos.line = qual)
    (h : ∀ code TL' h' tk, Fr h₀ L h' m → News h₀ L h' (pre ++ TL') → Tabs TL' → (∀ p ∈ pre, ∀ q ∈ TL', p.1 ≠ q.1) → Q code { s with heap := h', toks := tk }) :
    wpAny (model prog w) A (genexprCode env pos qual scope) Q E s := by
  have en := En.eq
  subst en
  obtain ⟨ps, hm, ht, hq⟩ := TB.get hP
  have H : ∀ p ∈ TL, s.heap.get? p.1 = some p.2 := fun p hp => (N p (List.mem_append_right _ hp)).1
  have hmm := N (P, tabObj ps) (List.mem_append_right _ hm)
  have hok := (C.keeps F.keep).code hmm.1 ht
  cases hc : codeAmong pos ps.toList with
  | some v =>
    obtain ⟨o, vs, file, tf, flags, tg, inF, text, tt, op, ho, hd, h11, h2, h7, h9, h10, hop, hpd, htr, hne⟩ := id hok
    unfold genexprCode codeAt
    rw [hcode, if_neg (show ¬ ((Value.ref c == Value.none) = true) from Bool.false_ne_true)]
    refine wpAny_bind (wpAny_fieldsOf ho hd ?_)
    rw [h11]
    refine wpAny_bind (wpAny_fieldsOf hop hpd ?_)
    rw [hc]
    exact wpAny_pure (h v TL s.heap s.toks F N TB sep)
  | none =>
    refine wpAny_genexprCodeX hcode hok ((C.keeps F.keep).tab hmm.1) hc fun c' h' tk hx hge hlt _ hrec htb _ => ?_
    obtain ⟨c₂, oc, vs, t, e2, hoc, hd, hv⟩ := hrec
    cases e2
    have hLs : L < s.heap.objs.size := F.ns.lt
    have hLc : L < c' := Nat.lt_of_lt_of_le hLs hge
    have old : ∀ b o, h₀.get? b = some o → h'.get? b = some o := fun b o e => hx b o (fun q => by rw [q, hmm.2.2] at e; cases e) (F.keep b o e)
    have hpre : ∀ p ∈ pre, p.1 ≠ P := fun p hp => sep p hp _ hm
    refine h (.ref c') ((P, tabObj (ps ++ #[rawInt pos.line, rawInt pos.col, .ref c'])) :: (c', oc) :: TL.filter (fun p => p.1 != P)) h' tk ⟨F.ns.extBut hx hmm.2.1.symm, old, F.above⟩ (fun q hq => ?_) (TB.grow hP H hm ht hq hd (by rw [hqq]; exact hv)) (fun p hp q hq => ?_)
    · rcases List.mem_append.mp hq with hq | hq
      · have n := N q (List.mem_append_left _ hq)
        exact ⟨hx _ _ (hpre q hq) n.1, n.2⟩
      · rcases List.mem_cons.mp hq with rfl | hq
        · exact ⟨htb.2, hmm.2⟩
        · rcases List.mem_cons.mp hq with rfl | hq
          · exact ⟨hoc, Nat.ne_of_gt hLc, Heap.get?_none_of_le (Nat.le_trans F.above (Nat.le_of_lt hLc))⟩
          · have hq2 := List.mem_filter.mp hq
            have n := N q (List.mem_append_right _ hq2.1)
            exact ⟨hx _ _ (by simpa using hq2.2) n.1, n.2⟩
    · rcases List.mem_cons.mp hq with rfl | hq
      · exact hpre p hp
      · rcases List.mem_cons.mp hq with rfl | hq
        · exact Nat.ne_of_lt (Nat.lt_of_lt_of_le (Heap.lt_size (N p (List.mem_append_left _ hp)).1) hge)
        · exact sep p hp q (List.mem_filter.mp hq).1
theorem k_genexp {env : Env} {elt iter : Expr} {x : Str} {px : Pos} {qq : Nat → Str} {Fv : Nat → Value → Prop} {Q : Value → Shared → Prop} (F : Fr h₀ L s.heap m) (N : News h₀ L s.heap news) (G : AllBare s.gens) (TB : Tabs TL) (En : Endg TL news pre) (hP : TabAt P qq) (sep : ∀ p ∈ pre, ∀ q ∈ TL, p.1 ≠ q.1)
    (T : Top p loose mean mg mb h₀) (C : CodeHd h₀ c P) (hcode : env.code = .ref c) (hg0 : env.globals = mainGlobals) (hqq : qq pos.line = env.qual ++ Str.ofString "<genexpr>") (hm : (D, W.listOf vs.toArray n) ∈ pre)
    (hi : wpAny (model prog w) A (eval iter env) (fun xv s₁ => xv = .ref D ∧ s₁ = s) E s)
    (hh : A.handled = none) (hco : scope.isCoroutine = false) (hclos : closureFor scope env = pure clos) (hcell : ∀ y ∈ scope.names, y.2 ≠ .cell) (h0 : scope.names.lookup (".0" : Str) = some NameKind.local)
    (hx : scope.names.lookup x = some .local) (hkind : scope.kind = .function) (hroom : A.depth < recursionLimit)
    (helt : ∀ (Cf : Addr) (code : Value) (A' : Around) (E' : Value → Shared → Prop) i v (t : Shared) m₂, A'.handled = none → vs[i]? = some v → t.heap.Ns Cf m₂ → m₂ x = some v → wpAny (model prog w) A' (eval elt (genEnv scope clos Cf code builtinsNs env)) (fun y s₃ => Fv i y ∧ Keeps t s₃) E' t)
    (h : ∀ a TL' h' g' tk, Fr h₀ L h' m → News h₀ L h' (pre ++ TL') → Tabs TL' → (∀ p ∈ pre, ∀ q ∈ TL', p.1 ≠ q.1) → AllBare g' → GenW prog w A h₀ L (pre ++ TL') a vs.length Fv { s with heap := h', gens := g', toks := tk } → Q (.ref a) { s with heap := h', gens := g', toks := tk })
    (hs : ∀ x, genFold iter env x = pure x := by intro _; rfl) :
    wpAny (model prog w) A (eval (.GeneratorExp elt [⟨.Name x px, iter, [], 0⟩] scope pos) env) Q E s := by
  have en := En.eq
  have hDn : (D, W.listOf vs.toArray n) ∈ news := by rw [en]; exact List.mem_append_left _ hm
  have hl : s.heap.IsList D vs.toArray := ⟨_, (N _ hDn).1, rfl, n, rfl⟩
  have hDlt : D < s.heap.objs.size := Heap.lt_size (N _ hDn).1
  refine wpAny_GeneratorExp_walksQD hh hco hclos hcell h0 hx hkind hroom (wpAny_mono hi (fun xv s₁ e => ?_) fun _ _ e => e) hs
  obtain ⟨rfl, rfl⟩ := e
  refine wpAny_pyIter_list hl ?_
  have F1 := F.push { cls := .type "list_iterator", data := .fields #[.ref D, .int 0 0] }
  have N1 := N.push F { cls := .type "list_iterator", data := .fields #[.ref D, .int 0 0] }
  have lN : ∀ p ∈ news, p.1 < s₁.heap.objs.size := fun p hp => Heap.lt_size (N p hp).1
  refine ⟨((T.nolimit).keeps F.keep).push _, ?_⟩
  refine k_gencode (s := { s₁ with heap := s₁.heap.push { cls := .type "list_iterator", data := .fields #[.ref D, .int 0 0] } }) F1 N1 TB (Endg.cons En) hP (fun p hp q hq => ?_) C hcode hqq fun code TL' h' tk F' N' TB' sep' => ?_
  · rcases List.mem_cons.mp hp with rfl | hp
    · exact Nat.ne_of_gt (lN q (by rw [en]; exact List.mem_append_right _ hq))
    · exact sep p hp q hq
  obtain ⟨bm, ob, b1, b2, b3, b4, b5, b6⟩ := T.bmain
  rw [hg0]
  refine wpAny_builtinsFor (T.g.keeps F'.keep) b1 b2 (F'.keep _ _ b3) b4 b5 b6 ?_
  have hI := N' (s₁.heap.objs.size, { cls := .type "list_iterator", data := .fields #[.ref D, .int 0 0] }) (.head _)
  have hD' := N' (D, W.listOf vs.toArray n) (.tail _ (List.mem_append_left _ hm))
  have hlim : h'.NoLimit := (T.nolimit).keeps F'.keep
  have hcl0 : cStatics < h₀.objs.size := by
    obtain ⟨_, hns, _⟩ := T.nolimit
    exact hns.lt
  refine ⟨s₁.heap.objs.size, [s₁.heap.objs.size, D], [s₁.heap.objs.size], vs.toArray.size, _, _, fun _ => true, Fv, rfl, fun A' hA => Walks.list hA _ _ (Nat.ne_of_lt hDlt) vs.toArray, ⟨⟨_, hI.1, rfl, rfl⟩, ⟨_, hD'.1, rfl, n, rfl⟩⟩, ?_, hlim, ?_, fun href _ => ⟨fun A' E' i v t m₂ _ _ _ _ _ _ _ => wpAny_pure ⟨rfl, _, _, rfl, fun _ _ e => e⟩, fun A' E' i v t m₂ hA _ _ hPi _ hns hmx _ => helt _ _ A' E' i v t m₂ hA (by simpa using hPi) hns hmx⟩, fun a h₅ tk5 gs hgb hag hsz5 hk5 W hat => ?_⟩
  · intro b hb
    rcases List.mem_cons.mp hb with rfl | hb
    · exact Heap.lt_size hI.1
    · rw [List.mem_singleton.mp hb]; exact Heap.lt_size hD'.1
  · intro hb
    rw [List.mem_singleton] at hb
    exact absurd (hb ▸ hcl0) (Nat.not_lt.mpr (Nat.le_trans F.above (Nat.le_of_lt F.ns.lt)))
  have hsz : vs.toArray.size = vs.length := by simp
  rw [hsz, passing_all, List.length_range] at W
  rw [hsz] at hat
  have N5 : News h₀ L h₅ (pre ++ TL') := fun q hq => ⟨hk5 _ _ (N' q (.tail _ hq)).1, (N' q (.tail _ hq)).2⟩
  refine h a TL' h₅ (s₁.gens.push gs) tk5 (F'.keeps hk5) N5 TB' (fun p hp => sep' p (.tail _ hp)) (G.push hgb) ⟨_, _, _, _, W.imp (fun j v hv => ?_), hat, fun i s' st => st.1.typeIs, List.mem_cons_self, fun b hb => ?_, fun b hb => ?_⟩
  · obtain ⟨i, hi1, hi2⟩ := hv
    have : i = j := by
      obtain ⟨_, e⟩ := List.getElem?_eq_some_iff.mp hi1
      rw [List.getElem_range] at e
      exact e.symm
    exact this ▸ hi2
  · show b < h₅.objs.size
    rw [hsz5]
    rcases List.mem_cons.mp hb with rfl | hb
    · exact Nat.lt_succ_self _
    · rcases List.mem_cons.mp hb with rfl | hb
      · exact Nat.lt_succ_of_lt hag
      · exact Nat.lt_succ_of_lt (Nat.lt_trans (List.mem_range.mp hb) hag)
  · have hLsz : L < s₁.heap.objs.size := F.ns.lt
    rcases List.mem_cons.mp hb with rfl | hb
    · have e1 : L < h'.objs.size := F'.ns.lt
      exact ⟨Nat.ne_of_gt e1, Heap.get?_none_of_le (Nat.le_trans F'.above (Nat.le_of_lt e1)), fun q hq => Nat.ne_of_lt (Heap.lt_size (N' q (.tail _ hq)).1)⟩
    · rw [List.mem_singleton.mp hb]
      refine ⟨Nat.ne_of_gt hLsz, Heap.get?_none_of_le (Nat.le_trans F.above (Nat.le_of_lt hLsz)), fun q hq => ?_⟩
      rcases List.mem_append.mp hq with hq | hq
      · exact Nat.ne_of_lt (lN q (by rw [en]; exact List.mem_append_left _ hq))
      · exact (sep' _ (.head _) q hq).symm
theorem k_joingen {h₀ : Heap} {L a : Addr} {z x : Str} {t : Tok} {n : Nat} {Fv : Nat → Value → Prop} {tx : Nat → Str} {Q : Value → Shared → Prop} (F : Fr h₀ L s.heap m) (N : News h₀ L s.heap news) (G : AllBare s.gens) (X : GenW prog w A h₀ L news a n Fv s)
    (htx : ∀ j v, Fv j v → ∃ u, v = .str (tx j) u) (hok : JoinOk x ((List.range n).map tx) = true) (hz : Txt.join x ((List.range n).map tx) = z) (hn : n ≤ sizeLine)
    (h : ∀ h' g' tk t', Fr h₀ L h' m → News h₀ L h' news → AllBare g' → Q (.str z t') { s with heap := h', gens := g', toks := tk }) :
    wpAny (model prog w) A (call (.builtin "str.join") [.str x t, .ref a]) Q E s := by
  obtain ⟨fp, wr, g, St, W, hst, hT, ha, hfp, hwr⟩ := X
  have W := W.in4_2
  refine SC.joinGen W hT hst hfp ha (fun j v hv => let ⟨u, e⟩ := htx j v hv; ⟨_, u, e⟩) (fun s' lt hm hacc => ?_) hn
  have hl : lt.map (·.1) = (List.range n).map tx := by
    apply List.ext_getElem?
    intro j
    have hsz : lt.length = n := by simpa [strValues] using hacc.1
    by_cases hj : j < n
    · have hj' : j < lt.length := hsz ▸ hj
      obtain ⟨u, hv⟩ := htx j _ (hacc.2 j (.str lt[j].1 lt[j].2) (by simp [strValues, List.getElem?_eq_getElem hj']))
      injection hv with h1 _
      simp [List.getElem?_eq_getElem hj', hj, h1]
    · rw [List.getElem?_eq_none (by simpa [hsz] using Nat.le_of_not_lt hj), List.getElem?_eq_none (by simpa using Nat.le_of_not_lt hj)]
  rw [hl, hz]
  refine ⟨hok, fun t' k => ?_⟩
  have e1 := hm.drawn
  have e2 := hm.os
  have k1 := hm.heap
  have g1 := G.movedS hm
  obtain ⟨h', g', d', tk', os'⟩ := s'
  dsimp only at e1 e2 k1 g1 ⊢
  subst e1
  subst e2
  have off : ∀ b o, h₀.get? b = some o → b ∉ wr := fun b o e hb => by rw [(hwr b hb).2.1] at e; cases e
  exact h h' g' k t' ⟨F.ns.at fun o e => k1 L o (fun hb => (hwr L hb).1 rfl) e, fun b o e => k1 b o (off b o e) (F.keep b o e), F.above⟩ (fun p hp => ⟨k1 _ _ (fun hb => (hwr _ hb).2.2 p hp rfl) (N p hp).1, (N p hp).2⟩) g1
open PySem.Builtin PySem.Builtin.Str in
theorem k_repl0 {x y z : Str} {t u v : Tok} {Q : Value → Shared → Prop} (hc : ((occurrences x y 0 x.length (x.length + 1)).isEmpty || (y.length == 0 && z.length == 0)) = true) (h : Q (.str x t) s) :
    wpAny (model prog w) A (call (.builtin "str.replace") [.str x t, .str y u, .str z v]) Q E s := by
  refine call_gives F.slot_str_replace (typeIs_str _ _ _) F.entry_str_replace (F.args_str_replace_3 _ _ _) (gives_str_replace x y z t u v fun hf => ?_) ?_
  · rw [hc] at hf; cases hf
  · rw [if_pos hc]; exact h
end
/-- the element of the generator: a cut with its hyphens escaped -/
noncomputable def hyp (x : Str) : Str := Txt.replace x (Str.ofString "-") (Str.ofString "\\-")
end Mine
end
section
theorem Mine.off_W12e : True := by (w_top off; trivial)
open PySem PySem.W PyProof.Rows PySem.Spec PySem.Calls
set_option Elab.async false
set_option maxRecDepth 100000
namespace Mine
noncomputable abbrev elt119 : Expr := .Call (.Attribute (.Call (.Attribute (.Name (Str.ofString "s") ⟨119, 38, 119, 39⟩) (Str.ofString "replace") ⟨119, 38, 119, 47⟩) [.Constant (.str (Str.ofString "\\")) 0 ⟨119, 48, 119, 52⟩, .Constant (.str (Str.ofString "\\\\")) 0 ⟨119, 54, 119, 60⟩] [] ⟨119, 38, 119, 61⟩) (Str.ofString "replace") ⟨119, 38, 119, 69⟩)
  [.Constant (.str (Str.ofString "-")) 0 ⟨119, 70, 119, 73⟩, .Constant (.str (Str.ofString "\\-")) 0 ⟨119, 75, 119, 80⟩] [] ⟨119, 38, 119, 81⟩
noncomputable abbrev scope119 : Scope := { kind := .function, names := [(Str.ofString ".0", .local), (Str.ofString "s", .local)], isGenerator := true, isCoroutine := false }
set_option maxHeartbeats 1000000 in
open PySem.Builtin PySem.Builtin.Str in
theorem elt119_spec {w : World} {Cf : Addr} {code : Value} {A' : Around} {E' : Value → Shared → Prop} {t : Shared} {m₂ : Str → Option Value} {x : Str} {tx : Tok} {env : Env} (hA : A'.handled = none) (hns : t.heap.Ns Cf m₂) (hm : m₂ (Str.ofString "s") = some (.str x tx))
    (h0 : ((occurrences x (Str.ofString "\\") 0 x.length (x.length + 1)).isEmpty || ((Str.ofString "\\").length == 0 && (Str.ofString "\\\\").length == 0)) = true) (hl : x.length ≤ 1000) :
    wpAny (model PySem.Challenge.rw_in0021_01.prog w) A' (eval elt119 (genEnv scope119 [] Cf code builtinsNs env)) (fun y s₃ => (∃ u, y = .str (hyp x) u) ∧ Keeps t s₃) E' t := by
  obtain ⟨h, g, d, tk, os⟩ := t
  have F : Fr {} Cf h m₂ := ⟨hns, fun b o e => (by simp [Heap.get?] at e), Nat.zero_le _⟩
  have N : News {} Cf h [] := fun _ h => (nomatch h)
  show wpAny _ _ _ _ _ _
  (repeat' (first | (k_unfold; (try dsimp only)) | ((with_reducible show wpAny _ _ (exec _ _) _ _ _); k_fold) | (first | ((with_reducible show wpAny _ _ (call (Value.builtin "str.replace") [Value.str _ _, Value.str (Str.ofString "\\") _, Value.str _ _]) _ _ _); (refine k_repl0 (by assumption) ?_); (try dsimp only))) | walk1 | (dsimp only; walk1)))
  exact ⟨_, _, rfl, fun _ _ e => e⟩
/-- the signs between the brackets with the hyphens escaped; and with the doubled signs escaped too -/
noncomputable def stuff1 : List Nat := [92, 45, 33, 35, 36, 37, 38, 39, 42, 43, 46, 94, 95, 96, 124, 126, 48, 45, 57, 65, 45, 90, 97, 45, 122]
noncomputable def stuff2 : List Nat := [92, 45, 33, 35, 36, 37, 92, 38, 39, 42, 43, 46, 94, 95, 96, 92, 124, 92, 126, 48, 45, 57, 65, 45, 90, 97, 45, 122]
noncomputable def cuts : List (List Nat) := [c0, [57, 65], [90, 97], [122]]
noncomputable def tx119 (i : Nat) : Str := hyp (S (cuts.getD i []))
noncomputable def Fv119 (i : Nat) (y : Value) : Prop := ∃ u, y = .str (tx119 i) u
theorem join119 : Txt.join (Str.ofString "-") ((List.range 4).map tx119) = S stuff1 := by decide +kernel
theorem ok119 : JoinOk (Str.ofString "-") ((List.range 4).map tx119) = true := by decide +kernel
theorem esc120 : escF isTil stuff1 = stuff2 := by decide +kernel
theorem yt_eq : S ([91] ++ stuff2 ++ [93]) = Yt := by decide +kernel
theorem elt119_all {w : World} {Cf : Addr} {code : Value} {A' : Around} {E' : Value → Shared → Prop} {i : Nat} {v : Value} {t : Shared} {m₂ : Str → Option Value} {env : Env} {q0 q1 q2 q3 : Tok} (hA : A'.handled = none) (hv : [Value.str (S c0) q0, Value.str (S [57, 65]) q1, Value.str (S [90, 97]) q2, Value.str (S [122]) q3][i]? = some v) (hns : t.heap.Ns Cf m₂) (hm : m₂ (Str.ofString "s") = some v) :
    wpAny (model PySem.Challenge.rw_in0021_01.prog w) A' (eval elt119 (genEnv scope119 [] Cf code builtinsNs env)) (fun y s₃ => Fv119 i y ∧ Keeps t s₃) E' t := by
  match i, hv with
  | 0, hv => cases hv; exact elt119_spec hA hns hm (by decide +kernel) (by decide)
  | 1, hv => cases hv; exact elt119_spec hA hns hm (by decide +kernel) (by decide)
  | 2, hv => cases hv; exact elt119_spec hA hns hm (by decide +kernel) (by decide)
  | 3, hv => cases hv; exact elt119_spec hA hns hm (by decide +kernel) (by decide)
  | _ + 4, hv => simp at hv
theorem tok4_of {h₀ h : Heap} {L C : Addr} {a b c : Value} {z : Str} {t : Tok} {n : Nat} {r : List (Addr × Obj)} (_N : News h₀ L h ((C, W.listOf #[a, b, c, .str z t] n) :: r)) : ∃ q, q = t := ⟨t, rfl⟩
theorem k_sub' {prog : Program} {w : World} {A : Around} {E : Value → Shared → Prop} {s : Shared} {h₀ : Heap} {L a : Addr} {m : Str → Option Value} {news : List (Addr × Obj)} {tx : Tok} {T T' code : List Nat} {groups : Nat} {f : Addr} {fo : Obj} {G : List Int → List Nat → Prop} {ps : List (List Nat)} {Q : Value → Shared → Prop} (F : Fr h₀ L s.heap m) (N : News h₀ L s.heap news) (hP : PatAt h₀ a code groups) (hg : groups ≤ 100) (hz : T.length ≤ 2 ^ 22)
    (hf : (f, fo) ∈ news) (hfc : fo.cls = .type "function") (cb : Calls1 prog w A s.heap f T tx G) (hr : Rest code.toArray groups T G 0 0 false ps) (hn : ps.length ≤ 2 ^ 19) (he : ps.flatten = T') (hs : T'.length ≤ 2 ^ 22)
    (hq : ∀ h' tk t, Fr h₀ L h' m → News h₀ L h' news → Q (.str (S T') t) { s with heap := h', toks := tk }) :
    wpAny (model prog w) A (call (.builtin "re.Pattern.sub") [.ref a, .ref f, .str (S T) tx]) Q E s := by
  subst he
  exact k_sub F N hP hg hz hf hfc cb hr hn hs hq
theorem k_callWith_bapp {M : Model} {A : Around} {E : Value → Shared → Prop} {s : Shared} {pos : Pos} {u D : Addr} {first : List Value} {env : Env} {e : Expr} {rest : List Expr} {Q : Value → Shared → Prop} {h₀ h : Heap} {L : Addr} {news : List (Addr × Obj)} (_N : News h₀ L h news) (_hm : (u, bapp D) ∈ news)
    (h : wpAny M A (spliced (backTo pos (starEach (e :: rest) env))) (fun vs s₁ => s₁.heap.get? u = some (bapp D) ∧ wpAny M A (call (.ref u) (first ++ vs)) Q E s₁) E s)
    (he : starEach (e :: rest) env = (false, eval e env) :: starEach rest env := by rfl) (hplain : (backTo pos (starEach rest env)).any (·.1) = false := by rfl) :
    wpAny M A (callWith pos (.ref u) first (backTo pos (starEach (e :: rest) env)) []) Q E s := by
  rw [he] at h ⊢
  have hp : (backTo pos ((false, eval e env) :: starEach rest env)).any (·.1) = false := by show (false || (backTo pos (starEach rest env)).any (·.1)) = false; rw [hplain]; rfl
  have h' : wpAny M A (evalArgs (.ref u) true (backTo pos ((false, eval e env) :: starEach rest env)) []) (fun x s₁ => s₁.heap.get? u = some (bapp D) ∧ wpAny M A (call (.ref u) (first ++ x.pos) x.kw) Q E s₁) E s := evalArgs_plain h
  unfold callWith
  refine wpAny_bind (wpAny_holding (wpAny_mono h' (fun x s₁ h₁ => wpAny_bind (wpAny_standAt ?_)) fun _ _ x => x))
  obtain ⟨ho, hcall⟩ := h₁
  simp only [hp, List.any_nil, Bool.or_false]
  refine wpAny_bind (m := keeperOf (.ref u)) ?_
  unfold keeperOf
  refine wpAny_bind (wpAny_load ho ?_)
  simp only [show (Value.type "builtin_function_or_method" != Value.type "method") = true by decide, show (Value.type "builtin_function_or_method" == Value.type "builtin_function_or_method" || Value.type "builtin_function_or_method" == Value.type "method-wrapper") = true by decide, if_true]
  refine wpAny_pure ?_
  exact wpAny_bind (wpAny_mono hcall (fun r s₂ hr => wpAny_bind (wpAny_holding (wpAny_point (wpAny_pure hr)))) fun _ _ x => x)
theorem k_callapp' {prog : Program} {w : World} {A : Around} {E : Value → Shared → Prop} {s : Shared} {h₀ : Heap} {L x a : Addr} {m : Str → Option Value} {news news' : List (Addr × Obj)} {l : List Value} {n : Nat} {v : Value} {Q : Value → Shared → Prop} (F : Fr h₀ L s.heap m) (N : News h₀ L s.heap news) (hx : (x, bapp a) ∈ news)
    (U : Upd a (W.listOf l.toArray n) (W.listOf (l ++ [v]).toArray (n + 1)) news news') (hz : l.length ≤ 2 ^ 20) (h : ∀ h', Fr h₀ L h' m → News h₀ L h' news' → Q .none { s with heap := h' }) :
    wpAny (model prog w) A (call (.ref x) [v]) Q E s := by
  have e : l.toArray.push v = (l ++ [v]).toArray := by simp
  rw [← e] at U
  exact k_callapp F N hx U (by rw [List.size_toArray]; show l.length ≤ 2 ^ 24; omega) h
theorem emp91 : Str.empty ++ Str.ofString "[" = S [91] := rfl
theorem app93 {a : List Nat} : S a ++ Str.ofString "]" = S (a ++ [93]) := by
  have e : Str.ofString "]" = S [93] := rfl
  rw [e, S_append]
end Mine
end
section
theorem Mine.off_W12 : True := by (w_top off; trivial)
open PySem PySem.W PyProof.Rows PySem.Spec PySem.Calls
set_option Elab.async false
set_option maxRecDepth 100000
namespace Mine
set_option maxHeartbeats 4000000 in
theorem translate_spec {w : World} {mg mb : Str → Option Value} {p : Program} {loose : List Str} {mean : ExcName → Option Value} {dp un : Nat} {fr : Option (List Env)} {gd : Option (List Code)} {s : Shared} {TL : List (Addr × Obj)} {R : Result → Shared → Prop} {n : Nat} {t1 t2 : Tok}
    (H : Hid s.heap TL) (TB : Tabs TL) (X : (hf.heap_1 w.params).In (frz s.heap TL)) (Tp : Top p loose mean mg mb (frz s.heap TL)) (hroom : dp + 3 < recursionLimit) (hn : n ≤ 10) (hb : AllBare s.gens)
    (hR : ∀ h' tk g' TL' D (vs : List Value) (k : Nat), Grown s.heap h' TL TL' → Tabs TL' → AllBare g' → h'.get? D = some (W.listOf vs.toArray k) → (frz s.heap TL).get? D = none → D ≠ s.heap.objs.size → (∀ q ∈ TL', q.1 ≠ D) → vs.length = n → (∀ v ∈ vs, ∃ t, v = Value.str Yt t) →
      R (.ok (.ret (.ref D))) { s with heap := h', toks := tk, gens := g' }) :
    codeAny (model PySem.Challenge.rw_in0021_01.prog w) (Am dp un fr gd) (.call (.ref 111) ⟨[.str (S (reps n)) t1, .none, .str (Str.ofString ".") t2], []⟩) R s := by
  refine' enter (binds := [(Str.ofString "pat", .str (S (reps n)) t1), (Str.ofString "STAR", .none), (Str.ofString "QUESTION_MARK", .str (Str.ofString ".") t2)]) H X Tp ?k6 ?k7 ?k8 ?k9 ?kB ?_ ?c2 ?c3 ?c4 ?c5
  case k6 => k_is
  case k7 => k_is
  case k8 => show dp < recursionLimit; omega
  case k9 => exact BindsTo.of_eq rfl
  case kB => exact locs rfl
  case c2 => exact rfl
  case c3 => exact rfl
  case c4 => exact rfl
  case c5 => decide
  intro h₁ F N
  have hlen := reps_len n
  show wpAny _ _ _ _ _ _
  try k_fold
  (repeat' ((fail_if_success (with_reducible show wpAny _ _ (exec (Stmt.For _ _ _ _ _) _) _ _ _)); (fail_if_success (with_reducible show wpAny _ _ (exec (Stmt.While _ _ _ _) _) _ _ _)); first | (k_unfold; (try dsimp only)) | ((with_reducible show wpAny _ _ (exec _ _) _ _ _); k_fold) | (first | ((with_reducible show wpAny _ _ (call (Value.builtin "len") [Value.str (S _) _]) _ _ _); (refine len_str (by rw [S_len]; omega) ?_); (try rw [S_len]); (try dsimp only)) | ((with_reducible show wpAny _ _ (getAttr (Value.ref _) _ _) _ _ _); (refine' k_bapp ?zqF ?zqN ?zqM ?_; (case zqF => k_asm); (case zqN => k_asm); (case zqM => k_mem)); intro x' h' tk' F' N' l'; (try k_lt l'); (try dsimp only))) | walk1 | (dsimp only; walk1)))
  rename Fr _ _ _ _ => F'
  rename News _ _ _ _ => N'
  rename (∀ p ∈ TL, p.1 < _) => lD
  rename (_ ∧ AllLt _ TL) => lB
  obtain ⟨B, rfl⟩ := head_of2 N'
  obtain ⟨D, rfl⟩ := head_of3 N'
  have N'' : News (frz s.heap TL) s.heap.objs.size _ ((B, bapp D) :: (D, W.listOf #[] 0) :: TL) := fun p hp => N' p (.tail _ hp)
  refine While_invG (TInv n D B) (n₀ := n - 0) F' N'' ?j ?turn ?hE
  case hE => exact fun _ _ h => h.elim
  case j =>
    exact TInv.of (vs := []) (Nat.zero_le _) rfl (fun _ h => (nomatch h)) TB hb (fun q hq => Nat.ne_of_lt (allLt_mem lB.2 q hq)) (fun q hq => Nat.ne_of_lt (lD q hq)) rfl (nv := ((reps n).length : Int)) (by rw [hlen]; omega) rfl rfl rfl rfl rfl rfl rfl
  case turn =>
    have hDB : @LT.lt Nat _ D B := lB.1
    clear F' N' N'' lB lD
    rintro nl m₁ news₁ h tk g₁ F₁ N₁ ⟨t, vs, k, TL₁, iv, tt, ti, tn, tq, u, rfl, ht, rfl, hvl, hvy, TB₁, hb₁, sB, sD, hiv, rfl⟩
    rcases Nat.lt_or_eq_of_le ht with hlt | heq
    · have g0 : (reps n)[iv.toNat]? = some 91 := reps_get (a := 0) hlt (by omega) (by decide) rfl
      have g1 : (reps n)[(iv + 1).toNat]? = some 45 := reps_get (a := 1) hlt (by omega) (by decide) rfl
      have hltI : iv < 26 * (n : Int) := by omega
      have hltJ : iv + 1 < 26 * (n : Int) := by omega
      show wpAny _ _ _ _ _ _
      try k_fold
      (repeat' ((fail_if_success (with_reducible show wpAny _ _ (exec (Stmt.For _ _ _ _ _) _) _ _ _)); (fail_if_success (with_reducible show wpAny _ _ (exec (Stmt.While _ _ _ _) _) _ _ _)); first | (k_unfold; (try dsimp only)) | ((with_reducible show wpAny _ _ (exec _ _) _ _ _); k_fold) | (first | ((with_reducible show wpAny _ _ (compareOp CmpOp.Eq (Value.str _ _) (Value.str _ _)) _ _ _); (first | (refine k_eq_is true (by first | assumption | rfl) ?_) | (refine k_eq_is false (by first | assumption | rfl) ?_)); (try dsimp only)) | ((with_reducible show wpAny _ _ (subscriptTail _ _ (Value.str (S _) _) (Value.int _ _)) _ _ _); (refine k_at (by omega) (by omega) (by assumption) ?_); intro t' k'; (try dsimp only))) | walk1 | (dsimp only; walk1)))
      rename Fr _ _ _ _ => F'
      rename News _ _ _ _ => N'
      obtain ⟨ti', eti⟩ := tok_of (x := Str.ofString "i") (v := iv + 1) F' rfl
      refine While_inv2 (JInv n t [(Str.ofString "pat", .str (S (reps n)) tt), (Str.ofString "STAR", .none), (Str.ofString "QUESTION_MARK", .str (Str.ofString ".") tq), (Str.ofString "res", .ref D), (Str.ofString "add", .ref B), (Str.ofString "i", .int (iv + 1) ti'), (Str.ofString "n", .int (26 * (n : Int)) tn)] ((B, bapp D) :: (D, W.listOf vs.toArray k) :: TL₁)) (n₀ := 25 - 1) F' N' ?jJ ?turnJ ?hEJ
      case hEJ => exact fun _ _ h => h.elim
      case jJ =>
        exact JInv.of (a := 1) (by decide) (by decide) (by omega) rfl (by intro p hp; simp only [List.mem_cons, List.not_mem_nil, or_false] at hp; rcases hp with rfl | rfl | rfl | rfl | rfl | rfl | rfl <;> first | rfl | exact eti)
      case turnJ =>
        clear F' N' eti
        rintro nj m₂ news₂ h2 tk2 F₂ N₂ ⟨a, jv, tj, u2, rfl, ha1, ha2, hjv, rfl, rfl⟩
        have hjn : jv < 26 * (n : Int) := by omega
        rcases Nat.lt_or_eq_of_le ha2 with hlt2 | heq2
        · obtain ⟨c, hc, hc93⟩ := Z_mid hlt2
          have gj : (reps n)[jv.toNat]? = some c := reps_get hlt (by omega) (by omega) hc
          have hcb : (S [c] == Str.ofString "]") = false := S_one_ne rfl hc93
          show wpAny _ _ _ _ _ _
          try k_fold
          (repeat' ((fail_if_success (with_reducible show wpAny _ _ (exec (Stmt.For _ _ _ _ _) _) _ _ _)); (fail_if_success (with_reducible show wpAny _ _ (exec (Stmt.While _ _ _ _) _) _ _ _)); first | (k_unfold; (try dsimp only)) | ((with_reducible show wpAny _ _ (exec _ _) _ _ _); k_fold) | (first | ((with_reducible show wpAny _ _ (compareOp CmpOp.NotEq (Value.str _ _) (Value.str _ _)) _ _ _); (first | (refine k_ne_is true (by first | assumption | rfl) ?_) | (refine k_ne_is false (by first | assumption | rfl) ?_)); (try dsimp only [Bool.not_true, Bool.not_false])) | ((with_reducible show wpAny _ _ (subscriptTail _ _ (Value.str (S _) _) (Value.int _ _)) _ _ _); (refine k_at (by omega) (by omega) (by assumption) ?_); intro t' k'; (try dsimp only))) | walk1 | (dsimp only; walk1)))
          rename Fr _ _ _ _ => F'
          rename News _ _ _ _ => N'
          exact ⟨_, _, _, _, _, rfl, F', N', by omega, JInv.of (a := a + 1) (by omega) (by omega) (by omega) rfl (by intro p hp; simp only [List.mem_cons, List.not_mem_nil, or_false] at hp; rcases hp with rfl | rfl | rfl | rfl | rfl | rfl | rfl <;> rfl)⟩
        · subst heq2
          have gj : (reps n)[jv.toNat]? = some 93 := reps_get (a := 25) hlt (by omega) (by decide) rfl
          have cut1 : CutIs (reps n) (iv + 1) jv (stuff0) := reps_cutIs (a := 1) (b := 25) hlt (by omega) (by omega) (by decide) (by decide) rfl
          have hin : Txt.contains (S stuff0) (Str.ofString "-") = true := contains_stuff
          have hpl := plan_reps (i := iv + 1) (k := iv + 1 + 1) (j := jv) hlt hn (by omega) (by omega) (by omega)
          show wpAny _ _ _ _ _ _
          try k_fold
          (repeat' ((fail_if_success (with_reducible show wpAny _ _ (exec (Stmt.For _ _ _ _ _) _) _ _ _)); (fail_if_success (with_reducible show wpAny _ _ (exec (Stmt.While _ _ _ _) _) _ _ _)); first | (k_unfold; (try dsimp only)) | ((with_reducible show wpAny _ _ (exec _ _) _ _ _); k_fold) | (first | ((with_reducible show wpAny _ _ (compareOp CmpOp.NotIn (Value.str _ _) (Value.str _ _)) _ _ _); (refine k_notin (by assumption) ?_); (try dsimp only [Bool.not_true, Bool.not_false])) | ((with_reducible show wpAny _ _ (compareOp CmpOp.NotEq (Value.str _ _) (Value.str _ _)) _ _ _); (first | (refine k_ne_is true (by first | assumption | rfl) ?_) | (refine k_ne_is false (by first | assumption | rfl) ?_)); (try dsimp only [Bool.not_true, Bool.not_false])) | ((with_reducible show wpAny _ _ (compareOp CmpOp.Eq (Value.str _ _) (Value.str _ _)) _ _ _); (first | (refine k_eq_is true (by first | assumption | rfl) ?_) | (refine k_eq_is false (by first | assumption | rfl) ?_)); (try dsimp only)) | ((with_reducible show wpAny _ _ (subscriptTail _ (Expr.Slice (some _) (some _) none _) (Value.str (S _) _) _) _ _ _); (refine k_cut (s := ⟨_, _, _, _, _⟩) (by k_asm) (by k_asm) (by assumption) (by omega) ?_); intro h' t' k' F' N'; (try dsimp only)) | ((with_reducible show wpAny _ _ (subscriptTail _ _ (Value.str (S _) _) (Value.int _ _)) _ _ _); (refine k_at (by omega) (by omega) (by assumption) ?_); intro t' k'; (try dsimp only))) | walk1 | (dsimp only; walk1)))
          rename Fr _ _ _ _ => F'
          rename News _ _ _ _ => N'
          obtain ⟨C, rfl⟩ := head_of N'
          rename (_ ∧ _ ∧ AllLt _ TL₁) => lC
          have sC : ∀ q ∈ TL₁, q.1 ≠ C := fun q hq => Nat.ne_of_lt (allLt_mem lC.2.2 q hq)
          have hBC : @Ne Nat B C := Nat.ne_of_lt lC.1
          have hDC : @Ne Nat D C := Nat.ne_of_lt lC.2.1
          refine While_inv2 (KInv (reps n) jv (26 * (t : Int) + 24) [c0, [57, 65], [90, 97]] C [(Str.ofString "pat", .str (S (reps n)) tt), (Str.ofString "STAR", .none), (Str.ofString "QUESTION_MARK", .str (Str.ofString ".") tq), (Str.ofString "res", .ref D), (Str.ofString "add", .ref B), (Str.ofString "n", .int (26 * (n : Int)) tn), (Str.ofString "j", .int jv tj), (Str.ofString "chunks", .ref C)] ((B, bapp D) :: (D, W.listOf vs.toArray k) :: TL₁)) (n₀ := 3) F' N' ?jK ?turnK ?hEK
          case hEK => exact fun _ _ h => h.elim
          case jK =>
            exact KInv.of (cs := []) (dn := []) (vs := [c0, [57, 65], [90, 97]]) hpl rfl .nil (by omega) (by omega) rfl rfl (by intro p hp; simp only [List.mem_cons, List.not_mem_nil, or_false] at hp; rcases hp with rfl | rfl | rfl | rfl | rfl | rfl | rfl | rfl <;> rfl)
          case turnK =>
            clear F' N' lC hpl
            rintro nk m₃ news₃ h3 tk3 F₃ N₃ ⟨iv2, kv, cs, k2, dn, vs2, ti2, tk2', u3, rfl, hpl2, hall, hcs, rfl, hk0, hk1, rfl⟩
            cases vs2 with
            | cons v vs3 =>
              obtain ⟨r, hfind, hr0, hr1, hcut, hpl3⟩ := hpl2
              have hcl : cs.length ≤ 3 := by
                have e1 := hcs.length
                have e2 := congrArg List.length hall
                simp only [List.length_append, List.length_cons, List.length_nil] at e2
                omega
              show wpAny _ _ _ _ _ _
              try k_fold
              (repeat' ((fail_if_success (with_reducible show wpAny _ _ (exec (Stmt.For _ _ _ _ _) _) _ _ _)); (fail_if_success (with_reducible show wpAny _ _ (exec (Stmt.While _ _ _ _) _) _ _ _)); first | (k_unfold; (try dsimp only)) | ((with_reducible show wpAny _ _ (exec _ _) _ _ _); k_fold) | (first | ((with_reducible show wpAny _ _ (call (Value.builtin "list.append") [Value.ref _, _]) _ _ _); (refine' k_append ?zqF ?zqN ?zqU ?zqz ?_; (case zqF => k_asm); (case zqN => k_asm); (case zqU => (first | ((repeat (first | (refine' Upd.head ?zqb; (case zqb => ((repeat (first | assumption | exact sep_at' (by assumption) (.tail _ (.tail _ (.head _))) | (refine' List.forall_mem_cons.mpr ⟨?zqc, ?_⟩; (case zqc => k_ne)))); done))) | (refine' Upd.tail ?zqa ?_; (case zqa => first | assumption | k_ne); rotate_left))); done) | k_upd)); (case zqz => first | omega | (simp only [List.length_append, List.length_cons, List.length_nil]; omega))); intro h' F' N'; (try dsimp only)) | ((with_reducible show wpAny _ _ (call (Value.builtin "str.find") [Value.str _ _, Value.str _ _, Value.int _ _, Value.int _ _]) _ _ _); (refine k_find4 (by assumption) ?_); intro t' k'; (try dsimp only)) | ((with_reducible show wpAny _ _ (subscriptTail _ (Expr.Slice (some _) (some _) none _) (Value.str (S _) _) _) _ _ _); (refine k_cut (s := ⟨_, _, _, _, _⟩) (by k_asm) (by k_asm) (by assumption) (by omega) ?_); intro h' t' k' F' N'; (try dsimp only))) | walk1 | (dsimp only; walk1)))
              rename Fr _ _ _ _ => F'
              rename News _ _ _ _ => N'
              exact ⟨_, _, _, _, _, rfl, F', N', by simp, KInv.of hpl3 (by rw [hall]; simp) hcs.snoc (by omega) (by omega) rfl rfl (by intro p hp; simp only [List.mem_cons, List.not_mem_nil, or_false] at hp; rcases hp with rfl | rfl | rfl | rfl | rfl | rfl | rfl | rfl <;> rfl)⟩
            | nil =>
              obtain ⟨hfind, rfl⟩ := hpl2
              rw [List.append_nil] at hall
              subst hall
              obtain ⟨q0, q1, q2, rfl⟩ := txts3 hcs
              have cut2 : CutIs (reps n) (26 * (t : Int) + 24) jv [122] := reps_cutIs (a := 24) (b := 25) hlt (by omega) (by omega) (by decide) (by decide) rfl
              have htr : ([122] : List Nat).isEmpty = !true := rfl
              show wpAny _ _ _ _ _ _
              try k_fold
              (repeat' ((fail_if_success (with_reducible show wpAny _ _ (exec (Stmt.For _ _ _ _ _) _) _ _ _)); (fail_if_success (with_reducible show wpAny _ _ (exec (Stmt.While _ _ _ _) _) _ _ _)); first | (k_unfold; (try dsimp only)) | ((with_reducible show wpAny _ _ (exec _ _) _ _ _); k_fold) | (first | ((with_reducible show wpAny _ _ (call (Value.builtin "str.find") [Value.str _ _, Value.str _ _, Value.int _ _, Value.int _ _]) _ _ _); (refine k_find4 (by assumption) ?_); intro t' k'; (try dsimp only))) | walk1 | (dsimp only; walk1)))
              rename Fr _ _ _ _ => F'
              rename News _ _ _ _ => N'
              show wpAny _ _ _ _ _ _
              try k_fold
              (repeat' ((fail_if_success (with_reducible show wpAny _ _ (exec (Stmt.For _ _ _ _ _) _) _ _ _)); (fail_if_success (with_reducible show wpAny _ _ (exec (Stmt.While _ _ _ _) _) _ _ _)); first | (k_unfold; (try dsimp only)) | ((with_reducible show wpAny _ _ (exec _ _) _ _ _); k_fold) | (first | ((with_reducible show wpAny _ _ (truthy (Value.str (S _) _)) _ _ _); (first | refine k_truthy true (by first | omega | decide) (by assumption) ?_ | refine k_truthy false (by first | omega | decide) (by assumption) ?_); intro tk'; (try dsimp only)) | ((with_reducible show wpAny _ _ (call (Value.builtin "list.append") [Value.ref _, _]) _ _ _); (refine' k_append ?zqF ?zqN ?zqU ?zqz ?_; (case zqF => k_asm); (case zqN => k_asm); (case zqU => (first | ((repeat (first | (refine' Upd.head ?zqb; (case zqb => ((repeat (first | assumption | exact sep_at' (by assumption) (.tail _ (.tail _ (.head _))) | (refine' List.forall_mem_cons.mpr ⟨?zqc, ?_⟩; (case zqc => k_ne)))); done))) | (refine' Upd.tail ?zqa ?_; (case zqa => first | assumption | k_ne); rotate_left))); done) | k_upd)); (case zqz => first | omega | (simp only [List.length_append, List.length_cons, List.length_nil]; omega))); intro h' F' N'; (try dsimp only)) | ((with_reducible show wpAny _ _ (subscriptTail _ (Expr.Slice (some _) (some _) none _) (Value.str (S _) _) _) _ _ _); (refine k_cut (s := ⟨_, _, _, _, _⟩) (by k_asm) (by k_asm) (by assumption) (by omega) ?_); intro h' t' k' F' N'; (try dsimp only))) | walk1 | (dsimp only; walk1)))
              rename Fr _ _ _ _ => F'
              rename News _ _ _ _ => N'
              obtain ⟨q3, eq3⟩ := strtok_of (x := Str.ofString "chunk") (v := S [122]) F' rfl
              have N'' : News (frz s.heap TL) s.heap.objs.size _ ((C, W.listOf [Value.str (S c0) q0, Value.str (S [57, 65]) q1, Value.str (S [90, 97]) q2, Value.str (S [122]) _].toArray (k2 + 1)) :: (B, bapp D) :: (D, W.listOf vs.toArray k) :: TL₁) := N'
              clear N'
              (repeat' ((fail_if_success (with_reducible show wpAny _ _ (exec (Stmt.While _ _ _ _) _) _ _ _)); (fail_if_success (with_reducible show wpAny _ _ (eval (Expr.GeneratorExp _ _ _ _) _) _ _ _)); first | (k_unfold; (try dsimp only)) | ((with_reducible show wpAny _ _ (exec _ _) _ _ _); k_fold) | (first | ((with_reducible show UnrEnd _ _ _ _ _ _ _); (refine' UnrEnd.intro ?zqF ?zqN _ (fun p hp => hp) ?zqo ?_; (case zqF => k_asm); (case zqN => k_asm); (case zqo => exact off4 (by assumption)))) | ((with_reducible show wpAny _ _ (compareOp CmpOp.Gt (Value.str (S [_]) _) (Value.str (S [_]) _)) _ _ _); (refine k_gt1 (r := false) (by decide) ?_); (try dsimp only)) | ((with_reducible show wpAny _ _ (subscriptTail _ (Expr.UnaryOp _ _ _) (Value.str (S _) _) (Value.int (-1) _)) _ _ _); (refine k_tlast rfl (by decide) ?_); intro t' k'; (try dsimp only)) | ((with_reducible show wpAny _ _ (subscriptTail _ (Expr.Constant _ _ _) (Value.str (S _) _) (Value.int _ _)) _ _ _); (refine k_at (by decide) (by decide) rfl ?_); intro t' k'; (try dsimp only)) | ((with_reducible show wpAny _ _ (subscriptTail _ _ (Value.ref _) (Value.int _ _)) _ _ _); (refine k_item (by k_asm) (by k_mem) (by decide) (by decide) rfl ?_); (try dsimp only))) | walk1 | (dsimp only; walk1)))
              rename Fr _ _ _ _ => F'
              rename News _ _ _ _ => N'
              obtain ⟨q3', rfl⟩ := tok4_of N'
              have C110 : CodeHd (frz s.heap TL) 110 106 := ⟨_, _, _, _, _, _, _, _, _, X _ _ (by k_is), rfl, rfl, rfl, rfl, rfl, rfl, rfl, rfl, by decide⟩
              have P92 : PatAt (frz s.heap TL) 92 cTilde 1 := ⟨_, _, _, _, _, X _ _ (by k_is), X _ _ (by k_is)⟩
              refine' k_genexp (D := C) (vs := [Value.str (S c0) q0, Value.str (S [57, 65]) q1, Value.str (S [90, 97]) q2, Value.str (S [122]) q3']) (Fv := Fv119) (pre := [(C, W.listOf #[Value.str (S c0) q0, Value.str (S [57, 65]) q1, Value.str (S [90, 97]) q2, Value.str (S [122]) q3'] (k2 + 1)), (B, bapp D), (D, W.listOf vs.toArray k)]) F' N' hb₁ TB₁ (.cons (.cons (.cons .nil))) (.inr (.inr ⟨rfl, rfl⟩)) ?sep Tp C110 rfl rfl rfl (.head _) ?hi rfl rfl rfl ?hcell rfl rfl rfl ?hroom ?helt ?_
              case sep => exact sep_cons sC (sep_cons sB (sep_cons sD sep_nil))
              case hcell => decide
              case hroom => show dp + 1 < recursionLimit; omega
              case helt => exact fun Cf code A' E' i v t m₂ hA hv hns hmx => elt119_all hA hv hns hmx
              case hi => (repeat' ((fail_if_success (with_reducible show wpAny _ _ (exec (Stmt.For _ _ _ _ _) _) _ _ _)); (fail_if_success (with_reducible show wpAny _ _ (exec (Stmt.While _ _ _ _) _) _ _ _)); first | (k_unfold; (try dsimp only)) | ((with_reducible show wpAny _ _ (exec _ _) _ _ _); k_fold) | fail | walk1 | (dsimp only; walk1)))
              clear F' N' TB₁ hb₁
              intro a4 TL4 h4 g4 tk4 F4 N4 TB4 sep4 G4 X4
              obtain ⟨ps4, hr4, hfl4, hpn4⟩ := one_rest one_til (T := stuff1) _ 0 (Nat.le_refl _)
              rw [List.drop_zero, esc120] at hfl4
              have hpn5 : ps4.length ≤ 100 := Nat.le_trans hpn4 (by decide)
              clear hpn4
              have htr2 : stuff2.isEmpty = !true := rfl
              have hroom4 : dp + 1 + 1 < recursionLimit := by omega
              show wpAny _ _ _ _ _ _
              (repeat' ((fail_if_success (with_reducible show wpAny _ _ (exec (Stmt.For _ _ _ _ _) _) _ _ _)); (fail_if_success (with_reducible show wpAny _ _ (exec (Stmt.While _ _ _ _) _) _ _ _)); first | (k_unfold; (try dsimp only)) | ((with_reducible show wpAny _ _ (exec _ _) _ _ _); k_fold) | (first | ((with_reducible show wpAny _ _ (truthy (Value.str (S _) _)) _ _ _); (first | refine k_truthy true (by first | omega | decide) (by assumption) ?_ | refine k_truthy false (by first | omega | decide) (by assumption) ?_); intro tk'; (try dsimp only)) | ((with_reducible show wpAny _ _ (call (Value.ref _) [Value.str (S _) _]) _ _ _); (refine' k_callapp' ?zqF ?zqN ?zqM ?zqU ?zqz ?_; (case zqF => k_asm); (case zqN => k_asm); (case zqM => k_mem); (case zqU => (first | ((repeat (first | (refine' Upd.head ?zqb; (case zqb => ((repeat (first | assumption | exact sep_at' (by assumption) (.tail _ (.tail _ (.head _))) | (refine' List.forall_mem_cons.mpr ⟨?zqc, ?_⟩; (case zqc => k_ne)))); done))) | (refine' Upd.tail ?zqa ?_; (case zqa => first | assumption | k_ne); rotate_left))); done) | k_upd)); (case zqz => omega)); intro h' F' N'; (try dsimp only)) | ((with_reducible show _ ∧ wpAny _ _ (call (Value.ref _) _) _ _ _); (refine' ⟨?zqg, ?_⟩; (case zqg => exact news_get (by k_asm) (by k_mem))); (try dsimp only)) | ((with_reducible show wpAny _ _ (callWith _ (Value.ref _) [] (backTo _ (starEach [Expr.JoinedStr _ _] _)) []) _ _ _); (refine' k_callWith_bapp ?zqN ?zqM ?_; (case zqN => k_asm); (case zqM => k_mem)); (try dsimp only)) | ((with_reducible show wpAny _ _ (formatField (Value.str (S _) _) _) _ _ _); (refine formatField_str (hsz := ?zqhsz) ?_; (case zqhsz => decide)); intro _ _; (try dsimp only)) | ((with_reducible show wpAny _ _ (joinParts (S _) (evalEach [] _)) _ _ _); (refine joinParts_nilE (joinParts_nil ?_ ?zqz); (case zqz => decide)); (try dsimp only)) | ((with_reducible show _ ∧ wpAny _ _ (joinParts _ _) _ _ _); (refine' parts_and ?zqe ?zqz ?_; (case zqe => with_reducible first | exact emp91 | exact app93 | exact emp_S | exact S_append _ _); (case zqz => decide))) | ((with_reducible show wpAny _ _ (call (Value.builtin "re.Pattern.sub") _) _ _ _); (refine' k_sub' (T' := stuff2) ?zqF ?zqN ?zqP ?zqg ?zqz ?zqhf ?zqhfc ?zqcb ?zqhr ?zqn ?zqhe ?zqsz ?_; (case zqF => k_asm); (case zqN => k_asm); (case zqP => assumption); (case zqg => decide); (case zqz => decide); (case zqhf => k_mem); (case zqhfc => exact rfl); (case zqhr => assumption); (case zqn => omega); (case zqhe => assumption); (case zqsz => decide); (case zqcb => (refine' lam_cb106 ?zqX ?zqT ?zqroom ?zqzz ?zqho ?zqhcd; (case zqX => exact Frag.In.keeps (by assumption) (Fr.keep (by assumption))); (case zqT => exact Top.keeps (by assumption) (Fr.keep (by assumption))); (case zqroom => assumption); (case zqzz => decide); (case zqho => exact news_get (by k_asm) (by k_mem)); (case zqhcd => exact codeRec_news (by k_asm) (by repeat (first | assumption | apply List.Mem.tail | apply List.mem_append_right)) (by assumption) (by assumption))))); intro h' tk' t' F' N'; (try dsimp only)) | ((with_reducible show wpAny _ _ (eval (Expr.Lambda _ _ _ _) _) _ _ _); (refine' k_lambda ?zqF ?zqN ?zqTB (Endg.cons (Endg.cons (Endg.cons Endg.nil))) (.inr (.inr ⟨rfl, rfl⟩)) ?zqsep ?zqT ?zqC ?zqcd ?zqdf ?zqql ?zqqq ?zqcl ?_; (case zqF => k_asm); (case zqN => k_asm); (case zqTB => assumption); (case zqsep => assumption); (case zqT => k_asm); (case zqcd => exact rfl); (case zqC => assumption); (case zqdf => exact rfl); (case zqqq => exact rfl); (case zqql => exact rfl); (case zqcl => exact rfl)); intro f' c' oc' vs' t' ct' TL' h' tk' F' N' TB' sep' hm' hd' hv' l'; (try dsimp only [List.cons_append, List.nil_append] at N' sep' l'); (try k_lt l'); (try dsimp only)) | ((with_reducible show wpAny _ _ (getMethod (Value.ref _) _ _) _ _ _); (refine' k_getMethod_pat ?zqF ?zqM slot_re_Pattern_sub type_re_Pattern_sub ?_; (case zqF => k_asm); (case zqM => assumption))) | ((with_reducible show wpAny _ _ (call (Value.builtin "str.join") [Value.str _ _, Value.ref _]) _ _ _); (refine' k_joingen (tx := tx119) ?zqF ?zqN ?zqG ?zqX ?zqtx ok119 join119 ?zqn ?_; (case zqF => k_asm); (case zqN => k_asm); (case zqG => assumption); (case zqX => assumption); (case zqtx => exact fun j v h => h); (case zqn => decide)); intro h' g' tk' t' F' N' G'; (try dsimp only)) | ((with_reducible show wpAny _ _ (subscriptTail _ (Expr.Constant _ _ _) (Value.str (S _) _) (Value.int _ _)) _ _ _); (refine k_at (by decide) (by decide) rfl ?_); intro t' k'; (try dsimp only)) | ((with_reducible show wpAny _ _ (compareOp CmpOp.Eq (Value.str _ _) (Value.str _ _)) _ _ _); (first | (refine k_eq_is true (by first | assumption | rfl) ?_) | (refine k_eq_is false (by first | assumption | rfl) ?_)); (try dsimp only))) | walk1 | (dsimp only; walk1)))
              rename Fr _ _ _ _ => F'
              rename News _ _ _ _ => N'
              rename Tabs _ => TB5
              exact ⟨_, _, _, _, _, _, rfl, F', fun p hp => N' p (.tail _ (.tail _ (.tail _ hp))), by omega, TInv.of (t := t + 1) (by omega) (by rw [List.length_append, hvl]; rfl) (fun v hv => (List.mem_append.mp hv).elim (hvy v) fun hv => ⟨_, (List.mem_singleton.mp hv).trans (by rw [← yt_eq]; rfl)⟩) TB5 (by assumption) (sep_at' (by assumption) (.tail _ (.head _))) (sep_at' (by assumption) (.tail _ (.tail _ (.head _)))) (by omega) rfl rfl rfl rfl rfl rfl rfl rfl⟩
    · obtain rfl : t = n := heq
      subst hiv
      show wpAny _ _ _ _ _ _
      try k_fold
      (repeat' ((fail_if_success (with_reducible show wpAny _ _ (exec (Stmt.For _ _ _ _ _) _) _ _ _)); (fail_if_success (with_reducible show wpAny _ _ (exec (Stmt.While _ _ _ _) _) _ _ _)); first | (k_unfold; (try dsimp only)) | ((with_reducible show wpAny _ _ (exec _ _) _ _ _); k_fold) | fail | walk1 | (dsimp only; walk1)))
      rename Fr _ _ _ _ => F'
      rename News _ _ _ _ => N'
      have nD := N' (D, W.listOf vs.toArray k) (.tail _ (.head _))
      exact hR _ _ _ TL₁ D vs k (Grown.of F' N' (fun p hp => .tail _ (.tail _ hp)) (Nat.le_refl _)) TB₁ hb₁ nD.1 nD.2.2 nD.2.1 sD hvl hvy
end Mine
end
section
theorem Mine.off_MZ : True := by (w_top off; trivial)
open PySem PySem.W PyProof.Rows PySem.Spec PySem.Calls
set_option Elab.async false
set_option maxRecDepth 100000
namespace Mine
section
variable {prog : Program} {w : World} {A : Around} {E : Value → Shared → Prop} {s : Shared}
/-- an iterator over a text, of the one kind or the other -/
noncomputable def StrIt (h : Heap) (a : Addr) (x : Str) (t : Tok) (i : Nat) : Prop := h.IsStrIter a "str_ascii_iterator" x t i ∨ h.IsStrIter a "str_iterator" x t i
theorem StrIt.at {h h' : Heap} {a : Addr} {x : Str} {t : Tok} {i : Nat} (y : StrIt h a x t i) (hk : ∀ o, h.get? a = some o → h'.get? a = some o) : StrIt h' a x t i := by
  rcases y with ⟨o, e, r⟩ | ⟨o, e, r⟩
  · exact .inl ⟨o, hk o e, r⟩
  · exact .inr ⟨o, hk o e, r⟩
theorem StrIt.lt {h : Heap} {a : Addr} {x : Str} {t : Tok} {i : Nat} (y : StrIt h a x t i) : a < h.objs.size := by
  rcases y with ⟨o, e, r⟩ | ⟨o, e, r⟩ <;> exact Heap.lt_size e
theorem pyIter_str {x : Str} {t : Tok} {Q : Value → Shared → Prop} (hQ : ∀ o, StrIt (s.heap.push o) s.heap.objs.size x t 0 → Q (.ref s.heap.objs.size) { s with heap := s.heap.push o }) : wpAny (model prog w) A (pyIter (.str x t)) Q E s := by
  cases ha : x.cps.all (· < 128) with
  | true => exact wpAny_pyIter_ascii ha (hQ _ (.inl ⟨_, Heap.get?_push_size _ rfl, rfl, rfl⟩))
  | false => exact wpAny_pyIter_wide ha (hQ _ (.inr ⟨_, Heap.get?_push_size _ rfl, rfl, rfl⟩))
theorem nextOf_str {it : Addr} {x : Str} {t : Tok} {i c : Nat} {Q : Value → Shared → Prop} (hit : StrIt s.heap it x t i) (hx : x.cps[i]? = some c)
    (hQ : ∀ h', StrIt h' it x t (i + 1) → Heap.SameBut it s.heap h' → Q (.str ⟨#[c]⟩ s.toks) { s with heap := h', toks := s.toks + 1 }) : wpAny (model prog w) A (Builtin.SmallTypes.nextOf (.ref it)) Q E s := by
  unfold Builtin.SmallTypes.nextOf
  rcases hit with hit | hit
  · obtain ⟨o, ho, hc, hd⟩ := id hit
    refine wpAny_bind (wpAny_callSpecial?_slot (name := Str.ofString "__next__") hit.typeIs F.slot_str_ascii_iterator_next (wpAny_call_entry F.slot_str_ascii_iterator_next hit.typeIs F.entry_str_ascii_iterator_next ?_ (F.args_str_ascii_iterator_next_1 _)))
    show wpAny _ _ (field (.ref it) 0 >>= _) _ _ s
    refine wpAny_bind (wpAny_field ho hd (x := .str x t) rfl ?_)
    show wpAny _ _ (field (.ref it) 1 >>= _) _ _ s
    refine wpAny_bind (wpAny_field ho hd (x := .int i 0) rfl ?_)
    simp only [Int.toNat_natCast, hx]
    refine wpAny_bind (wpAny_setField ho hd (by simp) (wpAny_bind (wpAny_mkStr (wpAny_pure ⟨_, rfl, wpAny_pure (hQ _ (.inl ?_) (Heap.SameBut.update ..))⟩) (by show 1 ≤ sizeLine; decide))))
    exact ⟨_, Heap.get?_update_self _ ho (Obj.isFreed_of_fields (Obj.data_mapFields hd _)), (Obj.cls_mapFields ..).trans hc, by rw [Obj.data_mapFields hd]; simp [rawInt]⟩
  · obtain ⟨o, ho, hc, hd⟩ := id hit
    refine wpAny_bind (wpAny_callSpecial?_slot (name := Str.ofString "__next__") hit.typeIs F.slot_str_iterator_next (wpAny_call_entry F.slot_str_iterator_next hit.typeIs F.entry_str_iterator_next ?_ (F.args_str_iterator_next_1 _)))
    show wpAny _ _ (field (.ref it) 0 >>= _) _ _ s
    refine wpAny_bind (wpAny_field ho hd (x := .str x t) rfl ?_)
    show wpAny _ _ (field (.ref it) 1 >>= _) _ _ s
    refine wpAny_bind (wpAny_field ho hd (x := .int i 0) rfl ?_)
    simp only [Int.toNat_natCast, hx]
    refine wpAny_bind (wpAny_setField ho hd (by simp) (wpAny_bind (wpAny_mkStr (wpAny_pure ⟨_, rfl, wpAny_pure (hQ _ (.inr ?_) (Heap.SameBut.update ..))⟩) (by show 1 ≤ sizeLine; decide))))
    exact ⟨_, Heap.get?_update_self _ ho (Obj.isFreed_of_fields (Obj.data_mapFields hd _)), (Obj.cls_mapFields ..).trans hc, by rw [Obj.data_mapFields hd]; simp [rawInt]⟩
/-- the zip of a list and a text at its place i -/
structure ZAt (h : Heap) (z TI TO i1 i2 l : Addr) (xs : Array Value) (x : Str) (t : Tok) (i : Nat) (f0 : Value) : Prop where
  zip : IsZip h z TI TO f0
  ti : IsPair h TI (.ref i1) (.ref i2)
  to : ∃ a b, IsPair h TO a b
  it1 : h.IsListIter i1 l i
  it2 : StrIt h i2 x t i
  list : h.IsList l xs
/-- the parts lie apart -/
structure ZNe (z TI TO i1 i2 l : Addr) : Prop where
  a1 : TI ≠ z
  a2 : TO ≠ z
  a3 : i1 ≠ z
  a4 : i2 ≠ z
  a5 : l ≠ z
  b1 : TI ≠ TO
  b2 : i1 ≠ TO
  b3 : i2 ≠ TO
  b4 : l ≠ TO
  c1 : TI ≠ i1
  c2 : i2 ≠ i1
  c3 : l ≠ i1
  d1 : TI ≠ i2
  d2 : l ≠ i2
theorem ZAt.keeps {h h' : Heap} {z TI TO i1 i2 l : Addr} {xs : Array Value} {x : Str} {t : Tok} {i : Nat} {f0 : Value} (Z : ZAt h z TI TO i1 i2 l xs x t i f0) (k : ∀ b o, b = z ∨ b = TI ∨ b = TO ∨ b = i1 ∨ b = i2 ∨ b = l → h.get? b = some o → h'.get? b = some o) : ZAt h' z TI TO i1 i2 l xs x t i f0 :=
  ⟨k _ _ (.inl rfl) Z.zip, k _ _ (.inr (.inl rfl)) Z.ti, let ⟨a, b, e⟩ := Z.to; ⟨a, b, k _ _ (.inr (.inr (.inl rfl))) e⟩, Z.it1.at fun o e => k _ o (.inr (.inr (.inr (.inl rfl)))) e, Z.it2.at fun o e => k _ o (.inr (.inr (.inr (.inr (.inl rfl))))) e, Z.list.at fun o e => k _ o (.inr (.inr (.inr (.inr (.inr rfl))))) e⟩
theorem zs_item {z TI TO i1 i2 l : Addr} {xs : Array Value} {x : Str} {t : Tok} {i c : Nat} {v : Value} {Q : Option Value → Shared → Prop} (D : ZNe z TI TO i1 i2 l) (Z : ZAt s.heap z TI TO i1 i2 l xs x t i .none) (hx : xs[i]? = some v) (hy : x.cps[i]? = some c)
    (hQ : ∀ h' (T : Addr) u tk, ZAt h' z TI TO i1 i2 l xs x t (i + 1) (rawInt T) → IsPair h' T v (.str ⟨#[c]⟩ u) → s.heap.objs.size ≤ T → (∀ b o, b ≠ z → b ≠ TO → b ≠ i1 → b ≠ i2 → s.heap.get? b = some o → h'.get? b = some o) → Q (some (.ref T)) { s with heap := h', toks := tk }) :
    wpAny (model prog w) A (pyNext (.ref z)) Q E s := by
  obtain ⟨hz, hTI, ⟨a, b, hTO⟩, h1, h2, hl⟩ := Z
  have hT : s.TypeIs (.ref z) "zip" := ⟨_, hz, rfl⟩
  unfold pyNext
  refine wpAny_bind (wpAny_attempt (wpAny_callSpecial?_slot (name := Str.ofString "__next__") hT F.slot_zip_next (wpAny_call_entry F.slot_zip_next hT F.entry_zip_next ?_ (F.args_zip_next_1 _))))
  show wpAny _ _ (field (.ref z) 2 >>= _) _ _ _
  refine wpAny_bind (wpAny_field hz rfl (x := .bool false) rfl ?_)
  show wpAny _ _ (field (.ref z) 3 >>= _) _ _ _
  refine wpAny_bind (wpAny_field hz rfl (x := .ref TI) rfl (wpAny_bind (wpAny_seqItems hTI rfl ?_)))
  show wpAny _ _ (Builtin.SmallTypes.ownedTupleIsFree (.ref z) >>= _) _ _ _
  refine wpAny_bind ?_
  unfold Builtin.SmallTypes.ownedTupleIsFree
  refine wpAny_bind (wpAny_field hz rfl (x := .none) rfl (wpAny_pure ?_))
  simp only [if_true]
  refine wpAny_bind (wpAny_rule (wpAny_bind (wpAny_field hz rfl (x := .ref TO) rfl (wpAny_bind (wpAny_setField_rec hz (by simp) fun g1 zg1 k1 => ?_)))))
  have z1 : IsZip g1 z TI TO .ellipsis := zg1
  refine wpAny_bind ?_
  simp only [List.zipIdx_cons, List.zipIdx_nil, List.forIn_cons, List.forIn_nil]
  refine wpAny_bind (wpAny_bind (wpAny_onRaise ?_))
  show wpAny _ _ (Builtin.SmallTypes.nextOf (.ref i1) >>= _) _ _ _
  refine wpAny_bind (wpAny_nextOf_list_item (h1.extBut k1.extBut D.a3) (hl.extBut k1.extBut D.a5) hx fun g2 it2 k2 => wpAny_pure ?_)
  have o2 : IsPair g2 TO a b := k2.extBut _ _ D.b2.symm (k1.extBut _ _ D.a2 hTO)
  refine wpAny_bind (wpAny_seqItems o2 rfl (wpAny_bind (wpAny_updateSeq_pair o2 fun g3 o3 k3 => wpAny_bind (wpAny_letGo (wpAny_pure ?_)))))
  replace o3 : IsPair g3 TO v b := o3
  refine wpAny_bind (wpAny_bind (wpAny_onRaise ?_))
  show wpAny _ _ (Builtin.SmallTypes.nextOf (.ref i2) >>= _) _ _ _
  have s3 : StrIt g3 i2 x t i := ((h2.at fun o e => k1.extBut _ _ D.a4 e).at fun o e => k2.extBut _ _ D.c2 e).at fun o e => k3.extBut _ _ D.b3 e
  refine wpAny_bind (nextOf_str (s := { s with heap := g3 }) s3 hy fun g4 s4 k4 => wpAny_pure ?_)
  have o4 : IsPair g4 TO v b := k4.extBut _ _ D.b3.symm o3
  refine wpAny_bind (wpAny_seqItems o4 rfl (wpAny_bind (wpAny_updateSeq_pair o4 fun g5 o5 k5 => wpAny_bind (wpAny_letGo (wpAny_pure (wpAny_pure ?_))))))
  replace o5 : IsPair g5 TO v (.str ⟨#[c]⟩ s.toks) := o5
  refine wpAny_bind (wpAny_seqItems o5 rfl (wpAny_bind (wpAny_newTuple ?_)))
  show wpAny _ _ (Builtin.SmallTypes.ownedTupleHandOut (.ref z) (.ref g5.objs.size) >>= _) _ _ _
  refine wpAny_bind ?_
  unfold Builtin.SmallTypes.ownedTupleHandOut
  have z5 : IsZip g5 z TI TO .ellipsis := k5.extBut _ _ D.a2.symm (k4.extBut _ _ D.a4.symm (k3.extBut _ _ D.a2.symm (k2.extBut _ _ D.a3.symm z1)))
  have z6 : IsZip (g5.push { cls := .type "tuple", data := .seq #[v, .str ⟨#[c]⟩ s.toks] }) z TI TO .ellipsis := Heap.get?_push_of_some _ z5
  refine wpAny_bind (wpAny_setField_rec z6 (by simp) fun g7 z7 k7 => ?_)
  replace z7 : IsZip g7 z TI TO (rawInt g5.objs.size) := z7
  refine wpAny_setField_rec z7 (by simp) fun g8 z8 k8 => ?_
  replace z8 : IsZip g8 z TI TO (rawInt g5.objs.size) := z8
  have up : ∀ q o, q ≠ z → g5.get? q = some o → g8.get? q = some o := fun q o h e => k8.extBut _ _ h (k7.extBut _ _ h (Heap.get?_push_of_some _ e))
  have old : ∀ q o, q ≠ z → q ≠ TO → q ≠ i1 → q ≠ i2 → s.heap.get? q = some o → g5.get? q = some o := fun q o h1 h2 h3 h4 e => k5.extBut _ _ h2 (k4.extBut _ _ h4 (k3.extBut _ _ h2 (k2.extBut _ _ h3 (k1.extBut _ _ h1 e))))
  have hzlt : z < g5.objs.size := Heap.lt_size z5
  have hsz : s.heap.objs.size ≤ g5.objs.size := by rw [k5.1, k4.1, k3.1, k2.1, k1.1]; exact Nat.le_refl _
  have pT : IsPair g8 g5.objs.size v (.str ⟨#[c]⟩ s.toks) := k8.extBut _ _ (Nat.ne_of_gt hzlt) (k7.extBut _ _ (Nat.ne_of_gt hzlt) (Heap.get?_push_size _ rfl))
  refine wpAny_pure ⟨_, rfl, wpAny_pure (hQ g8 g5.objs.size s.toks _ ⟨z8, up _ _ D.a1 (old _ _ D.a1 D.b1 D.c1 D.d1 hTI), ⟨_, _, up _ _ D.a2 o5⟩, ?_, ?_, ?_⟩ pT hsz fun q o h1 h2 h3 h4 e => up _ _ h1 (old _ _ h1 h2 h3 h4 e))⟩
  · exact ((((it2.extBut k3.extBut D.b2).extBut k4.extBut D.c2.symm).extBut k5.extBut D.b2)).at fun o e => up _ o D.a3 e
  · exact (s4.at fun o e => k5.extBut _ _ D.b3 e).at fun o e => up _ o D.a4 e
  · exact hl.at fun o e => up _ o D.a5 (old _ o D.a5 D.b4 D.c3 D.d2 e)
theorem zs_end {z TI TO i1 i2 l : Addr} {xs : Array Value} {x : Str} {t : Tok} {i : Nat} {Q : Option Value → Shared → Prop} (hh : A.handled = none) (D : ZNe z TI TO i1 i2 l) (Z : ZAt s.heap z TI TO i1 i2 l xs x t i .none) (hx : xs[i]? = none)
    (hQ : ∀ h', (∀ b o, b ≠ z → b ≠ TO → b ≠ i1 → b ≠ i2 → s.heap.get? b = some o → h'.get? b = some o) → Q none { s with heap := h' }) :
    wpAny (model prog w) A (pyNext (.ref z)) Q E s := by
  obtain ⟨hz, hTI, ⟨a, b, hTO⟩, h1, h2, hl⟩ := Z
  have hT : s.TypeIs (.ref z) "zip" := ⟨_, hz, rfl⟩
  unfold pyNext
  refine wpAny_bind (wpAny_attempt (wpAny_callSpecial?_slot (name := Str.ofString "__next__") hT F.slot_zip_next (wpAny_call_entry F.slot_zip_next hT F.entry_zip_next ?_ (F.args_zip_next_1 _))))
  show wpAny _ _ (field (.ref z) 2 >>= _) _ _ _
  refine wpAny_bind (wpAny_field hz rfl (x := .bool false) rfl ?_)
  show wpAny _ _ (field (.ref z) 3 >>= _) _ _ _
  refine wpAny_bind (wpAny_field hz rfl (x := .ref TI) rfl (wpAny_bind (wpAny_seqItems hTI rfl ?_)))
  show wpAny _ _ (Builtin.SmallTypes.ownedTupleIsFree (.ref z) >>= _) _ _ _
  refine wpAny_bind ?_
  unfold Builtin.SmallTypes.ownedTupleIsFree
  refine wpAny_bind (wpAny_field hz rfl (x := .none) rfl (wpAny_pure ?_))
  simp only [if_true]
  refine wpAny_bind (wpAny_rule (wpAny_bind (wpAny_field hz rfl (x := .ref TO) rfl (wpAny_bind (wpAny_setField_rec hz (by simp) fun g1 zg1 k1 => ?_)))))
  have z1 : IsZip g1 z TI TO .ellipsis := zg1
  refine wpAny_bind ?_
  simp only [List.zipIdx_cons, List.zipIdx_nil, List.forIn_cons, List.forIn_nil]
  refine wpAny_bind (wpAny_bind (wpAny_onRaise ?_))
  show wpAny _ _ (Builtin.SmallTypes.nextOf (.ref i1) >>= _) _ _ _
  refine wpAny_bind (wpAny_nextOf_list_end (A := A.in1) hh (h1.extBut k1.extBut D.a3) (hl.extBut k1.extBut D.a5) hx fun g2 e k2 he => ?_)
  obtain ⟨oe, hoe, hce⟩ := he
  have z2 : IsZip g2 z TI TO .ellipsis := k2 _ _ D.a3.symm z1
  have hez : e ≠ z := fun q => by subst q; rw [z2] at hoe; cases hoe; simp at hce
  refine wpAny_setField_rec z2 (by simp) fun g3 _ k3 => ?_
  refine wpAny_bind (wpAny_isInstance (T := "StopIteration") (b := true) ⟨oe, k3.extBut _ _ hez hoe, hce⟩ isSubtype_stop ?_)
  exact wpAny_pure (hQ _ fun q o h1 _ h3 _ x => k3.extBut _ _ h1 (k2 _ _ h3 (k1.extBut _ _ h1 x)))
end
end Mine
end
section
theorem Mine.off_MZ2 : True := by (w_top off; trivial)
open PySem PySem.W PyProof.Rows PySem.Spec PySem.Calls
set_option Elab.async false
set_option maxRecDepth 100000
namespace Mine
noncomputable abbrev zs1 (h : Heap) (l : Addr) : Heap := h.push { cls := .type "list_iterator", data := .fields #[.ref l, .int 0 0] }
noncomputable abbrev zs3 (h : Heap) (l : Addr) (o : Obj) : Heap := ((zs1 h l).push o).push { cls := .type "tuple", data := .seq #[.ref h.objs.size, .ref (zs1 h l).objs.size] }
noncomputable abbrev zs4 (h : Heap) (l : Addr) (o : Obj) : Heap := (zs3 h l o).push { cls := .type "tuple", data := .seq #[.none, .none] }
noncomputable abbrev zs5 (h : Heap) (l : Addr) (o : Obj) : Heap := (zs4 h l o).push { cls := .type "zip", data := .fields #[.none, .bool false, .bool false, .ref ((zs1 h l).push o).objs.size, .ref (zs3 h l o).objs.size] }
theorem meets_zips (l : Addr) (xs : Array Value) (x : Str) (t : Tok) :
    Meets (Builtin.«zip.__new__» ⟨[.type "zip", .ref l, .str x t], []⟩) (fun _ R s => s.heap.IsList l xs ∧ ∀ o, StrIt ((zs1 s.heap l).push o) (zs1 s.heap l).objs.size x t 0 → R (.ok (.ret (.ref (zs4 s.heap l o).objs.size))) { s with heap := zs5 s.heap l o }) :=
  .of_wp fun prog w A R s h => by
    obtain ⟨hp, g, d, tk, os⟩ := s
    obtain ⟨hl, h⟩ := h
    have hsub := sub_zip
    have hL : Heap.IsList (Shared.heap ⟨hp, g, d, tk, os⟩) l xs := hl
    repeat (any_goals (first | assumption | (with_reducible refine wpAny_pyIter_list hL ?_) | ((with_reducible show wpAny _ _ (pyIter (Value.str _ _)) _ _ _); (refine pyIter_str fun o ho => ?_)) | wp_step))
    exact ⟨_, rfl, h _ (by assumption)⟩
section
variable {prog : Program} {w : World} {A : Around} {E : Value → Shared → Prop} {s : Shared} {h₀ : Heap} {L l : Addr} {m : Str → Option Value} {news : List (Addr × Obj)} {x : Str} {t : Tok} {xs : Array Value}
/-- zip(list, text) -/
theorem k_zip {Q : Value → Shared → Prop} (F0 : Fr h₀ L s.heap m) (N : News h₀ L s.heap news) (hl : s.heap.IsList l xs)
    (h : ∀ z TI TO i1 i2 h', Fr h₀ L h' m → News h₀ L h' news → ZAt h' z TI TO i1 i2 l xs x t 0 .none → ZNe z TI TO i1 i2 l → (∀ b, b = z ∨ b = TO ∨ b = i1 ∨ b = i2 → b ≠ L ∧ h₀.get? b = none ∧ ∀ p ∈ news, p.1 ≠ b) → Q (.ref z) { s with heap := h' }) :
    wpAny (model prog w) A (call (.type "zip") [.ref l, .str x t]) Q E s := by
  refine callType_new F.called_zip (by decide) (F.typeCall_zip_2 _ _) (F.newCall_zip_2 _ _) (fun obj => F.args_object_init_3 obj _ _) F.entry_zip_new (meets_zips l xs x t) ⟨hl, fun o ho => ?_⟩
  have n1 : (zs1 s.heap l).objs.size = s.heap.objs.size + 1 := Heap.size_push ..
  have n2 : ((zs1 s.heap l).push o).objs.size = s.heap.objs.size + 2 := by rw [Heap.size_push, n1]
  have n3 : (zs3 s.heap l o).objs.size = s.heap.objs.size + 3 := by rw [Heap.size_push, n2]
  have n4 : (zs4 s.heap l o).objs.size = s.heap.objs.size + 4 := by rw [Heap.size_push, n3]
  have up : ∀ b o', s.heap.get? b = some o' → (zs5 s.heap l o).get? b = some o' := fun b o' e => Heap.get?_push_of_some _ (Heap.get?_push_of_some _ (Heap.get?_push_of_some _ (Heap.get?_push_of_some _ (Heap.get?_push_of_some _ e))))
  have g5 : (zs5 s.heap l o).get? (zs4 s.heap l o).objs.size = some _ := Heap.get?_push_size _ rfl
  have g4 : (zs5 s.heap l o).get? (zs3 s.heap l o).objs.size = some _ := Heap.get?_push_of_some _ (Heap.get?_push_size _ rfl)
  have g3 : (zs5 s.heap l o).get? ((zs1 s.heap l).push o).objs.size = some _ := Heap.get?_push_of_some _ (Heap.get?_push_of_some _ (Heap.get?_push_size _ rfl))
  have g1 : (zs5 s.heap l o).get? s.heap.objs.size = some _ := Heap.get?_push_of_some _ (Heap.get?_push_of_some _ (Heap.get?_push_of_some _ (Heap.get?_push_of_some _ (Heap.get?_push_size _ rfl))))
  have g2 : StrIt (zs5 s.heap l o) (zs1 s.heap l).objs.size x t 0 := ho.at fun o' e => Heap.get?_push_of_some _ (Heap.get?_push_of_some _ (Heap.get?_push_of_some _ e))
  have hll : @LT.lt Nat _ l s.heap.objs.size := let ⟨_, e, _⟩ := hl; Heap.lt_size e
  refine ⟨⟨_, g5, rfl⟩, h _ ((zs1 s.heap l).push o).objs.size (zs3 s.heap l o).objs.size s.heap.objs.size (zs1 s.heap l).objs.size _ (F0.keeps up) (fun p hp => ⟨up _ _ (N p hp).1, (N p hp).2⟩) ⟨g5, g3, ⟨_, _, g4⟩, ⟨_, g1, rfl, rfl⟩, g2, hl.at fun o' e => up _ o' e⟩ ?_ ?_⟩
  · rw [n1, n2, n3, n4]
    constructor <;> (show @Ne Nat _ _; omega)
  · intro b hb
    have hge : @LE.le Nat _ s.heap.objs.size b := by
      rw [n1, n3, n4] at hb
      rcases hb with rfl | rfl | rfl | rfl <;> omega
    have hL : L < s.heap.objs.size := F0.ns.lt
    exact ⟨Nat.ne_of_gt (Nat.lt_of_lt_of_le hL hge), Heap.get?_none_of_le (Nat.le_trans F0.above (Nat.le_of_lt (Nat.lt_of_lt_of_le hL hge))), fun p hp => Nat.ne_of_lt (Nat.lt_of_lt_of_le (Heap.lt_size (N p hp).1) hge)⟩
noncomputable def EltP (Fv : Nat → Value → Prop) (i : Nat) (t' : Shared) (y : Value) (s₃ : Shared) : Prop := Fv i y ∧ Keeps t' s₃
/-- what the comprehension asks of its zip -/
noncomputable def ZPost (prog : Program) (w : World) (A : Around) (h₀ : Heap) (L l : Addr) (m : Str → Option Value) (news : List (Addr × Obj)) (xs : Array Value) (T : List Nat) (t : Tok) (y1 y2 : Str) (elt : Expr) (scope : Scope) (cl : List (Str × Addr)) (env : Env) (Fv : Nat → Value → Prop) (Q : Value → Shared → Prop) (xv : Value) (s₁ : Shared) : Prop :=
  ∃ z TI TO i1 i2, xv = .ref z ∧ Fr h₀ L s₁.heap m ∧ News h₀ L s₁.heap news ∧ ZAt s₁.heap z TI TO i1 i2 l xs (S T) t 0 .none ∧ ZNe z TI TO i1 i2 l ∧ (∀ b, b = z ∨ b = TO ∨ b = i1 ∨ b = i2 → (b ≠ L ∧ h₀.get? b = none ∧ ∀ p ∈ news, p.1 ≠ b)) ∧
      (∀ (i : Nat) v c (u : Tok) (C : Addr) (t' : Shared) m₂ E', xs[i]? = some v → T[i]? = some c → h₀.objs.size ≤ C → (∀ b o, h₀.get? b = some o → t'.heap.get? b = some o) → t'.heap.Ns C m₂ → m₂ y1 = some v → m₂ y2 = some (.str (S [c]) u) → wpAny (model prog w) A (eval elt (compEnvC scope cl C env)) (EltP Fv i t') E' t') ∧
      ∀ (D : Addr) (ys : List Value) h' tk, Fr h₀ L h' m → News h₀ L h' ((D, W.listOf ys.toArray ys.length) :: news) → (∀ p ∈ news, p.1 ≠ D) → ys.length = T.length → (∀ j y, ys[j]? = some y → Fv j y) → Q (.ref D) { s₁ with heap := h', toks := tk }
/-- a comprehension over a zip of a list and a text, its elements quiet -/
theorem k_zipcomp {elt iter : Expr} {y1 y2 : Str} {p1 p2 tp : Pos} {tk} {scope : Scope} {cl : List (Str × Addr)} {pos : Pos} {env : Env} {Fv : Nat → Value → Prop} {T : List Nat} {Q : Value → Shared → Prop} (_F : Fr h₀ L s.heap m) (_N : News h₀ L s.heap news) (_hl : s.heap.IsList l xs) (hh : A.handled = none)
    (hclos : closureFor scope env = pure cl) (hcell : ∀ y ∈ scope.names, y.2 ≠ .cell) (hkind : scope.kind = .function)
    (hnames : ∀ y ∈ scope.names, y.2 = .local → scope.names.lookup y.1 = some .local) (hy1 : scope.names.lookup y1 = some .local) (hy2 : scope.names.lookup y2 = some .local) (hyy : y1 ≠ y2) (hsz : xs.size = T.length) (hz : T.length ≤ 2 ^ 20)
    (h : wpAny (model prog w) A (eval iter env) (ZPost prog w A h₀ L l m news xs T t y1 y2 elt scope cl env Fv Q) E s)
    (hs : ∀ x, foldedSetIterable iter env x = pure x := by intro _; rfl) :
    wpAny (model prog w) A (eval (.ListComp elt [⟨.Tuple [.Name y1 p1, .Name y2 p2] tk tp, iter, [], 0⟩] scope pos) env) Q E s := by
  rw [eval_ListComp]
  refine wpAny_comprehension_free (use := none) rfl hs hclos hkind hnames (wpAny_mono h (fun xv s₁ h₁ => ?_) fun _ _ e => e)
  obtain ⟨z, TI, TO, i1, i2, rfl, F₁, N₁, Z₁, D₁, hfr, helt, hQ⟩ := h₁
  refine wpAny_pyIter_zip Z₁.zip ?_
  refine wpAny_newObj_type (wpAny_newFunctionEnv hcell (by intro y hy; simp at hy) (fun h₁ hns₁ hsb₁ => ?_) hkind)
  dsimp only at hns₁ hsb₁ ⊢
  generalize hH : s₁.heap.push { cls := .type "list", dict := none, data := .seq ([] : List Value).toArray } = H at hns₁ hsb₁ ⊢
  have hC : H.objs.size = s₁.heap.objs.size + 1 := by rw [← hH, Heap.size_push]
  have lt1 : ∀ b o, s₁.heap.get? b = some o → b ≠ H.objs.size ∧ b ≠ s₁.heap.objs.size := fun b o e => by
    have := Heap.lt_size e
    rw [hC]
    exact ⟨Nat.ne_of_lt (Nat.lt_succ_of_lt this), Nat.ne_of_lt this⟩
  have hDC : s₁.heap.objs.size ≠ H.objs.size := by rw [hC]; exact Nat.ne_of_lt (Nat.lt_succ_self _)
  have old : ∀ b o, s₁.heap.get? b = some o → h₁.get? b = some o := fun b o e => hsb₁.extBut b o (lt1 b o e).1 (Heap.get?_push_of_some _ (hH ▸ Heap.get?_push_of_some _ e))
  have hacc : h₁.get? s₁.heap.objs.size = some (W.listOf ([] : List Value).toArray 0) := hsb₁.extBut _ _ hDC (Heap.get?_push_of_some _ (hH ▸ Heap.get?_push_size _ rfl))
  obtain ⟨_, _, _, gL, _⟩ := id F₁.ns
  have hLlt : L < s₁.heap.objs.size := F₁.ns.lt
  have hL1 : L ≠ H.objs.size ∧ L ≠ s₁.heap.objs.size := by rw [hC]; exact ⟨Nat.ne_of_lt (Nat.lt_succ_of_lt hLlt), Nat.ne_of_lt hLlt⟩
  have h0C : h₀.objs.size ≤ H.objs.size := by rw [hC]; exact Nat.le_succ_of_le (Nat.le_trans F₁.above (Nat.le_of_lt hLlt))
  have hD0 : h₀.get? s₁.heap.objs.size = none := Heap.get?_none_of_le (Nat.le_trans F₁.above (Nat.le_of_lt hLlt))
  have hC0 : h₀.get? H.objs.size = none := Heap.get?_none_of_le h0C
  have zlt : ∀ b, b = z ∨ b = TI ∨ b = TO ∨ b = i1 ∨ b = i2 ∨ b = l → b < s₁.heap.objs.size := by
    obtain ⟨e1, e2, ⟨_, _, e3⟩, ⟨_, e4, _⟩, e5, ⟨_, e6, _⟩⟩ := Z₁
    intro b hb
    rcases hb with rfl | rfl | rfl | rfl | rfl | rfl
    · exact Heap.lt_size e1
    · exact Heap.lt_size e2
    · exact Heap.lt_size e3
    · exact Heap.lt_size e4
    · exact e5.lt
    · exact Heap.lt_size e6
  have zC : ∀ b, b = z ∨ b = TI ∨ b = TO ∨ b = i1 ∨ b = i2 ∨ b = l → b ≠ H.objs.size ∧ b ≠ s₁.heap.objs.size := fun b hb => by
    have := zlt b hb
    rw [hC]
    exact ⟨Nat.ne_of_lt (Nat.lt_succ_of_lt this), Nat.ne_of_lt this⟩
  -- what a turn leaves alone
  let Kp : Heap → Prop := fun g => ∀ b o, b ≠ z → b ≠ TO → b ≠ i1 → b ≠ i2 → b ≠ H.objs.size → b ≠ s₁.heap.objs.size → s₁.heap.get? b = some o → g.get? b = some o
  have frk : ∀ g, Kp g → Fr h₀ L g m ∧ News h₀ L g news := fun g k => by
    have f1 : ∀ b, (b ≠ z ∧ b ≠ TO ∧ b ≠ i1 ∧ b ≠ i2) → ∀ o, b ≠ H.objs.size → b ≠ s₁.heap.objs.size → s₁.heap.get? b = some o → g.get? b = some o := fun b hb o c1 c2 e => k b o hb.1 hb.2.1 hb.2.2.1 hb.2.2.2 c1 c2 e
    refine ⟨⟨F₁.ns.at' fun o e => f1 L ⟨fun q => (hfr _ (.inl rfl)).1 q.symm, fun q => (hfr _ (.inr (.inl rfl))).1 q.symm, fun q => (hfr _ (.inr (.inr (.inl rfl)))).1 q.symm, fun q => (hfr _ (.inr (.inr (.inr rfl)))).1 q.symm⟩ o hL1.1 hL1.2 e, fun b o e => ?_, F₁.above⟩, fun p hp => ⟨?_, (N₁ p hp).2⟩⟩
    · have ne : ∀ c, h₀.get? c = none → b ≠ c := fun c hc q => by rw [q, hc] at e; cases e
      exact f1 b ⟨ne _ (hfr _ (.inl rfl)).2.1, ne _ (hfr _ (.inr (.inl rfl))).2.1, ne _ (hfr _ (.inr (.inr (.inl rfl)))).2.1, ne _ (hfr _ (.inr (.inr (.inr rfl)))).2.1⟩ o (ne _ hC0) (ne _ hD0) (F₁.keep b o e)
    · have q := lt1 _ _ (N₁ p hp).1
      exact f1 p.1 ⟨(hfr _ (.inl rfl)).2.2 p hp, (hfr _ (.inr (.inl rfl))).2.2 p hp, (hfr _ (.inr (.inr (.inl rfl)))).2.2 p hp, (hfr _ (.inr (.inr (.inr rfl)))).2.2 p hp⟩ _ q.1 q.2 (N₁ p hp).1
  have loop : ∀ s₃ : Shared, s₃ = { s₁ with heap := h₁, toks := s₁.toks + ([] : List (Str × Value)).length } →
      codeAny (model prog w) A (.compLoop (.ListComp elt [⟨.Tuple [.Name y1 p1, .Name y2 p2] tk tp, iter, [], 0⟩] scope pos) 0 (.ref z) (.ref s₁.heap.objs.size) (compEnvC scope cl H.objs.size env))
        (compPost (model prog w) A E none Q (.ref s₁.heap.objs.size) H.objs.size) s₃ := by
    rintro s₃ rfl
    refine LCp.codeAny_compLoop_pair
      (fun k s' => ∃ h' tk' i ys m', s' = { s₁ with heap := h', toks := tk' } ∧ i ≤ T.length ∧ k = T.length + 1 - i ∧ ys.length = i ∧ (∀ j y, ys[j]? = some y → Fv j y) ∧ ZAt h' z TI TO i1 i2 l xs (S T) t i .none ∧ h'.Ns H.objs.size m' ∧ h'.get? s₁.heap.objs.size = some (W.listOf ys.toArray ys.length) ∧ Kp h') ?_ (T.length + 1)
      ⟨h₁, _, 0, [], _, rfl, Nat.zero_le _, rfl, rfl, fun j y e => by simp at e, Z₁.keeps fun b o _ e => old b o e, hns₁, hacc, fun b o _ _ _ _ _ _ e => old b o e⟩
    rintro k s' ⟨h', tk', i, ys, m', rfl, hi, rfl, hyl, hys, Z', hn', hD', K'⟩
    by_cases hlt : i < T.length
    · have hxi : xs[i]? = some xs[i] := Array.getElem?_eq_getElem (by omega)
      have hTi : T[i]? = some T[i] := List.getElem?_eq_getElem hlt
      have hci : (S T).cps[i]? = some T[i] := by show T.toArray[i]? = _; rw [List.getElem?_toArray]; exact hTi
      refine zs_item D₁ Z' hxi hci fun h₂ Tp u tk₂ Z₂ pT hTp k₂ => ?_
      refine wpAny_letOwnedTupleGo_zip Z₂.zip fun h₃ z₃ k₃ => ?_
      have hTz : Tp ≠ z := Nat.ne_of_gt (Nat.lt_of_lt_of_le (Heap.lt_size Z'.zip) hTp)
      have pT₃ : IsTup h₃ Tp #[xs[i], .str ⟨#[T[i]]⟩ u] := ⟨_, k₃.extBut _ _ hTz pT, rfl, _, rfl⟩
      refine assign_Tuple_tuple hh pT₃ rfl rfl fun h₄ k₄ => ?_
      have up₄ : ∀ b o, h₃.get? b = some o → h₄.get? b = some o := fun b o e => k₄ b o (Nat.ne_of_lt (Heap.lt_size e)) e
      have hCz : H.objs.size ≠ z ∧ H.objs.size ≠ TO ∧ H.objs.size ≠ i1 ∧ H.objs.size ≠ i2 := ⟨(zC _ (.inl rfl)).1.symm, (zC _ (.inr (.inr (.inl rfl)))).1.symm, (zC _ (.inr (.inr (.inr (.inl rfl))))).1.symm, (zC _ (.inr (.inr (.inr (.inr (.inl rfl)))))).1.symm⟩
      have hDz : s₁.heap.objs.size ≠ z ∧ s₁.heap.objs.size ≠ TO ∧ s₁.heap.objs.size ≠ i1 ∧ s₁.heap.objs.size ≠ i2 := ⟨(zC _ (.inl rfl)).2.symm, (zC _ (.inr (.inr (.inl rfl)))).2.symm, (zC _ (.inr (.inr (.inr (.inl rfl))))).2.symm, (zC _ (.inr (.inr (.inr (.inr (.inl rfl)))))).2.symm⟩
      have hn₄ : h₄.Ns H.objs.size m' := hn'.at' fun o e => up₄ _ _ (k₃.extBut _ _ hCz.1 (k₂ _ _ hCz.1 hCz.2.1 hCz.2.2.1 hCz.2.2.2 e))
      refine assignInOrder_cons (wpAny_assign_Name (wpAny_storeName_local (lookup_relabel_local hy1) hn₄ (fun h₅ hn₅ k₅ => ?_) (by simp [compEnvC, relabel, hkind])))
      refine assignInOrder_cons (wpAny_assign_Name (wpAny_storeName_local (lookup_relabel_local hy2) hn₅ (fun h₆ hn₆ k₆ => ?_) (by simp [compEnvC, relabel, hkind])))
      refine assignInOrder_nil ?_
      have up₆ : ∀ b o, b ≠ H.objs.size → h₃.get? b = some o → h₆.get? b = some o := fun b o hb e => k₆.extBut _ _ hb (k₅.extBut _ _ hb (up₄ _ _ e))
      have Z₃ : ZAt h₃ z TI TO i1 i2 l xs (S T) t (i + 1) .none := ⟨z₃, k₃.extBut _ _ D₁.a1 Z₂.ti, let ⟨a, b, e⟩ := Z₂.to; ⟨a, b, k₃.extBut _ _ D₁.a2 e⟩, Z₂.it1.at fun o e => k₃.extBut _ _ D₁.a3 e, Z₂.it2.at fun o e => k₃.extBut _ _ D₁.a4 e, Z₂.list.at fun o e => k₃.extBut _ _ D₁.a5 e⟩
      have Z₆ : ZAt h₆ z TI TO i1 i2 l xs (S T) t (i + 1) .none := Z₃.keeps fun b o hb e => up₆ b o (zC b hb).1 e
      have K₆ : Kp h₆ := fun b o c1 c2 c3 c4 c5 c6 e => up₆ b o c5 (k₃.extBut _ _ c1 (k₂ b o c1 c2 c3 c4 (K' b o c1 c2 c3 c4 c5 c6 e)))
      have hD₆ : h₆.get? s₁.heap.objs.size = some (W.listOf ys.toArray ys.length) := up₆ _ _ hDC (k₃.extBut _ _ hDz.1 (k₂ _ _ hDz.1 hDz.2.1 hDz.2.2.1 hDz.2.2.2 hD'))
      refine wpAny_mono (helt i xs[i] T[i] u H.objs.size _ _ _ hxi hTi h0C (fun b o e => (frk h₆ K₆).1.keep b o e) hn₆ (by simp [hyy]) (by simp)) (fun y s₇ h₇ => ?_) fun _ _ e => e
      obtain ⟨hFy, h₇, tk₇, rfl, k₇⟩ := h₇
      refine append_at (hsz := by rw [List.size_toArray, hyl]; show i ≤ 2 ^ 24; omega) (k₇ _ _ hD₆) fun h₈ k₈ hD₈ => ?_
      have up₈ : ∀ b o, b ≠ s₁.heap.objs.size → h₆.get? b = some o → h₈.get? b = some o := fun b o hb e => k₈.extBut _ _ hb (k₇ _ _ e)
      refine ⟨T.length + 1 - (i + 1), by omega, h₈, tk₇, i + 1, ys ++ [y], _, rfl, hlt, rfl, by rw [List.length_append, hyl]; rfl, fun j y' e => ?_, Z₆.keeps fun b o hb e => up₈ b o (zC b hb).2 e, (hn₆.at' fun o e => up₈ _ o hDC.symm e), ?_, fun b o c1 c2 c3 c4 c5 c6 e => up₈ b o c6 (K₆ b o c1 c2 c3 c4 c5 c6 e)⟩
      · rw [List.getElem?_append] at e
        split at e
        · exact hys j y' e
        · rename_i hj
          have hj' : j = i := by
            obtain ⟨q, _⟩ := List.getElem?_eq_some_iff.mp e
            simp at q; omega
          subst hj'
          rw [hyl, Nat.sub_self] at e
          have : y' = y := (Option.some.inj e).symm
          rw [this]; exact hFy
      · rw [hD₈]; simp
    · obtain rfl : i = T.length := Nat.le_antisymm hi (Nat.not_lt.mp hlt)
      refine zs_end hh D₁ Z' (Array.getElem?_eq_none (by omega)) fun h₂ k₂ => ?_
      have K₂ : Kp h₂ := fun b o c1 c2 c3 c4 c5 c6 e => k₂ b o c1 c2 c3 c4 (K' b o c1 c2 c3 c4 c5 c6 e)
      have hCz : H.objs.size ≠ z ∧ H.objs.size ≠ TO ∧ H.objs.size ≠ i1 ∧ H.objs.size ≠ i2 := ⟨(zC _ (.inl rfl)).1.symm, (zC _ (.inr (.inr (.inl rfl)))).1.symm, (zC _ (.inr (.inr (.inr (.inl rfl))))).1.symm, (zC _ (.inr (.inr (.inr (.inr (.inl rfl)))))).1.symm⟩
      have hDz : s₁.heap.objs.size ≠ z ∧ s₁.heap.objs.size ≠ TO ∧ s₁.heap.objs.size ≠ i1 ∧ s₁.heap.objs.size ≠ i2 := ⟨(zC _ (.inl rfl)).2.symm, (zC _ (.inr (.inr (.inl rfl)))).2.symm, (zC _ (.inr (.inr (.inr (.inl rfl))))).2.symm, (zC _ (.inr (.inr (.inr (.inr (.inl rfl)))))).2.symm⟩
      have hn₂ : h₂.Ns H.objs.size m' := hn'.at' fun o e => k₂ _ _ hCz.1 hCz.2.1 hCz.2.2.1 hCz.2.2.2 e
      have hD₂ := k₂ _ _ hDz.1 hDz.2.1 hDz.2.2.1 hDz.2.2.2 hD'
      refine ⟨m', hn₂, fun h'' k'' => ?_⟩
      have K₃ : Kp h'' := fun b o c1 c2 c3 c4 c5 c6 e => k''.extBut _ _ c5 (K₂ b o c1 c2 c3 c4 c5 c6 e)
      obtain ⟨F₃, N₃⟩ := frk h'' K₃
      refine hQ s₁.heap.objs.size ys h'' _ F₃ (fun p hp => ?_) (fun p hp => (lt1 _ _ (N₁ p hp).1).2) hyl hys
      rcases List.mem_cons.mp hp with rfl | hp
      · exact ⟨k''.extBut _ _ hDC hD₂, hL1.2.symm, hD0⟩
      · exact N₃ p hp
  exact codeAny_compStart_list (loop _ rfl) (wpAny_pyIter_zip (old _ _ Z₁.zip) (loop _ rfl))
end
end Mine
end
section
theorem Mine.off_W13a : True := by (w_top off; trivial)
open PySem PySem.W PyProof.Rows PySem.Spec PySem.Calls
set_option Elab.async false
set_option maxRecDepth 100000
namespace Mine
section
variable {h₀ h h' : Heap} {L D : Addr} {m : Str → Option Value} {pre TL TL' : List (Addr × Obj)} {o : Obj}
/-- what a call made lies off what was there -/
theorem back_new (F : Fr h₀ L h m) (N : News h₀ L h (pre ++ TL)) (sep : ∀ p ∈ pre, ∀ q ∈ TL, p.1 ≠ q.1) (hn : (frz h TL).get? D = none) : D ≠ L ∧ h₀.get? D = none ∧ ∀ p ∈ pre, p.1 ≠ D := by
  have off : ∀ p ∈ TL, h₀.get? p.1 = none := fun p hp => (N p (List.mem_append_right _ hp)).2.2
  refine ⟨fun e => ?_, ?_, fun p hp e => ?_⟩
  · obtain ⟨o, ho⟩ : ∃ o, h.get? L = some o := let ⟨o, _, _, e, _⟩ := F.ns; ⟨o, e⟩
    have := frz_get (TL := TL) ho fun p hp => (N p (List.mem_append_right _ hp)).2.1
    rw [← e, hn] at this; cases this
  · cases e : h₀.get? D with
    | none => rfl
    | some o =>
      have := frz_of F.keep off _ _ e
      rw [hn] at this; cases this
  · have := frz_get (TL := TL) (N p (List.mem_append_left _ hp)).1 fun q hq => (sep p hp q hq).symm
    rw [e, hn] at this; cases this
theorem in_frz {K : Frag} (F : Fr h₀ L h m) (N : News h₀ L h (pre ++ TL)) (X : K.In h₀) : K.In (frz h TL) := X.keeps (frz_of F.keep fun p hp => (N p (List.mem_append_right _ hp)).2.2)
theorem top_frz {p : Program} {loose : List Str} {mean : ExcName → Option Value} {mg mb : Str → Option Value} (F : Fr h₀ L h m) (N : News h₀ L h (pre ++ TL)) (T : Top p loose mean mg mb h₀) : Top p loose mean mg mb (frz h TL) := T.keeps (frz_of F.keep fun p hp => (N p (List.mem_append_right _ hp)).2.2)
end
noncomputable def Zs : Str := Str.ofString "[-!#$%&'*+.^_`|~0-9A-Za-z]"
theorem mul_reps : ∀ n : Nat, (List.replicate n Z).flatten = reps n
  | 0 => rfl
  | n + 1 => by rw [List.replicate_succ, List.flatten_cons, mul_reps n]; rfl
theorem foldl_arrs : ∀ (l : List (List Nat)) (a : List Nat), (l.map List.toArray).foldl (· ++ ·) a.toArray = (a ++ l.flatten).toArray
  | [], a => by simp
  | x :: l, a => by
    have := foldl_arrs l (a ++ x)
    rw [List.map_cons, List.foldl_cons, List.append_toArray, this, List.flatten_cons, List.append_assoc]
theorem mul_zs {n : Nat} (_h : n ≤ 10) : Txt.mul Zs (n : Int) = S (reps n) := by
  have hz : Zs = S Z := by decide +kernel
  have hl : (S Z).length = 26 := by decide +kernel
  rw [hz]
  match n with
  | 0 => rfl
  | 1 => decide +kernel
  | n + 2 =>
    have e : ((n + 2 : Nat) : Int).toNat = n + 2 := by omega
    have e2 : (((n + 2 : Nat) : Int) == 1 || (S Z).length == 0) = false := by
      rw [hl, Bool.or_eq_false_iff]
      exact ⟨by rw [beq_eq_false_iff_ne]; omega, rfl⟩
    unfold Txt.mul
    rw [if_neg (by omega), e2, e, ← mul_reps (n + 2)]
    have := foldl_arrs (List.replicate (n + 2) Z) []
    rw [List.map_replicate] at this
    exact congrArg Str.mk this
open PySem.Builtin PySem.Builtin.Str in
theorem mulOk_zs {n : Nat} (h : n ≤ 10) : MulOk Zs (n : Int) := by
  have e : Zs.length = 26 := by decide +kernel
  have hz : sizeLine = 16777216 := by decide
  refine ⟨?_, fun h1 _ => ?_, fun h1 _ => ?_⟩
  · rw [Bool.or_eq_false_iff]
    exact ⟨decide_eq_false (by omega), decide_eq_false (by omega)⟩
  · rw [e]
    have h3 : (26 : Int) ≤ (2 ^ 63 - 1 : Int) / (n : Int) := (Int.le_ediv_iff_mul_le (by omega)).mpr (by omega)
    have e26 : ((26 : Nat) : Int) = 26 := rfl
    omega
  · rw [e]
    unfold tooLong
    rw [hz]
    exact decide_eq_false (by rw [Int.toNat_natCast]; omega)
theorem k_mulz {prog : Program} {w : World} {A : Around} {E : Value → Shared → Prop} {s : Shared} {t u : Tok} {n : Nat} {Q : Value → Shared → Prop} (h : n ≤ 10) (hq : ∀ t' k, Q (.str (S (reps n)) t') { s with toks := k }) : wpAny (model prog w) A (binaryOp .Mult (.str Zs t) (.int (n : Int) u)) Q E s := by
  refine SB.mul (mulOk_zs h) fun t' k => ?_
  rw [mul_zs h]; exact hq t' k
theorem reads_bools {h : Heap} : ∀ bs : List Bool, ∃ as, ReadsAll h (bs.map Value.bool) (bs.map PyData.bool) as
  | [] => ⟨_, .nil⟩
  | b :: bs => let ⟨as, r⟩ := reads_bools bs; ⟨_, .cons (.bool b) r⟩
theorem lay_bools : ∀ bs : List Bool, PyData.canLayAll0 (bs.map PyData.bool) = true
  | [] => rfl
  | b :: bs => by show (true && PyData.canLayAll0 (bs.map PyData.bool)) = true; rw [lay_bools bs]; rfl
theorem depth_bools : ∀ bs : List Bool, PyData.depthAll (bs.map PyData.bool) = 0
  | [] => rfl
  | b :: bs => by show max 0 (PyData.depthAll (bs.map PyData.bool)) = 0; rw [depth_bools bs]; rfl
theorem eqv_trues : ∀ bs : List Bool, PyData.eqvAll (bs.map PyData.bool) ((bs.map fun _ => true).map PyData.bool) = bs.all id
  | [] => rfl
  | b :: bs => by
    show (b == true && PyData.eqvAll (bs.map PyData.bool) ((bs.map fun _ => true).map PyData.bool)) = (b && bs.all id)
    rw [eqv_trues bs]
    cases b <;> rfl
/-- a list of bools against as many Trues -/
theorem k_eqbools {prog : Program} {w : World} {A : Around} {E : Value → Shared → Prop} {s : Shared} {D1 D2 : Addr} {bs : List Bool} {v1 v2 : List Value} {r : Bool} {Q : Value → Shared → Prop} (h1 : s.heap.IsList D1 v1.toArray) (h2 : s.heap.IsList D2 v2.toArray) (e1 : v1 = bs.map Value.bool) (e2 : v2 = (bs.map fun _ => true).map Value.bool) (hr : bs.all id = r) (hu : A.units + 1 < cLine) (h : Q (.bool r) s) :
    wpAny (model prog w) A (compareOp .Eq (.ref D1) (.ref D2)) Q E s := by
  subst e1
  subst e2
  obtain ⟨o1, g1, c1, n1, d1⟩ := h1
  obtain ⟨o2, g2, c2, n2, d2⟩ := h2
  obtain ⟨as1, r1⟩ := reads_bools (h := s.heap) bs
  obtain ⟨as2, r2⟩ := reads_bools (h := s.heap) (bs.map fun _ => true)
  refine SeqAt.compareEq_reads (da := .list (bs.map PyData.bool)) (db := .list ((bs.map fun _ => true).map PyData.bool)) (.list g1 c1 d1 (by simpa using r1)) (.list g2 c2 d2 (by simpa using r2)) (lay_bools _) (lay_bools _) ?_ ?_
  · show A.units + min (PyData.depthAll _ + 1) (PyData.depthAll _ + 1) < cLine
    rw [depth_bools, depth_bools]
    exact hu
  · show Q (.bool (PyData.eqvAll _ _)) s
    rw [eqv_trues, hr]; exact h
theorem bare_bools {v : List Nat} {ys : List Value} (hl : ys.length = v.length) (h : ∀ (j : Nat) (y : Value), ys[j]? = some y → ∃ c : Nat, v[j]? = some c ∧ y = Value.bool (isTok c)) : ys = (v.map isTok).map Value.bool := by
  apply List.ext_getElem?
  intro j
  by_cases hj : j < ys.length
  · obtain ⟨c, hc, e⟩ := h j ys[j] (List.getElem?_eq_getElem hj)
    rw [List.getElem?_eq_getElem hj, e, List.getElem?_map, List.getElem?_map, hc]
    rfl
  · rw [List.getElem?_eq_none (by omega), List.getElem?_eq_none (by simp; omega)]
theorem trues_of {v : List Nat} : (List.replicate ((v.length : Nat) : Int).toNat #[Value.bool true].toList).flatten = ((v.map isTok).map fun _ => true).map Value.bool := by
  rw [Int.toNat_natCast]
  induction v with
  | nil => rfl
  | cons c v ih =>
    rw [List.length_cons, List.replicate_succ, List.flatten_cons, ih]
    rfl
end Mine
end
section
theorem Mine.off_W13b : True := by (w_top off; trivial)
open PySem PySem.W PyProof.Rows PySem.Spec PySem.Calls
set_option Elab.async false
set_option maxRecDepth 100000
namespace Mine
theorem k_translate {w : World} {dp un : Nat} {fr : Option (List Env)} {gd : Option (List Code)} {E : Value → Shared → Prop} {s : Shared} {h₀ : Heap} {L : Addr} {m mg mb : Str → Option Value} {news pre TL : List (Addr × Obj)} {p : Program} {loose : List Str} {mean : ExcName → Option Value} {n : Nat} {t1 t2 : Tok} {Q : Value → Shared → Prop}
    (F : Fr h₀ L s.heap m) (N : News h₀ L s.heap news) (En : Endg TL news pre) (sep : ∀ p ∈ pre, ∀ q ∈ TL, p.1 ≠ q.1) (TB : Tabs TL) (G : AllBare s.gens) (X : (hf.heap_1 w.params).In h₀) (Tp : Top p loose mean mg mb h₀) (hroom : dp + 3 < recursionLimit) (hn : n ≤ 10)
    (hq : ∀ D (vs : List Value) (k : Nat) h' tk g' TL', Fr h₀ L h' m → News h₀ L h' ((D, W.listOf vs.toArray k) :: (pre ++ TL')) → Tabs TL' → (∀ p ∈ (D, W.listOf vs.toArray k) :: pre, ∀ q ∈ TL', p.1 ≠ q.1) → (∀ p ∈ pre, p.1 ≠ D) → AllBare g' → vs.length = n → (∀ v ∈ vs, ∃ t, v = Value.str Yt t) → Q (.ref D) { s with heap := h', toks := tk, gens := g' }) :
    wpAny (model PySem.Challenge.rw_in0021_01.prog w) (Am dp un fr gd) (call (.ref 111) [.str (S (reps n)) t1, .none, .str (Str.ofString ".") t2]) Q E s := by
  have en := En.eq
  subst en
  refine wpAny_call (translate_spec (hid_of N fun p hp => List.mem_append_right _ hp) TB (in_frz F N X) (top_frz F N Tp) hroom hn G fun h' tk g' TL' D vs k Gr TB' G' e1 e2 e3 e4 hl hy => ?_)
  obtain ⟨F', N', sep'⟩ := backK F N sep Gr
  obtain ⟨n1, n2, n3⟩ := back_new F N sep e2
  refine hq D vs k h' tk g' TL' F' (fun p hp => ?_) TB' (sep_cons e4 sep') n3 G' hl hy
  rcases List.mem_cons.mp hp with rfl | hp
  · exact ⟨e1, n1, n2⟩
  · exact N' p hp
/-- the test of a sign by a part, as a quiet step -/
theorem k_takes {w : World} {dp un : Nat} {fr : Option (List Env)} {gd : Option (List Code)} {E : Value → Shared → Prop} {s : Shared} {h₀ : Heap} {mg mb : Str → Option Value} {p : Program} {loose : List Str} {mean : ExcName → Option Value} {c : Nat} {t1 t2 : Tok} {Q : Value → Shared → Prop}
    (K : ∀ b o, h₀.get? b = some o → s.heap.get? b = some o) (X : (hf.heap_1 w.params).In h₀) (Tp : Top p loose mean mg mb h₀) (hroom : dp + 1 < recursionLimit)
    (hq : ∀ h' tk, (∀ b o, s.heap.get? b = some o → h'.get? b = some o) → Q (.bool (isTok c)) { s with heap := h', toks := tk }) :
    wpAny (model PySem.Challenge.rw_in0021_01.prog w) (Am dp un fr gd) (call (.ref 125) [.str Yt t1, .str (S [c]) t2]) Q E s :=
  wpAny_call (takes_spec (TL := []) ⟨fun _ h => (nomatch h), fun _ _ => rfl⟩ (X.keeps K) (Tp.keeps K) hroom fun h' tk _ k1 _ => hq h' tk k1)
end Mine
end
section
theorem Mine.off_W13 : True := by (w_top off; trivial)
open PySem PySem.W PyProof.Rows PySem.Spec PySem.Calls
set_option Elab.async false
set_option maxRecDepth 100000
namespace Mine
set_option maxHeartbeats 4000000 in
theorem bare_spec {w : World} {mg mb : Str → Option Value} {p : Program} {loose : List Str} {mean : ExcName → Option Value} {dp un : Nat} {fr : Option (List Env)} {gd : Option (List Code)} {s : Shared} {TL : List (Addr × Obj)} {R : Result → Shared → Prop} {v : List Nat} {t1 : Tok}
    (H : Hid s.heap TL) (TB : Tabs TL) (X : (hf.heap_1 w.params).In (frz s.heap TL)) (Tp : Top p loose mean mg mb (frz s.heap TL)) (hroom : dp + 4 < recursionLimit) (hv : v.length ≤ 10) (hb : AllBare s.gens) (hun : un + 10 < cLine)
    (hR : ∀ h' tk g' TL', Grown s.heap h' TL TL' → Tabs TL' → AllBare g' → R (.ok (.ret (.bool (bareV v)))) { s with heap := h', toks := tk, gens := g' }) :
    codeAny (model PySem.Challenge.rw_in0021_01.prog w) (Am dp un fr gd) (.call (.ref 130) ⟨[.str (S v) t1], []⟩) R s := by
  refine' enter (binds := [(Str.ofString "value", .str (S v) t1)]) H X Tp ?k6 ?k7 ?k8 ?k9 ?kB ?_ ?c2 ?c3 ?c4 ?c5
  case k6 => k_is
  case k7 => k_is
  case k8 => show dp < recursionLimit; omega
  case k9 => exact BindsTo.of_eq rfl
  case kB => exact locs rfl
  case c2 => exact rfl
  case c3 => exact rfl
  case c4 => exact rfl
  case c5 => decide
  intro h₁ F N
  have hroom3 : dp + 1 + 3 < recursionLimit := by omega
  cases hv0 : v.isEmpty with
  | true =>
    obtain rfl : v = [] := List.isEmpty_iff.mp hv0
    have hne : (S ([] : List Nat) == Str.ofString "") = true := rfl
    show wpAny _ _ _ _ _ _
    try k_fold
    (repeat' ((fail_if_success (with_reducible show wpAny _ _ (exec (Stmt.For _ _ _ _ _) _) _ _ _)); (fail_if_success (with_reducible show wpAny _ _ (eval (Expr.ListComp _ _ _ _) _) _ _ _)); first | (k_unfold; (try dsimp only)) | ((with_reducible show wpAny _ _ (exec _ _) _ _ _); k_fold) | (first | ((with_reducible show wpAny _ _ (call (Value.ref 111) _) _ _ _); (refine' k_translate ?zqF ?zqN Endg.nil sep_nil ?zqTB ?zqG ?zqX ?zqT ?zqr ?zqn ?_; (case zqF => k_asm); (case zqN => k_asm); (case zqTB => assumption); (case zqG => assumption); (case zqX => assumption); (case zqT => assumption); (case zqr => assumption); (case zqn => assumption)); intro D' vs' k' h' tk' g' TL' F' N' TB' sep' off' G' hl' hy'; (try dsimp only [List.cons_append, List.nil_append] at N' sep' off'); (try dsimp only)) | ((with_reducible show wpAny _ _ (compareOp CmpOp.NotEq (Value.str _ _) (Value.str _ _)) _ _ _); (first | (refine k_ne_is true (by first | assumption | rfl) ?_) | (refine k_ne_is false (by first | assumption | rfl) ?_)); (try dsimp only [Bool.not_true, Bool.not_false])) | ((with_reducible show wpAny _ _ (binaryOp Operator.Mult (Value.str _ _) (Value.int _ _)) _ _ _); (refine k_mulz (by omega) ?_); intro t' tk'; (try dsimp only)) | ((with_reducible show wpAny _ _ (call (Value.builtin "len") [Value.str (S _) _]) _ _ _); (refine len_str (by rw [S_len]; omega) ?_); (try rw [S_len]); (try dsimp only))) | walk1 | (dsimp only; walk1)))
    rename Fr _ _ _ _ => F5
    rename News _ _ _ _ => N5
    rename Tabs _ => TB1
    rename AllBare _ => G1
    exact hR _ _ _ _ (Grown.of (TL' := _) F5 N5 (fun p hp => .tail _ hp) (Nat.le_refl _)) TB1 G1
  | false =>
    have hne : (S v == Str.ofString "") = false := by
      cases v with
      | nil => cases hv0
      | cons _ _ => exact S_cons_ne
    show wpAny _ _ _ _ _ _
    try k_fold
    (repeat' ((fail_if_success (with_reducible show wpAny _ _ (exec (Stmt.For _ _ _ _ _) _) _ _ _)); (fail_if_success (with_reducible show wpAny _ _ (eval (Expr.ListComp _ _ _ _) _) _ _ _)); first | (k_unfold; (try dsimp only)) | ((with_reducible show wpAny _ _ (exec _ _) _ _ _); k_fold) | (first | ((with_reducible show wpAny _ _ (call (Value.ref 111) _) _ _ _); (refine' k_translate ?zqF ?zqN Endg.nil sep_nil ?zqTB ?zqG ?zqX ?zqT ?zqr ?zqn ?_; (case zqF => k_asm); (case zqN => k_asm); (case zqTB => assumption); (case zqG => assumption); (case zqX => assumption); (case zqT => assumption); (case zqr => assumption); (case zqn => assumption)); intro D' vs' k' h' tk' g' TL' F' N' TB' sep' off' G' hl' hy'; (try dsimp only [List.cons_append, List.nil_append] at N' sep' off'); (try dsimp only)) | ((with_reducible show wpAny _ _ (compareOp CmpOp.NotEq (Value.str _ _) (Value.str _ _)) _ _ _); (first | (refine k_ne_is true (by first | assumption | rfl) ?_) | (refine k_ne_is false (by first | assumption | rfl) ?_)); (try dsimp only [Bool.not_true, Bool.not_false])) | ((with_reducible show wpAny _ _ (binaryOp Operator.Mult (Value.str _ _) (Value.int _ _)) _ _ _); (refine k_mulz (by omega) ?_); intro t' tk'; (try dsimp only)) | ((with_reducible show wpAny _ _ (call (Value.builtin "len") [Value.str (S _) _]) _ _ _); (refine len_str (by rw [S_len]; omega) ?_); (try rw [S_len]); (try dsimp only))) | walk1 | (dsimp only; walk1)))
    rename Fr _ _ _ _ => F'
    rename News _ _ _ _ => N'
    obtain ⟨D, rfl⟩ := head_of N'
    rename (_ = v.length) => hl
    rename (∀ v ∈ _, ∃ t, v = Value.str Yt t) => hy
    rename Tabs _ => TB1
    rename AllBare _ => G1
    refine' k_zipcomp (T := v) (t := t1) (l := D) (Fv := fun i y => ∃ c, v[i]? = some c ∧ y = .bool (isTok c)) F' N' ⟨_, (N' _ (.head _)).1, rfl, _, rfl⟩ rfl rfl ?c1 rfl ?c2 rfl rfl ?c3 ?c4 ?c5 ?h
    case c1 => decide
    case c2 => decide
    case c3 => decide
    case c4 => rw [List.size_toArray]; exact hl
    case c5 => omega
    case h =>
      (repeat' ((fail_if_success (with_reducible show wpAny _ _ (exec (Stmt.For _ _ _ _ _) _) _ _ _)); (fail_if_success (with_reducible show wpAny _ _ (eval (Expr.ListComp _ _ _ _) _) _ _ _)); first | (k_unfold; (try dsimp only)) | ((with_reducible show wpAny _ _ (exec _ _) _ _ _); k_fold) | (first | ((with_reducible show wpAny _ _ (call (Value.type "zip") [Value.ref _, Value.str _ _]) _ _ _); (refine' k_zip ?zqF ?zqN ?zql ?_; (case zqF => k_asm); (case zqN => k_asm); (case zql => exact ⟨_, news_get (by k_asm) (by k_mem), rfl, _, rfl⟩)); intro z' TI' TO' i1' i2' h' F' N' Z' D' f'; (try dsimp only))) | walk1 | (dsimp only; walk1)))
      rename Fr _ _ _ _ => F2
      rename News _ _ _ _ => N2
      rename ZAt _ _ _ _ _ _ _ _ _ _ _ _ => Z2
      rename ZNe _ _ _ _ _ _ => D2
      rename (∀ b, _ → _ ≠ _ ∧ _) => fr2
      refine ⟨_, _, _, _, _, rfl, F2, N2, Z2, D2, fr2, ?_, ?_⟩
      · intro i v0 c u C t' m₂ E' hxi hTi h0C hkeep hns hm1 hm2
        obtain ⟨t0, rfl⟩ := hy v0 (by
          rw [List.getElem?_toArray] at hxi
          exact List.mem_of_getElem? hxi)
        obtain ⟨hp, g, d, tk, os⟩ := t'
        clear F' N' F2 N2
        have F3 : Fr (frz s.heap TL) C hp m₂ := ⟨hns, hkeep, h0C⟩
        have hroom2 : dp + 1 + 1 < recursionLimit := by omega
        show wpAny _ _ _ _ _ _
        (repeat' ((fail_if_success (with_reducible show wpAny _ _ (exec (Stmt.For _ _ _ _ _) _) _ _ _)); (fail_if_success (with_reducible show wpAny _ _ (eval (Expr.ListComp _ _ _ _) _) _ _ _)); first | (k_unfold; (try dsimp only)) | ((with_reducible show wpAny _ _ (exec _ _) _ _ _); k_fold) | (first | ((with_reducible show wpAny _ _ (call (Value.ref 125) _) _ _ _); (refine' k_takes ?zqK ?zqX ?zqT ?zqr ?_; (case zqK => exact Fr.keep (by assumption)); (case zqX => assumption); (case zqT => assumption); (case zqr => assumption)); intro h' tk' k'; (try dsimp only))) | walk1 | (dsimp only; walk1)))
        exact ⟨⟨c, hTi, rfl⟩, _, _, rfl, by assumption⟩
      · intro D3 ys h3 tk3 F3 N3 off3 hyl hys
        clear F' N' F2 N2
        have hbv : (v.map isTok).all id = bareV v := by
          unfold bareV
          rw [hv0, List.all_map]; simp
        rw [← hbv] at hR
        show wpAny _ _ _ _ _ _
        (repeat' ((fail_if_success (with_reducible show wpAny _ _ (exec (Stmt.For _ _ _ _ _) _) _ _ _)); (fail_if_success (with_reducible show wpAny _ _ (eval (Expr.ListComp _ _ _ _) _) _ _ _)); first | (k_unfold; (try dsimp only)) | ((with_reducible show wpAny _ _ (exec _ _) _ _ _); k_fold) | (first | ((with_reducible show wpAny _ _ (compareOp CmpOp.Eq (Value.ref _) (Value.ref _)) _ _ _); (refine' k_eqbools ?zqa ?zqb ?zqc ?zqd ?zqe ?zqf ?_; (case zqa => exact ⟨_, news_get (by k_asm) (by k_mem), rfl, _, rfl⟩); (case zqb => assumption); (case zqc => exact bare_bools (by assumption) (by assumption)); (case zqd => exact trues_of); (case zqe => exact rfl); (case zqf => (dsimp only [Around.deeper]; omega)))) | ((with_reducible show wpAny _ _ (call (Value.builtin "len") [Value.str (S _) _]) _ _ _); (refine len_str (by rw [S_len]; omega) ?_); (try rw [S_len]); (try dsimp only))) | walk1 | (dsimp only; walk1)))
        rename Fr _ _ _ _ => F5
        rename News _ _ _ _ => N5
        exact hR _ _ _ _ (Grown.of (TL' := _) F5 N5 (fun p hp => by repeat (first | exact hp | apply List.Mem.tail)) (Nat.le_refl _)) TB1 G1
end Mine
end
section
theorem Mine.off_W14a : True := by (w_top off; trivial)
open PySem PySem.W PyProof.Rows PySem.Spec PySem.Calls
set_option Elab.async false
set_option maxRecDepth 100000
namespace Mine
/-- each sign c by z -/
noncomputable def swp (c : Nat) (z : List Nat) (l : List Nat) : List Nat := l.flatMap fun k => if k = c then z else [k]
theorem swp_append (c : Nat) (z a b : List Nat) : swp c z (a ++ b) = swp c z a ++ swp c z b := by unfold swp; rw [List.flatMap_append]
theorem swp_free (c : Nat) (z : List Nat) : ∀ l : List Nat, c ∉ l → swp c z l = l
  | [], _ => rfl
  | k :: r, h => by
    have h1 : ¬ k = c := fun e => h (e ▸ List.mem_cons_self ..)
    have h2 : c ∉ r := fun m => h (List.mem_cons_of_mem _ m)
    have ih := swp_free c z r h2
    unfold swp at ih ⊢
    rw [List.flatMap_cons, if_neg h1, ih]; rfl
theorem swp_join (c : Nat) (z : List Nat) : ∀ parts : List Str, (∀ p ∈ parts, c ∉ p.cps.toList) → swp c z (Str.join ⟨#[c]⟩ parts).cps.toList = (Str.join (S z) parts).cps.toList
  | [], _ => rfl
  | [p], h => swp_free c z _ (h p (List.mem_singleton.mpr rfl))
  | p :: q :: r, h => by
    have ih := swp_join c z (q :: r) fun a ha => h a (List.mem_cons_of_mem _ ha)
    show swp c z (p ++ ⟨#[c]⟩ ++ Str.join ⟨#[c]⟩ (q :: r)).cps.toList = (p ++ S z ++ Str.join (S z) (q :: r)).cps.toList
    simp only [Str.cps_append, Array.toList_append]
    rw [swp_append, swp_append, ih, swp_free c z _ (h p (List.mem_cons_self ..))]
    have e : swp c z [c] = z := by simp [swp]
    show p.cps.toList ++ swp c z [c] ++ _ = _
    rw [e]
theorem replace_S (c : Nat) (z x : List Nat) : Txt.replace (S x) ⟨#[c]⟩ (S z) = S (swp c z x) := by
  have h : (Txt.replace (S x) ⟨#[c]⟩ (S z)).cps.toList = swp c z x := by
    rw [StrLaws.replace_one, ← swp_join c z _ (StrLaws.split_free (S x) c), StrLaws.join_split]
  refine Str.ext' ?_
  rw [← h]
/-- the two replacements make the escaped text -/
theorem two_escL (x : List Nat) : swp 34 [92, 34] (swp 92 [92, 92] x) = escL x := by
  induction x with
  | nil => rfl
  | cons k r ih =>
    have e : swp 92 [92, 92] (k :: r) = (if k = 92 then [92, 92] else [k]) ++ swp 92 [92, 92] r := by unfold swp; rw [List.flatMap_cons]
    rw [e, swp_append, ih]
    by_cases h1 : k = 92
    · subst h1
      rw [if_pos rfl, escL_cons_esc rfl]; rfl
    · rw [if_neg h1]
      by_cases h2 : k = 34
      · subst h2
        rw [escL_cons_esc rfl]; rfl
      · have h3 : isEsc k = false := by unfold isEsc; simp [h1, h2]
        rw [escL_cons h3]
        have e2 : swp 34 [92, 34] [k] = [k] := by simp [swp, h2]
        rw [e2]; rfl
theorem swp_len (c : Nat) (z : List Nat) (hz : z.length ≤ 2) : ∀ x : List Nat, (swp c z x).length ≤ 2 * x.length
  | [] => by simp [swp]
  | k :: r => by
    have ih := swp_len c z hz r
    have e : swp c z (k :: r) = (if k = c then z else [k]) ++ swp c z r := by unfold swp; rw [List.flatMap_cons]
    rw [e, List.length_append, List.length_cons]
    split
    · omega
    · simp only [List.length_cons, List.length_nil]; omega
section
variable {prog : Program} {w : World} {A : Around} {E : Value → Shared → Prop} {s : Shared} {t u v : Tok} {x z : List Nat} {c : Nat} {y y' : Str} {Q : Value → Shared → Prop}
theorem k_repl (hu : u ≠ 0) (hv : v ≠ 0) (huv : u ≠ v) (hy : y = S [c]) (hy' : y' = S z) (hne : (S [c] == S z) = false) (hz : z.length ≤ 2) (hx : x.length ≤ 1000) (hq : ∀ t' k, Q (.str (S (swp c z x)) t') { s with toks := k }) :
    wpAny (model prog w) A (call (.builtin "str.replace") [.str (S x) t, .str y u, .str y' v]) Q E s := by
  subst hy
  subst hy'
  refine SC.replaceW hu hv huv hne (by rw [S_len]; omega) (by rw [S_len]; omega) fun t' k => ?_
  rw [show Txt.replace (S x) (S [c]) (S z) = S (swp c z x) from replace_S c z x]
  exact hq t' k
theorem k_repl' (h1 : 1 ≤ s.toks) (hu : u ≠ 0) (hv : v ≠ 0) (huv : u ≠ v) (hy : y = S [c]) (hy' : y' = S z) (hne : (S [c] == S z) = false) (hz : z.length ≤ 2) (hx : x.length ≤ 1000) (hq : ∀ t' k, 1 ≤ k → Q (.str (S (swp c z x)) t') { s with toks := k }) :
    wpAny (model prog w) A (call (.builtin "str.replace") [.str (S x) t, .str y u, .str y' v]) Q E s :=
  wpAny_with_toks h1 (k_repl (E := fun e s' => 1 ≤ s'.toks → E e s') hu hv huv hy hy' hne hz hx fun t' k hk => hq t' k hk)
end
section
variable {prog : Program} {w : World} {A : Around} {E : Value → Shared → Prop} {s : Shared} {env : Env} {h₀ : Heap} {target : Expr} {body : List Stmt} {Q : Flow → Shared → Prop}
/-- the rest of a for whose turns may make generators -/
noncomputable def LoopG (prog : Program) (w : World) (A : Around) (E : Value → Shared → Prop) (env : Env) (target : Expr) (body : List Stmt) (Q : Flow → Shared → Prop) (it : Value) (s₂ : Shared) : Prop :=
  codeAny (model prog w) A (.forLoop target it body [] env) (fun r s' => match r with | .ok f => Q f s' | .error e => cameBackBy (model prog w) A env E e s') s₂
theorem For_G {iter : Expr} {pos : Pos} (h : wpAny (model prog w) A (eval iter env) (fun xv s₁ => wpAny (model prog w) A (pyIter xv) (LoopG prog w A E env target body Q) E s₁) E s) (hs : ∀ x, foldedSetIterable iter env x = pure x := by intro _; rfl) :
    wpAny (model prog w) A (exec (.For target iter body [] pos) env) Q E s := wpAny_For h hs
/-- the end of a turn that may have made generators -/
noncomputable def EndGG (h₀ : Heap) (L I : Addr) (oI : Obj) (J : (Str → Option Value) → List (Addr × Obj) → Array GenState → Prop) (s₁ s₂ : Shared) : Prop :=
  ∃ h' tk g' m' nx, s₂ = { s₁ with heap := h', toks := tk, gens := g' } ∧ Fr h₀ L h' m' ∧ News h₀ L h' ((I, oI) :: nx) ∧ (∀ p ∈ nx, p.1 ≠ I) ∧ J m' nx g'
noncomputable def PostGG (h₀ : Heap) (L I : Addr) (oI : Obj) (J : (Str → Option Value) → List (Addr × Obj) → Array GenState → Prop) (s₁ : Shared) (Q : Flow → Shared → Prop) (f : Flow) (s₂ : Shared) : Prop :=
  match f with
  | .ret v => Q (.ret v) s₂
  | .brk => Q .next s₂
  | _ => EndGG h₀ L I oI J s₁ s₂
theorem list_turnsG {l : Addr} {vs : List Value} {m₀ : Str → Option Value} {news : List (Addr × Obj)} (J : Nat → (Str → Option Value) → List (Addr × Obj) → Array GenState → Prop)
    (hl : h₀.IsList l vs.toArray) (hh : A.handled = none) (F : Fr h₀ env.locals s.heap m₀) (N : News h₀ env.locals s.heap news) (hj : J 0 m₀ news s.gens) (htk : 1 ≤ s.toks)
    (turn : ∀ I, (∀ p ∈ news, p.1 < I) → ∀ i v m₁ news₁ h tk g oI, vs[i]? = some v → J i m₁ news₁ g → 1 ≤ tk → (∀ p ∈ news₁, p.1 ≠ I) → Fr h₀ env.locals h m₁ → News h₀ env.locals h ((I, oI) :: news₁) →
      wpAny (model prog w) A (assign target env v) (fun _ s₃ => wpAny (model prog w) A (execs body env) (PostGG h₀ env.locals I oI (J (i + 1)) { s with heap := h, toks := tk, gens := g } Q) E s₃) E { s with heap := h, toks := tk, gens := g })
    (done : ∀ m₁ news₁ h tk g, J vs.length m₁ news₁ g → 1 ≤ tk → Fr h₀ env.locals h m₁ → News h₀ env.locals h news₁ → Q .next { s with heap := h, toks := tk, gens := g })
    (hE : PassesOwn (model prog w) A env E := by passes_own) :
    wpAny (model prog w) A (pyIter (.ref l)) (LoopG prog w A E env target body Q) E s := by
  have hls : s.heap.IsList l vs.toArray := hl.at fun o e => F.keep l o e
  obtain ⟨ol, hol, _⟩ := id hl
  have hlt : l < h₀.objs.size := Heap.lt_size hol
  have hne : l ≠ s.heap.objs.size := Nat.ne_of_lt (Nat.lt_trans (Nat.lt_of_lt_of_le hlt F.above) F.ns.lt)
  refine wpAny_pyIter_list hls ?_
  have W := Walks.list (prog := prog) (w := w) hh s.heap.objs.size l hne vs.toArray
  have hlen : vs.toArray.size = vs.length := by simp
  rw [hlen] at W
  have hLI : env.locals ≠ s.heap.objs.size := Nat.ne_of_lt F.ns.lt
  have hI0 : h₀.get? s.heap.objs.size = none := next_is_new F
  refine codeAny_forLoop_any (fun k s' => ∃ h' tk g m' news' i, s' = { s with heap := h', toks := tk, gens := g } ∧ (h'.IsListIter s.heap.objs.size l i ∧ h'.IsList l vs.toArray) ∧ Fr h₀ env.locals h' m' ∧ News h₀ env.locals h' news' ∧ (∀ p ∈ news', p.1 ≠ s.heap.objs.size) ∧ J i m' news' g ∧ 1 ≤ tk ∧ i ≤ vs.length ∧ k = vs.length + 1 - i) ?_ (vs.length + 1)
    ⟨_, s.toks, s.gens, m₀, news, 0, rfl, ⟨⟨_, Heap.get?_push_size _ rfl, rfl, rfl⟩, hls.at fun o e => Heap.get?_push_of_some _ e⟩, F.push _, fun p hp => ⟨Heap.get?_push_of_some _ (N p hp).1, (N p hp).2⟩, fun p hp => Nat.ne_of_lt (Heap.lt_size (N p hp).1), hj, htk, Nat.zero_le _, rfl⟩
  rintro k s' ⟨h', tk, g, m', news', i, rfl, hst, F', N', hoff, hJ, htk', hi, rfl⟩
  have next : ∀ h₁ : Heap, (∀ b o, b ∉ [s.heap.objs.size] → h'.get? b = some o → h₁.get? b = some o) → Fr h₀ env.locals h₁ m' ∧ News h₀ env.locals h₁ news' := fun h₁ hk =>
    ⟨⟨F'.ns.at' fun o e => hk _ o (by simpa using hLI) e, fun b o e => hk b o (fun hb => by rw [List.mem_singleton.mp hb, hI0] at e; cases e) (F'.keep b o e), F'.above⟩, fun p hp => ⟨hk _ _ (by simpa using hoff p hp) (N' p hp).1, (N' p hp).2⟩⟩
  by_cases hlt : i < vs.length
  · refine wpAny_with_toks htk' (W.item i _ _ _ hlt hst fun v h₁ tk₁ hP hst₁ hk₁ => ?_)
    intro htk₁
    obtain ⟨F₁, N₁⟩ := next h₁ hk₁
    obtain ⟨oI, hoI, hcI, hdI⟩ := id hst₁.1
    have hv : vs[i]? = some v := by simpa using hP
    refine letGo_listiter hst₁.1 ?_
    have N₂ : News h₀ env.locals h₁ ((s.heap.objs.size, oI) :: news') := fun p hp => by
      rcases List.mem_cons.mp hp with rfl | hp
      · exact ⟨hoI, Ne.symm hLI, hI0⟩
      · exact N₁ p hp
    refine wpAny_mono (wpAny_toks_of (n := 1) htk₁ (turn _ (fun p hp => Heap.lt_size (N p hp).1) i v m' news' h₁ tk₁ g oI hv hJ htk₁ hoff F₁ N₂)) (fun _ s₂ h₂ => ?_) fun e s' x => hE e s' x.2
    obtain ⟨ht2, h₂⟩ := h₂
    refine wpAny_mono (wpAny_toks_of (n := 1) ht2 h₂) (fun f s₃ h₃ => ?_) fun e s' x => hE e s' x.2
    obtain ⟨ht3, h₃⟩ := h₃
    have fin : EndGG h₀ env.locals s.heap.objs.size oI (J (i + 1)) { s with heap := h₁, toks := tk₁, gens := g } s₃ → ∃ m, m < vs.length + 1 - i ∧ ∃ h' tk g m' news' j, s₃ = { s with heap := h', toks := tk, gens := g } ∧ (h'.IsListIter s.heap.objs.size l j ∧ h'.IsList l vs.toArray) ∧ Fr h₀ env.locals h' m' ∧ News h₀ env.locals h' news' ∧ (∀ p ∈ news', p.1 ≠ s.heap.objs.size) ∧ J j m' news' g ∧ 1 ≤ tk ∧ j ≤ vs.length ∧ m = vs.length + 1 - j := by
      rintro ⟨h₄, tk₄, g₄, m₄, nx, rfl, F₄, N₄, off₄, J₄⟩
      refine ⟨vs.length + 1 - (i + 1), by omega, h₄, tk₄, g₄, m₄, nx, i + 1, rfl, ⟨⟨oI, (N₄ _ (.head _)).1, hcI, hdI⟩, hl.at fun o e => F₄.keep l o e⟩, F₄, fun p hp => N₄ p (.tail _ hp), off₄, J₄, ht3, hlt, rfl⟩
    cases f with
    | ret v => exact h₃
    | brk => exact h₃
    | next => exact fin h₃
    | cont => exact fin h₃
  · obtain rfl : i = vs.length := Nat.le_antisymm hi (Nat.not_lt.mp hlt)
    refine wpAny_with_toks htk' (W.done _ _ _ hst fun h₁ tk₁ hk₁ => ?_)
    intro htk₁
    obtain ⟨F₁, N₁⟩ := next h₁ hk₁
    exact wpAny_execs_nil (done m' news' h₁ tk₁ g hJ htk₁ F₁ N₁)
noncomputable def TokK (a P : Prop) : Prop := a → P
theorem execs_cons' {st : Stmt} {rest : List Stmt} {M : Model} (h : wpAny M A (exec st env) (fun f s' => match f with | .next => wpAny M A (execs rest env) Q E s' | f => Q f s') E s) : wpAny M A (execs (st :: rest) env) Q E s := by
  rw [execs_cons]
  refine wpAny_bind (wpAny_mono h (fun f s' q => ?_) (fun e s' x => x))
  cases f <;> first | exact q | exact wpAny_pure q
theorem execs_toks {st : Stmt} {rest : List Stmt} {M : Model} (h1 : 1 ≤ s.toks) (h : wpAny M A (exec st env) (fun f s' => TokK (1 ≤ s'.toks) (match f with | .next => wpAny M A (execs rest env) Q E s' | f => Q f s')) E s) : wpAny M A (execs (st :: rest) env) Q E s := by
  rw [execs_cons]
  refine wpAny_bind (wpAny_with_toks h1 (wpAny_mono h (fun f s' q hk => ?_) (fun e s' x _ => x)))
  have := q hk
  cases f <;> first | exact this | exact wpAny_pure this
end
end Mine
end
section
theorem Mine.off_W14b : True := by (w_top off; trivial)
open PySem PySem.W PyProof.Rows PySem.Spec PySem.Calls
set_option Elab.async false
set_option maxRecDepth 100000
namespace Mine
theorem k_bare {w : World} {dp un : Nat} {fr : Option (List Env)} {gd : Option (List Code)} {E : Value → Shared → Prop} {s : Shared} {h₀ : Heap} {L : Addr} {m mg mb : Str → Option Value} {news pre TL : List (Addr × Obj)} {p : Program} {loose : List Str} {mean : ExcName → Option Value} {v : List Nat} {t1 : Tok} {Q : Value → Shared → Prop}
    (F : Fr h₀ L s.heap m) (N : News h₀ L s.heap news) (En : Endg TL news pre) (sep : ∀ p ∈ pre, ∀ q ∈ TL, p.1 ≠ q.1) (TB : Tabs TL) (G : AllBare s.gens) (X : (hf.heap_1 w.params).In h₀) (Tp : Top p loose mean mg mb h₀) (hroom : dp + 4 < recursionLimit) (hv : v.length ≤ 10) (hun : un + 10 < cLine) {b : Bool} (hbv : bareV v = b)
    (hq : ∀ h' tk g' TL', Fr h₀ L h' m → News h₀ L h' (pre ++ TL') → Tabs TL' → (∀ p ∈ pre, ∀ q ∈ TL', p.1 ≠ q.1) → AllBare g' → Q (.bool b) { s with heap := h', toks := tk, gens := g' }) :
    wpAny (model PySem.Challenge.rw_in0021_01.prog w) (Am dp un fr gd) (call (.ref 130) [.str (S v) t1]) Q E s := by
  have en := En.eq
  subst en
  subst hbv
  refine wpAny_call (bare_spec (hid_of N fun p hp => List.mem_append_right _ hp) TB (in_frz F N X) (top_frz F N Tp) hroom hv G hun fun h' tk g' TL' Gr TB' G' => ?_)
  obtain ⟨F', N', sep'⟩ := backK F N sep Gr
  exact hq h' tk g' TL' F' N' TB' sep' G'
end Mine
end
section
theorem Mine.off_W14 : True := by (w_top off; trivial)
open PySem PySem.W PyProof.Rows PySem.Spec PySem.Calls
set_option Elab.async false
set_option maxRecDepth 100000
set_option pp.deepTerms.threshold 6
namespace Mine
theorem k_addR {prog : Program} {w : World} {A : Around} {E : Value → Shared → Prop} {s : Shared} {a b : List Nat} {y : Str} {t u : Tok} {Q : Value → Shared → Prop} (hy : y = S b) (hz : a.length + b.length ≤ 2 ^ 23) (h : ∀ t' tk, Q (.str (S (a ++ b)) t') { s with toks := tk }) : wpAny (model prog w) A (binaryOp .Add (.str (S a) t) (.str y u)) Q E s := by
  subst hy; exact k_add hz h
theorem k_addL2 {prog : Program} {w : World} {A : Around} {E : Value → Shared → Prop} {s : Shared} {a b : List Nat} {y : Str} {t u : Tok} {Q : Value → Shared → Prop} (hy : y = S a) (hz : a.length + b.length ≤ 2 ^ 23) (h : ∀ t' tk, Q (.str (S (a ++ b)) t') { s with toks := tk }) : wpAny (model prog w) A (binaryOp .Add (.str y t) (.str (S b) u)) Q E s := by
  subst hy; exact k_add hz h
noncomputable abbrev WInv14 (row : List KV) (D : Addr) (i : Nat) (m₁ : Str → Option Value) (news₁ : List (Addr × Obj)) (g : Array GenState) : Prop := ∃ as n TL₁, news₁ = (D, W.listOf as.toArray n) :: TL₁ ∧ Txts as ((row.take i).map itemT) ∧ Tabs TL₁ ∧ (∀ q ∈ TL₁, q.1 ≠ D) ∧ AllBare g ∧ ∃ u, m₁ = frm [(Str.ofString "items", .ref D)] u
set_option maxHeartbeats 4000000 in
theorem written_spec {w : World} {mg mb : Str → Option Value} {p : Program} {loose : List Str} {mean : ExcName → Option Value} {dp un : Nat} {fr : Option (List Env)} {gd : Option (List Code)} {s : Shared} {TL : List (Addr × Obj)} {R : Result → Shared → Prop} {l : Addr} {row : List KV} {rvs : List Value}
    (H : Hid s.heap TL) (TB : Tabs TL) (X : (hf.heap_1 w.params).In (frz s.heap TL)) (Tp : Top p loose mean mg mb (frz s.heap TL)) (hroom : dp + 5 < recursionLimit) (hb : AllBare s.gens) (hun : un + 13 < cLine) (htk : 1 ≤ s.toks)
    (hl : (frz s.heap TL).IsList l rvs.toArray) (hpairs : Both (PairAt (frz s.heap TL)) rvs row) (hrl : row.length ≤ 10) (hsk : ∀ kv ∈ row, SmallKV kv)
    (hR : ∀ h' tk g' t TL', Grown s.heap h' TL TL' → Tabs TL' → AllBare g' → R (.ok (.ret (.str (S (rowT row)) t))) { s with heap := h', toks := tk, gens := g' }) :
    codeAny (model PySem.Challenge.rw_in0021_01.prog w) (Am dp un fr gd) (.call (.ref 137) ⟨[.ref l], []⟩) R s := by
  refine' enter (binds := [(Str.ofString "pairs", .ref l)]) H X Tp ?k6 ?k7 ?k8 ?k9 ?kB ?_ ?c2 ?c3 ?c4 ?c5
  case k6 => k_is
  case k7 => k_is
  case k8 => show dp < recursionLimit; omega
  case k9 => exact BindsTo.of_eq rfl
  case kB => exact locs rfl
  case c2 => exact rfl
  case c3 => exact rfl
  case c4 => exact rfl
  case c5 => decide
  intro h₁ F N
  have hroom4 : dp + 1 + 4 < recursionLimit := by omega
  show wpAny _ _ _ _ _ _
  refine execs_toks (Nat.le_trans htk (Nat.le_add_right _ _)) ?_
  (repeat' ((fail_if_success (with_reducible show wpAny _ _ (exec (Stmt.For _ _ _ _ _) _) _ _ _)); (fail_if_success (with_reducible show wpAny _ _ (pyIter _) (LoopG _ _ _ _ _ _ _ _) _ _)); first | (k_unfold; (try dsimp only)) | ((with_reducible show wpAny _ _ (exec _ _) _ _ _); k_fold) | fail | walk1 | (dsimp only; walk1)))
  intro htk1
  refine execs_cons' ?_
  refine For_G ?_
  (repeat' ((fail_if_success (with_reducible show wpAny _ _ (exec (Stmt.For _ _ _ _ _) _) _ _ _)); (fail_if_success (with_reducible show wpAny _ _ (pyIter _) (LoopG _ _ _ _ _ _ _ _) _ _)); first | (k_unfold; (try dsimp only)) | ((with_reducible show wpAny _ _ (exec _ _) _ _ _); k_fold) | fail | walk1 | (dsimp only; walk1)))
  rename Fr _ _ _ _ => F'
  rename News _ _ _ _ => N'
  rename (∀ p ∈ TL, p.1 < _) => lD
  obtain ⟨D, rfl⟩ := head_of N'
  refine list_turnsG (WInv14 row D) hl rfl F' N' ?j ?tk ?turn ?done ?hE
  case hE => passes_own
  case j => exact ⟨[], 0, TL, rfl, .nil, TB, fun q hq => Nat.ne_of_lt (lD q hq), hb, frm_of1 rfl⟩
  case tk => (dsimp only; first | assumption | omega)
  case done =>
    clear F' N'
    rintro m₁ news₁ h tk g ⟨as, n, TL₁, rfl, htx, TB₁, hD, hg, u, rfl⟩ htk1 F₁ N₁
    rw [hpairs.length, List.take_length] at htx
    have hsum : ((row.map itemT).map List.length).sum + (row.map itemT).length * 2 ≤ 2 ^ 23 := by
      have := items_sum hrl hsk
      rw [List.length_map]; omega
    show wpAny _ _ _ _ _ _
    (repeat' ((fail_if_success (with_reducible show wpAny _ _ (exec (Stmt.For _ _ _ _ _) _) _ _ _)); (fail_if_success (with_reducible show wpAny _ _ (pyIter _) (LoopG _ _ _ _ _ _ _ _) _ _)); first | (k_unfold; (try dsimp only)) | ((with_reducible show wpAny _ _ (exec _ _) _ _ _); k_fold) | (first | ((with_reducible show wpAny _ _ (execs (_ :: _) _) _ _ _); (refine execs_cons' ?_); (try dsimp only)) | ((with_reducible show wpAny _ _ (call (Value.builtin "str.join") [Value.str _ _, Value.ref _]) _ _ _); (refine' k_join ?zqN ?zqM ?zqT ?zqx ?zqs ?zqw ?_; (case zqN => k_asm); (case zqM => k_mem); (case zqT => assumption); (case zqx => exact rfl); (case zqs => decide); (case zqw => assumption)); intro t' tk'; (try dsimp only))) | walk1 | (dsimp only; walk1)))
    rename Fr _ _ _ _ => F'
    rename News _ _ _ _ => N'
    exact hR _ _ _ _ TL₁ (Grown.of F' N' (fun p hp => .tail _ hp) (Nat.le_refl _)) TB₁ hg
  case turn =>
    clear F' N'
    rintro I hI i v m₁ news₁ h tk g oI hv ⟨as, n, TL₁, rfl, htx, TB₁, hD, hg, u, rfl⟩ htk1 hne F₁ N₁
    obtain ⟨kv, hkv, T, tkT, uT, rfl, hT, hO⟩ := hpairs.get hv
    obtain ⟨k, ov⟩ := kv
    replace hT : IsTup (frz s.heap TL) T #[.str (S k) tkT, uT] := hT
    have hkv' : SmallKV (k, ov) := hsk _ (List.mem_of_getElem? hkv)
    have hkl : k.length ≤ 10 := hkv'.1
    have hDI : D < I := hI _ (.head _)
    have hID : @Ne Nat I D := Nat.ne_of_gt hDI
    have hil : i < row.length := (List.getElem?_eq_some_iff.mp hkv).1
    have hasl : as.length = i := by rw [htx.length, List.length_map, List.length_take]; omega
    have hstep : (row.take (i + 1)).map itemT = (row.take i).map itemT ++ [itemT (k, ov)] := by
      rw [List.take_add_one, hkv]; simp
    have hTI : ∀ q ∈ TL₁, q.1 ≠ I := fun q hq => hne q (.tail _ hq)
    have hneI : ∀ (o : Obj) {TL' : List (Addr × Obj)}, (∀ q ∈ TL', q.1 ≠ I) → ∀ p ∈ (D, o) :: TL', p.1 ≠ I := fun o TL' hq p hp => by
      rcases List.mem_cons.mp hp with rfl | hp
      · exact Nat.ne_of_lt hDI
      · exact hq p hp
    have hun3 : un + 3 + 10 < cLine := by omega
    cases ov with
    | none =>
      have hO' : uT = .none := hO
      subst hO'
      show wpAny _ _ _ _ _ _
      try k_fold
      (repeat' ((fail_if_success (with_reducible show wpAny _ _ (exec (Stmt.For _ _ _ _ _) _) _ _ _)); (fail_if_success (with_reducible show wpAny _ _ (pyIter _) (LoopG _ _ _ _ _ _ _ _) _ _)); first | (k_unfold; (try dsimp only)) | ((with_reducible show wpAny _ _ (exec _ _) _ _ _); k_fold) | (first | ((with_reducible show wpAny _ _ (execs (_ :: _) _) _ _ _); (refine execs_cons' ?_); (try dsimp only)) | ((with_reducible show wpAny _ _ (call (Value.builtin "list.append") [Value.ref _, _]) _ _ _); (refine' k_append ?zqF ?zqN ?zqU ?zqz ?_; (case zqF => k_asm); (case zqN => k_asm); (case zqU => (first | ((repeat (first | (refine' Upd.head ?zqb; (case zqb => ((repeat (first | assumption | (refine' List.forall_mem_cons.mpr ⟨?zqc, ?_⟩; (case zqc => k_ne)) | exact sep_at' (by assumption) (.head _) | exact sep_at' (by assumption) (.tail _ (.head _)))); done))) | (refine' Upd.tail ?zqa ?_; (case zqa => first | assumption | k_ne); rotate_left))); done) | k_upd)); (case zqz => omega)); intro h' F' N'; (try dsimp only))) | walk1 | (dsimp only; walk1)))
      rename Fr _ _ _ _ => F'
      rename News _ _ _ _ => N'
      exact ⟨_, _, _, _, _, rfl, F', N', hneI _ hTI, _, _, TL₁, rfl, hstep ▸ htx.snoc, TB₁, hD, hg, frm_of1 rfl⟩
    | some x =>
      obtain ⟨tx, rfl⟩ := hO
      have hxl : x.length ≤ 10 := hkv'.2 x rfl
      have hev : (escL x).length ≤ 20 := by
        have := escF_len (f := isEsc) x
        rw [← escL_eq] at this; omega
      have hsw : (swp 92 [92, 92] x).length ≤ 20 := by
        have := swp_len 92 [92, 92] (by decide) x
        omega
      cases hbv : bareV x with
      | true =>
        have e : itemT (k, some x) = k ++ [61] ++ x := by
          show k ++ 61 :: (if bareV x then x else 34 :: escL x ++ [34]) = _
          rw [hbv, if_pos rfl]; simp
        show wpAny _ _ _ _ _ _
        try k_fold
        (repeat' ((fail_if_success (with_reducible show wpAny _ _ (exec (Stmt.For _ _ _ _ _) _) _ _ _)); (fail_if_success (with_reducible show wpAny _ _ (pyIter _) (LoopG _ _ _ _ _ _ _ _) _ _)); first | (k_unfold; (try dsimp only)) | ((with_reducible show wpAny _ _ (exec _ _) _ _ _); k_fold) | (first | ((with_reducible show wpAny _ _ (binaryOp Operator.Add (Value.str (S _) _) (Value.str (Str.ofString _) _)) _ _ _); (first | refine k_addR (b := [61]) rfl (by simp only [List.length_append, List.length_cons, List.length_nil]; omega) ?_ | refine k_addR (b := [34]) rfl (by simp only [List.length_append, List.length_cons, List.length_nil]; omega) ?_); intro t' tk'; (try dsimp only)) | ((with_reducible show wpAny _ _ (binaryOp Operator.Add (Value.str (S _) _) (Value.str (S _) _)) _ _ _); (refine k_add (by simp only [List.length_append, List.length_cons, List.length_nil]; omega) ?_); intro t' tk'; (try dsimp only)) | ((with_reducible show wpAny _ _ (execs (_ :: _) _) _ _ _); (refine execs_cons' ?_); (try dsimp only)) | ((with_reducible show wpAny _ _ (call (Value.ref 130) _) _ _ _); (refine' k_bare ?zqF ?zqN (Endg.cons (Endg.cons Endg.nil)) ?zqsep ?zqTB ?zqG ?zqX ?zqT ?zqr ?zqn ?zqu ?zqb ?_; (case zqb => assumption); (case zqF => k_asm); (case zqN => k_asm); (case zqsep => exact sep_cons (by assumption) (sep_cons (by assumption) sep_nil)); (case zqTB => assumption); (case zqG => assumption); (case zqX => assumption); (case zqT => assumption); (case zqr => assumption); (case zqn => assumption); (case zqu => assumption)); intro h' tk' g' TL' F' N' TB' sep' G'; (try dsimp only [List.cons_append, List.nil_append] at N' sep'); (try dsimp only)) | ((with_reducible show wpAny _ _ (call (Value.builtin "str.replace") [Value.str (S _) _, Value.str _ _, Value.str _ _]) _ _ _); (first | (refine' k_repl' (c := 92) (z := [92, 92]) ?zqt ?zqu ?zqv ?zquv rfl rfl rfl ?zqz ?zqx ?_; (case zqt => first | exact Nat.succ_le_succ (Nat.zero_le _) | assumption); (case zqu => first | exact Nat.succ_ne_zero _ | exact Nat.ne_of_gt (by assumption)); (case zqv => exact Nat.succ_ne_zero _); (case zquv => exact Nat.ne_of_lt (Nat.lt_succ_self _)); (case zqz => decide); (case zqx => omega)) | (refine' k_repl' (c := 34) (z := [92, 34]) ?zqt ?zqu ?zqv ?zquv rfl rfl rfl ?zqz ?zqx ?_; (case zqt => first | exact Nat.succ_le_succ (Nat.zero_le _) | assumption); (case zqu => first | exact Nat.succ_ne_zero _ | exact Nat.ne_of_gt (by assumption)); (case zqv => exact Nat.succ_ne_zero _); (case zquv => exact Nat.ne_of_lt (Nat.lt_succ_self _)); (case zqz => decide); (case zqx => omega))); intro t' k' hk'; (try rw [two_escL]); (try dsimp only)) | ((with_reducible show wpAny _ _ (call (Value.builtin "list.append") [Value.ref _, _]) _ _ _); (refine' k_append ?zqF ?zqN ?zqU ?zqz ?_; (case zqF => k_asm); (case zqN => k_asm); (case zqU => (first | ((repeat (first | (refine' Upd.head ?zqb; (case zqb => ((repeat (first | assumption | (refine' List.forall_mem_cons.mpr ⟨?zqc, ?_⟩; (case zqc => k_ne)) | exact sep_at' (by assumption) (.head _) | exact sep_at' (by assumption) (.tail _ (.head _)))); done))) | (refine' Upd.tail ?zqa ?_; (case zqa => first | assumption | k_ne); rotate_left))); done) | k_upd)); (case zqz => omega)); intro h' F' N'; (try dsimp only))) | walk1 | (dsimp only; walk1)))
        rename Fr _ _ _ _ => F'
        rename News _ _ _ _ => N'
        rename Tabs _ => TB2
        rename AllBare _ => hg2
        rename (∀ p ∈ [(I, _), (D, _)], _) => sp2
        have hD2 := sep_at' sp2 (.tail _ (.head _))
        exact ⟨_, _, _, _, _, rfl, F', N', hneI _ (sep_at' sp2 (.head _)), _, _, _, rfl, by rw [hstep, e]; exact htx.snoc, TB2, hD2, hg2, frm_of1 rfl⟩
      | false =>
        have e : itemT (k, some x) = k ++ [61] ++ ([34] ++ escL x ++ [34]) := by
          show k ++ 61 :: (if bareV x then x else 34 :: escL x ++ [34]) = _
          rw [hbv, if_neg (by simp)]; simp
        show wpAny _ _ _ _ _ _
        try k_fold
        (repeat' ((fail_if_success (with_reducible show wpAny _ _ (exec (Stmt.For _ _ _ _ _) _) _ _ _)); (fail_if_success (with_reducible show wpAny _ _ (pyIter _) (LoopG _ _ _ _ _ _ _ _) _ _)); first | (k_unfold; (try dsimp only)) | ((with_reducible show wpAny _ _ (exec _ _) _ _ _); k_fold) | (first | ((with_reducible show wpAny _ _ (binaryOp Operator.Add (Value.str (Str.ofString _) _) (Value.str (S _) _)) _ _ _); (refine k_addL2 (a := [34]) rfl (by simp only [List.length_append, List.length_cons, List.length_nil]; omega) ?_); intro t' tk'; (try dsimp only)) | ((with_reducible show wpAny _ _ (binaryOp Operator.Add (Value.str (S _) _) (Value.str (Str.ofString _) _)) _ _ _); (first | refine k_addR (b := [61]) rfl (by simp only [List.length_append, List.length_cons, List.length_nil]; omega) ?_ | refine k_addR (b := [34]) rfl (by simp only [List.length_append, List.length_cons, List.length_nil]; omega) ?_); intro t' tk'; (try dsimp only)) | ((with_reducible show wpAny _ _ (binaryOp Operator.Add (Value.str (S _) _) (Value.str (S _) _)) _ _ _); (refine k_add (by simp only [List.length_append, List.length_cons, List.length_nil]; omega) ?_); intro t' tk'; (try dsimp only)) | ((with_reducible show wpAny _ _ (execs (_ :: _) _) _ _ _); (refine execs_cons' ?_); (try dsimp only)) | ((with_reducible show wpAny _ _ (call (Value.ref 130) _) _ _ _); (refine' k_bare ?zqF ?zqN (Endg.cons (Endg.cons Endg.nil)) ?zqsep ?zqTB ?zqG ?zqX ?zqT ?zqr ?zqn ?zqu ?zqb ?_; (case zqb => assumption); (case zqF => k_asm); (case zqN => k_asm); (case zqsep => exact sep_cons (by assumption) (sep_cons (by assumption) sep_nil)); (case zqTB => assumption); (case zqG => assumption); (case zqX => assumption); (case zqT => assumption); (case zqr => assumption); (case zqn => assumption); (case zqu => assumption)); intro h' tk' g' TL' F' N' TB' sep' G'; (try dsimp only [List.cons_append, List.nil_append] at N' sep'); (try dsimp only)) | ((with_reducible show wpAny _ _ (call (Value.builtin "str.replace") [Value.str (S _) _, Value.str _ _, Value.str _ _]) _ _ _); (first | (refine' k_repl' (c := 92) (z := [92, 92]) ?zqt ?zqu ?zqv ?zquv rfl rfl rfl ?zqz ?zqx ?_; (case zqt => first | exact Nat.succ_le_succ (Nat.zero_le _) | assumption); (case zqu => first | exact Nat.succ_ne_zero _ | exact Nat.ne_of_gt (by assumption)); (case zqv => exact Nat.succ_ne_zero _); (case zquv => exact Nat.ne_of_lt (Nat.lt_succ_self _)); (case zqz => decide); (case zqx => omega)) | (refine' k_repl' (c := 34) (z := [92, 34]) ?zqt ?zqu ?zqv ?zquv rfl rfl rfl ?zqz ?zqx ?_; (case zqt => first | exact Nat.succ_le_succ (Nat.zero_le _) | assumption); (case zqu => first | exact Nat.succ_ne_zero _ | exact Nat.ne_of_gt (by assumption)); (case zqv => exact Nat.succ_ne_zero _); (case zquv => exact Nat.ne_of_lt (Nat.lt_succ_self _)); (case zqz => decide); (case zqx => omega))); intro t' k' hk'; (try rw [two_escL]); (try dsimp only)) | ((with_reducible show wpAny _ _ (call (Value.builtin "list.append") [Value.ref _, _]) _ _ _); (refine' k_append ?zqF ?zqN ?zqU ?zqz ?_; (case zqF => k_asm); (case zqN => k_asm); (case zqU => (first | ((repeat (first | (refine' Upd.head ?zqb; (case zqb => ((repeat (first | assumption | (refine' List.forall_mem_cons.mpr ⟨?zqc, ?_⟩; (case zqc => k_ne)) | exact sep_at' (by assumption) (.head _) | exact sep_at' (by assumption) (.tail _ (.head _)))); done))) | (refine' Upd.tail ?zqa ?_; (case zqa => first | assumption | k_ne); rotate_left))); done) | k_upd)); (case zqz => omega)); intro h' F' N'; (try dsimp only))) | walk1 | (dsimp only; walk1)))
        rename Fr _ _ _ _ => F'
        rename News _ _ _ _ => N'
        rename Tabs _ => TB2
        rename AllBare _ => hg2
        rename (∀ p ∈ [(I, _), (D, _)], _) => sp2
        have hD2 := sep_at' sp2 (.tail _ (.head _))
        exact ⟨_, _, _, _, _, rfl, F', N', hneI _ (sep_at' sp2 (.head _)), _, _, _, rfl, by rw [hstep, e]; exact htx.snoc, TB2, hD2, hg2, frm_of1 rfl⟩
end Mine
end
section
theorem Mine.off_W15b : True := by (w_top off; trivial)
open PySem PySem.W PyProof.Rows PySem.Spec PySem.Calls
set_option Elab.async false
set_option maxRecDepth 100000
namespace Mine
section
variable {h₀ h : Heap} {L : Addr} {pre TL : List (Addr × Obj)}
theorem frz_pre (N : News h₀ L h (pre ++ TL)) (sep : ∀ p ∈ pre, ∀ q ∈ TL, p.1 ≠ q.1) : ∀ p ∈ pre, (frz h TL).get? p.1 = some p.2 := fun p hp => frz_get (N p (List.mem_append_left _ hp)).1 fun q hq => (sep p hp q hq).symm
theorem PairIn.at_ (k : ∀ p ∈ pre, h.get? p.1 = some p.2) {v : Value} {kv : KV} : PairIn pre v kv → PairAt h v kv
  | ⟨T, tk, u, _, e, hm, o⟩ => ⟨T, tk, u, e, ⟨_, k _ hm, rfl, _, rfl⟩, o⟩
theorem RowIn.at_ (k : ∀ p ∈ pre, h.get? p.1 = some p.2) {v : Value} {row : List KV} : RowIn pre v row → RowAt h v row
  | ⟨l, vs, _, e, hm, b⟩ => ⟨l, vs, e, ⟨_, k _ hm, rfl, _, rfl⟩, b.imp fun _ _ => PairIn.at_ k⟩
end
section
variable {w : World} {dp un : Nat} {fr : Option (List Env)} {gd : Option (List Code)} {E : Value → Shared → Prop} {s : Shared} {h₀ : Heap} {L : Addr} {m mg mb : Str → Option Value} {news pre TL : List (Addr × Obj)} {p : Program} {loose : List Str} {mean : ExcName → Option Value} {Q : Value → Shared → Prop}
theorem k_values {l : Addr} {is : List Value} {ns : List Int} {n : Nat}
    (F : Fr h₀ L s.heap m) (N : News h₀ L s.heap news) (En : Endg TL news pre) (sep : ∀ p ∈ pre, ∀ q ∈ TL, p.1 ≠ q.1) (X : (hf.heap_1 w.params).In h₀) (Tp : Top p loose mean mg mb h₀) (hroom : dp + 1 < recursionLimit)
    (hl : (l, W.listOf is.toArray n) ∈ pre) (hi : IntsAre is ns) (hlen : ns.length ≤ 8)
    (hq : ∀ r (vs : List Value) ws n h' tk, Fr h₀ L h' m → News h₀ L h' ((r, W.listOf vs.toArray n) :: (pre ++ TL)) → (∀ p ∈ (r, W.listOf vs.toArray n) :: pre, ∀ q ∈ TL, p.1 ≠ q.1) → (∀ p ∈ pre, p.1 ≠ r) → Txts vs (ws ++ [[45, 126], []]) → 1 ≤ ws.length → ws.length ≤ 5 → (∀ y ∈ ws, y.length ≤ 10) → (∀ y ∈ ws, ∀ c ∈ y, c < 1114112) → Q (.ref r) { s with heap := h', toks := tk }) :
    wpAny (model PySem.Challenge.rw_in0021_01.prog w) (Am dp un fr gd) (call (.ref 118) [.ref l]) Q E s := by
  have en := En.eq
  subst en
  refine wpAny_call (values_spec (hid_of N fun p hp => List.mem_append_right _ hp) (in_frz F N X) (top_frz F N Tp) hroom ⟨_, frz_pre N sep _ hl, rfl, _, rfl⟩ hi hlen fun h' tk r vs ws n H' k' z' e1 e2 e3 e4 ht h1 h2 h3 h4 => ?_)
  obtain ⟨F', N', sep'⟩ := backK F N sep (Grown.same H' k' z')
  obtain ⟨n1, n2, n3⟩ := back_new F N sep e2
  refine hq r vs ws n h' tk F' (fun p hp => ?_) (sep_cons e4 sep') n3 ht h1 h2 h3 h4
  rcases List.mem_cons.mp hp with rfl | hp
  · exact ⟨e1, n1, n2⟩
  · exact N' p hp
theorem k_joinw {l : Addr} {lvs : List Value} {n : Nat} {rows : List (List KV)}
    (F : Fr h₀ L s.heap m) (N : News h₀ L s.heap news) (En : Endg TL news pre) (sep : ∀ p ∈ pre, ∀ q ∈ TL, p.1 ≠ q.1) (TB : Tabs TL) (X : (hf.heap_1 w.params).In h₀) (Tp : Top p loose mean mg mb h₀) (hroom : dp + 3 < recursionLimit)
    (hl : (l, W.listOf lvs.toArray n) ∈ pre) (hr : Both (RowIn pre) lvs rows) (hsm : Small rows)
    (hq : ∀ h' tk t TL', Fr h₀ L h' m → News h₀ L h' (pre ++ TL') → Tabs TL' → (∀ p ∈ pre, ∀ q ∈ TL', p.1 ≠ q.1) → Q (.str (S (allT rows)) t) { s with heap := h', toks := tk }) :
    wpAny (model PySem.Challenge.rw_in0021_01.prog w) (Am dp un fr gd) (call (.ref 87) [.ref l]) Q E s := by
  have en := En.eq
  subst en
  have k := frz_pre N sep
  refine wpAny_call (join_spec (hid_of N fun p hp => List.mem_append_right _ hp) TB (in_frz F N X) (top_frz F N Tp) hroom ⟨lvs, ⟨_, k _ hl, rfl, _, rfl⟩, hr.imp fun _ _ => RowIn.at_ k⟩ hsm fun h' tk t TL' Gr TB' => ?_)
  obtain ⟨F', N', sep'⟩ := backK F N sep Gr
  exact hq h' tk t TL' F' N' TB' sep'
end
end Mine
end
section
theorem Mine.off_W15c : True := by (w_top off; trivial)
open PySem PySem.W PyProof.Rows PySem.Spec PySem.Calls
set_option Elab.async false
set_option maxRecDepth 100000
namespace Mine
section
variable {w : World} {dp un : Nat} {fr : Option (List Env)} {gd : Option (List Code)} {E : Value → Shared → Prop} {s : Shared} {h₀ : Heap} {L : Addr} {m mg mb : Str → Option Value} {news pre TL : List (Addr × Obj)} {p : Program} {loose : List Str} {mean : ExcName → Option Value} {Q : Value → Shared → Prop}
theorem k_splitw {l : Addr} {lvs : List Value} {n : Nat} {ts : List (List Nat)} {fulls : List (List (List KV))}
    (F : Fr h₀ L s.heap m) (N : News h₀ L s.heap news) (En : Endg TL news pre) (sep : ∀ p ∈ pre, ∀ q ∈ TL, p.1 ≠ q.1) (TB : Tabs TL) (X : (hf.heap_1 w.params).In h₀) (Tp : Top p loose mean mg mb h₀) (hroom : dp + 3 < recursionLimit)
    (hl : (l, W.listOf lvs.toArray n) ∈ pre) (hts : Txts lvs ts) (hfs : ts = fulls.map fun full => joinL [44, 32] (full.map rowT)) (hgs : ∀ full ∈ fulls, Good full ∧ Small full) (hf10 : fulls.length ≤ 10)
    (hq : ∀ h' tk TL' Rr (vs : List Value) n G, Fr h₀ L h' m → News h₀ L h' (((Rr, W.listOf vs.toArray n) :: G) ++ (pre ++ TL')) → Tabs TL' → Both (RowIn G) vs fulls.flatten → Q (.ref Rr) { s with heap := h', toks := tk }) :
    wpAny (model PySem.Challenge.rw_in0021_01.prog w) (Am dp un fr gd) (call (.ref 70) [.ref l]) Q E s := by
  have en := En.eq
  subst en
  have k := frz_pre N sep
  refine wpAny_call (split_spec (hid_of N fun p hp => List.mem_append_right _ hp) TB (in_frz F N X) (top_frz F N Tp) hroom ⟨_, k _ hl, rfl, _, rfl⟩ hts hfs hgs hf10 fun h' tk TL' Rr vs n G Gr TB' new _ b => ?_)
  obtain ⟨F', N', sep'⟩ := backK F N sep Gr
  refine hq h' tk TL' Rr vs n G F' (fun p hp => ?_) TB' b
  rcases List.mem_append.mp hp with hp | hp
  · obtain ⟨e1, e2, _⟩ := new p hp
    obtain ⟨n1, n2, _⟩ := back_new F N sep e2
    exact ⟨e1, n1, n2⟩
  · exact N' p hp
theorem k_written {l : Addr} {rvs : List Value} {n : Nat} {row : List KV}
    (F : Fr h₀ L s.heap m) (N : News h₀ L s.heap news) (En : Endg TL news pre) (sep : ∀ p ∈ pre, ∀ q ∈ TL, p.1 ≠ q.1) (TB : Tabs TL) (G : AllBare s.gens) (X : (hf.heap_1 w.params).In h₀) (Tp : Top p loose mean mg mb h₀) (hroom : dp + 5 < recursionLimit) (hun : un + 13 < cLine) (htk : 1 ≤ s.toks)
    (hl : (l, W.listOf rvs.toArray n) ∈ pre) (hr : Both (PairIn pre) rvs row) (hrl : row.length ≤ 10) (hsk : ∀ kv ∈ row, SmallKV kv)
    (hq : ∀ h' tk g' t TL', Fr h₀ L h' m → News h₀ L h' (pre ++ TL') → Tabs TL' → (∀ p ∈ pre, ∀ q ∈ TL', p.1 ≠ q.1) → AllBare g' → Q (.str (S (rowT row)) t) { s with heap := h', toks := tk, gens := g' }) :
    wpAny (model PySem.Challenge.rw_in0021_01.prog w) (Am dp un fr gd) (call (.ref 137) [.ref l]) Q E s := by
  have en := En.eq
  subst en
  have k := frz_pre N sep
  refine wpAny_call (written_spec (hid_of N fun p hp => List.mem_append_right _ hp) TB (in_frz F N X) (top_frz F N Tp) hroom G hun htk ⟨_, k _ hl, rfl, _, rfl⟩ (hr.imp fun _ _ => PairIn.at_ k) hrl hsk fun h' tk g' t TL' Gr TB' G' => ?_)
  obtain ⟨F', N', sep'⟩ := backK F N sep Gr
  exact hq h' tk g' t TL' F' N' TB' sep' G'
end
end Mine
end
section
theorem Mine.off_W16a : True := by (w_top off; trivial)
open PySem PySem.W PyProof.Rows PySem.Spec PySem.Calls
set_option Elab.async false
set_option maxRecDepth 100000
set_option linter.unusedSectionVars false
namespace Mine
theorem split_tl {h₀ h : Heap} {L c : Addr} {oc : Obj} (N : News h₀ L h [(c, oc), (106, tabObj #[]), (82, tabObj #[]), (65, tabObj #[])]) : ∃ TL, News h₀ L h ((c, oc) :: TL) ∧ Tabs TL ∧ ∀ q ∈ TL, q.1 ≤ 106 := by
  refine ⟨_, N, ⟨⟨#[], by simp, trivial, fun _ _ h => by simp [codeAmong] at h⟩, ⟨#[], by simp, trivial, fun _ _ h => by simp [codeAmong] at h⟩, ⟨#[], by simp, trivial, fun _ _ h => by simp [codeAmong] at h⟩⟩, fun q hq => ?_⟩
  simp only [List.mem_cons, List.not_mem_nil, or_false] at hq
  rcases hq with rfl | rfl | rfl <;> decide
theorem mem_new7 {T a b c d e f : Addr × Obj} {r : List (Addr × Obj)} : ∀ {p}, p ∈ a :: b :: c :: d :: e :: f :: (T :: r) → p ∈ T :: a :: b :: c :: d :: e :: f :: r := fun {p} h => by
  simp only [List.mem_cons] at h ⊢
  rcases h with h | h | h | h | h | h | h | h <;> simp [h]
theorem nL_new7 {L : Addr} {T d e f : Addr × Obj} {r : List (Addr × Obj)} (hT : T.1 ≠ L) (h : ∀ p ∈ d :: e :: f :: r, p.1 ≠ L) : ∀ p ∈ d :: e :: f :: (T :: r), p.1 ≠ L := fun p hp => by
  simp only [List.mem_cons] at hp
  rcases hp with hp | hp | hp | hp | hp
  · exact h p (by simp [hp])
  · exact h p (by simp [hp])
  · exact h p (by simp [hp])
  · rw [hp]; exact hT
  · exact h p (by simp [hp])
theorem EndC.new7 {h₀ : Heap} {C : Addr} {m : Str → Option Value} {I L D : Addr} {oI oL oD : Obj} {J : List (Addr × Obj) → Array GenState → Prop} {s : Shared} {h' : Heap} {tk : Nat} {g' : Array GenState} {T d e f : Addr × Obj} {r : List (Addr × Obj)}
    (F : Fr h₀ C h' m) (N : News h₀ C h' (T :: (I, oI) :: (L, oL) :: (D, oD) :: d :: e :: f :: r)) (o : LCg.Off3 I C D (d :: e :: f :: (T :: r))) (l : ∀ p ∈ d :: e :: f :: (T :: r), p.1 ≠ L) (j : J (d :: e :: f :: (T :: r)) g') :
    EndC h₀ C m I L D oI oL oD J s { s with heap := h', toks := tk, gens := g' } := ⟨h', tk, g', _, rfl, F, fun p hp => N p (mem_new7 hp), o, l, j⟩
noncomputable def keyOf (k : Nat) : List Nat := [if k % 2 = 0 then 107 else 75, 48 + k]
noncomputable def pairsOf (vals : List (List Nat)) : List KV := vals.mapIdx fun k v => (keyOf k, some v)
noncomputable def rowsOf (ps : List KV) : List (List KV) := [ps.take 2, [], ([110], none) :: (ps.drop 2).take 1, ps.drop 3]
theorem key_k {i : Nat} (h : i < 7) : ([107, 75] : List Nat)[((i : Int).fmod 2).toNat]? = some (if i % 2 = 0 then 107 else 75) ∧ ([48, 49, 50, 51, 52, 53, 54] : List Nat)[(i : Int).toNat]? = some (48 + i) := by
  have : ∀ i : Nat, i < 7 → ([107, 75] : List Nat)[((i : Int).fmod 2).toNat]? = some (if i % 2 = 0 then 107 else 75) ∧ ([48, 49, 50, 51, 52, 53, 54] : List Nat)[(i : Int).toNat]? = some (48 + i) := by decide
  exact this i h
theorem pairsOf_length (vals : List (List Nat)) : (pairsOf vals).length = vals.length := by unfold pairsOf; rw [List.length_mapIdx]
theorem pairsOf_get {vals : List (List Nat)} {i : Nat} {x : List Nat} (h : vals[i]? = some x) : (pairsOf vals)[i]? = some (keyOf i, some x) := by
  unfold pairsOf; rw [List.getElem?_mapIdx, h]; rfl
theorem pairsOf_step {vals : List (List Nat)} {i : Nat} {x : List Nat} (h : vals[i]? = some x) : (pairsOf vals).take (i + 1) = (pairsOf vals).take i ++ [(keyOf i, some x)] := by
  rw [List.take_add_one, pairsOf_get h]; rfl
theorem pairsOf_mem {vals : List (List Nat)} {kv : KV} (h : kv ∈ pairsOf vals) : ∃ k x, k < vals.length ∧ x ∈ vals ∧ kv = (keyOf k, some x) := by
  obtain ⟨i, hi⟩ := List.getElem?_of_mem h
  have hl : i < vals.length := by rw [← pairsOf_length]; exact (List.getElem?_eq_some_iff.mp hi).1
  have hx : vals[i]? = some vals[i] := List.getElem?_eq_getElem hl
  rw [pairsOf_get hx] at hi
  exact ⟨i, vals[i], hl, List.getElem_mem hl, (Option.some.inj hi).symm⟩
section
variable {vals : List (List Nat)} (hl : vals.length ≤ 7) (hv : ∀ x ∈ vals, x.length ≤ 10)
include hl hv
theorem pair_small {kv : KV} (h : kv ∈ pairsOf vals) : SmallKV kv := by
  obtain ⟨k, x, _, hx, rfl⟩ := pairsOf_mem h
  exact ⟨by show (keyOf k).length ≤ 10; simp [keyOf], fun y e => by cases e; exact hv _ hx⟩
theorem rows_mem {row : List KV} (h : row ∈ rowsOf (pairsOf vals)) : row.length ≤ 10 ∧ ∀ kv ∈ row, kv ∈ pairsOf vals ∨ kv = ([110], none) := by
  have hp : (pairsOf vals).length ≤ 7 := by rw [pairsOf_length]; exact hl
  unfold rowsOf at h
  simp only [List.mem_cons, List.not_mem_nil, or_false] at h
  rcases h with rfl | rfl | rfl | rfl
  · exact ⟨by rw [List.length_take]; omega, fun kv hk => .inl (List.mem_of_mem_take hk)⟩
  · exact ⟨by simp, fun kv hk => by cases hk⟩
  · refine ⟨by rw [List.length_cons, List.length_take]; omega, fun kv hk => ?_⟩
    rcases List.mem_cons.mp hk with rfl | hk
    · exact .inr rfl
    · exact .inl (List.mem_of_mem_drop (List.mem_of_mem_take hk))
  · exact ⟨by rw [List.length_drop]; omega, fun kv hk => .inl (List.mem_of_mem_drop hk)⟩
theorem rows_small {rows : List (List KV)} (hs : ∀ row ∈ rows, row ∈ rowsOf (pairsOf vals)) (hn : rows.length ≤ 20) : Small rows := by
  refine ⟨hn, fun row hr => ?_⟩
  obtain ⟨a, b⟩ := rows_mem hl hv (hs row hr)
  refine ⟨a, fun kv hk => ?_⟩
  rcases b kv hk with h | rfl
  · exact pair_small hl hv h
  · exact ⟨by decide, fun x e => by cases e⟩
theorem rows_good {rows : List (List KV)} (hs : ∀ row ∈ rows, row ∈ rowsOf (pairsOf vals)) (hne : ∀ row ∈ rows, row ≠ []) : Good rows := fun row hr => by
  obtain ⟨_, b⟩ := rows_mem hl hv (hs row hr)
  refine ⟨hne row hr, fun kv hk => ?_⟩
  have key : ∀ k, k < 7 → keyOf k ≠ [] ∧ ∀ c ∈ keyOf k, inName c = true := by decide
  rcases b kv hk with h | rfl
  · obtain ⟨k, x, hk7, _, rfl⟩ := pairsOf_mem h
    exact key k (by omega)
  · exact ⟨by decide, by decide⟩
end
theorem filter_mem {rows : List (List KV)} {all : List (List KV)} (h : ∀ row ∈ rows, row ∈ all) : ∀ row ∈ rows.filter (fun r => !r.isEmpty), row ∈ all := fun row hr => h row (List.mem_filter.mp hr).1
theorem filter_ne {rows : List (List KV)} : ∀ row ∈ rows.filter (fun r => !r.isEmpty), row ≠ [] := fun row hr e => by
  have := (List.mem_filter.mp hr).2
  rw [e] at this; exact absurd this (by simp)
section
variable {prog : Program} {w : World} {A : Around} {E : Value → Shared → Prop} {s : Shared} {t u : Tok} {Q : Value → Shared → Prop}
theorem k_atS {value slice : Expr} {x : Str} {T : List Nat} {c : Nat} {i : Int} (hx : x = S T) (h0 : 0 ≤ i) (h1 : i < 2 ^ 62) (hc : T[i.toNat]? = some c)
    (h : ∀ t' k, Q (.str (S [c]) t') { s with toks := k })
    (hs : subscripted slice false (.str x t) (.int i u) = operate [.str x t, .int i u] (getItem (.str x t) (.int i u)) := by with_unfolding_all rfl)
    (ht : ∀ r, letTemporaryGo value (.str x t) r = pure () := by intro _; rfl) :
    wpAny (model prog w) A (subscriptTail value slice (.str x t) (.int i u)) Q E s := by
  subst hx; exact k_at h0 h1 hc h hs ht
end
end Mine
end
section
theorem Mine.off_W16b : True := by (w_top off; trivial)
open PySem PySem.W PyProof.Rows PySem.Spec PySem.Calls
set_option Elab.async false
set_option maxRecDepth 100000
namespace Mine
noncomputable def optD : Option (List Nat) → PyData
  | none => .none
  | some x => .str (S x)
noncomputable def kvD (kv : KV) : PyData := .tuple [.str (S kv.1), optD kv.2]
noncomputable def rowD (row : List KV) : PyData := .list (row.map kvD)
noncomputable def KVOk (kv : KV) : Prop := (∀ c ∈ kv.1, c < 1114112) ∧ ∀ x, kv.2 = some x → ∀ c ∈ x, c < 1114112
theorem strOk_S {l : List Nat} (h : ∀ c ∈ l, c < 1114112) : PyData.canLay0 (.str (S l)) = true := by
  show l.toArray.all (· < 0x110000) = true
  rw [List.all_toArray, List.all_eq_true]
  exact fun c hc => decide_eq_true (h c hc)
theorem lay_kv {kv : KV} (h : KVOk kv) : (kvD kv).canLay0 = true := by
  obtain ⟨k, ov⟩ := kv
  have hk := strOk_S h.1
  cases ov with
  | none => show (PyData.canLay0 (.str (S k)) && true) = true; rw [hk]; rfl
  | some x =>
    have hx := strOk_S (h.2 x rfl)
    show (PyData.canLay0 (.str (S k)) && (PyData.canLay0 (.str (S x)) && true)) = true; rw [hk, hx]; rfl
theorem lay_kvs : ∀ row : List KV, (∀ kv ∈ row, KVOk kv) → PyData.canLayAll0 (row.map kvD) = true
  | [], _ => rfl
  | kv :: r, h => by
    show ((kvD kv).canLay0 && PyData.canLayAll0 (r.map kvD)) = true
    rw [lay_kv (h _ (List.mem_cons_self ..)), lay_kvs r fun x hx => h x (List.mem_cons_of_mem _ hx)]; rfl
theorem lay_row (row : List KV) (h : ∀ kv ∈ row, KVOk kv) : (rowD row).canLay0 = true := lay_kvs row h
theorem lay_rows : ∀ rows : List (List KV), (∀ row ∈ rows, ∀ kv ∈ row, KVOk kv) → PyData.canLayAll0 (rows.map rowD) = true
  | [], _ => rfl
  | row :: r, h => by
    show ((rowD row).canLay0 && PyData.canLayAll0 (r.map rowD)) = true
    rw [lay_row _ (h _ (List.mem_cons_self ..)), lay_rows r fun x hx => h x (List.mem_cons_of_mem _ hx)]; rfl
theorem depth_kvs : ∀ row : List KV, PyData.depthAll (row.map kvD) ≤ 1
  | [] => Nat.zero_le _
  | (_, none) :: r => by show max 1 (PyData.depthAll (r.map kvD)) ≤ 1; have := depth_kvs r; omega
  | (_, some _) :: r => by show max 1 (PyData.depthAll (r.map kvD)) ≤ 1; have := depth_kvs r; omega
theorem depth_rows : ∀ rows : List (List KV), PyData.depthAll (rows.map rowD) ≤ 2
  | [] => Nat.zero_le _
  | row :: r => by
    show max (PyData.depthAll (row.map kvD) + 1) (PyData.depthAll (r.map rowD)) ≤ 2
    have h1 := depth_kvs row
    have h2 := depth_rows r
    omega
section
variable {h : Heap} {G : List (Addr × Obj)} (k : ∀ p ∈ G, h.get? p.1 = some p.2)
include k
theorem pair_reads {v : Value} {kv : KV} : PairIn G v kv → ∃ as, Reads h v (kvD kv) as
  | ⟨T, tk, u, n, e, hm, o⟩ => by
    subst e
    obtain ⟨key, ov⟩ := kv
    cases ov with
    | none =>
      have o' : u = .none := o
      subst o'
      exact ⟨_, .tuple (k _ hm) rfl rfl (.cons (.str _ _) (.cons .none .nil))⟩
    | some x =>
      obtain ⟨t, rfl⟩ := o
      exact ⟨_, .tuple (k _ hm) rfl rfl (.cons (.str _ _) (.cons (.str _ _) .nil))⟩
theorem pairs_reads {vs : List Value} {row : List KV} (b : Both (PairIn G) vs row) : ∃ as, ReadsAll h vs (row.map kvD) as := by
  induction b with
  | nil => exact ⟨_, .nil⟩
  | cons r _ ih =>
    obtain ⟨as, a⟩ := pair_reads k r
    obtain ⟨bs, b⟩ := ih
    exact ⟨_, .cons a b⟩
theorem row_reads {v : Value} {row : List KV} : RowIn G v row → ∃ as, Reads h v (rowD row) as
  | ⟨l, vs, n, e, hm, b⟩ => by
    subst e
    obtain ⟨as, a⟩ := pairs_reads k b
    exact ⟨_, .list (k _ hm) rfl rfl (by simpa using a)⟩
theorem rows_reads {vs : List Value} {rows : List (List KV)} (b : Both (RowIn G) vs rows) : ∃ as, ReadsAll h vs (rows.map rowD) as := by
  induction b with
  | nil => exact ⟨_, .nil⟩
  | cons r _ ih =>
    obtain ⟨as, a⟩ := row_reads k r
    obtain ⟨bs, b⟩ := ih
    exact ⟨_, .cons a b⟩
end
section
variable {prog : Program} {w : World} {A : Around} {E : Value → Shared → Prop} {s : Shared} {h₀ : Heap} {L : Addr} {news G G' : List (Addr × Obj)} {Q : Value → Shared → Prop}
theorem k_ne_nil {v : Value} {row : List KV} {d : Addr} {n : Nat} (N : News h₀ L s.heap news) (hG : ∀ p ∈ G, p ∈ news) (hr : RowIn G v row) (hd : (d, W.listOf #[] n) ∈ news) (hok : ∀ kv ∈ row, KVOk kv) (hu : A.units + 1 < cLine) (h : Q (.bool (!row.isEmpty)) s) :
    wpAny (model prog w) A (compareOp .NotEq v (.ref d)) Q E s := by
  obtain ⟨as, a⟩ := row_reads (fun p hp => (N p (hG p hp)).1) hr
  refine SeqAt.compareNe_reads a (.list (xs := []) (N _ hd).1 rfl rfl .nil) (lay_row row hok) rfl ?_ ?_
  · refine Nat.lt_of_le_of_lt (Nat.add_le_add_left (Nat.min_le_right _ _) _) ?_
    exact hu
  · cases row with
    | nil => exact h
    | cons x r => exact h
theorem k_eq_rows {a b : Addr} {va vb : List Value} {n m : Nat} {rows : List (List KV)} (N : News h₀ L s.heap news) (ha : (a, W.listOf va.toArray n) ∈ news) (hb : (b, W.listOf vb.toArray m) ∈ news) (hG : ∀ p ∈ G, p ∈ news) (hG' : ∀ p ∈ G', p ∈ news) (ra : Both (RowIn G) va rows) (rb : Both (RowIn G') vb rows) (hok : ∀ row ∈ rows, ∀ kv ∈ row, KVOk kv) (hu : A.units + 3 < cLine) (h : Q (.bool true) s) :
    wpAny (model prog w) A (compareOp .Eq (.ref a) (.ref b)) Q E s := by
  obtain ⟨as, xa⟩ := rows_reads (fun p hp => (N p (hG p hp)).1) ra
  obtain ⟨bs, xb⟩ := rows_reads (fun p hp => (N p (hG' p hp)).1) rb
  have lay : PyData.canLay0 (.list (rows.map rowD)) = true := lay_rows rows hok
  refine SeqAt.compareEq_reads (da := .list (rows.map rowD)) (db := .list (rows.map rowD)) (.list (N _ ha).1 rfl rfl (by simpa using xa)) (.list (N _ hb).1 rfl rfl (by simpa using xb)) lay lay ?_ ?_
  · refine Nat.lt_of_le_of_lt (Nat.add_le_add_left (Nat.min_le_right _ _) _) ?_
    have := depth_rows rows
    show A.units + (PyData.depthAll (rows.map rowD) + 1) < cLine
    omega
  · rw [SeqAt.eqv_refl _ lay]; exact h
end
theorem pairs_ok {vals : List (List Nat)} (hl : vals.length ≤ 7) (hv : ∀ x ∈ vals, ∀ c ∈ x, c < 1114112) {kv : KV} (h : kv ∈ pairsOf vals) : KVOk kv := by
  obtain ⟨k, x, hk, hx, rfl⟩ := pairsOf_mem h
  have key : ∀ k, k < 7 → ∀ c ∈ keyOf k, c < 1114112 := by decide
  exact ⟨key k (by omega), fun y e => by cases e; exact hv _ hx⟩
theorem rows_ok {vals : List (List Nat)} (hl : vals.length ≤ 7) (hz : ∀ x ∈ vals, x.length ≤ 10) (hv : ∀ x ∈ vals, ∀ c ∈ x, c < 1114112) {row : List KV} (h : row ∈ rowsOf (pairsOf vals)) : ∀ kv ∈ row, KVOk kv := fun kv hk => by
  obtain ⟨_, b⟩ := rows_mem hl hz h
  rcases b kv hk with h | rfl
  · exact pairs_ok hl hv h
  · exact ⟨by decide, fun x e => by cases e⟩
theorem Both.take {α : Type} {R : Value → α → Prop} {vs : List Value} {xs : List α} (h : Both R vs xs) : ∀ n, Both R (vs.take n) (xs.take n) := by
  induction h with
  | nil => intro n; simp; exact .nil
  | cons r _ ih =>
    intro n
    cases n with
    | zero => exact .nil
    | succ n => exact .cons r (ih n)
theorem Both.drop {α : Type} {R : Value → α → Prop} {vs : List Value} {xs : List α} (h : Both R vs xs) : ∀ n, Both R (vs.drop n) (xs.drop n) := by
  induction h with
  | nil => intro n; simp; exact .nil
  | cons r b ih =>
    intro n
    cases n with
    | zero => exact .cons r b
    | succ n => exact ih n
theorem Both.app {α : Type} {R : Value → α → Prop} {vs vs' : List Value} {xs xs' : List α} (h : Both R vs xs) (h' : Both R vs' xs') : Both R (vs ++ vs') (xs ++ xs') := by
  induction h with
  | nil => exact h'
  | cons r _ ih => exact .cons r ih
theorem pick_to2 (ys : List Value) : (slicePick ys.toArray none (some 2) none).toList = ys.take 2 := by
  have := slicePick_upto' ys.toArray 2
  simpa using congrArg Array.toList this
theorem pick_from3 (ys : List Value) : (slicePick ys.toArray (some 3) none none).toList = ys.drop 3 := by
  have := slicePick_from' ys.toArray 3
  simpa using congrArg Array.toList this
theorem pick_23 {ys : List Value} (h : 3 ≤ ys.length) : (slicePick ys.toArray (some 2) (some 3) none).toList = (ys.drop 2).take 1 := by
  have := slicePick_run ys.toArray 2 3 (by simpa using h) (by decide)
  simpa using congrArg Array.toList this
end Mine
end
section
theorem Mine.off_W16c : True := by (w_top off; trivial)
open PySem PySem.W PyProof.Rows PySem.Spec PySem.Calls
set_option Elab.async false
set_option maxRecDepth 100000
namespace Mine
theorem pack_lists {h₀ h : Heap} {L l D4 C3 C2 C1 T B A D r d c : Addr} {o1 o2 oD or od oc : Obj} {G TL : List (Addr × Obj)} {ys : List Value} {ps : List KV} {tk : Tok}
    (N : News h₀ L h ((l, W.listOf #[Value.ref A, Value.ref B, Value.ref C3, Value.ref D4] 0) :: (D4, W.listOf (ys.drop 3).toArray 0) :: (C3, W.listOf ([Value.ref T] ++ (ys.drop 2).take 1).toArray 0) :: (C2, o2) :: (C1, o1) :: (T, { cls := .type "tuple", data := .seq [Value.str (Str.ofString "n") tk, Value.none].toArray }) :: (B, W.listOf #[] 0) :: (A, W.listOf (ys.take 2).toArray 0) :: (D, oD) :: (r, or) :: (d, od) :: (c, oc) :: (G ++ TL)))
    (hA : ∀ q ∈ TL, q.1 < A) (hlt : A < l ∧ A < D4 ∧ A < C3 ∧ A < C2 ∧ A < C1 ∧ A < T ∧ A < B) (sD : ∀ q ∈ TL, q.1 ≠ D) (sr : ∀ q ∈ TL, q.1 ≠ r) (sd : ∀ q ∈ TL, q.1 ≠ d) (sc : ∀ q ∈ TL, q.1 ≠ c) (sG : ∀ p ∈ G, ∀ q ∈ TL, p.1 ≠ q.1)
    (hb : Both (PairIn G) ys ps) : ∃ l0 G3 lvs, l0 = l ∧ lvs.length = 4 ∧ News h₀ L h ((l0, W.listOf lvs.toArray 0) :: (G3 ++ TL)) ∧ Both (RowIn G3) lvs (rowsOf ps) ∧ (∀ p ∈ G3, ∀ q ∈ TL, p.1 ≠ q.1) ∧ ∀ q ∈ TL, q.1 ≠ l0 := by
  obtain ⟨e0, e1, e2, e3, e4, e5, e6⟩ := hlt
  have ne : ∀ {x : Addr}, A < x → ∀ q ∈ TL, q.1 ≠ x := fun {x} hx q hq => Nat.ne_of_lt (Nat.lt_trans (hA q hq) hx)
  have hb' : ∀ {G' : List (Addr × Obj)}, (∀ p ∈ G, p ∈ G') → Both (PairIn G') ys ps := fun m => hb.imp (PairIn.mono m)
  refine ⟨l, (D4, _) :: (C3, _) :: (C2, o2) :: (C1, o1) :: (T, _) :: (B, _) :: (A, _) :: (D, oD) :: (r, or) :: (d, od) :: (c, oc) :: G, [.ref A, .ref B, .ref C3, .ref D4], rfl, rfl, N, ?_, ?_, ne e0⟩
  · have up := @hb' ((D4, W.listOf (ys.drop 3).toArray 0) :: (C3, W.listOf ([Value.ref T] ++ (ys.drop 2).take 1).toArray 0) :: (C2, o2) :: (C1, o1) :: (T, { cls := .type "tuple", data := .seq [Value.str (Str.ofString "n") tk, Value.none].toArray }) :: (B, W.listOf #[] 0) :: (A, W.listOf (ys.take 2).toArray 0) :: (D, oD) :: (r, or) :: (d, od) :: (c, oc) :: G) fun p hp => by simp [hp]
    unfold rowsOf
    refine .cons ⟨A, _, 0, rfl, by simp, up.take 2⟩ (.cons ⟨B, [], 0, rfl, by simp, .nil⟩ (.cons ⟨C3, [Value.ref T] ++ (ys.drop 2).take 1, 0, rfl, by simp, .cons ⟨T, tk, .none, _, rfl, .tail _ (.tail _ (.tail _ (.tail _ (.head _)))), rfl⟩ ((up.drop 2).take 1)⟩ (.cons ⟨D4, _, 0, rfl, by simp, up.drop 3⟩ .nil)))
  · exact sep_cons (ne e1) (sep_cons (ne e2) (sep_cons (ne e3) (sep_cons (ne e4) (sep_cons (ne e5) (sep_cons (ne e6) (sep_cons (fun q hq => Nat.ne_of_lt (hA q hq)) (sep_cons sD (sep_cons sr (sep_cons sd (sep_cons sc sG))))))))))
theorem EndC.new1 {h₀ : Heap} {C : Addr} {m : Str → Option Value} {I L D : Addr} {oI oL oD : Obj} {J : List (Addr × Obj) → Array GenState → Prop} {s : Shared} {h' : Heap} {tk : Nat} {g' : Array GenState} {T : Addr × Obj} {r : List (Addr × Obj)}
    (F : Fr h₀ C h' m) (N : News h₀ C h' (T :: (I, oI) :: (L, oL) :: (D, oD) :: r)) (o : LCg.Off3 I C D (T :: r)) (l : ∀ p ∈ T :: r, p.1 ≠ L) (j : J (T :: r) g') :
    EndC h₀ C m I L D oI oL oD J s { s with heap := h', toks := tk, gens := g' } := ⟨h', tk, g', _, rfl, F, fun p hp => N p (by
      simp only [List.mem_cons] at hp ⊢
      rcases hp with h | h | h | h | h <;> simp [h]), o, l, j⟩
theorem EndC.new0 {h₀ : Heap} {C : Addr} {m : Str → Option Value} {I L D : Addr} {oI oL oD : Obj} {J : List (Addr × Obj) → Array GenState → Prop} {s : Shared} {h' : Heap} {tk : Nat} {g' : Array GenState} {r : List (Addr × Obj)}
    (F : Fr h₀ C h' m) (N : News h₀ C h' ((I, oI) :: (L, oL) :: (D, oD) :: r)) (o : LCg.Off3 I C D r) (l : ∀ p ∈ r, p.1 ≠ L) (j : J r g') :
    EndC h₀ C m I L D oI oL oD J s { s with heap := h', toks := tk, gens := g' } := ⟨h', tk, g', _, rfl, F, N, o, l, j⟩
theorem pack_full {h₀ h : Heap} {L l D2 : Addr} {o o2 : Obj} {E G3 TL : List (Addr × Obj)} (N : News h₀ L h ((D2, o2) :: (E ++ ((l, o) :: (G3 ++ TL))))) (off : ∀ p ∈ E ++ ((l, o) :: (G3 ++ TL)), p.1 ≠ D2) (sE : ∀ p ∈ E, ∀ q ∈ TL, p.1 ≠ q.1) (sG : ∀ p ∈ G3, ∀ q ∈ TL, p.1 ≠ q.1) :
    ∃ G4, News h₀ L h ((D2, o2) :: (l, o) :: (G4 ++ TL)) ∧ (∀ p ∈ G3, p ∈ G4) ∧ (∀ p ∈ G4, ∀ q ∈ TL, p.1 ≠ q.1) ∧ ∀ q ∈ TL, q.1 ≠ D2 := by
  refine ⟨E ++ G3, fun p hp => N p ?_, fun p hp => List.mem_append_right _ hp, fun p hp => ?_, fun q hq => off q (List.mem_append_right _ (.tail _ (List.mem_append_right _ hq)))⟩
  · simp only [List.mem_cons, List.mem_append] at hp ⊢
    rcases hp with h | h | (h | h) | h <;> simp [h]
  · rcases List.mem_append.mp hp with hp | hp
    · exact sE p hp
    · exact sG p hp
theorem nL_cons {L a : Addr} {o : Obj} {r : List (Addr × Obj)} (ha : a ≠ L) (h : ∀ p ∈ r, p.1 ≠ L) : ∀ p ∈ (a, o) :: r, p.1 ≠ L := fun p hp => by
  rcases List.mem_cons.mp hp with rfl | hp
  · exact ha
  · exact h p hp
def noE : List KV → Bool := fun r => !r.isEmpty
theorem fil_step {rows : List (List KV)} {i : Nat} {row : List KV} (h : rows[i]? = some row) : (rows.take (i + 1)).filter noE = if row.isEmpty then (rows.take i).filter noE else (rows.take i).filter noE ++ [row] := by
  rw [List.take_add_one, h, List.filter_append]
  cases row <;> simp [noE]
theorem pick_to1 (ys : List Value) : (slicePick ys.toArray none (some 1) none).toList = ys.take 1 := by
  have := slicePick_upto' ys.toArray 1
  simpa using congrArg Array.toList this
theorem off_grow {h₀ h : Heap} {I L C D : Addr} {oI oL oD : Obj} {a b : Addr × Obj} {G TL₁ TL' : List (Addr × Obj)} (off : LCg.Off3 I C D (a :: b :: (G ++ TL₁))) (nL : ∀ p ∈ a :: b :: (G ++ TL₁), p.1 ≠ L) (N : News h₀ C h ((I, oI) :: (L, oL) :: (D, oD) :: a :: b :: (G ++ TL')))
    (sep : ∀ p ∈ (I, oI) :: (L, oL) :: (D, oD) :: a :: b :: G, ∀ q ∈ TL', p.1 ≠ q.1) : LCg.Off3 I C D (a :: b :: (G ++ TL')) ∧ ∀ p ∈ a :: b :: (G ++ TL'), p.1 ≠ L := by
  have old : ∀ p ∈ a :: b :: (G ++ TL'), p ∈ a :: b :: (G ++ TL₁) ∨ p ∈ TL' := fun p hp => by
    simp only [List.mem_cons, List.mem_append] at hp ⊢
    rcases hp with h | h | h | h <;> simp [h]
  refine ⟨LCg.Off3.of fun p hp => ?_, fun p hp => ?_⟩
  · rcases old p hp with h | h
    · exact off.mem p h
    · exact ⟨(sep _ (.head _) p h).symm, (N p (.tail _ (.tail _ (.tail _ (.tail _ (.tail _ (List.mem_append_right _ h))))))).2.1, (sep _ (.tail _ (.tail _ (.head _))) p h).symm⟩
  · rcases old p hp with h | h
    · exact nL p h
    · exact (sep _ (.tail _ (.head _)) p h).symm
theorem rows_sum {rows : List (List KV)} (h : Small rows) : ((rows.map rowT).map List.length).sum + (rows.map rowT).length * 2 ≤ 2 ^ 23 := by
  have h1 := h.1
  have h2 := sum_le (fun r => (rowT r).length) 520 rows fun r hr => row_len (h.2 r hr).1 (h.2 r hr).2
  rw [List.map_map, List.length_map]
  have h3 : ((rows.map (List.length ∘ rowT)).sum) = (rows.map fun r => (rowT r).length).sum := rfl
  omega
theorem take1_fil {ps : List KV} (h : 3 ≤ ps.length) : ((rowsOf ps).take 1).filter (fun r => !r.isEmpty) = [ps.take 2] := by
  rw [show (rowsOf ps).take 1 = [ps.take 2] from rfl]
  cases ps with
  | nil => simp at h
  | cons a r => rfl
theorem fulls_of {ps : List KV} (h : 3 ≤ ps.length) : [allT ((rowsOf ps).take 1), allT (rowsOf ps)] = [[ps.take 2], (rowsOf ps).filter noE].map fun full => joinL [44, 32] (full.map rowT) := by
  unfold allT
  rw [take1_fil h]; rfl
theorem add_small {a b : List Value} (ha : a.length = 4) (hb : b.length ≤ 4) : (a.take 1).toArray.toList.length + b.toArray.toList.length ≤ sizeLine := by
  show (a.take 1).length + b.length ≤ 2 ^ 24
  rw [List.length_take]; omega
theorem pack_end {h₀ h : Heap} {L Rr D2 ll LL sl D3 : Addr} {oR o2 ol oL os o3 : Obj} {G G4 TL : List (Addr × Obj)} (N : News h₀ L h (((Rr, oR) :: G) ++ (((LL, oL) :: (sl, os) :: (D3, o3) :: (D2, o2) :: (ll, ol) :: G4) ++ TL))) : News h₀ L h ((Rr, oR) :: (D2, o2) :: (ll, ol) :: ((G ++ G4) ++ TL)) := fun p hp => N p (by
  simp only [List.mem_cons, List.mem_append, List.cons_append] at hp ⊢
  rcases hp with h | h | h | (h | h) | h <;> simp [h])
/-- what a call must leave where its code tables may grow and its generators are spent -/
noncomputable def LawPost (tabs : List (Addr × Addr)) (c : ClaimW) (args : List WData) (s₁ : Shared) (r : Result) (s' : Shared) : Prop :=
  r = .ok (.ret (.bool true)) ∧ c.post args (.bool true) args = true ∧ (∀ b o, (ghostOf s₁.heap tabs).get? b = some o → s'.heap.get? b = some o) ∧ s'.os = s₁.os ∧ AllBare s'.gens ∧ GrownAll tabs s'.heap
theorem old_tabs {tabs : List (Addr × Addr)} {h h' : Heap} (T : TabsAt tabs h) (k : ∀ b o, (ghostOf h tabs).get? b = some o → h'.get? b = some o) (g : GrownAll tabs h') : OldK h h' := by
  have two : ∀ b o, h.get? b = some o → h'.get? b = some o ∨ (isCodeTable h b ∧ o = tabObj #[] ∧ ∃ ps, h'.get? b = some (tabObj ps)) := fun b o e => by
    by_cases hm : ∃ q ∈ tabs, q.2 = b
    · obtain ⟨q, hq, rfl⟩ := hm
      have ⟨t1, t2⟩ := T q hq
      exact .inr ⟨(t1.tab t2).isCodeTable, Option.some.inj (e.symm.trans t2), g.get q hq⟩
    · exact .inl (k b o (ghost_ne e fun q => hm (by obtain ⟨x, hx, hxe⟩ := List.mem_map.mp q; exact ⟨x, hx, hxe⟩)))
  refine ⟨fun b o e => ?_, fun b o e => ?_⟩
  · rcases two b o e with h1 | ⟨h1, rfl, ps, h2⟩
    · exact .inl h1
    · exact .inr (.inl ⟨h1, rfl, #[], ps, rfl, by rw [Array.empty_append]; exact h2⟩)
  · rcases two b o e with h1 | ⟨_, _, ps, h2⟩
    · exact ⟨_, h1⟩
    · exact ⟨_, h2⟩
theorem law_post {M : Model} {A : Around} {cd : Code} {s s₁ : Shared} {c : ClaimW} {cl : Str → Option Addr} {mean : ExcName → Option Value} {args : List WData} {tabs : List (Addr × Addr)} (T : TabsAt tabs s₁.heap) (hr : ∀ a x, c.raises a x = false) (h : codeAny M A cd (LawPost tabs c args s₁) s) : codeAny M A cd (GoodWG c cl mean args s₁) s := by
  refine codeAny_mono h ?_
  rintro r s' ⟨rfl, hp, hk, hos, hb, hg⟩
  exact ⟨.inl ⟨_, _, [], rfl, hr args, ReadsW.bool true, hp, fun _ => ⟨List.nodup_nil, fun _ hm => (nomatch hm)⟩⟩, old_tabs T hk hg, hos, hb⟩
theorem post_true {l : OpenLaw} {args : List WData} : l.row.toRowW.claim.post args (.bool true) args = true := postW_of rfl (w_eq_bool (w_res rfl) w_lit) rfl
theorem rows_take1 {ps : List KV} : (rowsOf ps).take 1 = [ps.take 2] := rfl
end Mine
end
section
theorem Mine.off_W16 : True := by (w_top off; trivial)
open PySem PySem.W PyProof.Rows PySem.Spec PySem.Calls
set_option Elab.async false
set_option maxRecDepth 100000
set_option pp.deepTerms.threshold 6
namespace Mine
theorem add_e (a b : List Value) : a.toArray.toList ++ b.toArray.toList = a ++ b := rfl
theorem take_le7 {n m : Nat} {ys : List Value} (h : ys.length ≤ 7) : ((ys.drop n).take m).length ≤ 7 := by rw [List.length_take, List.length_drop]; omega
theorem add_le7 {x : Value} {n m : Nat} {ys : List Value} (h : ys.length ≤ 7) : [x].toArray.toList.length + ((ys.drop n).take m).toArray.toList.length ≤ sizeLine := by
  show 1 + ((ys.drop n).take m).length ≤ 2 ^ 24
  have := take_le7 (n := n) (m := m) h
  omega
local macro_rules | `(tactic| kn_posts) => `(tactic| refine law_post (by assumption) (fun _ _ => rfl) ?_)
set_option maxHeartbeats 8000000 in
theorem law_holds : PySem.Challenge.rw_in0021_01.Holds := hf.ok left (by
  delta hf
  dsimp only
  k_go0
  rename CellsAre _ _ _ => CA
  rename (_ = Data.cell _) => hoc
  rename TabsAt _ _ => hTA
  rename (_ < _ ∧ _) => hlt
  rename News _ _ _ _ => N0
  obtain ⟨TL, N, TB, hTL⟩ := split_tl N0
  clear N0
  show wpAny _ _ _ _ _ _
  try k_fold
  (repeat' ((fail_if_success (with_reducible show wpAny _ _ (compareOp _ (Value.ref _) (Value.ref _)) _ _ _)); (fail_if_success (with_reducible show SrcG _ _ _ _ _ _ _ _ _ _ _ _ _ _ _)); (fail_if_success (with_reducible show wpAny _ _ (exec (Stmt.For _ _ _ _ _) _) _ _ _)); (fail_if_success (with_reducible show wpAny _ _ (call (Value.ref _) _) _ _ _)); (fail_if_success (with_reducible show wpAny _ _ (eval (Expr.ListComp _ _ _ _) _) _ _ _)); (fail_if_success (with_reducible show wpAny _ _ (exec (Stmt.Assign _ (Expr.ListComp _ _ _ _) _) _) _ _ _)); first | (k_unfold; (try dsimp only)) | ((with_reducible show wpAny _ _ (exec _ _) _ _ _); k_fold) | fail | walk1 | (dsimp only; walk1)))
  rename Fr _ _ _ _ => F1
  rename News _ _ _ _ => N1
  rename (_ < _ ∧ AllLt _ TL) => l1
  have sC : ∀ q ∈ TL, q.1 ≠ _ := fun q hq => Nat.ne_of_lt (Nat.lt_of_le_of_lt (hTL q hq) (Nat.lt_succ_of_lt hlt.1))
  have sD := ne_of_allLt l1.2 (Nat.le_refl _)
  refine' k_values F1 N1 (Endg.cons (Endg.cons Endg.nil)) (sep_cons sD (sep_cons sC sep_nil)) ?X ?T ?room (.head _) (by assumption) ?len ?_
  case room => decide
  case X => assumption
  case T => assumption
  case len => omega
  clear F1 N1
  intro r vs ws n h2 tk2 F2 N2 sp2 off2 ht hw1 hw2 hw3 hw4
  dsimp only [List.cons_append, List.nil_append] at N2 sp2 off2
  have hW := ht.length
  have hvl := ht.length
  rw [List.length_append, List.length_cons, List.length_singleton] at hvl
  have eR : @Ne Nat _ r := off2 _ (.head _)
  have eC : @Ne Nat _ r := off2 _ (.tail _ (.head _))
  have eDC : @Ne Nat _ _ := Nat.ne_of_lt l1.1
  have sR := sep_at' sp2 (.head _)
  refine storeX_C F2 N2 rfl (.tail (Ne.symm eC) (.tail (Ne.symm eDC) (.head sC))) hoc fun h3 oc3 F3 N3 hoc3 => ?_
  clear F2 N2
  show wpAny _ _ _ _ _ _
  (repeat' ((fail_if_success (with_reducible show wpAny _ _ (compareOp _ (Value.ref _) (Value.ref _)) _ _ _)); (fail_if_success (with_reducible show SrcG _ _ _ _ _ _ _ _ _ _ _ _ _ _ _)); (fail_if_success (with_reducible show wpAny _ _ (exec (Stmt.For _ _ _ _ _) _) _ _ _)); (fail_if_success (with_reducible show wpAny _ _ (call (Value.ref _) _) _ _ _)); (fail_if_success (with_reducible show wpAny _ _ (eval (Expr.ListComp _ _ _ _) _) _ _ _)); (fail_if_success (with_reducible show wpAny _ _ (exec (Stmt.Assign _ (Expr.ListComp _ _ _ _) _) _) _ _ _)); first | (k_unfold; (try dsimp only)) | ((with_reducible show wpAny _ _ (exec _ _) _ _ _); k_fold) | fail | walk1 | (dsimp only; walk1)))
  refine k_compA F3 rfl (by with_unfolding_all rfl) (by with_unfolding_all rfl) (by decide) rfl (by decide) rfl rfl rfl ?_
  (repeat' ((fail_if_success (with_reducible show wpAny _ _ (compareOp _ (Value.ref _) (Value.ref _)) _ _ _)); (fail_if_success (with_reducible show SrcG _ _ _ _ _ _ _ _ _ _ _ _ _ _ _)); (fail_if_success (with_reducible show wpAny _ _ (exec (Stmt.For _ _ _ _ _) _) _ _ _)); (fail_if_success (with_reducible show wpAny _ _ (call (Value.ref _) _) _ _ _)); (fail_if_success (with_reducible show wpAny _ _ (eval (Expr.ListComp _ _ _ _) _) _ _ _)); (fail_if_success (with_reducible show wpAny _ _ (exec (Stmt.Assign _ (Expr.ListComp _ _ _ _) _) _) _ _ _)); first | (k_unfold; (try dsimp only)) | ((with_reducible show wpAny _ _ (exec _ _) _ _ _); k_fold) | (first | ((with_reducible show wpAny _ _ (call (Value.builtin "len") [Value.ref _]) _ _ _); (refine k_len (by k_asm) (by k_mem) (by omega) ?_); intro t' k'; (try dsimp only))) | walk1 | (dsimp only; walk1)))
  rename Fr _ _ _ _ => F4
  rename News _ _ _ _ => N4
  rename IsRange _ _ _ _ _ _ _ _ => R4
  have hn7 : vs.length ≤ 7 := by omega
  refine ⟨vs.length, _, _, fun i ys nw g => ∃ G, nw = (r, W.listOf vs.toArray n) :: (_, W.listOf _ 0) :: (_, oc3) :: (G ++ TL) ∧ Both (PairIn G) ys ((pairsOf (ws ++ [[45, 126], []])).take i) ∧ (∀ p ∈ G, ∀ q ∈ TL, p.1 ≠ q.1) ∧ g = _, rfl, F4, N4, (by show _ ≤ 2 ^ 24; omega), .range R4 ?hsm ?hn, ⟨[], rfl, .nil, sep_nil, rfl⟩, ?turn, ?fin⟩
  case hsm => exact small_one (by decide) (by decide) (by omega) (by omega)
  case hn => rw [rangeSize_nat]; omega
  case turn =>
    clear F4 N4
    rintro I i v ys oI oL C D m₂ h tk g nw E' hi ⟨t, rfl⟩ ⟨G, rfl, hb, hsG, rfl⟩ htk hx F N off nL ne
    refine wpAny_tests_nil ?_
    simp only [if_true]
    obtain ⟨hk1, hk2⟩ := key_k (Nat.lt_of_lt_of_le hi hn7)
    have hvi : vs[((i : Nat) : Int).toNat]? = some vs[i] := by rw [Int.toNat_natCast]; exact List.getElem?_eq_getElem hi
    obtain ⟨x, hx', tx, hvx⟩ := ht.at_ (List.getElem?_eq_getElem hi)
    have hns := F.ns
    show wpAny _ _ _ _ _ _
    (repeat' ((fail_if_success (with_reducible show wpAny _ _ (compareOp _ (Value.ref _) (Value.ref _)) _ _ _)); (fail_if_success (with_reducible show SrcG _ _ _ _ _ _ _ _ _ _ _ _ _ _ _)); (fail_if_success (with_reducible show wpAny _ _ (exec (Stmt.For _ _ _ _ _) _) _ _ _)); (fail_if_success (with_reducible show wpAny _ _ (call (Value.ref _) _) _ _ _)); (fail_if_success (with_reducible show wpAny _ _ (eval (Expr.ListComp _ _ _ _) _) _ _ _)); (fail_if_success (with_reducible show wpAny _ _ (exec (Stmt.Assign _ (Expr.ListComp _ _ _ _) _) _) _ _ _)); first | (k_unfold; (try dsimp only)) | ((with_reducible show wpAny _ _ (exec _ _) _ _ _); k_fold) | (first | ((with_reducible show wpAny _ _ (subscriptTail _ _ (Value.ref _) (Value.int _ _)) _ _ _); (refine k_item (by k_asm) (by k_mem) (by omega) (by omega) (by assumption) ?_)) | ((with_reducible show wpAny _ _ (binaryOp Operator.Add (Value.str (S _) _) (Value.str (S _) _)) _ _ _); (refine k_add (by simp only [List.length_append, List.length_cons, List.length_nil]; omega) ?_); intro t' tk'; (try dsimp only)) | ((with_reducible show wpAny _ _ (subscriptTail _ (Expr.Name _ _) (Value.str (Str.ofString "0123456") _) _) _ _ _); (refine k_atS (T := [48, 49, 50, 51, 52, 53, 54]) rfl (by omega) (by omega) (by assumption) ?_); intro t' k'; (try dsimp only)) | ((with_reducible show wpAny _ _ (subscriptTail _ (Expr.BinOp _ _ _ _) (Value.str (Str.ofString "kK") _) _) _ _ _); (refine k_atS (T := [107, 75]) rfl (Int.fmod_nonneg_of_pos _ (by decide)) (Int.lt_trans (Int.fmod_lt_of_pos _ (by decide)) (by decide)) (by assumption) ?_); intro t' k'; (try dsimp only))) | walk1 | (dsimp only; walk1)))
    rename Fr _ _ _ _ => F'
    rename News _ _ _ _ => N'
    rename (I < _ ∧ _) => lT
    obtain ⟨a1, a2, a3, a4, a5, a6, a7⟩ := lT
    have nT := (N' _ (.head _)).2.1
    refine EndC.new7 F' N' ?ko ?kl ⟨_ :: G, rfl, ?kb, ?ks, rfl⟩
    case ko =>
      obtain ⟨o1, o2, o3, o4⟩ := off
      exact ⟨o1, o2, o3, ⟨Nat.ne_of_gt a1, nT, Nat.ne_of_gt a3⟩, o4⟩
    case kl => exact fun p hp => nL_new7 (Nat.ne_of_gt a2) nL p hp
    case kb =>
      rw [pairsOf_step hx']
      exact (hb.imp (PairIn.mono fun p hp => .tail _ hp)).snoc ⟨_, _, _, _, rfl, .head _, tx, hvx⟩
    case ks =>
      exact sep_cons (fun q hq => Nat.ne_of_lt (allLt_mem a7 q (List.mem_append_right _ hq))) hsG
  case fin =>
    clear F4 N4 R4
    rintro g ys nw ⟨G, rfl, hb, hsG, rfl⟩
    intro D h tk F N off
    rw [List.take_of_length_le (by rw [pairsOf_length, ← hW]; exact Nat.le_refl _)] at hb
    have hyl : ys.length = vs.length := by rw [hb.length, pairsOf_length, hW]
    have hy3 : 3 ≤ ys.length := by omega
    have hy7 : ys.length ≤ 7 := by omega
    show wpAny _ _ _ _ _ _
    (repeat' ((fail_if_success (with_reducible show wpAny _ _ (compareOp _ (Value.ref _) (Value.ref _)) _ _ _)); (fail_if_success (with_reducible show SrcG _ _ _ _ _ _ _ _ _ _ _ _ _ _ _)); (fail_if_success (with_reducible show wpAny _ _ (exec (Stmt.For _ _ _ _ _) _) _ _ _)); (fail_if_success (with_reducible show wpAny _ _ (call (Value.ref _) _) _ _ _)); (fail_if_success (with_reducible show wpAny _ _ (eval (Expr.ListComp _ _ _ _) _) _ _ _)); (fail_if_success (with_reducible show wpAny _ _ (exec (Stmt.Assign _ (Expr.ListComp _ _ _ _) _) _) _ _ _)); first | (k_unfold; (try dsimp only)) | ((with_reducible show wpAny _ _ (exec _ _) _ _ _); k_fold) | (first | ((with_reducible show wpAny _ _ (binaryOp Operator.Add (Value.ref _) (Value.ref _)) _ _ _); (refine' kmk_add_lit ?zqcF ?zqcN ?zqca ?zqcb (add_e _ _) ?_ ?zqcz; (case zqcF => k_asm); (case zqcN => k_asm); (case zqca => kmk_list); (case zqcb => kmk_list); (case zqcz => first | exact add_le7 (by assumption) | exact add_small (by assumption) (by assumption))); intro D' h' F' N' l1; (try k_lt l1); (try dsimp only)) | ((with_reducible show wpAny _ _ (subscriptTail _ (PySem.Expr.Slice _ _ none _) (Value.ref _) (Value.ref _)) _ _ _); (refine' kmk_slice_lit ?zqF ?zqN ?zql ?zqp ?zqq ?zqe ?_ ?zqs ?zqt ?zqz; (case zqF => k_asm); (case zqN => k_asm); (case zql => kmk_list); (case zqp => kmk_part); (case zqq => kmk_part); (case zqe => first | exact pick_to2 _ | exact pick_from3 _ | exact pick_to1 _ | exact pick_23 (by assumption)); (case zqs => with_unfolding_all rfl); (case zqt => kmk_pure); (case zqz => (rw [List.size_toArray]; show _ ≤ 2 ^ 24; omega))); intro D' h' F' N' l1; (try k_lt l1); (try dsimp only))) | walk1 | (dsimp only; walk1)))
    rename Fr _ _ _ _ => F5
    rename News _ _ _ _ => N5
    rename (D < _ ∧ r < _ ∧ _) => lA
    obtain ⟨_, _, _, _, lA5⟩ := lA
    have pk := fun hlt => pack_lists N5 (fun q hq => allLt_mem lA5 q (List.mem_append_right _ hq)) hlt (fun q hq => off q (.tail _ (.tail _ (.tail _ (List.mem_append_right _ hq))))) sR sD sC hsG hb
    obtain ⟨ll, G3, lvs, rfl, hl4, N6, hrows, sG3, sl⟩ := pk (by refine ⟨?_, ?_, ?_, ?_, ?_, ?_, ?_⟩ <;> (show @LT.lt Nat _ _ _; omega))
    clear pk
    clear N5
    have hz7 : (ws ++ [[45, 126], []]).length ≤ 7 := by omega
    have hv10 : ∀ x ∈ ws ++ [[45, 126], []], x.length ≤ 10 := fun x hx => by
      rcases List.mem_append.mp hx with hx | hx
      · exact hw3 x hx
      · simp only [List.mem_cons, List.not_mem_nil, or_false] at hx
        rcases hx with rfl | rfl <;> decide
    have hvc : ∀ x ∈ ws ++ [[45, 126], []], ∀ c ∈ x, c < 1114112 := fun x hx => by
      rcases List.mem_append.mp hx with hx | hx
      · exact hw4 x hx
      · simp only [List.mem_cons, List.not_mem_nil, or_false] at hx
        rcases hx with rfl | rfl <;> decide
    have hrok : ∀ row ∈ rowsOf (pairsOf (ws ++ [[45, 126], []])), ∀ kv ∈ row, KVOk kv := fun row hr => rows_ok hz7 hv10 hvc hr
    have hrsm : ∀ rows, (∀ row ∈ rows, row ∈ rowsOf (pairsOf (ws ++ [[45, 126], []]))) → rows.length ≤ 20 → Small rows := fun rows => rows_small hz7 hv10
    have hrgd : ∀ rows, (∀ row ∈ rows, row ∈ rowsOf (pairsOf (ws ++ [[45, 126], []]))) → (∀ row ∈ rows, row ≠ []) → Good rows := fun rows => rows_good hz7 hv10
    generalize hps : pairsOf (ws ++ [[45, 126], []]) = ps at hrows hrok hrsm hrgd hb
    refine k_compA F5 rfl (by with_unfolding_all rfl) (by with_unfolding_all rfl) (by decide) rfl (by decide) rfl rfl rfl ?_
    (repeat' ((fail_if_success (with_reducible show wpAny _ _ (compareOp _ (Value.ref _) (Value.ref _)) _ _ _)); (fail_if_success (with_reducible show SrcG _ _ _ _ _ _ _ _ _ _ _ _ _ _ _)); (fail_if_success (with_reducible show wpAny _ _ (exec (Stmt.For _ _ _ _ _) _) _ _ _)); (fail_if_success (with_reducible show wpAny _ _ (call (Value.ref _) _) _ _ _)); (fail_if_success (with_reducible show wpAny _ _ (eval (Expr.ListComp _ _ _ _) _) _ _ _)); (fail_if_success (with_reducible show wpAny _ _ (exec (Stmt.Assign _ (Expr.ListComp _ _ _ _) _) _) _ _ _)); first | (k_unfold; (try dsimp only)) | ((with_reducible show wpAny _ _ (exec _ _) _ _ _); k_fold) | fail | walk1 | (dsimp only; walk1)))
    refine ⟨lvs.toArray.size, _, _, fun i zs nw g => ∃ E, nw = E ++ ((ll, W.listOf lvs.toArray 0) :: (G3 ++ TL)) ∧ Both (RowIn G3) zs (((rowsOf ps).take i).filter noE) ∧ (∀ p ∈ E, ∀ q ∈ TL, p.1 ≠ q.1) ∧ g = _, rfl, F5, N6, (by show _ ≤ 2 ^ 24; rw [List.size_toArray]; omega), .list fun i ys nw g ⟨E, e, _⟩ => e ▸ List.mem_append_right _ (.head _), ⟨[], rfl, .nil, sep_nil, rfl⟩, ?turn2, ?fin2⟩
    case turn2 =>
      clear F5 N6
      rintro I i v zs oI oL C D m₂ h tk g nw E' hi hP ⟨E, rfl, hz, hsE, rfl⟩ htk hx F N off nL ne
      refine wpAny_tests_one ?_
      have hP' : lvs[i]? = some v := by simpa using hP
      obtain ⟨row, hrow, hin⟩ := hrows.get hP'
      have hrk := hrok row (List.mem_of_getElem? hrow)
      have hst := fil_step hrow
      obtain ⟨lr, lrv, lrn, rfl, hlr, hbr⟩ := id hin
      have hns := F.ns
      show wpAny _ _ _ _ _ _
      (repeat' ((fail_if_success (with_reducible show wpAny _ _ (compareOp _ (Value.ref _) (Value.ref _)) _ _ _)); (fail_if_success (with_reducible show SrcG _ _ _ _ _ _ _ _ _ _ _ _ _ _ _)); (fail_if_success (with_reducible show wpAny _ _ (exec (Stmt.For _ _ _ _ _) _) _ _ _)); (fail_if_success (with_reducible show wpAny _ _ (call (Value.ref _) _) _ _ _)); (fail_if_success (with_reducible show wpAny _ _ (eval (Expr.ListComp _ _ _ _) _) _ _ _)); (fail_if_success (with_reducible show wpAny _ _ (exec (Stmt.Assign _ (Expr.ListComp _ _ _ _) _) _) _ _ _)); first | (k_unfold; (try dsimp only)) | ((with_reducible show wpAny _ _ (exec _ _) _ _ _); k_fold) | fail | walk1 | (dsimp only; walk1)))
      rename Fr _ _ _ _ => F'
      rename News _ _ _ _ => N'
      rename (I < _ ∧ _) => lT
      obtain ⟨a1, a2, a3, a4⟩ := lT
      have nT := (N' _ (.head _)).2.1
      obtain ⟨o1, o2, o3⟩ := ne
      have nLT := nL_cons (o := W.listOf #[] 0) (Nat.ne_of_gt a2) nL
      have sE' := sep_cons (o := W.listOf #[] 0) (fun q hq => Nat.ne_of_lt (allLt_mem a4 q (List.mem_append_right _ (.tail _ (List.mem_append_right _ hq))))) hsE
      refine k_ne_nil N' (fun p hp => .tail _ (.tail _ (.tail _ (.tail _ (List.mem_append_right _ (.tail _ (List.mem_append_left _ hp))))))) hin (.head _) hrk (by dsimp only [Around.deeper]; decide) ?_
      cases hre : row.isEmpty with
      | true =>
        rw [hre, if_pos rfl] at hst
        show wpAny _ _ _ _ _ _
        (repeat' ((fail_if_success (with_reducible show wpAny _ _ (compareOp _ (Value.ref _) (Value.ref _)) _ _ _)); (fail_if_success (with_reducible show SrcG _ _ _ _ _ _ _ _ _ _ _ _ _ _ _)); (fail_if_success (with_reducible show wpAny _ _ (exec (Stmt.For _ _ _ _ _) _) _ _ _)); (fail_if_success (with_reducible show wpAny _ _ (call (Value.ref _) _) _ _ _)); (fail_if_success (with_reducible show wpAny _ _ (eval (Expr.ListComp _ _ _ _) _) _ _ _)); (fail_if_success (with_reducible show wpAny _ _ (exec (Stmt.Assign _ (Expr.ListComp _ _ _ _) _) _) _ _ _)); first | (k_unfold; (try dsimp only)) | ((with_reducible show wpAny _ _ (exec _ _) _ _ _); k_fold) | fail | walk1 | (dsimp only; walk1)))
        refine EndC.new1 F' N' ⟨⟨Nat.ne_of_gt a1, nT, Nat.ne_of_gt a3⟩, off⟩ nLT ?_
        exact ⟨_ :: E, rfl, hst ▸ hz, sE', rfl⟩
      | false =>
        rw [hre, if_neg (by decide)] at hst
        have hns2 := F'.ns
        show wpAny _ _ _ _ _ _
        (repeat' ((fail_if_success (with_reducible show wpAny _ _ (compareOp _ (Value.ref _) (Value.ref _)) _ _ _)); (fail_if_success (with_reducible show SrcG _ _ _ _ _ _ _ _ _ _ _ _ _ _ _)); (fail_if_success (with_reducible show wpAny _ _ (exec (Stmt.For _ _ _ _ _) _) _ _ _)); (fail_if_success (with_reducible show wpAny _ _ (call (Value.ref _) _) _ _ _)); (fail_if_success (with_reducible show wpAny _ _ (eval (Expr.ListComp _ _ _ _) _) _ _ _)); (fail_if_success (with_reducible show wpAny _ _ (exec (Stmt.Assign _ (Expr.ListComp _ _ _ _) _) _) _ _ _)); first | (k_unfold; (try dsimp only)) | ((with_reducible show wpAny _ _ (exec _ _) _ _ _); k_fold) | fail | walk1 | (dsimp only; walk1)))
        refine EndC.new1 F' N' ⟨⟨Nat.ne_of_gt a1, nT, Nat.ne_of_gt a3⟩, off⟩ nLT ?_
        exact ⟨_ :: E, rfl, hst ▸ hz.snoc hin, sE', rfl⟩
    case fin2 =>
      clear F5 N6
      rintro g zs nw ⟨E, rfl, hz, hsE, rfl⟩
      intro D2 h tk F N off2
      rw [List.take_of_length_le (by rw [List.size_toArray, hl4]; exact Nat.le_refl 4)] at hz
      obtain ⟨G4, N7, hG4, sG4, sD2⟩ := pack_full N off2 hsE sG3
      clear N
      show wpAny _ _ _ _ _ _
      (repeat' ((fail_if_success (with_reducible show wpAny _ _ (compareOp _ (Value.ref _) (Value.ref _)) _ _ _)); (fail_if_success (with_reducible show SrcG _ _ _ _ _ _ _ _ _ _ _ _ _ _ _)); (fail_if_success (with_reducible show wpAny _ _ (exec (Stmt.For _ _ _ _ _) _) _ _ _)); (fail_if_success (with_reducible show wpAny _ _ (call (Value.ref _) _) _ _ _)); (fail_if_success (with_reducible show wpAny _ _ (eval (Expr.ListComp _ _ _ _) _) _ _ _)); (fail_if_success (with_reducible show wpAny _ _ (exec (Stmt.Assign _ (Expr.ListComp _ _ _ _) _) _) _ _ _)); first | (k_unfold; (try dsimp only)) | ((with_reducible show wpAny _ _ (exec _ _) _ _ _); k_fold) | fail | walk1 | (dsimp only; walk1)))
      rename Fr _ _ _ _ => F8
      rename News _ _ _ _ => N8
      refine' k_joinw F8 N8 (Endg.cons (Endg.cons (endg_app G4))) (sep_cons sD2 (sep_cons sl sG4)) TB ?jX ?jT ?jroom (.tail _ (.head _)) (hrows.imp (RowIn.mono fun p hp => .tail _ (.tail _ (hG4 p hp)))) (hrsm _ (fun _ h => h) (Nat.le_of_ble_eq_true rfl)) ?_
      case jX => assumption
      case jT => assumption
      case jroom => decide
      clear F8 N8
      intro h9 tk9 t9 TL9 F9 N9 TB9 sep9
      dsimp only [List.cons_append, List.nil_append] at N9
      show wpAny _ _ _ _ _ _
      (repeat' ((fail_if_success (with_reducible show wpAny _ _ (compareOp _ (Value.ref _) (Value.ref _)) _ _ _)); (fail_if_success (with_reducible show SrcG _ _ _ _ _ _ _ _ _ _ _ _ _ _ _)); (fail_if_success (with_reducible show wpAny _ _ (exec (Stmt.For _ _ _ _ _) _) _ _ _)); (fail_if_success (with_reducible show wpAny _ _ (call (Value.ref _) _) _ _ _)); (fail_if_success (with_reducible show wpAny _ _ (eval (Expr.ListComp _ _ _ _) _) _ _ _)); (fail_if_success (with_reducible show wpAny _ _ (exec (Stmt.Assign _ (Expr.ListComp _ _ _ _) _) _) _ _ _)); first | (k_unfold; (try dsimp only)) | ((with_reducible show wpAny _ _ (exec _ _) _ _ _); k_fold) | fail | walk1 | (dsimp only; walk1)))
      rename Fr _ _ _ _ => F10
      rename News _ _ _ _ => N10
      rename (_ = #[]) => hgens
      have hfm := filter_mem (rows := rowsOf ps) (all := rowsOf ps) fun _ h => h
      have hfl : ((rowsOf ps).filter noE).length ≤ 4 := List.length_filter_le _ _
      have hfs : Small ((rowsOf ps).filter noE) := hrsm _ hfm (Nat.le_trans hfl (by decide))
      have hfsum := rows_sum hfs
      refine k_comp F10 (by with_unfolding_all rfl) (by decide) rfl (by decide) rfl ?_
      (repeat' ((fail_if_success (with_reducible show wpAny _ _ (compareOp _ (Value.ref _) (Value.ref _)) _ _ _)); (fail_if_success (with_reducible show SrcG _ _ _ _ _ _ _ _ _ _ _ _ _ _ _)); (fail_if_success (with_reducible show wpAny _ _ (exec (Stmt.For _ _ _ _ _) _) _ _ _)); (fail_if_success (with_reducible show wpAny _ _ (call (Value.ref _) _) _ _ _)); (fail_if_success (with_reducible show wpAny _ _ (eval (Expr.ListComp _ _ _ _) _) _ _ _)); (fail_if_success (with_reducible show wpAny _ _ (exec (Stmt.Assign _ (Expr.ListComp _ _ _ _) _) _) _ _ _)); first | (k_unfold; (try dsimp only)) | ((with_reducible show wpAny _ _ (exec _ _) _ _ _); k_fold) | fail | walk1 | (dsimp only; walk1)))
      refine ⟨zs.toArray.size, _, _, fun i ts nw g => ∃ TL₁, nw = (D2, LCg.lst zs) :: (ll, W.listOf lvs.toArray 0) :: (G4 ++ TL₁) ∧ Txts ts ((((rowsOf ps).filter noE).take i).map rowT) ∧ Tabs TL₁ ∧ AllBare g ∧ (∀ p ∈ (D2, LCg.lst zs) :: (ll, W.listOf lvs.toArray 0) :: G4, ∀ q ∈ TL₁, p.1 ≠ q.1), rfl, F10, N10, (by show _ ≤ 2 ^ 24; rw [List.size_toArray, hz.length]; omega), .list (vs := zs.toArray) (k := zs.length) fun i ys nw g ⟨_, e, _⟩ => e ▸ .head _, ⟨TL9, rfl, .nil, TB9, (by show AllBare (Shared.gens _); dsimp only; rw [hgens]; exact AllBare.empty), sep9⟩, ?turn3, ?fin3⟩
      case turn3 =>
        clear F10 N10
        rintro I i v ts oI oL C D3 m₂ h tk g nw E' hi hP ⟨TL₁, rfl, hts, TB₁, hg₁, sep₁⟩ htk hx F N off nL ne
        refine wpAny_tests_nil ?_
        simp only [if_true]
        have hP' : zs[i]? = some v := by simpa using hP
        obtain ⟨row, hrow, hin⟩ := hz.get hP'
        obtain ⟨lr, lrv, lrn, rfl, hlr, hbr⟩ := id hin
        obtain ⟨hrl, hrk⟩ := hfs.2 row (List.mem_of_getElem? hrow)
        have hns := F.ns
        show wpAny _ _ _ _ _ _
        (repeat' ((fail_if_success (with_reducible show wpAny _ _ (compareOp _ (Value.ref _) (Value.ref _)) _ _ _)); (fail_if_success (with_reducible show SrcG _ _ _ _ _ _ _ _ _ _ _ _ _ _ _)); (fail_if_success (with_reducible show wpAny _ _ (exec (Stmt.For _ _ _ _ _) _) _ _ _)); (fail_if_success (with_reducible show wpAny _ _ (call (Value.ref _) _) _ _ _)); (fail_if_success (with_reducible show wpAny _ _ (eval (Expr.ListComp _ _ _ _) _) _ _ _)); (fail_if_success (with_reducible show wpAny _ _ (exec (Stmt.Assign _ (Expr.ListComp _ _ _ _) _) _) _ _ _)); first | (k_unfold; (try dsimp only)) | ((with_reducible show wpAny _ _ (exec _ _) _ _ _); k_fold) | fail | walk1 | (dsimp only; walk1)))
        rename Fr _ _ _ _ => F'
        rename News _ _ _ _ => N'
        have offm := off.mem
        have inT : ∀ q ∈ TL₁, q ∈ (D2, LCg.lst zs) :: (ll, W.listOf lvs.toArray 0) :: (G4 ++ TL₁) := fun q hq => .tail _ (.tail _ (List.mem_append_right _ hq))
        refine' k_written F' N' (Endg.cons (Endg.cons (Endg.cons (Endg.cons (Endg.cons (endg_app G4)))))) (sep_cons (fun q hq => (offm q (inT q hq)).1) (sep_cons (fun q hq => nL q (inT q hq)) (sep_cons (fun q hq => (offm q (inT q hq)).2.2) sep₁))) TB₁ hg₁ ?wX ?wT ?wr ?wu ?wk (.tail _ (.tail _ (.tail _ (.tail _ (.tail _ (hG4 _ hlr)))))) (hbr.imp (PairIn.mono fun p hp => .tail _ (.tail _ (.tail _ (.tail _ (.tail _ (hG4 p hp))))))) hrl hrk ?_
        case wX => assumption
        case wT => assumption
        case wr => decide
        case wu => first | decide | (dsimp only [Around.deeper]; decide)
        case wk => exact Nat.le_trans htk (by dsimp only; omega)
        clear F' N'
        intro h' tk' g' t' TL' F' N' TB' sep' G'
        dsimp only [List.cons_append, List.nil_append] at N'
        obtain ⟨o1, o2⟩ := off_grow off nL N' sep'
        refine EndC.new0 F' N' o1 o2 ?_
        refine ⟨TL', rfl, ?_, TB', G', fun p hp => sep' p (.tail _ (.tail _ (.tail _ hp)))⟩
        rw [List.take_add_one, hrow, List.map_append]
        exact hts.snoc
      case fin3 =>
        clear F10 N10
        rintro g ts nw ⟨TL₁, rfl, hts, TB₁, hg₁, sep₁⟩
        intro D3 h tk F N off3
        rw [List.take_of_length_le (by rw [List.size_toArray, hz.length]; exact Nat.le_refl _)] at hts
        show wpAny _ _ _ _ _ _
        (repeat' ((fail_if_success (with_reducible show wpAny _ _ (compareOp _ (Value.ref _) (Value.ref _)) _ _ _)); (fail_if_success (with_reducible show SrcG _ _ _ _ _ _ _ _ _ _ _ _ _ _ _)); (fail_if_success (with_reducible show wpAny _ _ (exec (Stmt.For _ _ _ _ _) _) _ _ _)); (fail_if_success (with_reducible show wpAny _ _ (call (Value.ref _) _) _ _ _)); (fail_if_success (with_reducible show wpAny _ _ (eval (Expr.ListComp _ _ _ _) _) _ _ _)); (fail_if_success (with_reducible show wpAny _ _ (exec (Stmt.Assign _ (Expr.ListComp _ _ _ _) _) _) _ _ _)); first | (k_unfold; (try dsimp only)) | ((with_reducible show wpAny _ _ (exec _ _) _ _ _); k_fold) | (first | ((with_reducible show wpAny _ _ (compareOp CmpOp.NotEq (Value.str _ _) (Value.str _ _)) _ _ _); (refine k_ne_is true (beq_iff_eq.mpr rfl) ?_); (try dsimp only [Bool.not_true])) | ((with_reducible show wpAny _ _ (call (Value.builtin "str.join") [Value.str _ _, Value.ref _]) _ _ _); (refine' k_join ?zqjN ?zqjM ?zqjT ?zqjx ?zqjs ?zqjw ?_; (case zqjN => k_asm); (case zqjM => k_mem); (case zqjT => assumption); (case zqjx => exact rfl); (case zqjs => decide); (case zqjw => assumption)); intro t' tk'; (try dsimp only)) | ((with_reducible show wpAny _ _ (subscriptTail _ (PySem.Expr.Slice _ _ none _) (Value.ref _) (Value.ref _)) _ _ _); (refine' kmk_slice_lit ?zqF ?zqN ?zql ?zqp ?zqq ?zqe ?_ ?zqs ?zqt ?zqz; (case zqF => k_asm); (case zqN => k_asm); (case zql => kmk_list); (case zqp => kmk_part); (case zqq => kmk_part); (case zqe => first | exact pick_to2 _ | exact pick_from3 _ | exact pick_to1 _ | exact pick_23 (by assumption)); (case zqs => with_unfolding_all rfl); (case zqt => kmk_pure); (case zqz => (rw [List.size_toArray]; show _ ≤ 2 ^ 24; omega))); intro D' h' F' N' l1; (try k_lt l1); (try dsimp only))) | walk1 | (dsimp only; walk1)))
        rename Fr _ _ _ _ => F12
        rename News _ _ _ _ => N12
        rename (D3 < _ ∧ _) => lS
        obtain ⟨_, _, _, lS4⟩ := lS
        have sS := fun q hq => Nat.ne_of_lt (allLt_mem lS4 q (List.mem_append_right G4 hq))
        have sD3 := fun q hq => off3 q (.tail _ (.tail _ (List.mem_append_right G4 hq)))
        have hpl : 3 ≤ ps.length := by rw [← hb.length]; exact hy3
        refine' k_joinw F12 N12 (Endg.cons (Endg.cons (Endg.cons (Endg.cons (endg_app G4))))) (sep_cons sS (sep_cons sD3 sep₁)) TB₁ ?bX ?bT ?broom (.head _) ((hrows.take 1).imp (RowIn.mono fun p hp => .tail _ (.tail _ (.tail _ (.tail _ (hG4 p hp)))))) (hrsm _ (fun row hr => List.mem_of_mem_take hr) (Nat.le_of_ble_eq_true rfl)) ?_
        case bX => assumption
        case bT => assumption
        case broom => decide
        clear F12 N12
        intro h13 tk13 t13 TL13 F13 N13 TB13 sep13
        dsimp only [List.cons_append, List.nil_append] at N13
        show wpAny _ _ _ _ _ _
        (repeat' ((fail_if_success (with_reducible show wpAny _ _ (compareOp _ (Value.ref _) (Value.ref _)) _ _ _)); (fail_if_success (with_reducible show SrcG _ _ _ _ _ _ _ _ _ _ _ _ _ _ _)); (fail_if_success (with_reducible show wpAny _ _ (exec (Stmt.For _ _ _ _ _) _) _ _ _)); (fail_if_success (with_reducible show wpAny _ _ (call (Value.ref _) _) _ _ _)); (fail_if_success (with_reducible show wpAny _ _ (eval (Expr.ListComp _ _ _ _) _) _ _ _)); (fail_if_success (with_reducible show wpAny _ _ (exec (Stmt.Assign _ (Expr.ListComp _ _ _ _) _) _) _ _ _)); first | (k_unfold; (try dsimp only)) | ((with_reducible show wpAny _ _ (exec _ _) _ _ _); k_fold) | fail | walk1 | (dsimp only; walk1)))
        rename Fr _ _ _ _ => F14
        rename News _ _ _ _ => N14
        rename (_ < _ ∧ D3 < _ ∧ _) => lL
        obtain ⟨_, _, _, _, lL5⟩ := lL
        have hf20 : ∀ full ∈ [[ps.take 2], (rowsOf ps).filter noE], Good full ∧ Small full := fun full hfu => by
          simp only [List.mem_cons, List.not_mem_nil, or_false] at hfu
          rcases hfu with rfl | rfl
          · have hm : ∀ row ∈ [ps.take 2], row ∈ rowsOf ps := fun row hr => by rw [List.mem_singleton.mp hr]; exact .head _
            exact ⟨hrgd _ hm fun row hr e => by rw [List.mem_singleton.mp hr] at e; have := congrArg List.length e; rw [List.length_take, List.length_nil] at this; omega, hrsm _ hm (by simp)⟩
          · exact ⟨hrgd _ hfm filter_ne, hfs⟩
        refine' k_splitw F14 N14 (Endg.cons (Endg.cons (Endg.cons (Endg.cons (Endg.cons (endg_app G4)))))) (sep_cons (fun q hq => Nat.ne_of_lt (allLt_mem lL5 q (List.mem_append_right G4 hq))) sep13) TB13 ?sX ?sT ?sroom (.head _) (.cons (.cons .nil)) (fulls_of hpl) hf20 (Nat.le_of_ble_eq_true rfl) ?_
        case sX => assumption
        case sT => assumption
        case sroom => decide
        clear F14 N14
        intro h15 tk15 TL15 Rr vr nr G15 F15 N15 TB15 hbr
        replace N15 := pack_end N15
        have hzl : zs.length ≤ 4 := by rw [hz.length]; exact hfl
        show wpAny _ _ _ _ _ _
        (repeat' ((fail_if_success (with_reducible show wpAny _ _ (compareOp _ (Value.ref _) (Value.ref _)) _ _ _)); (fail_if_success (with_reducible show SrcG _ _ _ _ _ _ _ _ _ _ _ _ _ _ _)); (fail_if_success (with_reducible show wpAny _ _ (exec (Stmt.For _ _ _ _ _) _) _ _ _)); (fail_if_success (with_reducible show wpAny _ _ (call (Value.ref _) _) _ _ _)); (fail_if_success (with_reducible show wpAny _ _ (eval (Expr.ListComp _ _ _ _) _) _ _ _)); (fail_if_success (with_reducible show wpAny _ _ (exec (Stmt.Assign _ (Expr.ListComp _ _ _ _) _) _) _ _ _)); first | (k_unfold; (try dsimp only)) | ((with_reducible show wpAny _ _ (exec _ _) _ _ _); k_fold) | (first | ((with_reducible show wpAny _ _ (binaryOp Operator.Add (Value.ref _) (Value.ref _)) _ _ _); (refine' kmk_add_lit ?zqcF ?zqcN ?zqca ?zqcb (add_e _ _) ?_ ?zqcz; (case zqcF => k_asm); (case zqcN => k_asm); (case zqca => kmk_list); (case zqcb => kmk_list); (case zqcz => first | exact add_le7 (by assumption) | exact add_small (by assumption) (by assumption))); intro D' h' F' N' l1; (try k_lt l1); (try dsimp only)) | ((with_reducible show wpAny _ _ (subscriptTail _ (PySem.Expr.Slice _ _ none _) (Value.ref _) (Value.ref _)) _ _ _); (refine' kmk_slice_lit ?zqF ?zqN ?zql ?zqp ?zqq ?zqe ?_ ?zqs ?zqt ?zqz; (case zqF => k_asm); (case zqN => k_asm); (case zql => kmk_list); (case zqp => kmk_part); (case zqq => kmk_part); (case zqe => first | exact pick_to2 _ | exact pick_from3 _ | exact pick_to1 _ | exact pick_23 (by assumption)); (case zqs => with_unfolding_all rfl); (case zqt => kmk_pure); (case zqz => (rw [List.size_toArray]; show _ ≤ 2 ^ 24; omega))); intro D' h' F' N' l1; (try k_lt l1); (try dsimp only))) | walk1 | (dsimp only; walk1)))
        rename Fr _ _ _ _ => F16
        rename News _ _ _ _ => N16
        have rb := ((hrows.take 1).app hz).imp (RowIn.mono hG4)
        have ra : Both (RowIn G15) vr ((rowsOf ps).take 1 ++ (rowsOf ps).filter noE) := by simpa [rowsOf] using hbr
        have hok : ∀ row ∈ (rowsOf ps).take 1 ++ (rowsOf ps).filter noE, ∀ kv ∈ row, KVOk kv := fun row hr => hrok row ((List.mem_append.mp hr).elim List.mem_of_mem_take (hfm row))
        refine k_eq_rows (G := G15) (G' := G4) N16 (.tail _ (.tail _ (.head _))) (.head _) (fun p hp => ?_) (fun p hp => ?_) ra rb hok (by first | decide | (dsimp only [Around.deeper]; decide)) ?_
        · simp [hp]
        · simp [hp]
        refine ⟨rfl, ?_, F16.keep, rfl, hg₁, ?_⟩
        · exact post_true
        · have at_ : ∀ P ps, (P, tabObj ps) ∈ TL15 → GrownAt P _ := fun P ps hm => GrownAt.of (ps := ps) N16 (by simp [hm])
          obtain ⟨p1, q1, _⟩ := TB15.t65
          obtain ⟨p2, q2, _⟩ := TB15.t82
          obtain ⟨p3, q3, _⟩ := TB15.t106
          exact ⟨at_ _ _ q3, at_ _ _ q2, at_ _ _ q1, trivial⟩
  )
end Mine
end
theorem PySem.Challenge.cw_in0021_01_holds : PySem.Challenge.rw_in0021_01.Holds :=
  Mine.law_holds
