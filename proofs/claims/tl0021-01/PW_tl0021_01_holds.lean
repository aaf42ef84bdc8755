import PyProof.Rows.All
import Wide.All
import OpenK.AllK
import Wide.FinOn
import PySem.Challenge.RW_tl0021_01
set_option Elab.async false
set_option rowWalk.seconds 0
set_option linter.all false
set_option compiler.extract_closed false
section
open PySem PySem.W PyProof.Rows
set_option maxRecDepth 100000
set_option maxHeartbeats 0
namespace Mine
structure Mark (P : Prop) : Prop where
  out : P
theorem said0 : PySem.Challenge.rw_tl0021_01.wellSaid = true := by
  rewrite [Fast.te9446332074065402090]
  decide +kernel
noncomputable abbrev rw0 : RowW := OpenRow.toRowW (OpenLaw.row PySem.Challenge.rw_tl0021_01)
noncomputable def hview : Program := { rw0.prog with main := { rw0.prog.main with body := (((rw0.prog.main.body.eraseIdx 67).eraseIdx 9).eraseIdx 6).eraseIdx 0 } }
noncomputable def oh : Σ' (P1 P2 : Hook → Prop), ∀ H, Mark (P1 H) → Mark (P2 H) → (OpenLaw.row PySem.Challenge.rw_tl0021_01).Holds := ⟨_, _, by
  intro H h1 h2
  refine holds_open (q := hview) (loose := [PySem.Str.ofString "EXACT_TOKEN_TYPES"]) (Xt := fun s => xlAt hview [] s && recOk (RowW.records (OpenRow.toRowW (OpenLaw.row PySem.Challenge.rw_tl0021_01))) s) (XP := XL hview []) (Yf := Hook.obs H) (Ya := Hook.val H) (YP := Hook.says H) (N := 4386) ?hl (Hook.of H) (Hook.keeps H) (fun s e => xl_of s (Bool.and_eq_true_iff.mp e).1) XL.keeps (by rfl) (by rfl) (by rfl) (fun s e => recFacts_of (Bool.and_eq_true_iff.mp e).2) (by rfl) (row_said said0) (by decide +kernel) ⟨rfl, rfl, rfl, rfl, rfl, by decide +kernel⟩ ?hw ?hc
  case hw => w_witness2
  case hl => exact h1.out
  case hc =>
    clear h1
    revert h2
    exact Mark.out⟩
local macro_rules | `(tactic| o_head $H) => `(tactic| refine oh.2.2 $H ?_ ?_)
noncomputable def hd : Σ' (P1 P2 : Prop), Mark P1 → Mark P2 → PySem.Challenge.rw_tl0021_01.Holds := ⟨_, _, by
  intro h1 h2
  w_on
  refine holds_law said0 fun said => ?_
  clear said
  k_head
  · refine ⟨?_⟩
    unfold oh
    dsimp only
    exact h1.out
  · clear h1
    refine ⟨?_⟩
    unfold oh
    dsimp only
    revert h2
    exact Mark.out⟩
noncomputable def xK (P : Params) (a : Nat) : Obj := ((hd.heap_1 P).lookup a).getD ⟨.none, none, .plain, #[]⟩
noncomputable def xM (P : Params) (a : Nat) : Obj := match (xK P a).data with
  | .func f => ⟨.none, none, .func ⟨f.name, f.qualname, f.params, f.body, f.scope, 0, [], .none, .none, .none, .none, none, .none, .none, 0⟩, #[]⟩
  | _ => ⟨.none, none, .plain, #[]⟩
noncomputable def xD (P : Params) (a b : Nat) : Obj := match (xK P 92).data with
  | .dict es _ => ⟨.type "dict", none, .dict ⟨(es.toList.take b).drop a⟩ (b - a), #[]⟩
  | _ => ⟨.none, none, .plain, #[]⟩
noncomputable def xE : Obj := ⟨.none, none, .fields #[], #[]⟩
noncomputable def xT : Obj := ⟨.type "tuple", none, .seq #[] 0, #[]⟩
noncomputable def xL : Obj := ⟨.none, none, .fields ⟨([(5, 20), (11, 27), (51, 34), (64, 41), (66, 48), (68, 55), (70, 62), (72, 69), (74, 76), (76, 83), (78, 90), (130, 98), (141, 105), (156, 112), (162, 119), (168, 126), (172, 131), (186, 138), (194, 145), (199, 152), (205, 157)] : List (Int × Nat)).flatMap fun (a, b) => [.int a 0, .int 0 0, .ref b]⟩, #[]⟩
noncomputable def xC : Obj := ⟨.type "code", none, .fields #[.str (PySem.Str.ofString "<module>") 182, .str (PySem.Str.ofString "<module>") 183, .str (PySem.Str.ofString "/claim/cut.py") 184, .int 1 0, .int 0 0, .int 0 0, .int 0 0, .int 0 0, .ref 11, .bool false, .int 181 0, .ref 12, .none, .none, .none, .none, .int 185 0, .int 1 0, .str (PySem.Str.ofString "/claim/cut.py") 186], #[]⟩
noncomputable def xF : Obj := ⟨.type "frame", none, .plain, #[some (.ref 13), some (.ref 3), some (.ref 3), none, some (.str (PySem.Str.ofString "__main__") 164), none, some (.ref 0)]⟩
noncomputable def H1 (P : Params) : Heap := ⟨⟨[boot_o_0 P, boot_o_1 P, xK P 2, xK P 3, boot_o_4 P, boot_o_5 P, boot_o_6 P, boot_o_7 P, boot_o_8 P, boot_o_9 P, boot_o_10 P, xT, xL, xC, xF, xK P 15, xE, xK P 17, xK P 18, xM P 21, xK P 20, xK P 21, xK P 22, xE, xK P 24, xK P 25, xM P 28, xK P 27, xK P 28, xK P 29, xE, xK P 31, xK P 32, xM P 35, xK P 34, xK P 35, xK P 36, xE, xK P 38, xK P 39, xM P 42, xK P 41, xK P 42, xK P 43, xE, xK P 45, xK P 46, xM P 49, xK P 48, xK P 49, xK P 50, xE, xK P 52, xK P 53, xM P 56, xK P 55, xK P 56, xK P 57, xE, xK P 59, xK P 60, xM P 63, xK P 62, xK P 63, xK P 64, xE, xK P 66, xK P 67, xM P 70, xK P 69, xK P 70, xK P 71, xE, xK P 73, xK P 74, xM P 77, xK P 76, xK P 77, xK P 78, xE, xK P 80, xK P 81, xM P 84, xK P 83, xK P 84, xK P 85, xE, xK P 87, xK P 88, xM P 91, xK P 90, xK P 91, xK P 92, xD P 17 34, xD P 34 48, xK P 95, xE, xM P 99, xK P 98, xK P 99, xK P 100, xE, xK P 102, xK P 103, xM P 106, xK P 105, xK P 106, xK P 107, xE, xK P 109, xK P 110, xM P 113, xK P 112, xK P 113, xK P 114, xE, xK P 116, xK P 117, xM P 120, xK P 119, xK P 120, xK P 121, xE, xK P 123, xK P 124, xM P 127, xK P 126, xK P 127, xK P 128, xE, xM P 132, xK P 131, xK P 132, xK P 133, xE, xK P 135, xK P 136, xM P 139, xK P 138, xK P 139, xK P 140, xE, xK P 142, xK P 143, xM P 146, xK P 145, xK P 146, xK P 147, xE, xK P 149, xK P 150, xM P 153, xK P 152, xK P 153, xK P 154, xE, xM P 158, xK P 157, xK P 158]⟩, {}⟩
noncomputable def hLeft : Σ' (PA PB PS PL P1 P2 P3 PX P4 P5 P6 P7 P8 P9 PY : Prop), Mark PA → Mark PB → Mark PS → Mark PL → Mark P1 → Mark P2 → Mark P3 → Mark PX → Mark P4 → Mark P5 → Mark P6 → Mark P7 → Mark P8 → Mark P9 → Mark PY → hd.1 := ⟨_, _, _, _, _, _, _, _, _, _, _, _, _, _, _, by
  intro hA hB hS hL h1 h2 h3 hX h4 h5 h6 h7 h8 h9 hY
  refine LeftO.of_pieces (H₀ := boot_heap) (H₁ := H1) (gs₀ := ⟨[]⟩) (gs₁ := ⟨[]⟩) (d₀ := boot_drawn) (d₁ := boot_drawn) (k₀ := boot_toks) (k₁ := 588) (m₀ := 11) (ann := some (.ref 6)) (M := 4386) (boot_open ?e rfl ?f) ?size ?run rfl ?looks
  case e => kernel_rfl
  case f => intro s; kernel_rfl
  case size => exact hS.out
  case run =>
    refine byRow2 "special-get-raises" (P := fun w => ∀ os, topRun treeTable (OpenRow.toRowW (OpenLaw.row PySem.Challenge.rw_tl0021_01)).prog w 11 (some (.ref 6)) 4386 ⟨boot_heap w.params, ⟨[]⟩, boot_drawn, boot_toks, os⟩ (topStub (OpenRow.toRowW (OpenLaw.row PySem.Challenge.rw_tl0021_01)).prog) = some ⟨H1 w.params, ⟨[]⟩, boot_drawn, 588, os⟩) ?a ?b
    · intro w os
      rewrite [Fast.te14082659384304107361, Fast.te14364793385576792824]
      (revert os; revert w; exact hA.out)
    · intro w os
      rewrite [Fast.te14082659384304107361, Fast.te14364793385576792824]
      (revert os; revert w; exact hB.out)
  case looks =>
    intro w
    funext os
    rewrite [Fast.te4187177175401517315]
    refine looks_pair ?gL (looks_pair ?gO ?gY)
    case gL => revert os; revert w; exact hL.out
    case gY => revert os; revert w; exact hY.out
    delta openGood Fast.tw4187177175401517315
    refine looks_pair ?g1 (looks_pair ?g2 (looks_pair (look_both (look_both ?g3 ?gX) rfl) (looks_pair ?g4 (looks_pair ?g5 (looks_pair ?g6 (looks_pair ?g7 (looks_pair ?g8 ?g9)))))))
    case g1 => revert os; revert w; exact h1.out
    case g2 => revert os; revert w; exact h2.out
    case g3 => revert os; revert w; exact h3.out
    case g4 => revert os; revert w; exact h4.out
    case g5 => revert os; revert w; exact h5.out
    case g6 => revert os; revert w; exact h6.out
    case g7 => revert os; revert w; exact h7.out
    case g8 => revert os; revert w; exact h8.out
    case g9 => revert os; revert w; exact h9.out
    case gX => revert os; revert w; exact hX.out⟩
theorem hLeftA : hLeft.1 := by
  intro w os
  kernel_rfl
theorem hLeftB : hLeft.2.1 := by
  intro w os
  kernel_rfl
theorem hLeftS : hLeft.2.2.1 := by
  intro w
  kernel_rfl
theorem hLeftL : hLeft.2.2.2.1 := by
  intro w os
  kernel_rfl
theorem hLeft1 : hLeft.2.2.2.2.1 := by
  intro w os
  kernel_rfl
theorem hLeft2 : hLeft.2.2.2.2.2.1 := by
  intro w os
  kernel_rfl
theorem hLeft3 : hLeft.2.2.2.2.2.2.1 := by
  intro w os
  kernel_rfl
theorem hLeftX : hLeft.2.2.2.2.2.2.2.1 := by
  intro w os
  kernel_rfl
theorem hLeft4 : hLeft.2.2.2.2.2.2.2.2.1 := by
  intro w os
  kernel_rfl
theorem hLeft5 : hLeft.2.2.2.2.2.2.2.2.2.1 := by
  intro w os
  kernel_rfl
theorem hLeft6 : hLeft.2.2.2.2.2.2.2.2.2.2.1 := by
  intro w os
  kernel_rfl
theorem hLeft7 : hLeft.2.2.2.2.2.2.2.2.2.2.2.1 := by
  intro w os
  kernel_rfl
theorem hLeft8 : hLeft.2.2.2.2.2.2.2.2.2.2.2.2.1 := by
  intro w os
  kernel_rfl
theorem hLeft9 : hLeft.2.2.2.2.2.2.2.2.2.2.2.2.2.1 := by
  intro w os
  kernel_rfl
theorem hLeftY : hLeft.2.2.2.2.2.2.2.2.2.2.2.2.2.2.1 := by
  intro w os
  kernel_rfl
theorem hLeft0 : hd.1 := hLeft.2.2.2.2.2.2.2.2.2.2.2.2.2.2.2 ⟨hLeftA⟩ ⟨hLeftB⟩ ⟨hLeftS⟩ ⟨hLeftL⟩ ⟨hLeft1⟩ ⟨hLeft2⟩ ⟨hLeft3⟩ ⟨hLeftX⟩ ⟨hLeft4⟩ ⟨hLeft5⟩ ⟨hLeft6⟩ ⟨hLeft7⟩ ⟨hLeft8⟩ ⟨hLeft9⟩ ⟨hLeftY⟩
end Mine
end
section
open PySem PySem.W PyProof.Rows PySem.Calls PySem.Spec
namespace Mine
noncomputable abbrev LO := looseW hview [PySem.Str.ofString "EXACT_TOKEN_TYPES"]
theorem le6 {i : Nat} (h : i ≤ 6) : i = 0 ∨ i = 1 ∨ i = 2 ∨ i = 3 ∨ i = 4 ∨ i = 5 ∨ i = 6 :=
  (by decide : ∀ i < 7, i = 0 ∨ i = 1 ∨ i = 2 ∨ i = 3 ∨ i = 4 ∨ i = 5 ∨ i = 6) i (Nat.lt_succ_of_le h)
theorem le4 {i : Nat} (h : i ≤ 4) : i = 0 ∨ i = 1 ∨ i = 2 ∨ i = 3 ∨ i = 4 :=
  (by decide : ∀ i < 5, i = 0 ∨ i = 1 ∨ i = 2 ∨ i = 3 ∨ i = 4) i (Nat.lt_succ_of_le h)
theorem lt_min (x y : Int) : (if y < x then y else x) = min x y := by
  by_cases h : y < x
  · rw [if_pos h, Int.min_eq_right (Int.le_of_lt h)]
  · rw [if_neg h, Int.min_eq_left (Int.not_lt.mp h)]
theorem turn_lt {n i : Nat} (h : i < n) : n + 1 - (i + 1) < n + 1 - i := by
  rw [Nat.add_sub_add_right]
  exact Nat.sub_lt_sub_right (Nat.le_of_lt h) (Nat.lt_succ_self n)
theorem neg_ix {a k : Int} {n : Nat} (h : a + k = n) (hk : (n : Int) < k) : (0 ≤ a + k ∧ a + k < k) ∧ (a + k).toNat = n := by
  rw [h]
  exact ⟨⟨Int.natCast_nonneg _, hk⟩, rfl⟩
/-- all that stood stands -/
noncomputable def Kept (h h' : Heap) : Prop := ∀ b o, h.get? b = some o → h'.get? b = some o
theorem Kept.refl (h : Heap) : Kept h h := fun _ _ e => e
theorem Kept.trans {h h' h'' : Heap} (a : Kept h h') (b : Kept h' h'') : Kept h h'' := fun x o e => b x o (a x o e)
theorem Kept.fr {h₀ h h' : Heap} {L : Addr} {m : PySem.Str → Option Value} (k : Kept h h') (F : Fr h₀ L h m) : Fr h₀ L h' m := F.keeps k
theorem Kept.news {h₀ h h' : Heap} {L : Addr} {news : List (Addr × Obj)} (k : Kept h h') (N : News h₀ L h news) : News h₀ L h' news := fun p hp => ⟨k _ _ (N p hp).1, (N p hp).2⟩
theorem kept_end {h g h' : Heap} {L : Addr} {m : PySem.Str → Option Value} (k : Kept h g) (F : Fr g L h' m) : Kept h h' := fun b o e => F.keep b o (k b o e)
theorem kept_sub {h g : Heap} (G : GSub h g (([] : List (Addr × Obj)).map (·.1))) : Kept h g := fun b o e => G b o e (fun h => nomatch h)
/-- the def at f, called with vs where Pre holds, hands back r with Out; nothing that stood is turned -/
noncomputable def Clm (w : World) (mean : ExcName → Option Value) (mg mb : PySem.Str → Option Value) (f : Addr) (k : Nat) (vs : List Value) (Pre : Heap → Prop) (Out : Heap → Heap → Value → Prop) : Prop :=
  ∀ (dp un : Nat) (gd : Option (List Code)) (cn : PySem.Str) (cs : Scope) (a : Addr) (ccd : Value) (cl : List (PySem.Str × Addr)) (outer : List Env) (A₀ : Around) (base h₀ : Heap) (L : Addr) (m : PySem.Str → Option Value) (s : Shared) (Q E : Value → Shared → Prop),
    Below A₀ base outer h₀ → Fr h₀ L s.heap m → (hd.heap_1 w.params).In h₀ → News h₀ L s.heap [] → Top hview LO mean mg mb h₀ → cs.kind = .function → dp + k < recursionLimit → un + 8 * k < cLine → Pre s.heap →
    (∀ (r : Value) (h' : Heap) (tk' : Nat), Kept s.heap h' → Out s.heap h' r → Q r { s with heap := h', toks := tk' }) →
    wpAny (model PySem.Challenge.rw_tl0021_01.row.prog w) (ktrTop dp un gd cn cs L a ccd cl outer) (call (.ref f) vs) Q E s
/-- an int comes back -/
noncomputable def Gives (x : Int) (_ _ : Heap) (r : Value) : Prop := ∃ t, r = .int x t
noncomputable def Any (_ : Heap) : Prop := True
theorem ret_int {s : Shared} {Q : Value → Shared → Prop} {x y : Int}
    (hret : ∀ (r : Value) (h' : Heap) (tk' : Nat), Kept s.heap h' → Gives x s.heap h' r → Q r { s with heap := h', toks := tk' })
    {h' : Heap} {t : Tok} {tk' : Nat} (K : Kept s.heap h') (e : y = x) : Q (.int y t) { s with heap := h', toks := tk' } := by
  subst e
  exact hret _ h' tk' K ⟨t, rfl⟩
section
variable {w : World} {mean : ExcName → Option Value} {mg mb : PySem.Str → Option Value} {f : Addr} {k : Nat} {vs : List Value} {Pre : Heap → Prop} {Out : Heap → Heap → Value → Prop}
    {dp un : Nat} {gd : Option (List Code)} {cn : PySem.Str} {cs : Scope} {a : Addr} {ccd : Value} {cl : List (PySem.Str × Addr)} {outer : List Env} {A₀ : Around} {base h₀ : Heap} {L : Addr} {m : PySem.Str → Option Value} {s : Shared} {Q E : Value → Shared → Prop} {news : List (Addr × Obj)}
theorem Clm.use (C : Clm w mean mg mb f k vs Pre Out)
    (B : Below A₀ base outer h₀) (F : Fr h₀ L s.heap m) (X : (hd.heap_1 w.params).In h₀) (N : News h₀ L s.heap news) (T : Top hview LO mean mg mb h₀) (hk : cs.kind = .function) (hd : dp + k < recursionLimit) (hu : un + 8 * k < cLine) (pre : Pre s.heap)
    (ret : ∀ (r : Value) (h' : Heap) (tk' : Nat), Fr h₀ L h' m → News h₀ L h' news → Kept s.heap h' → Out s.heap h' r → Q r { s with heap := h', toks := tk' }) :
    wpAny (model PySem.Challenge.rw_tl0021_01.row.prog w) (ktrTop dp un gd cn cs L a ccd cl outer) (call (.ref f) vs) Q E s :=
  C _ _ _ _ _ _ _ _ _ _ _ _ _ _ _ _ _ B F X News.nil T hk hd hu pre fun r h' tk' k o => ret r h' tk' (k.fr F) (k.news N) k o
theorem Clm.use_int {x : Int} (C : Clm w mean mg mb f k vs Pre (Gives x))
    (B : Below A₀ base outer h₀) (F : Fr h₀ L s.heap m) (X : (hd.heap_1 w.params).In h₀) (N : News h₀ L s.heap news) (T : Top hview LO mean mg mb h₀) (hk : cs.kind = .function) (hd : dp + k < recursionLimit) (hu : un + 8 * k < cLine) (pre : Pre s.heap)
    (ret : ∀ (t : Tok) (h' : Heap) (tk' : Nat), Fr h₀ L h' m → News h₀ L h' news → Kept s.heap h' → Q (.int x t) { s with heap := h', toks := tk' }) :
    wpAny (model PySem.Challenge.rw_tl0021_01.row.prog w) (ktrTop dp un gd cn cs L a ccd cl outer) (call (.ref f) vs) Q E s :=
  Clm.use C B F X N T hk hd hu pre fun r h' tk' F' N' k o => by
    obtain ⟨t, rfl⟩ := o
    exact ret t h' tk' F' N' k
end
/-- a goal that the walk is to leave to me -/
noncomputable def Hold (P : Prop) : Prop := P
theorem hold {P : Prop} (h : Hold P) : P := h
theorem held {P : Prop} (h : P) : Hold P := h
/-- the frame's names that are told; of the others nothing is said -/
noncomputable def told : List (PySem.Str × Value) → (PySem.Str → Option Value) → PySem.Str → Option Value
  | [], u, y => u y
  | (a, v) :: l, u, y => if y = a then some v else told l u y
noncomputable def Knows (m : PySem.Str → Option Value) : List (PySem.Str × Value) → Prop
  | [] => True
  | (a, v) :: l => m a = some v ∧ Knows m l
theorem told_eq {m : PySem.Str → Option Value} : ∀ {l : List (PySem.Str × Value)}, Knows m l → ∀ y, m y = told l m y
  | [], _, _ => rfl
  | (a, v) :: l, h, y => by
    unfold told
    split
    · rename_i e; rw [e]; exact h.1
    · exact told_eq h.2 y
theorem know {h₀ h : Heap} {L : Addr} {m : PySem.Str → Option Value} {l : List (PySem.Str × Value)} (F : Fr h₀ L h m) (k : Knows m l) : Fr h₀ L h (told l m) := by
  have : m = told l m := funext (told_eq k)
  exact this ▸ F
section
variable {prog : Program} {w : World} {A : Around} {E : Value → Shared → Prop} {env : Env} {test : PySem.Expr} {body orelse : List Stmt} {Q : Flow → Shared → Prop}
theorem whl_ind (I : Nat → Shared → Prop) (turn : ∀ n s, I n s → (∀ k s', k < n → I k s' → WhlRest prog w A E env test body orelse Q 0 s') → WhlRest prog w A E env test body orelse Q 1 s) (n : Nat) {s : Shared} (h : I n s) : WhlRest prog w A E env test body orelse Q 0 s := by
  have all : ∀ n, ∀ k s, k < n → I k s → WhlRest prog w A E env test body orelse Q 0 s := by
    intro n
    induction n with
    | zero => intro k s h; exact absurd h (Nat.not_lt_zero _)
    | succ n ih => exact fun k s hk hI => turn k s hI fun j s' hj hI' => ih j s' (Nat.lt_of_lt_of_le hj (Nat.le_of_lt_succ hk)) hI'
  exact all (n + 1) n s (Nat.lt_succ_self _) h
end
theorem isn {vs : List Value} {ns : List Int} {x : Int} {t : Tok} (h : IntsAre vs ns) : IntsAre (vs ++ [.int x t]) (ns ++ [x]) := h.append (IntsAre.cons x t IntsAre.nil)
theorem fresh_of {h g : Heap} {l : Addr} (k : Kept h g) (e : g.get? l = none) : h.get? l = none := by
  cases q : h.get? l with
  | none => rfl
  | some o => rw [k l o q] at e; cases e
/-- a list of ints comes back, newly made -/
noncomputable def GivesL (xs : List Int) (h h' : Heap) (r : Value) : Prop := ∃ l vs n, r = .ref l ∧ h.get? l = none ∧ h'.get? l = some (listOf vs.toArray n) ∧ IntsAre vs xs
theorem ret_list {s : Shared} {Q : Value → Shared → Prop} {xs ys : List Int} {g : Heap} {L : Addr} {l : Addr} {vs : List Value} {n : Nat} {news : List (Addr × Obj)}
    (hret : ∀ (r : Value) (h' : Heap) (tk' : Nat), Kept s.heap h' → GivesL xs s.heap h' r → Q r { s with heap := h', toks := tk' })
    {h' : Heap} {tk' : Nat} (K : Kept s.heap h') (G : Kept s.heap g) (N : News g L h' news) (hm : (l, listOf vs.toArray n) ∈ news) (hi : IntsAre vs ys) (e : ys = xs) : Q (.ref l) { s with heap := h', toks := tk' } := by
  subst e
  exact hret _ h' tk' K ⟨l, vs, n, rfl, fresh_of G (N _ hm).2.2, (N _ hm).1, hi⟩
theorem inv_end2 {h₀ h' : Heap} {L : Addr} {J : (PySem.Str → Option Value) → List (Addr × Obj) → Prop} {own news' : List (Addr × Obj)} {s₁ : Shared} {tk : Nat} {m' : PySem.Str → Option Value} {p q : Addr × Obj} (F : Fr h₀ L h' m') (N : News h₀ L h' news')
    (mp : p ∈ news') (mq : q ∈ news') (mo : ∀ x ∈ own, x ∈ news') (h1 : ∀ x ∈ own, x.1 ≠ p.1) (h2 : ∀ x ∈ own, x.1 ≠ q.1) (hj : J m' [p, q]) : InvEndG h₀ L J own s₁ { s₁ with heap := h', toks := tk } := by
  refine InvEndG.intro F N hj ?_ ?_ mo
  · intro x hx b hb
    rcases List.mem_cons.mp hb with rfl | hb
    · exact h1 x hx
    · rw [List.mem_singleton.mp hb]; exact h2 x hx
  · intro x hx
    rcases List.mem_cons.mp hx with rfl | hx
    · exact mp
    · rw [List.mem_singleton.mp hx]; exact mq
theorem isL {h₀ h : Heap} {L l : Addr} {vs : List Value} {n : Nat} {news : List (Addr × Obj)} (N : News h₀ L h news) (hm : (l, listOf vs.toArray n) ∈ news) : h.IsList l vs.toArray := ⟨_, (N _ hm).1, rfl, n, rfl⟩
section
variable {M : Model} {A : Around} {E : Value → Shared → Prop} {env : Env} {body : List Stmt} {Q : Flow → Shared → Prop} {s : Shared}
theorem gE (pe : PassesOwn M A env E) (h : ∀ E', PassesOwn M A env E' → wpAny M A (execs body env) Q E' s) : wpAny M A (execs body env) Q E s := h E pe
theorem gQ (h : ∀ Q', (∀ f s, Q f s → Q' f s) → wpAny M A (execs body env) Q' E s) : wpAny M A (execs body env) Q E s := h Q fun _ _ h => h
end
noncomputable def MarkA : Prop := True
end Mine
end
open PySem PySem.W PyProof.Rows PySem.Calls PySem.Spec Mine
local macro_rules | `(tactic| cell_enter) => `(tactic| (refine' code_defG ?k1 ?k2 ?k3 ?k4 ?k5 ?kA ?kF ?kK ?k6 ?k7 ?k8 ?k9 ?kB ?_ ?c2 ?c3 ?c4 ?c5; (case kA => exact rfl); (case kF => exact rfl); (case kK => assumption); (case k1 => k_asm); (case k2 => k_asm); (case k3 => k_asm); (case k4 => k_asm); (case k5 => k_asm); (case k6 => k_is); (case k7 => k_is); (case k8 => ktr_room); (case k9 => exact BindsTo.of_eq rfl); (case c5 => decide); (case kB => exact locs rfl); (case c2 => exact rfl); (case c3 => exact rfl); (case c4 => exact rfl); k_whole; intro g' L' h' FG' F' N' B' X' T' G'; replace G' := kept_sub G'; (try dsimp only); (try k_fold)))
section
open PySem PySem.W PyProof.Rows PySem.Calls PySem.Spec
set_option maxRecDepth 100000
set_option maxHeartbeats 8000000
namespace Mine
noncomputable def subCost (x y : PySem.Str) : Int := if x = y then 0 else if Txt.lower x = Txt.lower y then 1 else 2
/-- a number from nought that is not huge -/
structure Sm (x : Int) : Prop where
  lo : 0 ≤ x
  hi : x < 2 ^ 1000
theorem Sm.bits {x : Int} (h : Sm x) : Builtin.Int.intBits x ≤ 1000 := by
  unfold Builtin.Int.intBits
  split
  · exact Nat.zero_le _
  · rename_i hx
    have h0 : x.natAbs ≠ 0 := by
      intro e
      exact hx (by rw [Int.natAbs_eq_zero.mp e]; rfl)
    have h1 : x.natAbs < 2 ^ 1000 := by
      have h2 := h.hi
      have h3 := h.lo
      have : ((x.natAbs : Nat) : Int) < ((2 ^ 1000 : Nat) : Int) := by
        rw [Int.natAbs_of_nonneg h3]
        exact h2
      exact Int.ofNat_lt.mp this
    exact (Nat.log2_lt h0).mpr h1
theorem Sm.mulOk {x y : Int} (hx : Sm x) (hy : Sm y) : IntMulOk x y := IntMulOk.of_bits (Nat.le_trans hx.bits (by decide)) (Nat.le_trans hy.bits (by decide))
theorem Sm.shiftOk {x y : Int} (hx : Sm x) (h : y ≤ 1000) : (Builtin.Int.intBits x : Int) + y ≤ 2 ^ 27 := by
  have := hx.bits
  omega
section
variable (w : World) (mean : ExcName → Option Value) (mg mb : PySem.Str → Option Value)
theorem subC (x : PySem.Str) (tx : Tok) (y : PySem.Str) (ty : Tok) (hx : x.length ≤ 1000) (hy : y.length ≤ 1000) :
    Clm w mean mg mb 21 1 [Value.str x tx, Value.str y ty] Any (Gives (subCost x y)) := by
  unfold Clm
  w_top off
  k_fill
  intro dp un gd cn cs a ccd cl outer A₀ base h₀ L m s Q E B F X N T hk hd hu pre hret
  refine wpAny_call ?_
  k_dflt cell_enter
  k_steps
  all_goals refine ret_int hret (kept_end (by assumption) (by k_asm)) ?_
  all_goals (unfold subCost; simp_all)
theorem addC (x y : Int) (tx ty : Tok) : Clm w mean mg mb 42 1 [Value.int x tx, Value.int y ty] Any (Gives (x + y)) := by
  unfold Clm
  w_top off
  k_fill
  intro dp un gd cn cs a ccd cl outer A₀ base h₀ L m s Q E B F X N T hk hd hu pre hret
  refine wpAny_call ?_
  k_dflt cell_enter
  k_steps
  all_goals exact ret_int hret (kept_end (by assumption) (by k_asm)) rfl
theorem subIC (x y : Int) (tx ty : Tok) : Clm w mean mg mb 77 1 [Value.int x tx, Value.int y ty] Any (Gives (x - y)) := by
  unfold Clm
  w_top off
  k_fill
  intro dp un gd cn cs a ccd cl outer A₀ base h₀ L m s Q E B F X N T hk hd hu pre hret
  refine wpAny_call ?_
  k_dflt cell_enter
  k_steps
  all_goals exact ret_int hret (kept_end (by assumption) (by k_asm)) rfl
theorem mulC (x y : Int) (tx ty : Tok) (hm : IntMulOk x y) : Clm w mean mg mb 63 1 [Value.int x tx, Value.int y ty] Any (Gives (x * y)) := by
  unfold Clm
  w_top off
  k_fill
  intro dp un gd cn cs a ccd cl outer A₀ base h₀ L m s Q E B F X N T hk hd hu pre hret
  refine wpAny_call ?_
  k_dflt cell_enter
  k_steps
  all_goals exact ret_int hret (kept_end (by assumption) (by k_asm)) rfl
section
local macro_rules | `(tactic| walk_at "binaryOp LShift int int") => `(tactic| (refine lshift_int (by assumption) (by assumption) ?_))
theorem lshC (x y : Int) (tx ty : Tok) (hn : 0 ≤ y) (hm : (Builtin.Int.intBits x : Int) + y ≤ 2 ^ 27) : Clm w mean mg mb 56 1 [Value.int x tx, Value.int y ty] Any (Gives (x * 2 ^ y.toNat)) := by
  unfold Clm
  w_top off
  k_fill
  intro dp un gd cn cs a ccd cl outer A₀ base h₀ L m s Q E B F X N T hk hd hu pre hret
  refine wpAny_call ?_
  k_dflt cell_enter
  k_steps
  all_goals exact ret_int hret (kept_end (by assumption) (by k_asm)) rfl
end
section
local macro_rules | `(tactic| walk_at "binaryOp RShift int int") => `(tactic| (refine rshift_int (by assumption) ?_))
theorem rshC (x y : Int) (tx ty : Tok) (hn : 0 ≤ y) : Clm w mean mg mb 70 1 [Value.int x tx, Value.int y ty] Any (Gives (x.fdiv (2 ^ y.toNat))) := by
  unfold Clm
  w_top off
  k_fill
  intro dp un gd cn cs a ccd cl outer A₀ base h₀ L m s Q E B F X N T hk hd hu pre hret
  refine wpAny_call ?_
  k_dflt cell_enter
  k_steps
  all_goals exact ret_int hret (kept_end (by assumption) (by k_asm)) rfl
end
section
local macro_rules | `(tactic| walk_at "binaryOp BitAnd int int") => `(tactic| (refine and_int ?_))
theorem andC (x y : Int) (tx ty : Tok) : Clm w mean mg mb 49 1 [Value.int x tx, Value.int y ty] Any (Gives (Builtin.bitAnd x y)) := by
  unfold Clm
  w_top off
  k_fill
  intro dp un gd cn cs a ccd cl outer A₀ base h₀ L m s Q E B F X N T hk hd hu pre hret
  refine wpAny_call ?_
  k_dflt cell_enter
  k_steps
  all_goals exact ret_int hret (kept_end (by assumption) (by k_asm)) rfl
end
end
end Mine
end
section
open PySem PySem.W PyProof.Rows PySem.Calls PySem.Spec
set_option maxRecDepth 100000
set_option maxHeartbeats 8000000
set_option linter.unusedVariables false
namespace Mine
local macro_rules | `(tactic| walk_at "call ref") => `(tactic| (refine hold ?_))
local macro_rules | `(tactic| walk_at "exec While Compare cons nil") => `(tactic| (k_here; k_dflt (refine whl_start 0 ?_); refine hold ?_))
local macro_rules | `(tactic| walk_at "WhlRest") => `(tactic| (refine hold ?_))
local macro_rules | `(tactic| walk_at "WhlIf") => `(tactic| (first | (refine WhlIf.yes (by assumption) ?_) | (refine WhlIf.no (by assumption) ?_)))
section
variable (w : World) (mean : ExcName → Option Value) (mg mb : PySem.Str → Option Value)
theorem leastC (p : Nat) (r : Int) (tx : Tok) (hr2 : r % 256 ≠ 0) :
    Clm w mean mg mb 113 2 [Value.int (256 ^ p * r) tx] Any (Gives (p : Int)) := by
  unfold Clm
  w_top off
  k_fill
  intro dp un gd cn cs a ccd cl outer A₀ base h₀ L m s Q E B F X N T hk hd hu pre hret
  refine wpAny_call ?_
  k_dflt cell_enter
  (k_steps; repeat' (((with_reducible refine held ?_); first | ((k_here; (with_reducible show wpAny _ _ (call (Value.ref 70) _ _) _ _ _); k_dflt (refine' Clm.use_int (rshC _ _ _ _ _ _ _ _ ?c1) ?k1 ?k2 ?k3 ?k4 ?k5 ?kK ?kd ?ku ?kp ?_; (case k1 => k_asm); (case k2 => k_asm); (case k3 => k_asm); (case k4 => k_asm); (case k5 => k_asm); (case c1 => first | assumption | decide | omega); (case kK => first | exact rfl | assumption); (case kd => ktr_room); (case ku => ktr_units); (case kp => exact trivial); intro _ _ _ _ _ _; (try dsimp only); (try k_fold); (try k_sweep)))) | ((k_here; (with_reducible show wpAny _ _ (call (Value.ref 49) _ _) _ _ _); k_dflt (refine' Clm.use_int (andC _ _ _ _ _ _ _ _) ?k1 ?k2 ?k3 ?k4 ?k5 ?kK ?kd ?ku ?kp ?_; (case k1 => k_asm); (case k2 => k_asm); (case k3 => k_asm); (case k4 => k_asm); (case k5 => k_asm); (case kK => first | exact rfl | assumption); (case kd => ktr_room); (case ku => ktr_units); (case kp => exact trivial); intro _ _ _ _ _ _; (try dsimp only); (try k_fold); (try k_sweep))))); k_steps))
  rename_i g1 L1 h1 FG1 B1 X1 T1 G1 h2 F1 N1
  unfold Hold
  refine whl_ind (fun n s' => ∃ h tk u q t1 t2, s' = { s with heap := h, toks := tk } ∧ Fr g1 L1 h (told [("price", .int q t1), ("ways", .int (256 ^ n * r) t2)] u) ∧ News g1 L1 h [] ∧ q + n = p) ?_ p ?_
  · rintro n s' ⟨h, tk, u, q, t1, t2, rfl, F2, N2, hq⟩ ih
    refine whl_turn (by passes_own) ?_
    cases n with
    | zero =>
      have e0 : (Builtin.bitAnd (256 ^ 0 * r) 255 == 0) = false := by rw [PyProof.Rows.bitAnd_m8]; simpa using hr2
      (k_steps; repeat' (((with_reducible refine held ?_); first | ((k_here; (with_reducible show wpAny _ _ (call (Value.ref 70) _ _) _ _ _); k_dflt (refine' Clm.use_int (rshC _ _ _ _ _ _ _ _ ?c1) ?k1 ?k2 ?k3 ?k4 ?k5 ?kK ?kd ?ku ?kp ?_; (case k1 => k_asm); (case k2 => k_asm); (case k3 => k_asm); (case k4 => k_asm); (case k5 => k_asm); (case c1 => first | assumption | decide | omega); (case kK => first | exact rfl | assumption); (case kd => ktr_room); (case ku => ktr_units); (case kp => exact trivial); intro _ _ _ _ _ _; (try dsimp only); (try k_fold); (try k_sweep)))) | ((k_here; (with_reducible show wpAny _ _ (call (Value.ref 49) _ _) _ _ _); k_dflt (refine' Clm.use_int (andC _ _ _ _ _ _ _ _) ?k1 ?k2 ?k3 ?k4 ?k5 ?kK ?kd ?ku ?kp ?_; (case k1 => k_asm); (case k2 => k_asm); (case k3 => k_asm); (case k4 => k_asm); (case k5 => k_asm); (case kK => first | exact rfl | assumption); (case kd => ktr_room); (case ku => ktr_units); (case kp => exact trivial); intro _ _ _ _ _ _; (try dsimp only); (try k_fold); (try k_sweep))))); k_steps))
      exact ret_int hret (kept_end (by assumption) (by k_asm)) (by omega)
    | succ n =>
      have e0 : (Builtin.bitAnd (256 ^ (n + 1) * r) 255 == 0) = true := by
        rw [PyProof.Rows.bitAnd_m8, Int.pow_succ, Int.mul_assoc, Int.mul_comm 256 r, ← Int.mul_assoc]
        simp
      have e1 : Int.fdiv (256 ^ (n + 1) * r) (2 ^ (8 : Int).toNat) = 256 ^ n * r := by
        show Int.fdiv (256 ^ (n + 1) * r) 256 = 256 ^ n * r
        rw [Int.pow_succ, Int.mul_assoc, Int.mul_comm 256 r, ← Int.mul_assoc]
        exact Int.mul_fdiv_cancel _ (by decide)
      (k_steps; repeat' (((with_reducible refine held ?_); first | ((k_here; (with_reducible show wpAny _ _ (call (Value.ref 70) _ _) _ _ _); k_dflt (refine' Clm.use_int (rshC _ _ _ _ _ _ _ _ ?c1) ?k1 ?k2 ?k3 ?k4 ?k5 ?kK ?kd ?ku ?kp ?_; (case k1 => k_asm); (case k2 => k_asm); (case k3 => k_asm); (case k4 => k_asm); (case k5 => k_asm); (case c1 => first | assumption | decide | omega); (case kK => first | exact rfl | assumption); (case kd => ktr_room); (case ku => ktr_units); (case kp => exact trivial); intro _ _ _ _ _ _; (try dsimp only); (try k_fold); (try k_sweep)))) | ((k_here; (with_reducible show wpAny _ _ (call (Value.ref 49) _ _) _ _ _); k_dflt (refine' Clm.use_int (andC _ _ _ _ _ _ _ _) ?k1 ?k2 ?k3 ?k4 ?k5 ?kK ?kd ?ku ?kp ?_; (case k1 => k_asm); (case k2 => k_asm); (case k3 => k_asm); (case k4 => k_asm); (case k5 => k_asm); (case kK => first | exact rfl | assumption); (case kd => ktr_room); (case ku => ktr_units); (case kp => exact trivial); intro _ _ _ _ _ _; (try dsimp only); (try k_fold); (try k_sweep))))); k_steps))
      unfold Hold
      exact ih n _ (by omega) ⟨_, _, _, q + 1, _, _, rfl, know (by k_asm) ⟨rfl, (by rw [← e1]; rfl), trivial⟩, by k_asm, by omega⟩
  · exact ⟨_, _, _, 0, _, _, rfl, know F1 ⟨rfl, rfl, trivial⟩, N1, by omega⟩
end
end Mine
end
local macro_rules | `(tactic| walk_at "nokey") => `(tactic| fail)
section
open PySem PySem.W PyProof.Rows PySem.Calls PySem.Spec
set_option maxRecDepth 100000
set_option maxHeartbeats 8000000
set_option linter.unusedVariables false
namespace Mine
section
variable (w : World) (mean : ExcName → Option Value) (mg mb : PySem.Str → Option Value)
noncomputable def packF (ns : List Int) : Int := ns.foldr (fun c a => a * 256 + c) 0
theorem packC (l : Addr) (vs : List Value) (ns : List Int) (hi : IntsAre vs ns) (hl : ns.length < 2 ^ 20) :
    Clm w mean mg mb 146 1 [Value.ref l] (fun h => h.IsList l vs.toArray) (Gives (packF ns)) := by
  unfold Clm
  w_top off
  k_fill
  intro dp un gd cn cs a ccd cl outer A₀ base h₀ L m s Q E B F X N T hk hd hu pre hret
  refine wpAny_call ?_
  k_dflt cell_enter
  rename_i g1 L1 h1 FG1 F1 N1 B1 X1 T1 G1
  have pre1 : g1.IsList l vs.toArray := stays_list G1 pre
  k_with "pyIter ref" => k_state (fun pre n => n = pre.foldl (fun a c => a * 256 + c) 0) "number"
  k_steps
  refine ret_int hret (kept_end (by assumption) (by k_asm)) ?_
  simp only [packF, ← List.foldl_reverse]
  assumption
end
end Mine
end
section
open PySem PySem.W PyProof.Rows PySem.Calls PySem.Spec
set_option maxRecDepth 100000
set_option maxHeartbeats 8000000
set_option linter.unusedVariables false
namespace Mine
local macro_rules | `(tactic| walk_at "call ref") => `(tactic| (refine hold ?_))
local macro_rules | `(tactic| walk_at "pyIter ref") => `(tactic| (refine hold ?_))
local macro_rules | `(tactic| walk_at "InvEndG") => `(tactic| (refine hold ?_))
local macro_rules | `(tactic| walk_at "subscriptTail Name Slice ref ref") => `(tactic| (refine hold ?_))
section
variable (w : World) (mean : ExcName → Option Value) (mg mb : PySem.Str → Option Value)
noncomputable def cutStep (st : List Int × List Int) (k : Int) : List Int × List Int := (st.1 ++ [packF (st.2.take k.toNat)], st.2.drop k.toNat)
theorem cut_len (ns : List Int) (ks : List Int) : ∀ i, ((ks.take i).foldl cutStep ([], ns)).1.length ≤ ks.length ∧ ((ks.take i).foldl cutStep ([], ns)).2.length ≤ ns.length := by
  have gen : ∀ (l : List Int) (st : List Int × List Int), (l.foldl cutStep st).1.length = st.1.length + l.length ∧ (l.foldl cutStep st).2.length ≤ st.2.length := by
    intro l
    induction l with
    | nil => intro st; exact ⟨rfl, Nat.le_refl _⟩
    | cons k l ih =>
      intro st
      have := ih (cutStep st k)
      simp only [List.foldl_cons, List.length_cons]
      refine ⟨by rw [this.1]; simp [cutStep]; omega, Nat.le_trans this.2 (by simp [cutStep])⟩
  intro i
  have := gen (ks.take i) ([], ns)
  refine ⟨?_, this.2⟩
  rw [this.1]
  simp
  omega
theorem cutC (l z : Addr) (vs ws : List Value) (ns ks : List Int) (hi : IntsAre vs ns) (hl : ns.length < 2 ^ 20) (hks : IntsAre ws ks) (hkl : ks.length < 2 ^ 10) (hk0 : ∀ k ∈ ks, 0 ≤ k ∧ k < 2 ^ 20) :
    Clm w mean mg mb 153 3 [Value.ref l, Value.ref z] (fun h => h.IsList l vs.toArray ∧ h.IsList z ws.toArray) (GivesL ((ks.foldl cutStep ([], ns)).1 ++ [packF (ks.foldl cutStep ([], ns)).2])) := by
  unfold Clm
  w_top off
  k_fill
  intro dp un gd cn cs a ccd cl outer A₀ base h₀ L m s Q E B F X N T hk hd hu pre hret
  refine wpAny_call ?_
  k_dflt cell_enter
  rename_i g1 L1 h1 FG1 F1 N1 B1 X1 T1 G1
  refine gE (by passes_own) fun EV pe => ?_
  refine gQ fun QV hQV => ?_
  obtain ⟨pre1, pre2⟩ := pre
  have pre1 : g1.IsList l vs.toArray := stays_list G1 pre1
  have pre2 : g1.IsList z ws.toArray := stays_list G1 pre2
  (k_steps; repeat' (((with_reducible refine held ?_); first | ((k_here; (with_reducible show wpAny _ _ (call (Value.ref 146) _ _) _ _ _); k_dflt (refine' Clm.use_int (packC _ _ _ _ _ _ _ ?c1ø ?c2ø) ?k1ø ?k2ø ?k3ø ?k4ø ?k5ø ?kKø ?kdø ?kuø ?kpø ?_; (case k1ø => k_asm); (case k2ø => k_asm); (case k3ø => k_asm); (case k4ø => k_asm); (case k5ø => k_asm); (case kpø => (show Heap.IsList _ _ _; first | is_list | exact isL (by k_asm) (by k_mem))); (case c1ø => l_ints); (case c2ø => l_fit); (case kKø => first | exact rfl | assumption); (case kdø => ktr_room); (case kuø => ktr_units); intro _ _ _ _ _ _; (try dsimp only); (try k_fold); (try k_sweep)))) | (((with_reducible show wpAny _ _ (subscriptTail (Expr.Name _ _) (Expr.Slice _ _ _ _) (Value.ref _) (Value.ref _)) _ _ _); (k_here; (with_reducible show wpAny _ _ (subscriptTail _ (PySem.Expr.Slice _ _ none _) (Value.ref _) (Value.ref _)) _ _ _); k_dflt (refine' kmk_slice_ints ?Fø ?Nø ?lø ?pø ?qø ?iø ?mø ?cø ?_ ?sø ?tø ?zø; (case Fø => k_asm); (case Nø => k_asm); (case lø => kmk_list); (case pø => kmk_part); (case qø => kmk_part); (case iø => l_ints); (case mø => with_reducible first | exact kmk_from (by l_ints) (by kmk_sign) | exact kmk_upto (by l_ints) (by kmk_sign)); (case cø => kmk_len); (case sø => with_unfolding_all rfl); (case tø => kmk_pure); (case zø => kmk_size)); intro _ _ _ _ _ l1 _ _ _; (try k_lt l1); (try k_sweep))))); k_steps))
  rename_i l1 h2 x1 h3 F2 N2
  unfold Hold
  refine iter_invG (l := z) (vs := ws) (ns := ks) (fun i m nx => ∃ u P pv pn C cv, m = told [("pieces", .ref P), ("counts", .ref C), ("sizes", .ref z)] u ∧ IntsAre pv ((ks.take i).foldl cutStep ([], ns)).1 ∧ IntsAre cv ((ks.take i).foldl cutStep ([], ns)).2 ∧
    ((g1.IsList C cv.toArray ∧ nx = [(P, listOf pv.toArray pn)]) ∨ (∃ cn, nx = [(P, listOf pv.toArray pn), (C, listOf cv.toArray cn)] ∧ @Ne Nat P C))) rfl pre2 ‹IntsAre ws ks› (know F2 (l := [("pieces", .ref l1), ("counts", .ref l), ("sizes", .ref z)]) ⟨rfl, rfl, rfl, trivial⟩) N2 ?_ ?_ ?_
  · exact ⟨_, _, [], _, _, _, rfl, .nil, hi, .inl ⟨pre1, rfl⟩⟩
  · rintro i n t m1 nx h4 tk4 own hn - hoff ⟨u, P, pv, pn, C, cv, rfl, hpv, hcv, hor⟩ F4 N4
    have hn0 := hk0 n (List.mem_of_getElem? hn)
    have hcvl := hcv.length
    have hpvl := hpv.length
    have hst := cut_len ns ks i
    have hstep := foldl_take_succ (cutStep) (([], ns)) hn
    generalize (ks.take i).foldl cutStep ([], ns) = st at *
    obtain ⟨st1, st2⟩ := st
    dsimp only at *
    rcases hor with ⟨hC, rfl⟩ | ⟨cn, rfl, hPC⟩
    · simp only [List.cons_append, List.nil_append] at N4
      replace hoff : OwnOff own [P] := hoff
      (k_steps; repeat' (((with_reducible refine held ?_); first | ((k_here; (with_reducible show wpAny _ _ (call (Value.ref 146) _ _) _ _ _); k_dflt (refine' Clm.use_int (packC _ _ _ _ _ _ _ ?c1ø ?c2ø) ?k1ø ?k2ø ?k3ø ?k4ø ?k5ø ?kKø ?kdø ?kuø ?kpø ?_; (case k1ø => k_asm); (case k2ø => k_asm); (case k3ø => k_asm); (case k4ø => k_asm); (case k5ø => k_asm); (case kpø => (show Heap.IsList _ _ _; first | is_list | exact isL (by k_asm) (by k_mem))); (case c1ø => l_ints); (case c2ø => l_fit); (case kKø => first | exact rfl | assumption); (case kdø => ktr_room); (case kuø => ktr_units); intro _ _ _ _ _ _; (try dsimp only); (try k_fold); (try k_sweep)))) | (((with_reducible show wpAny _ _ (subscriptTail (Expr.Name _ _) (Expr.Slice _ _ _ _) (Value.ref _) (Value.ref _)) _ _ _); (k_here; (with_reducible show wpAny _ _ (subscriptTail _ (PySem.Expr.Slice _ _ none _) (Value.ref _) (Value.ref _)) _ _ _); k_dflt (refine' kmk_slice_ints ?Fø ?Nø ?lø ?pø ?qø ?iø ?mø ?cø ?_ ?sø ?tø ?zø; (case Fø => k_asm); (case Nø => k_asm); (case lø => kmk_list); (case pø => kmk_part); (case qø => kmk_part); (case iø => l_ints); (case mø => with_reducible first | exact kmk_from (by l_ints) (by kmk_sign) | exact kmk_upto (by l_ints) (by kmk_sign)); (case cø => kmk_len); (case sø => with_unfolding_all rfl); (case tø => kmk_pure); (case zø => kmk_size)); intro _ _ _ _ _ l1 _ _ _; (try k_lt l1); (try k_sweep))))); k_steps))
      rename_i _ _ _ hI2 _ _ h5 F5 N5
      unfold Hold
      simp only [List.push_toArray] at N5
      refine inv_end2 F5 N5 (p := (P, _)) (q := (_, _)) (by k_mem) (by k_mem) (fun x hx => by simp [hx]) (fun x hx => hoff x hx P (by simp)) (fun x hx => Nat.ne_of_lt (kst_ltOf l1.2.2 x hx)) ?_
      rw [hstep]
      exact ⟨_, _, _, _, _, _, funext (told_eq ⟨rfl, rfl, rfl, trivial⟩), isn hpv, hI2, .inr ⟨_, rfl, Nat.ne_of_lt l1.2.1⟩⟩
    · simp only [List.cons_append, List.nil_append] at N4
      replace hoff : OwnOff own [P, C] := hoff
      (k_steps; repeat' (((with_reducible refine held ?_); first | ((k_here; (with_reducible show wpAny _ _ (call (Value.ref 146) _ _) _ _ _); k_dflt (refine' Clm.use_int (packC _ _ _ _ _ _ _ ?c1ø ?c2ø) ?k1ø ?k2ø ?k3ø ?k4ø ?k5ø ?kKø ?kdø ?kuø ?kpø ?_; (case k1ø => k_asm); (case k2ø => k_asm); (case k3ø => k_asm); (case k4ø => k_asm); (case k5ø => k_asm); (case kpø => (show Heap.IsList _ _ _; first | is_list | exact isL (by k_asm) (by k_mem))); (case c1ø => l_ints); (case c2ø => l_fit); (case kKø => first | exact rfl | assumption); (case kdø => ktr_room); (case kuø => ktr_units); intro _ _ _ _ _ _; (try dsimp only); (try k_fold); (try k_sweep)))) | (((with_reducible show wpAny _ _ (subscriptTail (Expr.Name _ _) (Expr.Slice _ _ _ _) (Value.ref _) (Value.ref _)) _ _ _); (k_here; (with_reducible show wpAny _ _ (subscriptTail _ (PySem.Expr.Slice _ _ none _) (Value.ref _) (Value.ref _)) _ _ _); k_dflt (refine' kmk_slice_ints ?Fø ?Nø ?lø ?pø ?qø ?iø ?mø ?cø ?_ ?sø ?tø ?zø; (case Fø => k_asm); (case Nø => k_asm); (case lø => kmk_list); (case pø => kmk_part); (case qø => kmk_part); (case iø => l_ints); (case mø => with_reducible first | exact kmk_from (by l_ints) (by kmk_sign) | exact kmk_upto (by l_ints) (by kmk_sign)); (case cø => kmk_len); (case sø => with_unfolding_all rfl); (case tø => kmk_pure); (case zø => kmk_size)); intro _ _ _ _ _ l1 _ _ _; (try k_lt l1); (try k_sweep))))); k_steps))
      rename_i _ _ _ hI2 _ _ h5 F5 N5
      unfold Hold
      simp only [List.push_toArray] at N5
      refine inv_end2 F5 N5 (p := (P, _)) (q := (_, _)) (by k_mem) (by k_mem) (fun x hx => by simp [hx]) (fun x hx => hoff x hx P (by simp)) (fun x hx => Nat.ne_of_lt (kst_ltOf l1.2.2.2 x hx)) ?_
      rw [hstep]
      exact ⟨_, _, _, _, _, _, funext (told_eq ⟨rfl, rfl, rfl, trivial⟩), isn hpv, hI2, .inr ⟨_, rfl, Nat.ne_of_lt l1.2.1⟩⟩
  · rintro m1 nx h4 tk4 ⟨u, P, pv, pn, C, cv, rfl, hpv, hcv, hor⟩ F4 N4
    have hcvl := hcv.length
    have hpvl := hpv.length
    have hst := cut_len ns ks ks.length
    rw [List.take_length] at *
    generalize ks.foldl cutStep ([], ns) = st at *
    obtain ⟨st1, st2⟩ := st
    dsimp only at *
    clear F2 N2
    rcases hor with ⟨hC, rfl⟩ | ⟨cn, rfl, hPC⟩
    · (k_steps; repeat' (((with_reducible refine held ?_); first | ((k_here; (with_reducible show wpAny _ _ (call (Value.ref 146) _ _) _ _ _); k_dflt (refine' Clm.use_int (packC _ _ _ _ _ _ _ ?c1ø ?c2ø) ?k1ø ?k2ø ?k3ø ?k4ø ?k5ø ?kKø ?kdø ?kuø ?kpø ?_; (case k1ø => k_asm); (case k2ø => k_asm); (case k3ø => k_asm); (case k4ø => k_asm); (case k5ø => k_asm); (case kpø => (show Heap.IsList _ _ _; first | is_list | exact isL (by k_asm) (by k_mem))); (case c1ø => l_ints); (case c2ø => l_fit); (case kKø => first | exact rfl | assumption); (case kdø => ktr_room); (case kuø => ktr_units); intro _ _ _ _ _ _; (try dsimp only); (try k_fold); (try k_sweep)))) | (((with_reducible show wpAny _ _ (subscriptTail (Expr.Name _ _) (Expr.Slice _ _ _ _) (Value.ref _) (Value.ref _)) _ _ _); (k_here; (with_reducible show wpAny _ _ (subscriptTail _ (PySem.Expr.Slice _ _ none _) (Value.ref _) (Value.ref _)) _ _ _); k_dflt (refine' kmk_slice_ints ?Fø ?Nø ?lø ?pø ?qø ?iø ?mø ?cø ?_ ?sø ?tø ?zø; (case Fø => k_asm); (case Nø => k_asm); (case lø => kmk_list); (case pø => kmk_part); (case qø => kmk_part); (case iø => l_ints); (case mø => with_reducible first | exact kmk_from (by l_ints) (by kmk_sign) | exact kmk_upto (by l_ints) (by kmk_sign)); (case cø => kmk_len); (case sø => with_unfolding_all rfl); (case tø => kmk_pure); (case zø => kmk_size)); intro _ _ _ _ _ l1 _ _ _; (try k_lt l1); (try k_sweep))))); k_steps))
      with_reducible rename News _ _ _ _ => N5
      with_reducible rename IntsAre _ _ => hI5
      refine hQV _ _ ?_
      k_steps
      exact ret_list hret (kept_end G1 (by k_asm)) G1 N5 (by k_mem) hI5 rfl
    · (k_steps; repeat' (((with_reducible refine held ?_); first | ((k_here; (with_reducible show wpAny _ _ (call (Value.ref 146) _ _) _ _ _); k_dflt (refine' Clm.use_int (packC _ _ _ _ _ _ _ ?c1ø ?c2ø) ?k1ø ?k2ø ?k3ø ?k4ø ?k5ø ?kKø ?kdø ?kuø ?kpø ?_; (case k1ø => k_asm); (case k2ø => k_asm); (case k3ø => k_asm); (case k4ø => k_asm); (case k5ø => k_asm); (case kpø => (show Heap.IsList _ _ _; first | is_list | exact isL (by k_asm) (by k_mem))); (case c1ø => l_ints); (case c2ø => l_fit); (case kKø => first | exact rfl | assumption); (case kdø => ktr_room); (case kuø => ktr_units); intro _ _ _ _ _ _; (try dsimp only); (try k_fold); (try k_sweep)))) | (((with_reducible show wpAny _ _ (subscriptTail (Expr.Name _ _) (Expr.Slice _ _ _ _) (Value.ref _) (Value.ref _)) _ _ _); (k_here; (with_reducible show wpAny _ _ (subscriptTail _ (PySem.Expr.Slice _ _ none _) (Value.ref _) (Value.ref _)) _ _ _); k_dflt (refine' kmk_slice_ints ?Fø ?Nø ?lø ?pø ?qø ?iø ?mø ?cø ?_ ?sø ?tø ?zø; (case Fø => k_asm); (case Nø => k_asm); (case lø => kmk_list); (case pø => kmk_part); (case qø => kmk_part); (case iø => l_ints); (case mø => with_reducible first | exact kmk_from (by l_ints) (by kmk_sign) | exact kmk_upto (by l_ints) (by kmk_sign)); (case cø => kmk_len); (case sø => with_unfolding_all rfl); (case tø => kmk_pure); (case zø => kmk_size)); intro _ _ _ _ _ l1 _ _ _; (try k_lt l1); (try k_sweep))))); k_steps))
      with_reducible rename News _ _ _ _ => N5
      with_reducible rename IntsAre _ _ => hI5
      refine hQV _ _ ?_
      k_steps
      exact ret_list hret (kept_end G1 (by k_asm)) G1 N5 (by k_mem) hI5 rfl
end
end Mine
end
section
open PySem PySem.W PyProof.Rows PySem.Calls PySem.Spec PySem.Builtin PySem.Builtin.Str
set_option linter.unusedVariables false
namespace Mine
theorem sl_eq {x : PySem.Str} {lo hi : Option Int} (n : Nat) (js : List Nat) {r : PySem.Str} (l : x.length = n) (e : strSliceIndices lo hi 1 n = js) (h : (if js.length = n then x else ⟨(js.filterMap (x.cps[·]?)).toArray⟩) = r) : Txt.slice x lo hi = r := by
  subst l e
  unfold Txt.slice
  rw [← h]
  simp
section
variable {a b c : Nat}
theorem s0_0 : Txt.slice ⟨#[]⟩ (some 0) none = ⟨#[]⟩ := sl_eq 0 [] rfl (by decide) rfl
theorem s1_0 : Txt.slice ⟨#[a]⟩ (some 0) none = ⟨#[a]⟩ := sl_eq 1 [0] rfl (by decide) rfl
theorem s1_1 : Txt.slice ⟨#[a]⟩ (some 1) none = ⟨#[]⟩ := sl_eq 1 [] rfl (by decide) rfl
theorem s2_0 : Txt.slice ⟨#[a, b]⟩ (some 0) none = ⟨#[a, b]⟩ := sl_eq 2 [0, 1] rfl (by decide) rfl
theorem s2_1 : Txt.slice ⟨#[a, b]⟩ (some 1) none = ⟨#[b]⟩ := sl_eq 2 [1] rfl (by decide) rfl
theorem s2_2 : Txt.slice ⟨#[a, b]⟩ (some 2) none = ⟨#[]⟩ := sl_eq 2 [] rfl (by decide) rfl
theorem s3_0 : Txt.slice ⟨#[a, b, c]⟩ (some 0) none = ⟨#[a, b, c]⟩ := sl_eq 3 [0, 1, 2] rfl (by decide) rfl
theorem s3_1 : Txt.slice ⟨#[a, b, c]⟩ (some 1) none = ⟨#[b, c]⟩ := sl_eq 3 [1, 2] rfl (by decide) rfl
theorem s3_2 : Txt.slice ⟨#[a, b, c]⟩ (some 2) none = ⟨#[c]⟩ := sl_eq 3 [2] rfl (by decide) rfl
theorem sx_x {x : PySem.Str} {n : Nat} {js : List Nat} (l : x.length = n) (e : strSliceIndices none none 1 n = js) (h : js.length = n) : Txt.slice x none none = x := sl_eq n js l e (if_pos h)
theorem n0_n : Txt.slice ⟨#[]⟩ none none = ⟨#[]⟩ := sx_x (n := 0) rfl rfl (by decide)
theorem n1_n : Txt.slice ⟨#[a]⟩ none none = ⟨#[a]⟩ := sx_x (n := 1) rfl rfl (by decide)
theorem n2_n : Txt.slice ⟨#[a, b]⟩ none none = ⟨#[a, b]⟩ := sx_x (n := 2) rfl rfl (by decide)
theorem n3_n : Txt.slice ⟨#[a, b, c]⟩ none none = ⟨#[a, b, c]⟩ := sx_x (n := 3) rfl rfl (by decide)
theorem n1_1 : Txt.slice ⟨#[a]⟩ none (some (-1)) = ⟨#[]⟩ := sl_eq 1 [] rfl (by decide) rfl
theorem n2_1 : Txt.slice ⟨#[a, b]⟩ none (some (-1)) = ⟨#[a]⟩ := sl_eq 2 [0] rfl (by decide) rfl
theorem n3_1 : Txt.slice ⟨#[a, b, c]⟩ none (some (-1)) = ⟨#[a, b]⟩ := sl_eq 3 [0, 1] rfl (by decide) rfl
theorem n1_2 : Txt.slice ⟨#[a]⟩ none (some 1) = ⟨#[a]⟩ := sl_eq 1 [0] rfl (by decide) rfl
theorem n2_2 : Txt.slice ⟨#[a, b]⟩ none (some 2) = ⟨#[a, b]⟩ := sl_eq 2 [0, 1] rfl (by decide) rfl
theorem n3_2 : Txt.slice ⟨#[a, b, c]⟩ none (some 2) = ⟨#[a, b]⟩ := sl_eq 3 [0, 1] rfl (by decide) rfl
theorem i1_0 : Txt.item ⟨#[a]⟩ 0 = ⟨#[a]⟩ := rfl
theorem i2_0 : Txt.item ⟨#[a, b]⟩ 0 = ⟨#[a]⟩ := rfl
theorem i2_1 : Txt.item ⟨#[a, b]⟩ 1 = ⟨#[b]⟩ := rfl
theorem i3_0 : Txt.item ⟨#[a, b, c]⟩ 0 = ⟨#[a]⟩ := rfl
theorem i3_1 : Txt.item ⟨#[a, b, c]⟩ 1 = ⟨#[b]⟩ := rfl
theorem i3_2 : Txt.item ⟨#[a, b, c]⟩ 2 = ⟨#[c]⟩ := rfl
theorem j1_1 : Txt.item ⟨#[a]⟩ (-1) = ⟨#[a]⟩ := rfl
theorem j2_1 : Txt.item ⟨#[a, b]⟩ (-1) = ⟨#[b]⟩ := rfl
theorem j2_2 : Txt.item ⟨#[a, b]⟩ (-2) = ⟨#[a]⟩ := rfl
theorem j3_1 : Txt.item ⟨#[a, b, c]⟩ (-1) = ⟨#[c]⟩ := rfl
theorem j3_2 : Txt.item ⟨#[a, b, c]⟩ (-2) = ⟨#[b]⟩ := rfl
theorem j3_3 : Txt.item ⟨#[a, b, c]⟩ (-3) = ⟨#[a]⟩ := rfl
theorem c3_12 : Txt.slice ⟨#[a, b, c]⟩ (some 1) (some 2) = ⟨#[b]⟩ := sl_eq 3 [1] rfl (by decide) rfl
end
section
variable {prog : Program} {w : World} {A : Around} {E : Value → Shared → Prop} {s : Shared} {value slice : PySem.Expr} {x r : PySem.Str} {t : Tok} {h₀ : Heap} {L : Addr} {m : PySem.Str → Option Value} {news : List (Addr × Obj)} {Q : Value → Shared → Prop}
theorem tsl_nn (e : Txt.slice x none none = r) (hF : Fr h₀ L s.heap m) (hN : News h₀ L s.heap news) (hs : subscripted slice false (.str x t) (.ref s.heap.objs.size) = operate [.ref s.heap.objs.size, .str x t] (getItem (.str x t) (.ref s.heap.objs.size)))
    (ht : ∀ r, letTemporaryGo value (.str x t) r = pure ()) (hsz : x.length ≤ sizeLine) (h : ∀ h' t' k, Fr h₀ L h' m → News h₀ L h' news → Q (.str r t') { s with heap := h', toks := k }) :
    wpAny (model prog w) A (subscriptTail value slice (.str x t) (.ref s.heap.objs.size)) Q E { s with heap := s.heap.push { cls := .type "slice", data := .fields #[.none, .none, .none] } } := by
  subst e
  exact slice_strN_nn hF hN h hs ht hsz
theorem tsl_ns {j : Int} {uj : Tok} (e : Txt.slice x none (some j) = r) (hF : Fr h₀ L s.heap m) (hN : News h₀ L s.heap news) (hs : subscripted slice false (.str x t) (.ref s.heap.objs.size) = operate [.ref s.heap.objs.size, .str x t] (getItem (.str x t) (.ref s.heap.objs.size)))
    (ht : ∀ r, letTemporaryGo value (.str x t) r = pure ()) (hsz : x.length ≤ sizeLine) (h : ∀ h' t' k, Fr h₀ L h' m → News h₀ L h' news → Q (.str r t') { s with heap := h', toks := k }) :
    wpAny (model prog w) A (subscriptTail value slice (.str x t) (.ref s.heap.objs.size)) Q E { s with heap := s.heap.push { cls := .type "slice", data := .fields #[.none, .int j uj, .none] } } := by
  subst e
  exact slice_strN_ns hF hN h hs ht hsz
theorem tsl_sn {i : Int} {ui : Tok} (e : Txt.slice x (some i) none = r) (hF : Fr h₀ L s.heap m) (hN : News h₀ L s.heap news) (hs : subscripted slice false (.str x t) (.ref s.heap.objs.size) = operate [.ref s.heap.objs.size, .str x t] (getItem (.str x t) (.ref s.heap.objs.size)))
    (ht : ∀ r, letTemporaryGo value (.str x t) r = pure ()) (hsz : x.length ≤ sizeLine) (h : ∀ h' t' k, Fr h₀ L h' m → News h₀ L h' news → Q (.str r t') { s with heap := h', toks := k }) :
    wpAny (model prog w) A (subscriptTail value slice (.str x t) (.ref s.heap.objs.size)) Q E { s with heap := s.heap.push { cls := .type "slice", data := .fields #[.int i ui, .none, .none] } } := by
  subst e
  exact slice_strN_sn hF hN h hs ht hsz
theorem tsl_ss {i j : Int} {ui uj : Tok} (e : Txt.slice x (some i) (some j) = r) (hF : Fr h₀ L s.heap m) (hN : News h₀ L s.heap news) (hs : subscripted slice false (.str x t) (.ref s.heap.objs.size) = operate [.ref s.heap.objs.size, .str x t] (getItem (.str x t) (.ref s.heap.objs.size)))
    (ht : ∀ r, letTemporaryGo value (.str x t) r = pure ()) (hsz : x.length ≤ sizeLine) (h : ∀ h' t' k, Fr h₀ L h' m → News h₀ L h' news → Q (.str r t') { s with heap := h', toks := k }) :
    wpAny (model prog w) A (subscriptTail value slice (.str x t) (.ref s.heap.objs.size)) Q E { s with heap := s.heap.push { cls := .type "slice", data := .fields #[.int i ui, .int j uj, .none] } } := by
  subst e
  exact slice_strN_ss hF hN h hs ht hsz
theorem titem {i : Int} {u : Tok} (e : Txt.item x i = r) (hr : fitsSsize i = true) (h1 : -(x.length : Int) ≤ i) (h2 : i < x.length)
    (hs : subscripted slice false (.str x t) (.int i u) = operate [.str x t, .int i u] (getItem (.str x t) (.int i u)))
    (ht : ∀ r, letTemporaryGo value (.str x t) r = pure ()) (h : Q (.str r s.toks) { s with toks := s.toks + 1 }) :
    wpAny (model prog w) A (subscriptTail value slice (.str x t) (.int i u)) Q E s := by
  subst e
  exact item_str hr h1 h2 (fun _ => h) hs ht
end
section
variable {prog : Program} {w : World} {A : Around} {E : Value → Shared → Prop} {s : Shared} {value slice : PySem.Expr} {x r : PySem.Str} {t : Tok} {Q : Value → Shared → Prop} {Q' : Bool → Shared → Prop}
theorem titem' {i i' : Int} {u : Tok} {n : Nat} {hp : Heap} {gg : Array GenState} {dd : Drawn} {tk : Nat} {oo : OsState} (hi : i = i') (e : Txt.item x i' = r) (hn : x.length = n) (h1 : -(n : Int) ≤ i') (h2 : i' < n) (hr : fitsSsize i' = true)
    (hs : subscripted slice false (.str x t) (.int i u) = operate [.str x t, .int i u] (getItem (.str x t) (.int i u)))
    (ht : ∀ r, letTemporaryGo value (.str x t) r = pure ()) (h : ∀ t' k, Q (.str r t') ⟨hp, gg, dd, k, oo⟩) :
    wpAny (model prog w) A (subscriptTail value slice (.str x t) (.int i u)) Q E ⟨hp, gg, dd, tk, oo⟩ := by
  subst hi e hn
  exact item_str hr h1 h2 (fun _ => h _ _) hs ht
theorem truF {hp : Heap} {gg : Array GenState} {dd : Drawn} {tk : Nat} {oo : OsState} (e : x.length = 0) (h : ∀ k, Q' false ⟨hp, gg, dd, k, oo⟩) : wpAny (model prog w) A (PySem.truthy (.str x t)) Q' E ⟨hp, gg, dd, tk, oo⟩ := KXt.truthy (b := false) (by rw [e]; rfl) (by omega) h
theorem truT {n : Nat} {hp : Heap} {gg : Array GenState} {dd : Drawn} {tk : Nat} {oo : OsState} (e : x.length = n + 1) (hn : n ≤ 16) (h : ∀ k, Q' true ⟨hp, gg, dd, k, oo⟩) : wpAny (model prog w) A (PySem.truthy (.str x t)) Q' E ⟨hp, gg, dd, tk, oo⟩ := KXt.truthy (b := true) (by rw [e, bne_iff_ne]; omega) (by omega) h
theorem lenS {n : Nat} {z : Int} {Q : Value → Shared → Prop} {hp : Heap} {gg : Array GenState} {dd : Drawn} {tk : Nat} {oo : OsState} (e : x.length = n) (hz : (n : Int) = z) (hn : n ≤ 16) (h : ∀ t' k, Q (.int z t') ⟨hp, gg, dd, k, oo⟩) : wpAny (model prog w) A (call (.builtin "len") [.str x t]) Q E ⟨hp, gg, dd, tk, oo⟩ := by
  subst hz e
  exact P.len_str (by omega) (h _ _)
end
section
variable {prog : Program} {w : World} {A : Around} {E : Value → Shared → Prop} {s : Shared} {h₀ : Heap} {L : Addr} {m : PySem.Str → Option Value} {news : List (Addr × Obj)} {Q : Value → Shared → Prop} {r : Addr} {a b c : Int} {t u v : Tok}
end
theorem subCost_in (x y : PySem.Str) : 0 ≤ subCost x y ∧ subCost x y ≤ 2 := by
  unfold subCost
  split
  · exact ⟨by decide, by decide⟩
  · split
    · exact ⟨by decide, by decide⟩
    · exact ⟨by decide, by decide⟩
theorem subCost_comm (x y : PySem.Str) : subCost x y = subCost y x := by
  unfold subCost
  by_cases h : x = y
  · subst h; rfl
  · have h' : ¬ y = x := fun e => h e.symm
    rw [if_neg h, if_neg h']
    by_cases g : Txt.lower x = Txt.lower y
    · have g' : Txt.lower y = Txt.lower x := g.symm
      rw [if_pos g, if_pos g']
    · have g' : ¬ Txt.lower y = Txt.lower x := fun e => g e.symm
      rw [if_neg g, if_neg g']
theorem n0e_n : Txt.slice (PySem.Str.ofString "") none none = ⟨#[]⟩ := n0_n
end Mine
end
section
open PySem PySem.W PyProof.Rows PySem.Calls PySem.Spec
set_option linter.unusedVariables false
namespace Mine
/-- small and not below nought -/
noncomputable def Sb (n : Nat) (x : Int) : Prop := 0 ≤ x ∧ x < 2 ^ n
theorem Sb.zero : Sb 0 0 := ⟨by decide, by decide⟩
theorem Sb.one : Sb 1 1 := ⟨by decide, by decide⟩
theorem Sb.mono {n m : Nat} {x : Int} (h : Sb n x) (le : n ≤ m) : Sb m x := ⟨h.1, Int.lt_of_lt_of_le h.2 (by exact_mod_cast Nat.pow_le_pow_right (n := 2) (by decide) le)⟩
theorem Sb.add {n m : Nat} {x y : Int} (hx : Sb n x) (hy : Sb m y) : Sb (max n m + 1) (x + y) := by
  have h1 := (hx.mono (Nat.le_max_left n m)).2
  have h2 := (hy.mono (Nat.le_max_right n m)).2
  refine ⟨Int.add_nonneg hx.1 hy.1, ?_⟩
  rw [Int.pow_succ, Int.mul_comm, Int.two_mul]
  exact Int.add_lt_add h1 h2
theorem Sb.shl {n k : Nat} {x : Int} (hx : Sb n x) : Sb (n + k) (x * 2 ^ k) := by
  have p : (0 : Int) < 2 ^ k := Int.pow_pos (by decide)
  refine ⟨Int.mul_nonneg hx.1 (Int.le_of_lt p), ?_⟩
  rw [Int.pow_add]
  exact Int.mul_lt_mul_of_pos_right hx.2 p
theorem Sb.sh {n : Nat} {x : Int} (hx : Sb n x) : Sb (n + 16) (x * 2 ^ (16 : Int).toNat) := hx.shl
theorem Sb.shc {n : Nat} {x c : Int} (hx : Sb n x) (hc : 0 ≤ c ∧ c ≤ 2) : Sb (n + 16) (x * 2 ^ (8 * c).toNat) := hx.shl.mono (by omega)
theorem Sb.okay {n : Nat} {x y : Int} (hx : Sb n x) (hy : y ≤ 1000) (hn : n ≤ 1000) : (Builtin.Int.intBits x : Int) + y ≤ 2 ^ 27 := Sm.shiftOk ⟨(hx.mono hn).1, (hx.mono hn).2⟩ hy
section
variable {prog : Program} {w : World} {A : Around} {E : Value → Shared → Prop} {s : Shared} {a b : Int} {t u : Tok} {Q : Value → Shared → Prop}
theorem add_lit {z : Int} (e : a + b = z) (h : Q (.int z s.toks) { s with toks := s.toks + 1 }) : wpAny (model prog w) A (binaryOp .Add (.int a t) (.int b u)) Q E s := add_int (e ▸ h)
theorem sub_lit {z : Int} (e : a - b = z) (h : Q (.int z s.toks) { s with toks := s.toks + 1 }) : wpAny (model prog w) A (binaryOp .Sub (.int a t) (.int b u)) Q E s := sub_int (e ▸ h)
end
noncomputable def pw (c : Int) : Int := 2 ^ (8 * c).toNat
noncomputable def q16 : Int := 65536
noncomputable def sum22 (p11 p12 p21 p22 : Int) : Int :=
  (65536 * 65536 * 65536 + (65536 * 65536 + 65536 * 65536 + p11) * 65536 + p12 * 65536) * 65536 + (65536 * 65536 * 65536 + (65536 * 65536 + 65536 * 65536 + p11) * 65536 + p21 * 65536) * 65536 + (65536 * 65536 + 65536 * 65536 + p11) * p22
noncomputable def sum13 (p1 p2 p3 : Int) : Int := 4 * 65536 * 65536 * 65536 * 65536 + (p1 + p2 + p3) * (65536 * 65536)
noncomputable def sum31 (p1 p2 p3 : Int) : Int := 4 * 65536 * 65536 * 65536 * 65536 + (p1 + p2 + p3) * (65536 * 65536)
end Mine
end
section
open PySem PySem.W PyProof.Rows PySem.Calls PySem.Spec PyProof.V PySem.SeqAt PyProof.Rows.LCg
set_option linter.unusedVariables false
namespace Mine
/-- one turn of a loop over a range: the iterator I lies as it lay, the rest of the ledger is told anew -/
noncomputable def RngTurn (h₀ : Heap) (L : Addr) (I : Addr) (oI : Obj) (Jn : (PySem.Str → Option Value) → List (Addr × Obj) → Prop) (Qr : Value → Shared → Prop) (s₁ : Shared) (f : Flow) (s₂ : Shared) : Prop :=
  (f = .next ∧ ∃ h' tk m' nw', s₂ = { s₁ with heap := h', toks := tk } ∧ Fr h₀ L h' m' ∧ News h₀ L h' ((I, oI) :: nw') ∧ (∀ p ∈ nw', p.1 ≠ I ∨ p.2.cls = .type "list") ∧ Jn m' nw') ∨ ∃ v, f = .ret v ∧ Qr v s₂
inductive RngFor (prog : Program) (w : World) (A : Around) (h₀ : Heap) (env : Env) (x : PySem.Str) (body : List Stmt) (Q : Flow → Shared → Prop) (E : Value → Shared → Prop) (xv : Value) (s₁ : Shared) : Prop
  | mk (r : Addr) (n : Nat) (t u v : Tok) (m : PySem.Str → Option Value) (nw : List (Addr × Obj)) (J : Nat → (PySem.Str → Option Value) → List (Addr × Obj) → Prop) (pf : xv = .ref r ∧ A.handled = none ∧ env.kindOf x = some .local ∧ (env.scope.kind == .class || (env.scope.kind == .module && env.locals != env.globals)) = false ∧
    IsRange s₁.heap r 0 n 1 t u v ∧ Builtin.Range.small 0 n 1 = true ∧ Builtin.Range.rangeSize 0 n 1 = n ∧ Fr h₀ env.locals s₁.heap m ∧ News h₀ env.locals s₁.heap nw ∧ J 0 m nw ∧
    (∀ i t m₁ nw₁ h₁ tk₁ I oI, i < n → J i m₁ nw₁ → Fr h₀ env.locals h₁ (fun z => if z = x then some (.int (i : Nat) t) else m₁ z) → News h₀ env.locals h₁ ((I, oI) :: nw₁) → (∀ p ∈ nw₁, p.1 ≠ I) →
      wpAny (model prog w) A (execs body env) (RngTurn h₀ env.locals I oI (J (i + 1)) (fun v => Q (.ret v)) { s₁ with heap := h₁, toks := tk₁ }) E { s₁ with heap := h₁, toks := tk₁ }) ∧
    ∀ h' tk m' nw', Fr h₀ env.locals h' m' → News h₀ env.locals h' nw' → J n m' nw' → Q .next { s₁ with heap := h', toks := tk })
inductive RngInv (h₀ : Heap) (env : Env) (s₁ : Shared) (I n : Nat) (J : Nat → (PySem.Str → Option Value) → List (Addr × Obj) → Prop) (k : Nat) (s' : Shared) : Prop
  | mk (h' : Heap) (tk : Nat) (m' : PySem.Str → Option Value) (nw' : List (Addr × Obj)) (i : Nat) (pf : s' = { s₁ with heap := h', toks := tk } ∧ IsRangeIter h' I ((i : Nat) : Int) ((n : Int) - (i : Nat)) 1 ∧ Fr h₀ env.locals h' m' ∧ News h₀ env.locals h' nw' ∧ (∀ p ∈ nw', p.1 ≠ I) ∧ J i m' nw' ∧ i ≤ n ∧ k = n + 1 - i)
section
variable {prog : Program} {w : World} {A : Around} {E : Value → Shared → Prop} {s : Shared} {env : Env} {h₀ : Heap} {body : List Stmt} {Q : Flow → Shared → Prop}
theorem for_rng {iter : PySem.Expr} {pos px : Pos} {x : PySem.Str}
    (h : wpAny (model prog w) A (eval iter env) (RngFor prog w A h₀ env x body Q E) E s)
    (hs : ∀ x, foldedSetIterable iter env x = pure x := by intro _; rfl)
    (hE : PassesOwn (model prog w) A env E := by passes_own) :
    wpAny (model prog w) A (exec (.For (.Name x px) iter body [] pos) env) Q E s := by
  refine wpAny_For (wpAny_mono h (fun xv s₁ h₁ => ?_) fun _ _ e => e) hs
  obtain ⟨r, n, t, u, v, m, nw, J, rfl, hh, hx, hp, hr, hsm, hrs, F, N, h0, step, hQ⟩ := h₁
  refine wpAny_pyIter_range hr hsm ?_
  generalize hI : s₁.heap.objs.size = I
  have nI : h₀.get? I = none := hI ▸ next_is_new F
  have IL : env.locals ≠ I := hI ▸ Nat.ne_of_lt F.ns.lt
  have lt : ∀ p ∈ nw, p.1 ≠ I := fun p hp => hI ▸ Nat.ne_of_lt (Heap.lt_size (N p hp).1)
  have hLn : h₀.get? env.locals = none := Heap.get?_none_of_le F.above
  have up0 : ∀ c o, s₁.heap.get? c = some o → (s₁.heap.push { cls := .type "range_iterator", data := .fields #[rawInt 0, rawInt (Builtin.Range.rangeSize 0 n 1), rawInt 1] }).get? c = some o := fun c o e => Heap.get?_push_of_some _ e
  have hit0 : IsRangeIter (s₁.heap.push { cls := .type "range_iterator", data := .fields #[rawInt 0, rawInt (Builtin.Range.rangeSize 0 n 1), rawInt 1] }) I ((0 : Nat) : Int) ((n : Int) - (0 : Nat)) 1 := by
    have e : (n : Int) - ((0 : Nat) : Int) = Builtin.Range.rangeSize 0 n 1 := by rw [hrs]; exact Int.sub_zero _
    rw [e, ← hI]
    exact Heap.get?_push_size _ rfl
  refine codeAny_forLoop_any
    (RngInv h₀ env s₁ I n J) ?_ (n + 1)
    ⟨_, _, m, nw, 0, rfl, hit0, F.keeps up0, N.grown up0, lt, h0, Nat.zero_le _, rfl⟩
  rintro k s' ⟨h', tk, m', nw', i, rfl, hit, F', N', lt', hJ, hi, rfl⟩
  by_cases hlt : i < n
  · refine wpAny_pyNext_range_item hit (Int.sub_pos_of_lt (Int.ofNat_lt.mpr (by assumption))) fun h₁ hit₁ hs₁ => ?_
    refine wpAny_of_eq (rfl : letOwnedTupleGo (.Name x px) (.ref I) _ = pure ()) ?_
    have F₁ : Fr h₀ env.locals h₁ m' := ⟨F'.ns.at' fun o e => hs₁.extBut _ o IL e, fun c o e => hs₁.extBut c o (fun q => by rw [q, nI] at e; cases e) (F'.keep c o e), F'.above⟩
    have N₁ : News h₀ env.locals h₁ nw' := fun p hp => ⟨hs₁.extBut _ _ (lt' p hp) (N' p hp).1, (N' p hp).2⟩
    refine wpAny_assign_Name (wpAny_storeName_local hx F₁.ns (fun h₂ hn₂ hs₂ => ?_) hp)
    have hs₂' : ∀ b o, b ≠ env.locals → h₁.get? b = some o → h₂.get? b = some o := fun b o q e => hs₂.extBut _ _ q e
    have F₂ : Fr h₀ env.locals h₂ (fun z => if z = x then some (.int (i : Nat) tk) else m' z) := ⟨hn₂, fun c o e => hs₂' c o (fun q => by rw [q, hLn] at e; cases e) (F₁.keep c o e), F'.above⟩
    have eI := hs₂' I _ (Ne.symm IL) hit₁
    have N₂ : News h₀ env.locals h₂ ((I, { cls := .type "range_iterator", dict := none, data := .fields #[rawInt ((i : Nat) + 1), rawInt ((n : Int) - (i : Nat) - 1), rawInt 1], slots := #[] }) :: nw') := fun p hp => by
      rcases List.mem_cons.mp hp with rfl | hp
      · exact ⟨eI, Ne.symm IL, nI⟩
      · exact ⟨hs₂' _ _ (N₁ p hp).2.1 (N₁ p hp).1, (N₁ p hp).2⟩
    refine wpAny_passesOwn hE (wpAny_mono (step i tk m' nw' h₂ _ I _ hlt hJ F₂ N₂ lt') (fun f s₃ h₃ => ?_) fun _ _ e => e)
    rcases h₃ with ⟨rfl, h₃, tk₃, m₃, nw₃, rfl, F₃, N₃, lt₃, J₃⟩ | ⟨v, rfl, h₃⟩
    · refine ⟨n + 1 - (i + 1), turn_lt (by assumption), h₃, tk₃, m₃, nw₃, i + 1, rfl, ?_, F₃, fun p hp => N₃ p (.tail _ hp), fun p hp => ?_, J₃, hlt, rfl⟩
      · have := (N₃ _ (.head _)).1
        have e1 : ((i + 1 : Nat) : Int) = ((i : Nat) : Int) + 1 := rfl
        have e2 : (n : Int) - (((i : Nat) : Int) + 1) = (n : Int) - (i : Nat) - 1 := by omega
        rw [e1, e2]
        exact this
      · rcases lt₃ p hp with q | q
        · exact q
        · intro e
          have e1 := (N₃ p (.tail _ hp)).1
          have e2 := (N₃ _ (.head _)).1
          rw [e] at e1
          rw [e1] at e2
          rw [Option.some.inj e2] at q
          simp at q
    · exact h₃
  · have hin : i = n := Nat.le_antisymm hi (Nat.not_lt.mp hlt)
    subst hin
    refine wpAny_pyNext_range_end hh hit (by omega) fun h₁ he₁ => wpAny_execs_nil ?_
    exact hQ h₁ _ m' nw' ⟨F'.ns.at' fun o e => he₁ _ o IL e, fun c o e => he₁ c o (fun q => by rw [q, nI] at e; cases e) (F'.keep c o e), F'.above⟩ (fun p hp => ⟨he₁ _ _ (lt' p hp) (N' p hp).1, (N' p hp).2⟩) hJ
end
end Mine
end
section
open PySem PySem.W PyProof.Rows PySem.Calls PySem.Spec
set_option maxRecDepth 100000
set_option maxHeartbeats 8000000
set_option linter.unusedVariables false
set_option linter.unusedSimpArgs false
namespace Mine
section
variable (w : World) (mean : ExcName → Option Value) (mg mb : PySem.Str → Option Value)

noncomputable def rowZ : Nat → Int
  | 0 => 1
  | j + 1 => 0 + rowZ j * 2 ^ (16 : Int).toNat
noncomputable def rowN (p ci : Nat → Int) : Nat → Int
  | 0 => 0 + p 0 * 2 ^ (16 : Int).toNat
  | j + 1 => 0 + p (j + 1) * 2 ^ (16 : Int).toNat + rowN p ci j * 2 ^ (16 : Int).toNat + p j * 2 ^ (8 * ci j).toNat
noncomputable def cellT (c : Nat → Nat → Int) : Nat → Nat → Int
  | 0 => rowZ
  | i + 1 => rowN (cellT c i) (c i)
theorem cellT_00 (c : Nat → Nat → Int) : cellT c 0 0 = 1 := rfl
theorem cellT_0s (c : Nat → Nat → Int) (j : Nat) : cellT c 0 (j + 1) = 0 + cellT c 0 j * 2 ^ (16 : Int).toNat := rfl
theorem cellT_s0 (c : Nat → Nat → Int) (i : Nat) : cellT c (i + 1) 0 = 0 + cellT c i 0 * 2 ^ (16 : Int).toNat := rfl
theorem cellT_ss (c : Nat → Nat → Int) (i j : Nat) : cellT c (i + 1) (j + 1) = 0 + cellT c i (j + 1) * 2 ^ (16 : Int).toNat + cellT c (i + 1) j * 2 ^ (16 : Int).toNat + cellT c i j * 2 ^ (8 * c i j).toNat := rfl
theorem Sb.add1 {n : Nat} {x y : Int} (hx : Sb n x) (hy : Sb n y) : Sb (n + 1) (x + y) := by
  have h1 := hx.2
  have h2 := hy.2
  refine ⟨Int.add_nonneg hx.1 hy.1, ?_⟩
  rw [Int.pow_succ, Int.mul_comm, Int.two_mul]
  exact Int.add_lt_add h1 h2
theorem cellT_sb (c : Nat → Nat → Int) (hc : ∀ i j, 0 ≤ c i j ∧ c i j ≤ 2) : ∀ n i j, i + j = n → Sb (20 * n + 1) (cellT c i j) := by
  suffices H : ∀ i j, Sb (20 * (i + j) + 1) (cellT c i j) from fun n i j e => e ▸ H i j
  have s1 : ∀ x, 20 * x + 1 + 16 ≤ 20 * (x + 1) + 1 := fun x => by omega
  have s2 : ∀ x, 20 * x + 1 + 16 ≤ 20 * (x + 1) + 1 + 16 := fun x => Nat.add_le_add_right (Nat.add_le_add_right (Nat.mul_le_mul_left 20 (Nat.le_succ x)) 1) 16
  have s3 : ∀ x, 20 * (x + 1) + 1 + 16 + 1 + 1 ≤ 20 * (x + 1 + 1) + 1 := fun x => by omega
  intro i
  induction i with
  | zero =>
    intro j
    induction j with
    | zero => rw [cellT_00]; exact Sb.one
    | succ j ih => rw [cellT_0s, Int.zero_add]; exact ih.sh.mono (s1 _)
  | succ i ihi =>
    intro j
    induction j with
    | zero => rw [cellT_s0, Int.zero_add]; exact (ihi 0).sh.mono (s1 _)
    | succ j ihj =>
      rw [cellT_ss, Int.zero_add]
      rw [Nat.add_right_comm i 1 j] at ihj
      rw [Nat.add_right_comm i 1 (j + 1)]
      exact ((((ihi (j + 1)).sh).add1 ihj.sh).add1 (((ihi j).shc (hc i j)).mono (Nat.le_succ_of_le (s2 (i + j))))).mono (s3 _)
noncomputable def rowT (c : Nat → Nat → Int) (i k : Nat) : List Int := (List.range k).map (cellT c i)
theorem rowT_succ (c : Nat → Nat → Int) (i k : Nat) : rowT c i (k + 1) = rowT c i k ++ [cellT c i k] := by
  unfold rowT; rw [List.range_succ, List.map_append]; rfl
theorem rowT_get (c : Nat → Nat → Int) (i k j : Nat) (h : j < k) : (rowT c i k)[j]? = some (cellT c i j) := by
  unfold rowT
  rw [List.getElem?_map, List.getElem?_range h]
  rfl
section
variable {prog : Program} {A : Around} {E : Value → Shared → Prop} {s : Shared} {h₀ : Heap} {L l : Addr} {news : List (Addr × Obj)} {value slice : PySem.Expr} {u : Tok} {Q : Value → Shared → Prop}
theorem it_neg1 {vs : List Value} {v : Value} {n : Nat} (N : News h₀ L s.heap news) (hm : (l, listOf (vs ++ [v]).toArray n) ∈ news)
    (hs : subscripted slice false (.ref l) (.int (-1) u) = operate [.ref l, .int (-1) u] (getItem (.ref l) (.int (-1) u))) (h : Q v s) : wpAny (model prog w) A (subscriptTail value slice (.ref l) (.int (-1) u)) Q E s :=
  kde_neg (vs := vs ++ [v]) (j := vs.length) ⟨_, (N _ hm).1, rfl, n, rfl⟩ (by decide) (by decide) (by unfold seqIndex?; simp; exact neg_ix (by omega) (by omega)) (by simp) h hs
theorem it_neg1b {vs : List Value} {v v' : Value} {n : Nat} (N : News h₀ L s.heap news) (hm : (l, listOf (vs ++ [v', v]).toArray n) ∈ news)
    (hs : subscripted slice false (.ref l) (.int (-1) u) = operate [.ref l, .int (-1) u] (getItem (.ref l) (.int (-1) u))) (h : Q v s) : wpAny (model prog w) A (subscriptTail value slice (.ref l) (.int (-1) u)) Q E s :=
  kde_neg (vs := vs ++ [v', v]) (j := vs.length + 1) ⟨_, (N _ hm).1, rfl, n, rfl⟩ (by decide) (by decide) (by unfold seqIndex?; simp; exact neg_ix (by omega) (by omega)) (by simp) h hs
theorem truthy_nz {a : Int} {t : Tok} {Q : Bool → Shared → Prop} (ha : a ≠ 0) (h : Q true s) : wpAny (model prog w) A (PySem.truthy (.int a t)) Q E s := truthy_int (by rw [show (a != 0) = true from bne_iff_ne.mpr ha]; exact h)
theorem it_neg2 {vs : List Value} {v v' : Value} {n : Nat} (N : News h₀ L s.heap news) (hm : (l, listOf (vs ++ [v, v']).toArray n) ∈ news)
    (hs : subscripted slice false (.ref l) (.int (-2) u) = operate [.ref l, .int (-2) u] (getItem (.ref l) (.int (-2) u))) (h : Q v s) : wpAny (model prog w) A (subscriptTail value slice (.ref l) (.int (-2) u)) Q E s :=
  kde_neg (vs := vs ++ [v, v']) (j := vs.length) ⟨_, (N _ hm).1, rfl, n, rfl⟩ (by decide) (by decide) (by unfold seqIndex?; simp; exact neg_ix (by omega) (by omega)) (by simp) h hs
theorem it_last {c : Nat → Nat → Int} {i k : Nat} {vs : List Value} {n : Nat} (N : News h₀ L s.heap news) (hm : (l, listOf vs.toArray n) ∈ news) (hi : IntsAre vs (rowT c i (k + 1)))
    (hs : subscripted slice false (.ref l) (.int (-1) u) = operate [.ref l, .int (-1) u] (getItem (.ref l) (.int (-1) u))) (h : ∀ t, Q (.int (cellT c i k) t) s) : wpAny (model prog w) A (subscriptTail value slice (.ref l) (.int (-1) u)) Q E s := by
  obtain ⟨t, ht⟩ := hi.get k _ (rowT_get c i (k + 1) k (Nat.lt_succ_self k))
  have hl : vs.length = k + 1 := by rw [hi.length]; unfold rowT; simp
  exact kde_neg (vs := vs) (j := k) ⟨_, (N _ hm).1, rfl, n, rfl⟩ (by decide) (by decide) (by unfold seqIndex?; simp [hl]; exact neg_ix (by omega) (by omega)) ht (h t) hs
theorem it_row {c : Nat → Nat → Int} {i k j : Nat} {vs : List Value} {n : Nat} (N : News h₀ L s.heap news) (hm : (l, listOf vs.toArray n) ∈ news) (hi : IntsAre vs (rowT c i k)) (hj : j < k ∧ k < 10)
    (hs : subscripted slice false (.ref l) (.int (j : Nat) u) = operate [.ref l, .int (j : Nat) u] (getItem (.ref l) (.int (j : Nat) u))) (h : ∀ t, Q (.int (cellT c i j) t) s) : wpAny (model prog w) A (subscriptTail value slice (.ref l) (.int (j : Nat) u)) Q E s := by
  obtain ⟨t, ht⟩ := hi.get j _ (rowT_get c i k j hj.1)
  exact item_listR (items := vs.toArray) ⟨_, (N _ hm).1, rfl, n, rfl⟩ (by omega) (by omega) (by simpa using ht) (h t) hs
theorem it_row0 {c : Nat → Nat → Int} {i k : Nat} {vs : List Value} {n : Nat} (N : News h₀ L s.heap news) (hm : (l, listOf vs.toArray n) ∈ news) (hi : IntsAre vs (rowT c i k)) (hj : 0 < k ∧ k < 10)
    (hs : subscripted slice false (.ref l) (.int 0 u) = operate [.ref l, .int 0 u] (getItem (.ref l) (.int 0 u))) (h : ∀ t, Q (.int (cellT c i 0) t) s) : wpAny (model prog w) A (subscriptTail value slice (.ref l) (.int 0 u)) Q E s := it_row w (j := 0) N hm hi hj hs h
theorem it_pred {c : Nat → Nat → Int} {i k j : Nat} {vs : List Value} {n : Nat} (N : News h₀ L s.heap news) (hm : (l, listOf vs.toArray n) ∈ news) (hi : IntsAre vs (rowT c i k)) (hj : j < k ∧ k < 10)
    (hs : subscripted slice false (.ref l) (.int (((j + 1 : Nat) : Int) - 1) u) = operate [.ref l, .int (((j + 1 : Nat) : Int) - 1) u] (getItem (.ref l) (.int (((j + 1 : Nat) : Int) - 1) u))) (h : ∀ t, Q (.int (cellT c i j) t) s) : wpAny (model prog w) A (subscriptTail value slice (.ref l) (.int (((j + 1 : Nat) : Int) - 1) u)) Q E s := by
  have e : ((j + 1 : Nat) : Int) - 1 = (j : Nat) := by omega
  rw [e] at hs ⊢
  exact it_row w N hm hi hj hs h
theorem st_pred {xs : List Nat} {i : Nat} {t : Tok} {hp : Heap} {gg : Array GenState} {dd : Drawn} {tk : Nat} {oo : OsState} (hi : i < xs.length) (h3 : xs.length ≤ 3)
    (hs : subscripted slice false (.str ⟨xs.toArray⟩ t) (.int (((i + 1 : Nat) : Int) - 1) u) = operate [.str ⟨xs.toArray⟩ t, .int (((i + 1 : Nat) : Int) - 1) u] (getItem (.str ⟨xs.toArray⟩ t) (.int (((i + 1 : Nat) : Int) - 1) u)))
    (ht : ∀ r, letTemporaryGo value (.str ⟨xs.toArray⟩ t) r = pure ()) (h : ∀ t' k, Q (.str ⟨#[xs.getD i 0]⟩ t') ⟨hp, gg, dd, k, oo⟩) :
    wpAny (model prog w) A (subscriptTail value slice (.str ⟨xs.toArray⟩ t) (.int (((i + 1 : Nat) : Int) - 1) u)) Q E ⟨hp, gg, dd, tk, oo⟩ := by
  refine titem' (i' := (i : Nat)) (by omega) (item_meets (n := xs.getD i 0) (by omega) ?_) rfl ?_ ?_ ?_ hs ht h
  · show xs.toArray[i]? = _
    simp [List.getD, hi]
  · rw [fact_mk]; omega
  · rw [fact_mk]; omega
  · unfold fitsSsize
    simp
    omega
end
theorem rowT_push {c : Nat → Nat → Int} {i j : Nat} {cv : List Value} {W : Int} {t : Tok} (h : IntsAre cv (rowT c i j)) (e : W = cellT c i j) : IntsAre (cv ++ [.int W t]) (rowT c i (j + 1)) := by
  rw [rowT_succ, e]
  exact isn h
inductive SmO (xs ys : List Nat) (tx ty : Tok) (Tb : Addr) (c : Nat → Nat → Int) (i : Nat) (m : PySem.Str → Option Value) (nx : List (Addr × Obj)) : Prop
  | zero (olds : List Value) (n : Nat) (K : Knows m [("table", .ref Tb), ("one", .str ⟨xs.toArray⟩ tx), ("two", .str ⟨ys.toArray⟩ ty)]) (e : i = 0) (l : olds.length = 0) (h : nx = [(Tb, listOf olds.toArray n)])
  | succ (i' : Nat) (olds : List Value) (P : Addr) (pv : List Value) (n n' : Nat) (K : Knows m [("table", .ref Tb), ("one", .str ⟨xs.toArray⟩ tx), ("two", .str ⟨ys.toArray⟩ ty)]) (e : i = i' + 1) (l : olds.length = i') (q : @Ne Nat P Tb) (h : nx = [(Tb, listOf (olds ++ [Value.ref P]).toArray n), (P, listOf pv.toArray n')]) (hi : IntsAre pv (rowT c i' (ys.length + 1)))
theorem SmO.know {xs ys : List Nat} {tx ty : Tok} {Tb : Addr} {c : Nat → Nat → Int} {i : Nat} {m : PySem.Str → Option Value} {nx : List (Addr × Obj)} : SmO xs ys tx ty Tb c i m nx → Knows m [("table", .ref Tb), ("one", .str ⟨xs.toArray⟩ tx), ("two", .str ⟨ys.toArray⟩ ty)]
  | .zero _ _ K .. => K
  | .succ _ _ _ _ _ _ K .. => K
inductive SmI (xs ys : List Nat) (tx ty td : Tok) (Tb C : Addr) (c : Nat → Nat → Int) (i : Nat) (l : List Value → Nat → Nat → List (Addr × Obj)) (j : Nat) (m : PySem.Str → Option Value) (nx : List (Addr × Obj)) : Prop
  | mk (cv : List Value) (nc nt : Nat) (K : Knows m [("down", .int (i : Nat) td), ("table", .ref Tb), ("one", .str ⟨xs.toArray⟩ tx), ("two", .str ⟨ys.toArray⟩ ty)]) (h : nx = l cv nc nt) (hi : IntsAre cv (rowT c i j))
theorem rng_small : ∀ n : Nat, n ≤ 4 → Builtin.Range.small 0 n 1 = true ∧ Builtin.Range.rangeSize 0 n 1 = n := by
  intro n hn
  rcases le4 hn with rfl | rfl | rfl | rfl | rfl <;> decide
theorem rng_end {h₀ h' : Heap} {L I : Addr} {oI : Obj} {Jn : (PySem.Str → Option Value) → List (Addr × Obj) → Prop} {Qr : Value → Shared → Prop} {s₁ : Shared} {tk : Nat} {m' : PySem.Str → Option Value} {all : List (Addr × Obj)} (F : Fr h₀ L h' m') (N : News h₀ L h' all) (nw' : List (Addr × Obj)) (sub : ∀ p ∈ (I, oI) :: nw', p ∈ all) (off : ∀ p ∈ nw', p.1 ≠ I ∨ p.2.cls = .type "list") (hj : Jn m' nw') :
    RngTurn h₀ L I oI Jn Qr s₁ .next { s₁ with heap := h', toks := tk } := .inl ⟨rfl, h', tk, m', nw', rfl, F, fun p hp => N p (sub p hp), off, hj⟩
end
end Mine
end
section
open PySem PySem.W PyProof.Rows PySem.Calls PySem.Spec
set_option maxRecDepth 100000
set_option maxHeartbeats 8000000
set_option linter.unusedVariables false
set_option linter.unusedSimpArgs false
namespace Mine
local macro_rules | `(tactic| walk_at "exec For Name Call cons nil") => `(tactic| (refine hold ?_))
local macro_rules | `(tactic| walk_at "call builtin:len") => `(tactic| (refine hold ?_))
local macro_rules | `(tactic| walk_at "subscriptTail Name UnaryOp ref int") => `(tactic| (refine hold ?_))
local macro_rules | `(tactic| walk_at "subscriptTail") => `(tactic| (refine hold ?_))
local macro_rules | `(tactic| walk_at "subscriptTail Name BinOp str int") => `(tactic| (refine hold ?_))
local macro_rules | `(tactic| kln_le) => `(tactic| exact Nat.le_of_ble_eq_true rfl)
local macro_rules | `(tactic| walk_at "truthy int") => `(tactic| (refine truthy_nz _ (by with_reducible assumption) ?_))
local macro_rules | `(tactic| walk_at "call ref") => `(tactic| (refine hold ?_))
section
variable (w : World) (mean : ExcName → Option Value) (mg mb : PySem.Str → Option Value)
theorem sumsC (xs ys : List Nat) (hx : xs.length ≤ 3) (hy : ys.length ≤ 3) (tx ty : Tok) :
    Clm w mean mg mb 106 3 [Value.str ⟨xs.toArray⟩ tx, Value.str ⟨ys.toArray⟩ ty] Any (Gives (cellT (fun i j => subCost ⟨#[xs.getD i 0]⟩ ⟨#[ys.getD j 0]⟩) xs.length ys.length)) := by
  have hcb : ∀ i j, 0 ≤ subCost ⟨#[xs.getD i 0]⟩ ⟨#[ys.getD j 0]⟩ ∧ subCost ⟨#[xs.getD i 0]⟩ ⟨#[ys.getD j 0]⟩ ≤ 2 := fun i j => subCost_in _ _
  unfold Clm
  w_top off
  k_fill
  intro dp un gd cn cs a ccd cl outer A₀ base h₀ L m s Q E B F X N T hk hd hu pre hret
  refine wpAny_call ?_
  k_dflt cell_enter
  rename_i g1 L1 h1 FG1 F0 N0 B1 X1 T1 G1
  refine gE (by passes_own) fun E' pe => ?_
  refine gQ fun Q' hQ => ?_
  (k_steps; repeat' (((with_reducible refine held ?_); first | ((k_here; (with_reducible show wpAny _ _ (call (Value.ref 56) _) _ _ _); k_dflt (refine' Clm.use_int (lshC _ _ _ _ _ _ _ _ ?c1 ?c2) ?k1 ?k2 ?k3 ?k4 ?k5 ?kK ?kd ?ku ?kp ?_; (case k1 => k_asm); (case k2 => k_asm); (case k3 => k_asm); (case k4 => k_asm); (case k5 => k_asm); (case kp => exact trivial); (case c1 => first | decide | omega); (case c2 => with_reducible assumption); (case kK => first | exact rfl | assumption); (case kd => ktr_room); (case ku => ktr_units); intro _ _ _ _ _ _; (try dsimp only); (try k_fold); (try k_sweep)))) | ((k_here; (with_reducible show wpAny _ _ (call (Value.ref 63) _ _) _ _ _); k_dflt (refine' Clm.use_int (mulC _ _ _ _ _ _ _ _ ?c1) ?k1 ?k2 ?k3 ?k4 ?k5 ?kK ?kd ?ku ?kp ?_; (case k1 => k_asm); (case k2 => k_asm); (case k3 => k_asm); (case k4 => k_asm); (case k5 => k_asm); (case kp => exact trivial); (case c1 => first | assumption | mul_fits); (case kK => first | exact rfl | assumption); (case kd => ktr_room); (case ku => ktr_units); intro _ _ _ _ _ _; (try dsimp only); (try k_fold); (try k_sweep)))) | ((k_here; (with_reducible show wpAny _ _ (call (Value.ref 42) _ _) _ _ _); k_dflt (refine' Clm.use_int (addC _ _ _ _ _ _ _ _) ?k1 ?k2 ?k3 ?k4 ?k5 ?kK ?kd ?ku ?kp ?_; (case k1 => k_asm); (case k2 => k_asm); (case k3 => k_asm); (case k4 => k_asm); (case k5 => k_asm); (case kp => exact trivial); (case kK => first | exact rfl | assumption); (case kd => ktr_room); (case ku => ktr_units); intro _ _ _ _ _ _; (try dsimp only); (try k_fold); (try k_sweep)))) | ((k_here; (with_reducible show wpAny _ _ (call (Value.ref 21) _ _) _ _ _); k_dflt (refine' Clm.use_int (subC _ _ _ _ _ _ _ _ ?c1 ?c2) ?k1 ?k2 ?k3 ?k4 ?k5 ?kK ?kd ?ku ?kp ?_; (case k1 => k_asm); (case k2 => k_asm); (case k3 => k_asm); (case k4 => k_asm); (case k5 => k_asm); (case kp => exact trivial); (case c1 => kln_le); (case c2 => kln_le); (case kK => first | exact rfl | assumption); (case kd => ktr_room); (case ku => ktr_units); intro _ _ _ _ _ _; (try dsimp only); (try k_fold); (try k_sweep)))) | ((k_here; (with_reducible show wpAny _ _ (call (Value.builtin _) [Value.str _ _]) _ _ _); k_dflt (refine' lenS (fact_mk _) rfl ?yn ?_; (case yn => omega)); intro _ _; (try dsimp only))) | (((with_reducible show wpAny _ _ (subscriptTail (Expr.Name _ _) (Expr.UnaryOp _ _ _) (Value.ref _) (Value.int _ _)) _ _ _); (k_here; (with_reducible rename News _ _ _ _ => sN'); (with_reducible show wpAny _ _ (subscriptTail _ _ _ (Value.int (-2) _)) _ _ _); k_dflt (refine' it_neg2 _ sN' ?ym ?ys ?_; (case ym => k_mem); (case ys => with_unfolding_all rfl))))) | (((with_reducible show wpAny _ _ (subscriptTail (Expr.Name _ _) (Expr.UnaryOp _ _ _) (Value.ref _) (Value.int _ _)) _ _ _); (k_here; (with_reducible rename News _ _ _ _ => sN'); (with_reducible show wpAny _ _ (subscriptTail _ _ _ (Value.int (-1) _)) _ _ _); k_dflt (first | (refine' it_neg1 _ sN' ?ym ?ys ?_; (case ym => k_mem); (case ys => with_unfolding_all rfl)) | (refine' it_neg1b _ sN' ?ym ?ys ?_; (case ym => k_mem); (case ys => with_unfolding_all rfl)))))) | ((k_here; (with_reducible show wpAny _ _ (subscriptTail (Expr.Subscript _ _ _) (Expr.BinOp _ _ _ _) (Value.ref _) (Value.int _ _)) _ _ _); (with_reducible rename News _ _ _ _ => sN'); k_dflt (refine' it_pred _ sN' ?ym ?yi ?yk ?ys ?_; (case ym => k_mem); (case yi => assumption); (case yk => omega); (case ys => with_unfolding_all rfl)); intro _; (try dsimp only))) | ((k_here; (with_reducible show wpAny _ _ (subscriptTail (Expr.Subscript _ _ _) (Expr.Name _ _) (Value.ref _) (Value.int 0 _)) _ _ _); (with_reducible rename News _ _ _ _ => sN'); k_dflt (refine' it_row0 _ sN' ?ym ?yi ?yk ?ys ?_; (case ym => k_mem); (case yi => assumption); (case yk => omega); (case ys => with_unfolding_all rfl)); intro _; (try dsimp only))) | ((k_here; (with_reducible show wpAny _ _ (subscriptTail (Expr.Subscript _ _ _) (Expr.Name _ _) (Value.ref _) (Value.int _ _)) _ _ _); (with_reducible rename News _ _ _ _ => sN'); k_dflt (refine' it_row _ sN' ?ym ?yi ?yk ?ys ?_; (case ym => k_mem); (case yi => assumption); (case yk => omega); (case ys => with_unfolding_all rfl)); intro _; (try dsimp only))) | ((k_here; (with_reducible show wpAny _ _ (subscriptTail (Expr.Subscript _ _ _) (Expr.UnaryOp _ _ _) (Value.ref _) (Value.int _ _)) _ _ _); (with_reducible rename News _ _ _ _ => sN'); k_dflt (refine' it_last _ sN' ?ym ?yi ?ys ?_; (case ym => k_mem); (case yi => assumption); (case ys => with_unfolding_all rfl)); intro _; (try dsimp only))) | (((with_reducible show wpAny _ _ (subscriptTail (Expr.Name _ _) (Expr.BinOp _ _ _ _) (Value.str _ _) (Value.int _ _)) _ _ _); (k_here; k_dflt (refine' st_pred _ ?yk ?y3 ?ys ?yt ?_; (case yk => omega); (case y3 => omega); (case ys => with_unfolding_all rfl); (case yt => intro _; with_unfolding_all rfl)); intro _ _; (try dsimp only))))); k_steps))
  rename_i Tb h2 l1 h3 F3 N3
  unfold Hold
  generalize hc : (fun i j => subCost ⟨#[xs.getD i 0]⟩ ⟨#[ys.getD j 0]⟩) = c at hret
  have hcc : ∀ i j, subCost ⟨#[xs.getD i 0]⟩ ⟨#[ys.getD j 0]⟩ = c i j := fun i j => by rw [← hc]
  have hcI : ∀ i j, 0 ≤ c i j ∧ c i j ≤ 2 := fun i j => hcc i j ▸ hcb i j
  have sbb : ∀ i j, i + j ≤ 6 → Sb 121 (cellT c i j) := fun i j hij => (cellT_sb c hcI _ i j rfl).mono (by omega)
  clear hc
  refine for_rng (h₀ := g1) ?_
  (k_steps; repeat' (((with_reducible refine held ?_); first | ((k_here; (with_reducible show wpAny _ _ (call (Value.ref 56) _) _ _ _); k_dflt (refine' Clm.use_int (lshC _ _ _ _ _ _ _ _ ?c1 ?c2) ?k1 ?k2 ?k3 ?k4 ?k5 ?kK ?kd ?ku ?kp ?_; (case k1 => k_asm); (case k2 => k_asm); (case k3 => k_asm); (case k4 => k_asm); (case k5 => k_asm); (case kp => exact trivial); (case c1 => first | decide | omega); (case c2 => with_reducible assumption); (case kK => first | exact rfl | assumption); (case kd => ktr_room); (case ku => ktr_units); intro _ _ _ _ _ _; (try dsimp only); (try k_fold); (try k_sweep)))) | ((k_here; (with_reducible show wpAny _ _ (call (Value.ref 63) _ _) _ _ _); k_dflt (refine' Clm.use_int (mulC _ _ _ _ _ _ _ _ ?c1) ?k1 ?k2 ?k3 ?k4 ?k5 ?kK ?kd ?ku ?kp ?_; (case k1 => k_asm); (case k2 => k_asm); (case k3 => k_asm); (case k4 => k_asm); (case k5 => k_asm); (case kp => exact trivial); (case c1 => first | assumption | mul_fits); (case kK => first | exact rfl | assumption); (case kd => ktr_room); (case ku => ktr_units); intro _ _ _ _ _ _; (try dsimp only); (try k_fold); (try k_sweep)))) | ((k_here; (with_reducible show wpAny _ _ (call (Value.ref 42) _ _) _ _ _); k_dflt (refine' Clm.use_int (addC _ _ _ _ _ _ _ _) ?k1 ?k2 ?k3 ?k4 ?k5 ?kK ?kd ?ku ?kp ?_; (case k1 => k_asm); (case k2 => k_asm); (case k3 => k_asm); (case k4 => k_asm); (case k5 => k_asm); (case kp => exact trivial); (case kK => first | exact rfl | assumption); (case kd => ktr_room); (case ku => ktr_units); intro _ _ _ _ _ _; (try dsimp only); (try k_fold); (try k_sweep)))) | ((k_here; (with_reducible show wpAny _ _ (call (Value.ref 21) _ _) _ _ _); k_dflt (refine' Clm.use_int (subC _ _ _ _ _ _ _ _ ?c1 ?c2) ?k1 ?k2 ?k3 ?k4 ?k5 ?kK ?kd ?ku ?kp ?_; (case k1 => k_asm); (case k2 => k_asm); (case k3 => k_asm); (case k4 => k_asm); (case k5 => k_asm); (case kp => exact trivial); (case c1 => kln_le); (case c2 => kln_le); (case kK => first | exact rfl | assumption); (case kd => ktr_room); (case ku => ktr_units); intro _ _ _ _ _ _; (try dsimp only); (try k_fold); (try k_sweep)))) | ((k_here; (with_reducible show wpAny _ _ (call (Value.builtin _) [Value.str _ _]) _ _ _); k_dflt (refine' lenS (fact_mk _) rfl ?yn ?_; (case yn => omega)); intro _ _; (try dsimp only))) | (((with_reducible show wpAny _ _ (subscriptTail (Expr.Name _ _) (Expr.UnaryOp _ _ _) (Value.ref _) (Value.int _ _)) _ _ _); (k_here; (with_reducible rename News _ _ _ _ => sN'); (with_reducible show wpAny _ _ (subscriptTail _ _ _ (Value.int (-2) _)) _ _ _); k_dflt (refine' it_neg2 _ sN' ?ym ?ys ?_; (case ym => k_mem); (case ys => with_unfolding_all rfl))))) | (((with_reducible show wpAny _ _ (subscriptTail (Expr.Name _ _) (Expr.UnaryOp _ _ _) (Value.ref _) (Value.int _ _)) _ _ _); (k_here; (with_reducible rename News _ _ _ _ => sN'); (with_reducible show wpAny _ _ (subscriptTail _ _ _ (Value.int (-1) _)) _ _ _); k_dflt (first | (refine' it_neg1 _ sN' ?ym ?ys ?_; (case ym => k_mem); (case ys => with_unfolding_all rfl)) | (refine' it_neg1b _ sN' ?ym ?ys ?_; (case ym => k_mem); (case ys => with_unfolding_all rfl)))))) | ((k_here; (with_reducible show wpAny _ _ (subscriptTail (Expr.Subscript _ _ _) (Expr.BinOp _ _ _ _) (Value.ref _) (Value.int _ _)) _ _ _); (with_reducible rename News _ _ _ _ => sN'); k_dflt (refine' it_pred _ sN' ?ym ?yi ?yk ?ys ?_; (case ym => k_mem); (case yi => assumption); (case yk => omega); (case ys => with_unfolding_all rfl)); intro _; (try dsimp only))) | ((k_here; (with_reducible show wpAny _ _ (subscriptTail (Expr.Subscript _ _ _) (Expr.Name _ _) (Value.ref _) (Value.int 0 _)) _ _ _); (with_reducible rename News _ _ _ _ => sN'); k_dflt (refine' it_row0 _ sN' ?ym ?yi ?yk ?ys ?_; (case ym => k_mem); (case yi => assumption); (case yk => omega); (case ys => with_unfolding_all rfl)); intro _; (try dsimp only))) | ((k_here; (with_reducible show wpAny _ _ (subscriptTail (Expr.Subscript _ _ _) (Expr.Name _ _) (Value.ref _) (Value.int _ _)) _ _ _); (with_reducible rename News _ _ _ _ => sN'); k_dflt (refine' it_row _ sN' ?ym ?yi ?yk ?ys ?_; (case ym => k_mem); (case yi => assumption); (case yk => omega); (case ys => with_unfolding_all rfl)); intro _; (try dsimp only))) | ((k_here; (with_reducible show wpAny _ _ (subscriptTail (Expr.Subscript _ _ _) (Expr.UnaryOp _ _ _) (Value.ref _) (Value.int _ _)) _ _ _); (with_reducible rename News _ _ _ _ => sN'); k_dflt (refine' it_last _ sN' ?ym ?yi ?ys ?_; (case ym => k_mem); (case yi => assumption); (case ys => with_unfolding_all rfl)); intro _; (try dsimp only))) | (((with_reducible show wpAny _ _ (subscriptTail (Expr.Name _ _) (Expr.BinOp _ _ _ _) (Value.str _ _) (Value.int _ _)) _ _ _); (k_here; k_dflt (refine' st_pred _ ?yk ?y3 ?ys ?yt ?_; (case yk => omega); (case y3 => omega); (case ys => with_unfolding_all rfl); (case yt => intro _; with_unfolding_all rfl)); intro _ _; (try dsimp only))))); k_steps))
  rename IsRange _ _ _ _ _ _ _ _ => rgX
  refine ⟨_, xs.length + 1, _, _, _, _, _, SmO xs ys tx ty Tb c, rfl, rfl, rfl, rfl, rgX, (rng_small _ (by omega)).1, (rng_small _ (by omega)).2, by k_asm, by k_asm, SmO.zero [] _ ⟨rfl, rfl, rfl, trivial⟩ rfl rfl rfl, ?turn, ?done⟩
  case turn =>
    try clear rgX
    try clear F3
    try clear N3
    rintro i td m1 nx h4 tk4 I oI hi hor F4 N4 hoff
    have hK := hor.know
    replace F4 := know F4 (l := [("down", .int (i : Nat) td), ("table", .ref Tb), ("one", .str ⟨xs.toArray⟩ tx), ("two", .str ⟨ys.toArray⟩ ty)]) ⟨rfl, hK.1, hK.2.1, hK.2.2.1, trivial⟩
    refine gQ fun Q1 hQ1 => ?_
    rcases hor with ⟨olds, n, -, rfl, hol, rfl⟩ | ⟨i', olds, P, pv, n, n', -, rfl, hol, q3, rfl, hpv⟩
    · replace F4 : Fr g1 L1 h4 (told [("down", .int 0 td), ("table", .ref Tb), ("one", .str ⟨xs.toArray⟩ tx), ("two", .str ⟨ys.toArray⟩ ty)] _) := F4
      have q1 : @Ne Nat Tb I := hoff _ (.head _)
      have q1' : @Ne Nat I Tb := q1.symm
      (k_steps; repeat' (((with_reducible refine held ?_); first | ((k_here; (with_reducible show wpAny _ _ (call (Value.ref 56) _) _ _ _); k_dflt (refine' Clm.use_int (lshC _ _ _ _ _ _ _ _ ?c1 ?c2) ?k1 ?k2 ?k3 ?k4 ?k5 ?kK ?kd ?ku ?kp ?_; (case k1 => k_asm); (case k2 => k_asm); (case k3 => k_asm); (case k4 => k_asm); (case k5 => k_asm); (case kp => exact trivial); (case c1 => first | decide | omega); (case c2 => with_reducible assumption); (case kK => first | exact rfl | assumption); (case kd => ktr_room); (case ku => ktr_units); intro _ _ _ _ _ _; (try dsimp only); (try k_fold); (try k_sweep)))) | ((k_here; (with_reducible show wpAny _ _ (call (Value.ref 63) _ _) _ _ _); k_dflt (refine' Clm.use_int (mulC _ _ _ _ _ _ _ _ ?c1) ?k1 ?k2 ?k3 ?k4 ?k5 ?kK ?kd ?ku ?kp ?_; (case k1 => k_asm); (case k2 => k_asm); (case k3 => k_asm); (case k4 => k_asm); (case k5 => k_asm); (case kp => exact trivial); (case c1 => first | assumption | mul_fits); (case kK => first | exact rfl | assumption); (case kd => ktr_room); (case ku => ktr_units); intro _ _ _ _ _ _; (try dsimp only); (try k_fold); (try k_sweep)))) | ((k_here; (with_reducible show wpAny _ _ (call (Value.ref 42) _ _) _ _ _); k_dflt (refine' Clm.use_int (addC _ _ _ _ _ _ _ _) ?k1 ?k2 ?k3 ?k4 ?k5 ?kK ?kd ?ku ?kp ?_; (case k1 => k_asm); (case k2 => k_asm); (case k3 => k_asm); (case k4 => k_asm); (case k5 => k_asm); (case kp => exact trivial); (case kK => first | exact rfl | assumption); (case kd => ktr_room); (case ku => ktr_units); intro _ _ _ _ _ _; (try dsimp only); (try k_fold); (try k_sweep)))) | ((k_here; (with_reducible show wpAny _ _ (call (Value.ref 21) _ _) _ _ _); k_dflt (refine' Clm.use_int (subC _ _ _ _ _ _ _ _ ?c1 ?c2) ?k1 ?k2 ?k3 ?k4 ?k5 ?kK ?kd ?ku ?kp ?_; (case k1 => k_asm); (case k2 => k_asm); (case k3 => k_asm); (case k4 => k_asm); (case k5 => k_asm); (case kp => exact trivial); (case c1 => kln_le); (case c2 => kln_le); (case kK => first | exact rfl | assumption); (case kd => ktr_room); (case ku => ktr_units); intro _ _ _ _ _ _; (try dsimp only); (try k_fold); (try k_sweep)))) | ((k_here; (with_reducible show wpAny _ _ (call (Value.builtin _) [Value.str _ _]) _ _ _); k_dflt (refine' lenS (fact_mk _) rfl ?yn ?_; (case yn => omega)); intro _ _; (try dsimp only))) | (((with_reducible show wpAny _ _ (subscriptTail (Expr.Name _ _) (Expr.UnaryOp _ _ _) (Value.ref _) (Value.int _ _)) _ _ _); (k_here; (with_reducible rename News _ _ _ _ => sN'); (with_reducible show wpAny _ _ (subscriptTail _ _ _ (Value.int (-2) _)) _ _ _); k_dflt (refine' it_neg2 _ sN' ?ym ?ys ?_; (case ym => k_mem); (case ys => with_unfolding_all rfl))))) | (((with_reducible show wpAny _ _ (subscriptTail (Expr.Name _ _) (Expr.UnaryOp _ _ _) (Value.ref _) (Value.int _ _)) _ _ _); (k_here; (with_reducible rename News _ _ _ _ => sN'); (with_reducible show wpAny _ _ (subscriptTail _ _ _ (Value.int (-1) _)) _ _ _); k_dflt (first | (refine' it_neg1 _ sN' ?ym ?ys ?_; (case ym => k_mem); (case ys => with_unfolding_all rfl)) | (refine' it_neg1b _ sN' ?ym ?ys ?_; (case ym => k_mem); (case ys => with_unfolding_all rfl)))))) | ((k_here; (with_reducible show wpAny _ _ (subscriptTail (Expr.Subscript _ _ _) (Expr.BinOp _ _ _ _) (Value.ref _) (Value.int _ _)) _ _ _); (with_reducible rename News _ _ _ _ => sN'); k_dflt (refine' it_pred _ sN' ?ym ?yi ?yk ?ys ?_; (case ym => k_mem); (case yi => assumption); (case yk => omega); (case ys => with_unfolding_all rfl)); intro _; (try dsimp only))) | ((k_here; (with_reducible show wpAny _ _ (subscriptTail (Expr.Subscript _ _ _) (Expr.Name _ _) (Value.ref _) (Value.int 0 _)) _ _ _); (with_reducible rename News _ _ _ _ => sN'); k_dflt (refine' it_row0 _ sN' ?ym ?yi ?yk ?ys ?_; (case ym => k_mem); (case yi => assumption); (case yk => omega); (case ys => with_unfolding_all rfl)); intro _; (try dsimp only))) | ((k_here; (with_reducible show wpAny _ _ (subscriptTail (Expr.Subscript _ _ _) (Expr.Name _ _) (Value.ref _) (Value.int _ _)) _ _ _); (with_reducible rename News _ _ _ _ => sN'); k_dflt (refine' it_row _ sN' ?ym ?yi ?yk ?ys ?_; (case ym => k_mem); (case yi => assumption); (case yk => omega); (case ys => with_unfolding_all rfl)); intro _; (try dsimp only))) | ((k_here; (with_reducible show wpAny _ _ (subscriptTail (Expr.Subscript _ _ _) (Expr.UnaryOp _ _ _) (Value.ref _) (Value.int _ _)) _ _ _); (with_reducible rename News _ _ _ _ => sN'); k_dflt (refine' it_last _ sN' ?ym ?yi ?ys ?_; (case ym => k_mem); (case yi => assumption); (case ys => with_unfolding_all rfl)); intro _; (try dsimp only))) | (((with_reducible show wpAny _ _ (subscriptTail (Expr.Name _ _) (Expr.BinOp _ _ _ _) (Value.str _ _) (Value.int _ _)) _ _ _); (k_here; k_dflt (refine' st_pred _ ?yk ?y3 ?ys ?yt ?_; (case yk => omega); (case y3 => omega); (case ys => with_unfolding_all rfl); (case yt => intro _; with_unfolding_all rfl)); intro _ _; (try dsimp only))))); k_steps))
      rename_i C h6 l6 h7 F7 N7
      unfold Hold
      refine for_rng (h₀ := g1) ?_
      (k_steps; repeat' (((with_reducible refine held ?_); first | ((k_here; (with_reducible show wpAny _ _ (call (Value.ref 56) _) _ _ _); k_dflt (refine' Clm.use_int (lshC _ _ _ _ _ _ _ _ ?c1 ?c2) ?k1 ?k2 ?k3 ?k4 ?k5 ?kK ?kd ?ku ?kp ?_; (case k1 => k_asm); (case k2 => k_asm); (case k3 => k_asm); (case k4 => k_asm); (case k5 => k_asm); (case kp => exact trivial); (case c1 => first | decide | omega); (case c2 => with_reducible assumption); (case kK => first | exact rfl | assumption); (case kd => ktr_room); (case ku => ktr_units); intro _ _ _ _ _ _; (try dsimp only); (try k_fold); (try k_sweep)))) | ((k_here; (with_reducible show wpAny _ _ (call (Value.ref 63) _ _) _ _ _); k_dflt (refine' Clm.use_int (mulC _ _ _ _ _ _ _ _ ?c1) ?k1 ?k2 ?k3 ?k4 ?k5 ?kK ?kd ?ku ?kp ?_; (case k1 => k_asm); (case k2 => k_asm); (case k3 => k_asm); (case k4 => k_asm); (case k5 => k_asm); (case kp => exact trivial); (case c1 => first | assumption | mul_fits); (case kK => first | exact rfl | assumption); (case kd => ktr_room); (case ku => ktr_units); intro _ _ _ _ _ _; (try dsimp only); (try k_fold); (try k_sweep)))) | ((k_here; (with_reducible show wpAny _ _ (call (Value.ref 42) _ _) _ _ _); k_dflt (refine' Clm.use_int (addC _ _ _ _ _ _ _ _) ?k1 ?k2 ?k3 ?k4 ?k5 ?kK ?kd ?ku ?kp ?_; (case k1 => k_asm); (case k2 => k_asm); (case k3 => k_asm); (case k4 => k_asm); (case k5 => k_asm); (case kp => exact trivial); (case kK => first | exact rfl | assumption); (case kd => ktr_room); (case ku => ktr_units); intro _ _ _ _ _ _; (try dsimp only); (try k_fold); (try k_sweep)))) | ((k_here; (with_reducible show wpAny _ _ (call (Value.ref 21) _ _) _ _ _); k_dflt (refine' Clm.use_int (subC _ _ _ _ _ _ _ _ ?c1 ?c2) ?k1 ?k2 ?k3 ?k4 ?k5 ?kK ?kd ?ku ?kp ?_; (case k1 => k_asm); (case k2 => k_asm); (case k3 => k_asm); (case k4 => k_asm); (case k5 => k_asm); (case kp => exact trivial); (case c1 => kln_le); (case c2 => kln_le); (case kK => first | exact rfl | assumption); (case kd => ktr_room); (case ku => ktr_units); intro _ _ _ _ _ _; (try dsimp only); (try k_fold); (try k_sweep)))) | ((k_here; (with_reducible show wpAny _ _ (call (Value.builtin _) [Value.str _ _]) _ _ _); k_dflt (refine' lenS (fact_mk _) rfl ?yn ?_; (case yn => omega)); intro _ _; (try dsimp only))) | (((with_reducible show wpAny _ _ (subscriptTail (Expr.Name _ _) (Expr.UnaryOp _ _ _) (Value.ref _) (Value.int _ _)) _ _ _); (k_here; (with_reducible rename News _ _ _ _ => sN'); (with_reducible show wpAny _ _ (subscriptTail _ _ _ (Value.int (-2) _)) _ _ _); k_dflt (refine' it_neg2 _ sN' ?ym ?ys ?_; (case ym => k_mem); (case ys => with_unfolding_all rfl))))) | (((with_reducible show wpAny _ _ (subscriptTail (Expr.Name _ _) (Expr.UnaryOp _ _ _) (Value.ref _) (Value.int _ _)) _ _ _); (k_here; (with_reducible rename News _ _ _ _ => sN'); (with_reducible show wpAny _ _ (subscriptTail _ _ _ (Value.int (-1) _)) _ _ _); k_dflt (first | (refine' it_neg1 _ sN' ?ym ?ys ?_; (case ym => k_mem); (case ys => with_unfolding_all rfl)) | (refine' it_neg1b _ sN' ?ym ?ys ?_; (case ym => k_mem); (case ys => with_unfolding_all rfl)))))) | ((k_here; (with_reducible show wpAny _ _ (subscriptTail (Expr.Subscript _ _ _) (Expr.BinOp _ _ _ _) (Value.ref _) (Value.int _ _)) _ _ _); (with_reducible rename News _ _ _ _ => sN'); k_dflt (refine' it_pred _ sN' ?ym ?yi ?yk ?ys ?_; (case ym => k_mem); (case yi => assumption); (case yk => omega); (case ys => with_unfolding_all rfl)); intro _; (try dsimp only))) | ((k_here; (with_reducible show wpAny _ _ (subscriptTail (Expr.Subscript _ _ _) (Expr.Name _ _) (Value.ref _) (Value.int 0 _)) _ _ _); (with_reducible rename News _ _ _ _ => sN'); k_dflt (refine' it_row0 _ sN' ?ym ?yi ?yk ?ys ?_; (case ym => k_mem); (case yi => assumption); (case yk => omega); (case ys => with_unfolding_all rfl)); intro _; (try dsimp only))) | ((k_here; (with_reducible show wpAny _ _ (subscriptTail (Expr.Subscript _ _ _) (Expr.Name _ _) (Value.ref _) (Value.int _ _)) _ _ _); (with_reducible rename News _ _ _ _ => sN'); k_dflt (refine' it_row _ sN' ?ym ?yi ?yk ?ys ?_; (case ym => k_mem); (case yi => assumption); (case yk => omega); (case ys => with_unfolding_all rfl)); intro _; (try dsimp only))) | ((k_here; (with_reducible show wpAny _ _ (subscriptTail (Expr.Subscript _ _ _) (Expr.UnaryOp _ _ _) (Value.ref _) (Value.int _ _)) _ _ _); (with_reducible rename News _ _ _ _ => sN'); k_dflt (refine' it_last _ sN' ?ym ?yi ?ys ?_; (case ym => k_mem); (case yi => assumption); (case ys => with_unfolding_all rfl)); intro _; (try dsimp only))) | (((with_reducible show wpAny _ _ (subscriptTail (Expr.Name _ _) (Expr.BinOp _ _ _ _) (Value.str _ _) (Value.int _ _)) _ _ _); (k_here; k_dflt (refine' st_pred _ ?yk ?y3 ?ys ?yt ?_; (case yk => omega); (case y3 => omega); (case ys => with_unfolding_all rfl); (case yt => intro _; with_unfolding_all rfl)); intro _ _; (try dsimp only))))); k_steps))
      rename IsRange _ _ _ _ _ _ _ _ => rgY
      with_reducible rename Fr g1 _ _ _ => F7'
      with_reducible rename News g1 _ _ _ => N7'
      simp only [List.push_toArray] at N7'
      refine ⟨_, ys.length + 1, _, _, _, _, _, SmI xs ys tx ty td Tb C c 0 (fun cv nc nt => [(C, listOf cv.toArray nc), (I, oI), (Tb, listOf (olds ++ [Value.ref C]).toArray nt)]), rfl, rfl, rfl, rfl, rgY, (rng_small _ (by omega)).1, (rng_small _ (by omega)).2, F7', N7', SmI.mk [] _ _ ⟨rfl, rfl, rfl, rfl, trivial⟩ rfl .nil, ?turn2, ?done2⟩
      case turn2 =>
        try clear rgY
        try clear F7'
        try clear N7'
        try clear N4
        try clear F4
        try clear hoff
        rintro j tj m2 nx2 h8 tk8 I2 oI2 hj ⟨cv, nc, nt, hK2, rfl, hcv⟩ F8 N8 hoff2
        replace F8 := know F8 (l := [("along", .int (j : Nat) tj), ("down", .int 0 td), ("table", .ref Tb), ("one", .str ⟨xs.toArray⟩ tx), ("two", .str ⟨ys.toArray⟩ ty)]) ⟨rfl, hK2.1, hK2.2.1, hK2.2.2.1, hK2.2.2.2.1, trivial⟩
        have e1 : @Ne Nat C I2 := hoff2 _ (.head _)
        have e1' : @Ne Nat I2 C := e1.symm
        have e2 := hoff2 _ (.tail _ (.head _))
        have e3 := hoff2 _ (.tail _ (.tail _ (.head _)))
        have hcl : cv.length = j := by rw [hcv.length]; unfold rowT; simp
        refine gQ fun Q2 hQ2 => ?_
        cases j with
        | zero =>
          replace F8 : Fr g1 L1 h8 (told [("along", .int 0 tj), ("down", .int 0 td), ("table", .ref Tb), ("one", .str ⟨xs.toArray⟩ tx), ("two", .str ⟨ys.toArray⟩ ty)] _) := F8
          (k_steps; repeat' (((with_reducible refine held ?_); first | ((k_here; (with_reducible show wpAny _ _ (call (Value.ref 56) _) _ _ _); k_dflt (refine' Clm.use_int (lshC _ _ _ _ _ _ _ _ ?c1 ?c2) ?k1 ?k2 ?k3 ?k4 ?k5 ?kK ?kd ?ku ?kp ?_; (case k1 => k_asm); (case k2 => k_asm); (case k3 => k_asm); (case k4 => k_asm); (case k5 => k_asm); (case kp => exact trivial); (case c1 => first | decide | omega); (case c2 => with_reducible assumption); (case kK => first | exact rfl | assumption); (case kd => ktr_room); (case ku => ktr_units); intro _ _ _ _ _ _; (try dsimp only); (try k_fold); (try k_sweep)))) | ((k_here; (with_reducible show wpAny _ _ (call (Value.ref 63) _ _) _ _ _); k_dflt (refine' Clm.use_int (mulC _ _ _ _ _ _ _ _ ?c1) ?k1 ?k2 ?k3 ?k4 ?k5 ?kK ?kd ?ku ?kp ?_; (case k1 => k_asm); (case k2 => k_asm); (case k3 => k_asm); (case k4 => k_asm); (case k5 => k_asm); (case kp => exact trivial); (case c1 => first | assumption | mul_fits); (case kK => first | exact rfl | assumption); (case kd => ktr_room); (case ku => ktr_units); intro _ _ _ _ _ _; (try dsimp only); (try k_fold); (try k_sweep)))) | ((k_here; (with_reducible show wpAny _ _ (call (Value.ref 42) _ _) _ _ _); k_dflt (refine' Clm.use_int (addC _ _ _ _ _ _ _ _) ?k1 ?k2 ?k3 ?k4 ?k5 ?kK ?kd ?ku ?kp ?_; (case k1 => k_asm); (case k2 => k_asm); (case k3 => k_asm); (case k4 => k_asm); (case k5 => k_asm); (case kp => exact trivial); (case kK => first | exact rfl | assumption); (case kd => ktr_room); (case ku => ktr_units); intro _ _ _ _ _ _; (try dsimp only); (try k_fold); (try k_sweep)))) | ((k_here; (with_reducible show wpAny _ _ (call (Value.ref 21) _ _) _ _ _); k_dflt (refine' Clm.use_int (subC _ _ _ _ _ _ _ _ ?c1 ?c2) ?k1 ?k2 ?k3 ?k4 ?k5 ?kK ?kd ?ku ?kp ?_; (case k1 => k_asm); (case k2 => k_asm); (case k3 => k_asm); (case k4 => k_asm); (case k5 => k_asm); (case kp => exact trivial); (case c1 => kln_le); (case c2 => kln_le); (case kK => first | exact rfl | assumption); (case kd => ktr_room); (case ku => ktr_units); intro _ _ _ _ _ _; (try dsimp only); (try k_fold); (try k_sweep)))) | ((k_here; (with_reducible show wpAny _ _ (call (Value.builtin _) [Value.str _ _]) _ _ _); k_dflt (refine' lenS (fact_mk _) rfl ?yn ?_; (case yn => omega)); intro _ _; (try dsimp only))) | (((with_reducible show wpAny _ _ (subscriptTail (Expr.Name _ _) (Expr.UnaryOp _ _ _) (Value.ref _) (Value.int _ _)) _ _ _); (k_here; (with_reducible rename News _ _ _ _ => sN'); (with_reducible show wpAny _ _ (subscriptTail _ _ _ (Value.int (-2) _)) _ _ _); k_dflt (refine' it_neg2 _ sN' ?ym ?ys ?_; (case ym => k_mem); (case ys => with_unfolding_all rfl))))) | (((with_reducible show wpAny _ _ (subscriptTail (Expr.Name _ _) (Expr.UnaryOp _ _ _) (Value.ref _) (Value.int _ _)) _ _ _); (k_here; (with_reducible rename News _ _ _ _ => sN'); (with_reducible show wpAny _ _ (subscriptTail _ _ _ (Value.int (-1) _)) _ _ _); k_dflt (first | (refine' it_neg1 _ sN' ?ym ?ys ?_; (case ym => k_mem); (case ys => with_unfolding_all rfl)) | (refine' it_neg1b _ sN' ?ym ?ys ?_; (case ym => k_mem); (case ys => with_unfolding_all rfl)))))) | ((k_here; (with_reducible show wpAny _ _ (subscriptTail (Expr.Subscript _ _ _) (Expr.BinOp _ _ _ _) (Value.ref _) (Value.int _ _)) _ _ _); (with_reducible rename News _ _ _ _ => sN'); k_dflt (refine' it_pred _ sN' ?ym ?yi ?yk ?ys ?_; (case ym => k_mem); (case yi => assumption); (case yk => omega); (case ys => with_unfolding_all rfl)); intro _; (try dsimp only))) | ((k_here; (with_reducible show wpAny _ _ (subscriptTail (Expr.Subscript _ _ _) (Expr.Name _ _) (Value.ref _) (Value.int 0 _)) _ _ _); (with_reducible rename News _ _ _ _ => sN'); k_dflt (refine' it_row0 _ sN' ?ym ?yi ?yk ?ys ?_; (case ym => k_mem); (case yi => assumption); (case yk => omega); (case ys => with_unfolding_all rfl)); intro _; (try dsimp only))) | ((k_here; (with_reducible show wpAny _ _ (subscriptTail (Expr.Subscript _ _ _) (Expr.Name _ _) (Value.ref _) (Value.int _ _)) _ _ _); (with_reducible rename News _ _ _ _ => sN'); k_dflt (refine' it_row _ sN' ?ym ?yi ?yk ?ys ?_; (case ym => k_mem); (case yi => assumption); (case yk => omega); (case ys => with_unfolding_all rfl)); intro _; (try dsimp only))) | ((k_here; (with_reducible show wpAny _ _ (subscriptTail (Expr.Subscript _ _ _) (Expr.UnaryOp _ _ _) (Value.ref _) (Value.int _ _)) _ _ _); (with_reducible rename News _ _ _ _ => sN'); k_dflt (refine' it_last _ sN' ?ym ?yi ?ys ?_; (case ym => k_mem); (case yi => assumption); (case ys => with_unfolding_all rfl)); intro _; (try dsimp only))) | (((with_reducible show wpAny _ _ (subscriptTail (Expr.Name _ _) (Expr.BinOp _ _ _ _) (Value.str _ _) (Value.int _ _)) _ _ _); (k_here; k_dflt (refine' st_pred _ ?yk ?y3 ?ys ?yt ?_; (case yk => omega); (case y3 => omega); (case ys => with_unfolding_all rfl); (case yt => intro _; with_unfolding_all rfl)); intro _ _; (try dsimp only))))); k_steps))
          with_reducible rename Fr _ _ _ _ => F9
          with_reducible rename News _ _ _ _ => N9
          simp only [List.push_toArray] at N9
          refine hQ2 _ _ ?_
          exact rng_end F9 N9 [(C, _), (I, oI), (Tb, _)] (by lcg_sub) (List.forall_mem_cons.mpr ⟨.inl e1, List.forall_mem_cons.mpr ⟨.inl e2, List.forall_mem_cons.mpr ⟨.inl e3, List.forall_mem_nil _⟩⟩⟩) (SmI.mk _ _ _ ⟨rfl, rfl, rfl, rfl, trivial⟩ rfl (rowT_push hcv rfl))
        | succ j =>
          have nz : ((j + 1 : Nat) : Int) ≠ 0 := by omega
          have sb := Sb.okay (y := 16) (sbb 0 j (by omega)) (by decide) (by omega)
          (k_steps; repeat' (((with_reducible refine held ?_); first | ((k_here; (with_reducible show wpAny _ _ (call (Value.ref 56) _) _ _ _); k_dflt (refine' Clm.use_int (lshC _ _ _ _ _ _ _ _ ?c1 ?c2) ?k1 ?k2 ?k3 ?k4 ?k5 ?kK ?kd ?ku ?kp ?_; (case k1 => k_asm); (case k2 => k_asm); (case k3 => k_asm); (case k4 => k_asm); (case k5 => k_asm); (case kp => exact trivial); (case c1 => first | decide | omega); (case c2 => with_reducible assumption); (case kK => first | exact rfl | assumption); (case kd => ktr_room); (case ku => ktr_units); intro _ _ _ _ _ _; (try dsimp only); (try k_fold); (try k_sweep)))) | ((k_here; (with_reducible show wpAny _ _ (call (Value.ref 63) _ _) _ _ _); k_dflt (refine' Clm.use_int (mulC _ _ _ _ _ _ _ _ ?c1) ?k1 ?k2 ?k3 ?k4 ?k5 ?kK ?kd ?ku ?kp ?_; (case k1 => k_asm); (case k2 => k_asm); (case k3 => k_asm); (case k4 => k_asm); (case k5 => k_asm); (case kp => exact trivial); (case c1 => first | assumption | mul_fits); (case kK => first | exact rfl | assumption); (case kd => ktr_room); (case ku => ktr_units); intro _ _ _ _ _ _; (try dsimp only); (try k_fold); (try k_sweep)))) | ((k_here; (with_reducible show wpAny _ _ (call (Value.ref 42) _ _) _ _ _); k_dflt (refine' Clm.use_int (addC _ _ _ _ _ _ _ _) ?k1 ?k2 ?k3 ?k4 ?k5 ?kK ?kd ?ku ?kp ?_; (case k1 => k_asm); (case k2 => k_asm); (case k3 => k_asm); (case k4 => k_asm); (case k5 => k_asm); (case kp => exact trivial); (case kK => first | exact rfl | assumption); (case kd => ktr_room); (case ku => ktr_units); intro _ _ _ _ _ _; (try dsimp only); (try k_fold); (try k_sweep)))) | ((k_here; (with_reducible show wpAny _ _ (call (Value.ref 21) _ _) _ _ _); k_dflt (refine' Clm.use_int (subC _ _ _ _ _ _ _ _ ?c1 ?c2) ?k1 ?k2 ?k3 ?k4 ?k5 ?kK ?kd ?ku ?kp ?_; (case k1 => k_asm); (case k2 => k_asm); (case k3 => k_asm); (case k4 => k_asm); (case k5 => k_asm); (case kp => exact trivial); (case c1 => kln_le); (case c2 => kln_le); (case kK => first | exact rfl | assumption); (case kd => ktr_room); (case ku => ktr_units); intro _ _ _ _ _ _; (try dsimp only); (try k_fold); (try k_sweep)))) | ((k_here; (with_reducible show wpAny _ _ (call (Value.builtin _) [Value.str _ _]) _ _ _); k_dflt (refine' lenS (fact_mk _) rfl ?yn ?_; (case yn => omega)); intro _ _; (try dsimp only))) | (((with_reducible show wpAny _ _ (subscriptTail (Expr.Name _ _) (Expr.UnaryOp _ _ _) (Value.ref _) (Value.int _ _)) _ _ _); (k_here; (with_reducible rename News _ _ _ _ => sN'); (with_reducible show wpAny _ _ (subscriptTail _ _ _ (Value.int (-2) _)) _ _ _); k_dflt (refine' it_neg2 _ sN' ?ym ?ys ?_; (case ym => k_mem); (case ys => with_unfolding_all rfl))))) | (((with_reducible show wpAny _ _ (subscriptTail (Expr.Name _ _) (Expr.UnaryOp _ _ _) (Value.ref _) (Value.int _ _)) _ _ _); (k_here; (with_reducible rename News _ _ _ _ => sN'); (with_reducible show wpAny _ _ (subscriptTail _ _ _ (Value.int (-1) _)) _ _ _); k_dflt (first | (refine' it_neg1 _ sN' ?ym ?ys ?_; (case ym => k_mem); (case ys => with_unfolding_all rfl)) | (refine' it_neg1b _ sN' ?ym ?ys ?_; (case ym => k_mem); (case ys => with_unfolding_all rfl)))))) | ((k_here; (with_reducible show wpAny _ _ (subscriptTail (Expr.Subscript _ _ _) (Expr.BinOp _ _ _ _) (Value.ref _) (Value.int _ _)) _ _ _); (with_reducible rename News _ _ _ _ => sN'); k_dflt (refine' it_pred _ sN' ?ym ?yi ?yk ?ys ?_; (case ym => k_mem); (case yi => assumption); (case yk => omega); (case ys => with_unfolding_all rfl)); intro _; (try dsimp only))) | ((k_here; (with_reducible show wpAny _ _ (subscriptTail (Expr.Subscript _ _ _) (Expr.Name _ _) (Value.ref _) (Value.int 0 _)) _ _ _); (with_reducible rename News _ _ _ _ => sN'); k_dflt (refine' it_row0 _ sN' ?ym ?yi ?yk ?ys ?_; (case ym => k_mem); (case yi => assumption); (case yk => omega); (case ys => with_unfolding_all rfl)); intro _; (try dsimp only))) | ((k_here; (with_reducible show wpAny _ _ (subscriptTail (Expr.Subscript _ _ _) (Expr.Name _ _) (Value.ref _) (Value.int _ _)) _ _ _); (with_reducible rename News _ _ _ _ => sN'); k_dflt (refine' it_row _ sN' ?ym ?yi ?yk ?ys ?_; (case ym => k_mem); (case yi => assumption); (case yk => omega); (case ys => with_unfolding_all rfl)); intro _; (try dsimp only))) | ((k_here; (with_reducible show wpAny _ _ (subscriptTail (Expr.Subscript _ _ _) (Expr.UnaryOp _ _ _) (Value.ref _) (Value.int _ _)) _ _ _); (with_reducible rename News _ _ _ _ => sN'); k_dflt (refine' it_last _ sN' ?ym ?yi ?ys ?_; (case ym => k_mem); (case yi => assumption); (case ys => with_unfolding_all rfl)); intro _; (try dsimp only))) | (((with_reducible show wpAny _ _ (subscriptTail (Expr.Name _ _) (Expr.BinOp _ _ _ _) (Value.str _ _) (Value.int _ _)) _ _ _); (k_here; k_dflt (refine' st_pred _ ?yk ?y3 ?ys ?yt ?_; (case yk => omega); (case y3 => omega); (case ys => with_unfolding_all rfl); (case yt => intro _; with_unfolding_all rfl)); intro _ _; (try dsimp only))))); k_steps))
          with_reducible rename Fr _ _ _ _ => F9
          with_reducible rename News _ _ _ _ => N9
          simp only [List.push_toArray] at N9
          refine hQ2 _ _ ?_
          exact rng_end F9 N9 [(C, _), (I, oI), (Tb, _)] (by lcg_sub) (List.forall_mem_cons.mpr ⟨.inl e1, List.forall_mem_cons.mpr ⟨.inl e2, List.forall_mem_cons.mpr ⟨.inl e3, List.forall_mem_nil _⟩⟩⟩) (SmI.mk _ _ _ ⟨rfl, rfl, rfl, rfl, trivial⟩ rfl (rowT_push hcv rfl))
      case done2 =>
        rintro h8 tk8 m2 nx2 F8 N8 ⟨cv, nc, nt, hK2, rfl, hcv⟩
        (k_steps; repeat' (((with_reducible refine held ?_); first | ((k_here; (with_reducible show wpAny _ _ (call (Value.ref 56) _) _ _ _); k_dflt (refine' Clm.use_int (lshC _ _ _ _ _ _ _ _ ?c1 ?c2) ?k1 ?k2 ?k3 ?k4 ?k5 ?kK ?kd ?ku ?kp ?_; (case k1 => k_asm); (case k2 => k_asm); (case k3 => k_asm); (case k4 => k_asm); (case k5 => k_asm); (case kp => exact trivial); (case c1 => first | decide | omega); (case c2 => with_reducible assumption); (case kK => first | exact rfl | assumption); (case kd => ktr_room); (case ku => ktr_units); intro _ _ _ _ _ _; (try dsimp only); (try k_fold); (try k_sweep)))) | ((k_here; (with_reducible show wpAny _ _ (call (Value.ref 63) _ _) _ _ _); k_dflt (refine' Clm.use_int (mulC _ _ _ _ _ _ _ _ ?c1) ?k1 ?k2 ?k3 ?k4 ?k5 ?kK ?kd ?ku ?kp ?_; (case k1 => k_asm); (case k2 => k_asm); (case k3 => k_asm); (case k4 => k_asm); (case k5 => k_asm); (case kp => exact trivial); (case c1 => first | assumption | mul_fits); (case kK => first | exact rfl | assumption); (case kd => ktr_room); (case ku => ktr_units); intro _ _ _ _ _ _; (try dsimp only); (try k_fold); (try k_sweep)))) | ((k_here; (with_reducible show wpAny _ _ (call (Value.ref 42) _ _) _ _ _); k_dflt (refine' Clm.use_int (addC _ _ _ _ _ _ _ _) ?k1 ?k2 ?k3 ?k4 ?k5 ?kK ?kd ?ku ?kp ?_; (case k1 => k_asm); (case k2 => k_asm); (case k3 => k_asm); (case k4 => k_asm); (case k5 => k_asm); (case kp => exact trivial); (case kK => first | exact rfl | assumption); (case kd => ktr_room); (case ku => ktr_units); intro _ _ _ _ _ _; (try dsimp only); (try k_fold); (try k_sweep)))) | ((k_here; (with_reducible show wpAny _ _ (call (Value.ref 21) _ _) _ _ _); k_dflt (refine' Clm.use_int (subC _ _ _ _ _ _ _ _ ?c1 ?c2) ?k1 ?k2 ?k3 ?k4 ?k5 ?kK ?kd ?ku ?kp ?_; (case k1 => k_asm); (case k2 => k_asm); (case k3 => k_asm); (case k4 => k_asm); (case k5 => k_asm); (case kp => exact trivial); (case c1 => kln_le); (case c2 => kln_le); (case kK => first | exact rfl | assumption); (case kd => ktr_room); (case ku => ktr_units); intro _ _ _ _ _ _; (try dsimp only); (try k_fold); (try k_sweep)))) | ((k_here; (with_reducible show wpAny _ _ (call (Value.builtin _) [Value.str _ _]) _ _ _); k_dflt (refine' lenS (fact_mk _) rfl ?yn ?_; (case yn => omega)); intro _ _; (try dsimp only))) | (((with_reducible show wpAny _ _ (subscriptTail (Expr.Name _ _) (Expr.UnaryOp _ _ _) (Value.ref _) (Value.int _ _)) _ _ _); (k_here; (with_reducible rename News _ _ _ _ => sN'); (with_reducible show wpAny _ _ (subscriptTail _ _ _ (Value.int (-2) _)) _ _ _); k_dflt (refine' it_neg2 _ sN' ?ym ?ys ?_; (case ym => k_mem); (case ys => with_unfolding_all rfl))))) | (((with_reducible show wpAny _ _ (subscriptTail (Expr.Name _ _) (Expr.UnaryOp _ _ _) (Value.ref _) (Value.int _ _)) _ _ _); (k_here; (with_reducible rename News _ _ _ _ => sN'); (with_reducible show wpAny _ _ (subscriptTail _ _ _ (Value.int (-1) _)) _ _ _); k_dflt (first | (refine' it_neg1 _ sN' ?ym ?ys ?_; (case ym => k_mem); (case ys => with_unfolding_all rfl)) | (refine' it_neg1b _ sN' ?ym ?ys ?_; (case ym => k_mem); (case ys => with_unfolding_all rfl)))))) | ((k_here; (with_reducible show wpAny _ _ (subscriptTail (Expr.Subscript _ _ _) (Expr.BinOp _ _ _ _) (Value.ref _) (Value.int _ _)) _ _ _); (with_reducible rename News _ _ _ _ => sN'); k_dflt (refine' it_pred _ sN' ?ym ?yi ?yk ?ys ?_; (case ym => k_mem); (case yi => assumption); (case yk => omega); (case ys => with_unfolding_all rfl)); intro _; (try dsimp only))) | ((k_here; (with_reducible show wpAny _ _ (subscriptTail (Expr.Subscript _ _ _) (Expr.Name _ _) (Value.ref _) (Value.int 0 _)) _ _ _); (with_reducible rename News _ _ _ _ => sN'); k_dflt (refine' it_row0 _ sN' ?ym ?yi ?yk ?ys ?_; (case ym => k_mem); (case yi => assumption); (case yk => omega); (case ys => with_unfolding_all rfl)); intro _; (try dsimp only))) | ((k_here; (with_reducible show wpAny _ _ (subscriptTail (Expr.Subscript _ _ _) (Expr.Name _ _) (Value.ref _) (Value.int _ _)) _ _ _); (with_reducible rename News _ _ _ _ => sN'); k_dflt (refine' it_row _ sN' ?ym ?yi ?yk ?ys ?_; (case ym => k_mem); (case yi => assumption); (case yk => omega); (case ys => with_unfolding_all rfl)); intro _; (try dsimp only))) | ((k_here; (with_reducible show wpAny _ _ (subscriptTail (Expr.Subscript _ _ _) (Expr.UnaryOp _ _ _) (Value.ref _) (Value.int _ _)) _ _ _); (with_reducible rename News _ _ _ _ => sN'); k_dflt (refine' it_last _ sN' ?ym ?yi ?ys ?_; (case ym => k_mem); (case yi => assumption); (case ys => with_unfolding_all rfl)); intro _; (try dsimp only))) | (((with_reducible show wpAny _ _ (subscriptTail (Expr.Name _ _) (Expr.BinOp _ _ _ _) (Value.str _ _) (Value.int _ _)) _ _ _); (k_here; k_dflt (refine' st_pred _ ?yk ?y3 ?ys ?yt ?_; (case yk => omega); (case y3 => omega); (case ys => with_unfolding_all rfl); (case yt => intro _; with_unfolding_all rfl)); intro _ _; (try dsimp only))))); k_steps))
        refine hQ1 _ _ ?_
        exact rng_end F8 N8 [(Tb, _), (C, _)] (by lcg_sub) (List.forall_mem_cons.mpr ⟨.inr rfl, List.forall_mem_cons.mpr ⟨.inr rfl, List.forall_mem_nil _⟩⟩) (SmO.succ 0 olds C cv _ _ ⟨hK2.2.1, hK2.2.2.1, hK2.2.2.2.1, trivial⟩ rfl hol (by omega) rfl hcv)
    · have q1 : @Ne Nat Tb I := hoff _ (.head _)
      have q1' : @Ne Nat I Tb := q1.symm
      have q2 : @Ne Nat P I := hoff _ (.tail _ (.head _))
      (k_steps; repeat' (((with_reducible refine held ?_); first | ((k_here; (with_reducible show wpAny _ _ (call (Value.ref 56) _) _ _ _); k_dflt (refine' Clm.use_int (lshC _ _ _ _ _ _ _ _ ?c1 ?c2) ?k1 ?k2 ?k3 ?k4 ?k5 ?kK ?kd ?ku ?kp ?_; (case k1 => k_asm); (case k2 => k_asm); (case k3 => k_asm); (case k4 => k_asm); (case k5 => k_asm); (case kp => exact trivial); (case c1 => first | decide | omega); (case c2 => with_reducible assumption); (case kK => first | exact rfl | assumption); (case kd => ktr_room); (case ku => ktr_units); intro _ _ _ _ _ _; (try dsimp only); (try k_fold); (try k_sweep)))) | ((k_here; (with_reducible show wpAny _ _ (call (Value.ref 63) _ _) _ _ _); k_dflt (refine' Clm.use_int (mulC _ _ _ _ _ _ _ _ ?c1) ?k1 ?k2 ?k3 ?k4 ?k5 ?kK ?kd ?ku ?kp ?_; (case k1 => k_asm); (case k2 => k_asm); (case k3 => k_asm); (case k4 => k_asm); (case k5 => k_asm); (case kp => exact trivial); (case c1 => first | assumption | mul_fits); (case kK => first | exact rfl | assumption); (case kd => ktr_room); (case ku => ktr_units); intro _ _ _ _ _ _; (try dsimp only); (try k_fold); (try k_sweep)))) | ((k_here; (with_reducible show wpAny _ _ (call (Value.ref 42) _ _) _ _ _); k_dflt (refine' Clm.use_int (addC _ _ _ _ _ _ _ _) ?k1 ?k2 ?k3 ?k4 ?k5 ?kK ?kd ?ku ?kp ?_; (case k1 => k_asm); (case k2 => k_asm); (case k3 => k_asm); (case k4 => k_asm); (case k5 => k_asm); (case kp => exact trivial); (case kK => first | exact rfl | assumption); (case kd => ktr_room); (case ku => ktr_units); intro _ _ _ _ _ _; (try dsimp only); (try k_fold); (try k_sweep)))) | ((k_here; (with_reducible show wpAny _ _ (call (Value.ref 21) _ _) _ _ _); k_dflt (refine' Clm.use_int (subC _ _ _ _ _ _ _ _ ?c1 ?c2) ?k1 ?k2 ?k3 ?k4 ?k5 ?kK ?kd ?ku ?kp ?_; (case k1 => k_asm); (case k2 => k_asm); (case k3 => k_asm); (case k4 => k_asm); (case k5 => k_asm); (case kp => exact trivial); (case c1 => kln_le); (case c2 => kln_le); (case kK => first | exact rfl | assumption); (case kd => ktr_room); (case ku => ktr_units); intro _ _ _ _ _ _; (try dsimp only); (try k_fold); (try k_sweep)))) | ((k_here; (with_reducible show wpAny _ _ (call (Value.builtin _) [Value.str _ _]) _ _ _); k_dflt (refine' lenS (fact_mk _) rfl ?yn ?_; (case yn => omega)); intro _ _; (try dsimp only))) | (((with_reducible show wpAny _ _ (subscriptTail (Expr.Name _ _) (Expr.UnaryOp _ _ _) (Value.ref _) (Value.int _ _)) _ _ _); (k_here; (with_reducible rename News _ _ _ _ => sN'); (with_reducible show wpAny _ _ (subscriptTail _ _ _ (Value.int (-2) _)) _ _ _); k_dflt (refine' it_neg2 _ sN' ?ym ?ys ?_; (case ym => k_mem); (case ys => with_unfolding_all rfl))))) | (((with_reducible show wpAny _ _ (subscriptTail (Expr.Name _ _) (Expr.UnaryOp _ _ _) (Value.ref _) (Value.int _ _)) _ _ _); (k_here; (with_reducible rename News _ _ _ _ => sN'); (with_reducible show wpAny _ _ (subscriptTail _ _ _ (Value.int (-1) _)) _ _ _); k_dflt (first | (refine' it_neg1 _ sN' ?ym ?ys ?_; (case ym => k_mem); (case ys => with_unfolding_all rfl)) | (refine' it_neg1b _ sN' ?ym ?ys ?_; (case ym => k_mem); (case ys => with_unfolding_all rfl)))))) | ((k_here; (with_reducible show wpAny _ _ (subscriptTail (Expr.Subscript _ _ _) (Expr.BinOp _ _ _ _) (Value.ref _) (Value.int _ _)) _ _ _); (with_reducible rename News _ _ _ _ => sN'); k_dflt (refine' it_pred _ sN' ?ym ?yi ?yk ?ys ?_; (case ym => k_mem); (case yi => assumption); (case yk => omega); (case ys => with_unfolding_all rfl)); intro _; (try dsimp only))) | ((k_here; (with_reducible show wpAny _ _ (subscriptTail (Expr.Subscript _ _ _) (Expr.Name _ _) (Value.ref _) (Value.int 0 _)) _ _ _); (with_reducible rename News _ _ _ _ => sN'); k_dflt (refine' it_row0 _ sN' ?ym ?yi ?yk ?ys ?_; (case ym => k_mem); (case yi => assumption); (case yk => omega); (case ys => with_unfolding_all rfl)); intro _; (try dsimp only))) | ((k_here; (with_reducible show wpAny _ _ (subscriptTail (Expr.Subscript _ _ _) (Expr.Name _ _) (Value.ref _) (Value.int _ _)) _ _ _); (with_reducible rename News _ _ _ _ => sN'); k_dflt (refine' it_row _ sN' ?ym ?yi ?yk ?ys ?_; (case ym => k_mem); (case yi => assumption); (case yk => omega); (case ys => with_unfolding_all rfl)); intro _; (try dsimp only))) | ((k_here; (with_reducible show wpAny _ _ (subscriptTail (Expr.Subscript _ _ _) (Expr.UnaryOp _ _ _) (Value.ref _) (Value.int _ _)) _ _ _); (with_reducible rename News _ _ _ _ => sN'); k_dflt (refine' it_last _ sN' ?ym ?yi ?ys ?_; (case ym => k_mem); (case yi => assumption); (case ys => with_unfolding_all rfl)); intro _; (try dsimp only))) | (((with_reducible show wpAny _ _ (subscriptTail (Expr.Name _ _) (Expr.BinOp _ _ _ _) (Value.str _ _) (Value.int _ _)) _ _ _); (k_here; k_dflt (refine' st_pred _ ?yk ?y3 ?ys ?yt ?_; (case yk => omega); (case y3 => omega); (case ys => with_unfolding_all rfl); (case yt => intro _; with_unfolding_all rfl)); intro _ _; (try dsimp only))))); k_steps))
      rename_i C h6 l6 h7 F7 N7
      unfold Hold
      refine for_rng (h₀ := g1) ?_
      (k_steps; repeat' (((with_reducible refine held ?_); first | ((k_here; (with_reducible show wpAny _ _ (call (Value.ref 56) _) _ _ _); k_dflt (refine' Clm.use_int (lshC _ _ _ _ _ _ _ _ ?c1 ?c2) ?k1 ?k2 ?k3 ?k4 ?k5 ?kK ?kd ?ku ?kp ?_; (case k1 => k_asm); (case k2 => k_asm); (case k3 => k_asm); (case k4 => k_asm); (case k5 => k_asm); (case kp => exact trivial); (case c1 => first | decide | omega); (case c2 => with_reducible assumption); (case kK => first | exact rfl | assumption); (case kd => ktr_room); (case ku => ktr_units); intro _ _ _ _ _ _; (try dsimp only); (try k_fold); (try k_sweep)))) | ((k_here; (with_reducible show wpAny _ _ (call (Value.ref 63) _ _) _ _ _); k_dflt (refine' Clm.use_int (mulC _ _ _ _ _ _ _ _ ?c1) ?k1 ?k2 ?k3 ?k4 ?k5 ?kK ?kd ?ku ?kp ?_; (case k1 => k_asm); (case k2 => k_asm); (case k3 => k_asm); (case k4 => k_asm); (case k5 => k_asm); (case kp => exact trivial); (case c1 => first | assumption | mul_fits); (case kK => first | exact rfl | assumption); (case kd => ktr_room); (case ku => ktr_units); intro _ _ _ _ _ _; (try dsimp only); (try k_fold); (try k_sweep)))) | ((k_here; (with_reducible show wpAny _ _ (call (Value.ref 42) _ _) _ _ _); k_dflt (refine' Clm.use_int (addC _ _ _ _ _ _ _ _) ?k1 ?k2 ?k3 ?k4 ?k5 ?kK ?kd ?ku ?kp ?_; (case k1 => k_asm); (case k2 => k_asm); (case k3 => k_asm); (case k4 => k_asm); (case k5 => k_asm); (case kp => exact trivial); (case kK => first | exact rfl | assumption); (case kd => ktr_room); (case ku => ktr_units); intro _ _ _ _ _ _; (try dsimp only); (try k_fold); (try k_sweep)))) | ((k_here; (with_reducible show wpAny _ _ (call (Value.ref 21) _ _) _ _ _); k_dflt (refine' Clm.use_int (subC _ _ _ _ _ _ _ _ ?c1 ?c2) ?k1 ?k2 ?k3 ?k4 ?k5 ?kK ?kd ?ku ?kp ?_; (case k1 => k_asm); (case k2 => k_asm); (case k3 => k_asm); (case k4 => k_asm); (case k5 => k_asm); (case kp => exact trivial); (case c1 => kln_le); (case c2 => kln_le); (case kK => first | exact rfl | assumption); (case kd => ktr_room); (case ku => ktr_units); intro _ _ _ _ _ _; (try dsimp only); (try k_fold); (try k_sweep)))) | ((k_here; (with_reducible show wpAny _ _ (call (Value.builtin _) [Value.str _ _]) _ _ _); k_dflt (refine' lenS (fact_mk _) rfl ?yn ?_; (case yn => omega)); intro _ _; (try dsimp only))) | (((with_reducible show wpAny _ _ (subscriptTail (Expr.Name _ _) (Expr.UnaryOp _ _ _) (Value.ref _) (Value.int _ _)) _ _ _); (k_here; (with_reducible rename News _ _ _ _ => sN'); (with_reducible show wpAny _ _ (subscriptTail _ _ _ (Value.int (-2) _)) _ _ _); k_dflt (refine' it_neg2 _ sN' ?ym ?ys ?_; (case ym => k_mem); (case ys => with_unfolding_all rfl))))) | (((with_reducible show wpAny _ _ (subscriptTail (Expr.Name _ _) (Expr.UnaryOp _ _ _) (Value.ref _) (Value.int _ _)) _ _ _); (k_here; (with_reducible rename News _ _ _ _ => sN'); (with_reducible show wpAny _ _ (subscriptTail _ _ _ (Value.int (-1) _)) _ _ _); k_dflt (first | (refine' it_neg1 _ sN' ?ym ?ys ?_; (case ym => k_mem); (case ys => with_unfolding_all rfl)) | (refine' it_neg1b _ sN' ?ym ?ys ?_; (case ym => k_mem); (case ys => with_unfolding_all rfl)))))) | ((k_here; (with_reducible show wpAny _ _ (subscriptTail (Expr.Subscript _ _ _) (Expr.BinOp _ _ _ _) (Value.ref _) (Value.int _ _)) _ _ _); (with_reducible rename News _ _ _ _ => sN'); k_dflt (refine' it_pred _ sN' ?ym ?yi ?yk ?ys ?_; (case ym => k_mem); (case yi => assumption); (case yk => omega); (case ys => with_unfolding_all rfl)); intro _; (try dsimp only))) | ((k_here; (with_reducible show wpAny _ _ (subscriptTail (Expr.Subscript _ _ _) (Expr.Name _ _) (Value.ref _) (Value.int 0 _)) _ _ _); (with_reducible rename News _ _ _ _ => sN'); k_dflt (refine' it_row0 _ sN' ?ym ?yi ?yk ?ys ?_; (case ym => k_mem); (case yi => assumption); (case yk => omega); (case ys => with_unfolding_all rfl)); intro _; (try dsimp only))) | ((k_here; (with_reducible show wpAny _ _ (subscriptTail (Expr.Subscript _ _ _) (Expr.Name _ _) (Value.ref _) (Value.int _ _)) _ _ _); (with_reducible rename News _ _ _ _ => sN'); k_dflt (refine' it_row _ sN' ?ym ?yi ?yk ?ys ?_; (case ym => k_mem); (case yi => assumption); (case yk => omega); (case ys => with_unfolding_all rfl)); intro _; (try dsimp only))) | ((k_here; (with_reducible show wpAny _ _ (subscriptTail (Expr.Subscript _ _ _) (Expr.UnaryOp _ _ _) (Value.ref _) (Value.int _ _)) _ _ _); (with_reducible rename News _ _ _ _ => sN'); k_dflt (refine' it_last _ sN' ?ym ?yi ?ys ?_; (case ym => k_mem); (case yi => assumption); (case ys => with_unfolding_all rfl)); intro _; (try dsimp only))) | (((with_reducible show wpAny _ _ (subscriptTail (Expr.Name _ _) (Expr.BinOp _ _ _ _) (Value.str _ _) (Value.int _ _)) _ _ _); (k_here; k_dflt (refine' st_pred _ ?yk ?y3 ?ys ?yt ?_; (case yk => omega); (case y3 => omega); (case ys => with_unfolding_all rfl); (case yt => intro _; with_unfolding_all rfl)); intro _ _; (try dsimp only))))); k_steps))
      rename IsRange _ _ _ _ _ _ _ _ => rgY
      with_reducible rename Fr g1 _ _ _ => F7'
      with_reducible rename News g1 _ _ _ => N7'
      simp only [List.push_toArray, List.append_assoc, List.cons_append, List.nil_append] at N7'
      refine ⟨_, ys.length + 1, _, _, _, _, _, SmI xs ys tx ty td Tb C c (i' + 1) (fun cv nc nt => [(C, listOf cv.toArray nc), (I, oI), (Tb, listOf (olds ++ [Value.ref P, Value.ref C]).toArray nt), (P, listOf pv.toArray n')]), rfl, rfl, rfl, rfl, rgY, (rng_small _ (by omega)).1, (rng_small _ (by omega)).2, F7', N7', SmI.mk [] _ _ ⟨rfl, rfl, rfl, rfl, trivial⟩ rfl .nil, ?turn3, ?done3⟩
      case turn3 =>
        try clear rgY
        try clear F7'
        try clear N7'
        try clear N4
        try clear F4
        try clear hoff
        rintro j tj m2 nx2 h8 tk8 I2 oI2 hj ⟨cv, nc, nt, hK2, rfl, hcv⟩ F8 N8 hoff2
        replace F8 := know F8 (l := [("along", .int (j : Nat) tj), ("down", .int (i' + 1 : Nat) td), ("table", .ref Tb), ("one", .str ⟨xs.toArray⟩ tx), ("two", .str ⟨ys.toArray⟩ ty)]) ⟨rfl, hK2.1, hK2.2.1, hK2.2.2.1, hK2.2.2.2.1, trivial⟩
        have e1 : @Ne Nat C I2 := hoff2 _ (.head _)
        have e1' : @Ne Nat I2 C := e1.symm
        have e2 := hoff2 _ (.tail _ (.head _))
        have e3 := hoff2 _ (.tail _ (.tail _ (.head _)))
        have e4 := hoff2 _ (.tail _ (.tail _ (.tail _ (.head _))))
        have hcl : cv.length = j := by rw [hcv.length]; unfold rowT; simp
        have nzi : ((i' + 1 : Nat) : Int) ≠ 0 := by omega
        refine gQ fun Q2 hQ2 => ?_
        cases j with
        | zero =>
          replace F8 : Fr g1 L1 h8 (told [("along", .int 0 tj), ("down", .int (i' + 1 : Nat) td), ("table", .ref Tb), ("one", .str ⟨xs.toArray⟩ tx), ("two", .str ⟨ys.toArray⟩ ty)] _) := F8
          have sb := Sb.okay (y := 16) (sbb i' 0 (by omega)) (by decide) (by omega)
          (k_steps; repeat' (((with_reducible refine held ?_); first | ((k_here; (with_reducible show wpAny _ _ (call (Value.ref 56) _) _ _ _); k_dflt (refine' Clm.use_int (lshC _ _ _ _ _ _ _ _ ?c1 ?c2) ?k1 ?k2 ?k3 ?k4 ?k5 ?kK ?kd ?ku ?kp ?_; (case k1 => k_asm); (case k2 => k_asm); (case k3 => k_asm); (case k4 => k_asm); (case k5 => k_asm); (case kp => exact trivial); (case c1 => first | decide | omega); (case c2 => with_reducible assumption); (case kK => first | exact rfl | assumption); (case kd => ktr_room); (case ku => ktr_units); intro _ _ _ _ _ _; (try dsimp only); (try k_fold); (try k_sweep)))) | ((k_here; (with_reducible show wpAny _ _ (call (Value.ref 63) _ _) _ _ _); k_dflt (refine' Clm.use_int (mulC _ _ _ _ _ _ _ _ ?c1) ?k1 ?k2 ?k3 ?k4 ?k5 ?kK ?kd ?ku ?kp ?_; (case k1 => k_asm); (case k2 => k_asm); (case k3 => k_asm); (case k4 => k_asm); (case k5 => k_asm); (case kp => exact trivial); (case c1 => first | assumption | mul_fits); (case kK => first | exact rfl | assumption); (case kd => ktr_room); (case ku => ktr_units); intro _ _ _ _ _ _; (try dsimp only); (try k_fold); (try k_sweep)))) | ((k_here; (with_reducible show wpAny _ _ (call (Value.ref 42) _ _) _ _ _); k_dflt (refine' Clm.use_int (addC _ _ _ _ _ _ _ _) ?k1 ?k2 ?k3 ?k4 ?k5 ?kK ?kd ?ku ?kp ?_; (case k1 => k_asm); (case k2 => k_asm); (case k3 => k_asm); (case k4 => k_asm); (case k5 => k_asm); (case kp => exact trivial); (case kK => first | exact rfl | assumption); (case kd => ktr_room); (case ku => ktr_units); intro _ _ _ _ _ _; (try dsimp only); (try k_fold); (try k_sweep)))) | ((k_here; (with_reducible show wpAny _ _ (call (Value.ref 21) _ _) _ _ _); k_dflt (refine' Clm.use_int (subC _ _ _ _ _ _ _ _ ?c1 ?c2) ?k1 ?k2 ?k3 ?k4 ?k5 ?kK ?kd ?ku ?kp ?_; (case k1 => k_asm); (case k2 => k_asm); (case k3 => k_asm); (case k4 => k_asm); (case k5 => k_asm); (case kp => exact trivial); (case c1 => kln_le); (case c2 => kln_le); (case kK => first | exact rfl | assumption); (case kd => ktr_room); (case ku => ktr_units); intro _ _ _ _ _ _; (try dsimp only); (try k_fold); (try k_sweep)))) | ((k_here; (with_reducible show wpAny _ _ (call (Value.builtin _) [Value.str _ _]) _ _ _); k_dflt (refine' lenS (fact_mk _) rfl ?yn ?_; (case yn => omega)); intro _ _; (try dsimp only))) | (((with_reducible show wpAny _ _ (subscriptTail (Expr.Name _ _) (Expr.UnaryOp _ _ _) (Value.ref _) (Value.int _ _)) _ _ _); (k_here; (with_reducible rename News _ _ _ _ => sN'); (with_reducible show wpAny _ _ (subscriptTail _ _ _ (Value.int (-2) _)) _ _ _); k_dflt (refine' it_neg2 _ sN' ?ym ?ys ?_; (case ym => k_mem); (case ys => with_unfolding_all rfl))))) | (((with_reducible show wpAny _ _ (subscriptTail (Expr.Name _ _) (Expr.UnaryOp _ _ _) (Value.ref _) (Value.int _ _)) _ _ _); (k_here; (with_reducible rename News _ _ _ _ => sN'); (with_reducible show wpAny _ _ (subscriptTail _ _ _ (Value.int (-1) _)) _ _ _); k_dflt (first | (refine' it_neg1 _ sN' ?ym ?ys ?_; (case ym => k_mem); (case ys => with_unfolding_all rfl)) | (refine' it_neg1b _ sN' ?ym ?ys ?_; (case ym => k_mem); (case ys => with_unfolding_all rfl)))))) | ((k_here; (with_reducible show wpAny _ _ (subscriptTail (Expr.Subscript _ _ _) (Expr.BinOp _ _ _ _) (Value.ref _) (Value.int _ _)) _ _ _); (with_reducible rename News _ _ _ _ => sN'); k_dflt (refine' it_pred _ sN' ?ym ?yi ?yk ?ys ?_; (case ym => k_mem); (case yi => assumption); (case yk => omega); (case ys => with_unfolding_all rfl)); intro _; (try dsimp only))) | ((k_here; (with_reducible show wpAny _ _ (subscriptTail (Expr.Subscript _ _ _) (Expr.Name _ _) (Value.ref _) (Value.int 0 _)) _ _ _); (with_reducible rename News _ _ _ _ => sN'); k_dflt (refine' it_row0 _ sN' ?ym ?yi ?yk ?ys ?_; (case ym => k_mem); (case yi => assumption); (case yk => omega); (case ys => with_unfolding_all rfl)); intro _; (try dsimp only))) | ((k_here; (with_reducible show wpAny _ _ (subscriptTail (Expr.Subscript _ _ _) (Expr.Name _ _) (Value.ref _) (Value.int _ _)) _ _ _); (with_reducible rename News _ _ _ _ => sN'); k_dflt (refine' it_row _ sN' ?ym ?yi ?yk ?ys ?_; (case ym => k_mem); (case yi => assumption); (case yk => omega); (case ys => with_unfolding_all rfl)); intro _; (try dsimp only))) | ((k_here; (with_reducible show wpAny _ _ (subscriptTail (Expr.Subscript _ _ _) (Expr.UnaryOp _ _ _) (Value.ref _) (Value.int _ _)) _ _ _); (with_reducible rename News _ _ _ _ => sN'); k_dflt (refine' it_last _ sN' ?ym ?yi ?ys ?_; (case ym => k_mem); (case yi => assumption); (case ys => with_unfolding_all rfl)); intro _; (try dsimp only))) | (((with_reducible show wpAny _ _ (subscriptTail (Expr.Name _ _) (Expr.BinOp _ _ _ _) (Value.str _ _) (Value.int _ _)) _ _ _); (k_here; k_dflt (refine' st_pred _ ?yk ?y3 ?ys ?yt ?_; (case yk => omega); (case y3 => omega); (case ys => with_unfolding_all rfl); (case yt => intro _; with_unfolding_all rfl)); intro _ _; (try dsimp only))))); k_steps))
          with_reducible rename Fr _ _ _ _ => F9
          with_reducible rename News _ _ _ _ => N9
          simp only [List.push_toArray] at N9
          refine hQ2 _ _ ?_
          exact rng_end F9 N9 [(C, _), (I, oI), (Tb, _), (P, _)] (by lcg_sub) (List.forall_mem_cons.mpr ⟨.inl e1, List.forall_mem_cons.mpr ⟨.inl e2, List.forall_mem_cons.mpr ⟨.inl e3, List.forall_mem_cons.mpr ⟨.inl e4, List.forall_mem_nil _⟩⟩⟩⟩) (SmI.mk _ _ _ ⟨rfl, rfl, rfl, rfl, trivial⟩ rfl (rowT_push hcv rfl))
        | succ j =>
          have nz : ((j + 1 : Nat) : Int) ≠ 0 := by omega
          have sb := Sb.okay (y := 16) (sbb i' (j + 1) (by omega)) (by decide) (by omega)
          have sb1 := Sb.okay (y := 16) (sbb (i' + 1) j (by omega)) (by decide) (by omega)
          have bb := hcb i' j
          have sb2 := Sb.okay (y := 8 * subCost ⟨#[xs.getD i' 0]⟩ ⟨#[ys.getD j 0]⟩) (sbb i' j (by omega)) (by omega) (by omega)
          (k_steps; repeat' (((with_reducible refine held ?_); first | ((k_here; (with_reducible show wpAny _ _ (call (Value.ref 56) _) _ _ _); k_dflt (refine' Clm.use_int (lshC _ _ _ _ _ _ _ _ ?c1 ?c2) ?k1 ?k2 ?k3 ?k4 ?k5 ?kK ?kd ?ku ?kp ?_; (case k1 => k_asm); (case k2 => k_asm); (case k3 => k_asm); (case k4 => k_asm); (case k5 => k_asm); (case kp => exact trivial); (case c1 => first | decide | omega); (case c2 => with_reducible assumption); (case kK => first | exact rfl | assumption); (case kd => ktr_room); (case ku => ktr_units); intro _ _ _ _ _ _; (try dsimp only); (try k_fold); (try k_sweep)))) | ((k_here; (with_reducible show wpAny _ _ (call (Value.ref 63) _ _) _ _ _); k_dflt (refine' Clm.use_int (mulC _ _ _ _ _ _ _ _ ?c1) ?k1 ?k2 ?k3 ?k4 ?k5 ?kK ?kd ?ku ?kp ?_; (case k1 => k_asm); (case k2 => k_asm); (case k3 => k_asm); (case k4 => k_asm); (case k5 => k_asm); (case kp => exact trivial); (case c1 => first | assumption | mul_fits); (case kK => first | exact rfl | assumption); (case kd => ktr_room); (case ku => ktr_units); intro _ _ _ _ _ _; (try dsimp only); (try k_fold); (try k_sweep)))) | ((k_here; (with_reducible show wpAny _ _ (call (Value.ref 42) _ _) _ _ _); k_dflt (refine' Clm.use_int (addC _ _ _ _ _ _ _ _) ?k1 ?k2 ?k3 ?k4 ?k5 ?kK ?kd ?ku ?kp ?_; (case k1 => k_asm); (case k2 => k_asm); (case k3 => k_asm); (case k4 => k_asm); (case k5 => k_asm); (case kp => exact trivial); (case kK => first | exact rfl | assumption); (case kd => ktr_room); (case ku => ktr_units); intro _ _ _ _ _ _; (try dsimp only); (try k_fold); (try k_sweep)))) | ((k_here; (with_reducible show wpAny _ _ (call (Value.ref 21) _ _) _ _ _); k_dflt (refine' Clm.use_int (subC _ _ _ _ _ _ _ _ ?c1 ?c2) ?k1 ?k2 ?k3 ?k4 ?k5 ?kK ?kd ?ku ?kp ?_; (case k1 => k_asm); (case k2 => k_asm); (case k3 => k_asm); (case k4 => k_asm); (case k5 => k_asm); (case kp => exact trivial); (case c1 => kln_le); (case c2 => kln_le); (case kK => first | exact rfl | assumption); (case kd => ktr_room); (case ku => ktr_units); intro _ _ _ _ _ _; (try dsimp only); (try k_fold); (try k_sweep)))) | ((k_here; (with_reducible show wpAny _ _ (call (Value.builtin _) [Value.str _ _]) _ _ _); k_dflt (refine' lenS (fact_mk _) rfl ?yn ?_; (case yn => omega)); intro _ _; (try dsimp only))) | (((with_reducible show wpAny _ _ (subscriptTail (Expr.Name _ _) (Expr.UnaryOp _ _ _) (Value.ref _) (Value.int _ _)) _ _ _); (k_here; (with_reducible rename News _ _ _ _ => sN'); (with_reducible show wpAny _ _ (subscriptTail _ _ _ (Value.int (-2) _)) _ _ _); k_dflt (refine' it_neg2 _ sN' ?ym ?ys ?_; (case ym => k_mem); (case ys => with_unfolding_all rfl))))) | (((with_reducible show wpAny _ _ (subscriptTail (Expr.Name _ _) (Expr.UnaryOp _ _ _) (Value.ref _) (Value.int _ _)) _ _ _); (k_here; (with_reducible rename News _ _ _ _ => sN'); (with_reducible show wpAny _ _ (subscriptTail _ _ _ (Value.int (-1) _)) _ _ _); k_dflt (first | (refine' it_neg1 _ sN' ?ym ?ys ?_; (case ym => k_mem); (case ys => with_unfolding_all rfl)) | (refine' it_neg1b _ sN' ?ym ?ys ?_; (case ym => k_mem); (case ys => with_unfolding_all rfl)))))) | ((k_here; (with_reducible show wpAny _ _ (subscriptTail (Expr.Subscript _ _ _) (Expr.BinOp _ _ _ _) (Value.ref _) (Value.int _ _)) _ _ _); (with_reducible rename News _ _ _ _ => sN'); k_dflt (refine' it_pred _ sN' ?ym ?yi ?yk ?ys ?_; (case ym => k_mem); (case yi => assumption); (case yk => omega); (case ys => with_unfolding_all rfl)); intro _; (try dsimp only))) | ((k_here; (with_reducible show wpAny _ _ (subscriptTail (Expr.Subscript _ _ _) (Expr.Name _ _) (Value.ref _) (Value.int 0 _)) _ _ _); (with_reducible rename News _ _ _ _ => sN'); k_dflt (refine' it_row0 _ sN' ?ym ?yi ?yk ?ys ?_; (case ym => k_mem); (case yi => assumption); (case yk => omega); (case ys => with_unfolding_all rfl)); intro _; (try dsimp only))) | ((k_here; (with_reducible show wpAny _ _ (subscriptTail (Expr.Subscript _ _ _) (Expr.Name _ _) (Value.ref _) (Value.int _ _)) _ _ _); (with_reducible rename News _ _ _ _ => sN'); k_dflt (refine' it_row _ sN' ?ym ?yi ?yk ?ys ?_; (case ym => k_mem); (case yi => assumption); (case yk => omega); (case ys => with_unfolding_all rfl)); intro _; (try dsimp only))) | ((k_here; (with_reducible show wpAny _ _ (subscriptTail (Expr.Subscript _ _ _) (Expr.UnaryOp _ _ _) (Value.ref _) (Value.int _ _)) _ _ _); (with_reducible rename News _ _ _ _ => sN'); k_dflt (refine' it_last _ sN' ?ym ?yi ?ys ?_; (case ym => k_mem); (case yi => assumption); (case ys => with_unfolding_all rfl)); intro _; (try dsimp only))) | (((with_reducible show wpAny _ _ (subscriptTail (Expr.Name _ _) (Expr.BinOp _ _ _ _) (Value.str _ _) (Value.int _ _)) _ _ _); (k_here; k_dflt (refine' st_pred _ ?yk ?y3 ?ys ?yt ?_; (case yk => omega); (case y3 => omega); (case ys => with_unfolding_all rfl); (case yt => intro _; with_unfolding_all rfl)); intro _ _; (try dsimp only))))); k_steps))
          with_reducible rename Fr _ _ _ _ => F9
          with_reducible rename News _ _ _ _ => N9
          simp only [List.push_toArray] at N9
          refine hQ2 _ _ ?_
          exact rng_end F9 N9 [(C, _), (I, oI), (Tb, _), (P, _)] (by lcg_sub) (List.forall_mem_cons.mpr ⟨.inl e1, List.forall_mem_cons.mpr ⟨.inl e2, List.forall_mem_cons.mpr ⟨.inl e3, List.forall_mem_cons.mpr ⟨.inl e4, List.forall_mem_nil _⟩⟩⟩⟩) (SmI.mk _ _ _ ⟨rfl, rfl, rfl, rfl, trivial⟩ rfl (rowT_push hcv (by rw [cellT_ss, hcc])))
      case done3 =>
        rintro h8 tk8 m2 nx2 F8 N8 ⟨cv, nc, nt, hK2, rfl, hcv⟩
        (k_steps; repeat' (((with_reducible refine held ?_); first | ((k_here; (with_reducible show wpAny _ _ (call (Value.ref 56) _) _ _ _); k_dflt (refine' Clm.use_int (lshC _ _ _ _ _ _ _ _ ?c1 ?c2) ?k1 ?k2 ?k3 ?k4 ?k5 ?kK ?kd ?ku ?kp ?_; (case k1 => k_asm); (case k2 => k_asm); (case k3 => k_asm); (case k4 => k_asm); (case k5 => k_asm); (case kp => exact trivial); (case c1 => first | decide | omega); (case c2 => with_reducible assumption); (case kK => first | exact rfl | assumption); (case kd => ktr_room); (case ku => ktr_units); intro _ _ _ _ _ _; (try dsimp only); (try k_fold); (try k_sweep)))) | ((k_here; (with_reducible show wpAny _ _ (call (Value.ref 63) _ _) _ _ _); k_dflt (refine' Clm.use_int (mulC _ _ _ _ _ _ _ _ ?c1) ?k1 ?k2 ?k3 ?k4 ?k5 ?kK ?kd ?ku ?kp ?_; (case k1 => k_asm); (case k2 => k_asm); (case k3 => k_asm); (case k4 => k_asm); (case k5 => k_asm); (case kp => exact trivial); (case c1 => first | assumption | mul_fits); (case kK => first | exact rfl | assumption); (case kd => ktr_room); (case ku => ktr_units); intro _ _ _ _ _ _; (try dsimp only); (try k_fold); (try k_sweep)))) | ((k_here; (with_reducible show wpAny _ _ (call (Value.ref 42) _ _) _ _ _); k_dflt (refine' Clm.use_int (addC _ _ _ _ _ _ _ _) ?k1 ?k2 ?k3 ?k4 ?k5 ?kK ?kd ?ku ?kp ?_; (case k1 => k_asm); (case k2 => k_asm); (case k3 => k_asm); (case k4 => k_asm); (case k5 => k_asm); (case kp => exact trivial); (case kK => first | exact rfl | assumption); (case kd => ktr_room); (case ku => ktr_units); intro _ _ _ _ _ _; (try dsimp only); (try k_fold); (try k_sweep)))) | ((k_here; (with_reducible show wpAny _ _ (call (Value.ref 21) _ _) _ _ _); k_dflt (refine' Clm.use_int (subC _ _ _ _ _ _ _ _ ?c1 ?c2) ?k1 ?k2 ?k3 ?k4 ?k5 ?kK ?kd ?ku ?kp ?_; (case k1 => k_asm); (case k2 => k_asm); (case k3 => k_asm); (case k4 => k_asm); (case k5 => k_asm); (case kp => exact trivial); (case c1 => kln_le); (case c2 => kln_le); (case kK => first | exact rfl | assumption); (case kd => ktr_room); (case ku => ktr_units); intro _ _ _ _ _ _; (try dsimp only); (try k_fold); (try k_sweep)))) | ((k_here; (with_reducible show wpAny _ _ (call (Value.builtin _) [Value.str _ _]) _ _ _); k_dflt (refine' lenS (fact_mk _) rfl ?yn ?_; (case yn => omega)); intro _ _; (try dsimp only))) | (((with_reducible show wpAny _ _ (subscriptTail (Expr.Name _ _) (Expr.UnaryOp _ _ _) (Value.ref _) (Value.int _ _)) _ _ _); (k_here; (with_reducible rename News _ _ _ _ => sN'); (with_reducible show wpAny _ _ (subscriptTail _ _ _ (Value.int (-2) _)) _ _ _); k_dflt (refine' it_neg2 _ sN' ?ym ?ys ?_; (case ym => k_mem); (case ys => with_unfolding_all rfl))))) | (((with_reducible show wpAny _ _ (subscriptTail (Expr.Name _ _) (Expr.UnaryOp _ _ _) (Value.ref _) (Value.int _ _)) _ _ _); (k_here; (with_reducible rename News _ _ _ _ => sN'); (with_reducible show wpAny _ _ (subscriptTail _ _ _ (Value.int (-1) _)) _ _ _); k_dflt (first | (refine' it_neg1 _ sN' ?ym ?ys ?_; (case ym => k_mem); (case ys => with_unfolding_all rfl)) | (refine' it_neg1b _ sN' ?ym ?ys ?_; (case ym => k_mem); (case ys => with_unfolding_all rfl)))))) | ((k_here; (with_reducible show wpAny _ _ (subscriptTail (Expr.Subscript _ _ _) (Expr.BinOp _ _ _ _) (Value.ref _) (Value.int _ _)) _ _ _); (with_reducible rename News _ _ _ _ => sN'); k_dflt (refine' it_pred _ sN' ?ym ?yi ?yk ?ys ?_; (case ym => k_mem); (case yi => assumption); (case yk => omega); (case ys => with_unfolding_all rfl)); intro _; (try dsimp only))) | ((k_here; (with_reducible show wpAny _ _ (subscriptTail (Expr.Subscript _ _ _) (Expr.Name _ _) (Value.ref _) (Value.int 0 _)) _ _ _); (with_reducible rename News _ _ _ _ => sN'); k_dflt (refine' it_row0 _ sN' ?ym ?yi ?yk ?ys ?_; (case ym => k_mem); (case yi => assumption); (case yk => omega); (case ys => with_unfolding_all rfl)); intro _; (try dsimp only))) | ((k_here; (with_reducible show wpAny _ _ (subscriptTail (Expr.Subscript _ _ _) (Expr.Name _ _) (Value.ref _) (Value.int _ _)) _ _ _); (with_reducible rename News _ _ _ _ => sN'); k_dflt (refine' it_row _ sN' ?ym ?yi ?yk ?ys ?_; (case ym => k_mem); (case yi => assumption); (case yk => omega); (case ys => with_unfolding_all rfl)); intro _; (try dsimp only))) | ((k_here; (with_reducible show wpAny _ _ (subscriptTail (Expr.Subscript _ _ _) (Expr.UnaryOp _ _ _) (Value.ref _) (Value.int _ _)) _ _ _); (with_reducible rename News _ _ _ _ => sN'); k_dflt (refine' it_last _ sN' ?ym ?yi ?ys ?_; (case ym => k_mem); (case yi => assumption); (case ys => with_unfolding_all rfl)); intro _; (try dsimp only))) | (((with_reducible show wpAny _ _ (subscriptTail (Expr.Name _ _) (Expr.BinOp _ _ _ _) (Value.str _ _) (Value.int _ _)) _ _ _); (k_here; k_dflt (refine' st_pred _ ?yk ?y3 ?ys ?yt ?_; (case yk => omega); (case y3 => omega); (case ys => with_unfolding_all rfl); (case yt => intro _; with_unfolding_all rfl)); intro _ _; (try dsimp only))))); k_steps))
        refine hQ1 _ _ ?_
        exact rng_end F8 N8 [(Tb, listOf (olds ++ [Value.ref P] ++ [Value.ref C]).toArray nt), (C, listOf cv.toArray nc)] (by simp only [List.append_assoc, List.cons_append, List.nil_append]; lcg_sub) (List.forall_mem_cons.mpr ⟨.inr rfl, List.forall_mem_cons.mpr ⟨.inr rfl, List.forall_mem_nil _⟩⟩) (SmO.succ (i' + 1) (olds ++ [Value.ref P]) C cv _ _ ⟨hK2.2.1, hK2.2.2.1, hK2.2.2.2.1, trivial⟩ rfl (by simp [hol]) (by omega) rfl hcv)
  case done =>
    try clear rgX
    try clear F3
    try clear N3
    rintro h5 tk5 m5 nx5 F5 N5 hor
    have hK5 := hor.know
    obtain ⟨olds, n, -, e, -, -⟩ | ⟨i', olds, P, pv, n, n', -, e, hol, q3, rfl, hpv⟩ := hor
    · exact absurd e (Nat.succ_ne_zero _)
    obtain rfl := Nat.succ.inj e
    replace F5 := know F5 (l := [("table", .ref Tb)]) ⟨hK5.1, trivial⟩
    (k_steps; repeat' (((with_reducible refine held ?_); first | ((k_here; (with_reducible show wpAny _ _ (call (Value.ref 56) _) _ _ _); k_dflt (refine' Clm.use_int (lshC _ _ _ _ _ _ _ _ ?c1 ?c2) ?k1 ?k2 ?k3 ?k4 ?k5 ?kK ?kd ?ku ?kp ?_; (case k1 => k_asm); (case k2 => k_asm); (case k3 => k_asm); (case k4 => k_asm); (case k5 => k_asm); (case kp => exact trivial); (case c1 => first | decide | omega); (case c2 => with_reducible assumption); (case kK => first | exact rfl | assumption); (case kd => ktr_room); (case ku => ktr_units); intro _ _ _ _ _ _; (try dsimp only); (try k_fold); (try k_sweep)))) | ((k_here; (with_reducible show wpAny _ _ (call (Value.ref 63) _ _) _ _ _); k_dflt (refine' Clm.use_int (mulC _ _ _ _ _ _ _ _ ?c1) ?k1 ?k2 ?k3 ?k4 ?k5 ?kK ?kd ?ku ?kp ?_; (case k1 => k_asm); (case k2 => k_asm); (case k3 => k_asm); (case k4 => k_asm); (case k5 => k_asm); (case kp => exact trivial); (case c1 => first | assumption | mul_fits); (case kK => first | exact rfl | assumption); (case kd => ktr_room); (case ku => ktr_units); intro _ _ _ _ _ _; (try dsimp only); (try k_fold); (try k_sweep)))) | ((k_here; (with_reducible show wpAny _ _ (call (Value.ref 42) _ _) _ _ _); k_dflt (refine' Clm.use_int (addC _ _ _ _ _ _ _ _) ?k1 ?k2 ?k3 ?k4 ?k5 ?kK ?kd ?ku ?kp ?_; (case k1 => k_asm); (case k2 => k_asm); (case k3 => k_asm); (case k4 => k_asm); (case k5 => k_asm); (case kp => exact trivial); (case kK => first | exact rfl | assumption); (case kd => ktr_room); (case ku => ktr_units); intro _ _ _ _ _ _; (try dsimp only); (try k_fold); (try k_sweep)))) | ((k_here; (with_reducible show wpAny _ _ (call (Value.ref 21) _ _) _ _ _); k_dflt (refine' Clm.use_int (subC _ _ _ _ _ _ _ _ ?c1 ?c2) ?k1 ?k2 ?k3 ?k4 ?k5 ?kK ?kd ?ku ?kp ?_; (case k1 => k_asm); (case k2 => k_asm); (case k3 => k_asm); (case k4 => k_asm); (case k5 => k_asm); (case kp => exact trivial); (case c1 => kln_le); (case c2 => kln_le); (case kK => first | exact rfl | assumption); (case kd => ktr_room); (case ku => ktr_units); intro _ _ _ _ _ _; (try dsimp only); (try k_fold); (try k_sweep)))) | ((k_here; (with_reducible show wpAny _ _ (call (Value.builtin _) [Value.str _ _]) _ _ _); k_dflt (refine' lenS (fact_mk _) rfl ?yn ?_; (case yn => omega)); intro _ _; (try dsimp only))) | (((with_reducible show wpAny _ _ (subscriptTail (Expr.Name _ _) (Expr.UnaryOp _ _ _) (Value.ref _) (Value.int _ _)) _ _ _); (k_here; (with_reducible rename News _ _ _ _ => sN'); (with_reducible show wpAny _ _ (subscriptTail _ _ _ (Value.int (-2) _)) _ _ _); k_dflt (refine' it_neg2 _ sN' ?ym ?ys ?_; (case ym => k_mem); (case ys => with_unfolding_all rfl))))) | (((with_reducible show wpAny _ _ (subscriptTail (Expr.Name _ _) (Expr.UnaryOp _ _ _) (Value.ref _) (Value.int _ _)) _ _ _); (k_here; (with_reducible rename News _ _ _ _ => sN'); (with_reducible show wpAny _ _ (subscriptTail _ _ _ (Value.int (-1) _)) _ _ _); k_dflt (first | (refine' it_neg1 _ sN' ?ym ?ys ?_; (case ym => k_mem); (case ys => with_unfolding_all rfl)) | (refine' it_neg1b _ sN' ?ym ?ys ?_; (case ym => k_mem); (case ys => with_unfolding_all rfl)))))) | ((k_here; (with_reducible show wpAny _ _ (subscriptTail (Expr.Subscript _ _ _) (Expr.BinOp _ _ _ _) (Value.ref _) (Value.int _ _)) _ _ _); (with_reducible rename News _ _ _ _ => sN'); k_dflt (refine' it_pred _ sN' ?ym ?yi ?yk ?ys ?_; (case ym => k_mem); (case yi => assumption); (case yk => omega); (case ys => with_unfolding_all rfl)); intro _; (try dsimp only))) | ((k_here; (with_reducible show wpAny _ _ (subscriptTail (Expr.Subscript _ _ _) (Expr.Name _ _) (Value.ref _) (Value.int 0 _)) _ _ _); (with_reducible rename News _ _ _ _ => sN'); k_dflt (refine' it_row0 _ sN' ?ym ?yi ?yk ?ys ?_; (case ym => k_mem); (case yi => assumption); (case yk => omega); (case ys => with_unfolding_all rfl)); intro _; (try dsimp only))) | ((k_here; (with_reducible show wpAny _ _ (subscriptTail (Expr.Subscript _ _ _) (Expr.Name _ _) (Value.ref _) (Value.int _ _)) _ _ _); (with_reducible rename News _ _ _ _ => sN'); k_dflt (refine' it_row _ sN' ?ym ?yi ?yk ?ys ?_; (case ym => k_mem); (case yi => assumption); (case yk => omega); (case ys => with_unfolding_all rfl)); intro _; (try dsimp only))) | ((k_here; (with_reducible show wpAny _ _ (subscriptTail (Expr.Subscript _ _ _) (Expr.UnaryOp _ _ _) (Value.ref _) (Value.int _ _)) _ _ _); (with_reducible rename News _ _ _ _ => sN'); k_dflt (refine' it_last _ sN' ?ym ?yi ?ys ?_; (case ym => k_mem); (case yi => assumption); (case ys => with_unfolding_all rfl)); intro _; (try dsimp only))) | (((with_reducible show wpAny _ _ (subscriptTail (Expr.Name _ _) (Expr.BinOp _ _ _ _) (Value.str _ _) (Value.int _ _)) _ _ _); (k_here; k_dflt (refine' st_pred _ ?yk ?y3 ?ys ?yt ?_; (case yk => omega); (case y3 => omega); (case ys => with_unfolding_all rfl); (case yt => intro _; with_unfolding_all rfl)); intro _ _; (try dsimp only))))); k_steps))
    refine hQ _ _ ?_
    (k_steps; repeat' (((with_reducible refine held ?_); first | ((k_here; (with_reducible show wpAny _ _ (call (Value.ref 56) _) _ _ _); k_dflt (refine' Clm.use_int (lshC _ _ _ _ _ _ _ _ ?c1 ?c2) ?k1 ?k2 ?k3 ?k4 ?k5 ?kK ?kd ?ku ?kp ?_; (case k1 => k_asm); (case k2 => k_asm); (case k3 => k_asm); (case k4 => k_asm); (case k5 => k_asm); (case kp => exact trivial); (case c1 => first | decide | omega); (case c2 => with_reducible assumption); (case kK => first | exact rfl | assumption); (case kd => ktr_room); (case ku => ktr_units); intro _ _ _ _ _ _; (try dsimp only); (try k_fold); (try k_sweep)))) | ((k_here; (with_reducible show wpAny _ _ (call (Value.ref 63) _ _) _ _ _); k_dflt (refine' Clm.use_int (mulC _ _ _ _ _ _ _ _ ?c1) ?k1 ?k2 ?k3 ?k4 ?k5 ?kK ?kd ?ku ?kp ?_; (case k1 => k_asm); (case k2 => k_asm); (case k3 => k_asm); (case k4 => k_asm); (case k5 => k_asm); (case kp => exact trivial); (case c1 => first | assumption | mul_fits); (case kK => first | exact rfl | assumption); (case kd => ktr_room); (case ku => ktr_units); intro _ _ _ _ _ _; (try dsimp only); (try k_fold); (try k_sweep)))) | ((k_here; (with_reducible show wpAny _ _ (call (Value.ref 42) _ _) _ _ _); k_dflt (refine' Clm.use_int (addC _ _ _ _ _ _ _ _) ?k1 ?k2 ?k3 ?k4 ?k5 ?kK ?kd ?ku ?kp ?_; (case k1 => k_asm); (case k2 => k_asm); (case k3 => k_asm); (case k4 => k_asm); (case k5 => k_asm); (case kp => exact trivial); (case kK => first | exact rfl | assumption); (case kd => ktr_room); (case ku => ktr_units); intro _ _ _ _ _ _; (try dsimp only); (try k_fold); (try k_sweep)))) | ((k_here; (with_reducible show wpAny _ _ (call (Value.ref 21) _ _) _ _ _); k_dflt (refine' Clm.use_int (subC _ _ _ _ _ _ _ _ ?c1 ?c2) ?k1 ?k2 ?k3 ?k4 ?k5 ?kK ?kd ?ku ?kp ?_; (case k1 => k_asm); (case k2 => k_asm); (case k3 => k_asm); (case k4 => k_asm); (case k5 => k_asm); (case kp => exact trivial); (case c1 => kln_le); (case c2 => kln_le); (case kK => first | exact rfl | assumption); (case kd => ktr_room); (case ku => ktr_units); intro _ _ _ _ _ _; (try dsimp only); (try k_fold); (try k_sweep)))) | ((k_here; (with_reducible show wpAny _ _ (call (Value.builtin _) [Value.str _ _]) _ _ _); k_dflt (refine' lenS (fact_mk _) rfl ?yn ?_; (case yn => omega)); intro _ _; (try dsimp only))) | (((with_reducible show wpAny _ _ (subscriptTail (Expr.Name _ _) (Expr.UnaryOp _ _ _) (Value.ref _) (Value.int _ _)) _ _ _); (k_here; (with_reducible rename News _ _ _ _ => sN'); (with_reducible show wpAny _ _ (subscriptTail _ _ _ (Value.int (-2) _)) _ _ _); k_dflt (refine' it_neg2 _ sN' ?ym ?ys ?_; (case ym => k_mem); (case ys => with_unfolding_all rfl))))) | (((with_reducible show wpAny _ _ (subscriptTail (Expr.Name _ _) (Expr.UnaryOp _ _ _) (Value.ref _) (Value.int _ _)) _ _ _); (k_here; (with_reducible rename News _ _ _ _ => sN'); (with_reducible show wpAny _ _ (subscriptTail _ _ _ (Value.int (-1) _)) _ _ _); k_dflt (first | (refine' it_neg1 _ sN' ?ym ?ys ?_; (case ym => k_mem); (case ys => with_unfolding_all rfl)) | (refine' it_neg1b _ sN' ?ym ?ys ?_; (case ym => k_mem); (case ys => with_unfolding_all rfl)))))) | ((k_here; (with_reducible show wpAny _ _ (subscriptTail (Expr.Subscript _ _ _) (Expr.BinOp _ _ _ _) (Value.ref _) (Value.int _ _)) _ _ _); (with_reducible rename News _ _ _ _ => sN'); k_dflt (refine' it_pred _ sN' ?ym ?yi ?yk ?ys ?_; (case ym => k_mem); (case yi => assumption); (case yk => omega); (case ys => with_unfolding_all rfl)); intro _; (try dsimp only))) | ((k_here; (with_reducible show wpAny _ _ (subscriptTail (Expr.Subscript _ _ _) (Expr.Name _ _) (Value.ref _) (Value.int 0 _)) _ _ _); (with_reducible rename News _ _ _ _ => sN'); k_dflt (refine' it_row0 _ sN' ?ym ?yi ?yk ?ys ?_; (case ym => k_mem); (case yi => assumption); (case yk => omega); (case ys => with_unfolding_all rfl)); intro _; (try dsimp only))) | ((k_here; (with_reducible show wpAny _ _ (subscriptTail (Expr.Subscript _ _ _) (Expr.Name _ _) (Value.ref _) (Value.int _ _)) _ _ _); (with_reducible rename News _ _ _ _ => sN'); k_dflt (refine' it_row _ sN' ?ym ?yi ?yk ?ys ?_; (case ym => k_mem); (case yi => assumption); (case yk => omega); (case ys => with_unfolding_all rfl)); intro _; (try dsimp only))) | ((k_here; (with_reducible show wpAny _ _ (subscriptTail (Expr.Subscript _ _ _) (Expr.UnaryOp _ _ _) (Value.ref _) (Value.int _ _)) _ _ _); (with_reducible rename News _ _ _ _ => sN'); k_dflt (refine' it_last _ sN' ?ym ?yi ?ys ?_; (case ym => k_mem); (case yi => assumption); (case ys => with_unfolding_all rfl)); intro _; (try dsimp only))) | (((with_reducible show wpAny _ _ (subscriptTail (Expr.Name _ _) (Expr.BinOp _ _ _ _) (Value.str _ _) (Value.int _ _)) _ _ _); (k_here; k_dflt (refine' st_pred _ ?yk ?y3 ?ys ?yt ?_; (case yk => omega); (case y3 => omega); (case ys => with_unfolding_all rfl); (case yt => intro _; with_unfolding_all rfl)); intro _ _; (try dsimp only))))); k_steps))
    exact ret_int hret (kept_end G1 F5) rfl
end
end Mine
end
section
open PySem PySem.W PyProof.Rows PySem.Calls PySem.Spec
set_option maxRecDepth 100000
set_option maxHeartbeats 1000000
set_option linter.unusedVariables false
namespace Mine
section
variable (w : World) (mean : ExcName → Option Value) (mg mb : PySem.Str → Option Value)
theorem cell22 (c : Nat → Nat → Int) : cellT c 2 2 = sum22 (pw (c 0 0)) (pw (c 0 1)) (pw (c 1 0)) (pw (c 1 1)) := by
  have q16 : (2 : Int) ^ (16 : Int).toNat = 65536 := by decide
  simp only [cellT_00, cellT_0s, cellT_s0, cellT_ss, sum22, pw, q16, Int.zero_add, Int.one_mul]
  generalize (2 : Int) ^ (8 * c 0 0).toNat = p1
  generalize (2 : Int) ^ (8 * c 0 1).toNat = p2
  generalize (2 : Int) ^ (8 * c 1 0).toNat = p3
  generalize (2 : Int) ^ (8 * c 1 1).toNat = p4
  grind
theorem cell13 (c : Nat → Nat → Int) : cellT c 1 3 = sum13 (pw (c 0 0)) (pw (c 0 1)) (pw (c 0 2)) := by
  have q16 : (2 : Int) ^ (16 : Int).toNat = 65536 := by decide
  simp only [cellT_00, cellT_0s, cellT_s0, cellT_ss, sum13, pw, q16, Int.zero_add, Int.one_mul]
  generalize (2 : Int) ^ (8 * c 0 0).toNat = p1
  generalize (2 : Int) ^ (8 * c 0 1).toNat = p2
  generalize (2 : Int) ^ (8 * c 0 2).toNat = p3
  grind
theorem cell31 (c : Nat → Nat → Int) : cellT c 3 1 = sum31 (pw (c 0 0)) (pw (c 1 0)) (pw (c 2 0)) := by
  have q16 : (2 : Int) ^ (16 : Int).toNat = 65536 := by decide
  simp only [cellT_00, cellT_0s, cellT_s0, cellT_ss, sum31, pw, q16, Int.zero_add, Int.one_mul]
  generalize (2 : Int) ^ (8 * c 0 0).toNat = p1
  generalize (2 : Int) ^ (8 * c 1 0).toNat = p2
  generalize (2 : Int) ^ (8 * c 2 0).toNat = p3
  grind
theorem sums22C (x1 x2 y1 y2 : Nat) (tx ty : Tok) :
    Clm w mean mg mb 106 3 [Value.str ⟨#[x1, x2]⟩ tx, Value.str ⟨#[y1, y2]⟩ ty] Any (Gives (sum22 (pw (subCost ⟨#[x1]⟩ ⟨#[y1]⟩)) (pw (subCost ⟨#[x1]⟩ ⟨#[y2]⟩)) (pw (subCost ⟨#[x2]⟩ ⟨#[y1]⟩)) (pw (subCost ⟨#[x2]⟩ ⟨#[y2]⟩)))) := by
  have h := sumsC w mean mg mb [x1, x2] [y1, y2] (Nat.le_of_ble_eq_true rfl) (Nat.le_of_ble_eq_true rfl) tx ty
  simp only [List.length_cons, List.length_nil, Nat.zero_add, Nat.reduceAdd] at h
  rw [cell22] at h
  simp only [List.getD_cons_zero, List.getD_cons_succ] at h
  exact h
theorem sums13C (x1 y1 y2 y3 : Nat) (tx ty : Tok) :
    Clm w mean mg mb 106 3 [Value.str ⟨#[x1]⟩ tx, Value.str ⟨#[y1, y2, y3]⟩ ty] Any (Gives (sum13 (pw (subCost ⟨#[x1]⟩ ⟨#[y1]⟩)) (pw (subCost ⟨#[x1]⟩ ⟨#[y2]⟩)) (pw (subCost ⟨#[x1]⟩ ⟨#[y3]⟩)))) := by
  have h := sumsC w mean mg mb [x1] [y1, y2, y3] (Nat.le_of_ble_eq_true rfl) (Nat.le_of_ble_eq_true rfl) tx ty
  simp only [List.length_cons, List.length_nil, Nat.zero_add, Nat.reduceAdd] at h
  rw [cell13] at h
  simp only [List.getD_cons_zero, List.getD_cons_succ] at h
  exact h
theorem sums31C (x1 x2 x3 y1 : Nat) (tx ty : Tok) :
    Clm w mean mg mb 106 3 [Value.str ⟨#[x1, x2, x3]⟩ tx, Value.str ⟨#[y1]⟩ ty] Any (Gives (sum31 (pw (subCost ⟨#[x1]⟩ ⟨#[y1]⟩)) (pw (subCost ⟨#[x2]⟩ ⟨#[y1]⟩)) (pw (subCost ⟨#[x3]⟩ ⟨#[y1]⟩)))) := by
  have h := sumsC w mean mg mb [x1, x2, x3] [y1] (Nat.le_of_ble_eq_true rfl) (Nat.le_of_ble_eq_true rfl) tx ty
  simp only [List.length_cons, List.length_nil, Nat.zero_add, Nat.reduceAdd] at h
  rw [cell31] at h
  simp only [List.getD_cons_zero, List.getD_cons_succ] at h
  exact h
end
end Mine
end
section
open PySem PySem.W PyProof.Rows PySem.Calls PySem.Spec PySem.Builtin PySem.Builtin.Str
set_option linter.unusedVariables false
namespace Mine
theorem slD : ∀ (xs : List Nat) (k : Nat), xs.length ≤ 3 → k ≤ xs.length → Txt.slice ⟨xs.toArray⟩ (some (k : Int)) none = ⟨(xs.drop k).toArray⟩
  | [], 0, _, _ => s0_0
  | [_], 0, _, _ => s1_0
  | [_], 1, _, _ => s1_1
  | [_, _], 0, _, _ => s2_0
  | [_, _], 1, _, _ => s2_1
  | [_, _], 2, _, _ => s2_2
  | [_, _, _], 0, _, _ => s3_0
  | [_, _, _], 1, _, _ => s3_1
  | [_, _, _], 2, _, _ => s3_2
  | [_, _, _], 3, _, _ => sl_eq 3 [] rfl (by decide) rfl
  | _ :: _ :: _ :: _ :: _, _, h, _ => absurd h (by simp)
theorem slT : ∀ (xs : List Nat) (p : Nat), xs.length ≤ 3 → p + 1 ≤ xs.length → Txt.slice ⟨xs.toArray⟩ none (some (-((p + 1 : Nat) : Int))) = ⟨(xs.take (xs.length - (p + 1))).toArray⟩
  | [_], 0, _, _ => n1_1
  | [_, _], 0, _, _ => n2_1
  | [_, _], 1, _, _ => sl_eq 2 [] rfl (by decide) rfl
  | [_, _, _], 0, _, _ => n3_1
  | [_, _, _], 1, _, _ => sl_eq 3 [0] rfl (by decide) rfl
  | [_, _, _], 2, _, _ => sl_eq 3 [] rfl (by decide) rfl
  | _ :: _ :: _ :: _ :: _, _, h, _ => absurd h (by simp)
theorem slT' {xs : List Nat} {p : Nat} (h3 : xs.length ≤ 3) (h1 : 1 ≤ p) (h : p ≤ xs.length) : Txt.slice ⟨xs.toArray⟩ none (some (-(p : Int))) = ⟨(xs.take (xs.length - p)).toArray⟩ := by
  obtain ⟨q, rfl⟩ : ∃ q, p = q + 1 := Nat.exists_eq_add_of_le' h1
  exact slT xs q h3 h
theorem slN : ∀ (xs : List Nat), xs.length ≤ 3 → Txt.slice ⟨xs.toArray⟩ none none = ⟨xs.toArray⟩
  | [], _ => n0_n
  | [_], _ => n1_n
  | [_, _], _ => n2_n
  | [_, _, _], _ => n3_n
  | _ :: _ :: _ :: _ :: _, h => absurd h (by simp)
theorem sl_size {xs : List Nat} (h : xs.length ≤ 3) : (⟨xs.toArray⟩ : PySem.Str).length ≤ sizeLine := by rw [fact_mk]; exact Nat.le_trans h (by decide)
theorem itK {xs : List Nat} {k : Nat} (h : k < xs.length) : Txt.item ⟨xs.toArray⟩ (k : Int) = ⟨#[xs.getD k 0]⟩ := item_meets (n := xs.getD k 0) (by omega) (by show xs.toArray[k]? = _; simp [List.getD, h])
theorem itM : ∀ (xs : List Nat) (p : Nat), xs.length ≤ 3 → p < xs.length → Txt.item ⟨xs.toArray⟩ (-(p : Int) - 1) = ⟨#[xs.getD (xs.length - (p + 1)) 0]⟩
  | [_], 0, _, _ => rfl
  | [_, _], 0, _, _ => rfl
  | [_, _], 1, _, _ => rfl
  | [_, _, _], 0, _, _ => rfl
  | [_, _, _], 1, _, _ => rfl
  | [_, _, _], 2, _, _ => rfl
  | _ :: _ :: _ :: _ :: _, _, h, _ => absurd h (by simp)
theorem one_eq {a b : Nat} (h : ((⟨#[a]⟩ : PySem.Str) == ⟨#[b]⟩) = true) : a = b := by simpa using h
theorem take_next {xs ys : List Nat} {k : Nat} (hx : k < xs.length) (hy : k < ys.length) (h : xs.take k = ys.take k) (e : xs.getD k 0 = ys.getD k 0) : xs.take (k + 1) = ys.take (k + 1) := by
  rw [List.take_add_one, List.take_add_one, h]
  simp [List.getD, hx, hy] at e
  simp [hx, hy, e]
theorem drop_next {xs ys : List Nat} {p : Nat} (hx : p < xs.length) (hy : p < ys.length) (h : xs.drop (xs.length - p) = ys.drop (ys.length - p)) (e : xs.getD (xs.length - (p + 1)) 0 = ys.getD (ys.length - (p + 1)) 0) : xs.drop (xs.length - (p + 1)) = ys.drop (ys.length - (p + 1)) := by
  have hx' : xs.length - (p + 1) < xs.length := Nat.sub_lt (Nat.lt_of_le_of_lt (Nat.zero_le _) hx) (Nat.succ_pos _)
  have hy' : ys.length - (p + 1) < ys.length := Nat.sub_lt (Nat.lt_of_le_of_lt (Nat.zero_le _) hy) (Nat.succ_pos _)
  rw [List.drop_eq_getElem_cons hx', List.drop_eq_getElem_cons hy', show xs.length - (p + 1) + 1 = xs.length - p from Nat.succ_pred_eq_of_pos (Nat.sub_pos_of_lt hx), show ys.length - (p + 1) + 1 = ys.length - p from Nat.succ_pred_eq_of_pos (Nat.sub_pos_of_lt hy), h]
  simp [List.getD, hx', hy'] at e
  rw [e]
/-- the table that the two loops fill: row j + 1 by the sign j of the longer word -/
noncomputable def lvR (p cj : Nat → Int) (j : Nat) : Nat → Int
  | 0 => (j : Int) * 2
  | i + 1 => min (min (lvR p cj j i) (p (i + 1)) + 2) ((if i = 0 then (j : Int) * 2 else p i) + cj i)
noncomputable def lvV (c : Nat → Nat → Int) : Nat → Nat → Int
  | 0 => fun i => 2 + (i : Int) * 2 - 2
  | j + 1 => lvR (lvV c j) (c j) j
theorem lvV_0 (c : Nat → Nat → Int) (i : Nat) : lvV c 0 i = 2 + (i : Int) * 2 - 2 := rfl
noncomputable def lvD (c : Nat → Nat → Int) (j i : Nat) : Int := if i = 0 then (j : Int) * 2 else lvV c j i
theorem lvV_s0 (c : Nat → Nat → Int) (j : Nat) : lvV c (j + 1) 0 = (j : Int) * 2 := rfl
theorem lvV_ss (c : Nat → Nat → Int) (j i : Nat) : lvV c (j + 1) (i + 1) = min (min (lvV c (j + 1) i) (lvV c j (i + 1)) + 2) (lvD c j i + c j i) := rfl
theorem lvD_s (c : Nat → Nat → Int) (j i : Nat) : lvD c j (i + 1) = lvV c j (i + 1) := rfl
theorem lv_step (x y d e : Int) : (if d + e < (if y < x then y else x) + 2 then d + e else (if y < x then y else x) + 2) = min (min x y + 2) (d + e) := by
  rw [lt_min, lt_min]
noncomputable def lvM (c : Nat → Nat → Int) (j i n : Nat) : List Int := (List.range n).map fun k => if k < i then lvV c (j + 1) (k + 1) else lvV c j (k + 1)
theorem lvM_len (c : Nat → Nat → Int) (j i n : Nat) : (lvM c j i n).length = n := by unfold lvM; simp
theorem lvM_get (c : Nat → Nat → Int) {j i n : Nat} (h : i < n) : (lvM c j i n)[i]? = some (lvV c j (i + 1)) := by
  unfold lvM
  rw [List.getElem?_map, List.getElem?_range h]
  simp
theorem lvM_getD (c : Nat → Nat → Int) {j i n : Nat} (h : i < n) : (lvM c j i n).getD i 0 = lvV c j (i + 1) := by rw [List.getD, lvM_get c h]; rfl
theorem lvM_set (c : Nat → Nat → Int) {j i n : Nat} {x : Int} (e : x = lvV c (j + 1) (i + 1)) : (lvM c j i n).set i x = lvM c j (i + 1) n := by
  subst e
  apply List.ext_getElem?
  intro k
  rw [List.getElem?_set]
  unfold lvM
  simp only [List.getElem?_map, List.length_map, List.length_range]
  by_cases hk : k < n
  · rw [List.getElem?_range hk]
    by_cases e : i = k
    · subst e; simp [hk]
    · simp [e]
      by_cases hki : k < i
      · rw [if_pos hki, if_pos (by omega)]
      · rw [if_neg hki, if_neg (by omega)]
  · have hn : (List.range n)[k]? = none := by simp; omega
    rw [hn]
    by_cases e : i = k
    · subst e; simp [hk]
    · simp [e]
theorem lvM_last (c : Nat → Nat → Int) (j n : Nat) : lvM c j n n = lvM c (j + 1) 0 n := by
  unfold lvM
  apply List.map_congr_left
  intro k hk
  simp at hk
  simp [hk]
noncomputable def DpOk (a b : List Nat) (mc z : Int) : Prop := ((b.length : Int) - a.length) * 2 ≤ mc ∧ lvV (fun j i => subCost ⟨#[b.getD j 0]⟩ ⟨#[a.getD i 0]⟩) b.length a.length = z ∧ ∀ j, j < b.length → ∃ i, i < a.length ∧ lvV (fun j i => subCost ⟨#[b.getD j 0]⟩ ⟨#[a.getD i 0]⟩) (j + 1) (i + 1) ≤ mc
noncomputable def LevOk (u v : List Nat) (mc z : Int) : Prop := (u = [] ∨ v = [] → 2 * ((u.length : Int) + v.length) = z) ∧ (u ≠ [] → v ≠ [] → (u.length ≤ v.length → DpOk u v mc z) ∧ (v.length < u.length → DpOk v u mc z))
inductive LvA (g1 : Heap) (L1 : Addr) (s : Shared) (mc : Int) (tm : Tok) (nm : PySem.Str) (val : Nat → Int) (xs ys : List Nat) (P : Nat → Prop) (s' : Shared) : Prop
  | mk (h' : Heap) (tk k : Nat) (tp ta tb : Tok) (u : PySem.Str → Option Value) (e : s' = { s with heap := h', toks := tk }) (F : Fr g1 L1 h' (told [("a", .str ⟨xs.toArray⟩ ta), ("b", .str ⟨ys.toArray⟩ tb), ("max_cost", .int mc tm), (nm, .int (val k) tp)] u)) (N : News g1 L1 h' []) (p : P k)
inductive LvB (g1 : Heap) (L1 : Addr) (s : Shared) (mc : Int) (tm : Tok) (P : List Nat → List Nat → Prop) (s' : Shared) : Prop
  | mk (h' : Heap) (tk : Nat) (us vs : List Nat) (ta tb : Tok) (u : PySem.Str → Option Value) (e : s' = { s with heap := h', toks := tk }) (F : Fr g1 L1 h' (told [("a", .str ⟨us.toArray⟩ ta), ("b", .str ⟨vs.toArray⟩ tb), ("max_cost", .int mc tm)] u)) (N : News g1 L1 h' []) (p : P us vs)
inductive LvR (us vs : List Nat) (ta tb tm : Tok) (mc : Int) (R : Addr) (c : Nat → Nat → Int) (j : Nat) (m : PySem.Str → Option Value) (nx : List (Addr × Obj)) : Prop
  | mk (tr : Tok) (rv : List Value) (rc : Nat) (K : Knows m [("a", .str ⟨us.toArray⟩ ta), ("b", .str ⟨vs.toArray⟩ tb), ("max_cost", .int mc tm), ("row", .ref R), ("result", .int (if j = 0 then 0 else lvV c j us.length) tr)]) (e : nx = [(R, listOf rv.toArray rc)]) (i : IntsAre rv (lvM c j 0 us.length))
inductive LvI (us vs : List Nat) (ta tb tm : Tok) (mc : Int) (R I : Addr) (oI : Obj) (c : Nat → Nat → Int) (j i : Nat) (m : PySem.Str → Option Value) (nx : List (Addr × Obj)) : Prop
  | mk (tb' td tr : Tok) (mn : Int) (tn : Tok) (rv : List Value) (rc : Nat) (K : Knows m [("a", .str ⟨us.toArray⟩ ta), ("b", .str ⟨vs.toArray⟩ tb), ("max_cost", .int mc tm), ("row", .ref R), ("bchar", .str ⟨#[vs.getD j 0]⟩ tb'), ("distance", .int (lvD c j i) td), ("result", .int (lvV c (j + 1) i) tr), ("minimum", .int mn tn)]) (p : ∀ k, k < i → mn ≤ lvV c (j + 1) (k + 1)) (e : nx = [(I, oI), (R, listOf rv.toArray rc)]) (ii : IntsAre rv (lvM c j i us.length))
theorem rng_lev : ∀ n : Nat, n ≤ 3 → Builtin.Range.small 2 (2 * ((n : Int) + 1)) 2 = true ∧ Builtin.Range.rangeSize 2 (2 * ((n : Int) + 1)) 2 = n := by
  intro n hn
  exact (by decide : ∀ n : Nat, n < 4 → Builtin.Range.small 2 (2 * ((n : Int) + 1)) 2 = true ∧ Builtin.Range.rangeSize 2 (2 * ((n : Int) + 1)) 2 = n) n (Nat.lt_succ_of_le hn)
theorem ints_of {vs : List Value} {ns : List Int} (hl : vs.length = ns.length) (h : ∀ i v, vs[i]? = some v → ∃ t, v = Value.int (ns.getD i 0) t) : IntsAre vs ns := by
  induction vs generalizing ns with
  | nil => cases ns with
    | nil => exact .nil
    | cons => simp at hl
  | cons v vs ih =>
    cases ns with
    | nil => simp at hl
    | cons x ns =>
      obtain ⟨t, rfl⟩ := h 0 v rfl
      exact .cons x t (ih (by simpa using hl) fun i v' hv => h (i + 1) v' hv)
section
variable {prog : Program} {w : World} {A : Around} {E : Value → Shared → Prop} {s : Shared} {h₀ : Heap} {L l : Addr} {m : PySem.Str → Option Value} {news : List (Addr × Obj)} {value slice : PySem.Expr} {u : Tok} {Q : Value → Shared → Prop}
theorem rlistN {n : Nat} {r : Addr} {t u v : Tok} {c : Nat → Nat → Int} (_hc : ∀ i j, 0 ≤ c i j ∧ c i j ≤ 2) (hh : A.handled = none) (F : Fr h₀ L s.heap m) (N : News h₀ L s.heap news) (hr : IsRange s.heap r 2 (2 * ((n : Int) + 1)) 2 t u v) (hn : n ≤ 3)
    (h : ∀ D c' vs h' tk, Fr h₀ L h' m → News h₀ L h' ((D, listOf (vs : List Value).toArray c') :: news) → (∀ p ∈ news, p.1 < D) → IntsAre vs (lvM c 0 0 n) → Q (.ref D) { s with heap := h', toks := tk }) :
    wpAny (model prog w) A (call (.type "list") [.ref r]) Q E s := by
  refine call_list_range hh hr (rng_lev n hn).1 (rng_lev n hn).2 (by omega) fun h' tk acc c' hk hD hI => ?_
  obtain ⟨vs⟩ := acc
  refine h _ c' vs h' tk (F.keeps hk) (news_pushed F N hk hD rfl) (fun p hp => Heap.lt_size (N p hp).1) (ints_of ?_ ?_)
  · rw [lvM_len]; exact hI.1
  · intro i v hv
    obtain ⟨t, rfl⟩ := hI.2 i v (by simpa using hv)
    have hi : i < n := by
      have : i < vs.length := (List.getElem?_eq_some_iff.mp hv).1
      rw [show vs.length = n from hI.1] at this
      exact this
    refine ⟨t, ?_⟩
    have : (lvM c 0 0 n).getD i 0 = 2 + (i : Int) * 2 := by
      unfold lvM
      rw [List.getD, List.getElem?_map, List.getElem?_range hi]
      simp [lvV_0]
      omega
    rw [this]
theorem it_lv {c : Nat → Nat → Int} {i j n : Nat} {vs : List Value} {cc : Nat} (N : News h₀ L s.heap news) (hm : (l, listOf vs.toArray cc) ∈ news) (hi : IntsAre vs (lvM c j i n)) (hj : i < n ∧ n < 10)
    (hs : subscripted slice false (.ref l) (.int (i : Nat) u) = operate [.ref l, .int (i : Nat) u] (getItem (.ref l) (.int (i : Nat) u))) (h : ∀ t, Q (.int (lvV c j (i + 1)) t) s) : wpAny (model prog w) A (subscriptTail value slice (.ref l) (.int (i : Nat) u)) Q E s := by
  obtain ⟨t, ht⟩ := hi.get i _ (lvM_get c hj.1)
  exact item_listR (items := vs.toArray) ⟨_, (N _ hm).1, rfl, cc, rfl⟩ (by omega) (by omega) (by simpa using ht) (h t) hs
theorem st_at {xs : List Nat} {i : Nat} {t : Tok} {hp : Heap} {gg : Array GenState} {dd : Drawn} {tk : Nat} {oo : OsState} (hi : i < xs.length) (h3 : xs.length ≤ 3)
    (hs : subscripted slice false (.str ⟨xs.toArray⟩ t) (.int (i : Nat) u) = operate [.str ⟨xs.toArray⟩ t, .int (i : Nat) u] (getItem (.str ⟨xs.toArray⟩ t) (.int (i : Nat) u)))
    (ht : ∀ r, letTemporaryGo value (.str ⟨xs.toArray⟩ t) r = pure ()) (h : ∀ t' k, Q (.str ⟨#[xs.getD i 0]⟩ t') ⟨hp, gg, dd, k, oo⟩) :
    wpAny (model prog w) A (subscriptTail value slice (.str ⟨xs.toArray⟩ t) (.int (i : Nat) u)) Q E ⟨hp, gg, dd, tk, oo⟩ :=
  titem' (i' := (i : Nat)) rfl (itK hi) rfl (by rw [fact_mk]; omega) (by rw [fact_mk]; omega) (by unfold fitsSsize; simp; omega) hs ht h
theorem st_m {xs : List Nat} {p : Nat} {t : Tok} {hp : Heap} {gg : Array GenState} {dd : Drawn} {tk : Nat} {oo : OsState} (hi : p < xs.length) (h3 : xs.length ≤ 3)
    (hs : subscripted slice false (.str ⟨xs.toArray⟩ t) (.int (-(p : Int) - 1) u) = operate [.str ⟨xs.toArray⟩ t, .int (-(p : Int) - 1) u] (getItem (.str ⟨xs.toArray⟩ t) (.int (-(p : Int) - 1) u)))
    (ht : ∀ r, letTemporaryGo value (.str ⟨xs.toArray⟩ t) r = pure ()) (h : ∀ t' k, Q (.str ⟨#[xs.getD (xs.length - (p + 1)) 0]⟩ t') ⟨hp, gg, dd, k, oo⟩) :
    wpAny (model prog w) A (subscriptTail value slice (.str ⟨xs.toArray⟩ t) (.int (-(p : Int) - 1) u)) Q E ⟨hp, gg, dd, tk, oo⟩ :=
  titem' (i' := -(p : Int) - 1) rfl (itM xs p h3 hi) rfl (by rw [fact_mk]; omega) (by rw [fact_mk]; omega) (by unfold fitsSsize; simp; omega) hs ht h
theorem truthy_z {a : Int} {t : Tok} {Q : Bool → Shared → Prop} (ha : a = 0) (h : Q false s) : wpAny (model prog w) A (PySem.truthy (.int a t)) Q E s := truthy_int (by rw [show (a != 0) = false by rw [ha]; rfl]; exact h)
theorem tru_f {xs : List Nat} {t : Tok} {hp : Heap} {gg : Array GenState} {dd : Drawn} {tk : Nat} {oo : OsState} {Q' : Bool → Shared → Prop} (e : xs.length = 0) (h : ∀ k, Q' false ⟨hp, gg, dd, k, oo⟩) : wpAny (model prog w) A (PySem.truthy (.str ⟨xs.toArray⟩ t)) Q' E ⟨hp, gg, dd, tk, oo⟩ := truF (by rw [fact_mk]; exact e) h
theorem tru_t {xs : List Nat} {t : Tok} {hp : Heap} {gg : Array GenState} {dd : Drawn} {tk : Nat} {oo : OsState} {Q' : Bool → Shared → Prop} (e : 0 < xs.length ∧ xs.length ≤ 16) (h : ∀ k, Q' true ⟨hp, gg, dd, k, oo⟩) : wpAny (model prog w) A (PySem.truthy (.str ⟨xs.toArray⟩ t)) Q' E ⟨hp, gg, dd, tk, oo⟩ := truT (n := xs.length - 1) (by rw [fact_mk]; omega) (by omega) h
end
section
variable {α : Type} {M : Model} {A : Around} {E : Value → Shared → Prop} {t : Sem α} {Q : α → Shared → Prop} {s : Shared}
theorem gQb (h : ∀ Q' : α → Shared → Prop, (∀ a s, Q a s → Q' a s) → wpAny M A t Q' E s) : wpAny M A t Q E s := h Q fun _ _ h => h
end
end Mine
end
section
open PySem PySem.W PyProof.Rows PySem.Calls PySem.Spec
set_option maxRecDepth 100000
set_option maxHeartbeats 8000000
set_option linter.unusedVariables false
set_option linter.unusedSimpArgs false
namespace Mine
local macro_rules | `(tactic| walk_at "call ref") => `(tactic| (refine hold ?_))
local macro_rules | `(tactic| kln_le) => `(tactic| exact Nat.le_of_ble_eq_true rfl)
local macro_rules | `(tactic| walk_at "exec For Name Call cons nil") => `(tactic| (refine hold ?_))
local macro_rules | `(tactic| walk_at "call type:list") => `(tactic| (k_here; (rename IsRange _ _ _ _ _ _ _ _ => rgX); (with_reducible rename Fr _ _ _ _ => rF'); (with_reducible rename News _ _ _ _ => rN'); (with_reducible rename ∀ _ _, 0 ≤ _ ∧ _ ≤ _ => hcI'); k_dflt (refine' rlistN hcI' rfl rF' rN' rgX ?yn ?_; (case yn => first | with_reducible assumption | omega)); intro D' c' vs' h' tk' F' N' l1 i1'; (try k_lt l1); (try clear rgX); (try k_sweep)))
local macro_rules | `(tactic| walk_at "subscriptTail Name Name ref int") => `(tactic| (refine hold ?_))
local macro_rules | `(tactic| walk_at "exec Assign cons Subscript") => `(tactic| (k_here; (with_reducible rename MarkA => mkA); (with_reducible show wpAny _ _ (exec (Stmt.Assign [Expr.Name _ _] (Expr.Subscript _ (Expr.Slice _ (some (Expr.BoolOp _ _ _)) _ _) _) _) _) _ _ _); refine hold ?_))
local macro_rules | `(tactic| walk_at "call builtin:len") => `(tactic| (refine hold ?_))
local macro_rules | `(tactic| walk_at "exec While BoolOp cons nil") => `(tactic| (refine hold ?_))
local macro_rules | `(tactic| walk_at "exec If Compare cons nil") => `(tactic| (k_here; (with_reducible rename MarkA => mkA); (with_reducible show wpAny _ _ (exec (Stmt.If _ [Stmt.Assign [Expr.Tuple _ _ _] _ _] _ _) _) _ _ _); refine hold ?_))
local macro_rules | `(tactic| walk_at "WhlRest") => `(tactic| (refine hold ?_))
local macro_rules | `(tactic| walk_at "subscriptTail Name Slice str ref") => `(tactic| (refine hold ?_))
local macro_rules | `(tactic| walk_at "truthy str") => `(tactic| (refine hold ?_))
local macro_rules | `(tactic| walk_at "truthy int") => `(tactic| first | (refine truthy_nz _ (by with_reducible assumption) ?_) | (refine truthy_z (by with_reducible assumption) ?_))
local macro_rules | `(tactic| walk_at "subscriptTail Name Name str int") => `(tactic| (refine hold ?_))
local macro_rules | `(tactic| walk_at "subscriptTail Name BinOp str int") => `(tactic| (refine hold ?_))
section
variable (w : World) (mean : ExcName → Option Value) (mg mb : PySem.Str → Option Value)
theorem levC (xs ys : List Nat) (hx : xs.length ≤ 3) (hy : ys.length ≤ 3) (tx ty tm : Tok) (mc z : Int)
    (H : ∀ p u v q, xs = p ++ u ++ q → ys = p ++ v ++ q → LevOk u v mc z) :
    Clm w mean mg mb 28 3 [Value.str ⟨xs.toArray⟩ tx, Value.str ⟨ys.toArray⟩ ty, Value.int mc tm] Any (Gives z) := by
  unfold Clm
  w_top off
  k_fill
  intro dp un gd cn cs a ccd cl outer A₀ base h₀ L m s Q E B F X N T hk hd hu pre hret
  refine wpAny_call ?_
  k_dflt cell_enter
  refine gE (by passes_own) fun E' pe => ?_
  refine gQ fun Q' hQ => ?_
  (k_steps; repeat' (((with_reducible refine held ?_); first | ((k_here; (with_reducible show wpAny _ _ (call (Value.ref 21) _ _) _ _ _); k_dflt (refine' Clm.use_int (subC _ _ _ _ _ _ _ _ ?c1ø ?c2ø) ?k1ø ?k2ø ?k3ø ?k4ø ?k5ø ?kKø ?kdø ?kuø ?kpø ?_; (case k1ø => k_asm); (case k2ø => k_asm); (case k3ø => k_asm); (case k4ø => k_asm); (case k5ø => k_asm); (case kpø => exact trivial); (case c1ø => kln_le); (case c2ø => kln_le); (case kKø => first | exact rfl | assumption); (case kdø => ktr_room); (case kuø => ktr_units); intro _ _ _ _ _ _; (try dsimp only); (try k_fold); (try k_sweep)))) | (((with_reducible show wpAny _ _ (subscriptTail (Expr.Name _ _) (Expr.Name _ _) (Value.ref _) (Value.int _ _)) _ _ _); (k_here; (with_reducible rename News _ _ _ _ => sN'); k_dflt (refine' it_lv sN' ?ymø ?yiø ?ykø ?ysø ?_; (case ymø => k_mem); (case yiø => assumption); (case ykø => omega); (case ysø => with_unfolding_all rfl)); intro _; (try dsimp only)))) | ((k_here; (with_reducible show wpAny _ _ (call (Value.builtin _) [Value.str _ _]) _ _ _); k_dflt (refine' lenS (fact_mk _) rfl ?ynø ?_; (case ynø => first | with_reducible assumption | omega)); intro _ _; (try dsimp only))) | (((with_reducible show wpAny _ _ (subscriptTail (Expr.Name _ _) (Expr.Slice _ _ _ _) (Value.str _ _) (Value.ref _)) _ _ _); ((with_reducible rename Fr _ _ _ _ => sF'); (with_reducible rename News _ _ _ _ => sN'); first | (refine' tsl_sn (s := ⟨_, _, _, _, _⟩) (slD _ _ (by first | with_reducible assumption | ((try simp only [List.length_drop, List.length_take]); omega)) (by first | with_reducible assumption | ((try simp only [List.length_drop, List.length_take]); omega))) sF' sN' ?q1ø ?q2ø ?zø ?_; (case q1ø => with_unfolding_all rfl); (case q2ø => intro _; with_unfolding_all rfl); (case zø => exact sl_size (by first | with_reducible assumption | ((try simp only [List.length_drop, List.length_take]); omega))); intro _ _ _ _ _) | (refine' tsl_nn (s := ⟨_, _, _, _, _⟩) (slN _ (by first | with_reducible assumption | ((try simp only [List.length_drop, List.length_take]); omega))) sF' sN' ?q1ø ?q2ø ?zø ?_; (case q1ø => with_unfolding_all rfl); (case q2ø => intro _; with_unfolding_all rfl); (case zø => exact sl_size (by first | with_reducible assumption | ((try simp only [List.length_drop, List.length_take]); omega))); intro _ _ _ _ _) | (refine' tsl_ns (s := ⟨_, _, _, _, _⟩) (slT' (by first | with_reducible assumption | ((try simp only [List.length_drop, List.length_take]); omega)) (by first | with_reducible assumption | ((try simp only [List.length_drop, List.length_take]); omega)) (by first | with_reducible assumption | ((try simp only [List.length_drop, List.length_take]); omega))) sF' sN' ?q1ø ?q2ø ?zø ?_; (case q1ø => with_unfolding_all rfl); (case q2ø => intro _; with_unfolding_all rfl); (case zø => exact sl_size (by first | with_reducible assumption | ((try simp only [List.length_drop, List.length_take]); omega))); intro _ _ _ _ _)))) | (((with_reducible show wpAny _ _ (PySem.truthy (Value.str _ _)) _ _ _); (first | (refine tru_f (by first | with_reducible assumption | ((try simp only [List.length_drop, List.length_take]); omega)) ?_; intro _) | (refine tru_t (by first | with_reducible assumption | ((try simp only [List.length_drop, List.length_take]); omega)) ?_; intro _)); (try dsimp only))) | (((with_reducible show wpAny _ _ (subscriptTail (Expr.Name _ _) (Expr.Name _ _) (Value.str _ _) (Value.int _ _)) _ _ _); (k_here; k_dflt (refine' st_at ?ykø ?y3ø ?ysø ?ytø ?_; (case ykø => omega); (case y3ø => omega); (case ysø => with_unfolding_all rfl); (case ytø => intro _; with_unfolding_all rfl)); intro _ _; (try dsimp only)))) | (((with_reducible show wpAny _ _ (subscriptTail (Expr.Name _ _) (Expr.BinOp _ _ _ _) (Value.str _ _) (Value.int _ _)) _ _ _); (k_here; k_dflt (refine' st_m ?ykø ?y3ø ?ysø ?ytø ?_; (case ykø => omega); (case y3ø => omega); (case ysø => with_unfolding_all rfl); (case ytø => intro _; with_unfolding_all rfl)); intro _ _; (try dsimp only))))); k_steps))
  · rename _ = true => a
    have e : xs = ys := by simpa using a
    refine hQ _ _ ?_
    (k_steps; repeat' (((with_reducible refine held ?_); first | ((k_here; (with_reducible show wpAny _ _ (call (Value.ref 21) _ _) _ _ _); k_dflt (refine' Clm.use_int (subC _ _ _ _ _ _ _ _ ?c1ø ?c2ø) ?k1ø ?k2ø ?k3ø ?k4ø ?k5ø ?kKø ?kdø ?kuø ?kpø ?_; (case k1ø => k_asm); (case k2ø => k_asm); (case k3ø => k_asm); (case k4ø => k_asm); (case k5ø => k_asm); (case kpø => exact trivial); (case c1ø => kln_le); (case c2ø => kln_le); (case kKø => first | exact rfl | assumption); (case kdø => ktr_room); (case kuø => ktr_units); intro _ _ _ _ _ _; (try dsimp only); (try k_fold); (try k_sweep)))) | (((with_reducible show wpAny _ _ (subscriptTail (Expr.Name _ _) (Expr.Name _ _) (Value.ref _) (Value.int _ _)) _ _ _); (k_here; (with_reducible rename News _ _ _ _ => sN'); k_dflt (refine' it_lv sN' ?ymø ?yiø ?ykø ?ysø ?_; (case ymø => k_mem); (case yiø => assumption); (case ykø => omega); (case ysø => with_unfolding_all rfl)); intro _; (try dsimp only)))) | ((k_here; (with_reducible show wpAny _ _ (call (Value.builtin _) [Value.str _ _]) _ _ _); k_dflt (refine' lenS (fact_mk _) rfl ?ynø ?_; (case ynø => first | with_reducible assumption | omega)); intro _ _; (try dsimp only))) | (((with_reducible show wpAny _ _ (subscriptTail (Expr.Name _ _) (Expr.Slice _ _ _ _) (Value.str _ _) (Value.ref _)) _ _ _); ((with_reducible rename Fr _ _ _ _ => sF'); (with_reducible rename News _ _ _ _ => sN'); first | (refine' tsl_sn (s := ⟨_, _, _, _, _⟩) (slD _ _ (by first | with_reducible assumption | ((try simp only [List.length_drop, List.length_take]); omega)) (by first | with_reducible assumption | ((try simp only [List.length_drop, List.length_take]); omega))) sF' sN' ?q1ø ?q2ø ?zø ?_; (case q1ø => with_unfolding_all rfl); (case q2ø => intro _; with_unfolding_all rfl); (case zø => exact sl_size (by first | with_reducible assumption | ((try simp only [List.length_drop, List.length_take]); omega))); intro _ _ _ _ _) | (refine' tsl_nn (s := ⟨_, _, _, _, _⟩) (slN _ (by first | with_reducible assumption | ((try simp only [List.length_drop, List.length_take]); omega))) sF' sN' ?q1ø ?q2ø ?zø ?_; (case q1ø => with_unfolding_all rfl); (case q2ø => intro _; with_unfolding_all rfl); (case zø => exact sl_size (by first | with_reducible assumption | ((try simp only [List.length_drop, List.length_take]); omega))); intro _ _ _ _ _) | (refine' tsl_ns (s := ⟨_, _, _, _, _⟩) (slT' (by first | with_reducible assumption | ((try simp only [List.length_drop, List.length_take]); omega)) (by first | with_reducible assumption | ((try simp only [List.length_drop, List.length_take]); omega)) (by first | with_reducible assumption | ((try simp only [List.length_drop, List.length_take]); omega))) sF' sN' ?q1ø ?q2ø ?zø ?_; (case q1ø => with_unfolding_all rfl); (case q2ø => intro _; with_unfolding_all rfl); (case zø => exact sl_size (by first | with_reducible assumption | ((try simp only [List.length_drop, List.length_take]); omega))); intro _ _ _ _ _)))) | (((with_reducible show wpAny _ _ (PySem.truthy (Value.str _ _)) _ _ _); (first | (refine tru_f (by first | with_reducible assumption | ((try simp only [List.length_drop, List.length_take]); omega)) ?_; intro _) | (refine tru_t (by first | with_reducible assumption | ((try simp only [List.length_drop, List.length_take]); omega)) ?_; intro _)); (try dsimp only))) | (((with_reducible show wpAny _ _ (subscriptTail (Expr.Name _ _) (Expr.Name _ _) (Value.str _ _) (Value.int _ _)) _ _ _); (k_here; k_dflt (refine' st_at ?ykø ?y3ø ?ysø ?ytø ?_; (case ykø => omega); (case y3ø => omega); (case ysø => with_unfolding_all rfl); (case ytø => intro _; with_unfolding_all rfl)); intro _ _; (try dsimp only)))) | (((with_reducible show wpAny _ _ (subscriptTail (Expr.Name _ _) (Expr.BinOp _ _ _ _) (Value.str _ _) (Value.int _ _)) _ _ _); (k_here; k_dflt (refine' st_m ?ykø ?y3ø ?ysø ?ytø ?_; (case ykø => omega); (case y3ø => omega); (case ysø => with_unfolding_all rfl); (case ytø => intro _; with_unfolding_all rfl)); intro _ _; (try dsimp only))))); k_steps))
    refine ret_int hret (kept_end (by assumption) (by k_asm)) ?_
    have := (H xs [] [] [] (by simp) (by simp [e])).1 (.inl rfl)
    simpa using this
  · unfold Hold
    with_reducible rename Fr _ _ _ _ => F1
    with_reducible rename News _ _ _ _ => N1
    rename_i g1 L1 h1 FG1 B1 X1 T1 G1 a tk1
    clear a
    refine wpAny_mono (Q := fun f s' => Hold (f = .next ∧ LvA g1 L1 s mc tm "pre" (fun k => (k : Nat)) xs ys (fun k => k ≤ xs.length ∧ k ≤ ys.length ∧ xs.take k = ys.take k) s')) (whl_start 0 ?loop1) ?rest1 fun _ _ e => e
    case loop1 =>
      clear hret H hQ
      refine whl_ind (fun n s' => LvA g1 L1 s mc tm "pre" (fun k => (k : Nat)) xs ys (fun k => (k ≤ xs.length ∧ k ≤ ys.length ∧ xs.take k = ys.take k) ∧ n + k = xs.length) s') ?_ xs.length ?_
      · clear F1 N1
        rintro n s' ⟨h2, tk2, k, tp, ta, tb, u, rfl, F2, N2, hp0⟩ ih
        have hkx := hp0.1.1
        have hky := hp0.1.2.1
        have hkk := hp0.1.2.2
        have hn := hp0.2
        refine whl_turn (by passes_own) ?_
        refine gQb fun QW hQW => ?_
        by_cases hx1 : k < xs.length
        · by_cases hy1 : k < ys.length
          · (k_steps; repeat' (((with_reducible refine held ?_); first | ((k_here; (with_reducible show wpAny _ _ (call (Value.ref 21) _ _) _ _ _); k_dflt (refine' Clm.use_int (subC _ _ _ _ _ _ _ _ ?c1ø ?c2ø) ?k1ø ?k2ø ?k3ø ?k4ø ?k5ø ?kKø ?kdø ?kuø ?kpø ?_; (case k1ø => k_asm); (case k2ø => k_asm); (case k3ø => k_asm); (case k4ø => k_asm); (case k5ø => k_asm); (case kpø => exact trivial); (case c1ø => kln_le); (case c2ø => kln_le); (case kKø => first | exact rfl | assumption); (case kdø => ktr_room); (case kuø => ktr_units); intro _ _ _ _ _ _; (try dsimp only); (try k_fold); (try k_sweep)))) | (((with_reducible show wpAny _ _ (subscriptTail (Expr.Name _ _) (Expr.Name _ _) (Value.ref _) (Value.int _ _)) _ _ _); (k_here; (with_reducible rename News _ _ _ _ => sN'); k_dflt (refine' it_lv sN' ?ymø ?yiø ?ykø ?ysø ?_; (case ymø => k_mem); (case yiø => assumption); (case ykø => omega); (case ysø => with_unfolding_all rfl)); intro _; (try dsimp only)))) | ((k_here; (with_reducible show wpAny _ _ (call (Value.builtin _) [Value.str _ _]) _ _ _); k_dflt (refine' lenS (fact_mk _) rfl ?ynø ?_; (case ynø => first | with_reducible assumption | omega)); intro _ _; (try dsimp only))) | (((with_reducible show wpAny _ _ (subscriptTail (Expr.Name _ _) (Expr.Slice _ _ _ _) (Value.str _ _) (Value.ref _)) _ _ _); ((with_reducible rename Fr _ _ _ _ => sF'); (with_reducible rename News _ _ _ _ => sN'); first | (refine' tsl_sn (s := ⟨_, _, _, _, _⟩) (slD _ _ (by first | with_reducible assumption | ((try simp only [List.length_drop, List.length_take]); omega)) (by first | with_reducible assumption | ((try simp only [List.length_drop, List.length_take]); omega))) sF' sN' ?q1ø ?q2ø ?zø ?_; (case q1ø => with_unfolding_all rfl); (case q2ø => intro _; with_unfolding_all rfl); (case zø => exact sl_size (by first | with_reducible assumption | ((try simp only [List.length_drop, List.length_take]); omega))); intro _ _ _ _ _) | (refine' tsl_nn (s := ⟨_, _, _, _, _⟩) (slN _ (by first | with_reducible assumption | ((try simp only [List.length_drop, List.length_take]); omega))) sF' sN' ?q1ø ?q2ø ?zø ?_; (case q1ø => with_unfolding_all rfl); (case q2ø => intro _; with_unfolding_all rfl); (case zø => exact sl_size (by first | with_reducible assumption | ((try simp only [List.length_drop, List.length_take]); omega))); intro _ _ _ _ _) | (refine' tsl_ns (s := ⟨_, _, _, _, _⟩) (slT' (by first | with_reducible assumption | ((try simp only [List.length_drop, List.length_take]); omega)) (by first | with_reducible assumption | ((try simp only [List.length_drop, List.length_take]); omega)) (by first | with_reducible assumption | ((try simp only [List.length_drop, List.length_take]); omega))) sF' sN' ?q1ø ?q2ø ?zø ?_; (case q1ø => with_unfolding_all rfl); (case q2ø => intro _; with_unfolding_all rfl); (case zø => exact sl_size (by first | with_reducible assumption | ((try simp only [List.length_drop, List.length_take]); omega))); intro _ _ _ _ _)))) | (((with_reducible show wpAny _ _ (PySem.truthy (Value.str _ _)) _ _ _); (first | (refine tru_f (by first | with_reducible assumption | ((try simp only [List.length_drop, List.length_take]); omega)) ?_; intro _) | (refine tru_t (by first | with_reducible assumption | ((try simp only [List.length_drop, List.length_take]); omega)) ?_; intro _)); (try dsimp only))) | (((with_reducible show wpAny _ _ (subscriptTail (Expr.Name _ _) (Expr.Name _ _) (Value.str _ _) (Value.int _ _)) _ _ _); (k_here; k_dflt (refine' st_at ?ykø ?y3ø ?ysø ?ytø ?_; (case ykø => omega); (case y3ø => omega); (case ysø => with_unfolding_all rfl); (case ytø => intro _; with_unfolding_all rfl)); intro _ _; (try dsimp only)))) | (((with_reducible show wpAny _ _ (subscriptTail (Expr.Name _ _) (Expr.BinOp _ _ _ _) (Value.str _ _) (Value.int _ _)) _ _ _); (k_here; k_dflt (refine' st_m ?ykø ?y3ø ?ysø ?ytø ?_; (case ykø => omega); (case y3ø => omega); (case ysø => with_unfolding_all rfl); (case ytø => intro _; with_unfolding_all rfl)); intro _ _; (try dsimp only))))); k_steps))
            · refine hQW _ _ ?_
              (k_steps; repeat' (((with_reducible refine held ?_); first | ((k_here; (with_reducible show wpAny _ _ (call (Value.ref 21) _ _) _ _ _); k_dflt (refine' Clm.use_int (subC _ _ _ _ _ _ _ _ ?c1ø ?c2ø) ?k1ø ?k2ø ?k3ø ?k4ø ?k5ø ?kKø ?kdø ?kuø ?kpø ?_; (case k1ø => k_asm); (case k2ø => k_asm); (case k3ø => k_asm); (case k4ø => k_asm); (case k5ø => k_asm); (case kpø => exact trivial); (case c1ø => kln_le); (case c2ø => kln_le); (case kKø => first | exact rfl | assumption); (case kdø => ktr_room); (case kuø => ktr_units); intro _ _ _ _ _ _; (try dsimp only); (try k_fold); (try k_sweep)))) | (((with_reducible show wpAny _ _ (subscriptTail (Expr.Name _ _) (Expr.Name _ _) (Value.ref _) (Value.int _ _)) _ _ _); (k_here; (with_reducible rename News _ _ _ _ => sN'); k_dflt (refine' it_lv sN' ?ymø ?yiø ?ykø ?ysø ?_; (case ymø => k_mem); (case yiø => assumption); (case ykø => omega); (case ysø => with_unfolding_all rfl)); intro _; (try dsimp only)))) | ((k_here; (with_reducible show wpAny _ _ (call (Value.builtin _) [Value.str _ _]) _ _ _); k_dflt (refine' lenS (fact_mk _) rfl ?ynø ?_; (case ynø => first | with_reducible assumption | omega)); intro _ _; (try dsimp only))) | (((with_reducible show wpAny _ _ (subscriptTail (Expr.Name _ _) (Expr.Slice _ _ _ _) (Value.str _ _) (Value.ref _)) _ _ _); ((with_reducible rename Fr _ _ _ _ => sF'); (with_reducible rename News _ _ _ _ => sN'); first | (refine' tsl_sn (s := ⟨_, _, _, _, _⟩) (slD _ _ (by first | with_reducible assumption | ((try simp only [List.length_drop, List.length_take]); omega)) (by first | with_reducible assumption | ((try simp only [List.length_drop, List.length_take]); omega))) sF' sN' ?q1ø ?q2ø ?zø ?_; (case q1ø => with_unfolding_all rfl); (case q2ø => intro _; with_unfolding_all rfl); (case zø => exact sl_size (by first | with_reducible assumption | ((try simp only [List.length_drop, List.length_take]); omega))); intro _ _ _ _ _) | (refine' tsl_nn (s := ⟨_, _, _, _, _⟩) (slN _ (by first | with_reducible assumption | ((try simp only [List.length_drop, List.length_take]); omega))) sF' sN' ?q1ø ?q2ø ?zø ?_; (case q1ø => with_unfolding_all rfl); (case q2ø => intro _; with_unfolding_all rfl); (case zø => exact sl_size (by first | with_reducible assumption | ((try simp only [List.length_drop, List.length_take]); omega))); intro _ _ _ _ _) | (refine' tsl_ns (s := ⟨_, _, _, _, _⟩) (slT' (by first | with_reducible assumption | ((try simp only [List.length_drop, List.length_take]); omega)) (by first | with_reducible assumption | ((try simp only [List.length_drop, List.length_take]); omega)) (by first | with_reducible assumption | ((try simp only [List.length_drop, List.length_take]); omega))) sF' sN' ?q1ø ?q2ø ?zø ?_; (case q1ø => with_unfolding_all rfl); (case q2ø => intro _; with_unfolding_all rfl); (case zø => exact sl_size (by first | with_reducible assumption | ((try simp only [List.length_drop, List.length_take]); omega))); intro _ _ _ _ _)))) | (((with_reducible show wpAny _ _ (PySem.truthy (Value.str _ _)) _ _ _); (first | (refine tru_f (by first | with_reducible assumption | ((try simp only [List.length_drop, List.length_take]); omega)) ?_; intro _) | (refine tru_t (by first | with_reducible assumption | ((try simp only [List.length_drop, List.length_take]); omega)) ?_; intro _)); (try dsimp only))) | (((with_reducible show wpAny _ _ (subscriptTail (Expr.Name _ _) (Expr.Name _ _) (Value.str _ _) (Value.int _ _)) _ _ _); (k_here; k_dflt (refine' st_at ?ykø ?y3ø ?ysø ?ytø ?_; (case ykø => omega); (case y3ø => omega); (case ysø => with_unfolding_all rfl); (case ytø => intro _; with_unfolding_all rfl)); intro _ _; (try dsimp only)))) | (((with_reducible show wpAny _ _ (subscriptTail (Expr.Name _ _) (Expr.BinOp _ _ _ _) (Value.str _ _) (Value.int _ _)) _ _ _); (k_here; k_dflt (refine' st_m ?ykø ?y3ø ?ysø ?ytø ?_; (case ykø => omega); (case y3ø => omega); (case ysø => with_unfolding_all rfl); (case ytø => intro _; with_unfolding_all rfl)); intro _ _; (try dsimp only))))); k_steps))
              unfold Hold
              with_reducible rename Fr _ _ _ _ => F3
              with_reducible rename News _ _ _ _ => N3
              rename (_ == _) = true => e
              exact ih (n - 1) _ (by omega) ⟨_, _, k + 1, _, _, _, _, rfl, know F3 ⟨rfl, rfl, rfl, rfl, trivial⟩, N3, ⟨hx1, hy1, take_next hx1 hy1 hkk (one_eq e)⟩, by omega⟩
            · refine hQW _ _ ?_
              (k_steps; repeat' (((with_reducible refine held ?_); first | ((k_here; (with_reducible show wpAny _ _ (call (Value.ref 21) _ _) _ _ _); k_dflt (refine' Clm.use_int (subC _ _ _ _ _ _ _ _ ?c1ø ?c2ø) ?k1ø ?k2ø ?k3ø ?k4ø ?k5ø ?kKø ?kdø ?kuø ?kpø ?_; (case k1ø => k_asm); (case k2ø => k_asm); (case k3ø => k_asm); (case k4ø => k_asm); (case k5ø => k_asm); (case kpø => exact trivial); (case c1ø => kln_le); (case c2ø => kln_le); (case kKø => first | exact rfl | assumption); (case kdø => ktr_room); (case kuø => ktr_units); intro _ _ _ _ _ _; (try dsimp only); (try k_fold); (try k_sweep)))) | (((with_reducible show wpAny _ _ (subscriptTail (Expr.Name _ _) (Expr.Name _ _) (Value.ref _) (Value.int _ _)) _ _ _); (k_here; (with_reducible rename News _ _ _ _ => sN'); k_dflt (refine' it_lv sN' ?ymø ?yiø ?ykø ?ysø ?_; (case ymø => k_mem); (case yiø => assumption); (case ykø => omega); (case ysø => with_unfolding_all rfl)); intro _; (try dsimp only)))) | ((k_here; (with_reducible show wpAny _ _ (call (Value.builtin _) [Value.str _ _]) _ _ _); k_dflt (refine' lenS (fact_mk _) rfl ?ynø ?_; (case ynø => first | with_reducible assumption | omega)); intro _ _; (try dsimp only))) | (((with_reducible show wpAny _ _ (subscriptTail (Expr.Name _ _) (Expr.Slice _ _ _ _) (Value.str _ _) (Value.ref _)) _ _ _); ((with_reducible rename Fr _ _ _ _ => sF'); (with_reducible rename News _ _ _ _ => sN'); first | (refine' tsl_sn (s := ⟨_, _, _, _, _⟩) (slD _ _ (by first | with_reducible assumption | ((try simp only [List.length_drop, List.length_take]); omega)) (by first | with_reducible assumption | ((try simp only [List.length_drop, List.length_take]); omega))) sF' sN' ?q1ø ?q2ø ?zø ?_; (case q1ø => with_unfolding_all rfl); (case q2ø => intro _; with_unfolding_all rfl); (case zø => exact sl_size (by first | with_reducible assumption | ((try simp only [List.length_drop, List.length_take]); omega))); intro _ _ _ _ _) | (refine' tsl_nn (s := ⟨_, _, _, _, _⟩) (slN _ (by first | with_reducible assumption | ((try simp only [List.length_drop, List.length_take]); omega))) sF' sN' ?q1ø ?q2ø ?zø ?_; (case q1ø => with_unfolding_all rfl); (case q2ø => intro _; with_unfolding_all rfl); (case zø => exact sl_size (by first | with_reducible assumption | ((try simp only [List.length_drop, List.length_take]); omega))); intro _ _ _ _ _) | (refine' tsl_ns (s := ⟨_, _, _, _, _⟩) (slT' (by first | with_reducible assumption | ((try simp only [List.length_drop, List.length_take]); omega)) (by first | with_reducible assumption | ((try simp only [List.length_drop, List.length_take]); omega)) (by first | with_reducible assumption | ((try simp only [List.length_drop, List.length_take]); omega))) sF' sN' ?q1ø ?q2ø ?zø ?_; (case q1ø => with_unfolding_all rfl); (case q2ø => intro _; with_unfolding_all rfl); (case zø => exact sl_size (by first | with_reducible assumption | ((try simp only [List.length_drop, List.length_take]); omega))); intro _ _ _ _ _)))) | (((with_reducible show wpAny _ _ (PySem.truthy (Value.str _ _)) _ _ _); (first | (refine tru_f (by first | with_reducible assumption | ((try simp only [List.length_drop, List.length_take]); omega)) ?_; intro _) | (refine tru_t (by first | with_reducible assumption | ((try simp only [List.length_drop, List.length_take]); omega)) ?_; intro _)); (try dsimp only))) | (((with_reducible show wpAny _ _ (subscriptTail (Expr.Name _ _) (Expr.Name _ _) (Value.str _ _) (Value.int _ _)) _ _ _); (k_here; k_dflt (refine' st_at ?ykø ?y3ø ?ysø ?ytø ?_; (case ykø => omega); (case y3ø => omega); (case ysø => with_unfolding_all rfl); (case ytø => intro _; with_unfolding_all rfl)); intro _ _; (try dsimp only)))) | (((with_reducible show wpAny _ _ (subscriptTail (Expr.Name _ _) (Expr.BinOp _ _ _ _) (Value.str _ _) (Value.int _ _)) _ _ _); (k_here; k_dflt (refine' st_m ?ykø ?y3ø ?ysø ?ytø ?_; (case ykø => omega); (case y3ø => omega); (case ysø => with_unfolding_all rfl); (case ytø => intro _; with_unfolding_all rfl)); intro _ _; (try dsimp only))))); k_steps))
              exact ⟨rfl, _, _, k, _, _, _, _, rfl, by k_asm, by k_asm, hp0.1⟩
          · (k_steps; repeat' (((with_reducible refine held ?_); first | ((k_here; (with_reducible show wpAny _ _ (call (Value.ref 21) _ _) _ _ _); k_dflt (refine' Clm.use_int (subC _ _ _ _ _ _ _ _ ?c1ø ?c2ø) ?k1ø ?k2ø ?k3ø ?k4ø ?k5ø ?kKø ?kdø ?kuø ?kpø ?_; (case k1ø => k_asm); (case k2ø => k_asm); (case k3ø => k_asm); (case k4ø => k_asm); (case k5ø => k_asm); (case kpø => exact trivial); (case c1ø => kln_le); (case c2ø => kln_le); (case kKø => first | exact rfl | assumption); (case kdø => ktr_room); (case kuø => ktr_units); intro _ _ _ _ _ _; (try dsimp only); (try k_fold); (try k_sweep)))) | (((with_reducible show wpAny _ _ (subscriptTail (Expr.Name _ _) (Expr.Name _ _) (Value.ref _) (Value.int _ _)) _ _ _); (k_here; (with_reducible rename News _ _ _ _ => sN'); k_dflt (refine' it_lv sN' ?ymø ?yiø ?ykø ?ysø ?_; (case ymø => k_mem); (case yiø => assumption); (case ykø => omega); (case ysø => with_unfolding_all rfl)); intro _; (try dsimp only)))) | ((k_here; (with_reducible show wpAny _ _ (call (Value.builtin _) [Value.str _ _]) _ _ _); k_dflt (refine' lenS (fact_mk _) rfl ?ynø ?_; (case ynø => first | with_reducible assumption | omega)); intro _ _; (try dsimp only))) | (((with_reducible show wpAny _ _ (subscriptTail (Expr.Name _ _) (Expr.Slice _ _ _ _) (Value.str _ _) (Value.ref _)) _ _ _); ((with_reducible rename Fr _ _ _ _ => sF'); (with_reducible rename News _ _ _ _ => sN'); first | (refine' tsl_sn (s := ⟨_, _, _, _, _⟩) (slD _ _ (by first | with_reducible assumption | ((try simp only [List.length_drop, List.length_take]); omega)) (by first | with_reducible assumption | ((try simp only [List.length_drop, List.length_take]); omega))) sF' sN' ?q1ø ?q2ø ?zø ?_; (case q1ø => with_unfolding_all rfl); (case q2ø => intro _; with_unfolding_all rfl); (case zø => exact sl_size (by first | with_reducible assumption | ((try simp only [List.length_drop, List.length_take]); omega))); intro _ _ _ _ _) | (refine' tsl_nn (s := ⟨_, _, _, _, _⟩) (slN _ (by first | with_reducible assumption | ((try simp only [List.length_drop, List.length_take]); omega))) sF' sN' ?q1ø ?q2ø ?zø ?_; (case q1ø => with_unfolding_all rfl); (case q2ø => intro _; with_unfolding_all rfl); (case zø => exact sl_size (by first | with_reducible assumption | ((try simp only [List.length_drop, List.length_take]); omega))); intro _ _ _ _ _) | (refine' tsl_ns (s := ⟨_, _, _, _, _⟩) (slT' (by first | with_reducible assumption | ((try simp only [List.length_drop, List.length_take]); omega)) (by first | with_reducible assumption | ((try simp only [List.length_drop, List.length_take]); omega)) (by first | with_reducible assumption | ((try simp only [List.length_drop, List.length_take]); omega))) sF' sN' ?q1ø ?q2ø ?zø ?_; (case q1ø => with_unfolding_all rfl); (case q2ø => intro _; with_unfolding_all rfl); (case zø => exact sl_size (by first | with_reducible assumption | ((try simp only [List.length_drop, List.length_take]); omega))); intro _ _ _ _ _)))) | (((with_reducible show wpAny _ _ (PySem.truthy (Value.str _ _)) _ _ _); (first | (refine tru_f (by first | with_reducible assumption | ((try simp only [List.length_drop, List.length_take]); omega)) ?_; intro _) | (refine tru_t (by first | with_reducible assumption | ((try simp only [List.length_drop, List.length_take]); omega)) ?_; intro _)); (try dsimp only))) | (((with_reducible show wpAny _ _ (subscriptTail (Expr.Name _ _) (Expr.Name _ _) (Value.str _ _) (Value.int _ _)) _ _ _); (k_here; k_dflt (refine' st_at ?ykø ?y3ø ?ysø ?ytø ?_; (case ykø => omega); (case y3ø => omega); (case ysø => with_unfolding_all rfl); (case ytø => intro _; with_unfolding_all rfl)); intro _ _; (try dsimp only)))) | (((with_reducible show wpAny _ _ (subscriptTail (Expr.Name _ _) (Expr.BinOp _ _ _ _) (Value.str _ _) (Value.int _ _)) _ _ _); (k_here; k_dflt (refine' st_m ?ykø ?y3ø ?ysø ?ytø ?_; (case ykø => omega); (case y3ø => omega); (case ysø => with_unfolding_all rfl); (case ytø => intro _; with_unfolding_all rfl)); intro _ _; (try dsimp only))))); k_steps))
            refine hQW _ _ ?_
            (k_steps; repeat' (((with_reducible refine held ?_); first | ((k_here; (with_reducible show wpAny _ _ (call (Value.ref 21) _ _) _ _ _); k_dflt (refine' Clm.use_int (subC _ _ _ _ _ _ _ _ ?c1ø ?c2ø) ?k1ø ?k2ø ?k3ø ?k4ø ?k5ø ?kKø ?kdø ?kuø ?kpø ?_; (case k1ø => k_asm); (case k2ø => k_asm); (case k3ø => k_asm); (case k4ø => k_asm); (case k5ø => k_asm); (case kpø => exact trivial); (case c1ø => kln_le); (case c2ø => kln_le); (case kKø => first | exact rfl | assumption); (case kdø => ktr_room); (case kuø => ktr_units); intro _ _ _ _ _ _; (try dsimp only); (try k_fold); (try k_sweep)))) | (((with_reducible show wpAny _ _ (subscriptTail (Expr.Name _ _) (Expr.Name _ _) (Value.ref _) (Value.int _ _)) _ _ _); (k_here; (with_reducible rename News _ _ _ _ => sN'); k_dflt (refine' it_lv sN' ?ymø ?yiø ?ykø ?ysø ?_; (case ymø => k_mem); (case yiø => assumption); (case ykø => omega); (case ysø => with_unfolding_all rfl)); intro _; (try dsimp only)))) | ((k_here; (with_reducible show wpAny _ _ (call (Value.builtin _) [Value.str _ _]) _ _ _); k_dflt (refine' lenS (fact_mk _) rfl ?ynø ?_; (case ynø => first | with_reducible assumption | omega)); intro _ _; (try dsimp only))) | (((with_reducible show wpAny _ _ (subscriptTail (Expr.Name _ _) (Expr.Slice _ _ _ _) (Value.str _ _) (Value.ref _)) _ _ _); ((with_reducible rename Fr _ _ _ _ => sF'); (with_reducible rename News _ _ _ _ => sN'); first | (refine' tsl_sn (s := ⟨_, _, _, _, _⟩) (slD _ _ (by first | with_reducible assumption | ((try simp only [List.length_drop, List.length_take]); omega)) (by first | with_reducible assumption | ((try simp only [List.length_drop, List.length_take]); omega))) sF' sN' ?q1ø ?q2ø ?zø ?_; (case q1ø => with_unfolding_all rfl); (case q2ø => intro _; with_unfolding_all rfl); (case zø => exact sl_size (by first | with_reducible assumption | ((try simp only [List.length_drop, List.length_take]); omega))); intro _ _ _ _ _) | (refine' tsl_nn (s := ⟨_, _, _, _, _⟩) (slN _ (by first | with_reducible assumption | ((try simp only [List.length_drop, List.length_take]); omega))) sF' sN' ?q1ø ?q2ø ?zø ?_; (case q1ø => with_unfolding_all rfl); (case q2ø => intro _; with_unfolding_all rfl); (case zø => exact sl_size (by first | with_reducible assumption | ((try simp only [List.length_drop, List.length_take]); omega))); intro _ _ _ _ _) | (refine' tsl_ns (s := ⟨_, _, _, _, _⟩) (slT' (by first | with_reducible assumption | ((try simp only [List.length_drop, List.length_take]); omega)) (by first | with_reducible assumption | ((try simp only [List.length_drop, List.length_take]); omega)) (by first | with_reducible assumption | ((try simp only [List.length_drop, List.length_take]); omega))) sF' sN' ?q1ø ?q2ø ?zø ?_; (case q1ø => with_unfolding_all rfl); (case q2ø => intro _; with_unfolding_all rfl); (case zø => exact sl_size (by first | with_reducible assumption | ((try simp only [List.length_drop, List.length_take]); omega))); intro _ _ _ _ _)))) | (((with_reducible show wpAny _ _ (PySem.truthy (Value.str _ _)) _ _ _); (first | (refine tru_f (by first | with_reducible assumption | ((try simp only [List.length_drop, List.length_take]); omega)) ?_; intro _) | (refine tru_t (by first | with_reducible assumption | ((try simp only [List.length_drop, List.length_take]); omega)) ?_; intro _)); (try dsimp only))) | (((with_reducible show wpAny _ _ (subscriptTail (Expr.Name _ _) (Expr.Name _ _) (Value.str _ _) (Value.int _ _)) _ _ _); (k_here; k_dflt (refine' st_at ?ykø ?y3ø ?ysø ?ytø ?_; (case ykø => omega); (case y3ø => omega); (case ysø => with_unfolding_all rfl); (case ytø => intro _; with_unfolding_all rfl)); intro _ _; (try dsimp only)))) | (((with_reducible show wpAny _ _ (subscriptTail (Expr.Name _ _) (Expr.BinOp _ _ _ _) (Value.str _ _) (Value.int _ _)) _ _ _); (k_here; k_dflt (refine' st_m ?ykø ?y3ø ?ysø ?ytø ?_; (case ykø => omega); (case y3ø => omega); (case ysø => with_unfolding_all rfl); (case ytø => intro _; with_unfolding_all rfl)); intro _ _; (try dsimp only))))); k_steps))
            exact ⟨rfl, _, _, k, _, _, _, _, rfl, by k_asm, by k_asm, hp0.1⟩
        · (k_steps; repeat' (((with_reducible refine held ?_); first | ((k_here; (with_reducible show wpAny _ _ (call (Value.ref 21) _ _) _ _ _); k_dflt (refine' Clm.use_int (subC _ _ _ _ _ _ _ _ ?c1ø ?c2ø) ?k1ø ?k2ø ?k3ø ?k4ø ?k5ø ?kKø ?kdø ?kuø ?kpø ?_; (case k1ø => k_asm); (case k2ø => k_asm); (case k3ø => k_asm); (case k4ø => k_asm); (case k5ø => k_asm); (case kpø => exact trivial); (case c1ø => kln_le); (case c2ø => kln_le); (case kKø => first | exact rfl | assumption); (case kdø => ktr_room); (case kuø => ktr_units); intro _ _ _ _ _ _; (try dsimp only); (try k_fold); (try k_sweep)))) | (((with_reducible show wpAny _ _ (subscriptTail (Expr.Name _ _) (Expr.Name _ _) (Value.ref _) (Value.int _ _)) _ _ _); (k_here; (with_reducible rename News _ _ _ _ => sN'); k_dflt (refine' it_lv sN' ?ymø ?yiø ?ykø ?ysø ?_; (case ymø => k_mem); (case yiø => assumption); (case ykø => omega); (case ysø => with_unfolding_all rfl)); intro _; (try dsimp only)))) | ((k_here; (with_reducible show wpAny _ _ (call (Value.builtin _) [Value.str _ _]) _ _ _); k_dflt (refine' lenS (fact_mk _) rfl ?ynø ?_; (case ynø => first | with_reducible assumption | omega)); intro _ _; (try dsimp only))) | (((with_reducible show wpAny _ _ (subscriptTail (Expr.Name _ _) (Expr.Slice _ _ _ _) (Value.str _ _) (Value.ref _)) _ _ _); ((with_reducible rename Fr _ _ _ _ => sF'); (with_reducible rename News _ _ _ _ => sN'); first | (refine' tsl_sn (s := ⟨_, _, _, _, _⟩) (slD _ _ (by first | with_reducible assumption | ((try simp only [List.length_drop, List.length_take]); omega)) (by first | with_reducible assumption | ((try simp only [List.length_drop, List.length_take]); omega))) sF' sN' ?q1ø ?q2ø ?zø ?_; (case q1ø => with_unfolding_all rfl); (case q2ø => intro _; with_unfolding_all rfl); (case zø => exact sl_size (by first | with_reducible assumption | ((try simp only [List.length_drop, List.length_take]); omega))); intro _ _ _ _ _) | (refine' tsl_nn (s := ⟨_, _, _, _, _⟩) (slN _ (by first | with_reducible assumption | ((try simp only [List.length_drop, List.length_take]); omega))) sF' sN' ?q1ø ?q2ø ?zø ?_; (case q1ø => with_unfolding_all rfl); (case q2ø => intro _; with_unfolding_all rfl); (case zø => exact sl_size (by first | with_reducible assumption | ((try simp only [List.length_drop, List.length_take]); omega))); intro _ _ _ _ _) | (refine' tsl_ns (s := ⟨_, _, _, _, _⟩) (slT' (by first | with_reducible assumption | ((try simp only [List.length_drop, List.length_take]); omega)) (by first | with_reducible assumption | ((try simp only [List.length_drop, List.length_take]); omega)) (by first | with_reducible assumption | ((try simp only [List.length_drop, List.length_take]); omega))) sF' sN' ?q1ø ?q2ø ?zø ?_; (case q1ø => with_unfolding_all rfl); (case q2ø => intro _; with_unfolding_all rfl); (case zø => exact sl_size (by first | with_reducible assumption | ((try simp only [List.length_drop, List.length_take]); omega))); intro _ _ _ _ _)))) | (((with_reducible show wpAny _ _ (PySem.truthy (Value.str _ _)) _ _ _); (first | (refine tru_f (by first | with_reducible assumption | ((try simp only [List.length_drop, List.length_take]); omega)) ?_; intro _) | (refine tru_t (by first | with_reducible assumption | ((try simp only [List.length_drop, List.length_take]); omega)) ?_; intro _)); (try dsimp only))) | (((with_reducible show wpAny _ _ (subscriptTail (Expr.Name _ _) (Expr.Name _ _) (Value.str _ _) (Value.int _ _)) _ _ _); (k_here; k_dflt (refine' st_at ?ykø ?y3ø ?ysø ?ytø ?_; (case ykø => omega); (case y3ø => omega); (case ysø => with_unfolding_all rfl); (case ytø => intro _; with_unfolding_all rfl)); intro _ _; (try dsimp only)))) | (((with_reducible show wpAny _ _ (subscriptTail (Expr.Name _ _) (Expr.BinOp _ _ _ _) (Value.str _ _) (Value.int _ _)) _ _ _); (k_here; k_dflt (refine' st_m ?ykø ?y3ø ?ysø ?ytø ?_; (case ykø => omega); (case y3ø => omega); (case ysø => with_unfolding_all rfl); (case ytø => intro _; with_unfolding_all rfl)); intro _ _; (try dsimp only))))); k_steps))
          refine hQW _ _ ?_
          (k_steps; repeat' (((with_reducible refine held ?_); first | ((k_here; (with_reducible show wpAny _ _ (call (Value.ref 21) _ _) _ _ _); k_dflt (refine' Clm.use_int (subC _ _ _ _ _ _ _ _ ?c1ø ?c2ø) ?k1ø ?k2ø ?k3ø ?k4ø ?k5ø ?kKø ?kdø ?kuø ?kpø ?_; (case k1ø => k_asm); (case k2ø => k_asm); (case k3ø => k_asm); (case k4ø => k_asm); (case k5ø => k_asm); (case kpø => exact trivial); (case c1ø => kln_le); (case c2ø => kln_le); (case kKø => first | exact rfl | assumption); (case kdø => ktr_room); (case kuø => ktr_units); intro _ _ _ _ _ _; (try dsimp only); (try k_fold); (try k_sweep)))) | (((with_reducible show wpAny _ _ (subscriptTail (Expr.Name _ _) (Expr.Name _ _) (Value.ref _) (Value.int _ _)) _ _ _); (k_here; (with_reducible rename News _ _ _ _ => sN'); k_dflt (refine' it_lv sN' ?ymø ?yiø ?ykø ?ysø ?_; (case ymø => k_mem); (case yiø => assumption); (case ykø => omega); (case ysø => with_unfolding_all rfl)); intro _; (try dsimp only)))) | ((k_here; (with_reducible show wpAny _ _ (call (Value.builtin _) [Value.str _ _]) _ _ _); k_dflt (refine' lenS (fact_mk _) rfl ?ynø ?_; (case ynø => first | with_reducible assumption | omega)); intro _ _; (try dsimp only))) | (((with_reducible show wpAny _ _ (subscriptTail (Expr.Name _ _) (Expr.Slice _ _ _ _) (Value.str _ _) (Value.ref _)) _ _ _); ((with_reducible rename Fr _ _ _ _ => sF'); (with_reducible rename News _ _ _ _ => sN'); first | (refine' tsl_sn (s := ⟨_, _, _, _, _⟩) (slD _ _ (by first | with_reducible assumption | ((try simp only [List.length_drop, List.length_take]); omega)) (by first | with_reducible assumption | ((try simp only [List.length_drop, List.length_take]); omega))) sF' sN' ?q1ø ?q2ø ?zø ?_; (case q1ø => with_unfolding_all rfl); (case q2ø => intro _; with_unfolding_all rfl); (case zø => exact sl_size (by first | with_reducible assumption | ((try simp only [List.length_drop, List.length_take]); omega))); intro _ _ _ _ _) | (refine' tsl_nn (s := ⟨_, _, _, _, _⟩) (slN _ (by first | with_reducible assumption | ((try simp only [List.length_drop, List.length_take]); omega))) sF' sN' ?q1ø ?q2ø ?zø ?_; (case q1ø => with_unfolding_all rfl); (case q2ø => intro _; with_unfolding_all rfl); (case zø => exact sl_size (by first | with_reducible assumption | ((try simp only [List.length_drop, List.length_take]); omega))); intro _ _ _ _ _) | (refine' tsl_ns (s := ⟨_, _, _, _, _⟩) (slT' (by first | with_reducible assumption | ((try simp only [List.length_drop, List.length_take]); omega)) (by first | with_reducible assumption | ((try simp only [List.length_drop, List.length_take]); omega)) (by first | with_reducible assumption | ((try simp only [List.length_drop, List.length_take]); omega))) sF' sN' ?q1ø ?q2ø ?zø ?_; (case q1ø => with_unfolding_all rfl); (case q2ø => intro _; with_unfolding_all rfl); (case zø => exact sl_size (by first | with_reducible assumption | ((try simp only [List.length_drop, List.length_take]); omega))); intro _ _ _ _ _)))) | (((with_reducible show wpAny _ _ (PySem.truthy (Value.str _ _)) _ _ _); (first | (refine tru_f (by first | with_reducible assumption | ((try simp only [List.length_drop, List.length_take]); omega)) ?_; intro _) | (refine tru_t (by first | with_reducible assumption | ((try simp only [List.length_drop, List.length_take]); omega)) ?_; intro _)); (try dsimp only))) | (((with_reducible show wpAny _ _ (subscriptTail (Expr.Name _ _) (Expr.Name _ _) (Value.str _ _) (Value.int _ _)) _ _ _); (k_here; k_dflt (refine' st_at ?ykø ?y3ø ?ysø ?ytø ?_; (case ykø => omega); (case y3ø => omega); (case ysø => with_unfolding_all rfl); (case ytø => intro _; with_unfolding_all rfl)); intro _ _; (try dsimp only)))) | (((with_reducible show wpAny _ _ (subscriptTail (Expr.Name _ _) (Expr.BinOp _ _ _ _) (Value.str _ _) (Value.int _ _)) _ _ _); (k_here; k_dflt (refine' st_m ?ykø ?y3ø ?ysø ?ytø ?_; (case ykø => omega); (case y3ø => omega); (case ysø => with_unfolding_all rfl); (case ytø => intro _; with_unfolding_all rfl)); intro _ _; (try dsimp only))))); k_steps))
          exact ⟨rfl, _, _, k, _, _, _, _, rfl, by k_asm, by k_asm, hp0.1⟩
      · exact ⟨_, _, 0, _, _, _, _, rfl, know F1 ⟨rfl, rfl, rfl, rfl, trivial⟩, N1, ⟨Nat.zero_le _, Nat.zero_le _, rfl⟩, rfl⟩
    case rest1 =>
      clear F1 N1
      rintro f s' ⟨rfl, h2, tk2, k, tp, ta, tb, u, rfl, F2, N2, hp0⟩
      have hkx := hp0.1
      have hky := hp0.2.1
      have hkk := hp0.2.2
      (k_steps; repeat' (((with_reducible refine held ?_); first | ((k_here; (with_reducible show wpAny _ _ (call (Value.ref 21) _ _) _ _ _); k_dflt (refine' Clm.use_int (subC _ _ _ _ _ _ _ _ ?c1ø ?c2ø) ?k1ø ?k2ø ?k3ø ?k4ø ?k5ø ?kKø ?kdø ?kuø ?kpø ?_; (case k1ø => k_asm); (case k2ø => k_asm); (case k3ø => k_asm); (case k4ø => k_asm); (case k5ø => k_asm); (case kpø => exact trivial); (case c1ø => kln_le); (case c2ø => kln_le); (case kKø => first | exact rfl | assumption); (case kdø => ktr_room); (case kuø => ktr_units); intro _ _ _ _ _ _; (try dsimp only); (try k_fold); (try k_sweep)))) | (((with_reducible show wpAny _ _ (subscriptTail (Expr.Name _ _) (Expr.Name _ _) (Value.ref _) (Value.int _ _)) _ _ _); (k_here; (with_reducible rename News _ _ _ _ => sN'); k_dflt (refine' it_lv sN' ?ymø ?yiø ?ykø ?ysø ?_; (case ymø => k_mem); (case yiø => assumption); (case ykø => omega); (case ysø => with_unfolding_all rfl)); intro _; (try dsimp only)))) | ((k_here; (with_reducible show wpAny _ _ (call (Value.builtin _) [Value.str _ _]) _ _ _); k_dflt (refine' lenS (fact_mk _) rfl ?ynø ?_; (case ynø => first | with_reducible assumption | omega)); intro _ _; (try dsimp only))) | (((with_reducible show wpAny _ _ (subscriptTail (Expr.Name _ _) (Expr.Slice _ _ _ _) (Value.str _ _) (Value.ref _)) _ _ _); ((with_reducible rename Fr _ _ _ _ => sF'); (with_reducible rename News _ _ _ _ => sN'); first | (refine' tsl_sn (s := ⟨_, _, _, _, _⟩) (slD _ _ (by first | with_reducible assumption | ((try simp only [List.length_drop, List.length_take]); omega)) (by first | with_reducible assumption | ((try simp only [List.length_drop, List.length_take]); omega))) sF' sN' ?q1ø ?q2ø ?zø ?_; (case q1ø => with_unfolding_all rfl); (case q2ø => intro _; with_unfolding_all rfl); (case zø => exact sl_size (by first | with_reducible assumption | ((try simp only [List.length_drop, List.length_take]); omega))); intro _ _ _ _ _) | (refine' tsl_nn (s := ⟨_, _, _, _, _⟩) (slN _ (by first | with_reducible assumption | ((try simp only [List.length_drop, List.length_take]); omega))) sF' sN' ?q1ø ?q2ø ?zø ?_; (case q1ø => with_unfolding_all rfl); (case q2ø => intro _; with_unfolding_all rfl); (case zø => exact sl_size (by first | with_reducible assumption | ((try simp only [List.length_drop, List.length_take]); omega))); intro _ _ _ _ _) | (refine' tsl_ns (s := ⟨_, _, _, _, _⟩) (slT' (by first | with_reducible assumption | ((try simp only [List.length_drop, List.length_take]); omega)) (by first | with_reducible assumption | ((try simp only [List.length_drop, List.length_take]); omega)) (by first | with_reducible assumption | ((try simp only [List.length_drop, List.length_take]); omega))) sF' sN' ?q1ø ?q2ø ?zø ?_; (case q1ø => with_unfolding_all rfl); (case q2ø => intro _; with_unfolding_all rfl); (case zø => exact sl_size (by first | with_reducible assumption | ((try simp only [List.length_drop, List.length_take]); omega))); intro _ _ _ _ _)))) | (((with_reducible show wpAny _ _ (PySem.truthy (Value.str _ _)) _ _ _); (first | (refine tru_f (by first | with_reducible assumption | ((try simp only [List.length_drop, List.length_take]); omega)) ?_; intro _) | (refine tru_t (by first | with_reducible assumption | ((try simp only [List.length_drop, List.length_take]); omega)) ?_; intro _)); (try dsimp only))) | (((with_reducible show wpAny _ _ (subscriptTail (Expr.Name _ _) (Expr.Name _ _) (Value.str _ _) (Value.int _ _)) _ _ _); (k_here; k_dflt (refine' st_at ?ykø ?y3ø ?ysø ?ytø ?_; (case ykø => omega); (case y3ø => omega); (case ysø => with_unfolding_all rfl); (case ytø => intro _; with_unfolding_all rfl)); intro _ _; (try dsimp only)))) | (((with_reducible show wpAny _ _ (subscriptTail (Expr.Name _ _) (Expr.BinOp _ _ _ _) (Value.str _ _) (Value.int _ _)) _ _ _); (k_here; k_dflt (refine' st_m ?ykø ?y3ø ?ysø ?ytø ?_; (case ykø => omega); (case y3ø => omega); (case ysø => with_unfolding_all rfl); (case ytø => intro _; with_unfolding_all rfl)); intro _ _; (try dsimp only))))); k_steps))
      unfold Hold
      try clear F2 N2
      with_reducible rename Fr _ _ _ _ => F2
      with_reducible rename News _ _ _ _ => N2
      have H2 : ∀ u v q, xs.drop k = u ++ q → ys.drop k = v ++ q → LevOk u v mc z := fun u v q hu hv => H (xs.take k) u v q (by rw [List.append_assoc, ← hu, List.take_append_drop]) (by rw [hkk, List.append_assoc, ← hv, List.take_append_drop])
      have hx2 : (xs.drop k).length ≤ 3 := by rw [List.length_drop]; omega
      have hy2 : (ys.drop k).length ≤ 3 := by rw [List.length_drop]; omega
      clear H hx hy hkx hky hkk hp0
      replace F2 := know F2 (l := [("a", .str ⟨(xs.drop k).toArray⟩ _), ("b", .str ⟨(ys.drop k).toArray⟩ _), ("max_cost", .int mc tm), ("post", .int 0 _)]) ⟨rfl, rfl, rfl, rfl, trivial⟩
      generalize xs.drop k = us at *
      generalize ys.drop k = vs at *
      refine wpAny_mono (Q := fun f s' => Hold (f = .next ∧ LvA g1 L1 s mc tm "post" (fun p => -(p : Nat)) us vs (fun p => p ≤ us.length ∧ p ≤ vs.length ∧ us.drop (us.length - p) = vs.drop (vs.length - p)) s')) (whl_start 0 ?loop2) ?rest2 fun _ _ e => e
      case loop2 =>
        clear hret H2 hQ
        refine whl_ind (fun n s' => LvA g1 L1 s mc tm "post" (fun p => -(p : Nat)) us vs (fun p => (p ≤ us.length ∧ p ≤ vs.length ∧ us.drop (us.length - p) = vs.drop (vs.length - p)) ∧ n + p = us.length) s') ?_ us.length ?_
        · clear F2 N2
          rintro n s' ⟨h2, tk2, p, tp, ta, tb, u, rfl, F2, N2, hp0⟩ ih
          have hkx := hp0.1.1
          have hky := hp0.1.2.1
          have hkk := hp0.1.2.2
          have hn := hp0.2
          refine whl_turn (by passes_own) ?_
          refine gQb fun QW hQW => ?_
          by_cases hp : p = 0
          · have z0 : -((p : Nat) : Int) = 0 := by omega
            by_cases hx1 : p < us.length
            · by_cases hy1 : p < vs.length
              · (k_steps; repeat' (((with_reducible refine held ?_); first | ((k_here; (with_reducible show wpAny _ _ (call (Value.ref 21) _ _) _ _ _); k_dflt (refine' Clm.use_int (subC _ _ _ _ _ _ _ _ ?c1ø ?c2ø) ?k1ø ?k2ø ?k3ø ?k4ø ?k5ø ?kKø ?kdø ?kuø ?kpø ?_; (case k1ø => k_asm); (case k2ø => k_asm); (case k3ø => k_asm); (case k4ø => k_asm); (case k5ø => k_asm); (case kpø => exact trivial); (case c1ø => kln_le); (case c2ø => kln_le); (case kKø => first | exact rfl | assumption); (case kdø => ktr_room); (case kuø => ktr_units); intro _ _ _ _ _ _; (try dsimp only); (try k_fold); (try k_sweep)))) | (((with_reducible show wpAny _ _ (subscriptTail (Expr.Name _ _) (Expr.Name _ _) (Value.ref _) (Value.int _ _)) _ _ _); (k_here; (with_reducible rename News _ _ _ _ => sN'); k_dflt (refine' it_lv sN' ?ymø ?yiø ?ykø ?ysø ?_; (case ymø => k_mem); (case yiø => assumption); (case ykø => omega); (case ysø => with_unfolding_all rfl)); intro _; (try dsimp only)))) | ((k_here; (with_reducible show wpAny _ _ (call (Value.builtin _) [Value.str _ _]) _ _ _); k_dflt (refine' lenS (fact_mk _) rfl ?ynø ?_; (case ynø => first | with_reducible assumption | omega)); intro _ _; (try dsimp only))) | (((with_reducible show wpAny _ _ (subscriptTail (Expr.Name _ _) (Expr.Slice _ _ _ _) (Value.str _ _) (Value.ref _)) _ _ _); ((with_reducible rename Fr _ _ _ _ => sF'); (with_reducible rename News _ _ _ _ => sN'); first | (refine' tsl_sn (s := ⟨_, _, _, _, _⟩) (slD _ _ (by first | with_reducible assumption | ((try simp only [List.length_drop, List.length_take]); omega)) (by first | with_reducible assumption | ((try simp only [List.length_drop, List.length_take]); omega))) sF' sN' ?q1ø ?q2ø ?zø ?_; (case q1ø => with_unfolding_all rfl); (case q2ø => intro _; with_unfolding_all rfl); (case zø => exact sl_size (by first | with_reducible assumption | ((try simp only [List.length_drop, List.length_take]); omega))); intro _ _ _ _ _) | (refine' tsl_nn (s := ⟨_, _, _, _, _⟩) (slN _ (by first | with_reducible assumption | ((try simp only [List.length_drop, List.length_take]); omega))) sF' sN' ?q1ø ?q2ø ?zø ?_; (case q1ø => with_unfolding_all rfl); (case q2ø => intro _; with_unfolding_all rfl); (case zø => exact sl_size (by first | with_reducible assumption | ((try simp only [List.length_drop, List.length_take]); omega))); intro _ _ _ _ _) | (refine' tsl_ns (s := ⟨_, _, _, _, _⟩) (slT' (by first | with_reducible assumption | ((try simp only [List.length_drop, List.length_take]); omega)) (by first | with_reducible assumption | ((try simp only [List.length_drop, List.length_take]); omega)) (by first | with_reducible assumption | ((try simp only [List.length_drop, List.length_take]); omega))) sF' sN' ?q1ø ?q2ø ?zø ?_; (case q1ø => with_unfolding_all rfl); (case q2ø => intro _; with_unfolding_all rfl); (case zø => exact sl_size (by first | with_reducible assumption | ((try simp only [List.length_drop, List.length_take]); omega))); intro _ _ _ _ _)))) | (((with_reducible show wpAny _ _ (PySem.truthy (Value.str _ _)) _ _ _); (first | (refine tru_f (by first | with_reducible assumption | ((try simp only [List.length_drop, List.length_take]); omega)) ?_; intro _) | (refine tru_t (by first | with_reducible assumption | ((try simp only [List.length_drop, List.length_take]); omega)) ?_; intro _)); (try dsimp only))) | (((with_reducible show wpAny _ _ (subscriptTail (Expr.Name _ _) (Expr.Name _ _) (Value.str _ _) (Value.int _ _)) _ _ _); (k_here; k_dflt (refine' st_at ?ykø ?y3ø ?ysø ?ytø ?_; (case ykø => omega); (case y3ø => omega); (case ysø => with_unfolding_all rfl); (case ytø => intro _; with_unfolding_all rfl)); intro _ _; (try dsimp only)))) | (((with_reducible show wpAny _ _ (subscriptTail (Expr.Name _ _) (Expr.BinOp _ _ _ _) (Value.str _ _) (Value.int _ _)) _ _ _); (k_here; k_dflt (refine' st_m ?ykø ?y3ø ?ysø ?ytø ?_; (case ykø => omega); (case y3ø => omega); (case ysø => with_unfolding_all rfl); (case ytø => intro _; with_unfolding_all rfl)); intro _ _; (try dsimp only))))); k_steps))
                · refine hQW _ _ ?_
                  (k_steps; repeat' (((with_reducible refine held ?_); first | ((k_here; (with_reducible show wpAny _ _ (call (Value.ref 21) _ _) _ _ _); k_dflt (refine' Clm.use_int (subC _ _ _ _ _ _ _ _ ?c1ø ?c2ø) ?k1ø ?k2ø ?k3ø ?k4ø ?k5ø ?kKø ?kdø ?kuø ?kpø ?_; (case k1ø => k_asm); (case k2ø => k_asm); (case k3ø => k_asm); (case k4ø => k_asm); (case k5ø => k_asm); (case kpø => exact trivial); (case c1ø => kln_le); (case c2ø => kln_le); (case kKø => first | exact rfl | assumption); (case kdø => ktr_room); (case kuø => ktr_units); intro _ _ _ _ _ _; (try dsimp only); (try k_fold); (try k_sweep)))) | (((with_reducible show wpAny _ _ (subscriptTail (Expr.Name _ _) (Expr.Name _ _) (Value.ref _) (Value.int _ _)) _ _ _); (k_here; (with_reducible rename News _ _ _ _ => sN'); k_dflt (refine' it_lv sN' ?ymø ?yiø ?ykø ?ysø ?_; (case ymø => k_mem); (case yiø => assumption); (case ykø => omega); (case ysø => with_unfolding_all rfl)); intro _; (try dsimp only)))) | ((k_here; (with_reducible show wpAny _ _ (call (Value.builtin _) [Value.str _ _]) _ _ _); k_dflt (refine' lenS (fact_mk _) rfl ?ynø ?_; (case ynø => first | with_reducible assumption | omega)); intro _ _; (try dsimp only))) | (((with_reducible show wpAny _ _ (subscriptTail (Expr.Name _ _) (Expr.Slice _ _ _ _) (Value.str _ _) (Value.ref _)) _ _ _); ((with_reducible rename Fr _ _ _ _ => sF'); (with_reducible rename News _ _ _ _ => sN'); first | (refine' tsl_sn (s := ⟨_, _, _, _, _⟩) (slD _ _ (by first | with_reducible assumption | ((try simp only [List.length_drop, List.length_take]); omega)) (by first | with_reducible assumption | ((try simp only [List.length_drop, List.length_take]); omega))) sF' sN' ?q1ø ?q2ø ?zø ?_; (case q1ø => with_unfolding_all rfl); (case q2ø => intro _; with_unfolding_all rfl); (case zø => exact sl_size (by first | with_reducible assumption | ((try simp only [List.length_drop, List.length_take]); omega))); intro _ _ _ _ _) | (refine' tsl_nn (s := ⟨_, _, _, _, _⟩) (slN _ (by first | with_reducible assumption | ((try simp only [List.length_drop, List.length_take]); omega))) sF' sN' ?q1ø ?q2ø ?zø ?_; (case q1ø => with_unfolding_all rfl); (case q2ø => intro _; with_unfolding_all rfl); (case zø => exact sl_size (by first | with_reducible assumption | ((try simp only [List.length_drop, List.length_take]); omega))); intro _ _ _ _ _) | (refine' tsl_ns (s := ⟨_, _, _, _, _⟩) (slT' (by first | with_reducible assumption | ((try simp only [List.length_drop, List.length_take]); omega)) (by first | with_reducible assumption | ((try simp only [List.length_drop, List.length_take]); omega)) (by first | with_reducible assumption | ((try simp only [List.length_drop, List.length_take]); omega))) sF' sN' ?q1ø ?q2ø ?zø ?_; (case q1ø => with_unfolding_all rfl); (case q2ø => intro _; with_unfolding_all rfl); (case zø => exact sl_size (by first | with_reducible assumption | ((try simp only [List.length_drop, List.length_take]); omega))); intro _ _ _ _ _)))) | (((with_reducible show wpAny _ _ (PySem.truthy (Value.str _ _)) _ _ _); (first | (refine tru_f (by first | with_reducible assumption | ((try simp only [List.length_drop, List.length_take]); omega)) ?_; intro _) | (refine tru_t (by first | with_reducible assumption | ((try simp only [List.length_drop, List.length_take]); omega)) ?_; intro _)); (try dsimp only))) | (((with_reducible show wpAny _ _ (subscriptTail (Expr.Name _ _) (Expr.Name _ _) (Value.str _ _) (Value.int _ _)) _ _ _); (k_here; k_dflt (refine' st_at ?ykø ?y3ø ?ysø ?ytø ?_; (case ykø => omega); (case y3ø => omega); (case ysø => with_unfolding_all rfl); (case ytø => intro _; with_unfolding_all rfl)); intro _ _; (try dsimp only)))) | (((with_reducible show wpAny _ _ (subscriptTail (Expr.Name _ _) (Expr.BinOp _ _ _ _) (Value.str _ _) (Value.int _ _)) _ _ _); (k_here; k_dflt (refine' st_m ?ykø ?y3ø ?ysø ?ytø ?_; (case ykø => omega); (case y3ø => omega); (case ysø => with_unfolding_all rfl); (case ytø => intro _; with_unfolding_all rfl)); intro _ _; (try dsimp only))))); k_steps))
                  unfold Hold
                  with_reducible rename Fr _ _ _ _ => F3
                  with_reducible rename News _ _ _ _ => N3
                  rename (_ == _) = true => e
                  exact ih (n - 1) _ (by omega) ⟨_, _, p + 1, _, _, _, _, rfl, know F3 ⟨rfl, rfl, rfl, by show some (Value.int (-(p : Int) - 1) _) = _; rw [show -(p : Int) - 1 = -((p + 1 : Nat) : Int) by omega], trivial⟩, N3, ⟨hx1, hy1, drop_next hx1 hy1 hkk (one_eq e)⟩, by omega⟩
                · refine hQW _ _ ?_
                  (k_steps; repeat' (((with_reducible refine held ?_); first | ((k_here; (with_reducible show wpAny _ _ (call (Value.ref 21) _ _) _ _ _); k_dflt (refine' Clm.use_int (subC _ _ _ _ _ _ _ _ ?c1ø ?c2ø) ?k1ø ?k2ø ?k3ø ?k4ø ?k5ø ?kKø ?kdø ?kuø ?kpø ?_; (case k1ø => k_asm); (case k2ø => k_asm); (case k3ø => k_asm); (case k4ø => k_asm); (case k5ø => k_asm); (case kpø => exact trivial); (case c1ø => kln_le); (case c2ø => kln_le); (case kKø => first | exact rfl | assumption); (case kdø => ktr_room); (case kuø => ktr_units); intro _ _ _ _ _ _; (try dsimp only); (try k_fold); (try k_sweep)))) | (((with_reducible show wpAny _ _ (subscriptTail (Expr.Name _ _) (Expr.Name _ _) (Value.ref _) (Value.int _ _)) _ _ _); (k_here; (with_reducible rename News _ _ _ _ => sN'); k_dflt (refine' it_lv sN' ?ymø ?yiø ?ykø ?ysø ?_; (case ymø => k_mem); (case yiø => assumption); (case ykø => omega); (case ysø => with_unfolding_all rfl)); intro _; (try dsimp only)))) | ((k_here; (with_reducible show wpAny _ _ (call (Value.builtin _) [Value.str _ _]) _ _ _); k_dflt (refine' lenS (fact_mk _) rfl ?ynø ?_; (case ynø => first | with_reducible assumption | omega)); intro _ _; (try dsimp only))) | (((with_reducible show wpAny _ _ (subscriptTail (Expr.Name _ _) (Expr.Slice _ _ _ _) (Value.str _ _) (Value.ref _)) _ _ _); ((with_reducible rename Fr _ _ _ _ => sF'); (with_reducible rename News _ _ _ _ => sN'); first | (refine' tsl_sn (s := ⟨_, _, _, _, _⟩) (slD _ _ (by first | with_reducible assumption | ((try simp only [List.length_drop, List.length_take]); omega)) (by first | with_reducible assumption | ((try simp only [List.length_drop, List.length_take]); omega))) sF' sN' ?q1ø ?q2ø ?zø ?_; (case q1ø => with_unfolding_all rfl); (case q2ø => intro _; with_unfolding_all rfl); (case zø => exact sl_size (by first | with_reducible assumption | ((try simp only [List.length_drop, List.length_take]); omega))); intro _ _ _ _ _) | (refine' tsl_nn (s := ⟨_, _, _, _, _⟩) (slN _ (by first | with_reducible assumption | ((try simp only [List.length_drop, List.length_take]); omega))) sF' sN' ?q1ø ?q2ø ?zø ?_; (case q1ø => with_unfolding_all rfl); (case q2ø => intro _; with_unfolding_all rfl); (case zø => exact sl_size (by first | with_reducible assumption | ((try simp only [List.length_drop, List.length_take]); omega))); intro _ _ _ _ _) | (refine' tsl_ns (s := ⟨_, _, _, _, _⟩) (slT' (by first | with_reducible assumption | ((try simp only [List.length_drop, List.length_take]); omega)) (by first | with_reducible assumption | ((try simp only [List.length_drop, List.length_take]); omega)) (by first | with_reducible assumption | ((try simp only [List.length_drop, List.length_take]); omega))) sF' sN' ?q1ø ?q2ø ?zø ?_; (case q1ø => with_unfolding_all rfl); (case q2ø => intro _; with_unfolding_all rfl); (case zø => exact sl_size (by first | with_reducible assumption | ((try simp only [List.length_drop, List.length_take]); omega))); intro _ _ _ _ _)))) | (((with_reducible show wpAny _ _ (PySem.truthy (Value.str _ _)) _ _ _); (first | (refine tru_f (by first | with_reducible assumption | ((try simp only [List.length_drop, List.length_take]); omega)) ?_; intro _) | (refine tru_t (by first | with_reducible assumption | ((try simp only [List.length_drop, List.length_take]); omega)) ?_; intro _)); (try dsimp only))) | (((with_reducible show wpAny _ _ (subscriptTail (Expr.Name _ _) (Expr.Name _ _) (Value.str _ _) (Value.int _ _)) _ _ _); (k_here; k_dflt (refine' st_at ?ykø ?y3ø ?ysø ?ytø ?_; (case ykø => omega); (case y3ø => omega); (case ysø => with_unfolding_all rfl); (case ytø => intro _; with_unfolding_all rfl)); intro _ _; (try dsimp only)))) | (((with_reducible show wpAny _ _ (subscriptTail (Expr.Name _ _) (Expr.BinOp _ _ _ _) (Value.str _ _) (Value.int _ _)) _ _ _); (k_here; k_dflt (refine' st_m ?ykø ?y3ø ?ysø ?ytø ?_; (case ykø => omega); (case y3ø => omega); (case ysø => with_unfolding_all rfl); (case ytø => intro _; with_unfolding_all rfl)); intro _ _; (try dsimp only))))); k_steps))
                  exact ⟨rfl, _, _, p, _, _, _, _, rfl, by k_asm, by k_asm, hp0.1⟩
              · (k_steps; repeat' (((with_reducible refine held ?_); first | ((k_here; (with_reducible show wpAny _ _ (call (Value.ref 21) _ _) _ _ _); k_dflt (refine' Clm.use_int (subC _ _ _ _ _ _ _ _ ?c1ø ?c2ø) ?k1ø ?k2ø ?k3ø ?k4ø ?k5ø ?kKø ?kdø ?kuø ?kpø ?_; (case k1ø => k_asm); (case k2ø => k_asm); (case k3ø => k_asm); (case k4ø => k_asm); (case k5ø => k_asm); (case kpø => exact trivial); (case c1ø => kln_le); (case c2ø => kln_le); (case kKø => first | exact rfl | assumption); (case kdø => ktr_room); (case kuø => ktr_units); intro _ _ _ _ _ _; (try dsimp only); (try k_fold); (try k_sweep)))) | (((with_reducible show wpAny _ _ (subscriptTail (Expr.Name _ _) (Expr.Name _ _) (Value.ref _) (Value.int _ _)) _ _ _); (k_here; (with_reducible rename News _ _ _ _ => sN'); k_dflt (refine' it_lv sN' ?ymø ?yiø ?ykø ?ysø ?_; (case ymø => k_mem); (case yiø => assumption); (case ykø => omega); (case ysø => with_unfolding_all rfl)); intro _; (try dsimp only)))) | ((k_here; (with_reducible show wpAny _ _ (call (Value.builtin _) [Value.str _ _]) _ _ _); k_dflt (refine' lenS (fact_mk _) rfl ?ynø ?_; (case ynø => first | with_reducible assumption | omega)); intro _ _; (try dsimp only))) | (((with_reducible show wpAny _ _ (subscriptTail (Expr.Name _ _) (Expr.Slice _ _ _ _) (Value.str _ _) (Value.ref _)) _ _ _); ((with_reducible rename Fr _ _ _ _ => sF'); (with_reducible rename News _ _ _ _ => sN'); first | (refine' tsl_sn (s := ⟨_, _, _, _, _⟩) (slD _ _ (by first | with_reducible assumption | ((try simp only [List.length_drop, List.length_take]); omega)) (by first | with_reducible assumption | ((try simp only [List.length_drop, List.length_take]); omega))) sF' sN' ?q1ø ?q2ø ?zø ?_; (case q1ø => with_unfolding_all rfl); (case q2ø => intro _; with_unfolding_all rfl); (case zø => exact sl_size (by first | with_reducible assumption | ((try simp only [List.length_drop, List.length_take]); omega))); intro _ _ _ _ _) | (refine' tsl_nn (s := ⟨_, _, _, _, _⟩) (slN _ (by first | with_reducible assumption | ((try simp only [List.length_drop, List.length_take]); omega))) sF' sN' ?q1ø ?q2ø ?zø ?_; (case q1ø => with_unfolding_all rfl); (case q2ø => intro _; with_unfolding_all rfl); (case zø => exact sl_size (by first | with_reducible assumption | ((try simp only [List.length_drop, List.length_take]); omega))); intro _ _ _ _ _) | (refine' tsl_ns (s := ⟨_, _, _, _, _⟩) (slT' (by first | with_reducible assumption | ((try simp only [List.length_drop, List.length_take]); omega)) (by first | with_reducible assumption | ((try simp only [List.length_drop, List.length_take]); omega)) (by first | with_reducible assumption | ((try simp only [List.length_drop, List.length_take]); omega))) sF' sN' ?q1ø ?q2ø ?zø ?_; (case q1ø => with_unfolding_all rfl); (case q2ø => intro _; with_unfolding_all rfl); (case zø => exact sl_size (by first | with_reducible assumption | ((try simp only [List.length_drop, List.length_take]); omega))); intro _ _ _ _ _)))) | (((with_reducible show wpAny _ _ (PySem.truthy (Value.str _ _)) _ _ _); (first | (refine tru_f (by first | with_reducible assumption | ((try simp only [List.length_drop, List.length_take]); omega)) ?_; intro _) | (refine tru_t (by first | with_reducible assumption | ((try simp only [List.length_drop, List.length_take]); omega)) ?_; intro _)); (try dsimp only))) | (((with_reducible show wpAny _ _ (subscriptTail (Expr.Name _ _) (Expr.Name _ _) (Value.str _ _) (Value.int _ _)) _ _ _); (k_here; k_dflt (refine' st_at ?ykø ?y3ø ?ysø ?ytø ?_; (case ykø => omega); (case y3ø => omega); (case ysø => with_unfolding_all rfl); (case ytø => intro _; with_unfolding_all rfl)); intro _ _; (try dsimp only)))) | (((with_reducible show wpAny _ _ (subscriptTail (Expr.Name _ _) (Expr.BinOp _ _ _ _) (Value.str _ _) (Value.int _ _)) _ _ _); (k_here; k_dflt (refine' st_m ?ykø ?y3ø ?ysø ?ytø ?_; (case ykø => omega); (case y3ø => omega); (case ysø => with_unfolding_all rfl); (case ytø => intro _; with_unfolding_all rfl)); intro _ _; (try dsimp only))))); k_steps))
                refine hQW _ _ ?_
                (k_steps; repeat' (((with_reducible refine held ?_); first | ((k_here; (with_reducible show wpAny _ _ (call (Value.ref 21) _ _) _ _ _); k_dflt (refine' Clm.use_int (subC _ _ _ _ _ _ _ _ ?c1ø ?c2ø) ?k1ø ?k2ø ?k3ø ?k4ø ?k5ø ?kKø ?kdø ?kuø ?kpø ?_; (case k1ø => k_asm); (case k2ø => k_asm); (case k3ø => k_asm); (case k4ø => k_asm); (case k5ø => k_asm); (case kpø => exact trivial); (case c1ø => kln_le); (case c2ø => kln_le); (case kKø => first | exact rfl | assumption); (case kdø => ktr_room); (case kuø => ktr_units); intro _ _ _ _ _ _; (try dsimp only); (try k_fold); (try k_sweep)))) | (((with_reducible show wpAny _ _ (subscriptTail (Expr.Name _ _) (Expr.Name _ _) (Value.ref _) (Value.int _ _)) _ _ _); (k_here; (with_reducible rename News _ _ _ _ => sN'); k_dflt (refine' it_lv sN' ?ymø ?yiø ?ykø ?ysø ?_; (case ymø => k_mem); (case yiø => assumption); (case ykø => omega); (case ysø => with_unfolding_all rfl)); intro _; (try dsimp only)))) | ((k_here; (with_reducible show wpAny _ _ (call (Value.builtin _) [Value.str _ _]) _ _ _); k_dflt (refine' lenS (fact_mk _) rfl ?ynø ?_; (case ynø => first | with_reducible assumption | omega)); intro _ _; (try dsimp only))) | (((with_reducible show wpAny _ _ (subscriptTail (Expr.Name _ _) (Expr.Slice _ _ _ _) (Value.str _ _) (Value.ref _)) _ _ _); ((with_reducible rename Fr _ _ _ _ => sF'); (with_reducible rename News _ _ _ _ => sN'); first | (refine' tsl_sn (s := ⟨_, _, _, _, _⟩) (slD _ _ (by first | with_reducible assumption | ((try simp only [List.length_drop, List.length_take]); omega)) (by first | with_reducible assumption | ((try simp only [List.length_drop, List.length_take]); omega))) sF' sN' ?q1ø ?q2ø ?zø ?_; (case q1ø => with_unfolding_all rfl); (case q2ø => intro _; with_unfolding_all rfl); (case zø => exact sl_size (by first | with_reducible assumption | ((try simp only [List.length_drop, List.length_take]); omega))); intro _ _ _ _ _) | (refine' tsl_nn (s := ⟨_, _, _, _, _⟩) (slN _ (by first | with_reducible assumption | ((try simp only [List.length_drop, List.length_take]); omega))) sF' sN' ?q1ø ?q2ø ?zø ?_; (case q1ø => with_unfolding_all rfl); (case q2ø => intro _; with_unfolding_all rfl); (case zø => exact sl_size (by first | with_reducible assumption | ((try simp only [List.length_drop, List.length_take]); omega))); intro _ _ _ _ _) | (refine' tsl_ns (s := ⟨_, _, _, _, _⟩) (slT' (by first | with_reducible assumption | ((try simp only [List.length_drop, List.length_take]); omega)) (by first | with_reducible assumption | ((try simp only [List.length_drop, List.length_take]); omega)) (by first | with_reducible assumption | ((try simp only [List.length_drop, List.length_take]); omega))) sF' sN' ?q1ø ?q2ø ?zø ?_; (case q1ø => with_unfolding_all rfl); (case q2ø => intro _; with_unfolding_all rfl); (case zø => exact sl_size (by first | with_reducible assumption | ((try simp only [List.length_drop, List.length_take]); omega))); intro _ _ _ _ _)))) | (((with_reducible show wpAny _ _ (PySem.truthy (Value.str _ _)) _ _ _); (first | (refine tru_f (by first | with_reducible assumption | ((try simp only [List.length_drop, List.length_take]); omega)) ?_; intro _) | (refine tru_t (by first | with_reducible assumption | ((try simp only [List.length_drop, List.length_take]); omega)) ?_; intro _)); (try dsimp only))) | (((with_reducible show wpAny _ _ (subscriptTail (Expr.Name _ _) (Expr.Name _ _) (Value.str _ _) (Value.int _ _)) _ _ _); (k_here; k_dflt (refine' st_at ?ykø ?y3ø ?ysø ?ytø ?_; (case ykø => omega); (case y3ø => omega); (case ysø => with_unfolding_all rfl); (case ytø => intro _; with_unfolding_all rfl)); intro _ _; (try dsimp only)))) | (((with_reducible show wpAny _ _ (subscriptTail (Expr.Name _ _) (Expr.BinOp _ _ _ _) (Value.str _ _) (Value.int _ _)) _ _ _); (k_here; k_dflt (refine' st_m ?ykø ?y3ø ?ysø ?ytø ?_; (case ykø => omega); (case y3ø => omega); (case ysø => with_unfolding_all rfl); (case ytø => intro _; with_unfolding_all rfl)); intro _ _; (try dsimp only))))); k_steps))
                exact ⟨rfl, _, _, p, _, _, _, _, rfl, by k_asm, by k_asm, hp0.1⟩
            · (k_steps; repeat' (((with_reducible refine held ?_); first | ((k_here; (with_reducible show wpAny _ _ (call (Value.ref 21) _ _) _ _ _); k_dflt (refine' Clm.use_int (subC _ _ _ _ _ _ _ _ ?c1ø ?c2ø) ?k1ø ?k2ø ?k3ø ?k4ø ?k5ø ?kKø ?kdø ?kuø ?kpø ?_; (case k1ø => k_asm); (case k2ø => k_asm); (case k3ø => k_asm); (case k4ø => k_asm); (case k5ø => k_asm); (case kpø => exact trivial); (case c1ø => kln_le); (case c2ø => kln_le); (case kKø => first | exact rfl | assumption); (case kdø => ktr_room); (case kuø => ktr_units); intro _ _ _ _ _ _; (try dsimp only); (try k_fold); (try k_sweep)))) | (((with_reducible show wpAny _ _ (subscriptTail (Expr.Name _ _) (Expr.Name _ _) (Value.ref _) (Value.int _ _)) _ _ _); (k_here; (with_reducible rename News _ _ _ _ => sN'); k_dflt (refine' it_lv sN' ?ymø ?yiø ?ykø ?ysø ?_; (case ymø => k_mem); (case yiø => assumption); (case ykø => omega); (case ysø => with_unfolding_all rfl)); intro _; (try dsimp only)))) | ((k_here; (with_reducible show wpAny _ _ (call (Value.builtin _) [Value.str _ _]) _ _ _); k_dflt (refine' lenS (fact_mk _) rfl ?ynø ?_; (case ynø => first | with_reducible assumption | omega)); intro _ _; (try dsimp only))) | (((with_reducible show wpAny _ _ (subscriptTail (Expr.Name _ _) (Expr.Slice _ _ _ _) (Value.str _ _) (Value.ref _)) _ _ _); ((with_reducible rename Fr _ _ _ _ => sF'); (with_reducible rename News _ _ _ _ => sN'); first | (refine' tsl_sn (s := ⟨_, _, _, _, _⟩) (slD _ _ (by first | with_reducible assumption | ((try simp only [List.length_drop, List.length_take]); omega)) (by first | with_reducible assumption | ((try simp only [List.length_drop, List.length_take]); omega))) sF' sN' ?q1ø ?q2ø ?zø ?_; (case q1ø => with_unfolding_all rfl); (case q2ø => intro _; with_unfolding_all rfl); (case zø => exact sl_size (by first | with_reducible assumption | ((try simp only [List.length_drop, List.length_take]); omega))); intro _ _ _ _ _) | (refine' tsl_nn (s := ⟨_, _, _, _, _⟩) (slN _ (by first | with_reducible assumption | ((try simp only [List.length_drop, List.length_take]); omega))) sF' sN' ?q1ø ?q2ø ?zø ?_; (case q1ø => with_unfolding_all rfl); (case q2ø => intro _; with_unfolding_all rfl); (case zø => exact sl_size (by first | with_reducible assumption | ((try simp only [List.length_drop, List.length_take]); omega))); intro _ _ _ _ _) | (refine' tsl_ns (s := ⟨_, _, _, _, _⟩) (slT' (by first | with_reducible assumption | ((try simp only [List.length_drop, List.length_take]); omega)) (by first | with_reducible assumption | ((try simp only [List.length_drop, List.length_take]); omega)) (by first | with_reducible assumption | ((try simp only [List.length_drop, List.length_take]); omega))) sF' sN' ?q1ø ?q2ø ?zø ?_; (case q1ø => with_unfolding_all rfl); (case q2ø => intro _; with_unfolding_all rfl); (case zø => exact sl_size (by first | with_reducible assumption | ((try simp only [List.length_drop, List.length_take]); omega))); intro _ _ _ _ _)))) | (((with_reducible show wpAny _ _ (PySem.truthy (Value.str _ _)) _ _ _); (first | (refine tru_f (by first | with_reducible assumption | ((try simp only [List.length_drop, List.length_take]); omega)) ?_; intro _) | (refine tru_t (by first | with_reducible assumption | ((try simp only [List.length_drop, List.length_take]); omega)) ?_; intro _)); (try dsimp only))) | (((with_reducible show wpAny _ _ (subscriptTail (Expr.Name _ _) (Expr.Name _ _) (Value.str _ _) (Value.int _ _)) _ _ _); (k_here; k_dflt (refine' st_at ?ykø ?y3ø ?ysø ?ytø ?_; (case ykø => omega); (case y3ø => omega); (case ysø => with_unfolding_all rfl); (case ytø => intro _; with_unfolding_all rfl)); intro _ _; (try dsimp only)))) | (((with_reducible show wpAny _ _ (subscriptTail (Expr.Name _ _) (Expr.BinOp _ _ _ _) (Value.str _ _) (Value.int _ _)) _ _ _); (k_here; k_dflt (refine' st_m ?ykø ?y3ø ?ysø ?ytø ?_; (case ykø => omega); (case y3ø => omega); (case ysø => with_unfolding_all rfl); (case ytø => intro _; with_unfolding_all rfl)); intro _ _; (try dsimp only))))); k_steps))
              refine hQW _ _ ?_
              (k_steps; repeat' (((with_reducible refine held ?_); first | ((k_here; (with_reducible show wpAny _ _ (call (Value.ref 21) _ _) _ _ _); k_dflt (refine' Clm.use_int (subC _ _ _ _ _ _ _ _ ?c1ø ?c2ø) ?k1ø ?k2ø ?k3ø ?k4ø ?k5ø ?kKø ?kdø ?kuø ?kpø ?_; (case k1ø => k_asm); (case k2ø => k_asm); (case k3ø => k_asm); (case k4ø => k_asm); (case k5ø => k_asm); (case kpø => exact trivial); (case c1ø => kln_le); (case c2ø => kln_le); (case kKø => first | exact rfl | assumption); (case kdø => ktr_room); (case kuø => ktr_units); intro _ _ _ _ _ _; (try dsimp only); (try k_fold); (try k_sweep)))) | (((with_reducible show wpAny _ _ (subscriptTail (Expr.Name _ _) (Expr.Name _ _) (Value.ref _) (Value.int _ _)) _ _ _); (k_here; (with_reducible rename News _ _ _ _ => sN'); k_dflt (refine' it_lv sN' ?ymø ?yiø ?ykø ?ysø ?_; (case ymø => k_mem); (case yiø => assumption); (case ykø => omega); (case ysø => with_unfolding_all rfl)); intro _; (try dsimp only)))) | ((k_here; (with_reducible show wpAny _ _ (call (Value.builtin _) [Value.str _ _]) _ _ _); k_dflt (refine' lenS (fact_mk _) rfl ?ynø ?_; (case ynø => first | with_reducible assumption | omega)); intro _ _; (try dsimp only))) | (((with_reducible show wpAny _ _ (subscriptTail (Expr.Name _ _) (Expr.Slice _ _ _ _) (Value.str _ _) (Value.ref _)) _ _ _); ((with_reducible rename Fr _ _ _ _ => sF'); (with_reducible rename News _ _ _ _ => sN'); first | (refine' tsl_sn (s := ⟨_, _, _, _, _⟩) (slD _ _ (by first | with_reducible assumption | ((try simp only [List.length_drop, List.length_take]); omega)) (by first | with_reducible assumption | ((try simp only [List.length_drop, List.length_take]); omega))) sF' sN' ?q1ø ?q2ø ?zø ?_; (case q1ø => with_unfolding_all rfl); (case q2ø => intro _; with_unfolding_all rfl); (case zø => exact sl_size (by first | with_reducible assumption | ((try simp only [List.length_drop, List.length_take]); omega))); intro _ _ _ _ _) | (refine' tsl_nn (s := ⟨_, _, _, _, _⟩) (slN _ (by first | with_reducible assumption | ((try simp only [List.length_drop, List.length_take]); omega))) sF' sN' ?q1ø ?q2ø ?zø ?_; (case q1ø => with_unfolding_all rfl); (case q2ø => intro _; with_unfolding_all rfl); (case zø => exact sl_size (by first | with_reducible assumption | ((try simp only [List.length_drop, List.length_take]); omega))); intro _ _ _ _ _) | (refine' tsl_ns (s := ⟨_, _, _, _, _⟩) (slT' (by first | with_reducible assumption | ((try simp only [List.length_drop, List.length_take]); omega)) (by first | with_reducible assumption | ((try simp only [List.length_drop, List.length_take]); omega)) (by first | with_reducible assumption | ((try simp only [List.length_drop, List.length_take]); omega))) sF' sN' ?q1ø ?q2ø ?zø ?_; (case q1ø => with_unfolding_all rfl); (case q2ø => intro _; with_unfolding_all rfl); (case zø => exact sl_size (by first | with_reducible assumption | ((try simp only [List.length_drop, List.length_take]); omega))); intro _ _ _ _ _)))) | (((with_reducible show wpAny _ _ (PySem.truthy (Value.str _ _)) _ _ _); (first | (refine tru_f (by first | with_reducible assumption | ((try simp only [List.length_drop, List.length_take]); omega)) ?_; intro _) | (refine tru_t (by first | with_reducible assumption | ((try simp only [List.length_drop, List.length_take]); omega)) ?_; intro _)); (try dsimp only))) | (((with_reducible show wpAny _ _ (subscriptTail (Expr.Name _ _) (Expr.Name _ _) (Value.str _ _) (Value.int _ _)) _ _ _); (k_here; k_dflt (refine' st_at ?ykø ?y3ø ?ysø ?ytø ?_; (case ykø => omega); (case y3ø => omega); (case ysø => with_unfolding_all rfl); (case ytø => intro _; with_unfolding_all rfl)); intro _ _; (try dsimp only)))) | (((with_reducible show wpAny _ _ (subscriptTail (Expr.Name _ _) (Expr.BinOp _ _ _ _) (Value.str _ _) (Value.int _ _)) _ _ _); (k_here; k_dflt (refine' st_m ?ykø ?y3ø ?ysø ?ytø ?_; (case ykø => omega); (case y3ø => omega); (case ysø => with_unfolding_all rfl); (case ytø => intro _; with_unfolding_all rfl)); intro _ _; (try dsimp only))))); k_steps))
              exact ⟨rfl, _, _, p, _, _, _, _, rfl, by k_asm, by k_asm, hp0.1⟩
          · have nz : -((p : Nat) : Int) ≠ 0 := by omega
            have hp1 : 1 ≤ p := by omega
            by_cases hx1 : p < us.length
            · by_cases hy1 : p < vs.length
              · (k_steps; repeat' (((with_reducible refine held ?_); first | ((k_here; (with_reducible show wpAny _ _ (call (Value.ref 21) _ _) _ _ _); k_dflt (refine' Clm.use_int (subC _ _ _ _ _ _ _ _ ?c1ø ?c2ø) ?k1ø ?k2ø ?k3ø ?k4ø ?k5ø ?kKø ?kdø ?kuø ?kpø ?_; (case k1ø => k_asm); (case k2ø => k_asm); (case k3ø => k_asm); (case k4ø => k_asm); (case k5ø => k_asm); (case kpø => exact trivial); (case c1ø => kln_le); (case c2ø => kln_le); (case kKø => first | exact rfl | assumption); (case kdø => ktr_room); (case kuø => ktr_units); intro _ _ _ _ _ _; (try dsimp only); (try k_fold); (try k_sweep)))) | (((with_reducible show wpAny _ _ (subscriptTail (Expr.Name _ _) (Expr.Name _ _) (Value.ref _) (Value.int _ _)) _ _ _); (k_here; (with_reducible rename News _ _ _ _ => sN'); k_dflt (refine' it_lv sN' ?ymø ?yiø ?ykø ?ysø ?_; (case ymø => k_mem); (case yiø => assumption); (case ykø => omega); (case ysø => with_unfolding_all rfl)); intro _; (try dsimp only)))) | ((k_here; (with_reducible show wpAny _ _ (call (Value.builtin _) [Value.str _ _]) _ _ _); k_dflt (refine' lenS (fact_mk _) rfl ?ynø ?_; (case ynø => first | with_reducible assumption | omega)); intro _ _; (try dsimp only))) | (((with_reducible show wpAny _ _ (subscriptTail (Expr.Name _ _) (Expr.Slice _ _ _ _) (Value.str _ _) (Value.ref _)) _ _ _); ((with_reducible rename Fr _ _ _ _ => sF'); (with_reducible rename News _ _ _ _ => sN'); first | (refine' tsl_sn (s := ⟨_, _, _, _, _⟩) (slD _ _ (by first | with_reducible assumption | ((try simp only [List.length_drop, List.length_take]); omega)) (by first | with_reducible assumption | ((try simp only [List.length_drop, List.length_take]); omega))) sF' sN' ?q1ø ?q2ø ?zø ?_; (case q1ø => with_unfolding_all rfl); (case q2ø => intro _; with_unfolding_all rfl); (case zø => exact sl_size (by first | with_reducible assumption | ((try simp only [List.length_drop, List.length_take]); omega))); intro _ _ _ _ _) | (refine' tsl_nn (s := ⟨_, _, _, _, _⟩) (slN _ (by first | with_reducible assumption | ((try simp only [List.length_drop, List.length_take]); omega))) sF' sN' ?q1ø ?q2ø ?zø ?_; (case q1ø => with_unfolding_all rfl); (case q2ø => intro _; with_unfolding_all rfl); (case zø => exact sl_size (by first | with_reducible assumption | ((try simp only [List.length_drop, List.length_take]); omega))); intro _ _ _ _ _) | (refine' tsl_ns (s := ⟨_, _, _, _, _⟩) (slT' (by first | with_reducible assumption | ((try simp only [List.length_drop, List.length_take]); omega)) (by first | with_reducible assumption | ((try simp only [List.length_drop, List.length_take]); omega)) (by first | with_reducible assumption | ((try simp only [List.length_drop, List.length_take]); omega))) sF' sN' ?q1ø ?q2ø ?zø ?_; (case q1ø => with_unfolding_all rfl); (case q2ø => intro _; with_unfolding_all rfl); (case zø => exact sl_size (by first | with_reducible assumption | ((try simp only [List.length_drop, List.length_take]); omega))); intro _ _ _ _ _)))) | (((with_reducible show wpAny _ _ (PySem.truthy (Value.str _ _)) _ _ _); (first | (refine tru_f (by first | with_reducible assumption | ((try simp only [List.length_drop, List.length_take]); omega)) ?_; intro _) | (refine tru_t (by first | with_reducible assumption | ((try simp only [List.length_drop, List.length_take]); omega)) ?_; intro _)); (try dsimp only))) | (((with_reducible show wpAny _ _ (subscriptTail (Expr.Name _ _) (Expr.Name _ _) (Value.str _ _) (Value.int _ _)) _ _ _); (k_here; k_dflt (refine' st_at ?ykø ?y3ø ?ysø ?ytø ?_; (case ykø => omega); (case y3ø => omega); (case ysø => with_unfolding_all rfl); (case ytø => intro _; with_unfolding_all rfl)); intro _ _; (try dsimp only)))) | (((with_reducible show wpAny _ _ (subscriptTail (Expr.Name _ _) (Expr.BinOp _ _ _ _) (Value.str _ _) (Value.int _ _)) _ _ _); (k_here; k_dflt (refine' st_m ?ykø ?y3ø ?ysø ?ytø ?_; (case ykø => omega); (case y3ø => omega); (case ysø => with_unfolding_all rfl); (case ytø => intro _; with_unfolding_all rfl)); intro _ _; (try dsimp only))))); k_steps))
                · refine hQW _ _ ?_
                  (k_steps; repeat' (((with_reducible refine held ?_); first | ((k_here; (with_reducible show wpAny _ _ (call (Value.ref 21) _ _) _ _ _); k_dflt (refine' Clm.use_int (subC _ _ _ _ _ _ _ _ ?c1ø ?c2ø) ?k1ø ?k2ø ?k3ø ?k4ø ?k5ø ?kKø ?kdø ?kuø ?kpø ?_; (case k1ø => k_asm); (case k2ø => k_asm); (case k3ø => k_asm); (case k4ø => k_asm); (case k5ø => k_asm); (case kpø => exact trivial); (case c1ø => kln_le); (case c2ø => kln_le); (case kKø => first | exact rfl | assumption); (case kdø => ktr_room); (case kuø => ktr_units); intro _ _ _ _ _ _; (try dsimp only); (try k_fold); (try k_sweep)))) | (((with_reducible show wpAny _ _ (subscriptTail (Expr.Name _ _) (Expr.Name _ _) (Value.ref _) (Value.int _ _)) _ _ _); (k_here; (with_reducible rename News _ _ _ _ => sN'); k_dflt (refine' it_lv sN' ?ymø ?yiø ?ykø ?ysø ?_; (case ymø => k_mem); (case yiø => assumption); (case ykø => omega); (case ysø => with_unfolding_all rfl)); intro _; (try dsimp only)))) | ((k_here; (with_reducible show wpAny _ _ (call (Value.builtin _) [Value.str _ _]) _ _ _); k_dflt (refine' lenS (fact_mk _) rfl ?ynø ?_; (case ynø => first | with_reducible assumption | omega)); intro _ _; (try dsimp only))) | (((with_reducible show wpAny _ _ (subscriptTail (Expr.Name _ _) (Expr.Slice _ _ _ _) (Value.str _ _) (Value.ref _)) _ _ _); ((with_reducible rename Fr _ _ _ _ => sF'); (with_reducible rename News _ _ _ _ => sN'); first | (refine' tsl_sn (s := ⟨_, _, _, _, _⟩) (slD _ _ (by first | with_reducible assumption | ((try simp only [List.length_drop, List.length_take]); omega)) (by first | with_reducible assumption | ((try simp only [List.length_drop, List.length_take]); omega))) sF' sN' ?q1ø ?q2ø ?zø ?_; (case q1ø => with_unfolding_all rfl); (case q2ø => intro _; with_unfolding_all rfl); (case zø => exact sl_size (by first | with_reducible assumption | ((try simp only [List.length_drop, List.length_take]); omega))); intro _ _ _ _ _) | (refine' tsl_nn (s := ⟨_, _, _, _, _⟩) (slN _ (by first | with_reducible assumption | ((try simp only [List.length_drop, List.length_take]); omega))) sF' sN' ?q1ø ?q2ø ?zø ?_; (case q1ø => with_unfolding_all rfl); (case q2ø => intro _; with_unfolding_all rfl); (case zø => exact sl_size (by first | with_reducible assumption | ((try simp only [List.length_drop, List.length_take]); omega))); intro _ _ _ _ _) | (refine' tsl_ns (s := ⟨_, _, _, _, _⟩) (slT' (by first | with_reducible assumption | ((try simp only [List.length_drop, List.length_take]); omega)) (by first | with_reducible assumption | ((try simp only [List.length_drop, List.length_take]); omega)) (by first | with_reducible assumption | ((try simp only [List.length_drop, List.length_take]); omega))) sF' sN' ?q1ø ?q2ø ?zø ?_; (case q1ø => with_unfolding_all rfl); (case q2ø => intro _; with_unfolding_all rfl); (case zø => exact sl_size (by first | with_reducible assumption | ((try simp only [List.length_drop, List.length_take]); omega))); intro _ _ _ _ _)))) | (((with_reducible show wpAny _ _ (PySem.truthy (Value.str _ _)) _ _ _); (first | (refine tru_f (by first | with_reducible assumption | ((try simp only [List.length_drop, List.length_take]); omega)) ?_; intro _) | (refine tru_t (by first | with_reducible assumption | ((try simp only [List.length_drop, List.length_take]); omega)) ?_; intro _)); (try dsimp only))) | (((with_reducible show wpAny _ _ (subscriptTail (Expr.Name _ _) (Expr.Name _ _) (Value.str _ _) (Value.int _ _)) _ _ _); (k_here; k_dflt (refine' st_at ?ykø ?y3ø ?ysø ?ytø ?_; (case ykø => omega); (case y3ø => omega); (case ysø => with_unfolding_all rfl); (case ytø => intro _; with_unfolding_all rfl)); intro _ _; (try dsimp only)))) | (((with_reducible show wpAny _ _ (subscriptTail (Expr.Name _ _) (Expr.BinOp _ _ _ _) (Value.str _ _) (Value.int _ _)) _ _ _); (k_here; k_dflt (refine' st_m ?ykø ?y3ø ?ysø ?ytø ?_; (case ykø => omega); (case y3ø => omega); (case ysø => with_unfolding_all rfl); (case ytø => intro _; with_unfolding_all rfl)); intro _ _; (try dsimp only))))); k_steps))
                  unfold Hold
                  with_reducible rename Fr _ _ _ _ => F3
                  with_reducible rename News _ _ _ _ => N3
                  rename (_ == _) = true => e
                  exact ih (n - 1) _ (by omega) ⟨_, _, p + 1, _, _, _, _, rfl, know F3 ⟨rfl, rfl, rfl, by show some (Value.int (-(p : Int) - 1) _) = _; rw [show -(p : Int) - 1 = -((p + 1 : Nat) : Int) by omega], trivial⟩, N3, ⟨hx1, hy1, drop_next hx1 hy1 hkk (one_eq e)⟩, by omega⟩
                · refine hQW _ _ ?_
                  (k_steps; repeat' (((with_reducible refine held ?_); first | ((k_here; (with_reducible show wpAny _ _ (call (Value.ref 21) _ _) _ _ _); k_dflt (refine' Clm.use_int (subC _ _ _ _ _ _ _ _ ?c1ø ?c2ø) ?k1ø ?k2ø ?k3ø ?k4ø ?k5ø ?kKø ?kdø ?kuø ?kpø ?_; (case k1ø => k_asm); (case k2ø => k_asm); (case k3ø => k_asm); (case k4ø => k_asm); (case k5ø => k_asm); (case kpø => exact trivial); (case c1ø => kln_le); (case c2ø => kln_le); (case kKø => first | exact rfl | assumption); (case kdø => ktr_room); (case kuø => ktr_units); intro _ _ _ _ _ _; (try dsimp only); (try k_fold); (try k_sweep)))) | (((with_reducible show wpAny _ _ (subscriptTail (Expr.Name _ _) (Expr.Name _ _) (Value.ref _) (Value.int _ _)) _ _ _); (k_here; (with_reducible rename News _ _ _ _ => sN'); k_dflt (refine' it_lv sN' ?ymø ?yiø ?ykø ?ysø ?_; (case ymø => k_mem); (case yiø => assumption); (case ykø => omega); (case ysø => with_unfolding_all rfl)); intro _; (try dsimp only)))) | ((k_here; (with_reducible show wpAny _ _ (call (Value.builtin _) [Value.str _ _]) _ _ _); k_dflt (refine' lenS (fact_mk _) rfl ?ynø ?_; (case ynø => first | with_reducible assumption | omega)); intro _ _; (try dsimp only))) | (((with_reducible show wpAny _ _ (subscriptTail (Expr.Name _ _) (Expr.Slice _ _ _ _) (Value.str _ _) (Value.ref _)) _ _ _); ((with_reducible rename Fr _ _ _ _ => sF'); (with_reducible rename News _ _ _ _ => sN'); first | (refine' tsl_sn (s := ⟨_, _, _, _, _⟩) (slD _ _ (by first | with_reducible assumption | ((try simp only [List.length_drop, List.length_take]); omega)) (by first | with_reducible assumption | ((try simp only [List.length_drop, List.length_take]); omega))) sF' sN' ?q1ø ?q2ø ?zø ?_; (case q1ø => with_unfolding_all rfl); (case q2ø => intro _; with_unfolding_all rfl); (case zø => exact sl_size (by first | with_reducible assumption | ((try simp only [List.length_drop, List.length_take]); omega))); intro _ _ _ _ _) | (refine' tsl_nn (s := ⟨_, _, _, _, _⟩) (slN _ (by first | with_reducible assumption | ((try simp only [List.length_drop, List.length_take]); omega))) sF' sN' ?q1ø ?q2ø ?zø ?_; (case q1ø => with_unfolding_all rfl); (case q2ø => intro _; with_unfolding_all rfl); (case zø => exact sl_size (by first | with_reducible assumption | ((try simp only [List.length_drop, List.length_take]); omega))); intro _ _ _ _ _) | (refine' tsl_ns (s := ⟨_, _, _, _, _⟩) (slT' (by first | with_reducible assumption | ((try simp only [List.length_drop, List.length_take]); omega)) (by first | with_reducible assumption | ((try simp only [List.length_drop, List.length_take]); omega)) (by first | with_reducible assumption | ((try simp only [List.length_drop, List.length_take]); omega))) sF' sN' ?q1ø ?q2ø ?zø ?_; (case q1ø => with_unfolding_all rfl); (case q2ø => intro _; with_unfolding_all rfl); (case zø => exact sl_size (by first | with_reducible assumption | ((try simp only [List.length_drop, List.length_take]); omega))); intro _ _ _ _ _)))) | (((with_reducible show wpAny _ _ (PySem.truthy (Value.str _ _)) _ _ _); (first | (refine tru_f (by first | with_reducible assumption | ((try simp only [List.length_drop, List.length_take]); omega)) ?_; intro _) | (refine tru_t (by first | with_reducible assumption | ((try simp only [List.length_drop, List.length_take]); omega)) ?_; intro _)); (try dsimp only))) | (((with_reducible show wpAny _ _ (subscriptTail (Expr.Name _ _) (Expr.Name _ _) (Value.str _ _) (Value.int _ _)) _ _ _); (k_here; k_dflt (refine' st_at ?ykø ?y3ø ?ysø ?ytø ?_; (case ykø => omega); (case y3ø => omega); (case ysø => with_unfolding_all rfl); (case ytø => intro _; with_unfolding_all rfl)); intro _ _; (try dsimp only)))) | (((with_reducible show wpAny _ _ (subscriptTail (Expr.Name _ _) (Expr.BinOp _ _ _ _) (Value.str _ _) (Value.int _ _)) _ _ _); (k_here; k_dflt (refine' st_m ?ykø ?y3ø ?ysø ?ytø ?_; (case ykø => omega); (case y3ø => omega); (case ysø => with_unfolding_all rfl); (case ytø => intro _; with_unfolding_all rfl)); intro _ _; (try dsimp only))))); k_steps))
                  exact ⟨rfl, _, _, p, _, _, _, _, rfl, by k_asm, by k_asm, hp0.1⟩
              · (k_steps; repeat' (((with_reducible refine held ?_); first | ((k_here; (with_reducible show wpAny _ _ (call (Value.ref 21) _ _) _ _ _); k_dflt (refine' Clm.use_int (subC _ _ _ _ _ _ _ _ ?c1ø ?c2ø) ?k1ø ?k2ø ?k3ø ?k4ø ?k5ø ?kKø ?kdø ?kuø ?kpø ?_; (case k1ø => k_asm); (case k2ø => k_asm); (case k3ø => k_asm); (case k4ø => k_asm); (case k5ø => k_asm); (case kpø => exact trivial); (case c1ø => kln_le); (case c2ø => kln_le); (case kKø => first | exact rfl | assumption); (case kdø => ktr_room); (case kuø => ktr_units); intro _ _ _ _ _ _; (try dsimp only); (try k_fold); (try k_sweep)))) | (((with_reducible show wpAny _ _ (subscriptTail (Expr.Name _ _) (Expr.Name _ _) (Value.ref _) (Value.int _ _)) _ _ _); (k_here; (with_reducible rename News _ _ _ _ => sN'); k_dflt (refine' it_lv sN' ?ymø ?yiø ?ykø ?ysø ?_; (case ymø => k_mem); (case yiø => assumption); (case ykø => omega); (case ysø => with_unfolding_all rfl)); intro _; (try dsimp only)))) | ((k_here; (with_reducible show wpAny _ _ (call (Value.builtin _) [Value.str _ _]) _ _ _); k_dflt (refine' lenS (fact_mk _) rfl ?ynø ?_; (case ynø => first | with_reducible assumption | omega)); intro _ _; (try dsimp only))) | (((with_reducible show wpAny _ _ (subscriptTail (Expr.Name _ _) (Expr.Slice _ _ _ _) (Value.str _ _) (Value.ref _)) _ _ _); ((with_reducible rename Fr _ _ _ _ => sF'); (with_reducible rename News _ _ _ _ => sN'); first | (refine' tsl_sn (s := ⟨_, _, _, _, _⟩) (slD _ _ (by first | with_reducible assumption | ((try simp only [List.length_drop, List.length_take]); omega)) (by first | with_reducible assumption | ((try simp only [List.length_drop, List.length_take]); omega))) sF' sN' ?q1ø ?q2ø ?zø ?_; (case q1ø => with_unfolding_all rfl); (case q2ø => intro _; with_unfolding_all rfl); (case zø => exact sl_size (by first | with_reducible assumption | ((try simp only [List.length_drop, List.length_take]); omega))); intro _ _ _ _ _) | (refine' tsl_nn (s := ⟨_, _, _, _, _⟩) (slN _ (by first | with_reducible assumption | ((try simp only [List.length_drop, List.length_take]); omega))) sF' sN' ?q1ø ?q2ø ?zø ?_; (case q1ø => with_unfolding_all rfl); (case q2ø => intro _; with_unfolding_all rfl); (case zø => exact sl_size (by first | with_reducible assumption | ((try simp only [List.length_drop, List.length_take]); omega))); intro _ _ _ _ _) | (refine' tsl_ns (s := ⟨_, _, _, _, _⟩) (slT' (by first | with_reducible assumption | ((try simp only [List.length_drop, List.length_take]); omega)) (by first | with_reducible assumption | ((try simp only [List.length_drop, List.length_take]); omega)) (by first | with_reducible assumption | ((try simp only [List.length_drop, List.length_take]); omega))) sF' sN' ?q1ø ?q2ø ?zø ?_; (case q1ø => with_unfolding_all rfl); (case q2ø => intro _; with_unfolding_all rfl); (case zø => exact sl_size (by first | with_reducible assumption | ((try simp only [List.length_drop, List.length_take]); omega))); intro _ _ _ _ _)))) | (((with_reducible show wpAny _ _ (PySem.truthy (Value.str _ _)) _ _ _); (first | (refine tru_f (by first | with_reducible assumption | ((try simp only [List.length_drop, List.length_take]); omega)) ?_; intro _) | (refine tru_t (by first | with_reducible assumption | ((try simp only [List.length_drop, List.length_take]); omega)) ?_; intro _)); (try dsimp only))) | (((with_reducible show wpAny _ _ (subscriptTail (Expr.Name _ _) (Expr.Name _ _) (Value.str _ _) (Value.int _ _)) _ _ _); (k_here; k_dflt (refine' st_at ?ykø ?y3ø ?ysø ?ytø ?_; (case ykø => omega); (case y3ø => omega); (case ysø => with_unfolding_all rfl); (case ytø => intro _; with_unfolding_all rfl)); intro _ _; (try dsimp only)))) | (((with_reducible show wpAny _ _ (subscriptTail (Expr.Name _ _) (Expr.BinOp _ _ _ _) (Value.str _ _) (Value.int _ _)) _ _ _); (k_here; k_dflt (refine' st_m ?ykø ?y3ø ?ysø ?ytø ?_; (case ykø => omega); (case y3ø => omega); (case ysø => with_unfolding_all rfl); (case ytø => intro _; with_unfolding_all rfl)); intro _ _; (try dsimp only))))); k_steps))
                refine hQW _ _ ?_
                (k_steps; repeat' (((with_reducible refine held ?_); first | ((k_here; (with_reducible show wpAny _ _ (call (Value.ref 21) _ _) _ _ _); k_dflt (refine' Clm.use_int (subC _ _ _ _ _ _ _ _ ?c1ø ?c2ø) ?k1ø ?k2ø ?k3ø ?k4ø ?k5ø ?kKø ?kdø ?kuø ?kpø ?_; (case k1ø => k_asm); (case k2ø => k_asm); (case k3ø => k_asm); (case k4ø => k_asm); (case k5ø => k_asm); (case kpø => exact trivial); (case c1ø => kln_le); (case c2ø => kln_le); (case kKø => first | exact rfl | assumption); (case kdø => ktr_room); (case kuø => ktr_units); intro _ _ _ _ _ _; (try dsimp only); (try k_fold); (try k_sweep)))) | (((with_reducible show wpAny _ _ (subscriptTail (Expr.Name _ _) (Expr.Name _ _) (Value.ref _) (Value.int _ _)) _ _ _); (k_here; (with_reducible rename News _ _ _ _ => sN'); k_dflt (refine' it_lv sN' ?ymø ?yiø ?ykø ?ysø ?_; (case ymø => k_mem); (case yiø => assumption); (case ykø => omega); (case ysø => with_unfolding_all rfl)); intro _; (try dsimp only)))) | ((k_here; (with_reducible show wpAny _ _ (call (Value.builtin _) [Value.str _ _]) _ _ _); k_dflt (refine' lenS (fact_mk _) rfl ?ynø ?_; (case ynø => first | with_reducible assumption | omega)); intro _ _; (try dsimp only))) | (((with_reducible show wpAny _ _ (subscriptTail (Expr.Name _ _) (Expr.Slice _ _ _ _) (Value.str _ _) (Value.ref _)) _ _ _); ((with_reducible rename Fr _ _ _ _ => sF'); (with_reducible rename News _ _ _ _ => sN'); first | (refine' tsl_sn (s := ⟨_, _, _, _, _⟩) (slD _ _ (by first | with_reducible assumption | ((try simp only [List.length_drop, List.length_take]); omega)) (by first | with_reducible assumption | ((try simp only [List.length_drop, List.length_take]); omega))) sF' sN' ?q1ø ?q2ø ?zø ?_; (case q1ø => with_unfolding_all rfl); (case q2ø => intro _; with_unfolding_all rfl); (case zø => exact sl_size (by first | with_reducible assumption | ((try simp only [List.length_drop, List.length_take]); omega))); intro _ _ _ _ _) | (refine' tsl_nn (s := ⟨_, _, _, _, _⟩) (slN _ (by first | with_reducible assumption | ((try simp only [List.length_drop, List.length_take]); omega))) sF' sN' ?q1ø ?q2ø ?zø ?_; (case q1ø => with_unfolding_all rfl); (case q2ø => intro _; with_unfolding_all rfl); (case zø => exact sl_size (by first | with_reducible assumption | ((try simp only [List.length_drop, List.length_take]); omega))); intro _ _ _ _ _) | (refine' tsl_ns (s := ⟨_, _, _, _, _⟩) (slT' (by first | with_reducible assumption | ((try simp only [List.length_drop, List.length_take]); omega)) (by first | with_reducible assumption | ((try simp only [List.length_drop, List.length_take]); omega)) (by first | with_reducible assumption | ((try simp only [List.length_drop, List.length_take]); omega))) sF' sN' ?q1ø ?q2ø ?zø ?_; (case q1ø => with_unfolding_all rfl); (case q2ø => intro _; with_unfolding_all rfl); (case zø => exact sl_size (by first | with_reducible assumption | ((try simp only [List.length_drop, List.length_take]); omega))); intro _ _ _ _ _)))) | (((with_reducible show wpAny _ _ (PySem.truthy (Value.str _ _)) _ _ _); (first | (refine tru_f (by first | with_reducible assumption | ((try simp only [List.length_drop, List.length_take]); omega)) ?_; intro _) | (refine tru_t (by first | with_reducible assumption | ((try simp only [List.length_drop, List.length_take]); omega)) ?_; intro _)); (try dsimp only))) | (((with_reducible show wpAny _ _ (subscriptTail (Expr.Name _ _) (Expr.Name _ _) (Value.str _ _) (Value.int _ _)) _ _ _); (k_here; k_dflt (refine' st_at ?ykø ?y3ø ?ysø ?ytø ?_; (case ykø => omega); (case y3ø => omega); (case ysø => with_unfolding_all rfl); (case ytø => intro _; with_unfolding_all rfl)); intro _ _; (try dsimp only)))) | (((with_reducible show wpAny _ _ (subscriptTail (Expr.Name _ _) (Expr.BinOp _ _ _ _) (Value.str _ _) (Value.int _ _)) _ _ _); (k_here; k_dflt (refine' st_m ?ykø ?y3ø ?ysø ?ytø ?_; (case ykø => omega); (case y3ø => omega); (case ysø => with_unfolding_all rfl); (case ytø => intro _; with_unfolding_all rfl)); intro _ _; (try dsimp only))))); k_steps))
                exact ⟨rfl, _, _, p, _, _, _, _, rfl, by k_asm, by k_asm, hp0.1⟩
            · (k_steps; repeat' (((with_reducible refine held ?_); first | ((k_here; (with_reducible show wpAny _ _ (call (Value.ref 21) _ _) _ _ _); k_dflt (refine' Clm.use_int (subC _ _ _ _ _ _ _ _ ?c1ø ?c2ø) ?k1ø ?k2ø ?k3ø ?k4ø ?k5ø ?kKø ?kdø ?kuø ?kpø ?_; (case k1ø => k_asm); (case k2ø => k_asm); (case k3ø => k_asm); (case k4ø => k_asm); (case k5ø => k_asm); (case kpø => exact trivial); (case c1ø => kln_le); (case c2ø => kln_le); (case kKø => first | exact rfl | assumption); (case kdø => ktr_room); (case kuø => ktr_units); intro _ _ _ _ _ _; (try dsimp only); (try k_fold); (try k_sweep)))) | (((with_reducible show wpAny _ _ (subscriptTail (Expr.Name _ _) (Expr.Name _ _) (Value.ref _) (Value.int _ _)) _ _ _); (k_here; (with_reducible rename News _ _ _ _ => sN'); k_dflt (refine' it_lv sN' ?ymø ?yiø ?ykø ?ysø ?_; (case ymø => k_mem); (case yiø => assumption); (case ykø => omega); (case ysø => with_unfolding_all rfl)); intro _; (try dsimp only)))) | ((k_here; (with_reducible show wpAny _ _ (call (Value.builtin _) [Value.str _ _]) _ _ _); k_dflt (refine' lenS (fact_mk _) rfl ?ynø ?_; (case ynø => first | with_reducible assumption | omega)); intro _ _; (try dsimp only))) | (((with_reducible show wpAny _ _ (subscriptTail (Expr.Name _ _) (Expr.Slice _ _ _ _) (Value.str _ _) (Value.ref _)) _ _ _); ((with_reducible rename Fr _ _ _ _ => sF'); (with_reducible rename News _ _ _ _ => sN'); first | (refine' tsl_sn (s := ⟨_, _, _, _, _⟩) (slD _ _ (by first | with_reducible assumption | ((try simp only [List.length_drop, List.length_take]); omega)) (by first | with_reducible assumption | ((try simp only [List.length_drop, List.length_take]); omega))) sF' sN' ?q1ø ?q2ø ?zø ?_; (case q1ø => with_unfolding_all rfl); (case q2ø => intro _; with_unfolding_all rfl); (case zø => exact sl_size (by first | with_reducible assumption | ((try simp only [List.length_drop, List.length_take]); omega))); intro _ _ _ _ _) | (refine' tsl_nn (s := ⟨_, _, _, _, _⟩) (slN _ (by first | with_reducible assumption | ((try simp only [List.length_drop, List.length_take]); omega))) sF' sN' ?q1ø ?q2ø ?zø ?_; (case q1ø => with_unfolding_all rfl); (case q2ø => intro _; with_unfolding_all rfl); (case zø => exact sl_size (by first | with_reducible assumption | ((try simp only [List.length_drop, List.length_take]); omega))); intro _ _ _ _ _) | (refine' tsl_ns (s := ⟨_, _, _, _, _⟩) (slT' (by first | with_reducible assumption | ((try simp only [List.length_drop, List.length_take]); omega)) (by first | with_reducible assumption | ((try simp only [List.length_drop, List.length_take]); omega)) (by first | with_reducible assumption | ((try simp only [List.length_drop, List.length_take]); omega))) sF' sN' ?q1ø ?q2ø ?zø ?_; (case q1ø => with_unfolding_all rfl); (case q2ø => intro _; with_unfolding_all rfl); (case zø => exact sl_size (by first | with_reducible assumption | ((try simp only [List.length_drop, List.length_take]); omega))); intro _ _ _ _ _)))) | (((with_reducible show wpAny _ _ (PySem.truthy (Value.str _ _)) _ _ _); (first | (refine tru_f (by first | with_reducible assumption | ((try simp only [List.length_drop, List.length_take]); omega)) ?_; intro _) | (refine tru_t (by first | with_reducible assumption | ((try simp only [List.length_drop, List.length_take]); omega)) ?_; intro _)); (try dsimp only))) | (((with_reducible show wpAny _ _ (subscriptTail (Expr.Name _ _) (Expr.Name _ _) (Value.str _ _) (Value.int _ _)) _ _ _); (k_here; k_dflt (refine' st_at ?ykø ?y3ø ?ysø ?ytø ?_; (case ykø => omega); (case y3ø => omega); (case ysø => with_unfolding_all rfl); (case ytø => intro _; with_unfolding_all rfl)); intro _ _; (try dsimp only)))) | (((with_reducible show wpAny _ _ (subscriptTail (Expr.Name _ _) (Expr.BinOp _ _ _ _) (Value.str _ _) (Value.int _ _)) _ _ _); (k_here; k_dflt (refine' st_m ?ykø ?y3ø ?ysø ?ytø ?_; (case ykø => omega); (case y3ø => omega); (case ysø => with_unfolding_all rfl); (case ytø => intro _; with_unfolding_all rfl)); intro _ _; (try dsimp only))))); k_steps))
              refine hQW _ _ ?_
              (k_steps; repeat' (((with_reducible refine held ?_); first | ((k_here; (with_reducible show wpAny _ _ (call (Value.ref 21) _ _) _ _ _); k_dflt (refine' Clm.use_int (subC _ _ _ _ _ _ _ _ ?c1ø ?c2ø) ?k1ø ?k2ø ?k3ø ?k4ø ?k5ø ?kKø ?kdø ?kuø ?kpø ?_; (case k1ø => k_asm); (case k2ø => k_asm); (case k3ø => k_asm); (case k4ø => k_asm); (case k5ø => k_asm); (case kpø => exact trivial); (case c1ø => kln_le); (case c2ø => kln_le); (case kKø => first | exact rfl | assumption); (case kdø => ktr_room); (case kuø => ktr_units); intro _ _ _ _ _ _; (try dsimp only); (try k_fold); (try k_sweep)))) | (((with_reducible show wpAny _ _ (subscriptTail (Expr.Name _ _) (Expr.Name _ _) (Value.ref _) (Value.int _ _)) _ _ _); (k_here; (with_reducible rename News _ _ _ _ => sN'); k_dflt (refine' it_lv sN' ?ymø ?yiø ?ykø ?ysø ?_; (case ymø => k_mem); (case yiø => assumption); (case ykø => omega); (case ysø => with_unfolding_all rfl)); intro _; (try dsimp only)))) | ((k_here; (with_reducible show wpAny _ _ (call (Value.builtin _) [Value.str _ _]) _ _ _); k_dflt (refine' lenS (fact_mk _) rfl ?ynø ?_; (case ynø => first | with_reducible assumption | omega)); intro _ _; (try dsimp only))) | (((with_reducible show wpAny _ _ (subscriptTail (Expr.Name _ _) (Expr.Slice _ _ _ _) (Value.str _ _) (Value.ref _)) _ _ _); ((with_reducible rename Fr _ _ _ _ => sF'); (with_reducible rename News _ _ _ _ => sN'); first | (refine' tsl_sn (s := ⟨_, _, _, _, _⟩) (slD _ _ (by first | with_reducible assumption | ((try simp only [List.length_drop, List.length_take]); omega)) (by first | with_reducible assumption | ((try simp only [List.length_drop, List.length_take]); omega))) sF' sN' ?q1ø ?q2ø ?zø ?_; (case q1ø => with_unfolding_all rfl); (case q2ø => intro _; with_unfolding_all rfl); (case zø => exact sl_size (by first | with_reducible assumption | ((try simp only [List.length_drop, List.length_take]); omega))); intro _ _ _ _ _) | (refine' tsl_nn (s := ⟨_, _, _, _, _⟩) (slN _ (by first | with_reducible assumption | ((try simp only [List.length_drop, List.length_take]); omega))) sF' sN' ?q1ø ?q2ø ?zø ?_; (case q1ø => with_unfolding_all rfl); (case q2ø => intro _; with_unfolding_all rfl); (case zø => exact sl_size (by first | with_reducible assumption | ((try simp only [List.length_drop, List.length_take]); omega))); intro _ _ _ _ _) | (refine' tsl_ns (s := ⟨_, _, _, _, _⟩) (slT' (by first | with_reducible assumption | ((try simp only [List.length_drop, List.length_take]); omega)) (by first | with_reducible assumption | ((try simp only [List.length_drop, List.length_take]); omega)) (by first | with_reducible assumption | ((try simp only [List.length_drop, List.length_take]); omega))) sF' sN' ?q1ø ?q2ø ?zø ?_; (case q1ø => with_unfolding_all rfl); (case q2ø => intro _; with_unfolding_all rfl); (case zø => exact sl_size (by first | with_reducible assumption | ((try simp only [List.length_drop, List.length_take]); omega))); intro _ _ _ _ _)))) | (((with_reducible show wpAny _ _ (PySem.truthy (Value.str _ _)) _ _ _); (first | (refine tru_f (by first | with_reducible assumption | ((try simp only [List.length_drop, List.length_take]); omega)) ?_; intro _) | (refine tru_t (by first | with_reducible assumption | ((try simp only [List.length_drop, List.length_take]); omega)) ?_; intro _)); (try dsimp only))) | (((with_reducible show wpAny _ _ (subscriptTail (Expr.Name _ _) (Expr.Name _ _) (Value.str _ _) (Value.int _ _)) _ _ _); (k_here; k_dflt (refine' st_at ?ykø ?y3ø ?ysø ?ytø ?_; (case ykø => omega); (case y3ø => omega); (case ysø => with_unfolding_all rfl); (case ytø => intro _; with_unfolding_all rfl)); intro _ _; (try dsimp only)))) | (((with_reducible show wpAny _ _ (subscriptTail (Expr.Name _ _) (Expr.BinOp _ _ _ _) (Value.str _ _) (Value.int _ _)) _ _ _); (k_here; k_dflt (refine' st_m ?ykø ?y3ø ?ysø ?ytø ?_; (case ykø => omega); (case y3ø => omega); (case ysø => with_unfolding_all rfl); (case ytø => intro _; with_unfolding_all rfl)); intro _ _; (try dsimp only))))); k_steps))
              exact ⟨rfl, _, _, p, _, _, _, _, rfl, by k_asm, by k_asm, hp0.1⟩
        · exact ⟨_, _, 0, _, _, _, _, rfl, F2, N2, ⟨Nat.zero_le _, Nat.zero_le _, by simp⟩, rfl⟩
      case rest2 =>
        try clear F2 N2
        rintro f s' ⟨rfl, h2, tk2, p, tp, ta, tb, u, rfl, F2, N2, hp0⟩
        have hkx := hp0.1
        have hky := hp0.2.1
        have hkk := hp0.2.2
        have mkA : MarkA := trivial
        (k_steps; repeat' (((with_reducible refine held ?_); first | ((k_here; (with_reducible show wpAny _ _ (call (Value.ref 21) _ _) _ _ _); k_dflt (refine' Clm.use_int (subC _ _ _ _ _ _ _ _ ?c1ø ?c2ø) ?k1ø ?k2ø ?k3ø ?k4ø ?k5ø ?kKø ?kdø ?kuø ?kpø ?_; (case k1ø => k_asm); (case k2ø => k_asm); (case k3ø => k_asm); (case k4ø => k_asm); (case k5ø => k_asm); (case kpø => exact trivial); (case c1ø => kln_le); (case c2ø => kln_le); (case kKø => first | exact rfl | assumption); (case kdø => ktr_room); (case kuø => ktr_units); intro _ _ _ _ _ _; (try dsimp only); (try k_fold); (try k_sweep)))) | (((with_reducible show wpAny _ _ (subscriptTail (Expr.Name _ _) (Expr.Name _ _) (Value.ref _) (Value.int _ _)) _ _ _); (k_here; (with_reducible rename News _ _ _ _ => sN'); k_dflt (refine' it_lv sN' ?ymø ?yiø ?ykø ?ysø ?_; (case ymø => k_mem); (case yiø => assumption); (case ykø => omega); (case ysø => with_unfolding_all rfl)); intro _; (try dsimp only)))) | ((k_here; (with_reducible show wpAny _ _ (call (Value.builtin _) [Value.str _ _]) _ _ _); k_dflt (refine' lenS (fact_mk _) rfl ?ynø ?_; (case ynø => first | with_reducible assumption | omega)); intro _ _; (try dsimp only))) | (((with_reducible show wpAny _ _ (subscriptTail (Expr.Name _ _) (Expr.Slice _ _ _ _) (Value.str _ _) (Value.ref _)) _ _ _); ((with_reducible rename Fr _ _ _ _ => sF'); (with_reducible rename News _ _ _ _ => sN'); first | (refine' tsl_sn (s := ⟨_, _, _, _, _⟩) (slD _ _ (by first | with_reducible assumption | ((try simp only [List.length_drop, List.length_take]); omega)) (by first | with_reducible assumption | ((try simp only [List.length_drop, List.length_take]); omega))) sF' sN' ?q1ø ?q2ø ?zø ?_; (case q1ø => with_unfolding_all rfl); (case q2ø => intro _; with_unfolding_all rfl); (case zø => exact sl_size (by first | with_reducible assumption | ((try simp only [List.length_drop, List.length_take]); omega))); intro _ _ _ _ _) | (refine' tsl_nn (s := ⟨_, _, _, _, _⟩) (slN _ (by first | with_reducible assumption | ((try simp only [List.length_drop, List.length_take]); omega))) sF' sN' ?q1ø ?q2ø ?zø ?_; (case q1ø => with_unfolding_all rfl); (case q2ø => intro _; with_unfolding_all rfl); (case zø => exact sl_size (by first | with_reducible assumption | ((try simp only [List.length_drop, List.length_take]); omega))); intro _ _ _ _ _) | (refine' tsl_ns (s := ⟨_, _, _, _, _⟩) (slT' (by first | with_reducible assumption | ((try simp only [List.length_drop, List.length_take]); omega)) (by first | with_reducible assumption | ((try simp only [List.length_drop, List.length_take]); omega)) (by first | with_reducible assumption | ((try simp only [List.length_drop, List.length_take]); omega))) sF' sN' ?q1ø ?q2ø ?zø ?_; (case q1ø => with_unfolding_all rfl); (case q2ø => intro _; with_unfolding_all rfl); (case zø => exact sl_size (by first | with_reducible assumption | ((try simp only [List.length_drop, List.length_take]); omega))); intro _ _ _ _ _)))) | (((with_reducible show wpAny _ _ (PySem.truthy (Value.str _ _)) _ _ _); (first | (refine tru_f (by first | with_reducible assumption | ((try simp only [List.length_drop, List.length_take]); omega)) ?_; intro _) | (refine tru_t (by first | with_reducible assumption | ((try simp only [List.length_drop, List.length_take]); omega)) ?_; intro _)); (try dsimp only))) | (((with_reducible show wpAny _ _ (subscriptTail (Expr.Name _ _) (Expr.Name _ _) (Value.str _ _) (Value.int _ _)) _ _ _); (k_here; k_dflt (refine' st_at ?ykø ?y3ø ?ysø ?ytø ?_; (case ykø => omega); (case y3ø => omega); (case ysø => with_unfolding_all rfl); (case ytø => intro _; with_unfolding_all rfl)); intro _ _; (try dsimp only)))) | (((with_reducible show wpAny _ _ (subscriptTail (Expr.Name _ _) (Expr.BinOp _ _ _ _) (Value.str _ _) (Value.int _ _)) _ _ _); (k_here; k_dflt (refine' st_m ?ykø ?y3ø ?ysø ?ytø ?_; (case ykø => omega); (case y3ø => omega); (case ysø => with_unfolding_all rfl); (case ytø => intro _; with_unfolding_all rfl)); intro _ _; (try dsimp only))))); k_steps))
        unfold Hold
        refine wpAny_mono (Q := fun f s' => Hold (f = .next ∧ LvA g1 L1 s mc tm "post" (fun p => -(p : Nat)) (us.take (us.length - p)) vs (fun q => q = p) s')) ?asg1 ?rest3 fun _ _ e => e
        case asg1 =>
          clear hret H2 hQ
          with_reducible rename MarkA => mkA
          clear mkA
          by_cases hp : p = 0
          · have z0 : -((p : Nat) : Int) = 0 := by omega
            (k_steps; repeat' (((with_reducible refine held ?_); first | ((k_here; (with_reducible show wpAny _ _ (call (Value.ref 21) _ _) _ _ _); k_dflt (refine' Clm.use_int (subC _ _ _ _ _ _ _ _ ?c1ø ?c2ø) ?k1ø ?k2ø ?k3ø ?k4ø ?k5ø ?kKø ?kdø ?kuø ?kpø ?_; (case k1ø => k_asm); (case k2ø => k_asm); (case k3ø => k_asm); (case k4ø => k_asm); (case k5ø => k_asm); (case kpø => exact trivial); (case c1ø => kln_le); (case c2ø => kln_le); (case kKø => first | exact rfl | assumption); (case kdø => ktr_room); (case kuø => ktr_units); intro _ _ _ _ _ _; (try dsimp only); (try k_fold); (try k_sweep)))) | (((with_reducible show wpAny _ _ (subscriptTail (Expr.Name _ _) (Expr.Name _ _) (Value.ref _) (Value.int _ _)) _ _ _); (k_here; (with_reducible rename News _ _ _ _ => sN'); k_dflt (refine' it_lv sN' ?ymø ?yiø ?ykø ?ysø ?_; (case ymø => k_mem); (case yiø => assumption); (case ykø => omega); (case ysø => with_unfolding_all rfl)); intro _; (try dsimp only)))) | ((k_here; (with_reducible show wpAny _ _ (call (Value.builtin _) [Value.str _ _]) _ _ _); k_dflt (refine' lenS (fact_mk _) rfl ?ynø ?_; (case ynø => first | with_reducible assumption | omega)); intro _ _; (try dsimp only))) | (((with_reducible show wpAny _ _ (subscriptTail (Expr.Name _ _) (Expr.Slice _ _ _ _) (Value.str _ _) (Value.ref _)) _ _ _); ((with_reducible rename Fr _ _ _ _ => sF'); (with_reducible rename News _ _ _ _ => sN'); first | (refine' tsl_sn (s := ⟨_, _, _, _, _⟩) (slD _ _ (by first | with_reducible assumption | ((try simp only [List.length_drop, List.length_take]); omega)) (by first | with_reducible assumption | ((try simp only [List.length_drop, List.length_take]); omega))) sF' sN' ?q1ø ?q2ø ?zø ?_; (case q1ø => with_unfolding_all rfl); (case q2ø => intro _; with_unfolding_all rfl); (case zø => exact sl_size (by first | with_reducible assumption | ((try simp only [List.length_drop, List.length_take]); omega))); intro _ _ _ _ _) | (refine' tsl_nn (s := ⟨_, _, _, _, _⟩) (slN _ (by first | with_reducible assumption | ((try simp only [List.length_drop, List.length_take]); omega))) sF' sN' ?q1ø ?q2ø ?zø ?_; (case q1ø => with_unfolding_all rfl); (case q2ø => intro _; with_unfolding_all rfl); (case zø => exact sl_size (by first | with_reducible assumption | ((try simp only [List.length_drop, List.length_take]); omega))); intro _ _ _ _ _) | (refine' tsl_ns (s := ⟨_, _, _, _, _⟩) (slT' (by first | with_reducible assumption | ((try simp only [List.length_drop, List.length_take]); omega)) (by first | with_reducible assumption | ((try simp only [List.length_drop, List.length_take]); omega)) (by first | with_reducible assumption | ((try simp only [List.length_drop, List.length_take]); omega))) sF' sN' ?q1ø ?q2ø ?zø ?_; (case q1ø => with_unfolding_all rfl); (case q2ø => intro _; with_unfolding_all rfl); (case zø => exact sl_size (by first | with_reducible assumption | ((try simp only [List.length_drop, List.length_take]); omega))); intro _ _ _ _ _)))) | (((with_reducible show wpAny _ _ (PySem.truthy (Value.str _ _)) _ _ _); (first | (refine tru_f (by first | with_reducible assumption | ((try simp only [List.length_drop, List.length_take]); omega)) ?_; intro _) | (refine tru_t (by first | with_reducible assumption | ((try simp only [List.length_drop, List.length_take]); omega)) ?_; intro _)); (try dsimp only))) | (((with_reducible show wpAny _ _ (subscriptTail (Expr.Name _ _) (Expr.Name _ _) (Value.str _ _) (Value.int _ _)) _ _ _); (k_here; k_dflt (refine' st_at ?ykø ?y3ø ?ysø ?ytø ?_; (case ykø => omega); (case y3ø => omega); (case ysø => with_unfolding_all rfl); (case ytø => intro _; with_unfolding_all rfl)); intro _ _; (try dsimp only)))) | (((with_reducible show wpAny _ _ (subscriptTail (Expr.Name _ _) (Expr.BinOp _ _ _ _) (Value.str _ _) (Value.int _ _)) _ _ _); (k_here; k_dflt (refine' st_m ?ykø ?y3ø ?ysø ?ytø ?_; (case ykø => omega); (case y3ø => omega); (case ysø => with_unfolding_all rfl); (case ytø => intro _; with_unfolding_all rfl)); intro _ _; (try dsimp only))))); k_steps))
            with_reducible rename Fr _ _ _ _ => F3
            with_reducible rename News _ _ _ _ => N3
            exact ⟨rfl, _, _, p, _, _, _, _, rfl, know F3 ⟨by rw [hp, Nat.sub_zero, List.take_length]; rfl, rfl, rfl, rfl, trivial⟩, N3, rfl⟩
          · have nz : -((p : Nat) : Int) ≠ 0 := by omega
            have hp1 : 1 ≤ p := by omega
            (k_steps; repeat' (((with_reducible refine held ?_); first | ((k_here; (with_reducible show wpAny _ _ (call (Value.ref 21) _ _) _ _ _); k_dflt (refine' Clm.use_int (subC _ _ _ _ _ _ _ _ ?c1ø ?c2ø) ?k1ø ?k2ø ?k3ø ?k4ø ?k5ø ?kKø ?kdø ?kuø ?kpø ?_; (case k1ø => k_asm); (case k2ø => k_asm); (case k3ø => k_asm); (case k4ø => k_asm); (case k5ø => k_asm); (case kpø => exact trivial); (case c1ø => kln_le); (case c2ø => kln_le); (case kKø => first | exact rfl | assumption); (case kdø => ktr_room); (case kuø => ktr_units); intro _ _ _ _ _ _; (try dsimp only); (try k_fold); (try k_sweep)))) | (((with_reducible show wpAny _ _ (subscriptTail (Expr.Name _ _) (Expr.Name _ _) (Value.ref _) (Value.int _ _)) _ _ _); (k_here; (with_reducible rename News _ _ _ _ => sN'); k_dflt (refine' it_lv sN' ?ymø ?yiø ?ykø ?ysø ?_; (case ymø => k_mem); (case yiø => assumption); (case ykø => omega); (case ysø => with_unfolding_all rfl)); intro _; (try dsimp only)))) | ((k_here; (with_reducible show wpAny _ _ (call (Value.builtin _) [Value.str _ _]) _ _ _); k_dflt (refine' lenS (fact_mk _) rfl ?ynø ?_; (case ynø => first | with_reducible assumption | omega)); intro _ _; (try dsimp only))) | (((with_reducible show wpAny _ _ (subscriptTail (Expr.Name _ _) (Expr.Slice _ _ _ _) (Value.str _ _) (Value.ref _)) _ _ _); ((with_reducible rename Fr _ _ _ _ => sF'); (with_reducible rename News _ _ _ _ => sN'); first | (refine' tsl_sn (s := ⟨_, _, _, _, _⟩) (slD _ _ (by first | with_reducible assumption | ((try simp only [List.length_drop, List.length_take]); omega)) (by first | with_reducible assumption | ((try simp only [List.length_drop, List.length_take]); omega))) sF' sN' ?q1ø ?q2ø ?zø ?_; (case q1ø => with_unfolding_all rfl); (case q2ø => intro _; with_unfolding_all rfl); (case zø => exact sl_size (by first | with_reducible assumption | ((try simp only [List.length_drop, List.length_take]); omega))); intro _ _ _ _ _) | (refine' tsl_nn (s := ⟨_, _, _, _, _⟩) (slN _ (by first | with_reducible assumption | ((try simp only [List.length_drop, List.length_take]); omega))) sF' sN' ?q1ø ?q2ø ?zø ?_; (case q1ø => with_unfolding_all rfl); (case q2ø => intro _; with_unfolding_all rfl); (case zø => exact sl_size (by first | with_reducible assumption | ((try simp only [List.length_drop, List.length_take]); omega))); intro _ _ _ _ _) | (refine' tsl_ns (s := ⟨_, _, _, _, _⟩) (slT' (by first | with_reducible assumption | ((try simp only [List.length_drop, List.length_take]); omega)) (by first | with_reducible assumption | ((try simp only [List.length_drop, List.length_take]); omega)) (by first | with_reducible assumption | ((try simp only [List.length_drop, List.length_take]); omega))) sF' sN' ?q1ø ?q2ø ?zø ?_; (case q1ø => with_unfolding_all rfl); (case q2ø => intro _; with_unfolding_all rfl); (case zø => exact sl_size (by first | with_reducible assumption | ((try simp only [List.length_drop, List.length_take]); omega))); intro _ _ _ _ _)))) | (((with_reducible show wpAny _ _ (PySem.truthy (Value.str _ _)) _ _ _); (first | (refine tru_f (by first | with_reducible assumption | ((try simp only [List.length_drop, List.length_take]); omega)) ?_; intro _) | (refine tru_t (by first | with_reducible assumption | ((try simp only [List.length_drop, List.length_take]); omega)) ?_; intro _)); (try dsimp only))) | (((with_reducible show wpAny _ _ (subscriptTail (Expr.Name _ _) (Expr.Name _ _) (Value.str _ _) (Value.int _ _)) _ _ _); (k_here; k_dflt (refine' st_at ?ykø ?y3ø ?ysø ?ytø ?_; (case ykø => omega); (case y3ø => omega); (case ysø => with_unfolding_all rfl); (case ytø => intro _; with_unfolding_all rfl)); intro _ _; (try dsimp only)))) | (((with_reducible show wpAny _ _ (subscriptTail (Expr.Name _ _) (Expr.BinOp _ _ _ _) (Value.str _ _) (Value.int _ _)) _ _ _); (k_here; k_dflt (refine' st_m ?ykø ?y3ø ?ysø ?ytø ?_; (case ykø => omega); (case y3ø => omega); (case ysø => with_unfolding_all rfl); (case ytø => intro _; with_unfolding_all rfl)); intro _ _; (try dsimp only))))); k_steps))
            with_reducible rename Fr _ _ _ _ => F3
            with_reducible rename News _ _ _ _ => N3
            exact ⟨rfl, _, _, p, _, _, _, _, rfl, know F3 ⟨rfl, rfl, rfl, rfl, trivial⟩, N3, rfl⟩
        case rest3 =>
        try clear F2 N2
        rintro f s' ⟨rfl, h2, tk2, p, tp, ta, tb, u, rfl, F2, N2, rfl⟩
        have H3 := H2 _ _ _ (List.take_append_drop (us.length - p) us).symm (by rw [hkk]; exact (List.take_append_drop (vs.length - p) vs).symm)
        have hx3 : (us.take (us.length - p)).length ≤ 3 := by rw [List.length_take]; omega
        clear hkk hx2 hkx H2
        generalize us.take (us.length - p) = as at *
        (k_steps; repeat' (((with_reducible refine held ?_); first | ((k_here; (with_reducible show wpAny _ _ (call (Value.ref 21) _ _) _ _ _); k_dflt (refine' Clm.use_int (subC _ _ _ _ _ _ _ _ ?c1ø ?c2ø) ?k1ø ?k2ø ?k3ø ?k4ø ?k5ø ?kKø ?kdø ?kuø ?kpø ?_; (case k1ø => k_asm); (case k2ø => k_asm); (case k3ø => k_asm); (case k4ø => k_asm); (case k5ø => k_asm); (case kpø => exact trivial); (case c1ø => kln_le); (case c2ø => kln_le); (case kKø => first | exact rfl | assumption); (case kdø => ktr_room); (case kuø => ktr_units); intro _ _ _ _ _ _; (try dsimp only); (try k_fold); (try k_sweep)))) | (((with_reducible show wpAny _ _ (subscriptTail (Expr.Name _ _) (Expr.Name _ _) (Value.ref _) (Value.int _ _)) _ _ _); (k_here; (with_reducible rename News _ _ _ _ => sN'); k_dflt (refine' it_lv sN' ?ymø ?yiø ?ykø ?ysø ?_; (case ymø => k_mem); (case yiø => assumption); (case ykø => omega); (case ysø => with_unfolding_all rfl)); intro _; (try dsimp only)))) | ((k_here; (with_reducible show wpAny _ _ (call (Value.builtin _) [Value.str _ _]) _ _ _); k_dflt (refine' lenS (fact_mk _) rfl ?ynø ?_; (case ynø => first | with_reducible assumption | omega)); intro _ _; (try dsimp only))) | (((with_reducible show wpAny _ _ (subscriptTail (Expr.Name _ _) (Expr.Slice _ _ _ _) (Value.str _ _) (Value.ref _)) _ _ _); ((with_reducible rename Fr _ _ _ _ => sF'); (with_reducible rename News _ _ _ _ => sN'); first | (refine' tsl_sn (s := ⟨_, _, _, _, _⟩) (slD _ _ (by first | with_reducible assumption | ((try simp only [List.length_drop, List.length_take]); omega)) (by first | with_reducible assumption | ((try simp only [List.length_drop, List.length_take]); omega))) sF' sN' ?q1ø ?q2ø ?zø ?_; (case q1ø => with_unfolding_all rfl); (case q2ø => intro _; with_unfolding_all rfl); (case zø => exact sl_size (by first | with_reducible assumption | ((try simp only [List.length_drop, List.length_take]); omega))); intro _ _ _ _ _) | (refine' tsl_nn (s := ⟨_, _, _, _, _⟩) (slN _ (by first | with_reducible assumption | ((try simp only [List.length_drop, List.length_take]); omega))) sF' sN' ?q1ø ?q2ø ?zø ?_; (case q1ø => with_unfolding_all rfl); (case q2ø => intro _; with_unfolding_all rfl); (case zø => exact sl_size (by first | with_reducible assumption | ((try simp only [List.length_drop, List.length_take]); omega))); intro _ _ _ _ _) | (refine' tsl_ns (s := ⟨_, _, _, _, _⟩) (slT' (by first | with_reducible assumption | ((try simp only [List.length_drop, List.length_take]); omega)) (by first | with_reducible assumption | ((try simp only [List.length_drop, List.length_take]); omega)) (by first | with_reducible assumption | ((try simp only [List.length_drop, List.length_take]); omega))) sF' sN' ?q1ø ?q2ø ?zø ?_; (case q1ø => with_unfolding_all rfl); (case q2ø => intro _; with_unfolding_all rfl); (case zø => exact sl_size (by first | with_reducible assumption | ((try simp only [List.length_drop, List.length_take]); omega))); intro _ _ _ _ _)))) | (((with_reducible show wpAny _ _ (PySem.truthy (Value.str _ _)) _ _ _); (first | (refine tru_f (by first | with_reducible assumption | ((try simp only [List.length_drop, List.length_take]); omega)) ?_; intro _) | (refine tru_t (by first | with_reducible assumption | ((try simp only [List.length_drop, List.length_take]); omega)) ?_; intro _)); (try dsimp only))) | (((with_reducible show wpAny _ _ (subscriptTail (Expr.Name _ _) (Expr.Name _ _) (Value.str _ _) (Value.int _ _)) _ _ _); (k_here; k_dflt (refine' st_at ?ykø ?y3ø ?ysø ?ytø ?_; (case ykø => omega); (case y3ø => omega); (case ysø => with_unfolding_all rfl); (case ytø => intro _; with_unfolding_all rfl)); intro _ _; (try dsimp only)))) | (((with_reducible show wpAny _ _ (subscriptTail (Expr.Name _ _) (Expr.BinOp _ _ _ _) (Value.str _ _) (Value.int _ _)) _ _ _); (k_here; k_dflt (refine' st_m ?ykø ?y3ø ?ysø ?ytø ?_; (case ykø => omega); (case y3ø => omega); (case ysø => with_unfolding_all rfl); (case ytø => intro _; with_unfolding_all rfl)); intro _ _; (try dsimp only))))); k_steps))
        unfold Hold
        refine wpAny_mono (Q := fun f s' => Hold (f = .next ∧ LvB g1 L1 s mc tm (fun x y => x = as ∧ y = vs.take (vs.length - p)) s')) ?asg2 ?rest4 fun _ _ e => e
        case asg2 =>
          clear hret H3 hQ
          with_reducible rename MarkA => mkA
          clear mkA
          by_cases hp : p = 0
          · have z0 : -((p : Nat) : Int) = 0 := by omega
            (k_steps; repeat' (((with_reducible refine held ?_); first | ((k_here; (with_reducible show wpAny _ _ (call (Value.ref 21) _ _) _ _ _); k_dflt (refine' Clm.use_int (subC _ _ _ _ _ _ _ _ ?c1ø ?c2ø) ?k1ø ?k2ø ?k3ø ?k4ø ?k5ø ?kKø ?kdø ?kuø ?kpø ?_; (case k1ø => k_asm); (case k2ø => k_asm); (case k3ø => k_asm); (case k4ø => k_asm); (case k5ø => k_asm); (case kpø => exact trivial); (case c1ø => kln_le); (case c2ø => kln_le); (case kKø => first | exact rfl | assumption); (case kdø => ktr_room); (case kuø => ktr_units); intro _ _ _ _ _ _; (try dsimp only); (try k_fold); (try k_sweep)))) | (((with_reducible show wpAny _ _ (subscriptTail (Expr.Name _ _) (Expr.Name _ _) (Value.ref _) (Value.int _ _)) _ _ _); (k_here; (with_reducible rename News _ _ _ _ => sN'); k_dflt (refine' it_lv sN' ?ymø ?yiø ?ykø ?ysø ?_; (case ymø => k_mem); (case yiø => assumption); (case ykø => omega); (case ysø => with_unfolding_all rfl)); intro _; (try dsimp only)))) | ((k_here; (with_reducible show wpAny _ _ (call (Value.builtin _) [Value.str _ _]) _ _ _); k_dflt (refine' lenS (fact_mk _) rfl ?ynø ?_; (case ynø => first | with_reducible assumption | omega)); intro _ _; (try dsimp only))) | (((with_reducible show wpAny _ _ (subscriptTail (Expr.Name _ _) (Expr.Slice _ _ _ _) (Value.str _ _) (Value.ref _)) _ _ _); ((with_reducible rename Fr _ _ _ _ => sF'); (with_reducible rename News _ _ _ _ => sN'); first | (refine' tsl_sn (s := ⟨_, _, _, _, _⟩) (slD _ _ (by first | with_reducible assumption | ((try simp only [List.length_drop, List.length_take]); omega)) (by first | with_reducible assumption | ((try simp only [List.length_drop, List.length_take]); omega))) sF' sN' ?q1ø ?q2ø ?zø ?_; (case q1ø => with_unfolding_all rfl); (case q2ø => intro _; with_unfolding_all rfl); (case zø => exact sl_size (by first | with_reducible assumption | ((try simp only [List.length_drop, List.length_take]); omega))); intro _ _ _ _ _) | (refine' tsl_nn (s := ⟨_, _, _, _, _⟩) (slN _ (by first | with_reducible assumption | ((try simp only [List.length_drop, List.length_take]); omega))) sF' sN' ?q1ø ?q2ø ?zø ?_; (case q1ø => with_unfolding_all rfl); (case q2ø => intro _; with_unfolding_all rfl); (case zø => exact sl_size (by first | with_reducible assumption | ((try simp only [List.length_drop, List.length_take]); omega))); intro _ _ _ _ _) | (refine' tsl_ns (s := ⟨_, _, _, _, _⟩) (slT' (by first | with_reducible assumption | ((try simp only [List.length_drop, List.length_take]); omega)) (by first | with_reducible assumption | ((try simp only [List.length_drop, List.length_take]); omega)) (by first | with_reducible assumption | ((try simp only [List.length_drop, List.length_take]); omega))) sF' sN' ?q1ø ?q2ø ?zø ?_; (case q1ø => with_unfolding_all rfl); (case q2ø => intro _; with_unfolding_all rfl); (case zø => exact sl_size (by first | with_reducible assumption | ((try simp only [List.length_drop, List.length_take]); omega))); intro _ _ _ _ _)))) | (((with_reducible show wpAny _ _ (PySem.truthy (Value.str _ _)) _ _ _); (first | (refine tru_f (by first | with_reducible assumption | ((try simp only [List.length_drop, List.length_take]); omega)) ?_; intro _) | (refine tru_t (by first | with_reducible assumption | ((try simp only [List.length_drop, List.length_take]); omega)) ?_; intro _)); (try dsimp only))) | (((with_reducible show wpAny _ _ (subscriptTail (Expr.Name _ _) (Expr.Name _ _) (Value.str _ _) (Value.int _ _)) _ _ _); (k_here; k_dflt (refine' st_at ?ykø ?y3ø ?ysø ?ytø ?_; (case ykø => omega); (case y3ø => omega); (case ysø => with_unfolding_all rfl); (case ytø => intro _; with_unfolding_all rfl)); intro _ _; (try dsimp only)))) | (((with_reducible show wpAny _ _ (subscriptTail (Expr.Name _ _) (Expr.BinOp _ _ _ _) (Value.str _ _) (Value.int _ _)) _ _ _); (k_here; k_dflt (refine' st_m ?ykø ?y3ø ?ysø ?ytø ?_; (case ykø => omega); (case y3ø => omega); (case ysø => with_unfolding_all rfl); (case ytø => intro _; with_unfolding_all rfl)); intro _ _; (try dsimp only))))); k_steps))
            with_reducible rename Fr _ _ _ _ => F3
            with_reducible rename News _ _ _ _ => N3
            exact ⟨rfl, _, _, as, vs.take (vs.length - p), _, _, _, rfl, know F3 ⟨rfl, by rw [hp, Nat.sub_zero, List.take_length]; rfl, rfl, trivial⟩, N3, rfl, rfl⟩
          · have nz : -((p : Nat) : Int) ≠ 0 := by omega
            have hp1 : 1 ≤ p := by omega
            (k_steps; repeat' (((with_reducible refine held ?_); first | ((k_here; (with_reducible show wpAny _ _ (call (Value.ref 21) _ _) _ _ _); k_dflt (refine' Clm.use_int (subC _ _ _ _ _ _ _ _ ?c1ø ?c2ø) ?k1ø ?k2ø ?k3ø ?k4ø ?k5ø ?kKø ?kdø ?kuø ?kpø ?_; (case k1ø => k_asm); (case k2ø => k_asm); (case k3ø => k_asm); (case k4ø => k_asm); (case k5ø => k_asm); (case kpø => exact trivial); (case c1ø => kln_le); (case c2ø => kln_le); (case kKø => first | exact rfl | assumption); (case kdø => ktr_room); (case kuø => ktr_units); intro _ _ _ _ _ _; (try dsimp only); (try k_fold); (try k_sweep)))) | (((with_reducible show wpAny _ _ (subscriptTail (Expr.Name _ _) (Expr.Name _ _) (Value.ref _) (Value.int _ _)) _ _ _); (k_here; (with_reducible rename News _ _ _ _ => sN'); k_dflt (refine' it_lv sN' ?ymø ?yiø ?ykø ?ysø ?_; (case ymø => k_mem); (case yiø => assumption); (case ykø => omega); (case ysø => with_unfolding_all rfl)); intro _; (try dsimp only)))) | ((k_here; (with_reducible show wpAny _ _ (call (Value.builtin _) [Value.str _ _]) _ _ _); k_dflt (refine' lenS (fact_mk _) rfl ?ynø ?_; (case ynø => first | with_reducible assumption | omega)); intro _ _; (try dsimp only))) | (((with_reducible show wpAny _ _ (subscriptTail (Expr.Name _ _) (Expr.Slice _ _ _ _) (Value.str _ _) (Value.ref _)) _ _ _); ((with_reducible rename Fr _ _ _ _ => sF'); (with_reducible rename News _ _ _ _ => sN'); first | (refine' tsl_sn (s := ⟨_, _, _, _, _⟩) (slD _ _ (by first | with_reducible assumption | ((try simp only [List.length_drop, List.length_take]); omega)) (by first | with_reducible assumption | ((try simp only [List.length_drop, List.length_take]); omega))) sF' sN' ?q1ø ?q2ø ?zø ?_; (case q1ø => with_unfolding_all rfl); (case q2ø => intro _; with_unfolding_all rfl); (case zø => exact sl_size (by first | with_reducible assumption | ((try simp only [List.length_drop, List.length_take]); omega))); intro _ _ _ _ _) | (refine' tsl_nn (s := ⟨_, _, _, _, _⟩) (slN _ (by first | with_reducible assumption | ((try simp only [List.length_drop, List.length_take]); omega))) sF' sN' ?q1ø ?q2ø ?zø ?_; (case q1ø => with_unfolding_all rfl); (case q2ø => intro _; with_unfolding_all rfl); (case zø => exact sl_size (by first | with_reducible assumption | ((try simp only [List.length_drop, List.length_take]); omega))); intro _ _ _ _ _) | (refine' tsl_ns (s := ⟨_, _, _, _, _⟩) (slT' (by first | with_reducible assumption | ((try simp only [List.length_drop, List.length_take]); omega)) (by first | with_reducible assumption | ((try simp only [List.length_drop, List.length_take]); omega)) (by first | with_reducible assumption | ((try simp only [List.length_drop, List.length_take]); omega))) sF' sN' ?q1ø ?q2ø ?zø ?_; (case q1ø => with_unfolding_all rfl); (case q2ø => intro _; with_unfolding_all rfl); (case zø => exact sl_size (by first | with_reducible assumption | ((try simp only [List.length_drop, List.length_take]); omega))); intro _ _ _ _ _)))) | (((with_reducible show wpAny _ _ (PySem.truthy (Value.str _ _)) _ _ _); (first | (refine tru_f (by first | with_reducible assumption | ((try simp only [List.length_drop, List.length_take]); omega)) ?_; intro _) | (refine tru_t (by first | with_reducible assumption | ((try simp only [List.length_drop, List.length_take]); omega)) ?_; intro _)); (try dsimp only))) | (((with_reducible show wpAny _ _ (subscriptTail (Expr.Name _ _) (Expr.Name _ _) (Value.str _ _) (Value.int _ _)) _ _ _); (k_here; k_dflt (refine' st_at ?ykø ?y3ø ?ysø ?ytø ?_; (case ykø => omega); (case y3ø => omega); (case ysø => with_unfolding_all rfl); (case ytø => intro _; with_unfolding_all rfl)); intro _ _; (try dsimp only)))) | (((with_reducible show wpAny _ _ (subscriptTail (Expr.Name _ _) (Expr.BinOp _ _ _ _) (Value.str _ _) (Value.int _ _)) _ _ _); (k_here; k_dflt (refine' st_m ?ykø ?y3ø ?ysø ?ytø ?_; (case ykø => omega); (case y3ø => omega); (case ysø => with_unfolding_all rfl); (case ytø => intro _; with_unfolding_all rfl)); intro _ _; (try dsimp only))))); k_steps))
            with_reducible rename Fr _ _ _ _ => F3
            with_reducible rename News _ _ _ _ => N3
            exact ⟨rfl, _, _, as, vs.take (vs.length - p), _, _, _, rfl, know F3 ⟨rfl, rfl, rfl, trivial⟩, N3, rfl, rfl⟩
        case rest4 =>
        try clear F2 N2
        rintro f s' ⟨rfl, h2, tk2, as, _, ta, tb, u, rfl, F2, N2, rfl, rfl⟩
        have hy3 : (vs.take (vs.length - p)).length ≤ 3 := by rw [List.length_take]; omega
        clear hy2 hky
        generalize vs.take (vs.length - p) = bs at *
        by_cases ea : as.length = 0
        · (k_steps; repeat' (((with_reducible refine held ?_); first | ((k_here; (with_reducible show wpAny _ _ (call (Value.ref 21) _ _) _ _ _); k_dflt (refine' Clm.use_int (subC _ _ _ _ _ _ _ _ ?c1ø ?c2ø) ?k1ø ?k2ø ?k3ø ?k4ø ?k5ø ?kKø ?kdø ?kuø ?kpø ?_; (case k1ø => k_asm); (case k2ø => k_asm); (case k3ø => k_asm); (case k4ø => k_asm); (case k5ø => k_asm); (case kpø => exact trivial); (case c1ø => kln_le); (case c2ø => kln_le); (case kKø => first | exact rfl | assumption); (case kdø => ktr_room); (case kuø => ktr_units); intro _ _ _ _ _ _; (try dsimp only); (try k_fold); (try k_sweep)))) | (((with_reducible show wpAny _ _ (subscriptTail (Expr.Name _ _) (Expr.Name _ _) (Value.ref _) (Value.int _ _)) _ _ _); (k_here; (with_reducible rename News _ _ _ _ => sN'); k_dflt (refine' it_lv sN' ?ymø ?yiø ?ykø ?ysø ?_; (case ymø => k_mem); (case yiø => assumption); (case ykø => omega); (case ysø => with_unfolding_all rfl)); intro _; (try dsimp only)))) | ((k_here; (with_reducible show wpAny _ _ (call (Value.builtin _) [Value.str _ _]) _ _ _); k_dflt (refine' lenS (fact_mk _) rfl ?ynø ?_; (case ynø => first | with_reducible assumption | omega)); intro _ _; (try dsimp only))) | (((with_reducible show wpAny _ _ (subscriptTail (Expr.Name _ _) (Expr.Slice _ _ _ _) (Value.str _ _) (Value.ref _)) _ _ _); ((with_reducible rename Fr _ _ _ _ => sF'); (with_reducible rename News _ _ _ _ => sN'); first | (refine' tsl_sn (s := ⟨_, _, _, _, _⟩) (slD _ _ (by first | with_reducible assumption | ((try simp only [List.length_drop, List.length_take]); omega)) (by first | with_reducible assumption | ((try simp only [List.length_drop, List.length_take]); omega))) sF' sN' ?q1ø ?q2ø ?zø ?_; (case q1ø => with_unfolding_all rfl); (case q2ø => intro _; with_unfolding_all rfl); (case zø => exact sl_size (by first | with_reducible assumption | ((try simp only [List.length_drop, List.length_take]); omega))); intro _ _ _ _ _) | (refine' tsl_nn (s := ⟨_, _, _, _, _⟩) (slN _ (by first | with_reducible assumption | ((try simp only [List.length_drop, List.length_take]); omega))) sF' sN' ?q1ø ?q2ø ?zø ?_; (case q1ø => with_unfolding_all rfl); (case q2ø => intro _; with_unfolding_all rfl); (case zø => exact sl_size (by first | with_reducible assumption | ((try simp only [List.length_drop, List.length_take]); omega))); intro _ _ _ _ _) | (refine' tsl_ns (s := ⟨_, _, _, _, _⟩) (slT' (by first | with_reducible assumption | ((try simp only [List.length_drop, List.length_take]); omega)) (by first | with_reducible assumption | ((try simp only [List.length_drop, List.length_take]); omega)) (by first | with_reducible assumption | ((try simp only [List.length_drop, List.length_take]); omega))) sF' sN' ?q1ø ?q2ø ?zø ?_; (case q1ø => with_unfolding_all rfl); (case q2ø => intro _; with_unfolding_all rfl); (case zø => exact sl_size (by first | with_reducible assumption | ((try simp only [List.length_drop, List.length_take]); omega))); intro _ _ _ _ _)))) | (((with_reducible show wpAny _ _ (PySem.truthy (Value.str _ _)) _ _ _); (first | (refine tru_f (by first | with_reducible assumption | ((try simp only [List.length_drop, List.length_take]); omega)) ?_; intro _) | (refine tru_t (by first | with_reducible assumption | ((try simp only [List.length_drop, List.length_take]); omega)) ?_; intro _)); (try dsimp only))) | (((with_reducible show wpAny _ _ (subscriptTail (Expr.Name _ _) (Expr.Name _ _) (Value.str _ _) (Value.int _ _)) _ _ _); (k_here; k_dflt (refine' st_at ?ykø ?y3ø ?ysø ?ytø ?_; (case ykø => omega); (case y3ø => omega); (case ysø => with_unfolding_all rfl); (case ytø => intro _; with_unfolding_all rfl)); intro _ _; (try dsimp only)))) | (((with_reducible show wpAny _ _ (subscriptTail (Expr.Name _ _) (Expr.BinOp _ _ _ _) (Value.str _ _) (Value.int _ _)) _ _ _); (k_here; k_dflt (refine' st_m ?ykø ?y3ø ?ysø ?ytø ?_; (case ykø => omega); (case y3ø => omega); (case ysø => with_unfolding_all rfl); (case ytø => intro _; with_unfolding_all rfl)); intro _ _; (try dsimp only))))); k_steps))
          refine hQ _ _ ?_
          (k_steps; repeat' (((with_reducible refine held ?_); first | ((k_here; (with_reducible show wpAny _ _ (call (Value.ref 21) _ _) _ _ _); k_dflt (refine' Clm.use_int (subC _ _ _ _ _ _ _ _ ?c1ø ?c2ø) ?k1ø ?k2ø ?k3ø ?k4ø ?k5ø ?kKø ?kdø ?kuø ?kpø ?_; (case k1ø => k_asm); (case k2ø => k_asm); (case k3ø => k_asm); (case k4ø => k_asm); (case k5ø => k_asm); (case kpø => exact trivial); (case c1ø => kln_le); (case c2ø => kln_le); (case kKø => first | exact rfl | assumption); (case kdø => ktr_room); (case kuø => ktr_units); intro _ _ _ _ _ _; (try dsimp only); (try k_fold); (try k_sweep)))) | (((with_reducible show wpAny _ _ (subscriptTail (Expr.Name _ _) (Expr.Name _ _) (Value.ref _) (Value.int _ _)) _ _ _); (k_here; (with_reducible rename News _ _ _ _ => sN'); k_dflt (refine' it_lv sN' ?ymø ?yiø ?ykø ?ysø ?_; (case ymø => k_mem); (case yiø => assumption); (case ykø => omega); (case ysø => with_unfolding_all rfl)); intro _; (try dsimp only)))) | ((k_here; (with_reducible show wpAny _ _ (call (Value.builtin _) [Value.str _ _]) _ _ _); k_dflt (refine' lenS (fact_mk _) rfl ?ynø ?_; (case ynø => first | with_reducible assumption | omega)); intro _ _; (try dsimp only))) | (((with_reducible show wpAny _ _ (subscriptTail (Expr.Name _ _) (Expr.Slice _ _ _ _) (Value.str _ _) (Value.ref _)) _ _ _); ((with_reducible rename Fr _ _ _ _ => sF'); (with_reducible rename News _ _ _ _ => sN'); first | (refine' tsl_sn (s := ⟨_, _, _, _, _⟩) (slD _ _ (by first | with_reducible assumption | ((try simp only [List.length_drop, List.length_take]); omega)) (by first | with_reducible assumption | ((try simp only [List.length_drop, List.length_take]); omega))) sF' sN' ?q1ø ?q2ø ?zø ?_; (case q1ø => with_unfolding_all rfl); (case q2ø => intro _; with_unfolding_all rfl); (case zø => exact sl_size (by first | with_reducible assumption | ((try simp only [List.length_drop, List.length_take]); omega))); intro _ _ _ _ _) | (refine' tsl_nn (s := ⟨_, _, _, _, _⟩) (slN _ (by first | with_reducible assumption | ((try simp only [List.length_drop, List.length_take]); omega))) sF' sN' ?q1ø ?q2ø ?zø ?_; (case q1ø => with_unfolding_all rfl); (case q2ø => intro _; with_unfolding_all rfl); (case zø => exact sl_size (by first | with_reducible assumption | ((try simp only [List.length_drop, List.length_take]); omega))); intro _ _ _ _ _) | (refine' tsl_ns (s := ⟨_, _, _, _, _⟩) (slT' (by first | with_reducible assumption | ((try simp only [List.length_drop, List.length_take]); omega)) (by first | with_reducible assumption | ((try simp only [List.length_drop, List.length_take]); omega)) (by first | with_reducible assumption | ((try simp only [List.length_drop, List.length_take]); omega))) sF' sN' ?q1ø ?q2ø ?zø ?_; (case q1ø => with_unfolding_all rfl); (case q2ø => intro _; with_unfolding_all rfl); (case zø => exact sl_size (by first | with_reducible assumption | ((try simp only [List.length_drop, List.length_take]); omega))); intro _ _ _ _ _)))) | (((with_reducible show wpAny _ _ (PySem.truthy (Value.str _ _)) _ _ _); (first | (refine tru_f (by first | with_reducible assumption | ((try simp only [List.length_drop, List.length_take]); omega)) ?_; intro _) | (refine tru_t (by first | with_reducible assumption | ((try simp only [List.length_drop, List.length_take]); omega)) ?_; intro _)); (try dsimp only))) | (((with_reducible show wpAny _ _ (subscriptTail (Expr.Name _ _) (Expr.Name _ _) (Value.str _ _) (Value.int _ _)) _ _ _); (k_here; k_dflt (refine' st_at ?ykø ?y3ø ?ysø ?ytø ?_; (case ykø => omega); (case y3ø => omega); (case ysø => with_unfolding_all rfl); (case ytø => intro _; with_unfolding_all rfl)); intro _ _; (try dsimp only)))) | (((with_reducible show wpAny _ _ (subscriptTail (Expr.Name _ _) (Expr.BinOp _ _ _ _) (Value.str _ _) (Value.int _ _)) _ _ _); (k_here; k_dflt (refine' st_m ?ykø ?y3ø ?ysø ?ytø ?_; (case ykø => omega); (case y3ø => omega); (case ysø => with_unfolding_all rfl); (case ytø => intro _; with_unfolding_all rfl)); intro _ _; (try dsimp only))))); k_steps))
          exact ret_int hret (kept_end (by assumption) (by k_asm)) (H3.1 (.inl (List.eq_nil_of_length_eq_zero ea)))
        by_cases eb : bs.length = 0
        · (k_steps; repeat' (((with_reducible refine held ?_); first | ((k_here; (with_reducible show wpAny _ _ (call (Value.ref 21) _ _) _ _ _); k_dflt (refine' Clm.use_int (subC _ _ _ _ _ _ _ _ ?c1ø ?c2ø) ?k1ø ?k2ø ?k3ø ?k4ø ?k5ø ?kKø ?kdø ?kuø ?kpø ?_; (case k1ø => k_asm); (case k2ø => k_asm); (case k3ø => k_asm); (case k4ø => k_asm); (case k5ø => k_asm); (case kpø => exact trivial); (case c1ø => kln_le); (case c2ø => kln_le); (case kKø => first | exact rfl | assumption); (case kdø => ktr_room); (case kuø => ktr_units); intro _ _ _ _ _ _; (try dsimp only); (try k_fold); (try k_sweep)))) | (((with_reducible show wpAny _ _ (subscriptTail (Expr.Name _ _) (Expr.Name _ _) (Value.ref _) (Value.int _ _)) _ _ _); (k_here; (with_reducible rename News _ _ _ _ => sN'); k_dflt (refine' it_lv sN' ?ymø ?yiø ?ykø ?ysø ?_; (case ymø => k_mem); (case yiø => assumption); (case ykø => omega); (case ysø => with_unfolding_all rfl)); intro _; (try dsimp only)))) | ((k_here; (with_reducible show wpAny _ _ (call (Value.builtin _) [Value.str _ _]) _ _ _); k_dflt (refine' lenS (fact_mk _) rfl ?ynø ?_; (case ynø => first | with_reducible assumption | omega)); intro _ _; (try dsimp only))) | (((with_reducible show wpAny _ _ (subscriptTail (Expr.Name _ _) (Expr.Slice _ _ _ _) (Value.str _ _) (Value.ref _)) _ _ _); ((with_reducible rename Fr _ _ _ _ => sF'); (with_reducible rename News _ _ _ _ => sN'); first | (refine' tsl_sn (s := ⟨_, _, _, _, _⟩) (slD _ _ (by first | with_reducible assumption | ((try simp only [List.length_drop, List.length_take]); omega)) (by first | with_reducible assumption | ((try simp only [List.length_drop, List.length_take]); omega))) sF' sN' ?q1ø ?q2ø ?zø ?_; (case q1ø => with_unfolding_all rfl); (case q2ø => intro _; with_unfolding_all rfl); (case zø => exact sl_size (by first | with_reducible assumption | ((try simp only [List.length_drop, List.length_take]); omega))); intro _ _ _ _ _) | (refine' tsl_nn (s := ⟨_, _, _, _, _⟩) (slN _ (by first | with_reducible assumption | ((try simp only [List.length_drop, List.length_take]); omega))) sF' sN' ?q1ø ?q2ø ?zø ?_; (case q1ø => with_unfolding_all rfl); (case q2ø => intro _; with_unfolding_all rfl); (case zø => exact sl_size (by first | with_reducible assumption | ((try simp only [List.length_drop, List.length_take]); omega))); intro _ _ _ _ _) | (refine' tsl_ns (s := ⟨_, _, _, _, _⟩) (slT' (by first | with_reducible assumption | ((try simp only [List.length_drop, List.length_take]); omega)) (by first | with_reducible assumption | ((try simp only [List.length_drop, List.length_take]); omega)) (by first | with_reducible assumption | ((try simp only [List.length_drop, List.length_take]); omega))) sF' sN' ?q1ø ?q2ø ?zø ?_; (case q1ø => with_unfolding_all rfl); (case q2ø => intro _; with_unfolding_all rfl); (case zø => exact sl_size (by first | with_reducible assumption | ((try simp only [List.length_drop, List.length_take]); omega))); intro _ _ _ _ _)))) | (((with_reducible show wpAny _ _ (PySem.truthy (Value.str _ _)) _ _ _); (first | (refine tru_f (by first | with_reducible assumption | ((try simp only [List.length_drop, List.length_take]); omega)) ?_; intro _) | (refine tru_t (by first | with_reducible assumption | ((try simp only [List.length_drop, List.length_take]); omega)) ?_; intro _)); (try dsimp only))) | (((with_reducible show wpAny _ _ (subscriptTail (Expr.Name _ _) (Expr.Name _ _) (Value.str _ _) (Value.int _ _)) _ _ _); (k_here; k_dflt (refine' st_at ?ykø ?y3ø ?ysø ?ytø ?_; (case ykø => omega); (case y3ø => omega); (case ysø => with_unfolding_all rfl); (case ytø => intro _; with_unfolding_all rfl)); intro _ _; (try dsimp only)))) | (((with_reducible show wpAny _ _ (subscriptTail (Expr.Name _ _) (Expr.BinOp _ _ _ _) (Value.str _ _) (Value.int _ _)) _ _ _); (k_here; k_dflt (refine' st_m ?ykø ?y3ø ?ysø ?ytø ?_; (case ykø => omega); (case y3ø => omega); (case ysø => with_unfolding_all rfl); (case ytø => intro _; with_unfolding_all rfl)); intro _ _; (try dsimp only))))); k_steps))
          refine hQ _ _ ?_
          (k_steps; repeat' (((with_reducible refine held ?_); first | ((k_here; (with_reducible show wpAny _ _ (call (Value.ref 21) _ _) _ _ _); k_dflt (refine' Clm.use_int (subC _ _ _ _ _ _ _ _ ?c1ø ?c2ø) ?k1ø ?k2ø ?k3ø ?k4ø ?k5ø ?kKø ?kdø ?kuø ?kpø ?_; (case k1ø => k_asm); (case k2ø => k_asm); (case k3ø => k_asm); (case k4ø => k_asm); (case k5ø => k_asm); (case kpø => exact trivial); (case c1ø => kln_le); (case c2ø => kln_le); (case kKø => first | exact rfl | assumption); (case kdø => ktr_room); (case kuø => ktr_units); intro _ _ _ _ _ _; (try dsimp only); (try k_fold); (try k_sweep)))) | (((with_reducible show wpAny _ _ (subscriptTail (Expr.Name _ _) (Expr.Name _ _) (Value.ref _) (Value.int _ _)) _ _ _); (k_here; (with_reducible rename News _ _ _ _ => sN'); k_dflt (refine' it_lv sN' ?ymø ?yiø ?ykø ?ysø ?_; (case ymø => k_mem); (case yiø => assumption); (case ykø => omega); (case ysø => with_unfolding_all rfl)); intro _; (try dsimp only)))) | ((k_here; (with_reducible show wpAny _ _ (call (Value.builtin _) [Value.str _ _]) _ _ _); k_dflt (refine' lenS (fact_mk _) rfl ?ynø ?_; (case ynø => first | with_reducible assumption | omega)); intro _ _; (try dsimp only))) | (((with_reducible show wpAny _ _ (subscriptTail (Expr.Name _ _) (Expr.Slice _ _ _ _) (Value.str _ _) (Value.ref _)) _ _ _); ((with_reducible rename Fr _ _ _ _ => sF'); (with_reducible rename News _ _ _ _ => sN'); first | (refine' tsl_sn (s := ⟨_, _, _, _, _⟩) (slD _ _ (by first | with_reducible assumption | ((try simp only [List.length_drop, List.length_take]); omega)) (by first | with_reducible assumption | ((try simp only [List.length_drop, List.length_take]); omega))) sF' sN' ?q1ø ?q2ø ?zø ?_; (case q1ø => with_unfolding_all rfl); (case q2ø => intro _; with_unfolding_all rfl); (case zø => exact sl_size (by first | with_reducible assumption | ((try simp only [List.length_drop, List.length_take]); omega))); intro _ _ _ _ _) | (refine' tsl_nn (s := ⟨_, _, _, _, _⟩) (slN _ (by first | with_reducible assumption | ((try simp only [List.length_drop, List.length_take]); omega))) sF' sN' ?q1ø ?q2ø ?zø ?_; (case q1ø => with_unfolding_all rfl); (case q2ø => intro _; with_unfolding_all rfl); (case zø => exact sl_size (by first | with_reducible assumption | ((try simp only [List.length_drop, List.length_take]); omega))); intro _ _ _ _ _) | (refine' tsl_ns (s := ⟨_, _, _, _, _⟩) (slT' (by first | with_reducible assumption | ((try simp only [List.length_drop, List.length_take]); omega)) (by first | with_reducible assumption | ((try simp only [List.length_drop, List.length_take]); omega)) (by first | with_reducible assumption | ((try simp only [List.length_drop, List.length_take]); omega))) sF' sN' ?q1ø ?q2ø ?zø ?_; (case q1ø => with_unfolding_all rfl); (case q2ø => intro _; with_unfolding_all rfl); (case zø => exact sl_size (by first | with_reducible assumption | ((try simp only [List.length_drop, List.length_take]); omega))); intro _ _ _ _ _)))) | (((with_reducible show wpAny _ _ (PySem.truthy (Value.str _ _)) _ _ _); (first | (refine tru_f (by first | with_reducible assumption | ((try simp only [List.length_drop, List.length_take]); omega)) ?_; intro _) | (refine tru_t (by first | with_reducible assumption | ((try simp only [List.length_drop, List.length_take]); omega)) ?_; intro _)); (try dsimp only))) | (((with_reducible show wpAny _ _ (subscriptTail (Expr.Name _ _) (Expr.Name _ _) (Value.str _ _) (Value.int _ _)) _ _ _); (k_here; k_dflt (refine' st_at ?ykø ?y3ø ?ysø ?ytø ?_; (case ykø => omega); (case y3ø => omega); (case ysø => with_unfolding_all rfl); (case ytø => intro _; with_unfolding_all rfl)); intro _ _; (try dsimp only)))) | (((with_reducible show wpAny _ _ (subscriptTail (Expr.Name _ _) (Expr.BinOp _ _ _ _) (Value.str _ _) (Value.int _ _)) _ _ _); (k_here; k_dflt (refine' st_m ?ykø ?y3ø ?ysø ?ytø ?_; (case ykø => omega); (case y3ø => omega); (case ysø => with_unfolding_all rfl); (case ytø => intro _; with_unfolding_all rfl)); intro _ _; (try dsimp only))))); k_steps))
          exact ret_int hret (kept_end (by assumption) (by k_asm)) (H3.1 (.inr (List.eq_nil_of_length_eq_zero eb)))
        replace H3 := H3.2 (fun e => ea (by rw [e]; rfl)) (fun e => eb (by rw [e]; rfl))
        have a40 : ¬ (40 : Int) < as.length := by omega
        have b40 : ¬ (40 : Int) < bs.length := by omega
        (k_steps; repeat' (((with_reducible refine held ?_); first | ((k_here; (with_reducible show wpAny _ _ (call (Value.ref 21) _ _) _ _ _); k_dflt (refine' Clm.use_int (subC _ _ _ _ _ _ _ _ ?c1ø ?c2ø) ?k1ø ?k2ø ?k3ø ?k4ø ?k5ø ?kKø ?kdø ?kuø ?kpø ?_; (case k1ø => k_asm); (case k2ø => k_asm); (case k3ø => k_asm); (case k4ø => k_asm); (case k5ø => k_asm); (case kpø => exact trivial); (case c1ø => kln_le); (case c2ø => kln_le); (case kKø => first | exact rfl | assumption); (case kdø => ktr_room); (case kuø => ktr_units); intro _ _ _ _ _ _; (try dsimp only); (try k_fold); (try k_sweep)))) | (((with_reducible show wpAny _ _ (subscriptTail (Expr.Name _ _) (Expr.Name _ _) (Value.ref _) (Value.int _ _)) _ _ _); (k_here; (with_reducible rename News _ _ _ _ => sN'); k_dflt (refine' it_lv sN' ?ymø ?yiø ?ykø ?ysø ?_; (case ymø => k_mem); (case yiø => assumption); (case ykø => omega); (case ysø => with_unfolding_all rfl)); intro _; (try dsimp only)))) | ((k_here; (with_reducible show wpAny _ _ (call (Value.builtin _) [Value.str _ _]) _ _ _); k_dflt (refine' lenS (fact_mk _) rfl ?ynø ?_; (case ynø => first | with_reducible assumption | omega)); intro _ _; (try dsimp only))) | (((with_reducible show wpAny _ _ (subscriptTail (Expr.Name _ _) (Expr.Slice _ _ _ _) (Value.str _ _) (Value.ref _)) _ _ _); ((with_reducible rename Fr _ _ _ _ => sF'); (with_reducible rename News _ _ _ _ => sN'); first | (refine' tsl_sn (s := ⟨_, _, _, _, _⟩) (slD _ _ (by first | with_reducible assumption | ((try simp only [List.length_drop, List.length_take]); omega)) (by first | with_reducible assumption | ((try simp only [List.length_drop, List.length_take]); omega))) sF' sN' ?q1ø ?q2ø ?zø ?_; (case q1ø => with_unfolding_all rfl); (case q2ø => intro _; with_unfolding_all rfl); (case zø => exact sl_size (by first | with_reducible assumption | ((try simp only [List.length_drop, List.length_take]); omega))); intro _ _ _ _ _) | (refine' tsl_nn (s := ⟨_, _, _, _, _⟩) (slN _ (by first | with_reducible assumption | ((try simp only [List.length_drop, List.length_take]); omega))) sF' sN' ?q1ø ?q2ø ?zø ?_; (case q1ø => with_unfolding_all rfl); (case q2ø => intro _; with_unfolding_all rfl); (case zø => exact sl_size (by first | with_reducible assumption | ((try simp only [List.length_drop, List.length_take]); omega))); intro _ _ _ _ _) | (refine' tsl_ns (s := ⟨_, _, _, _, _⟩) (slT' (by first | with_reducible assumption | ((try simp only [List.length_drop, List.length_take]); omega)) (by first | with_reducible assumption | ((try simp only [List.length_drop, List.length_take]); omega)) (by first | with_reducible assumption | ((try simp only [List.length_drop, List.length_take]); omega))) sF' sN' ?q1ø ?q2ø ?zø ?_; (case q1ø => with_unfolding_all rfl); (case q2ø => intro _; with_unfolding_all rfl); (case zø => exact sl_size (by first | with_reducible assumption | ((try simp only [List.length_drop, List.length_take]); omega))); intro _ _ _ _ _)))) | (((with_reducible show wpAny _ _ (PySem.truthy (Value.str _ _)) _ _ _); (first | (refine tru_f (by first | with_reducible assumption | ((try simp only [List.length_drop, List.length_take]); omega)) ?_; intro _) | (refine tru_t (by first | with_reducible assumption | ((try simp only [List.length_drop, List.length_take]); omega)) ?_; intro _)); (try dsimp only))) | (((with_reducible show wpAny _ _ (subscriptTail (Expr.Name _ _) (Expr.Name _ _) (Value.str _ _) (Value.int _ _)) _ _ _); (k_here; k_dflt (refine' st_at ?ykø ?y3ø ?ysø ?ytø ?_; (case ykø => omega); (case y3ø => omega); (case ysø => with_unfolding_all rfl); (case ytø => intro _; with_unfolding_all rfl)); intro _ _; (try dsimp only)))) | (((with_reducible show wpAny _ _ (subscriptTail (Expr.Name _ _) (Expr.BinOp _ _ _ _) (Value.str _ _) (Value.int _ _)) _ _ _); (k_here; k_dflt (refine' st_m ?ykø ?y3ø ?ysø ?ytø ?_; (case ykø => omega); (case y3ø => omega); (case ysø => with_unfolding_all rfl); (case ytø => intro _; with_unfolding_all rfl)); intro _ _; (try dsimp only))))); k_steps))
        · exact absurd ‹(40 : Int) < as.length› a40
        · exact absurd ‹(40 : Int) < bs.length› b40
        unfold Hold
        clear a40 b40
        refine wpAny_mono (Q := fun f s' => Hold (f = .next ∧ LvB g1 L1 s mc tm (fun us vs => DpOk us vs mc z ∧ us.length ≤ vs.length ∧ 0 < us.length ∧ vs.length ≤ 3) s')) ?swap ?rest5 fun _ _ e => e
        case swap =>
          clear hret hQ
          with_reducible rename MarkA => mkA
          clear mkA
          (k_steps; repeat' (((with_reducible refine held ?_); first | ((k_here; (with_reducible show wpAny _ _ (call (Value.ref 21) _ _) _ _ _); k_dflt (refine' Clm.use_int (subC _ _ _ _ _ _ _ _ ?c1ø ?c2ø) ?k1ø ?k2ø ?k3ø ?k4ø ?k5ø ?kKø ?kdø ?kuø ?kpø ?_; (case k1ø => k_asm); (case k2ø => k_asm); (case k3ø => k_asm); (case k4ø => k_asm); (case k5ø => k_asm); (case kpø => exact trivial); (case c1ø => kln_le); (case c2ø => kln_le); (case kKø => first | exact rfl | assumption); (case kdø => ktr_room); (case kuø => ktr_units); intro _ _ _ _ _ _; (try dsimp only); (try k_fold); (try k_sweep)))) | (((with_reducible show wpAny _ _ (subscriptTail (Expr.Name _ _) (Expr.Name _ _) (Value.ref _) (Value.int _ _)) _ _ _); (k_here; (with_reducible rename News _ _ _ _ => sN'); k_dflt (refine' it_lv sN' ?ymø ?yiø ?ykø ?ysø ?_; (case ymø => k_mem); (case yiø => assumption); (case ykø => omega); (case ysø => with_unfolding_all rfl)); intro _; (try dsimp only)))) | ((k_here; (with_reducible show wpAny _ _ (call (Value.builtin _) [Value.str _ _]) _ _ _); k_dflt (refine' lenS (fact_mk _) rfl ?ynø ?_; (case ynø => first | with_reducible assumption | omega)); intro _ _; (try dsimp only))) | (((with_reducible show wpAny _ _ (subscriptTail (Expr.Name _ _) (Expr.Slice _ _ _ _) (Value.str _ _) (Value.ref _)) _ _ _); ((with_reducible rename Fr _ _ _ _ => sF'); (with_reducible rename News _ _ _ _ => sN'); first | (refine' tsl_sn (s := ⟨_, _, _, _, _⟩) (slD _ _ (by first | with_reducible assumption | ((try simp only [List.length_drop, List.length_take]); omega)) (by first | with_reducible assumption | ((try simp only [List.length_drop, List.length_take]); omega))) sF' sN' ?q1ø ?q2ø ?zø ?_; (case q1ø => with_unfolding_all rfl); (case q2ø => intro _; with_unfolding_all rfl); (case zø => exact sl_size (by first | with_reducible assumption | ((try simp only [List.length_drop, List.length_take]); omega))); intro _ _ _ _ _) | (refine' tsl_nn (s := ⟨_, _, _, _, _⟩) (slN _ (by first | with_reducible assumption | ((try simp only [List.length_drop, List.length_take]); omega))) sF' sN' ?q1ø ?q2ø ?zø ?_; (case q1ø => with_unfolding_all rfl); (case q2ø => intro _; with_unfolding_all rfl); (case zø => exact sl_size (by first | with_reducible assumption | ((try simp only [List.length_drop, List.length_take]); omega))); intro _ _ _ _ _) | (refine' tsl_ns (s := ⟨_, _, _, _, _⟩) (slT' (by first | with_reducible assumption | ((try simp only [List.length_drop, List.length_take]); omega)) (by first | with_reducible assumption | ((try simp only [List.length_drop, List.length_take]); omega)) (by first | with_reducible assumption | ((try simp only [List.length_drop, List.length_take]); omega))) sF' sN' ?q1ø ?q2ø ?zø ?_; (case q1ø => with_unfolding_all rfl); (case q2ø => intro _; with_unfolding_all rfl); (case zø => exact sl_size (by first | with_reducible assumption | ((try simp only [List.length_drop, List.length_take]); omega))); intro _ _ _ _ _)))) | (((with_reducible show wpAny _ _ (PySem.truthy (Value.str _ _)) _ _ _); (first | (refine tru_f (by first | with_reducible assumption | ((try simp only [List.length_drop, List.length_take]); omega)) ?_; intro _) | (refine tru_t (by first | with_reducible assumption | ((try simp only [List.length_drop, List.length_take]); omega)) ?_; intro _)); (try dsimp only))) | (((with_reducible show wpAny _ _ (subscriptTail (Expr.Name _ _) (Expr.Name _ _) (Value.str _ _) (Value.int _ _)) _ _ _); (k_here; k_dflt (refine' st_at ?ykø ?y3ø ?ysø ?ytø ?_; (case ykø => omega); (case y3ø => omega); (case ysø => with_unfolding_all rfl); (case ytø => intro _; with_unfolding_all rfl)); intro _ _; (try dsimp only)))) | (((with_reducible show wpAny _ _ (subscriptTail (Expr.Name _ _) (Expr.BinOp _ _ _ _) (Value.str _ _) (Value.int _ _)) _ _ _); (k_here; k_dflt (refine' st_m ?ykø ?y3ø ?ysø ?ytø ?_; (case ykø => omega); (case y3ø => omega); (case ysø => with_unfolding_all rfl); (case ytø => intro _; with_unfolding_all rfl)); intro _ _; (try dsimp only))))); k_steps))
          · with_reducible rename Fr _ _ _ _ => F3
            with_reducible rename News _ _ _ _ => N3
            have hh : bs.length < as.length := by omega
            exact ⟨rfl, _, _, bs, as, _, _, _, rfl, know F3 ⟨rfl, rfl, rfl, trivial⟩, News.tail' N3, H3.2 hh, by omega, by omega, hx3⟩
          · have hh : as.length ≤ bs.length := by omega
            exact ⟨rfl, _, _, as, bs, _, _, _, rfl, F2, N2, H3.1 hh, hh, by omega, hy3⟩
        case rest5 =>
        try clear F2 N2
        clear H3 hx3 hy3 ea eb
        rintro f s' ⟨rfl, h2, tk2, us, vs, ta, tb, u, rfl, F2, N2, hp0⟩
        have hd1 := hp0.1.1
        have hd2 := hp0.1.2.1
        have hd3 := hp0.1.2.2
        have hle := hp0.2.1
        have hu0 := hp0.2.2.1
        have hv3 := hp0.2.2.2
        clear hp0
        have hcb : ∀ j i, 0 ≤ subCost ⟨#[vs.getD j 0]⟩ ⟨#[us.getD i 0]⟩ ∧ subCost ⟨#[vs.getD j 0]⟩ ⟨#[us.getD i 0]⟩ ≤ 2 := fun j i => subCost_in _ _
        generalize hc : (fun j i => subCost ⟨#[vs.getD j 0]⟩ ⟨#[us.getD i 0]⟩) = c at hd2 hd3
        have hcc : ∀ j i, subCost ⟨#[vs.getD j 0]⟩ ⟨#[us.getD i 0]⟩ = c j i := fun j i => by rw [← hc]
        have hcI : ∀ j i, 0 ≤ c j i ∧ c j i ≤ 2 := fun j i => hcc j i ▸ hcb j i
        clear hcb hc
        (k_steps; repeat' (((with_reducible refine held ?_); first | ((k_here; (with_reducible show wpAny _ _ (call (Value.ref 21) _ _) _ _ _); k_dflt (refine' Clm.use_int (subC _ _ _ _ _ _ _ _ ?c1ø ?c2ø) ?k1ø ?k2ø ?k3ø ?k4ø ?k5ø ?kKø ?kdø ?kuø ?kpø ?_; (case k1ø => k_asm); (case k2ø => k_asm); (case k3ø => k_asm); (case k4ø => k_asm); (case k5ø => k_asm); (case kpø => exact trivial); (case c1ø => kln_le); (case c2ø => kln_le); (case kKø => first | exact rfl | assumption); (case kdø => ktr_room); (case kuø => ktr_units); intro _ _ _ _ _ _; (try dsimp only); (try k_fold); (try k_sweep)))) | (((with_reducible show wpAny _ _ (subscriptTail (Expr.Name _ _) (Expr.Name _ _) (Value.ref _) (Value.int _ _)) _ _ _); (k_here; (with_reducible rename News _ _ _ _ => sN'); k_dflt (refine' it_lv sN' ?ymø ?yiø ?ykø ?ysø ?_; (case ymø => k_mem); (case yiø => assumption); (case ykø => omega); (case ysø => with_unfolding_all rfl)); intro _; (try dsimp only)))) | ((k_here; (with_reducible show wpAny _ _ (call (Value.builtin _) [Value.str _ _]) _ _ _); k_dflt (refine' lenS (fact_mk _) rfl ?ynø ?_; (case ynø => first | with_reducible assumption | omega)); intro _ _; (try dsimp only))) | (((with_reducible show wpAny _ _ (subscriptTail (Expr.Name _ _) (Expr.Slice _ _ _ _) (Value.str _ _) (Value.ref _)) _ _ _); ((with_reducible rename Fr _ _ _ _ => sF'); (with_reducible rename News _ _ _ _ => sN'); first | (refine' tsl_sn (s := ⟨_, _, _, _, _⟩) (slD _ _ (by first | with_reducible assumption | ((try simp only [List.length_drop, List.length_take]); omega)) (by first | with_reducible assumption | ((try simp only [List.length_drop, List.length_take]); omega))) sF' sN' ?q1ø ?q2ø ?zø ?_; (case q1ø => with_unfolding_all rfl); (case q2ø => intro _; with_unfolding_all rfl); (case zø => exact sl_size (by first | with_reducible assumption | ((try simp only [List.length_drop, List.length_take]); omega))); intro _ _ _ _ _) | (refine' tsl_nn (s := ⟨_, _, _, _, _⟩) (slN _ (by first | with_reducible assumption | ((try simp only [List.length_drop, List.length_take]); omega))) sF' sN' ?q1ø ?q2ø ?zø ?_; (case q1ø => with_unfolding_all rfl); (case q2ø => intro _; with_unfolding_all rfl); (case zø => exact sl_size (by first | with_reducible assumption | ((try simp only [List.length_drop, List.length_take]); omega))); intro _ _ _ _ _) | (refine' tsl_ns (s := ⟨_, _, _, _, _⟩) (slT' (by first | with_reducible assumption | ((try simp only [List.length_drop, List.length_take]); omega)) (by first | with_reducible assumption | ((try simp only [List.length_drop, List.length_take]); omega)) (by first | with_reducible assumption | ((try simp only [List.length_drop, List.length_take]); omega))) sF' sN' ?q1ø ?q2ø ?zø ?_; (case q1ø => with_unfolding_all rfl); (case q2ø => intro _; with_unfolding_all rfl); (case zø => exact sl_size (by first | with_reducible assumption | ((try simp only [List.length_drop, List.length_take]); omega))); intro _ _ _ _ _)))) | (((with_reducible show wpAny _ _ (PySem.truthy (Value.str _ _)) _ _ _); (first | (refine tru_f (by first | with_reducible assumption | ((try simp only [List.length_drop, List.length_take]); omega)) ?_; intro _) | (refine tru_t (by first | with_reducible assumption | ((try simp only [List.length_drop, List.length_take]); omega)) ?_; intro _)); (try dsimp only))) | (((with_reducible show wpAny _ _ (subscriptTail (Expr.Name _ _) (Expr.Name _ _) (Value.str _ _) (Value.int _ _)) _ _ _); (k_here; k_dflt (refine' st_at ?ykø ?y3ø ?ysø ?ytø ?_; (case ykø => omega); (case y3ø => omega); (case ysø => with_unfolding_all rfl); (case ytø => intro _; with_unfolding_all rfl)); intro _ _; (try dsimp only)))) | (((with_reducible show wpAny _ _ (subscriptTail (Expr.Name _ _) (Expr.BinOp _ _ _ _) (Value.str _ _) (Value.int _ _)) _ _ _); (k_here; k_dflt (refine' st_m ?ykø ?y3ø ?ysø ?ytø ?_; (case ykø => omega); (case y3ø => omega); (case ysø => with_unfolding_all rfl); (case ytø => intro _; with_unfolding_all rfl)); intro _ _; (try dsimp only))))); k_steps))
        · rename mc < _ => hcm
          exact absurd hcm (by omega)
        unfold Hold
        try clear F2 N2
        with_reducible rename Fr g1 _ _ _ => F3
        with_reducible rename News g1 _ _ _ => N3
        rename IntsAre _ _ => i1
        rename_i R c0 rv0 h3 tk3 l3 h4 h5
        replace F3 := know F3 (l := [("a", .str ⟨us.toArray⟩ _), ("b", .str ⟨vs.toArray⟩ _), ("max_cost", .int mc tm), ("row", .ref R), ("result", .int 0 _)]) ⟨rfl, rfl, rfl, rfl, rfl, trivial⟩
        refine for_rng (h₀ := g1) ?_
        (k_steps; repeat' (((with_reducible refine held ?_); first | ((k_here; (with_reducible show wpAny _ _ (call (Value.ref 21) _ _) _ _ _); k_dflt (refine' Clm.use_int (subC _ _ _ _ _ _ _ _ ?c1ø ?c2ø) ?k1ø ?k2ø ?k3ø ?k4ø ?k5ø ?kKø ?kdø ?kuø ?kpø ?_; (case k1ø => k_asm); (case k2ø => k_asm); (case k3ø => k_asm); (case k4ø => k_asm); (case k5ø => k_asm); (case kpø => exact trivial); (case c1ø => kln_le); (case c2ø => kln_le); (case kKø => first | exact rfl | assumption); (case kdø => ktr_room); (case kuø => ktr_units); intro _ _ _ _ _ _; (try dsimp only); (try k_fold); (try k_sweep)))) | (((with_reducible show wpAny _ _ (subscriptTail (Expr.Name _ _) (Expr.Name _ _) (Value.ref _) (Value.int _ _)) _ _ _); (k_here; (with_reducible rename News _ _ _ _ => sN'); k_dflt (refine' it_lv sN' ?ymø ?yiø ?ykø ?ysø ?_; (case ymø => k_mem); (case yiø => assumption); (case ykø => omega); (case ysø => with_unfolding_all rfl)); intro _; (try dsimp only)))) | ((k_here; (with_reducible show wpAny _ _ (call (Value.builtin _) [Value.str _ _]) _ _ _); k_dflt (refine' lenS (fact_mk _) rfl ?ynø ?_; (case ynø => first | with_reducible assumption | omega)); intro _ _; (try dsimp only))) | (((with_reducible show wpAny _ _ (subscriptTail (Expr.Name _ _) (Expr.Slice _ _ _ _) (Value.str _ _) (Value.ref _)) _ _ _); ((with_reducible rename Fr _ _ _ _ => sF'); (with_reducible rename News _ _ _ _ => sN'); first | (refine' tsl_sn (s := ⟨_, _, _, _, _⟩) (slD _ _ (by first | with_reducible assumption | ((try simp only [List.length_drop, List.length_take]); omega)) (by first | with_reducible assumption | ((try simp only [List.length_drop, List.length_take]); omega))) sF' sN' ?q1ø ?q2ø ?zø ?_; (case q1ø => with_unfolding_all rfl); (case q2ø => intro _; with_unfolding_all rfl); (case zø => exact sl_size (by first | with_reducible assumption | ((try simp only [List.length_drop, List.length_take]); omega))); intro _ _ _ _ _) | (refine' tsl_nn (s := ⟨_, _, _, _, _⟩) (slN _ (by first | with_reducible assumption | ((try simp only [List.length_drop, List.length_take]); omega))) sF' sN' ?q1ø ?q2ø ?zø ?_; (case q1ø => with_unfolding_all rfl); (case q2ø => intro _; with_unfolding_all rfl); (case zø => exact sl_size (by first | with_reducible assumption | ((try simp only [List.length_drop, List.length_take]); omega))); intro _ _ _ _ _) | (refine' tsl_ns (s := ⟨_, _, _, _, _⟩) (slT' (by first | with_reducible assumption | ((try simp only [List.length_drop, List.length_take]); omega)) (by first | with_reducible assumption | ((try simp only [List.length_drop, List.length_take]); omega)) (by first | with_reducible assumption | ((try simp only [List.length_drop, List.length_take]); omega))) sF' sN' ?q1ø ?q2ø ?zø ?_; (case q1ø => with_unfolding_all rfl); (case q2ø => intro _; with_unfolding_all rfl); (case zø => exact sl_size (by first | with_reducible assumption | ((try simp only [List.length_drop, List.length_take]); omega))); intro _ _ _ _ _)))) | (((with_reducible show wpAny _ _ (PySem.truthy (Value.str _ _)) _ _ _); (first | (refine tru_f (by first | with_reducible assumption | ((try simp only [List.length_drop, List.length_take]); omega)) ?_; intro _) | (refine tru_t (by first | with_reducible assumption | ((try simp only [List.length_drop, List.length_take]); omega)) ?_; intro _)); (try dsimp only))) | (((with_reducible show wpAny _ _ (subscriptTail (Expr.Name _ _) (Expr.Name _ _) (Value.str _ _) (Value.int _ _)) _ _ _); (k_here; k_dflt (refine' st_at ?ykø ?y3ø ?ysø ?ytø ?_; (case ykø => omega); (case y3ø => omega); (case ysø => with_unfolding_all rfl); (case ytø => intro _; with_unfolding_all rfl)); intro _ _; (try dsimp only)))) | (((with_reducible show wpAny _ _ (subscriptTail (Expr.Name _ _) (Expr.BinOp _ _ _ _) (Value.str _ _) (Value.int _ _)) _ _ _); (k_here; k_dflt (refine' st_m ?ykø ?y3ø ?ysø ?ytø ?_; (case ykø => omega); (case y3ø => omega); (case ysø => with_unfolding_all rfl); (case ytø => intro _; with_unfolding_all rfl)); intro _ _; (try dsimp only))))); k_steps))
        rename IsRange _ _ _ _ _ _ _ _ => rgX
        refine ⟨_, vs.length, _, _, _, _, _, LvR us vs ta tb tm mc R c, rfl, rfl, rfl, rfl, rgX, (rng_small _ (by omega)).1, (rng_small _ (by omega)).2, by k_asm, by k_asm, ⟨_, _, _, ⟨rfl, rfl, rfl, rfl, rfl, trivial⟩, rfl, i1⟩, ?turn, ?done⟩
        case turn =>
          try clear rgX
          try clear F3
          try clear N3
          rintro j tj m1 nx h4 tk4 I oI hj ⟨tr, rv, rc, hK, rfl, hrv⟩ F4 N4 hoff
          replace F4 := know F4 (l := [("bindex", .int (j : Nat) tj), ("a", .str ⟨us.toArray⟩ ta), ("b", .str ⟨vs.toArray⟩ tb), ("max_cost", .int mc tm), ("row", .ref R)]) ⟨rfl, hK.1, hK.2.1, hK.2.2.1, hK.2.2.2.1, trivial⟩
          have q1 : @Ne Nat R I := hoff _ (.head _)
          have q1' : @Ne Nat I R := q1.symm
          refine gQ fun Q1 hQ1 => ?_
          (k_steps; repeat' (((with_reducible refine held ?_); first | ((k_here; (with_reducible show wpAny _ _ (call (Value.ref 21) _ _) _ _ _); k_dflt (refine' Clm.use_int (subC _ _ _ _ _ _ _ _ ?c1ø ?c2ø) ?k1ø ?k2ø ?k3ø ?k4ø ?k5ø ?kKø ?kdø ?kuø ?kpø ?_; (case k1ø => k_asm); (case k2ø => k_asm); (case k3ø => k_asm); (case k4ø => k_asm); (case k5ø => k_asm); (case kpø => exact trivial); (case c1ø => kln_le); (case c2ø => kln_le); (case kKø => first | exact rfl | assumption); (case kdø => ktr_room); (case kuø => ktr_units); intro _ _ _ _ _ _; (try dsimp only); (try k_fold); (try k_sweep)))) | (((with_reducible show wpAny _ _ (subscriptTail (Expr.Name _ _) (Expr.Name _ _) (Value.ref _) (Value.int _ _)) _ _ _); (k_here; (with_reducible rename News _ _ _ _ => sN'); k_dflt (refine' it_lv sN' ?ymø ?yiø ?ykø ?ysø ?_; (case ymø => k_mem); (case yiø => assumption); (case ykø => omega); (case ysø => with_unfolding_all rfl)); intro _; (try dsimp only)))) | ((k_here; (with_reducible show wpAny _ _ (call (Value.builtin _) [Value.str _ _]) _ _ _); k_dflt (refine' lenS (fact_mk _) rfl ?ynø ?_; (case ynø => first | with_reducible assumption | omega)); intro _ _; (try dsimp only))) | (((with_reducible show wpAny _ _ (subscriptTail (Expr.Name _ _) (Expr.Slice _ _ _ _) (Value.str _ _) (Value.ref _)) _ _ _); ((with_reducible rename Fr _ _ _ _ => sF'); (with_reducible rename News _ _ _ _ => sN'); first | (refine' tsl_sn (s := ⟨_, _, _, _, _⟩) (slD _ _ (by first | with_reducible assumption | ((try simp only [List.length_drop, List.length_take]); omega)) (by first | with_reducible assumption | ((try simp only [List.length_drop, List.length_take]); omega))) sF' sN' ?q1ø ?q2ø ?zø ?_; (case q1ø => with_unfolding_all rfl); (case q2ø => intro _; with_unfolding_all rfl); (case zø => exact sl_size (by first | with_reducible assumption | ((try simp only [List.length_drop, List.length_take]); omega))); intro _ _ _ _ _) | (refine' tsl_nn (s := ⟨_, _, _, _, _⟩) (slN _ (by first | with_reducible assumption | ((try simp only [List.length_drop, List.length_take]); omega))) sF' sN' ?q1ø ?q2ø ?zø ?_; (case q1ø => with_unfolding_all rfl); (case q2ø => intro _; with_unfolding_all rfl); (case zø => exact sl_size (by first | with_reducible assumption | ((try simp only [List.length_drop, List.length_take]); omega))); intro _ _ _ _ _) | (refine' tsl_ns (s := ⟨_, _, _, _, _⟩) (slT' (by first | with_reducible assumption | ((try simp only [List.length_drop, List.length_take]); omega)) (by first | with_reducible assumption | ((try simp only [List.length_drop, List.length_take]); omega)) (by first | with_reducible assumption | ((try simp only [List.length_drop, List.length_take]); omega))) sF' sN' ?q1ø ?q2ø ?zø ?_; (case q1ø => with_unfolding_all rfl); (case q2ø => intro _; with_unfolding_all rfl); (case zø => exact sl_size (by first | with_reducible assumption | ((try simp only [List.length_drop, List.length_take]); omega))); intro _ _ _ _ _)))) | (((with_reducible show wpAny _ _ (PySem.truthy (Value.str _ _)) _ _ _); (first | (refine tru_f (by first | with_reducible assumption | ((try simp only [List.length_drop, List.length_take]); omega)) ?_; intro _) | (refine tru_t (by first | with_reducible assumption | ((try simp only [List.length_drop, List.length_take]); omega)) ?_; intro _)); (try dsimp only))) | (((with_reducible show wpAny _ _ (subscriptTail (Expr.Name _ _) (Expr.Name _ _) (Value.str _ _) (Value.int _ _)) _ _ _); (k_here; k_dflt (refine' st_at ?ykø ?y3ø ?ysø ?ytø ?_; (case ykø => omega); (case y3ø => omega); (case ysø => with_unfolding_all rfl); (case ytø => intro _; with_unfolding_all rfl)); intro _ _; (try dsimp only)))) | (((with_reducible show wpAny _ _ (subscriptTail (Expr.Name _ _) (Expr.BinOp _ _ _ _) (Value.str _ _) (Value.int _ _)) _ _ _); (k_here; k_dflt (refine' st_m ?ykø ?y3ø ?ysø ?ytø ?_; (case ykø => omega); (case y3ø => omega); (case ysø => with_unfolding_all rfl); (case ytø => intro _; with_unfolding_all rfl)); intro _ _; (try dsimp only))))); k_steps))
          unfold Hold
          try clear F4 N4
          with_reducible rename Fr g1 _ _ _ => F5
          with_reducible rename News g1 _ _ _ => N5
          replace F5 := know F5 (l := [("a", .str ⟨us.toArray⟩ ta), ("b", .str ⟨vs.toArray⟩ tb), ("max_cost", .int mc tm), ("row", .ref R), ("bchar", .str ⟨#[vs.getD j 0]⟩ _), ("distance", .int ((j : Int) * 2) _), ("result", .int ((j : Int) * 2) _), ("minimum", .int 9223372036854775807 _)]) ⟨rfl, rfl, rfl, rfl, rfl, rfl, rfl, rfl, trivial⟩
          refine for_rng (h₀ := g1) ?_
          (k_steps; repeat' (((with_reducible refine held ?_); first | ((k_here; (with_reducible show wpAny _ _ (call (Value.ref 21) _ _) _ _ _); k_dflt (refine' Clm.use_int (subC _ _ _ _ _ _ _ _ ?c1ø ?c2ø) ?k1ø ?k2ø ?k3ø ?k4ø ?k5ø ?kKø ?kdø ?kuø ?kpø ?_; (case k1ø => k_asm); (case k2ø => k_asm); (case k3ø => k_asm); (case k4ø => k_asm); (case k5ø => k_asm); (case kpø => exact trivial); (case c1ø => kln_le); (case c2ø => kln_le); (case kKø => first | exact rfl | assumption); (case kdø => ktr_room); (case kuø => ktr_units); intro _ _ _ _ _ _; (try dsimp only); (try k_fold); (try k_sweep)))) | (((with_reducible show wpAny _ _ (subscriptTail (Expr.Name _ _) (Expr.Name _ _) (Value.ref _) (Value.int _ _)) _ _ _); (k_here; (with_reducible rename News _ _ _ _ => sN'); k_dflt (refine' it_lv sN' ?ymø ?yiø ?ykø ?ysø ?_; (case ymø => k_mem); (case yiø => assumption); (case ykø => omega); (case ysø => with_unfolding_all rfl)); intro _; (try dsimp only)))) | ((k_here; (with_reducible show wpAny _ _ (call (Value.builtin _) [Value.str _ _]) _ _ _); k_dflt (refine' lenS (fact_mk _) rfl ?ynø ?_; (case ynø => first | with_reducible assumption | omega)); intro _ _; (try dsimp only))) | (((with_reducible show wpAny _ _ (subscriptTail (Expr.Name _ _) (Expr.Slice _ _ _ _) (Value.str _ _) (Value.ref _)) _ _ _); ((with_reducible rename Fr _ _ _ _ => sF'); (with_reducible rename News _ _ _ _ => sN'); first | (refine' tsl_sn (s := ⟨_, _, _, _, _⟩) (slD _ _ (by first | with_reducible assumption | ((try simp only [List.length_drop, List.length_take]); omega)) (by first | with_reducible assumption | ((try simp only [List.length_drop, List.length_take]); omega))) sF' sN' ?q1ø ?q2ø ?zø ?_; (case q1ø => with_unfolding_all rfl); (case q2ø => intro _; with_unfolding_all rfl); (case zø => exact sl_size (by first | with_reducible assumption | ((try simp only [List.length_drop, List.length_take]); omega))); intro _ _ _ _ _) | (refine' tsl_nn (s := ⟨_, _, _, _, _⟩) (slN _ (by first | with_reducible assumption | ((try simp only [List.length_drop, List.length_take]); omega))) sF' sN' ?q1ø ?q2ø ?zø ?_; (case q1ø => with_unfolding_all rfl); (case q2ø => intro _; with_unfolding_all rfl); (case zø => exact sl_size (by first | with_reducible assumption | ((try simp only [List.length_drop, List.length_take]); omega))); intro _ _ _ _ _) | (refine' tsl_ns (s := ⟨_, _, _, _, _⟩) (slT' (by first | with_reducible assumption | ((try simp only [List.length_drop, List.length_take]); omega)) (by first | with_reducible assumption | ((try simp only [List.length_drop, List.length_take]); omega)) (by first | with_reducible assumption | ((try simp only [List.length_drop, List.length_take]); omega))) sF' sN' ?q1ø ?q2ø ?zø ?_; (case q1ø => with_unfolding_all rfl); (case q2ø => intro _; with_unfolding_all rfl); (case zø => exact sl_size (by first | with_reducible assumption | ((try simp only [List.length_drop, List.length_take]); omega))); intro _ _ _ _ _)))) | (((with_reducible show wpAny _ _ (PySem.truthy (Value.str _ _)) _ _ _); (first | (refine tru_f (by first | with_reducible assumption | ((try simp only [List.length_drop, List.length_take]); omega)) ?_; intro _) | (refine tru_t (by first | with_reducible assumption | ((try simp only [List.length_drop, List.length_take]); omega)) ?_; intro _)); (try dsimp only))) | (((with_reducible show wpAny _ _ (subscriptTail (Expr.Name _ _) (Expr.Name _ _) (Value.str _ _) (Value.int _ _)) _ _ _); (k_here; k_dflt (refine' st_at ?ykø ?y3ø ?ysø ?ytø ?_; (case ykø => omega); (case y3ø => omega); (case ysø => with_unfolding_all rfl); (case ytø => intro _; with_unfolding_all rfl)); intro _ _; (try dsimp only)))) | (((with_reducible show wpAny _ _ (subscriptTail (Expr.Name _ _) (Expr.BinOp _ _ _ _) (Value.str _ _) (Value.int _ _)) _ _ _); (k_here; k_dflt (refine' st_m ?ykø ?y3ø ?ysø ?ytø ?_; (case ykø => omega); (case y3ø => omega); (case ysø => with_unfolding_all rfl); (case ytø => intro _; with_unfolding_all rfl)); intro _ _; (try dsimp only))))); k_steps))
          rename IsRange _ _ _ _ _ _ _ _ => rgY
          refine ⟨_, us.length, _, _, _, _, _, LvI us vs ta tb tm mc R I oI c j, rfl, rfl, rfl, rfl, rgY, (rng_small _ (by omega)).1, (rng_small _ (by omega)).2, by k_asm, by k_asm, ⟨_, _, _, _, _, _, _, ⟨rfl, rfl, rfl, rfl, rfl, rfl, by rw [lvV_s0]; rfl, rfl, trivial⟩, fun k hk => absurd hk (Nat.not_lt_zero k), rfl, hrv⟩, ?turn2, ?done2⟩
          case turn2 =>
            try clear rgY
            try clear F5
            try clear N5
            rintro i ti m2 nx h6 tk6 I2 oI2 hi ⟨tb', td, tr, mn, tn, rv2, rc2, hK2, hmn, rfl, hrv2⟩ F6 N6 hoff2
            replace F6 := know F6 (l := [("index", .int (i : Nat) ti), ("a", .str ⟨us.toArray⟩ ta), ("b", .str ⟨vs.toArray⟩ tb), ("max_cost", .int mc tm), ("row", .ref R), ("bchar", .str ⟨#[vs.getD j 0]⟩ tb'), ("distance", .int (lvD c j i) td), ("result", .int (lvV c (j + 1) i) tr), ("minimum", .int mn tn)]) ⟨rfl, hK2.1, hK2.2.1, hK2.2.2.1, hK2.2.2.2.1, hK2.2.2.2.2.1, hK2.2.2.2.2.2.1, hK2.2.2.2.2.2.2.1, hK2.2.2.2.2.2.2.2.1, trivial⟩
            have e1 : @Ne Nat I I2 := hoff2 _ (.head _)
            have e2 : @Ne Nat R I2 := hoff2 _ (.tail _ (.head _))
            have e1' : @Ne Nat I2 I := e1.symm
            have e2' : @Ne Nat I2 R := e2.symm
            refine gQ fun Q2 hQ2 => ?_
            (k_steps; repeat' (((with_reducible refine held ?_); first | ((k_here; (with_reducible show wpAny _ _ (call (Value.ref 21) _ _) _ _ _); k_dflt (refine' Clm.use_int (subC _ _ _ _ _ _ _ _ ?c1ø ?c2ø) ?k1ø ?k2ø ?k3ø ?k4ø ?k5ø ?kKø ?kdø ?kuø ?kpø ?_; (case k1ø => k_asm); (case k2ø => k_asm); (case k3ø => k_asm); (case k4ø => k_asm); (case k5ø => k_asm); (case kpø => exact trivial); (case c1ø => kln_le); (case c2ø => kln_le); (case kKø => first | exact rfl | assumption); (case kdø => ktr_room); (case kuø => ktr_units); intro _ _ _ _ _ _; (try dsimp only); (try k_fold); (try k_sweep)))) | (((with_reducible show wpAny _ _ (subscriptTail (Expr.Name _ _) (Expr.Name _ _) (Value.ref _) (Value.int _ _)) _ _ _); (k_here; (with_reducible rename News _ _ _ _ => sN'); k_dflt (refine' it_lv sN' ?ymø ?yiø ?ykø ?ysø ?_; (case ymø => k_mem); (case yiø => assumption); (case ykø => omega); (case ysø => with_unfolding_all rfl)); intro _; (try dsimp only)))) | ((k_here; (with_reducible show wpAny _ _ (call (Value.builtin _) [Value.str _ _]) _ _ _); k_dflt (refine' lenS (fact_mk _) rfl ?ynø ?_; (case ynø => first | with_reducible assumption | omega)); intro _ _; (try dsimp only))) | (((with_reducible show wpAny _ _ (subscriptTail (Expr.Name _ _) (Expr.Slice _ _ _ _) (Value.str _ _) (Value.ref _)) _ _ _); ((with_reducible rename Fr _ _ _ _ => sF'); (with_reducible rename News _ _ _ _ => sN'); first | (refine' tsl_sn (s := ⟨_, _, _, _, _⟩) (slD _ _ (by first | with_reducible assumption | ((try simp only [List.length_drop, List.length_take]); omega)) (by first | with_reducible assumption | ((try simp only [List.length_drop, List.length_take]); omega))) sF' sN' ?q1ø ?q2ø ?zø ?_; (case q1ø => with_unfolding_all rfl); (case q2ø => intro _; with_unfolding_all rfl); (case zø => exact sl_size (by first | with_reducible assumption | ((try simp only [List.length_drop, List.length_take]); omega))); intro _ _ _ _ _) | (refine' tsl_nn (s := ⟨_, _, _, _, _⟩) (slN _ (by first | with_reducible assumption | ((try simp only [List.length_drop, List.length_take]); omega))) sF' sN' ?q1ø ?q2ø ?zø ?_; (case q1ø => with_unfolding_all rfl); (case q2ø => intro _; with_unfolding_all rfl); (case zø => exact sl_size (by first | with_reducible assumption | ((try simp only [List.length_drop, List.length_take]); omega))); intro _ _ _ _ _) | (refine' tsl_ns (s := ⟨_, _, _, _, _⟩) (slT' (by first | with_reducible assumption | ((try simp only [List.length_drop, List.length_take]); omega)) (by first | with_reducible assumption | ((try simp only [List.length_drop, List.length_take]); omega)) (by first | with_reducible assumption | ((try simp only [List.length_drop, List.length_take]); omega))) sF' sN' ?q1ø ?q2ø ?zø ?_; (case q1ø => with_unfolding_all rfl); (case q2ø => intro _; with_unfolding_all rfl); (case zø => exact sl_size (by first | with_reducible assumption | ((try simp only [List.length_drop, List.length_take]); omega))); intro _ _ _ _ _)))) | (((with_reducible show wpAny _ _ (PySem.truthy (Value.str _ _)) _ _ _); (first | (refine tru_f (by first | with_reducible assumption | ((try simp only [List.length_drop, List.length_take]); omega)) ?_; intro _) | (refine tru_t (by first | with_reducible assumption | ((try simp only [List.length_drop, List.length_take]); omega)) ?_; intro _)); (try dsimp only))) | (((with_reducible show wpAny _ _ (subscriptTail (Expr.Name _ _) (Expr.Name _ _) (Value.str _ _) (Value.int _ _)) _ _ _); (k_here; k_dflt (refine' st_at ?ykø ?y3ø ?ysø ?ytø ?_; (case ykø => omega); (case y3ø => omega); (case ysø => with_unfolding_all rfl); (case ytø => intro _; with_unfolding_all rfl)); intro _ _; (try dsimp only)))) | (((with_reducible show wpAny _ _ (subscriptTail (Expr.Name _ _) (Expr.BinOp _ _ _ _) (Value.str _ _) (Value.int _ _)) _ _ _); (k_here; k_dflt (refine' st_m ?ykø ?y3ø ?ysø ?ytø ?_; (case ykø => omega); (case y3ø => omega); (case ysø => with_unfolding_all rfl); (case ytø => intro _; with_unfolding_all rfl)); intro _ _; (try dsimp only))))); k_steps))
            try clear F6 N6
            with_reducible rename Fr g1 _ _ _ => F7
            with_reducible rename News g1 _ _ _ => N7
            have hv := lv_step (lvV c (j + 1) i) (lvV c j (i + 1)) (lvD c j i) (c j i)
            rw [← lvV_ss] at hv
            rw [hcc, hv] at F7 ⊢
            replace F7 := know F7 (l := [("index", .int (i : Nat) ti), ("a", .str ⟨us.toArray⟩ ta), ("b", .str ⟨vs.toArray⟩ tb), ("max_cost", .int mc tm), ("row", .ref R), ("bchar", .str ⟨#[vs.getD j 0]⟩ tb'), ("distance", .int (lvV c j (i + 1)) _), ("result", .int (lvV c (j + 1) (i + 1)) _), ("minimum", .int mn tn)]) ⟨rfl, rfl, rfl, rfl, rfl, rfl, rfl, rfl, rfl, trivial⟩
            clear hv
            refine' ksa_set F7 N7 (Upd.tail e2' (Upd.tail q1' (Upd.head fun _ h => nomatch h))) hrv2 ?k5 ?k6 ?k7 ?_
            case k5 => omega
            case k6 => rw [lvM_len]; omega
            case k7 => omega
            k_whole
            intro h8 F8 N8 I8 L8 S8
            clear L8 S8 F7 N7
            rw [show ((i : Nat) : Int).toNat = i from rfl, lvM_set c rfl] at I8
            (k_steps; repeat' (((with_reducible refine held ?_); first | ((k_here; (with_reducible show wpAny _ _ (call (Value.ref 21) _ _) _ _ _); k_dflt (refine' Clm.use_int (subC _ _ _ _ _ _ _ _ ?c1ø ?c2ø) ?k1ø ?k2ø ?k3ø ?k4ø ?k5ø ?kKø ?kdø ?kuø ?kpø ?_; (case k1ø => k_asm); (case k2ø => k_asm); (case k3ø => k_asm); (case k4ø => k_asm); (case k5ø => k_asm); (case kpø => exact trivial); (case c1ø => kln_le); (case c2ø => kln_le); (case kKø => first | exact rfl | assumption); (case kdø => ktr_room); (case kuø => ktr_units); intro _ _ _ _ _ _; (try dsimp only); (try k_fold); (try k_sweep)))) | (((with_reducible show wpAny _ _ (subscriptTail (Expr.Name _ _) (Expr.Name _ _) (Value.ref _) (Value.int _ _)) _ _ _); (k_here; (with_reducible rename News _ _ _ _ => sN'); k_dflt (refine' it_lv sN' ?ymø ?yiø ?ykø ?ysø ?_; (case ymø => k_mem); (case yiø => assumption); (case ykø => omega); (case ysø => with_unfolding_all rfl)); intro _; (try dsimp only)))) | ((k_here; (with_reducible show wpAny _ _ (call (Value.builtin _) [Value.str _ _]) _ _ _); k_dflt (refine' lenS (fact_mk _) rfl ?ynø ?_; (case ynø => first | with_reducible assumption | omega)); intro _ _; (try dsimp only))) | (((with_reducible show wpAny _ _ (subscriptTail (Expr.Name _ _) (Expr.Slice _ _ _ _) (Value.str _ _) (Value.ref _)) _ _ _); ((with_reducible rename Fr _ _ _ _ => sF'); (with_reducible rename News _ _ _ _ => sN'); first | (refine' tsl_sn (s := ⟨_, _, _, _, _⟩) (slD _ _ (by first | with_reducible assumption | ((try simp only [List.length_drop, List.length_take]); omega)) (by first | with_reducible assumption | ((try simp only [List.length_drop, List.length_take]); omega))) sF' sN' ?q1ø ?q2ø ?zø ?_; (case q1ø => with_unfolding_all rfl); (case q2ø => intro _; with_unfolding_all rfl); (case zø => exact sl_size (by first | with_reducible assumption | ((try simp only [List.length_drop, List.length_take]); omega))); intro _ _ _ _ _) | (refine' tsl_nn (s := ⟨_, _, _, _, _⟩) (slN _ (by first | with_reducible assumption | ((try simp only [List.length_drop, List.length_take]); omega))) sF' sN' ?q1ø ?q2ø ?zø ?_; (case q1ø => with_unfolding_all rfl); (case q2ø => intro _; with_unfolding_all rfl); (case zø => exact sl_size (by first | with_reducible assumption | ((try simp only [List.length_drop, List.length_take]); omega))); intro _ _ _ _ _) | (refine' tsl_ns (s := ⟨_, _, _, _, _⟩) (slT' (by first | with_reducible assumption | ((try simp only [List.length_drop, List.length_take]); omega)) (by first | with_reducible assumption | ((try simp only [List.length_drop, List.length_take]); omega)) (by first | with_reducible assumption | ((try simp only [List.length_drop, List.length_take]); omega))) sF' sN' ?q1ø ?q2ø ?zø ?_; (case q1ø => with_unfolding_all rfl); (case q2ø => intro _; with_unfolding_all rfl); (case zø => exact sl_size (by first | with_reducible assumption | ((try simp only [List.length_drop, List.length_take]); omega))); intro _ _ _ _ _)))) | (((with_reducible show wpAny _ _ (PySem.truthy (Value.str _ _)) _ _ _); (first | (refine tru_f (by first | with_reducible assumption | ((try simp only [List.length_drop, List.length_take]); omega)) ?_; intro _) | (refine tru_t (by first | with_reducible assumption | ((try simp only [List.length_drop, List.length_take]); omega)) ?_; intro _)); (try dsimp only))) | (((with_reducible show wpAny _ _ (subscriptTail (Expr.Name _ _) (Expr.Name _ _) (Value.str _ _) (Value.int _ _)) _ _ _); (k_here; k_dflt (refine' st_at ?ykø ?y3ø ?ysø ?ytø ?_; (case ykø => omega); (case y3ø => omega); (case ysø => with_unfolding_all rfl); (case ytø => intro _; with_unfolding_all rfl)); intro _ _; (try dsimp only)))) | (((with_reducible show wpAny _ _ (subscriptTail (Expr.Name _ _) (Expr.BinOp _ _ _ _) (Value.str _ _) (Value.int _ _)) _ _ _); (k_here; k_dflt (refine' st_m ?ykø ?y3ø ?ysø ?ytø ?_; (case ykø => omega); (case y3ø => omega); (case ysø => with_unfolding_all rfl); (case ytø => intro _; with_unfolding_all rfl)); intro _ _; (try dsimp only))))); k_steps))
            · with_reducible rename Fr g1 _ _ _ => F9
              with_reducible rename News g1 _ _ _ => N9
              rename _ < mn => hlt
              refine hQ2 _ _ ?_
              refine rng_end F9 N9 [(I, oI), (R, _)] (by lcg_sub) (List.forall_mem_cons.mpr ⟨.inl e1, List.forall_mem_cons.mpr ⟨.inl e2, List.forall_mem_nil _⟩⟩) ⟨_, _, _, _, _, _, _, ⟨rfl, rfl, rfl, rfl, rfl, rfl, rfl, rfl, trivial⟩, fun k hk => ?_, rfl, I8⟩
              rcases Nat.lt_or_eq_of_le (Nat.le_of_lt_succ hk) with h | rfl
              · exact Int.le_trans (Int.le_of_lt hlt) (hmn k h)
              · exact Int.le_refl _
            · with_reducible rename Fr g1 _ _ _ => F9
              with_reducible rename News g1 _ _ _ => N9
              rename ¬ _ < mn => hlt
              refine hQ2 _ _ ?_
              refine rng_end F9 N9 [(I, oI), (R, _)] (by lcg_sub) (List.forall_mem_cons.mpr ⟨.inl e1, List.forall_mem_cons.mpr ⟨.inl e2, List.forall_mem_nil _⟩⟩) ⟨_, _, _, _, _, _, _, ⟨rfl, rfl, rfl, rfl, rfl, rfl, rfl, rfl, trivial⟩, fun k hk => ?_, rfl, I8⟩
              rcases Nat.lt_or_eq_of_le (Nat.le_of_lt_succ hk) with h | rfl
              · exact hmn k h
              · omega
          case done2 =>
            try clear F5 N5 rgY
            rintro h6 tk6 m2 nx F6 N6 ⟨tb', td, tr, mn, tn, rv2, rc2, hK2, hmn, rfl, hrv2⟩
            replace F6 := know F6 (l := [("a", .str ⟨us.toArray⟩ ta), ("b", .str ⟨vs.toArray⟩ tb), ("max_cost", .int mc tm), ("row", .ref R), ("result", .int (lvV c (j + 1) us.length) tr), ("minimum", .int mn tn)]) ⟨hK2.1, hK2.2.1, hK2.2.2.1, hK2.2.2.2.1, hK2.2.2.2.2.2.2.1, hK2.2.2.2.2.2.2.2.1, trivial⟩
            obtain ⟨k, hk1, hk2⟩ := hd3 j hj
            have hmc : ¬ mc < mn := fun h => absurd (Int.le_trans (hmn k hk1) hk2) (by omega)
            (k_steps; repeat' (((with_reducible refine held ?_); first | ((k_here; (with_reducible show wpAny _ _ (call (Value.ref 21) _ _) _ _ _); k_dflt (refine' Clm.use_int (subC _ _ _ _ _ _ _ _ ?c1ø ?c2ø) ?k1ø ?k2ø ?k3ø ?k4ø ?k5ø ?kKø ?kdø ?kuø ?kpø ?_; (case k1ø => k_asm); (case k2ø => k_asm); (case k3ø => k_asm); (case k4ø => k_asm); (case k5ø => k_asm); (case kpø => exact trivial); (case c1ø => kln_le); (case c2ø => kln_le); (case kKø => first | exact rfl | assumption); (case kdø => ktr_room); (case kuø => ktr_units); intro _ _ _ _ _ _; (try dsimp only); (try k_fold); (try k_sweep)))) | (((with_reducible show wpAny _ _ (subscriptTail (Expr.Name _ _) (Expr.Name _ _) (Value.ref _) (Value.int _ _)) _ _ _); (k_here; (with_reducible rename News _ _ _ _ => sN'); k_dflt (refine' it_lv sN' ?ymø ?yiø ?ykø ?ysø ?_; (case ymø => k_mem); (case yiø => assumption); (case ykø => omega); (case ysø => with_unfolding_all rfl)); intro _; (try dsimp only)))) | ((k_here; (with_reducible show wpAny _ _ (call (Value.builtin _) [Value.str _ _]) _ _ _); k_dflt (refine' lenS (fact_mk _) rfl ?ynø ?_; (case ynø => first | with_reducible assumption | omega)); intro _ _; (try dsimp only))) | (((with_reducible show wpAny _ _ (subscriptTail (Expr.Name _ _) (Expr.Slice _ _ _ _) (Value.str _ _) (Value.ref _)) _ _ _); ((with_reducible rename Fr _ _ _ _ => sF'); (with_reducible rename News _ _ _ _ => sN'); first | (refine' tsl_sn (s := ⟨_, _, _, _, _⟩) (slD _ _ (by first | with_reducible assumption | ((try simp only [List.length_drop, List.length_take]); omega)) (by first | with_reducible assumption | ((try simp only [List.length_drop, List.length_take]); omega))) sF' sN' ?q1ø ?q2ø ?zø ?_; (case q1ø => with_unfolding_all rfl); (case q2ø => intro _; with_unfolding_all rfl); (case zø => exact sl_size (by first | with_reducible assumption | ((try simp only [List.length_drop, List.length_take]); omega))); intro _ _ _ _ _) | (refine' tsl_nn (s := ⟨_, _, _, _, _⟩) (slN _ (by first | with_reducible assumption | ((try simp only [List.length_drop, List.length_take]); omega))) sF' sN' ?q1ø ?q2ø ?zø ?_; (case q1ø => with_unfolding_all rfl); (case q2ø => intro _; with_unfolding_all rfl); (case zø => exact sl_size (by first | with_reducible assumption | ((try simp only [List.length_drop, List.length_take]); omega))); intro _ _ _ _ _) | (refine' tsl_ns (s := ⟨_, _, _, _, _⟩) (slT' (by first | with_reducible assumption | ((try simp only [List.length_drop, List.length_take]); omega)) (by first | with_reducible assumption | ((try simp only [List.length_drop, List.length_take]); omega)) (by first | with_reducible assumption | ((try simp only [List.length_drop, List.length_take]); omega))) sF' sN' ?q1ø ?q2ø ?zø ?_; (case q1ø => with_unfolding_all rfl); (case q2ø => intro _; with_unfolding_all rfl); (case zø => exact sl_size (by first | with_reducible assumption | ((try simp only [List.length_drop, List.length_take]); omega))); intro _ _ _ _ _)))) | (((with_reducible show wpAny _ _ (PySem.truthy (Value.str _ _)) _ _ _); (first | (refine tru_f (by first | with_reducible assumption | ((try simp only [List.length_drop, List.length_take]); omega)) ?_; intro _) | (refine tru_t (by first | with_reducible assumption | ((try simp only [List.length_drop, List.length_take]); omega)) ?_; intro _)); (try dsimp only))) | (((with_reducible show wpAny _ _ (subscriptTail (Expr.Name _ _) (Expr.Name _ _) (Value.str _ _) (Value.int _ _)) _ _ _); (k_here; k_dflt (refine' st_at ?ykø ?y3ø ?ysø ?ytø ?_; (case ykø => omega); (case y3ø => omega); (case ysø => with_unfolding_all rfl); (case ytø => intro _; with_unfolding_all rfl)); intro _ _; (try dsimp only)))) | (((with_reducible show wpAny _ _ (subscriptTail (Expr.Name _ _) (Expr.BinOp _ _ _ _) (Value.str _ _) (Value.int _ _)) _ _ _); (k_here; k_dflt (refine' st_m ?ykø ?y3ø ?ysø ?ytø ?_; (case ykø => omega); (case y3ø => omega); (case ysø => with_unfolding_all rfl); (case ytø => intro _; with_unfolding_all rfl)); intro _ _; (try dsimp only))))); k_steps))
            · exact absurd ‹mc < mn› hmc
            · refine hQ1 _ _ ?_
              refine rng_end F6 N6 [(R, _)] (by lcg_sub) (List.forall_mem_cons.mpr ⟨.inl q1, List.forall_mem_nil _⟩) ⟨_, _, _, ⟨rfl, rfl, rfl, rfl, rfl, trivial⟩, rfl, ?_⟩
              rw [← lvM_last]
              exact hrv2
        case done =>
          try clear F3 N3 rgX
          rintro h4 tk4 m1 nx F4 N4 ⟨tr, rv, rc, hK, rfl, hrv⟩
          have hv0 : ¬ vs.length = 0 := by omega
          rw [if_neg hv0, hd2] at hK
          replace F4 := know F4 (l := [("result", .int z tr)]) ⟨hK.2.2.2.2.1, trivial⟩
          (k_steps; repeat' (((with_reducible refine held ?_); first | ((k_here; (with_reducible show wpAny _ _ (call (Value.ref 21) _ _) _ _ _); k_dflt (refine' Clm.use_int (subC _ _ _ _ _ _ _ _ ?c1ø ?c2ø) ?k1ø ?k2ø ?k3ø ?k4ø ?k5ø ?kKø ?kdø ?kuø ?kpø ?_; (case k1ø => k_asm); (case k2ø => k_asm); (case k3ø => k_asm); (case k4ø => k_asm); (case k5ø => k_asm); (case kpø => exact trivial); (case c1ø => kln_le); (case c2ø => kln_le); (case kKø => first | exact rfl | assumption); (case kdø => ktr_room); (case kuø => ktr_units); intro _ _ _ _ _ _; (try dsimp only); (try k_fold); (try k_sweep)))) | (((with_reducible show wpAny _ _ (subscriptTail (Expr.Name _ _) (Expr.Name _ _) (Value.ref _) (Value.int _ _)) _ _ _); (k_here; (with_reducible rename News _ _ _ _ => sN'); k_dflt (refine' it_lv sN' ?ymø ?yiø ?ykø ?ysø ?_; (case ymø => k_mem); (case yiø => assumption); (case ykø => omega); (case ysø => with_unfolding_all rfl)); intro _; (try dsimp only)))) | ((k_here; (with_reducible show wpAny _ _ (call (Value.builtin _) [Value.str _ _]) _ _ _); k_dflt (refine' lenS (fact_mk _) rfl ?ynø ?_; (case ynø => first | with_reducible assumption | omega)); intro _ _; (try dsimp only))) | (((with_reducible show wpAny _ _ (subscriptTail (Expr.Name _ _) (Expr.Slice _ _ _ _) (Value.str _ _) (Value.ref _)) _ _ _); ((with_reducible rename Fr _ _ _ _ => sF'); (with_reducible rename News _ _ _ _ => sN'); first | (refine' tsl_sn (s := ⟨_, _, _, _, _⟩) (slD _ _ (by first | with_reducible assumption | ((try simp only [List.length_drop, List.length_take]); omega)) (by first | with_reducible assumption | ((try simp only [List.length_drop, List.length_take]); omega))) sF' sN' ?q1ø ?q2ø ?zø ?_; (case q1ø => with_unfolding_all rfl); (case q2ø => intro _; with_unfolding_all rfl); (case zø => exact sl_size (by first | with_reducible assumption | ((try simp only [List.length_drop, List.length_take]); omega))); intro _ _ _ _ _) | (refine' tsl_nn (s := ⟨_, _, _, _, _⟩) (slN _ (by first | with_reducible assumption | ((try simp only [List.length_drop, List.length_take]); omega))) sF' sN' ?q1ø ?q2ø ?zø ?_; (case q1ø => with_unfolding_all rfl); (case q2ø => intro _; with_unfolding_all rfl); (case zø => exact sl_size (by first | with_reducible assumption | ((try simp only [List.length_drop, List.length_take]); omega))); intro _ _ _ _ _) | (refine' tsl_ns (s := ⟨_, _, _, _, _⟩) (slT' (by first | with_reducible assumption | ((try simp only [List.length_drop, List.length_take]); omega)) (by first | with_reducible assumption | ((try simp only [List.length_drop, List.length_take]); omega)) (by first | with_reducible assumption | ((try simp only [List.length_drop, List.length_take]); omega))) sF' sN' ?q1ø ?q2ø ?zø ?_; (case q1ø => with_unfolding_all rfl); (case q2ø => intro _; with_unfolding_all rfl); (case zø => exact sl_size (by first | with_reducible assumption | ((try simp only [List.length_drop, List.length_take]); omega))); intro _ _ _ _ _)))) | (((with_reducible show wpAny _ _ (PySem.truthy (Value.str _ _)) _ _ _); (first | (refine tru_f (by first | with_reducible assumption | ((try simp only [List.length_drop, List.length_take]); omega)) ?_; intro _) | (refine tru_t (by first | with_reducible assumption | ((try simp only [List.length_drop, List.length_take]); omega)) ?_; intro _)); (try dsimp only))) | (((with_reducible show wpAny _ _ (subscriptTail (Expr.Name _ _) (Expr.Name _ _) (Value.str _ _) (Value.int _ _)) _ _ _); (k_here; k_dflt (refine' st_at ?ykø ?y3ø ?ysø ?ytø ?_; (case ykø => omega); (case y3ø => omega); (case ysø => with_unfolding_all rfl); (case ytø => intro _; with_unfolding_all rfl)); intro _ _; (try dsimp only)))) | (((with_reducible show wpAny _ _ (subscriptTail (Expr.Name _ _) (Expr.BinOp _ _ _ _) (Value.str _ _) (Value.int _ _)) _ _ _); (k_here; k_dflt (refine' st_m ?ykø ?y3ø ?ysø ?ytø ?_; (case ykø => omega); (case y3ø => omega); (case ysø => with_unfolding_all rfl); (case ytø => intro _; with_unfolding_all rfl)); intro _ _; (try dsimp only))))); k_steps))
          refine hQ _ _ ?_
          (k_steps; repeat' (((with_reducible refine held ?_); first | ((k_here; (with_reducible show wpAny _ _ (call (Value.ref 21) _ _) _ _ _); k_dflt (refine' Clm.use_int (subC _ _ _ _ _ _ _ _ ?c1ø ?c2ø) ?k1ø ?k2ø ?k3ø ?k4ø ?k5ø ?kKø ?kdø ?kuø ?kpø ?_; (case k1ø => k_asm); (case k2ø => k_asm); (case k3ø => k_asm); (case k4ø => k_asm); (case k5ø => k_asm); (case kpø => exact trivial); (case c1ø => kln_le); (case c2ø => kln_le); (case kKø => first | exact rfl | assumption); (case kdø => ktr_room); (case kuø => ktr_units); intro _ _ _ _ _ _; (try dsimp only); (try k_fold); (try k_sweep)))) | (((with_reducible show wpAny _ _ (subscriptTail (Expr.Name _ _) (Expr.Name _ _) (Value.ref _) (Value.int _ _)) _ _ _); (k_here; (with_reducible rename News _ _ _ _ => sN'); k_dflt (refine' it_lv sN' ?ymø ?yiø ?ykø ?ysø ?_; (case ymø => k_mem); (case yiø => assumption); (case ykø => omega); (case ysø => with_unfolding_all rfl)); intro _; (try dsimp only)))) | ((k_here; (with_reducible show wpAny _ _ (call (Value.builtin _) [Value.str _ _]) _ _ _); k_dflt (refine' lenS (fact_mk _) rfl ?ynø ?_; (case ynø => first | with_reducible assumption | omega)); intro _ _; (try dsimp only))) | (((with_reducible show wpAny _ _ (subscriptTail (Expr.Name _ _) (Expr.Slice _ _ _ _) (Value.str _ _) (Value.ref _)) _ _ _); ((with_reducible rename Fr _ _ _ _ => sF'); (with_reducible rename News _ _ _ _ => sN'); first | (refine' tsl_sn (s := ⟨_, _, _, _, _⟩) (slD _ _ (by first | with_reducible assumption | ((try simp only [List.length_drop, List.length_take]); omega)) (by first | with_reducible assumption | ((try simp only [List.length_drop, List.length_take]); omega))) sF' sN' ?q1ø ?q2ø ?zø ?_; (case q1ø => with_unfolding_all rfl); (case q2ø => intro _; with_unfolding_all rfl); (case zø => exact sl_size (by first | with_reducible assumption | ((try simp only [List.length_drop, List.length_take]); omega))); intro _ _ _ _ _) | (refine' tsl_nn (s := ⟨_, _, _, _, _⟩) (slN _ (by first | with_reducible assumption | ((try simp only [List.length_drop, List.length_take]); omega))) sF' sN' ?q1ø ?q2ø ?zø ?_; (case q1ø => with_unfolding_all rfl); (case q2ø => intro _; with_unfolding_all rfl); (case zø => exact sl_size (by first | with_reducible assumption | ((try simp only [List.length_drop, List.length_take]); omega))); intro _ _ _ _ _) | (refine' tsl_ns (s := ⟨_, _, _, _, _⟩) (slT' (by first | with_reducible assumption | ((try simp only [List.length_drop, List.length_take]); omega)) (by first | with_reducible assumption | ((try simp only [List.length_drop, List.length_take]); omega)) (by first | with_reducible assumption | ((try simp only [List.length_drop, List.length_take]); omega))) sF' sN' ?q1ø ?q2ø ?zø ?_; (case q1ø => with_unfolding_all rfl); (case q2ø => intro _; with_unfolding_all rfl); (case zø => exact sl_size (by first | with_reducible assumption | ((try simp only [List.length_drop, List.length_take]); omega))); intro _ _ _ _ _)))) | (((with_reducible show wpAny _ _ (PySem.truthy (Value.str _ _)) _ _ _); (first | (refine tru_f (by first | with_reducible assumption | ((try simp only [List.length_drop, List.length_take]); omega)) ?_; intro _) | (refine tru_t (by first | with_reducible assumption | ((try simp only [List.length_drop, List.length_take]); omega)) ?_; intro _)); (try dsimp only))) | (((with_reducible show wpAny _ _ (subscriptTail (Expr.Name _ _) (Expr.Name _ _) (Value.str _ _) (Value.int _ _)) _ _ _); (k_here; k_dflt (refine' st_at ?ykø ?y3ø ?ysø ?ytø ?_; (case ykø => omega); (case y3ø => omega); (case ysø => with_unfolding_all rfl); (case ytø => intro _; with_unfolding_all rfl)); intro _ _; (try dsimp only)))) | (((with_reducible show wpAny _ _ (subscriptTail (Expr.Name _ _) (Expr.BinOp _ _ _ _) (Value.str _ _) (Value.int _ _)) _ _ _); (k_here; k_dflt (refine' st_m ?ykø ?y3ø ?ysø ?ytø ?_; (case ykø => omega); (case y3ø => omega); (case ysø => with_unfolding_all rfl); (case ytø => intro _; with_unfolding_all rfl)); intro _ _; (try dsimp only))))); k_steps))
          exact ret_int hret (kept_end (by assumption) (by k_asm)) rfl
end
end Mine
end
local macro_rules | `(tactic| walk_at "nokey") => `(tactic| fail)
section
open PySem PySem.W PyProof.Rows PySem.Calls PySem.Spec
set_option maxRecDepth 100000
set_option maxHeartbeats 8000000
set_option linter.unusedVariables false
set_option linter.unusedSimpArgs false
namespace Mine
section
variable (w : World) (mean : ExcName → Option Value) (mg mb : PySem.Str → Option Value)
noncomputable def inK (k : PySem.Str) : Bool := decide (k = ⟨#[33]⟩) || (decide (k = ⟨#[33, 61]⟩) || (decide (k = ⟨#[37]⟩) || (decide (k = ⟨#[37, 61]⟩) || (decide (k = ⟨#[38]⟩) || (decide (k = ⟨#[38, 61]⟩) || (decide (k = ⟨#[40]⟩) || (decide (k = ⟨#[41]⟩) || (decide (k = ⟨#[42]⟩) || (decide (k = ⟨#[42, 42]⟩) || (decide (k = ⟨#[42, 42, 61]⟩) || (decide (k = ⟨#[42, 61]⟩) || (decide (k = ⟨#[43]⟩) || (decide (k = ⟨#[43, 61]⟩) || (decide (k = ⟨#[44]⟩) || (decide (k = ⟨#[45]⟩) || (decide (k = ⟨#[45, 61]⟩) || (decide (k = ⟨#[45, 62]⟩) || (decide (k = ⟨#[46]⟩) || (decide (k = ⟨#[46, 46, 46]⟩) || (decide (k = ⟨#[47]⟩) || (decide (k = ⟨#[47, 47]⟩) || (decide (k = ⟨#[47, 47, 61]⟩) || (decide (k = ⟨#[47, 61]⟩) || (decide (k = ⟨#[58]⟩) || (decide (k = ⟨#[58, 61]⟩) || (decide (k = ⟨#[59]⟩) || (decide (k = ⟨#[60]⟩) || (decide (k = ⟨#[60, 60]⟩) || (decide (k = ⟨#[60, 60, 61]⟩) || (decide (k = ⟨#[60, 61]⟩) || (decide (k = ⟨#[61]⟩) || (decide (k = ⟨#[61, 61]⟩) || (decide (k = ⟨#[62]⟩) || (decide (k = ⟨#[62, 61]⟩) || (decide (k = ⟨#[62, 62]⟩) || (decide (k = ⟨#[62, 62, 61]⟩) || (decide (k = ⟨#[64]⟩) || (decide (k = ⟨#[64, 61]⟩) || (decide (k = ⟨#[91]⟩) || (decide (k = ⟨#[93]⟩) || (decide (k = ⟨#[94]⟩) || (decide (k = ⟨#[94, 61]⟩) || (decide (k = ⟨#[123]⟩) || (decide (k = ⟨#[124]⟩) || (decide (k = ⟨#[124, 61]⟩) || (decide (k = ⟨#[125]⟩) || (decide (k = ⟨#[126]⟩) || false)))))))))))))))))))))))))))))))))))))))))))))))
noncomputable def sg : Nat → PySem.Str
  | 0 => ⟨#[45]⟩
  | 1 => ⟨#[47, 47]⟩
  | 2 => ⟨#[124]⟩
  | 3 => ⟨#[64, 61]⟩
  | 4 => ⟨#[38]⟩
  | 5 => ⟨#[45, 62]⟩
  | _ => ⟨#[44]⟩
noncomputable def kd : Nat → Int
  | 0 => 15
  | 1 => 47
  | 2 => 18
  | 3 => 50
  | 4 => 19
  | 5 => 51
  | _ => 12
theorem containsC (k : PySem.Str) (tk : Tok) (hk : k.length ≤ 1000) :
    Clm w mean mg mb 84 1 [Value.ref 92, Value.str k tk] Any (fun _ _ r => r = .bool (inK k)) := by
  unfold Clm
  w_top off
  k_fill
  intro dp un gd cn cs a ccd cl outer A₀ base h₀ L m s Q E B F X N T hk hd hu pre hret
  refine wpAny_call ?_
  k_dflt cell_enter
  k_steps
  exact hret _ _ _ (kept_end (by assumption) (by k_asm)) rfl
theorem getitemC (i : Nat) (tk : Tok) (hi : i ≤ 6) :
    Clm w mean mg mb 91 1 [Value.ref 92, Value.str (sg i) tk] Any (Gives (kd i)) := by
  have h7 := le6 hi
  rcases h7 with rfl | rfl | rfl | rfl | rfl | rfl | rfl <;> dsimp only [sg, kd]
  all_goals (
  unfold Clm
  w_top off
  k_fill
  intro dp un gd cn cs a ccd cl outer A₀ base h₀ L m s Q E B F X N T hk hd hu pre hret
  refine wpAny_call ?_
  k_dflt cell_enter
  k_steps
  exact ret_int hret (kept_end (by assumption) (by k_asm)) rfl)
end
end Mine
end
section
open PySem PySem.W PyProof.Rows PySem.Calls PySem.Spec PySem.Builtin PySem.Builtin.Str
set_option linter.unusedVariables false
namespace Mine
theorem fm_take (a : Array Nat) : ∀ k, (List.range k).filterMap (a[·]?) = a.toList.take k := by
  intro k
  induction k with
  | zero => rfl
  | succ k ih =>
    rw [List.range_succ, List.filterMap_append, ih, List.take_add_one]
    congr 1
    cases h : a[k]? <;> simp [List.filterMap, h]
theorem fm_drop (a : Array Nat) (k m : Nat) (h : a.size - k = m) : ((List.range m).map (· + k)).filterMap (a[·]?) = a.toList.drop k := by
  rw [List.filterMap_map]
  have : ∀ j, (((a[·]?) ∘ (· + k)) j) = (a.toList.drop k).toArray[j]? := by
    intro j
    simp [Nat.add_comm]
  rw [show ((a[·]?) ∘ (· + k)) = ((a.toList.drop k).toArray[·]?) from funext this, fm_take]
  apply List.take_of_length_le
  simp
  omega
theorem ix_to : ∀ n, n < 15 → ∀ k, k < 3 → strSliceIndices none (some ((k : Nat) : Int)) 1 n = List.range (min k n) := by decide
theorem ix_from : ∀ n, n < 15 → ∀ k, k < 3 → strSliceIndices (some ((k : Nat) : Int)) none 1 n = (List.range (n - k)).map (· + k) := by decide
theorem sl_to {x : PySem.Str} (hx : x.length < 15) {k : Nat} (hk : k < 3) : Txt.slice x none (some ((k : Nat) : Int)) = ⟨(x.cps.toList.take k).toArray⟩ := by
  refine sl_eq x.length _ rfl (ix_to _ hx _ hk) ?_
  have e : (List.range (min k x.length)).filterMap (x.cps[·]?) = x.cps.toList.take k := by
    rw [fm_take]
    show List.take (min k x.cps.size) _ = _
    rw [show x.cps.size = x.cps.toList.length from by simp, List.take_eq_take_iff.mpr]
    simp
  rw [e]
  split
  · rename_i h
    simp at h
    have h' : x.cps.size ≤ k := by have : x.cps.size = x.length := rfl; omega
    rw [List.take_of_length_le (by simpa using h')]
  · rfl
theorem sl_from {x : PySem.Str} (hx : x.length < 15) {k : Nat} (hk : k < 3) : Txt.slice x (some ((k : Nat) : Int)) none = ⟨(x.cps.toList.drop k).toArray⟩ := by
  refine sl_eq x.length _ rfl (ix_from _ hx _ hk) ?_
  rw [fm_drop x.cps k (x.length - k) rfl]
  split
  · rename_i h
    simp at h
    have : k = 0 ∨ x.length = 0 := by omega
    rcases this with h | h
    · subst h; simp
    · have : x.cps.toList = [] := by
        have : x.cps.size = 0 := h
        exact List.eq_nil_of_length_eq_zero (by simpa using this)
      have e : x = ⟨x.cps.toList.toArray⟩ := by simp
      rw [e, this]; simp
  · rfl
noncomputable def cat (l : List Nat) : PySem.Str := ⟨(l.flatMap fun i => (sg i).cps.toList).toArray⟩
noncomputable def sz (i : Nat) : Nat := (sg i).cps.size
noncomputable def Ok (l : List Nat) : Prop := ∀ i ∈ l, i ≤ 6
theorem sz_in {i : Nat} (h : i ≤ 6) : 1 ≤ sz i ∧ sz i < 3 := (by decide : ∀ i < 7, 1 ≤ sz i ∧ sz i < 3) i (Nat.lt_succ_of_le h)
theorem cat_cons (i : Nat) (r : List Nat) : (cat (i :: r)).cps.toList = (sg i).cps.toList ++ (cat r).cps.toList := by simp [cat]
theorem cat_len (i : Nat) (r : List Nat) : (cat (i :: r)).length = sz i + (cat r).length := by
  show (cat (i :: r)).cps.size = (sg i).cps.size + (cat r).cps.size
  have := congrArg List.length (cat_cons i r)
  simpa using this
theorem cat_le : ∀ {l : List Nat}, Ok l → (cat l).length ≤ 2 * l.length
  | [], _ => by decide
  | i :: r, h => by
    rw [cat_len]
    have := cat_le (l := r) fun j hj => h j (.tail _ hj)
    have := sz_in (h i (.head _))
    simp
    omega
noncomputable def hx (i : Nat) : Nat := (sg i).cps.toList.headD 0
theorem two_tab : ∀ i ∈ ([0, 2, 4, 6] : List Nat), ∀ j ∈ List.range 7, (sg i).cps.toList = [hx i] ∧ (sg j).cps.toList = hx j :: (sg j).cps.toList.tail ∧ inK ⟨#[hx i, hx j]⟩ = false := by decide +kernel
theorem two_no {i j : Nat} {rest : List Nat} (hi : i ∈ ([0, 2, 4, 6] : List Nat)) (hj : j ≤ 6) (b : inK ⟨(List.take 2 ((sg i).cps.toList ++ ((sg j).cps.toList ++ rest))).toArray⟩ = true) : False := by
  have t := two_tab i hi j (List.mem_range.mpr (Nat.lt_succ_of_le hj))
  rw [t.1, t.2.1] at b
  exact absurd (t.2.2.symm.trans b) (by decide)
theorem cat_two {i : Nat} {r : List Nat} (h : Ok (i :: r)) (hl : r.length ≤ 6) (b : inK (Txt.slice (cat (i :: r)) none (some 2)) = true) :
    Txt.slice (cat (i :: r)) none (some 2) = sg i ∧ Txt.slice (cat (i :: r)) (some 2) none = cat r := by
  have h1 := cat_le h
  simp at h1
  have e := sl_to (x := cat (i :: r)) (k := 2) (by omega) (by decide)
  have e' := sl_from (x := cat (i :: r)) (k := 2) (by omega) (by decide)
  rw [show ((2 : Nat) : Int) = 2 from rfl] at e e'
  rw [e, cat_cons] at b
  rw [e, e', cat_cons]
  have h7 := le6 (h i (.head _))
  cases r with
  | nil => rcases h7 with rfl | rfl | rfl | rfl | rfl | rfl | rfl <;> decide
  | cons j q =>
    have hj := h j (.tail _ (.head _))
    rw [cat_cons] at b ⊢
    have hc : cat (j :: q) = ⟨((sg j).cps.toList ++ (cat q).cps.toList).toArray⟩ := by rw [← cat_cons]
    rw [hc]
    rcases h7 with rfl | rfl | rfl | rfl | rfl | rfl | rfl
    · exact (two_no (by decide) hj b).elim
    · exact ⟨by simp [sg], by simp [sg]⟩
    · exact (two_no (by decide) hj b).elim
    · exact ⟨by simp [sg], by simp [sg]⟩
    · exact (two_no (by decide) hj b).elim
    · exact ⟨by simp [sg], by simp [sg]⟩
    · exact (two_no (by decide) hj b).elim
theorem cat_one {i : Nat} {r : List Nat} (h : Ok (i :: r)) (hl : r.length ≤ 6) (b : inK (Txt.slice (cat (i :: r)) none (some 2)) = false) :
    Txt.slice (cat (i :: r)) none (some 1) = sg i ∧ Txt.slice (cat (i :: r)) (some 1) none = cat r := by
  have h1 := cat_le h
  simp at h1
  have e := sl_to (x := cat (i :: r)) (k := 2) (by omega) (by decide)
  have e1 := sl_to (x := cat (i :: r)) (k := 1) (by omega) (by decide)
  have e' := sl_from (x := cat (i :: r)) (k := 1) (by omega) (by decide)
  rw [show ((2 : Nat) : Int) = 2 from rfl] at e
  rw [show ((1 : Nat) : Int) = 1 from rfl] at e1 e'
  rw [e, cat_cons] at b
  rw [e1, e', cat_cons]
  have h7 := le6 (h i (.head _))
  have hc : cat r = ⟨(cat r).cps.toList.toArray⟩ := by simp
  rcases h7 with rfl | rfl | rfl | rfl | rfl | rfl | rfl
  · exact ⟨by simp [sg], by rw [hc]; simp [sg]⟩
  · exact absurd b (by simp [sg] <;> decide)
  · exact ⟨by simp [sg], by rw [hc]; simp [sg]⟩
  · exact absurd b (by simp [sg] <;> decide)
  · exact ⟨by simp [sg], by rw [hc]; simp [sg]⟩
  · exact absurd b (by simp [sg] <;> decide)
  · exact ⟨by simp [sg], by rw [hc]; simp [sg]⟩
theorem cat_short {i : Nat} {r : List Nat} (h : Ok (i :: r)) (hl : r.length ≤ 6) : (Txt.slice (cat (i :: r)) none (some 2)).length ≤ 1000 := by
  have h1 := cat_le h
  simp at h1
  have e := sl_to (x := cat (i :: r)) (k := 2) (by omega) (by decide)
  rw [show ((2 : Nat) : Int) = 2 from rfl] at e
  rw [e]
  show (List.take 2 (cat (i :: r)).cps.toList).toArray.size ≤ 1000
  simp
  omega
end Mine
end
section
open PySem PySem.W PyProof.Rows PySem.Calls PySem.Spec
set_option maxRecDepth 100000
set_option maxHeartbeats 8000000
set_option linter.unusedVariables false
set_option linter.unusedSimpArgs false
namespace Mine
local macro_rules | `(tactic| walk_at "call ref") => `(tactic| (refine hold ?_))
local macro_rules | `(tactic| walk_at "exec While Name cons nil") => `(tactic| (k_here; k_dflt (refine whl_start 0 ?_); refine hold ?_))
local macro_rules | `(tactic| walk_at "WhlRest") => `(tactic| (refine hold ?_))
local macro_rules | `(tactic| walk_at "call builtin:str.join") => `(tactic| (refine hold ?_))
local macro_rules | `(tactic| walk_at "subscriptTail Name Slice str ref") => `(tactic| (refine hold ?_))
local macro_rules | `(tactic| walk_at "truthy str") => `(tactic| (refine hold ?_))
local macro_rules | `(tactic| walk_at "exec Assign") => `(tactic| (k_here; (with_reducible rename MarkA => mkA); (with_reducible show wpAny _ _ (exec (Stmt.Assign [Expr.Name (PySem.Str.ofString "size") _] _ _) _) _ _ _); refine hold ?_))
local macro_rules | `(tactic| k_ne) => `(tactic| (refine neN ?_; (with_reducible rename (_ ∧ _ ∧ _) ∧ _ => o); simp [o]))
local macro_rules | `(tactic| k_upd) => `(tactic| ((with_reducible rename ∀ p ∈ _, Prod.fst p ≠ _ => offX); exact Upd.head offX))
section
variable (w : World) (mean : ExcName → Option Value) (mg mb : PySem.Str → Option Value)
noncomputable def sc (i : Nat) : PySem.Str := ⟨#[(kd i + 50).toNat]⟩
noncomputable def rowV (d : List (Nat × Tok)) : List Value := d.map fun p => Value.str (sc p.1) p.2
theorem rowV_add (d : List (Nat × Tok)) (i : Nat) (t : Tok) : (rowV d).toArray.push (Value.str (sc i) t) = (rowV (d ++ [(i, t)])).toArray := by simp [rowV]
noncomputable def ch (i : Nat) : Nat := (kd i + 50).toNat
noncomputable def word (a b c : Nat) : PySem.Str := ⟨#[ch a, ch b, ch c]⟩
/-- a list of two texts comes back, newly made -/
noncomputable def GivesW (x y : PySem.Str) (h h' : Heap) (r : Value) : Prop := ∃ l t1 t2 n, r = .ref l ∧ h.get? l = none ∧ h'.get? l = some (listOf #[Value.str x t1, Value.str y t2] n)
theorem join_three (a b c : Nat) : Txt.join (PySem.Str.ofString "") [sc a, sc b, sc c] = word a b c := by rfl
theorem three_of {d : List (Nat × Tok)} {a b c : Nat} (h : d.map Prod.fst = [a, b, c]) : ∃ t1 t2 t3, d = [(a, t1), (b, t2), (c, t3)] := by
  match d, h with
  | [(_, t1), (_, t2), (_, t3)], h =>
    simp at h
    obtain ⟨rfl, rfl, rfl⟩ := h
    exact ⟨t1, t2, t3, rfl⟩
theorem news_pick {h₀ h : Heap} {L : Addr} {news : List (Addr × Obj)} (ks : List Nat) (N : News h₀ L h news) : News h₀ L h (ks.filterMap (news[·]?)) := fun p hp => N p (by
  obtain ⟨i, _, hi⟩ := List.mem_filterMap.mp hp
  exact List.mem_of_getElem? hi)
inductive WdP (R : Addr) (as bs : List Nat) (C : Addr) (x : List (Nat × Tok)) (cR : Nat) (olds : List Value) (src : List (Addr × Obj)) (rem : List Nat) : Prop
  | one (q : List Nat) (e : rem = q ++ 6 :: bs) (hd : x.map Prod.fst ++ q = as) (ho : olds = []) (hs : src = [(R, listOf [Value.ref C].toArray cR)])
  | two (r0 : Addr) (d : List (Nat × Tok)) (c0 : Nat) (hd : d.map Prod.fst = as) (he : x.map Prod.fst ++ rem = bs) (ho : olds = [Value.ref r0]) (hs : src = [(R, listOf [Value.ref r0, Value.ref C].toArray cR), (r0, listOf (rowV d).toArray c0)]) (ne : @Ne Nat r0 R)
inductive WdI (g1 : Heap) (L1 R : Addr) (as bs : List Nat) (s : Shared) (n : Nat) (s' : Shared) : Prop
  | mk (h : Heap) (tk : Nat) (u : PySem.Str → Option Value) (rem : List Nat) (tt : Tok) (C : Addr) (x : List (Nat × Tok)) (cc cR : Nat) (olds : List Value) (src : List (Addr × Obj)) (e : s' = { s with heap := h, toks := tk })
    (F : Fr g1 L1 h (told [("rows", .ref R), ("text", .str (cat rem) tt)] u)) (N : News g1 L1 h ((C, listOf (rowV x).toArray cc) :: src)) (mR : (R, listOf (olds ++ [Value.ref C]).toArray cR) ∈ src) (off : ∀ p ∈ src, p.1 ≠ C) (hn : n = rem.length) (ph : WdP R as bs C x cR olds src rem)
inductive WdS (g1 : Heap) (L1 R : Addr) (i : Nat) (r : List Nat) (tt : Tok) (news : List (Addr × Obj)) (s s' : Shared) : Prop
  | mk (h : Heap) (tk : Nat) (u : PySem.Str → Option Value) (z : Int) (tz : Tok) (e : s' = { s with heap := h, toks := tk }) (F : Fr g1 L1 h (told [("size", .int z tz), ("rows", .ref R), ("text", .str (cat (i :: r)) tt)] u)) (N : News g1 L1 h news)
    (e1 : Txt.slice (cat (i :: r)) none (some z) = sg i) (e2 : Txt.slice (cat (i :: r)) (some z) none = cat r)
theorem WdP.ok {R : Addr} {as bs : List Nat} {C : Addr} {x : List (Nat × Tok)} {cR : Nat} {olds : List Value} {src : List (Addr × Obj)} {rem : List Nat} (p : WdP R as bs C x cR olds src rem) (ha : ∀ i ∈ as, i ≤ 5) (hb : ∀ i ∈ bs, i ≤ 5) (la : as.length = 3) (lb : bs.length = 3) : Ok rem ∧ rem.length ≤ 7 ∧ x.length ≤ 3 := by
  cases p with
  | one q e hd _ _ =>
    subst e hd
    refine ⟨fun i hi => ?_, ?_, ?_⟩
    · rcases List.mem_append.mp hi with hi | hi
      · exact Nat.le_trans (ha i (List.mem_append_right _ hi)) (by decide)
      · rcases List.mem_cons.mp hi with rfl | hi
        · exact Nat.le_refl _
        · exact Nat.le_trans (hb i hi) (by decide)
    · simp at la ⊢; omega
    · simp at la; omega
  | two _ _ _ _ he _ _ _ =>
    subst he
    refine ⟨fun i hi => Nat.le_trans (hb i (List.mem_append_right _ hi)) (by decide), ?_, ?_⟩
    · simp at lb; omega
    · simp at lb; omega
theorem WdP.sep {R : Addr} {as bs : List Nat} {C : Addr} {x : List (Nat × Tok)} {cR : Nat} {olds : List Value} {src : List (Addr × Obj)} {r : List Nat} (p : WdP R as bs C x cR olds src (6 :: r)) (ha : ∀ i ∈ as, i ≤ 5) (hb : ∀ i ∈ bs, i ≤ 5) :
    r = bs ∧ x.map Prod.fst = as ∧ olds = [] ∧ src = [(R, listOf [Value.ref C].toArray cR)] := by
  cases p with
  | one q e hd ho hs =>
    cases q with
    | nil => exact ⟨by simpa using e, by simpa using hd, ho, hs⟩
    | cons j q =>
      simp at e
      have := ha j (by rw [← hd]; simp)
      omega
  | two _ _ _ _ he _ _ _ =>
    have := hb 6 (by rw [← he]; simp)
    omega
theorem WdP.next {R : Addr} {as bs : List Nat} {C : Addr} {x : List (Nat × Tok)} {cR : Nat} {olds : List Value} {src : List (Addr × Obj)} {i : Nat} {r : List Nat} (p : WdP R as bs C x cR olds src (i :: r)) (hi : i ≠ 6) (t : Tok) : WdP R as bs C (x ++ [(i, t)]) cR olds src r := by
  cases p with
  | one q e hd ho hs =>
    cases q with
    | nil => simp at e; exact absurd e.1 hi
    | cons j q =>
      simp at e
      exact .one q e.2 (by rw [← hd, e.1]; simp) ho hs
  | two r0 d c0 hd he ho hs ne => exact .two r0 d c0 hd (by rw [← he]; simp) ho hs ne
theorem wordsC (a1 a2 a3 b1 b2 b3 : Nat) (tx : Tok) (h1 : a1 ≤ 5) (h2 : a2 ≤ 5) (h3 : a3 ≤ 5) (h4 : b1 ≤ 5) (h5 : b2 ≤ 5) (h6 : b3 ≤ 5) :
    Clm w mean mg mb 99 2 [Value.str (cat [a1, a2, a3, 6, b1, b2, b3]) tx] Any (GivesW (word a1 a2 a3) (word b1 b2 b3)) := by
  unfold Clm
  w_top off
  k_fill
  intro dp un gd cn cs a ccd cl outer A₀ base h₀ L m s Q E B F X N T hk hd hu pre hret
  refine wpAny_call ?_
  k_dflt cell_enter
  rename_i g1 L1 hh FG1 F0 N0 B1 X1 T1 G1
  refine gE (by passes_own) fun E' pe => ?_
  refine gQ fun Q' hQ => ?_
  (k_steps; repeat' (((with_reducible refine held ?_); first | ((k_here; (with_reducible show wpAny _ _ (call (Value.ref 42) _ _) _ _ _); k_dflt (refine' Clm.use_int (addC _ _ _ _ _ _ _ _) ?k1 ?k2 ?k3 ?k4 ?k5 ?kK ?kd ?ku ?kp ?_; (case k1 => k_asm); (case k2 => k_asm); (case k3 => k_asm); (case k4 => k_asm); (case k5 => k_asm); (case kp => exact trivial); (case kK => first | exact rfl | assumption); (case kd => ktr_room); (case ku => ktr_units); intro _ _ _ _ _ _; (try dsimp only); (try k_fold); (try k_sweep)))) | ((k_here; (with_reducible show wpAny _ _ (call (Value.ref 91) _ _) _ _ _); k_dflt (refine' Clm.use_int (getitemC _ _ _ _ _ _ ?c1) ?k1 ?k2 ?k3 ?k4 ?k5 ?kK ?kd ?ku ?kp ?_; (case k1 => k_asm); (case k2 => k_asm); (case k3 => k_asm); (case k4 => k_asm); (case k5 => k_asm); (case kp => exact trivial); (case c1 => assumption); (case kK => first | exact rfl | assumption); (case kd => ktr_room); (case ku => ktr_units); intro _ _ _ _ _ _; (try dsimp only); (try k_fold); (try k_sweep)))) | ((k_here; (with_reducible show wpAny _ _ (call (Value.ref 84) _ _) _ _ _); k_dflt (refine' Clm.use (containsC _ _ _ _ _ _ ?c1) ?k1 ?k2 ?k3 ?k4 ?k5 ?kK ?kd ?ku ?kp ?_; (case k1 => k_asm); (case k2 => k_asm); (case k3 => k_asm); (case k4 => k_asm); (case k5 => k_asm); (case kp => exact trivial); (case c1 => first | assumption | exact Nat.le_of_ble_eq_true rfl); (case kK => first | exact rfl | assumption); (case kd => ktr_room); (case ku => ktr_units); intro _ _ _ _ _ _ o9; subst o9; (try dsimp only); (try k_fold); (try k_sweep)))) | ((k_here; (with_reducible show wpAny _ _ (call (Value.builtin _) [Value.str _ _, Value.ref _]) _ _ _); k_dflt (refine join_listW (by is_list) (by kct_strs) (by decide +kernel) (by with_unfolding_all exact Nat.le_of_ble_eq_true rfl) ?_); intro _ _)) | (((with_reducible show wpAny _ _ (subscriptTail (Expr.Name _ _) (Expr.Slice _ _ _ _) (Value.str _ _) (Value.ref _)) _ _ _); ((with_reducible rename Fr _ _ _ _ => sF'); (with_reducible rename News _ _ _ _ => sN'); first | (refine' tsl_sn (s := ⟨_, _, _, _, _⟩) ?e sF' sN' ?q1 ?q2 ?z ?_; (case q1 => with_unfolding_all rfl); (case q2 => intro _; with_unfolding_all rfl); (case e => (with_reducible assumption)); (case z => assumption); intro _ _ _ _ _) | (refine' tsl_ns (s := ⟨_, _, _, _, _⟩) ?e sF' sN' ?q1 ?q2 ?z ?_; (case q1 => with_unfolding_all rfl); (case q2 => intro _; with_unfolding_all rfl); (case e => first | (with_reducible assumption) | (with_reducible rfl)); (case z => assumption); intro _ _ _ _ _)))) | (((with_reducible show wpAny _ _ (PySem.truthy (Value.str _ _)) _ _ _); (first | (refine truF (by with_reducible assumption) ?_; intro _) | (refine truT (by with_reducible assumption) (by with_reducible assumption) ?_; intro _)); (try dsimp only)))); k_steps))
  rename_i r0 ha ne R hb lt hc F1 N1
  unfold Hold
  have la : ∀ i ∈ [a1, a2, a3], i ≤ 5 := by simp; exact ⟨h1, h2, h3⟩
  have lb : ∀ i ∈ [b1, b2, b3], i ≤ 5 := by simp; exact ⟨h4, h5, h6⟩
  refine whl_ind (fun n s' => WdI g1 L1 R [a1, a2, a3] [b1, b2, b3] s n s') ?_ 7 ?_
  · clear F1 N1
    rintro n s' ⟨h, tk, u, rem, tt, C, x, cc, cR, olds, src, rfl, F2, N2, mR, off, hn, ph⟩ ih
    refine whl_turn (by passes_own) ?_
    have hok := ph.ok la lb rfl rfl
    have hqok := hok.1
    have hxl : (rowV x).length ≤ 6 := by have := hok.2.2; simp [rowV]; omega
    have hql := hok.2.1
    clear hok
    cases rem with
    | nil =>
      have hc0 : (cat []).length = 0 := rfl
      clear ih
      cases ph with
      | one q e _ _ _ => exact absurd e (by simp)
      | two r1 d c0 hd1 he ho hs ne =>
        subst ho hs
        obtain ⟨t1, t2, t3, rfl⟩ := three_of hd1
        obtain ⟨t4, t5, t6, rfl⟩ := three_of (by simpa using he)
        simp only [rowV, List.map] at N2
        (k_steps; repeat' (((with_reducible refine held ?_); first | ((k_here; (with_reducible show wpAny _ _ (call (Value.ref 42) _ _) _ _ _); k_dflt (refine' Clm.use_int (addC _ _ _ _ _ _ _ _) ?k1 ?k2 ?k3 ?k4 ?k5 ?kK ?kd ?ku ?kp ?_; (case k1 => k_asm); (case k2 => k_asm); (case k3 => k_asm); (case k4 => k_asm); (case k5 => k_asm); (case kp => exact trivial); (case kK => first | exact rfl | assumption); (case kd => ktr_room); (case ku => ktr_units); intro _ _ _ _ _ _; (try dsimp only); (try k_fold); (try k_sweep)))) | ((k_here; (with_reducible show wpAny _ _ (call (Value.ref 91) _ _) _ _ _); k_dflt (refine' Clm.use_int (getitemC _ _ _ _ _ _ ?c1) ?k1 ?k2 ?k3 ?k4 ?k5 ?kK ?kd ?ku ?kp ?_; (case k1 => k_asm); (case k2 => k_asm); (case k3 => k_asm); (case k4 => k_asm); (case k5 => k_asm); (case kp => exact trivial); (case c1 => assumption); (case kK => first | exact rfl | assumption); (case kd => ktr_room); (case ku => ktr_units); intro _ _ _ _ _ _; (try dsimp only); (try k_fold); (try k_sweep)))) | ((k_here; (with_reducible show wpAny _ _ (call (Value.ref 84) _ _) _ _ _); k_dflt (refine' Clm.use (containsC _ _ _ _ _ _ ?c1) ?k1 ?k2 ?k3 ?k4 ?k5 ?kK ?kd ?ku ?kp ?_; (case k1 => k_asm); (case k2 => k_asm); (case k3 => k_asm); (case k4 => k_asm); (case k5 => k_asm); (case kp => exact trivial); (case c1 => first | assumption | exact Nat.le_of_ble_eq_true rfl); (case kK => first | exact rfl | assumption); (case kd => ktr_room); (case ku => ktr_units); intro _ _ _ _ _ _ o9; subst o9; (try dsimp only); (try k_fold); (try k_sweep)))) | ((k_here; (with_reducible show wpAny _ _ (call (Value.builtin _) [Value.str _ _, Value.ref _]) _ _ _); k_dflt (refine join_listW (by is_list) (by kct_strs) (by decide +kernel) (by with_unfolding_all exact Nat.le_of_ble_eq_true rfl) ?_); intro _ _)) | (((with_reducible show wpAny _ _ (subscriptTail (Expr.Name _ _) (Expr.Slice _ _ _ _) (Value.str _ _) (Value.ref _)) _ _ _); ((with_reducible rename Fr _ _ _ _ => sF'); (with_reducible rename News _ _ _ _ => sN'); first | (refine' tsl_sn (s := ⟨_, _, _, _, _⟩) ?e sF' sN' ?q1 ?q2 ?z ?_; (case q1 => with_unfolding_all rfl); (case q2 => intro _; with_unfolding_all rfl); (case e => (with_reducible assumption)); (case z => assumption); intro _ _ _ _ _) | (refine' tsl_ns (s := ⟨_, _, _, _, _⟩) ?e sF' sN' ?q1 ?q2 ?z ?_; (case q1 => with_unfolding_all rfl); (case q2 => intro _; with_unfolding_all rfl); (case e => first | (with_reducible assumption) | (with_reducible rfl)); (case z => assumption); intro _ _ _ _ _)))) | (((with_reducible show wpAny _ _ (PySem.truthy (Value.str _ _)) _ _ _); (first | (refine truF (by with_reducible assumption) ?_; intro _) | (refine truT (by with_reducible assumption) (by with_reducible assumption) ?_; intro _)); (try dsimp only)))); k_steps))
        with_reducible rename Fr _ _ _ _ => F5
        with_reducible rename News _ _ _ _ => N5
        refine hQ _ _ ?_
        (k_steps; repeat' (((with_reducible refine held ?_); first | ((k_here; (with_reducible show wpAny _ _ (call (Value.ref 42) _ _) _ _ _); k_dflt (refine' Clm.use_int (addC _ _ _ _ _ _ _ _) ?k1 ?k2 ?k3 ?k4 ?k5 ?kK ?kd ?ku ?kp ?_; (case k1 => k_asm); (case k2 => k_asm); (case k3 => k_asm); (case k4 => k_asm); (case k5 => k_asm); (case kp => exact trivial); (case kK => first | exact rfl | assumption); (case kd => ktr_room); (case ku => ktr_units); intro _ _ _ _ _ _; (try dsimp only); (try k_fold); (try k_sweep)))) | ((k_here; (with_reducible show wpAny _ _ (call (Value.ref 91) _ _) _ _ _); k_dflt (refine' Clm.use_int (getitemC _ _ _ _ _ _ ?c1) ?k1 ?k2 ?k3 ?k4 ?k5 ?kK ?kd ?ku ?kp ?_; (case k1 => k_asm); (case k2 => k_asm); (case k3 => k_asm); (case k4 => k_asm); (case k5 => k_asm); (case kp => exact trivial); (case c1 => assumption); (case kK => first | exact rfl | assumption); (case kd => ktr_room); (case ku => ktr_units); intro _ _ _ _ _ _; (try dsimp only); (try k_fold); (try k_sweep)))) | ((k_here; (with_reducible show wpAny _ _ (call (Value.ref 84) _ _) _ _ _); k_dflt (refine' Clm.use (containsC _ _ _ _ _ _ ?c1) ?k1 ?k2 ?k3 ?k4 ?k5 ?kK ?kd ?ku ?kp ?_; (case k1 => k_asm); (case k2 => k_asm); (case k3 => k_asm); (case k4 => k_asm); (case k5 => k_asm); (case kp => exact trivial); (case c1 => first | assumption | exact Nat.le_of_ble_eq_true rfl); (case kK => first | exact rfl | assumption); (case kd => ktr_room); (case ku => ktr_units); intro _ _ _ _ _ _ o9; subst o9; (try dsimp only); (try k_fold); (try k_sweep)))) | ((k_here; (with_reducible show wpAny _ _ (call (Value.builtin _) [Value.str _ _, Value.ref _]) _ _ _); k_dflt (refine join_listW (by is_list) (by kct_strs) (by decide +kernel) (by with_unfolding_all exact Nat.le_of_ble_eq_true rfl) ?_); intro _ _)) | (((with_reducible show wpAny _ _ (subscriptTail (Expr.Name _ _) (Expr.Slice _ _ _ _) (Value.str _ _) (Value.ref _)) _ _ _); ((with_reducible rename Fr _ _ _ _ => sF'); (with_reducible rename News _ _ _ _ => sN'); first | (refine' tsl_sn (s := ⟨_, _, _, _, _⟩) ?e sF' sN' ?q1 ?q2 ?z ?_; (case q1 => with_unfolding_all rfl); (case q2 => intro _; with_unfolding_all rfl); (case e => (with_reducible assumption)); (case z => assumption); intro _ _ _ _ _) | (refine' tsl_ns (s := ⟨_, _, _, _, _⟩) ?e sF' sN' ?q1 ?q2 ?z ?_; (case q1 => with_unfolding_all rfl); (case q2 => intro _; with_unfolding_all rfl); (case e => first | (with_reducible assumption) | (with_reducible rfl)); (case z => assumption); intro _ _ _ _ _)))) | (((with_reducible show wpAny _ _ (PySem.truthy (Value.str _ _)) _ _ _); (first | (refine truF (by with_reducible assumption) ?_; intro _) | (refine truT (by with_reducible assumption) (by with_reducible assumption) ?_; intro _)); (try dsimp only)))); k_steps))
        have hg := fresh_of G1 (N5 _ (.head _)).2.2
        have this := (N5 _ (.head _)).1
        rw [join_three, join_three] at this
        exact hret _ _ _ (kept_end G1 F5) ⟨_, _, _, _, rfl, hg, this⟩
    | cons i r =>
      have hi6 : i ≤ 6 := hqok i (.head _)
      have hrl : r.length ≤ 6 := by simpa using hql
      have hle' : (cat (i :: r)).length ≤ 14 := by exact Nat.le_trans (cat_le hqok) (Nat.mul_le_mul_left 2 (Nat.add_le_add_right hrl 1))
      have hzz : (cat (i :: r)).length ≤ sizeLine := Nat.le_trans hle' (by decide)
      have hcl := cat_len i r
      have hsz := sz_in hi6
      obtain ⟨ln, hln⟩ := Nat.exists_eq_add_of_le' (hcl ▸ Nat.le_trans hsz.1 (Nat.le_add_right _ _) : 1 ≤ (cat (i :: r)).length)
      have hl16 : ln ≤ 16 := Nat.le_trans (Nat.le_succ ln) (Nat.le_trans (Nat.le_of_eq hln.symm) (Nat.le_trans hle' (by decide)))
      have hsl : (sg i).length ≤ 1000 := Nat.le_trans (Nat.le_of_lt hsz.2) (by decide)
      have hsl2 : (Txt.slice (cat (i :: r)) none (some 2)).length ≤ 1000 := cat_short hqok hrl
      have mkA : MarkA := trivial
      (k_steps; repeat' (((with_reducible refine held ?_); first | ((k_here; (with_reducible show wpAny _ _ (call (Value.ref 42) _ _) _ _ _); k_dflt (refine' Clm.use_int (addC _ _ _ _ _ _ _ _) ?k1 ?k2 ?k3 ?k4 ?k5 ?kK ?kd ?ku ?kp ?_; (case k1 => k_asm); (case k2 => k_asm); (case k3 => k_asm); (case k4 => k_asm); (case k5 => k_asm); (case kp => exact trivial); (case kK => first | exact rfl | assumption); (case kd => ktr_room); (case ku => ktr_units); intro _ _ _ _ _ _; (try dsimp only); (try k_fold); (try k_sweep)))) | ((k_here; (with_reducible show wpAny _ _ (call (Value.ref 91) _ _) _ _ _); k_dflt (refine' Clm.use_int (getitemC _ _ _ _ _ _ ?c1) ?k1 ?k2 ?k3 ?k4 ?k5 ?kK ?kd ?ku ?kp ?_; (case k1 => k_asm); (case k2 => k_asm); (case k3 => k_asm); (case k4 => k_asm); (case k5 => k_asm); (case kp => exact trivial); (case c1 => assumption); (case kK => first | exact rfl | assumption); (case kd => ktr_room); (case ku => ktr_units); intro _ _ _ _ _ _; (try dsimp only); (try k_fold); (try k_sweep)))) | ((k_here; (with_reducible show wpAny _ _ (call (Value.ref 84) _ _) _ _ _); k_dflt (refine' Clm.use (containsC _ _ _ _ _ _ ?c1) ?k1 ?k2 ?k3 ?k4 ?k5 ?kK ?kd ?ku ?kp ?_; (case k1 => k_asm); (case k2 => k_asm); (case k3 => k_asm); (case k4 => k_asm); (case k5 => k_asm); (case kp => exact trivial); (case c1 => first | assumption | exact Nat.le_of_ble_eq_true rfl); (case kK => first | exact rfl | assumption); (case kd => ktr_room); (case ku => ktr_units); intro _ _ _ _ _ _ o9; subst o9; (try dsimp only); (try k_fold); (try k_sweep)))) | ((k_here; (with_reducible show wpAny _ _ (call (Value.builtin _) [Value.str _ _, Value.ref _]) _ _ _); k_dflt (refine join_listW (by is_list) (by kct_strs) (by decide +kernel) (by with_unfolding_all exact Nat.le_of_ble_eq_true rfl) ?_); intro _ _)) | (((with_reducible show wpAny _ _ (subscriptTail (Expr.Name _ _) (Expr.Slice _ _ _ _) (Value.str _ _) (Value.ref _)) _ _ _); ((with_reducible rename Fr _ _ _ _ => sF'); (with_reducible rename News _ _ _ _ => sN'); first | (refine' tsl_sn (s := ⟨_, _, _, _, _⟩) ?e sF' sN' ?q1 ?q2 ?z ?_; (case q1 => with_unfolding_all rfl); (case q2 => intro _; with_unfolding_all rfl); (case e => (with_reducible assumption)); (case z => assumption); intro _ _ _ _ _) | (refine' tsl_ns (s := ⟨_, _, _, _, _⟩) ?e sF' sN' ?q1 ?q2 ?z ?_; (case q1 => with_unfolding_all rfl); (case q2 => intro _; with_unfolding_all rfl); (case e => first | (with_reducible assumption) | (with_reducible rfl)); (case z => assumption); intro _ _ _ _ _)))) | (((with_reducible show wpAny _ _ (PySem.truthy (Value.str _ _)) _ _ _); (first | (refine truF (by with_reducible assumption) ?_; intro _) | (refine truT (by with_reducible assumption) (by with_reducible assumption) ?_; intro _)); (try dsimp only)))); k_steps))
      unfold Hold
      refine wpAny_mono (Q := fun f s' => Hold (f = .next ∧ WdS g1 L1 R i r tt ((C, listOf (rowV x).toArray cc) :: src) s s')) ?size ?rest fun _ _ e => e
      case size =>
        clear ih hQ hret ph
        with_reducible rename MarkA => mkA
        clear mkA
        by_cases hb : inK (Txt.slice (cat (i :: r)) none (some 2)) = true
        · obtain ⟨e1, e2⟩ := cat_two hqok hrl hb
          rw [e1] at hb
          (k_steps; repeat' (((with_reducible refine held ?_); first | ((k_here; (with_reducible show wpAny _ _ (call (Value.ref 42) _ _) _ _ _); k_dflt (refine' Clm.use_int (addC _ _ _ _ _ _ _ _) ?k1 ?k2 ?k3 ?k4 ?k5 ?kK ?kd ?ku ?kp ?_; (case k1 => k_asm); (case k2 => k_asm); (case k3 => k_asm); (case k4 => k_asm); (case k5 => k_asm); (case kp => exact trivial); (case kK => first | exact rfl | assumption); (case kd => ktr_room); (case ku => ktr_units); intro _ _ _ _ _ _; (try dsimp only); (try k_fold); (try k_sweep)))) | ((k_here; (with_reducible show wpAny _ _ (call (Value.ref 91) _ _) _ _ _); k_dflt (refine' Clm.use_int (getitemC _ _ _ _ _ _ ?c1) ?k1 ?k2 ?k3 ?k4 ?k5 ?kK ?kd ?ku ?kp ?_; (case k1 => k_asm); (case k2 => k_asm); (case k3 => k_asm); (case k4 => k_asm); (case k5 => k_asm); (case kp => exact trivial); (case c1 => assumption); (case kK => first | exact rfl | assumption); (case kd => ktr_room); (case ku => ktr_units); intro _ _ _ _ _ _; (try dsimp only); (try k_fold); (try k_sweep)))) | ((k_here; (with_reducible show wpAny _ _ (call (Value.ref 84) _ _) _ _ _); k_dflt (refine' Clm.use (containsC _ _ _ _ _ _ ?c1) ?k1 ?k2 ?k3 ?k4 ?k5 ?kK ?kd ?ku ?kp ?_; (case k1 => k_asm); (case k2 => k_asm); (case k3 => k_asm); (case k4 => k_asm); (case k5 => k_asm); (case kp => exact trivial); (case c1 => first | assumption | exact Nat.le_of_ble_eq_true rfl); (case kK => first | exact rfl | assumption); (case kd => ktr_room); (case ku => ktr_units); intro _ _ _ _ _ _ o9; subst o9; (try dsimp only); (try k_fold); (try k_sweep)))) | ((k_here; (with_reducible show wpAny _ _ (call (Value.builtin _) [Value.str _ _, Value.ref _]) _ _ _); k_dflt (refine join_listW (by is_list) (by kct_strs) (by decide +kernel) (by with_unfolding_all exact Nat.le_of_ble_eq_true rfl) ?_); intro _ _)) | (((with_reducible show wpAny _ _ (subscriptTail (Expr.Name _ _) (Expr.Slice _ _ _ _) (Value.str _ _) (Value.ref _)) _ _ _); ((with_reducible rename Fr _ _ _ _ => sF'); (with_reducible rename News _ _ _ _ => sN'); first | (refine' tsl_sn (s := ⟨_, _, _, _, _⟩) ?e sF' sN' ?q1 ?q2 ?z ?_; (case q1 => with_unfolding_all rfl); (case q2 => intro _; with_unfolding_all rfl); (case e => (with_reducible assumption)); (case z => assumption); intro _ _ _ _ _) | (refine' tsl_ns (s := ⟨_, _, _, _, _⟩) ?e sF' sN' ?q1 ?q2 ?z ?_; (case q1 => with_unfolding_all rfl); (case q2 => intro _; with_unfolding_all rfl); (case e => first | (with_reducible assumption) | (with_reducible rfl)); (case z => assumption); intro _ _ _ _ _)))) | (((with_reducible show wpAny _ _ (PySem.truthy (Value.str _ _)) _ _ _); (first | (refine truF (by with_reducible assumption) ?_; intro _) | (refine truT (by with_reducible assumption) (by with_reducible assumption) ?_; intro _)); (try dsimp only)))); k_steps))
          with_reducible rename Fr _ _ _ _ => F5
          with_reducible rename News _ _ _ _ => N5
          exact ⟨trivial, .mk _ _ _ _ _ rfl (know F5 ⟨rfl, rfl, rfl, trivial⟩) N5 e1 e2⟩
        · replace hb := Bool.eq_false_iff.mpr hb
          obtain ⟨e1, e2⟩ := cat_one hqok hrl hb
          (k_steps; repeat' (((with_reducible refine held ?_); first | ((k_here; (with_reducible show wpAny _ _ (call (Value.ref 42) _ _) _ _ _); k_dflt (refine' Clm.use_int (addC _ _ _ _ _ _ _ _) ?k1 ?k2 ?k3 ?k4 ?k5 ?kK ?kd ?ku ?kp ?_; (case k1 => k_asm); (case k2 => k_asm); (case k3 => k_asm); (case k4 => k_asm); (case k5 => k_asm); (case kp => exact trivial); (case kK => first | exact rfl | assumption); (case kd => ktr_room); (case ku => ktr_units); intro _ _ _ _ _ _; (try dsimp only); (try k_fold); (try k_sweep)))) | ((k_here; (with_reducible show wpAny _ _ (call (Value.ref 91) _ _) _ _ _); k_dflt (refine' Clm.use_int (getitemC _ _ _ _ _ _ ?c1) ?k1 ?k2 ?k3 ?k4 ?k5 ?kK ?kd ?ku ?kp ?_; (case k1 => k_asm); (case k2 => k_asm); (case k3 => k_asm); (case k4 => k_asm); (case k5 => k_asm); (case kp => exact trivial); (case c1 => assumption); (case kK => first | exact rfl | assumption); (case kd => ktr_room); (case ku => ktr_units); intro _ _ _ _ _ _; (try dsimp only); (try k_fold); (try k_sweep)))) | ((k_here; (with_reducible show wpAny _ _ (call (Value.ref 84) _ _) _ _ _); k_dflt (refine' Clm.use (containsC _ _ _ _ _ _ ?c1) ?k1 ?k2 ?k3 ?k4 ?k5 ?kK ?kd ?ku ?kp ?_; (case k1 => k_asm); (case k2 => k_asm); (case k3 => k_asm); (case k4 => k_asm); (case k5 => k_asm); (case kp => exact trivial); (case c1 => first | assumption | exact Nat.le_of_ble_eq_true rfl); (case kK => first | exact rfl | assumption); (case kd => ktr_room); (case ku => ktr_units); intro _ _ _ _ _ _ o9; subst o9; (try dsimp only); (try k_fold); (try k_sweep)))) | ((k_here; (with_reducible show wpAny _ _ (call (Value.builtin _) [Value.str _ _, Value.ref _]) _ _ _); k_dflt (refine join_listW (by is_list) (by kct_strs) (by decide +kernel) (by with_unfolding_all exact Nat.le_of_ble_eq_true rfl) ?_); intro _ _)) | (((with_reducible show wpAny _ _ (subscriptTail (Expr.Name _ _) (Expr.Slice _ _ _ _) (Value.str _ _) (Value.ref _)) _ _ _); ((with_reducible rename Fr _ _ _ _ => sF'); (with_reducible rename News _ _ _ _ => sN'); first | (refine' tsl_sn (s := ⟨_, _, _, _, _⟩) ?e sF' sN' ?q1 ?q2 ?z ?_; (case q1 => with_unfolding_all rfl); (case q2 => intro _; with_unfolding_all rfl); (case e => (with_reducible assumption)); (case z => assumption); intro _ _ _ _ _) | (refine' tsl_ns (s := ⟨_, _, _, _, _⟩) ?e sF' sN' ?q1 ?q2 ?z ?_; (case q1 => with_unfolding_all rfl); (case q2 => intro _; with_unfolding_all rfl); (case e => first | (with_reducible assumption) | (with_reducible rfl)); (case z => assumption); intro _ _ _ _ _)))) | (((with_reducible show wpAny _ _ (PySem.truthy (Value.str _ _)) _ _ _); (first | (refine truF (by with_reducible assumption) ?_; intro _) | (refine truT (by with_reducible assumption) (by with_reducible assumption) ?_; intro _)); (try dsimp only)))); k_steps))
          with_reducible rename Fr _ _ _ _ => F5
          with_reducible rename News _ _ _ _ => N5
          exact ⟨trivial, .mk _ _ _ _ _ rfl (know F5 ⟨rfl, rfl, rfl, trivial⟩) N5 e1 e2⟩
      case rest =>
      clear F2 N2 hsl2
      with_reducible rename MarkA => mkA
      clear mkA
      rintro f s' ⟨rfl, h3, tk3, u3, z, tz, rfl, F2, N2, e1, e2⟩
      by_cases h6 : i = 6
      · subst h6
        have hk1 : (kd 6 == 12) = true := rfl
        obtain ⟨rfl, hd1, rfl, rfl⟩ := ph.sep la lb
        have n1 : @Ne Nat R C := off _ (.head _)
        have n2 : @Ne Nat C R := n1.symm
        clear ph off mR
        (k_steps; repeat' (((with_reducible refine held ?_); first | ((k_here; (with_reducible show wpAny _ _ (call (Value.ref 42) _ _) _ _ _); k_dflt (refine' Clm.use_int (addC _ _ _ _ _ _ _ _) ?k1 ?k2 ?k3 ?k4 ?k5 ?kK ?kd ?ku ?kp ?_; (case k1 => k_asm); (case k2 => k_asm); (case k3 => k_asm); (case k4 => k_asm); (case k5 => k_asm); (case kp => exact trivial); (case kK => first | exact rfl | assumption); (case kd => ktr_room); (case ku => ktr_units); intro _ _ _ _ _ _; (try dsimp only); (try k_fold); (try k_sweep)))) | ((k_here; (with_reducible show wpAny _ _ (call (Value.ref 91) _ _) _ _ _); k_dflt (refine' Clm.use_int (getitemC _ _ _ _ _ _ ?c1) ?k1 ?k2 ?k3 ?k4 ?k5 ?kK ?kd ?ku ?kp ?_; (case k1 => k_asm); (case k2 => k_asm); (case k3 => k_asm); (case k4 => k_asm); (case k5 => k_asm); (case kp => exact trivial); (case c1 => assumption); (case kK => first | exact rfl | assumption); (case kd => ktr_room); (case ku => ktr_units); intro _ _ _ _ _ _; (try dsimp only); (try k_fold); (try k_sweep)))) | ((k_here; (with_reducible show wpAny _ _ (call (Value.ref 84) _ _) _ _ _); k_dflt (refine' Clm.use (containsC _ _ _ _ _ _ ?c1) ?k1 ?k2 ?k3 ?k4 ?k5 ?kK ?kd ?ku ?kp ?_; (case k1 => k_asm); (case k2 => k_asm); (case k3 => k_asm); (case k4 => k_asm); (case k5 => k_asm); (case kp => exact trivial); (case c1 => first | assumption | exact Nat.le_of_ble_eq_true rfl); (case kK => first | exact rfl | assumption); (case kd => ktr_room); (case ku => ktr_units); intro _ _ _ _ _ _ o9; subst o9; (try dsimp only); (try k_fold); (try k_sweep)))) | ((k_here; (with_reducible show wpAny _ _ (call (Value.builtin _) [Value.str _ _, Value.ref _]) _ _ _); k_dflt (refine join_listW (by is_list) (by kct_strs) (by decide +kernel) (by with_unfolding_all exact Nat.le_of_ble_eq_true rfl) ?_); intro _ _)) | (((with_reducible show wpAny _ _ (subscriptTail (Expr.Name _ _) (Expr.Slice _ _ _ _) (Value.str _ _) (Value.ref _)) _ _ _); ((with_reducible rename Fr _ _ _ _ => sF'); (with_reducible rename News _ _ _ _ => sN'); first | (refine' tsl_sn (s := ⟨_, _, _, _, _⟩) ?e sF' sN' ?q1 ?q2 ?z ?_; (case q1 => with_unfolding_all rfl); (case q2 => intro _; with_unfolding_all rfl); (case e => (with_reducible assumption)); (case z => assumption); intro _ _ _ _ _) | (refine' tsl_ns (s := ⟨_, _, _, _, _⟩) ?e sF' sN' ?q1 ?q2 ?z ?_; (case q1 => with_unfolding_all rfl); (case q2 => intro _; with_unfolding_all rfl); (case e => first | (with_reducible assumption) | (with_reducible rfl)); (case z => assumption); intro _ _ _ _ _)))) | (((with_reducible show wpAny _ _ (PySem.truthy (Value.str _ _)) _ _ _); (first | (refine truF (by with_reducible assumption) ?_; intro _) | (refine truT (by with_reducible assumption) (by with_reducible assumption) ?_; intro _)); (try dsimp only)))); k_steps))
        unfold Hold
        with_reducible rename Fr _ _ _ _ => F5
        with_reducible rename News _ _ _ _ => N5
        with_reducible rename _ < _ ∧ _ < _ => l1
        simp only [List.push_toArray, List.cons_append, List.nil_append] at N5
        exact ih _ _ (by rw [hn]; simp) (.mk _ _ _ [b1, b2, b3] _ _ [] _ _ [Value.ref C] _ rfl (know F5 ⟨rfl, rfl, trivial⟩) (news_pick [0, 2, 1] N5) (.head _) (by
          intro p hp
          rcases List.mem_cons.mp hp with rfl | hp
          · exact Nat.ne_of_lt l1.2
          · rw [List.mem_singleton.mp hp]
            exact Nat.ne_of_lt l1.1) rfl (.two C x cc hd1 rfl rfl rfl n2))
      · have hi : i ≤ 5 := Nat.le_of_lt_succ (Nat.lt_of_le_of_ne hi6 h6)
        have hkd : (kd i == 12) = false ∧ 12 ≤ kd i ∧ kd i ≤ 51 := (by decide : ∀ i < 6, (kd i == 12) = false ∧ 12 ≤ kd i ∧ kd i ≤ 51) i (Nat.lt_succ_of_le hi)
        have hk1 := hkd.1
        have hk2 := hkd.2.1
        have hk3 := hkd.2.2
        have nxt := ph.next h6
        clear hkd ph
        (k_steps; repeat' (((with_reducible refine held ?_); first | ((k_here; (with_reducible show wpAny _ _ (call (Value.ref 42) _ _) _ _ _); k_dflt (refine' Clm.use_int (addC _ _ _ _ _ _ _ _) ?k1 ?k2 ?k3 ?k4 ?k5 ?kK ?kd ?ku ?kp ?_; (case k1 => k_asm); (case k2 => k_asm); (case k3 => k_asm); (case k4 => k_asm); (case k5 => k_asm); (case kp => exact trivial); (case kK => first | exact rfl | assumption); (case kd => ktr_room); (case ku => ktr_units); intro _ _ _ _ _ _; (try dsimp only); (try k_fold); (try k_sweep)))) | ((k_here; (with_reducible show wpAny _ _ (call (Value.ref 91) _ _) _ _ _); k_dflt (refine' Clm.use_int (getitemC _ _ _ _ _ _ ?c1) ?k1 ?k2 ?k3 ?k4 ?k5 ?kK ?kd ?ku ?kp ?_; (case k1 => k_asm); (case k2 => k_asm); (case k3 => k_asm); (case k4 => k_asm); (case k5 => k_asm); (case kp => exact trivial); (case c1 => assumption); (case kK => first | exact rfl | assumption); (case kd => ktr_room); (case ku => ktr_units); intro _ _ _ _ _ _; (try dsimp only); (try k_fold); (try k_sweep)))) | ((k_here; (with_reducible show wpAny _ _ (call (Value.ref 84) _ _) _ _ _); k_dflt (refine' Clm.use (containsC _ _ _ _ _ _ ?c1) ?k1 ?k2 ?k3 ?k4 ?k5 ?kK ?kd ?ku ?kp ?_; (case k1 => k_asm); (case k2 => k_asm); (case k3 => k_asm); (case k4 => k_asm); (case k5 => k_asm); (case kp => exact trivial); (case c1 => first | assumption | exact Nat.le_of_ble_eq_true rfl); (case kK => first | exact rfl | assumption); (case kd => ktr_room); (case ku => ktr_units); intro _ _ _ _ _ _ o9; subst o9; (try dsimp only); (try k_fold); (try k_sweep)))) | ((k_here; (with_reducible show wpAny _ _ (call (Value.builtin _) [Value.str _ _, Value.ref _]) _ _ _); k_dflt (refine join_listW (by is_list) (by kct_strs) (by decide +kernel) (by with_unfolding_all exact Nat.le_of_ble_eq_true rfl) ?_); intro _ _)) | (((with_reducible show wpAny _ _ (subscriptTail (Expr.Name _ _) (Expr.Slice _ _ _ _) (Value.str _ _) (Value.ref _)) _ _ _); ((with_reducible rename Fr _ _ _ _ => sF'); (with_reducible rename News _ _ _ _ => sN'); first | (refine' tsl_sn (s := ⟨_, _, _, _, _⟩) ?e sF' sN' ?q1 ?q2 ?z ?_; (case q1 => with_unfolding_all rfl); (case q2 => intro _; with_unfolding_all rfl); (case e => (with_reducible assumption)); (case z => assumption); intro _ _ _ _ _) | (refine' tsl_ns (s := ⟨_, _, _, _, _⟩) ?e sF' sN' ?q1 ?q2 ?z ?_; (case q1 => with_unfolding_all rfl); (case q2 => intro _; with_unfolding_all rfl); (case e => first | (with_reducible assumption) | (with_reducible rfl)); (case z => assumption); intro _ _ _ _ _)))) | (((with_reducible show wpAny _ _ (PySem.truthy (Value.str _ _)) _ _ _); (first | (refine truF (by with_reducible assumption) ?_; intro _) | (refine truT (by with_reducible assumption) (by with_reducible assumption) ?_; intro _)); (try dsimp only)))); k_steps))
        k_here
        (with_reducible rename News _ _ _ _ => sN')
        k_dflt (refine' it_neg1 _ sN' (.tail _ (by assumption)) ?ys ?_)
        case ys => with_unfolding_all rfl
        (k_steps; repeat' (((with_reducible refine held ?_); first | ((k_here; (with_reducible show wpAny _ _ (call (Value.ref 42) _ _) _ _ _); k_dflt (refine' Clm.use_int (addC _ _ _ _ _ _ _ _) ?k1 ?k2 ?k3 ?k4 ?k5 ?kK ?kd ?ku ?kp ?_; (case k1 => k_asm); (case k2 => k_asm); (case k3 => k_asm); (case k4 => k_asm); (case k5 => k_asm); (case kp => exact trivial); (case kK => first | exact rfl | assumption); (case kd => ktr_room); (case ku => ktr_units); intro _ _ _ _ _ _; (try dsimp only); (try k_fold); (try k_sweep)))) | ((k_here; (with_reducible show wpAny _ _ (call (Value.ref 91) _ _) _ _ _); k_dflt (refine' Clm.use_int (getitemC _ _ _ _ _ _ ?c1) ?k1 ?k2 ?k3 ?k4 ?k5 ?kK ?kd ?ku ?kp ?_; (case k1 => k_asm); (case k2 => k_asm); (case k3 => k_asm); (case k4 => k_asm); (case k5 => k_asm); (case kp => exact trivial); (case c1 => assumption); (case kK => first | exact rfl | assumption); (case kd => ktr_room); (case ku => ktr_units); intro _ _ _ _ _ _; (try dsimp only); (try k_fold); (try k_sweep)))) | ((k_here; (with_reducible show wpAny _ _ (call (Value.ref 84) _ _) _ _ _); k_dflt (refine' Clm.use (containsC _ _ _ _ _ _ ?c1) ?k1 ?k2 ?k3 ?k4 ?k5 ?kK ?kd ?ku ?kp ?_; (case k1 => k_asm); (case k2 => k_asm); (case k3 => k_asm); (case k4 => k_asm); (case k5 => k_asm); (case kp => exact trivial); (case c1 => first | assumption | exact Nat.le_of_ble_eq_true rfl); (case kK => first | exact rfl | assumption); (case kd => ktr_room); (case ku => ktr_units); intro _ _ _ _ _ _ o9; subst o9; (try dsimp only); (try k_fold); (try k_sweep)))) | ((k_here; (with_reducible show wpAny _ _ (call (Value.builtin _) [Value.str _ _, Value.ref _]) _ _ _); k_dflt (refine join_listW (by is_list) (by kct_strs) (by decide +kernel) (by with_unfolding_all exact Nat.le_of_ble_eq_true rfl) ?_); intro _ _)) | (((with_reducible show wpAny _ _ (subscriptTail (Expr.Name _ _) (Expr.Slice _ _ _ _) (Value.str _ _) (Value.ref _)) _ _ _); ((with_reducible rename Fr _ _ _ _ => sF'); (with_reducible rename News _ _ _ _ => sN'); first | (refine' tsl_sn (s := ⟨_, _, _, _, _⟩) ?e sF' sN' ?q1 ?q2 ?z ?_; (case q1 => with_unfolding_all rfl); (case q2 => intro _; with_unfolding_all rfl); (case e => (with_reducible assumption)); (case z => assumption); intro _ _ _ _ _) | (refine' tsl_ns (s := ⟨_, _, _, _, _⟩) ?e sF' sN' ?q1 ?q2 ?z ?_; (case q1 => with_unfolding_all rfl); (case q2 => intro _; with_unfolding_all rfl); (case e => first | (with_reducible assumption) | (with_reducible rfl)); (case z => assumption); intro _ _ _ _ _)))) | (((with_reducible show wpAny _ _ (PySem.truthy (Value.str _ _)) _ _ _); (first | (refine truF (by with_reducible assumption) ?_; intro _) | (refine truT (by with_reducible assumption) (by with_reducible assumption) ?_; intro _)); (try dsimp only)))); k_steps))
        unfold Hold
        with_reducible rename Fr _ _ _ _ => F5
        with_reducible rename News _ _ _ _ => N5
        exact ih r.length _ (by rw [hn]; simp) (.mk _ _ _ r _ C (x ++ [(i, _)]) _ _ olds src rfl (know F5 ⟨rfl, rfl, trivial⟩) (by rw [← rowV_add]; exact N5) mR off rfl (nxt _))
  · have off : ∀ p ∈ [(R, listOf [Value.ref r0].toArray 0)], p.1 ≠ r0 := by
      intro p hp
      rw [List.mem_singleton.mp hp]
      exact Ne.symm (Nat.ne_of_lt lt)
    exact .mk _ _ _ _ _ r0 [] _ _ [] _ rfl (know F1 ⟨rfl, rfl, trivial⟩) (news_pick [1, 0] N1) (.head _) off rfl (.one _ rfl rfl rfl rfl)
end
end Mine
end
local macro_rules | `(tactic| walk_at "nokey") => `(tactic| fail)
local macro_rules | `(tactic| walk_at "nokey") => `(tactic| fail)
local macro_rules | `(tactic| walk_at "nokey") => `(tactic| fail)
local macro_rules | `(tactic| walk_at "nokey") => `(tactic| fail)
section
open PySem PySem.W PyProof.Rows PySem.Calls PySem.Spec
set_option maxRecDepth 100000
set_option maxHeartbeats 8000000
set_option linter.unusedVariables false
set_option linter.unusedSimpArgs false
namespace Mine
section
variable (w : World) (mean : ExcName → Option Value) (mg mb : PySem.Str → Option Value)
noncomputable def costF (x y : Int) : Int := if x = y then 0 else if Int.fdiv x 2 = Int.fdiv y 2 then 1 else 2
theorem costC (x y : Int) (tx ty : Tok) : Clm w mean mg mb 127 1 [Value.int x tx, Value.int y ty] Any (Gives (costF x y)) := by
  unfold Clm
  w_top off
  k_fill
  intro dp un gd cn cs a ccd cl outer A₀ base h₀ L m s Q E B F X N T hk hd hu pre hret
  refine wpAny_call ?_
  k_dflt cell_enter
  k_steps
  all_goals (refine ret_int hret (kept_end (by assumption) (by k_asm)) ?_)
  all_goals (unfold costF; simp_all)
end
end Mine
end
section
open PySem PySem.W PyProof.Rows PySem.Calls PySem.Spec PyProof.V
set_option linter.unusedVariables false
namespace Mine
section
variable {prog : Program} {w : World} {A₀ A : Around} {E : Value → Shared → Prop} {s : Shared} {base h₀ : Heap} {outer : List Env} {L : Addr} {m : PySem.Str → Option Value} {env : Env} {news : List (Addr × Obj)}
/-- into a def with cells; what stood and is no news stands in the new ground -/
theorem code_defCG {K : Frag} {p : Program} {loose : List PySem.Str} {mean : ExcName → Option Value} {mg mb : PySem.Str → Option Value} {R : Result → Shared → Prop} {name qual : PySem.Str} {params : Arguments} {body : List Stmt} {scope : Scope} {dV kV doc pm cdv ct oc : Value} {an od : Option Addr} {osl : Array (Option Value)} {f : Addr} {args : Args} {binds : List (PySem.Str × Value)}
    (B : Below A₀ base outer h₀) (F : Fr h₀ L s.heap m) (X₀ : K.In h₀) (N : News h₀ L s.heap news) (T : Top p loose mean mg mb h₀) (hA : A.frames = some (env :: outer)) (hf : env.frame = some L) (hke : env.scope.kind = .function)
    (ho : K.lookup f = some ⟨oc, od, .func (fnOf name qual params body scope dV kV doc pm an cdv ct), osl⟩) (hcd : codeIn K cdv qual = true) (hroom : A.depth < recursionLimit)
    (hbind : BindsTo s (fnOf name qual params body scope dV kV doc pm an cdv ct) args binds) (hkind : (binds.all fun y => scope.names.lookup y.1 == some .local || scope.names.lookup y.1 == some .cell) = true)
    (hnd : ((cellsFrom 0 scope.names []).map (·.1)).Nodup)
    (h : ∀ g L' h₁ tk cells, Fr h₀ L g m → Fr g L' h₁ (bindL (envOfC qual scope L' f cdv).kindOf binds fun _ => none) → News g L' h₁ (cells ++ news) →
      CellsAre (bindC (envOfC qual scope L' f cdv).kindOf binds fun _ => none) (cellsFrom (L' + 1) scope.names []) cells → Below A base (env :: outer) g → K.In g → Top p loose mean mg mb g → (∀ p ∈ news, p.1 < L') → GSub s.heap g (news.map (·.1)) →
      wpAny (model prog w) (A.deeper (envOfC qual scope L' f cdv)) (execs body (envOfC qual scope L' f cdv))
        (fun fl s' => LeaveK h₀ L m g R (match fl with | .ret v => v | _ => .none) s')
        (fun e s' => wpAny (model prog w) (A.deeper (envOfC qual scope L' f cdv)) (leaving (envOfC qual scope L' f cdv) e) (fun _ s'' => R (.error e) s'') (fun e' s'' => R (.error e') s'') s')
        { s with heap := h₁, toks := tk })
    (hco : scope.isCoroutine = false) (hgen : scope.isGenerator = false) (hk : scope.kind = .function) : codeAny (model prog w) A (.call (.ref f) args) R s := by
  obtain ⟨FG, BG, st, lv⟩ := groundX (R := R) B F N hA hf hke
  have gone : ∀ b, s.heap.get? b = none → (hideAll s.heap (news.map (·.1))).get? b = none := fun b e => by
    cases q : (hideAll s.heap (news.map (·.1))).get? b with
    | none => rfl
    | some o => exact absurd ((of_hideAll _ q).symm.trans e) (by simp)
  have code := codeRec_of (X₀.keeps F.keep) hcd
  refine codeAny_call_function hroom ((X₀.keeps F.keep) _ _ ho) rfl hco hgen rfl code (hbind _ _ _ _ (wpAny_newFunctionEnv_cells hk (kindsX hkind _) fun env' he s' x => ?_))
  cases he
  obtain ⟨g', tk, rfl, _⟩ := x.done
  have up := x.toInCall.keep
  have names := cellsFrom_names scope.names 0 (s.heap.objs.size + 1) [] [] rfl ▸ hnd
  obtain ⟨cells, new, are⟩ := Cl.news (h₀ := s.heap) (Nat.le_refl _) fun n c hm => ⟨x.cell n c (lookup_of_mem_nodup names hm), x.above n c hm⟩
  have frame : Fr (hideAll s.heap (news.map (·.1))) s.heap.objs.size g' (bindL (envOfC qual scope s.heap.objs.size f cdv).kindOf binds fun _ => none) :=
    ⟨x.toInCall.ns, fun b o e => up b o (of_hideAll _ e), Nat.le_of_eq (hideAll_size _ _)⟩
  have old : ∀ p ∈ news, p.1 < s.heap.objs.size := fun p hp => Heap.lt_size (N p hp).1
  have ledger : News (hideAll s.heap (news.map (·.1))) s.heap.objs.size g' (cells ++ news) := fun p hp => (List.mem_append.mp hp).elim
    (fun hc => ⟨(new p hc).1, (new p hc).2.1, gone _ (new p hc).2.2⟩) fun hn => ⟨up _ _ (N p hn).1, Nat.ne_of_lt (old p hn), hideAll_none _ (List.mem_map_of_mem hn)⟩
  have body := h _ _ g' tk cells FG frame ledger are BG (X₀.keeps st) (T.keeps st) old fun b o e n => hideAll_get _ e n
  exact ⟨(T.nolimit.keeps F.keep).keeps up, codeAny_func (wpAny_mono body (fun fl s' => lv _ _) fun _ _ y => y)⟩
end
end Mine
end
section
open PySem PySem.W PyProof.Rows PySem.Calls PySem.Spec PyProof.V PySem.SeqAt
set_option linter.unusedVariables false
namespace Mine
section
variable {prog : Program} {w : World} {A : Around} {E : Value → Shared → Prop} {s : Shared}
theorem eq_pairs {l b : Addr} {x y x' y' : Int} {t u t' u' : Tok} {k : Bool} {Q : Value → Shared → Prop} (hl : IsTup s.heap l #[.int x t, .int y u]) (hb : IsTup s.heap b #[.int x' t', .int y' u']) (hu : A.units < cLine)
    (e : ((x == x') && (y == y')) = k) (h : Q (.bool k) s) : wpAny (model prog w) A (compareOp .Eq (.ref l) (.ref b)) Q E s := by
  refine eq_tupleAt (e := fun j => if j = 0 then x == x' else y == y') hl hb hu ?_ ?_
  · intro j h1 h2
    have : j = 0 ∨ j = 1 := (by decide : ∀ j < 2, j = 0 ∨ j = 1) j (by simpa using h1)
    rcases this with rfl | rfl
    · exact EqAt.int_int _ _ _ _
    · exact EqAt.int_int _ _ _ _
  · subst e
    simpa [List.range, List.range.loop] using h
end
end Mine
end
section
open PySem PySem.W PyProof.Rows PySem.Calls PySem.Spec PyProof.V PySem.SeqAt PyProof.Rows.LCg
set_option linter.unusedVariables false
namespace Mine
section
variable {prog : Program} {w : World} {A : Around} {E : Value → Shared → Prop} {s : Shared}
theorem iadd_lists {W D : Addr} {xs ys : Array Value} {n k : Nat} {Q : Value → Shared → Prop} (hw : s.heap.get? W = some { cls := .type "list", data := .seq xs n }) (hd : s.heap.get? D = some { cls := .type "list", data := .seq ys k })
    (hsz : xs.size + ys.size ≤ 1000)
    (h : ∀ h' n', Heap.SameBut W s.heap h' → h'.get? W = some { cls := .type "list", data := .seq (xs ++ ys) n' } → Q (.ref W) { s with heap := h' }) :
    wpAny (model prog w) A (inplaceOp .Add (.ref W) (.ref D)) Q E s := by
  have ha : s.TypeIs (.ref W) "list" := ⟨_, hw, rfl⟩
  have hb : s.TypeIs (.ref D) "list" := ⟨_, hd, rfl⟩
  have hfill : fillsNumberSlot (.type "list") "add" = pure false := PySem.fillsNumberSlot_seq PySem.F.slot_list_add.lookup (by decide +kernel) (r := none) (by rw [typeLookup_type, builtinLookup_eq_fast]; kernel_rfl) rfl
  unfold inplaceOp
  refine wpAny_holding ?_
  have hsi : seqSlot? (.type "list") (dunderI "add") = pure (some (.builtin "list.__iadd__")) := PySem.seqSlot_of PySem.F.slot_list_iadd.lookup (by decide +kernel)
  have hfi : fillsInplaceSlot (.type "list") "add" (Operator.Add == .Add) = pure false := by
    unfold fillsInplaceSlot
    show (typeLookup (.type "list") (dunderI "add") >>= fun fi => pure (fi.isSome && !isSeqSlot fi)) = pure false
    rw [PySem.F.slot_list_iadd.lookup, pure_bind]
    have : isSeqSlot (some (.builtin "list.__iadd__")) = true := by decide +kernel
    rw [this]; rfl
  refine wpAny_bind (wpAny_typeOf ha (wpAny_bind (wpAny_of_eq hfi ?_)))
  show wpAny _ A (if false = true then _ else _) Q E s
  rw [if_neg Bool.false_ne_true]
  refine wpAny_bind (wpAny_binaryOp1_none (nm := "add") ha hb hfill ?_)
  refine wpAny_bind (wpAny_of_eq hsi ?_)
  refine wpAny_bind (wpAny_rule ?_)
  refine PySem.call_meets PySem.F.slot_list_iadd ha PySem.F.entry_list_iadd (PySem.F.args_list_iadd_2 _ _) (AutoSeq1.list___iadd___list_list_0 W xs n D ys k ?_ ?_ ?_) ⟨hw, hd, ?_⟩
  · have : Builtin.List.listTooLong (xs.size + ys.size) = false := by
      unfold Builtin.List.listTooLong
      exact decide_eq_false (Nat.not_lt.mpr (Nat.le_trans hsz (show 1000 ≤ sizeLine by decide)))
    rw [this, Bool.and_false]; exact Bool.false_ne_true
  · exact Nat.le_trans (by omega) (show 1000 ≤ sizeLine by decide)
  · exact Nat.le_trans hsz (show 1000 ≤ sizeLine + 1 by decide)
  · refine h _ (if (xs ++ ys).size == xs.size then n else n + 1) (Heap.SameBut.update ..) ?_
    rw [Heap.get?_update_self _ hw (by rfl)]
    rfl
end
end Mine
end
section
open PySem PySem.W PyProof.Rows PySem.Calls PySem.Spec PyProof.V PySem.SeqAt PyProof.Rows.LCg
set_option linter.unusedVariables false
namespace Mine
/-- the values are tuples of two ints, none of them at a bad address -/
inductive PA (h : Heap) (bad : Addr → Prop) : List Value → List (Int × Int) → Prop
  | nil : PA h bad [] []
  | cons {T : Addr} {p q : Int} {t u : Tok} {vs : List Value} {L : List (Int × Int)} (off : ¬ bad T) (ht : IsTup h T #[.int p t, .int q u]) (r : PA h bad vs L) : PA h bad (.ref T :: vs) ((p, q) :: L)
theorem PA.mono {h h' : Heap} {bad bad' : Addr → Prop} {vs : List Value} {L : List (Int × Int)} (x : PA h bad vs L) (hk : ∀ b o, ¬ bad b → h.get? b = some o → h'.get? b = some o) (hb : ∀ b, bad' b → bad b) : PA h' bad' vs L := by
  induction x with
  | nil => exact .nil
  | cons off ht r ih => exact .cons (fun m => off (hb _ m)) (by obtain ⟨o, e, r⟩ := ht; exact ⟨o, hk _ _ off e, r⟩) ih
theorem PA.keeps {h h' : Heap} {vs : List Value} {L : List (Int × Int)} {bad : Addr → Prop} (x : PA h bad vs L) (k : Kept h h') : PA h' bad vs L := x.mono (fun b o _ e => k b o e) fun _ m => m
theorem PA.append {h : Heap} {bad : Addr → Prop} {vs vs' : List Value} {L L' : List (Int × Int)} (x : PA h bad vs L) (y : PA h bad vs' L') : PA h bad (vs ++ vs') (L ++ L') := by
  induction x with
  | nil => exact y
  | cons off ht r ih => exact .cons off ht ih
theorem PA.length {h : Heap} {bad : Addr → Prop} {vs : List Value} {L : List (Int × Int)} (x : PA h bad vs L) : vs.length = L.length := by
  induction x with
  | nil => rfl
  | cons off ht r ih => simp [ih]
theorem PA.get {h : Heap} {bad : Addr → Prop} {vs : List Value} {L : List (Int × Int)} (x : PA h bad vs L) : ∀ {i : Nat} (hi : i < vs.length), ∃ T p q t u, vs[i]? = some (.ref T) ∧ L[i]? = some (p, q) ∧ ¬ bad T ∧ IsTup h T #[.int p t, .int q u] := by
  induction x with
  | nil => intro i hi; exact absurd hi (Nat.not_lt_zero _)
  | @cons T p q t u vs L off ht r ih =>
    intro i hi
    cases i with
    | zero => exact ⟨T, p, q, t, u, rfl, rfl, off, ht⟩
    | succ i => exact ih (Nat.lt_of_succ_lt_succ hi)
/-- the tuples as a ledger -/
inductive PO (ex : List (Addr × Obj)) : List Value → List (Int × Int) → Prop
  | nil : PO ex [] []
  | cons {T : Addr} {o : Obj} {p q : Int} {t u : Tok} {n : Nat} {vs : List Value} {L : List (Int × Int)} (hm : (T, o) ∈ ex) (hc : o.cls = .type "tuple") (hd : o.data = .seq #[.int p t, .int q u] n) (r : PO ex vs L) : PO ex (.ref T :: vs) ((p, q) :: L)
theorem PO.more {ex ex' : List (Addr × Obj)} {vs : List Value} {L : List (Int × Int)} (x : PO ex vs L) (h : ∀ p ∈ ex, p ∈ ex') : PO ex' vs L := by
  induction x with
  | nil => exact .nil
  | cons hm hc hd r ih => exact .cons (h _ hm) hc hd ih
theorem PO.append {ex : List (Addr × Obj)} {vs vs' : List Value} {L L' : List (Int × Int)} (x : PO ex vs L) (y : PO ex vs' L') : PO ex (vs ++ vs') (L ++ L') := by
  induction x with
  | nil => exact y
  | cons hm hc hd r ih => exact .cons hm hc hd ih
theorem PO.pa {h : Heap} {bad : Addr → Prop} {ex : List (Addr × Obj)} {vs : List Value} {L : List (Int × Int)} (x : PO ex vs L) (k : ∀ p ∈ ex, h.get? p.1 = some p.2) (b : ∀ p ∈ ex, ¬ bad p.1) : PA h bad vs L := by
  induction x with
  | nil => exact .nil
  | cons hm hc hd r ih => exact .cons (b _ hm) ⟨_, k _ hm, hc, _, hd⟩ ih
theorem PA.po {g h : Heap} {L' : Addr} {bad : Addr → Prop} {vs : List Value} {L : List (Int × Int)} (x : PA h bad vs L) (h1 : ∀ T, g.get? T ≠ none → bad T) (h2 : bad L') : ∃ ex, News g L' h ex ∧ PO ex vs L ∧ ∀ p ∈ ex, ¬ bad p.1 := by
  induction x with
  | nil => exact ⟨[], News.nil, PO.nil, by simp⟩
  | @cons T p q t u vs L off ht r ih =>
    obtain ⟨ex, N, P, b⟩ := ih
    obtain ⟨o, e, hc, n, hd⟩ := ht
    refine ⟨(T, o) :: ex, fun p hp => ?_, .cons (.head _) hc hd (P.more fun _ m => .tail _ m), fun p hp => ?_⟩
    · rcases List.mem_cons.mp hp with rfl | hp
      · refine ⟨e, fun q => off (by have q' : T = L' := q; rw [q']; exact h2), ?_⟩
        cases q : g.get? T with
        | none => rfl
        | some o' => exact absurd (h1 T (by rw [q]; simp)) off
      · exact N p hp
    · rcases List.mem_cons.mp hp with rfl | hp
      · exact off
      · exact b p hp
section
variable {prog : Program} {w : World} {A : Around} {E : Value → Shared → Prop} {s : Shared} {h₀ : Heap} {L₀ : Addr} {m : PySem.Str → Option Value} {env : Env}
inductive PcInv (s : Shared) (cenv : Env) (I ax D : Nat) (base : Heap) (vs : List Value) (L : List (Int × Int)) (f : Int × Int → Int × Int) (k : Nat) (s' : Shared) : Prop
  | mk (h' : Heap) (tk : Nat) (m' : PySem.Str → Option Value) (ys : List Value) (i : Nat) (pf : s' = { s with heap := h', toks := tk } ∧ h'.IsListIter I ax i ∧ h'.get? D = some (lst ys) ∧ h'.Ns cenv.locals m' ∧ PA h' (fun T => (T = I ∨ T = cenv.locals ∨ T = D) ∨ base.get? T ≠ none) ys ((L.take i).map f) ∧ i ≤ vs.length ∧ k = vs.length + 1 - i ∧ Kept base h')
noncomputable def EltEnd (s₂ : Shared) (x z : Int) (y : Value) (s₃ : Shared) : Prop := ∃ T h' tk t u, s₃ = { s₂ with heap := h', toks := tk } ∧ y = .ref T ∧ s₂.heap.get? T = none ∧ Kept s₂.heap h' ∧ IsTup h' T #[.int x t, .int z u]
theorem none_of_kept {h h' : Heap} {a : Addr} (k : Kept h h') (e : h'.get? a = none) : h.get? a = none := by
  cases q : h.get? a with
  | none => rfl
  | some o => rw [k _ _ q] at e; cases e
theorem pairs_loop {elt iter : PySem.Expr} {a b : PySem.Str} {pa pb tp : Pos} {kk : Nat} {scope : Scope} {pos : Pos} {I ax D : Addr} {cenv : Env} {R : Result → Shared → Prop} {base : Heap} {vs : List Value} {L : List (Int × Int)} {m₀ : PySem.Str → Option Value} (f : Int × Int → Int × Int)
    (hh : A.handled = none) (ha : cenv.kindOf a = some .local) (hb : cenv.kindOf b = some .local) (hab : ¬ a = b)
    (hp : (cenv.scope.kind == .class || (cenv.scope.kind == .module && cenv.locals != cenv.globals)) = false)
    (hDI : D ≠ I) (hDC : D ≠ cenv.locals) (hIC : I ≠ cenv.locals) (nI : base.get? I = none) (nD : base.get? D = none) (nC : base.get? cenv.locals = none)
    (hl : base.IsList ax vs.toArray) (hP : PA base (fun _ => False) vs L)
    (hit : s.heap.IsListIter I ax 0) (hacc : s.heap.get? D = some (lst [])) (hn : s.heap.Ns cenv.locals m₀) (hk : Kept base s.heap)
    (helt : ∀ h tk m₂ p q t u E', Kept base h → h.Ns cenv.locals m₂ → m₂ a = some (.int p t) → m₂ b = some (.int q u) →
      wpAny (model prog w) A (eval elt cenv) (EltEnd { s with heap := h, toks := tk } (f (p, q)).1 (f (p, q)).2) E' { s with heap := h, toks := tk })
    (hR : ∀ h' tk m' ys, Kept base h' → h'.Ns cenv.locals m' → h'.get? D = some (lst ys) → PA h' (fun T => (T = cenv.locals ∨ T = D) ∨ base.get? T ≠ none) ys (L.map f) → R (.ok .next) { s with heap := h', toks := tk })
    (hsz : vs.length ≤ sizeLine) :
    codeAny (model prog w) A (.compLoop (.ListComp elt [⟨.Tuple [.Name a pa, .Name b pb] kk tp, iter, [], 0⟩] scope pos) 0 (.ref I) (.ref D) cenv) R s := by
  refine kcp_loop
    (PcInv s cenv I ax D base vs L f) ?_ (vs.length + 1)
    ⟨s.heap, s.toks, m₀, [], 0, rfl, hit, hacc, hn, .nil, Nat.zero_le _, rfl, hk⟩
  rintro k s' ⟨H, tk, m', ys, i, rfl, hit', hacc', hn', hF, hi, rfl, hk'⟩
  have hlen := hP.length
  by_cases hlt : i < vs.length
  · obtain ⟨T, p, q, t, u, e1, e2, _, hT⟩ := hP.get hlt
    refine wpAny_pyNext_list_item hit' (hl.at fun o e => hk' _ o e) (x := .ref T) (by simpa using e1) fun h₁ hit₁ hs₁ => ?_
    refine wpAny_letOwnedTupleGo_listiter hit₁ ?_
    have nT : ∀ {c : Addr}, base.get? c = none → T ≠ c := fun hc => by obtain ⟨o, e, _⟩ := hT; exact fun q => by rw [q, hc] at e; cases e
    have k₁ : Kept base h₁ := fun c o e => hs₁.extBut c o (fun q => by rw [q, nI] at e; cases e) (hk' c o e)
    refine kcp_assign (env := cenv) (m := m') hh (hT.keeps k₁) ha hb hp (hn'.extBut hs₁.extBut (Ne.symm hIC)) fun h₂ tk₂ hn₂ hs₂ => ?_
    have k₂ : Kept base h₂ := fun c o e => hs₂ c o (fun q => by rw [q, nC] at e; cases e) (k₁ c o e)
    have hit₂ : h₂.IsListIter I ax (i + 1) := hit₁.at fun o e => hs₂ _ o hIC e
    have up₂ : ∀ c o, c ≠ I → c ≠ cenv.locals → H.get? c = some o → h₂.get? c = some o := fun c o h1 h2 e => hs₂ c o h2 (hs₁.extBut c o h1 e)
    refine wpAny_mono (helt h₂ _ _ p q t u _ k₂ hn₂ (by simp [hab]) (by simp)) (fun y s₃ h₃ => ?_) fun _ _ e => e
    obtain ⟨T', h₃, tk₃, t', u', rfl, rfl, nT', hk₃, hT'⟩ := h₃
    have hacc₃ : h₃.get? D = some (lst ys) := hk₃ _ _ (up₂ _ _ hDI hDC hacc')
    have hne : ∀ {c : Addr} {o : Obj}, h₂.get? c = some o → T' ≠ c := fun e q => by rw [q] at nT'; exact absurd (nT'.symm.trans e) (by simp)
    have hys : ys.length = i := by rw [hF.length, List.length_map, List.length_take]; omega
    refine append_at (hsz := by show ys.toArray.size ≤ sizeLine; rw [List.size_toArray, hys]; exact Nat.le_trans hi hsz) hacc₃ fun h₄ hs₄ hD₄ => ?_
    have TI : T' ≠ I := by obtain ⟨o, e, _⟩ := hit₂; exact hne e
    have TC : T' ≠ cenv.locals := by obtain ⟨_, _, _, e, _⟩ := hn₂; exact hne e
    have TD : T' ≠ D := hne (up₂ _ _ hDI hDC hacc')
    refine ⟨vs.length + 1 - (i + 1), turn_lt (by assumption), h₄, _, _, ys ++ [.ref T'], i + 1, rfl, (hit₂.at fun o e => hk₃ _ o e).extBut hs₄.extBut (Ne.symm hDI), hD₄.trans (congrArg some (lst_snoc ys _)), (hn₂.keeps hk₃).sameBut hs₄ (Ne.symm hDC), ?_, hlt, rfl, fun c o e => hs₄.extBut c o (fun q => by rw [q, nD] at e; cases e) (hk₃ c o (k₂ c o e))⟩
    have up₄ : ∀ c o, ¬ ((c = I ∨ c = cenv.locals ∨ c = D) ∨ base.get? c ≠ none) → H.get? c = some o → h₄.get? c = some o := fun c o hc e => by
      simp only [not_or] at hc
      exact hs₄.extBut c o hc.1.2.2 (hk₃ c o (up₂ c o hc.1.1 hc.1.2.1 e))
    rw [List.take_add_one, e2, List.map_append]
    refine (hF.mono up₄ fun _ m => m).append ?_
    have nb : base.get? T' = none := none_of_kept k₂ nT'
    exact .cons (by simp [TI, TC, TD, nb]) (by obtain ⟨o, e, r⟩ := hT'; exact ⟨o, hs₄.extBut _ _ TD e, r⟩) .nil
  · have hle : vs.length ≤ i := Nat.not_lt.mp hlt
    refine wpAny_pyNext_list_end hh hit' (hl.at fun o e => hk' _ o e) (by simpa using hle) fun h₁ he₁ => ?_
    refine hR h₁ _ _ ys (fun c o e => he₁ c o (fun q => by rw [q, nI] at e; cases e) (hk' c o e)) (hn'.extBut he₁ (Ne.symm hIC)) (he₁ _ _ hDI hacc') ?_
    rw [List.take_of_length_le (by omega)] at hF
    refine hF.mono (fun c o hc e => he₁ c o (fun q => hc (by simp [q])) e) fun c hc => ?_
    rcases hc with hc | hc
    · exact .inl (.inr hc)
    · exact .inr hc
theorem pairs_comp {elt iter : PySem.Expr} {a b : PySem.Str} {pa pb tp : Pos} {kk : Nat} {scope : Scope} {cl : List (PySem.Str × Addr)} {pos : Pos} {Q : Value → Shared → Prop}
    (hh : A.handled = none)
    (hclos : closureFor scope env = pure cl) (hcell : ∀ y ∈ scope.names, y.2 ≠ .cell) (hkind : scope.kind = .function)
    (hnames : ∀ y ∈ scope.names, y.2 = .local → scope.names.lookup y.1 = some .local) (hxa : scope.names.lookup a = some .local) (hxb : scope.names.lookup b = some .local) (hab : ¬ a = b)
    (h : wpAny (model prog w) A (eval iter env) (fun xv s₁ => ∃ (ax : Addr) (vs : List Value) (L : List (Int × Int)) (f : Int × Int → Int × Int), xv = .ref ax ∧ s₁.heap.IsList ax vs.toArray ∧ PA s₁.heap (fun _ => False) vs L ∧ vs.length ≤ sizeLine ∧
      (∀ C h tk m₂ p q t u E', Kept s₁.heap h → h.Ns C m₂ → m₂ a = some (.int p t) → m₂ b = some (.int q u) →
        wpAny (model prog w) A (eval elt (compEnvC scope cl C env)) (EltEnd { s₁ with heap := h, toks := tk } (f (p, q)).1 (f (p, q)).2) E' { s₁ with heap := h, toks := tk }) ∧
      ∀ D h' tk ys, Kept s₁.heap h' → s₁.heap.get? D = none → h'.get? D = some (lst ys) → PA h' (fun T => T = D ∨ s₁.heap.get? T ≠ none) ys (L.map f) → Q (.ref D) { s₁ with heap := h', toks := tk }) E s)
    (hs : ∀ x, foldedSetIterable iter env x = pure x := by intro _; rfl) :
    wpAny (model prog w) A (eval (.ListComp elt [⟨.Tuple [.Name a pa, .Name b pb] kk tp, iter, [], 0⟩] scope pos) env) Q E s := by
  rw [eval_ListComp]
  refine wpAny_comprehension_free (use := none) rfl hs hclos hkind hnames (wpAny_mono h (fun xv s₁ h₁ => ?_) fun _ _ e => e)
  obtain ⟨ax, vs, L, f, rfl, hl, hP, hsz, helt, hQ⟩ := h₁
  refine wpAny_pyIter_list hl ?_
  refine wpAny_newObj_type (wpAny_newFunctionEnv hcell (by intro y hy; simp at hy) (fun h₁ hns₁ hsb₁ => ?_) hkind)
  dsimp only at hns₁ hsb₁ ⊢
  generalize hH1 : s₁.heap.push { cls := .type "list_iterator", data := .fields #[.ref ax, .int 0 0] } = H1 at hns₁ hsb₁ ⊢
  generalize hH2 : H1.push { cls := .type "list", dict := none, data := .seq ([] : List Value).toArray } = H2 at hns₁ hsb₁ ⊢
  have sz1 : H1.objs.size = s₁.heap.objs.size + 1 := by rw [← hH1, Heap.size_push]
  have sz2 : H2.objs.size = s₁.heap.objs.size + 2 := by rw [← hH2, Heap.size_push, sz1]
  have nn : ∀ c, s₁.heap.objs.size ≤ c → s₁.heap.get? c = none := fun c hc => by
    cases e : s₁.heap.get? c with
    | none => rfl
    | some o' => exact absurd (Heap.lt_size e) (Nat.not_lt.mpr hc)
  have old1 : Kept s₁.heap H1 := fun c o e => hH1 ▸ Heap.get?_push_of_some _ e
  have old2 : Kept H1 H2 := fun c o e => hH2 ▸ Heap.get?_push_of_some _ e
  have lt2 : ∀ c o, H2.get? c = some o → c ≠ H2.objs.size := fun c o e => Nat.ne_of_lt (Heap.lt_size e)
  have old3 : Kept H2 h₁ := fun c o e => hsb₁.extBut c o (lt2 c o e) (Heap.get?_push_of_some _ e)
  have itI : h₁.IsListIter s₁.heap.objs.size ax 0 := ⟨_, old3 _ _ (old2 _ _ (hH1 ▸ Heap.get?_push_size _ rfl)), rfl, rfl⟩
  have hacc : h₁.get? H1.objs.size = some (lst []) := old3 _ _ (hH2 ▸ Heap.get?_push_size _ rfl)
  have hk := (old1.trans old2).trans old3
  have loop : ∀ s₃ : Shared, s₃ = { s₁ with heap := h₁, toks := s₁.toks + ([] : List (PySem.Str × Value)).length } →
      codeAny (model prog w) A (.compLoop (.ListComp elt [⟨.Tuple [.Name a pa, .Name b pb] kk tp, iter, [], 0⟩] scope pos) 0 (.ref s₁.heap.objs.size) (.ref H1.objs.size) (compEnvC scope cl H2.objs.size env))
        (compPost (model prog w) A E none Q (.ref H1.objs.size) H2.objs.size) s₃ := by
    rintro s₃ rfl
    refine pairs_loop (cenv := compEnvC scope cl H2.objs.size env) (base := s₁.heap) f hh (lookup_relabel_local hxa) (lookup_relabel_local hxb) hab (by simp [compEnvC, relabel, hkind]) (by rw [sz1]; exact Nat.succ_ne_self _) (by show H1.objs.size ≠ H2.objs.size; rw [sz1, sz2]; exact Nat.ne_of_lt (Nat.lt_succ_self _)) (by show s₁.heap.objs.size ≠ H2.objs.size; rw [sz2]; exact Nat.ne_of_lt (Nat.lt_add_of_pos_right (by decide)))
      (nn _ (Nat.le_refl _)) (nn _ (by rw [sz1]; exact Nat.le_succ _)) (nn _ (by show _ ≤ H2.objs.size; rw [sz2]; exact Nat.le_add_right _ _)) hl hP itI hacc hns₁ hk (fun h tk m₂ p q t u E' => helt _ h tk m₂ p q t u E') (fun h' tk m' ys k' hn' hD' hP' => ?_) hsz
    refine ⟨m', hn', fun h'' hs'' => hQ _ h'' tk ys (fun c o e => hs''.extBut c o (fun q => by rw [q] at e; exact absurd ((nn H2.objs.size (by rw [sz2]; exact Nat.le_add_right _ _)).symm.trans e) (by simp)) (k' c o e)) (nn _ (by rw [sz1]; exact Nat.le_succ _)) (hs''.extBut _ _ (by rw [sz1, sz2]; exact Nat.ne_of_lt (Nat.lt_succ_self _)) hD') (hP'.mono (fun c o hc e => hs''.extBut c o (fun q => hc (by simp [q, compEnvC])) e) fun c hc => ?_)⟩
    rcases hc with hc | hc
    · exact .inl (.inr hc)
    · exact .inr hc
  exact codeAny_compStart_list (loop _ rfl) (wpAny_pyIter_listiter itI (loop _ rfl))
/-- (price + X, marks + mark) -/
theorem elt_two {X : PySem.Expr} {a b c : PySem.Str} {p1 p2 p3 p4 p5 p6 : Pos} {kk : Nat} {cenv : Env} {m₂ : PySem.Str → Option Value} {C : Addr} {p q x z : Int} {t u : Tok}
    (hk : cenv.scope.kind = .function) (ka : cenv.kindOf a = some .local) (kb : cenv.kindOf b = some .local) (kc : cenv.kindOf c = some .cell) (ea : (a == ("__debug__" : PySem.Str)) = false) (eb : (b == ("__debug__" : PySem.Str)) = false) (ec : (c == ("__debug__" : PySem.Str)) = false)
    (hn : s.heap.Ns cenv.locals m₂) (va : m₂ a = some (.int p t)) (vb : m₂ b = some (.int q u)) (lc : cenv.cells.lookup c = some C) {tz : Tok} (hc : s.heap.IsCell C (some (.int z tz)))
    (hX : ∀ (Q : Value → Shared → Prop), (∀ t tk, Q (.int x t) { s with toks := tk }) → wpAny (model prog w) A (eval X cenv) Q E s)
    (he : starEach [PySem.Expr.BinOp (.Name a p1) .Add X p2, .BinOp (.Name b p3) .Add (.Name c p4) p5] cenv = [(false, eval (PySem.Expr.BinOp (.Name a p1) .Add X p2) cenv), (false, eval (PySem.Expr.BinOp (.Name b p3) .Add (.Name c p4) p5) cenv)] := by rfl) :
    wpAny (model prog w) A (eval (.Tuple [.BinOp (.Name a p1) .Add X p2, .BinOp (.Name b p3) .Add (.Name c p4) p5] kk p6) cenv) (EltEnd s (p + x) (q + z)) E s := by
  refine wpAny_Tuple (spliced_more (wpAny_BinOp ?_))
  refine wpAny_Name (wpAny_loadName_local hk ka hn va ?_) ea
  refine hX _ fun t' tk' => ?_
  refine add_int (spliced_more (wpAny_BinOp ?_))
  refine wpAny_Name (wpAny_loadName_local hk kb hn vb ?_) eb
  refine wpAny_Name (wpAny_loadName_cell hk kc lc hc ?_) ec
  refine add_int (spliced_none ⟨(show 2 ≤ sizeLine by decide), ?_⟩)
  exact ⟨_, _, _, _, _, rfl, rfl, Heap.get?_none_of_le (Nat.le_refl _), fun c o e => Heap.get?_push_of_some _ e, ⟨_, Heap.get?_push_size _ rfl, rfl, _, rfl⟩⟩
end
end Mine
end
section
open PySem PySem.W PyProof.Rows PySem.Calls PySem.Spec PyProof.V PySem.SeqAt PyProof.Rows.LCg
set_option linter.unusedVariables false
namespace Mine
noncomputable def mk (d a : Int) : Int := 2 ^ (4 * d + a).toNat
noncomputable def waysF (fs gs : List Int) (gd ga : Int) : Nat → Int → Int → List (Int × Int)
  | 0, d, a => [(0, mk d a)]
  | n + 1, d, a => if d = gd ∧ a = ga then [(0, mk d a)] else
      ((if d < gd then (waysF fs gs gd ga n (d + 1) a).map (fun x => (x.1 + 2, x.2 + mk d a)) else []) ++
      (if a < ga then (waysF fs gs gd ga n d (a + 1)).map (fun x => (x.1 + 2, x.2 + mk d a)) else [])) ++
      (if d < gd ∧ a < ga then (waysF fs gs gd ga n (d + 1) (a + 1)).map (fun x => (x.1 + costF (fs.getD d.toNat 0) (gs.getD a.toNat 0), x.2 + mk d a)) else [])
theorem waysF_len (fs gs : List Int) (gd ga : Int) : ∀ (n : Nat) (d a : Int), (waysF fs gs gd ga n d a).length ≤ 3 ^ n
  | 0, d, a => by simp [waysF]
  | n + 1, d, a => by
    have h1 := waysF_len fs gs gd ga n (d + 1) a
    have h2 := waysF_len fs gs gd ga n d (a + 1)
    have h3 := waysF_len fs gs gd ga n (d + 1) (a + 1)
    have h4 : 1 ≤ 3 ^ n := Nat.one_le_pow _ _ (by decide)
    unfold waysF
    rw [Nat.pow_succ]
    split
    · simp; omega
    · simp only [List.length_append]
      have e1 : (if d < gd then (waysF fs gs gd ga n (d + 1) a).map (fun x => (x.1 + 2, x.2 + mk d a)) else []).length ≤ 3 ^ n := by split <;> simp [h1]
      have e2 : (if a < ga then (waysF fs gs gd ga n d (a + 1)).map (fun x => (x.1 + 2, x.2 + mk d a)) else []).length ≤ 3 ^ n := by split <;> simp [h2]
      have e3 : (if d < gd ∧ a < ga then (waysF fs gs gd ga n (d + 1) (a + 1)).map (fun x => (x.1 + costF (fs.getD d.toNat 0) (gs.getD a.toNat 0), x.2 + mk d a)) else []).length ≤ 3 ^ n := by split <;> simp [h3]
      omega
section
variable {fs gs : List Int} {gd ga : Int} {n : Nat} {d a : Int}
theorem waysF_b (hd : d = gd) (ha : a = ga) : waysF fs gs gd ga n d a = [(0, mk d a)] := by
  cases n with
  | zero => rfl
  | succ n => unfold waysF; rw [if_pos ⟨hd, ha⟩]
theorem waysF_da (hd : d < gd) (ha : a < ga) : waysF fs gs gd ga (n + 1) d a = ((waysF fs gs gd ga n (d + 1) a).map (fun x => (x.1 + 2, x.2 + mk d a)) ++ (waysF fs gs gd ga n d (a + 1)).map (fun x => (x.1 + 2, x.2 + mk d a))) ++
    (waysF fs gs gd ga n (d + 1) (a + 1)).map (fun x => (x.1 + costF (fs.getD d.toNat 0) (gs.getD a.toNat 0), x.2 + mk d a)) := by
  rw [waysF, if_neg (fun h => by omega), if_pos hd, if_pos ha, if_pos ⟨hd, ha⟩]
theorem waysF_d (hd : d < gd) (ha : ¬ a < ga) : waysF fs gs gd ga (n + 1) d a = (waysF fs gs gd ga n (d + 1) a).map (fun x => (x.1 + 2, x.2 + mk d a)) := by
  rw [waysF, if_neg (fun h => by omega), if_pos hd, if_neg ha, if_neg (fun h => ha h.2), List.append_nil, List.append_nil]
theorem waysF_a (hd : ¬ d < gd) (ha : a < ga) : waysF fs gs gd ga (n + 1) d a = (waysF fs gs gd ga n d (a + 1)).map (fun x => (x.1 + 2, x.2 + mk d a)) := by
  rw [waysF, if_neg (fun h => by omega), if_neg hd, if_pos ha, if_neg (fun h => hd h.1), List.append_nil, List.nil_append]
end
theorem waysF_le {fs gs : List Int} {gd ga : Int} {n : Nat} {d a : Int} (h : n ≤ 5) : (waysF fs gs gd ga n d a).length ≤ 243 :=
  Nat.le_trans (waysF_len fs gs gd ga n d a) (Nat.pow_le_pow_right (by decide) h)
noncomputable def GivesPairs (P : List (Int × Int)) (h h' : Heap) (r : Value) : Prop := ∃ l vs n, r = .ref l ∧ h.get? l = none ∧ h'.get? l = some (listOf vs.toArray n) ∧ PA h' (fun T => T = l ∨ h.get? T ≠ none) vs P
inductive PairSrc (prog : Program) (w : World) (A : Around) (env : Env) (elt : PySem.Expr) (a b : PySem.Str) (scope : Scope) (cl : List (PySem.Str × Addr)) (Q : Value → Shared → Prop) (xv : Value) (s₁ : Shared) : Prop
  | mk (ax : Addr) (vs : List Value) (L : List (Int × Int)) (X Z : Int) (pf : xv = .ref ax ∧ s₁.heap.IsList ax vs.toArray ∧ PA s₁.heap (fun _ => False) vs L ∧ vs.length ≤ sizeLine ∧
      (∀ C h tk m₂ p q t u E', Kept s₁.heap h → h.Ns C m₂ → m₂ a = some (.int p t) → m₂ b = some (.int q u) →
        wpAny (model prog w) A (eval elt (compEnvC scope cl C env)) (EltEnd { s₁ with heap := h, toks := tk } (p + X) (q + Z)) E' { s₁ with heap := h, toks := tk }) ∧
      ∀ D h' tk ys, Kept s₁.heap h' → s₁.heap.get? D = none → h'.get? D = some (lst ys) → PA h' (fun T => T = D ∨ s₁.heap.get? T ≠ none) ys (L.map fun x => (x.1 + X, x.2 + Z)) → Q (.ref D) { s₁ with heap := h', toks := tk })
section
variable {prog : Program} {w : World} {A : Around} {E : Value → Shared → Prop} {s : Shared} {env : Env}
theorem pairs_src {elt iter : PySem.Expr} {a b : PySem.Str} {pa pb tp : Pos} {kk : Nat} {scope : Scope} {cl : List (PySem.Str × Addr)} {pos : Pos} {Q : Value → Shared → Prop}
    (hh : A.handled = none) (hclos : closureFor scope env = pure cl) (hcell : ∀ y ∈ scope.names, y.2 ≠ .cell) (hkind : scope.kind = .function)
    (hnames : ∀ y ∈ scope.names, y.2 = .local → scope.names.lookup y.1 = some .local) (hxa : scope.names.lookup a = some .local) (hxb : scope.names.lookup b = some .local) (hab : ¬ a = b)
    (h : wpAny (model prog w) A (eval iter env) (PairSrc prog w A env elt a b scope cl Q) E s)
    (hs : ∀ x, foldedSetIterable iter env x = pure x := by intro _; rfl) :
    wpAny (model prog w) A (eval (.ListComp elt [⟨.Tuple [.Name a pa, .Name b pb] kk tp, iter, [], 0⟩] scope pos) env) Q E s := by
  refine pairs_comp hh hclos hcell hkind hnames hxa hxb hab (wpAny_mono h (fun xv s₁ h₁ => ?_) fun _ _ e => e) hs
  obtain ⟨ax, vs, L, X, Z, h⟩ := h₁
  exact ⟨ax, vs, L, fun x => (x.1 + X, x.2 + Z), h⟩
theorem ways_add {g h9 h2 : Heap} {L' D' W D2 : Addr} {t : Obj} {m : PySem.Str → Option Value} {n : Nat} {xs ys : List Value} {L1 L2 : List (Int × Int)} {c1 c2 : Addr × Obj} {EX : List (Addr × Obj)} {Q : Value → Shared → Prop}
    (F : Fr g L' h9 m) (N : News g L' h9 ((D', t) :: (W, listOf xs.toArray n) :: c1 :: c2 :: EX)) (k2 : Kept h9 h2) (e2 : h2.get? D2 = some (lst ys)) (P2 : PA h2 (fun T => T = D2 ∨ h9.get? T ≠ none) ys L2)
    (o1 : c1.1 ≠ W) (o2 : c2.1 ≠ W) (off : ∀ p ∈ EX, p.1 ≠ W ∧ p.1 ≠ c1.1 ∧ p.1 ≠ c2.1) (P1 : PO EX xs L1) (sz : xs.length + ys.length ≤ 1000) (es : s.heap = h2)
    (h : ∀ h3 n3 EX', Fr g L' h3 m → News g L' h3 ((W, listOf (xs ++ ys).toArray n3) :: c1 :: c2 :: EX') → (∀ p ∈ EX', p.1 ≠ W ∧ p.1 ≠ c1.1 ∧ p.1 ≠ c2.1) → PO EX' (xs ++ ys) (L1 ++ L2) → Q (.ref W) { s with heap := h3 }) :
    wpAny (model prog w) A (inplaceOp .Add (.ref W) (.ref D2)) Q E s := by
  subst es
  have NW := N _ (.tail _ (.head _))
  refine iadd_lists (k2 _ _ NW.1) e2 (by simpa using sz) fun h3 n3 hs e3 => ?_
  obtain ⟨ex, NE, PE, be⟩ := P2.po (g := g) (L' := L') (fun T hT => .inr fun q => hT (by
    cases e : g.get? T with
    | none => rfl
    | some o => have := F.keep _ _ e; rw [q] at this; cases this)) (.inr fun q => by obtain ⟨_, _, _, e, _⟩ := F.ns; rw [q] at e; cases e)
  have exW : ∀ p ∈ ex, p.1 ≠ W ∧ p.1 ≠ c1.1 ∧ p.1 ≠ c2.1 := fun p hp => ⟨fun q => be p hp (.inr (by rw [q, NW.1]; simp)), fun q => be p hp (.inr (by rw [q, (N _ (.tail _ (.tail _ (.head _)))).1]; simp)), fun q => be p hp (.inr (by rw [q, (N _ (.tail _ (.tail _ (.tail _ (.head _))))).1]; simp))⟩
  refine h h3 n3 (EX ++ ex) ((F.keeps k2).change hs NW.2.1 NW.2.2) ?_ ?_ ?_
  · intro p hp
    rcases List.mem_cons.mp hp with rfl | hp
    · exact ⟨by simpa using e3, NW.2⟩
    · have hh : p.1 ≠ W ∧ s.heap.get? p.1 = some p.2 ∧ p.1 ≠ L' ∧ g.get? p.1 = none := by
        rcases List.mem_cons.mp hp with rfl | hp
        · exact ⟨o1, k2 _ _ (N _ (.tail _ (.tail _ (.head _)))).1, (N _ (.tail _ (.tail _ (.head _)))).2⟩
        · rcases List.mem_cons.mp hp with rfl | hp
          · exact ⟨o2, k2 _ _ (N _ (.tail _ (.tail _ (.tail _ (.head _))))).1, (N _ (.tail _ (.tail _ (.tail _ (.head _))))).2⟩
          · rcases List.mem_append.mp hp with hp | hp
            · have := N _ (.tail _ (.tail _ (.tail _ (.tail _ hp))))
              exact ⟨(off _ hp).1, k2 _ _ this.1, this.2⟩
            · exact ⟨(exW _ hp).1, (NE _ hp).1, (NE _ hp).2⟩
      exact ⟨hs.extBut _ _ hh.1 hh.2.1, hh.2.2⟩
  · intro p hp
    rcases List.mem_append.mp hp with hp | hp
    · exact off p hp
    · exact exW p hp
  · exact (P1.more fun _ m => List.mem_append_left _ m).append (PE.more fun _ m => List.mem_append_right _ m)
end
end Mine
end
local macro_rules | `(tactic| walk_at "nokey") => `(tactic| fail)
section
open PySem PySem.W PyProof.Rows PySem.Calls PySem.Spec
set_option maxRecDepth 100000
set_option maxHeartbeats 8000000
set_option linter.unusedVariables false
set_option linter.unusedSimpArgs false
namespace Mine
local macro_rules | `(tactic| walk_at "call ref") => `(tactic| (refine hold ?_))
local macro_rules | `(tactic| walk_at "compareOp Eq ref ref") => `(tactic| (k_here; k_dflt (first
 | (refine' eq_pairs (k := true) ?a ?b ?c ?d ?_; (case a => first | with_reducible assumption | exact Fr.tup (by k_asm) (by assumption)); (case b => first | with_reducible assumption | exact Fr.tup (by k_asm) (by assumption)); (case c => first | units_room | exact Nat.le_of_ble_eq_true rfl | (show _ < _; omega)); (case d => first | done | simp))
 | (refine' eq_pairs (k := false) ?a ?b ?c ?d ?_; (case a => first | with_reducible assumption | exact Fr.tup (by k_asm) (by assumption)); (case b => first | with_reducible assumption | exact Fr.tup (by k_asm) (by assumption)); (case c => first | units_room | exact Nat.le_of_ble_eq_true rfl | (show _ < _; omega)); (case d => assumption)))))
local macro_rules | `(tactic| k_updF) => `(tactic| ((with_reducible rename ∀ p ∈ _, _ ∧ _ ∧ _ => offX); refine' UpdF.tail ?ua (UpdF.head ?ub); (case ua => (refine (?_ : (_ : Nat) ≠ _); omega)); (case ub => (intro p hp; rcases List.mem_cons.mp hp with rfl | hp; (refine (?_ : (_ : Nat) ≠ _); omega); exact (offX p hp).2.1))))
local macro_rules | `(tactic| walk_at "eval ListComp") => `(tactic| (k_here; refine hold ?_))
section
variable (w : World) (mean : ExcName → Option Value) (mg mb : PySem.Str → Option Value)
theorem waysB (one two : Addr) (vs ws : List Value) (fs gs : List Int) (hf : IntsAre vs fs) (hg : IntsAre ws gs) (lf : fs.length = 3) (lg : gs.length = 3) (goal : Addr) (gd ga : Int) (tg ug : Tok) (N : Nat) (place : Addr) (d a : Int) (td ta : Tok) (ed : d = gd) (ea : a = ga) (hd : 0 ≤ d ∧ d ≤ 3) (ha : 0 ≤ a ∧ a ≤ 3) :
    Clm w mean mg mb 132 (N + 2) [Value.ref one, Value.ref two, Value.ref place, Value.ref goal] (fun h => h.IsList one vs.toArray ∧ h.IsList two ws.toArray ∧ IsTup h place #[.int d td, .int a ta] ∧ IsTup h goal #[.int gd tg, .int ga ug]) (GivesPairs (waysF fs gs gd ga N d a)) := by
  subst ed ea
  unfold Clm
  w_top off
  k_fill
  intro dp un gd' cn cs a' ccd cl outer A₀ base h₀ L m s Q E B F X N T hk hd' hu pre hret
  refine wpAny_call ?_
  k_dflt (refine' code_defCG ?k1 ?k2 ?k3 ?k4 ?k5 ?kA ?kF ?kK ?k6 ?k7 ?k8 ?k9 ?kB ?kD ?_ ?c2 ?c3 ?c4; (case kA => exact rfl); (case kF => exact rfl); (case kK => assumption); (case k1 => k_asm); (case k2 => k_asm); (case k3 => k_asm); (case k4 => k_asm); (case k5 => k_asm); (case k6 => k_is); (case k7 => k_is); (case k8 => ktr_room); (case k9 => exact BindsTo.of_eq rfl); (case kB => exact rfl); (case kD => decide +kernel); (case c2 => exact rfl); (case c3 => exact rfl); (case c4 => exact rfl); k_whole; intro g' L' h' tk' cells' FG' F' N' Y' B' X' T' l1 G'; replace G' := kept_sub G'; (try k_lt l1); k_cells Y'; (try simp only [List.cons_append, List.nil_append] at N'); (try dsimp only); (try k_fold))
  have G1 := ‹Kept s.heap _›
  obtain ⟨p1, p2, p3, p4⟩ := pre
  have p1 := stays_list G1 p1
  have p2 := stays_list G1 p2
  have p3 := p3.keeps G1
  have p4 := p4.keeps G1
  refine gE (by passes_own) fun EV pe => ?_
  refine gQ fun QV hQV => ?_
  k_steps
  with_reducible rename News g' L' _ _ => NZ
  with_reducible rename Fr g' L' _ _ => FZ
  refine hQV _ _ ?_
  k_steps
  refine hret _ _ _ (kept_end G1 FZ) ⟨_, [Value.ref _], 0, rfl, fresh_of G1 (NZ _ (.head _)).2.2, (NZ _ (.head _)).1, ?_⟩
  rw [waysF_b rfl rfl]
  refine .cons (fun q => ?_) ⟨_, (NZ _ (.tail _ (.head _))).1, rfl, _, rfl⟩ .nil
  rcases q with q | q
  · exact absurd q (by refine (?_ : ¬ ((_ : Nat) = _)); omega)
  · exact q (fresh_of G1 (NZ _ (.tail _ (.head _))).2.2)
theorem waysC (one two : Addr) (vs ws : List Value) (fs gs : List Int) (hf : IntsAre vs fs) (hg : IntsAre ws gs) (lf : fs.length = 3) (lg : gs.length = 3) (goal : Addr) (gd ga : Int) (tg ug : Tok) (hgd : 0 ≤ gd ∧ gd ≤ 3) (hga : 0 ≤ ga ∧ ga ≤ 3) (N : Nat) (hN6 : N ≤ 6) :
    ∀ (place : Addr) (d a : Int) (td ta : Tok) (hd : 0 ≤ d ∧ d ≤ gd) (ha : 0 ≤ a ∧ a ≤ ga) (hN : (gd - d) + (ga - a) ≤ N),
    Clm w mean mg mb 132 (N + 2) [Value.ref one, Value.ref two, Value.ref place, Value.ref goal] (fun h => h.IsList one vs.toArray ∧ h.IsList two ws.toArray ∧ IsTup h place #[.int d td, .int a ta] ∧ IsTup h goal #[.int gd tg, .int ga ug]) (GivesPairs (waysF fs gs gd ga N d a)) := by
  induction N with
  | zero =>
    intro place d a td ta hd ha hN
    exact waysB w mean mg mb one two vs ws fs gs hf hg lf lg goal gd ga tg ug 0 place d a td ta (by omega) (by omega) (by omega) (by omega)
  | succ N ih =>
    intro place d a td ta hd ha hN
    have ih := fun place d a td ta hd ha hN => ih (by omega) place d a td ta hd ha hN
    by_cases c1 : d < gd
    · by_cases c2 : a < ga
      · skip
        have cE : ((d == gd) && (a == ga)) = false := by simp; omega
        unfold Clm
        w_top off
        k_fill
        intro dp un gd' cn cs a' ccd cl outer A₀ base h₀ L m s Q E B F X N T hk hd' hu pre hret
        refine wpAny_call ?_
        k_dflt (refine' code_defCG ?k1 ?k2 ?k3 ?k4 ?k5 ?kA ?kF ?kK ?k6 ?k7 ?k8 ?k9 ?kB ?kD ?_ ?c2 ?c3 ?c4; (case kA => exact rfl); (case kF => exact rfl); (case kK => assumption); (case k1 => k_asm); (case k2 => k_asm); (case k3 => k_asm); (case k4 => k_asm); (case k5 => k_asm); (case k6 => k_is); (case k7 => k_is); (case k8 => ktr_room); (case k9 => exact BindsTo.of_eq rfl); (case kB => exact rfl); (case kD => decide +kernel); (case c2 => exact rfl); (case c3 => exact rfl); (case c4 => exact rfl); k_whole; intro g' L' h' tk' cells' FG' F' N' Y' B' X' T' l1 G'; replace G' := kept_sub G'; (try k_lt l1); k_cells Y'; (try simp only [List.cons_append, List.nil_append] at N'); (try dsimp only); (try k_fold))
        have G1 := ‹Kept s.heap _›
        obtain ⟨p1, p2, p3, p4⟩ := pre
        have p1 := stays_list G1 p1
        have p2 := stays_list G1 p2
        have p3 := p3.keeps G1
        have p4 := p4.keeps G1
        refine gE (by passes_own) fun EV pe => ?_
        refine gQ fun QV hQV => ?_
        k_steps
        unfold Hold
        refine' pairs_src ?c0 ?c1 ?c2 ?c3 ?c4 ?c5 ?c6 ?c7 ?_
        case c0 => exact rfl
        case c1 => with_unfolding_all rfl
        case c2 => decide
        case c3 => exact rfl
        case c4 => decide
        case c5 => exact rfl
        case c6 => exact rfl
        case c7 => decide
        k_steps
        unfold Hold
        with_reducible rename Fr _ _ _ _ => cF1
        with_reducible rename News _ _ _ _ => cN1
        refine' Clm.use (ih _ (d + 1) a _ _ (by omega) (by omega) (by omega)) ?k11 cF1 ?k31 cN1 ?k51 ?kK1 ?kd1 ?ku1 ?kp1 ?_
        case kp1 => exact ⟨stays_list cF1.keep p1, stays_list cF1.keep p2, News.isTup cN1 (by k_mem), p4.keeps cF1.keep⟩
        case k11 => k_asm
        case k31 => k_asm
        case k51 => k_asm
        case kK1 => first | exact rfl | assumption
        case kd1 => ktr_room
        case ku1 => ktr_units
        intro r9 h9 tk9 F91 N91 K91 o9
        obtain ⟨l9, vs9, n9, rfl, q9, e9, P9⟩ := o9
        have lw1 := P9.length
        have lv1 : vs9.length ≤ 243 := by rw [lw1]; exact waysF_le (by omega)
        refine ⟨l9, vs9, _, 2, mk d a, rfl, ⟨_, e9, rfl, _, rfl⟩, P9.mono (fun b o _ e => e) (fun b h => h.elim), Nat.le_trans lv1 (show 243 ≤ sizeLine by decide), ?elt1, ?_⟩
        case elt1 =>
          intro C h tk m₂ p q t u E' k hn va vb
          refine elt_two (C := L' + 1) rfl rfl rfl rfl (by decide) (by decide) (by decide) hn va vb rfl ⟨_, k _ _ (News.get N91 (by k_mem)), by k_asm⟩ (fun Q hQ => wpAny_Constant_int (hQ _ _))
        intro D2 h2 tk2 ys2 k2 n2 e2 P2
        have ly1 : ys2.length ≤ 243 := by have := P2.length; rw [List.length_map] at this; omega
        refine ways_add F91 N91 k2 e2 P2 ?o11 ?o21 ?off1 (xs := []) PO.nil ?sz1 rfl ?_
        case o11 => exact Nat.ne_of_lt (by omega)
        case o21 => exact Nat.ne_of_lt (by omega)
        case off1 => first | assumption | exact (fun _ m => nomatch m)
        case sz1 => (try simp only [List.length_append, List.length_nil]); omega
        intro h3 n3 EX1 F31 N31 off1 P31
        clear e2 P2 k2 n2 e9 P9 q9
        try clear F91 N91 K91 cF1 cN1
        try simp only [List.nil_append] at P31
        try dsimp only at off1
        try dsimp only
        k_steps
        unfold Hold
        refine' pairs_src ?c0 ?c1 ?c2 ?c3 ?c4 ?c5 ?c6 ?c7 ?_
        case c0 => exact rfl
        case c1 => with_unfolding_all rfl
        case c2 => decide
        case c3 => exact rfl
        case c4 => decide
        case c5 => exact rfl
        case c6 => exact rfl
        case c7 => decide
        k_steps
        unfold Hold
        with_reducible rename Fr _ _ _ _ => cF2
        with_reducible rename News _ _ _ _ => cN2
        refine' Clm.use (ih _ d (a + 1) _ _ (by omega) (by omega) (by omega)) ?k12 cF2 ?k32 cN2 ?k52 ?kK2 ?kd2 ?ku2 ?kp2 ?_
        case kp2 => exact ⟨stays_list cF2.keep p1, stays_list cF2.keep p2, News.isTup cN2 (by k_mem), p4.keeps cF2.keep⟩
        case k12 => k_asm
        case k32 => k_asm
        case k52 => k_asm
        case kK2 => first | exact rfl | assumption
        case kd2 => ktr_room
        case ku2 => ktr_units
        intro r9 h9 tk9 F92 N92 K92 o9
        obtain ⟨l9, vs9, n9, rfl, q9, e9, P9⟩ := o9
        have lw2 := P9.length
        have lv2 : vs9.length ≤ 243 := by rw [lw2]; exact waysF_le (by omega)
        refine ⟨l9, vs9, _, 2, mk d a, rfl, ⟨_, e9, rfl, _, rfl⟩, P9.mono (fun b o _ e => e) (fun b h => h.elim), Nat.le_trans lv2 (show 243 ≤ sizeLine by decide), ?elt2, ?_⟩
        case elt2 =>
          intro C h tk m₂ p q t u E' k hn va vb
          refine elt_two (C := L' + 1) rfl rfl rfl rfl (by decide) (by decide) (by decide) hn va vb rfl ⟨_, k _ _ (News.get N92 (by k_mem)), by k_asm⟩ (fun Q hQ => wpAny_Constant_int (hQ _ _))
        intro D2 h2 tk2 ys2 k2 n2 e2 P2
        have ly2 : ys2.length ≤ 243 := by have := P2.length; rw [List.length_map] at this; omega
        refine ways_add F92 N92 k2 e2 P2 ?o12 ?o22 ?off2 P31 ?sz2 rfl ?_
        case o12 => exact Nat.ne_of_lt (by omega)
        case o22 => exact Nat.ne_of_lt (by omega)
        case off2 => first | assumption | exact (fun _ m => nomatch m)
        case sz2 => (try simp only [List.length_append, List.length_nil]); omega
        intro h3 n3 EX2 F32 N32 off2 P32
        clear e2 P2 k2 n2 e9 P9 q9
        try clear F92 N92 K92 cF2 cN2
        try simp only [List.nil_append] at P32
        try dsimp only at off2
        try dsimp only
        k_steps
        unfold Hold
        (k_here; (with_reducible show wpAny _ _ (call (Value.ref 127) _ _) _ _ _); k_dflt (refine' Clm.use_int (costC _ _ _ _ _ _ _ _) ?k1ø ?k2ø ?k3ø ?k4ø ?k5ø ?kKø ?kdø ?kuø ?kpø ?_; (case k1ø => k_asm); (case k2ø => k_asm); (case k3ø => k_asm); (case k4ø => k_asm); (case k5ø => k_asm); (case kpø => exact trivial); (case kKø => first | exact rfl | assumption); (case kdø => ktr_room); (case kuø => ktr_units); intro _ _ _ _ _ _; (try dsimp only); (try k_fold); (try k_sweep)))
        k_steps
        k_dflt (refine' storeX_C ?F ?N ?c ?U ?d ?_ ?a ?b)
        case a => rfl
        case b => rfl
        case F => k_asm
        case N => k_asm
        case c => rfl
        case U =>
          with_reducible rename ∀ p ∈ _, _ ∧ _ ∧ _ => offX
          refine' UpdF.tail ?ua (UpdF.head ?ub)
          case ua => refine (?_ : (_ : Nat) ≠ _); omega
          case ub =>
            intro p hp
            rcases List.mem_cons.mp hp with rfl | hp
            · refine (?_ : (_ : Nat) ≠ _); omega
            · exact (offX p hp).2.1
        case d => k_asm
        k_whole
        intro h5 oS FS NS dS
        try dsimp only at NS
        k_steps
        unfold Hold
        refine' pairs_src ?c0 ?c1 ?c2 ?c3 ?c4 ?c5 ?c6 ?c7 ?_
        case c0 => exact rfl
        case c1 => with_unfolding_all rfl
        case c2 => decide
        case c3 => exact rfl
        case c4 => decide
        case c5 => exact rfl
        case c6 => exact rfl
        case c7 => decide
        k_steps
        unfold Hold
        with_reducible rename Fr _ _ _ _ => cF3
        with_reducible rename News _ _ _ _ => cN3
        refine' Clm.use (ih _ (d + 1) (a + 1) _ _ (by omega) (by omega) (by omega)) ?k13 cF3 ?k33 cN3 ?k53 ?kK3 ?kd3 ?ku3 ?kp3 ?_
        case kp3 => exact ⟨stays_list cF3.keep p1, stays_list cF3.keep p2, News.isTup cN3 (by k_mem), p4.keeps cF3.keep⟩
        case k13 => k_asm
        case k33 => k_asm
        case k53 => k_asm
        case kK3 => first | exact rfl | assumption
        case kd3 => ktr_room
        case ku3 => ktr_units
        intro r9 h9 tk9 F93 N93 K93 o9
        obtain ⟨l9, vs9, n9, rfl, q9, e9, P9⟩ := o9
        have lw3 := P9.length
        have lv3 : vs9.length ≤ 243 := by rw [lw3]; exact waysF_le (by omega)
        refine ⟨l9, vs9, _, (costF (fs.getD d.toNat 0) (gs.getD a.toNat 0)), mk d a, rfl, ⟨_, e9, rfl, _, rfl⟩, P9.mono (fun b o _ e => e) (fun b h => h.elim), Nat.le_trans lv3 (show 243 ≤ sizeLine by decide), ?elt3, ?_⟩
        case elt3 =>
          intro C h tk m₂ p q t u E' k hn va vb
          refine elt_two (C := L' + 1) rfl rfl rfl rfl (by decide) (by decide) (by decide) hn va vb rfl ⟨_, k _ _ (News.get N93 (by k_mem)), by k_asm⟩ (fun Q hQ => wpAny_Name (wpAny_loadName_cell (c := L' + 1 + 1) rfl rfl rfl ⟨_, k _ _ (News.get N93 (by k_mem)), by k_asm⟩ (hQ _ _)))
        intro D2 h2 tk2 ys2 k2 n2 e2 P2
        have ly3 : ys2.length ≤ 243 := by have := P2.length; rw [List.length_map] at this; omega
        refine ways_add F93 N93 k2 e2 P2 ?o13 ?o23 ?off3 P32 ?sz3 rfl ?_
        case o13 => exact Nat.ne_of_lt (by omega)
        case o23 => exact Nat.ne_of_lt (by omega)
        case off3 => first | assumption | exact (fun _ m => nomatch m)
        case sz3 => (try simp only [List.length_append, List.length_nil]); omega
        intro h3 n3 EX3 F33 N33 off3 P33
        clear e2 P2 k2 n2 e9 P9 q9
        try clear F93 N93 K93 cF3 cN3
        try simp only [List.nil_append] at P33
        try dsimp only at off3
        try dsimp only
        k_steps
        with_reducible rename News g' L' _ _ => NZ
        with_reducible rename Fr g' L' _ _ => FZ
        refine hQV _ _ ?_
        k_steps
        refine hret _ _ _ (kept_end G1 FZ) ⟨_, _, _, rfl, fresh_of G1 (NZ _ (.head _)).2.2, (NZ _ (.head _)).1, ?_⟩
        rw [waysF_da c1 c2]
        refine PO.pa P33 (fun p hp => (NZ p (.tail _ (.tail _ (.tail _ hp)))).1) (fun p hp q => ?_)
        rcases q with q | q
        · exact (off3 p hp).1 q
        · exact q (fresh_of G1 (NZ p (.tail _ (.tail _ (.tail _ hp)))).2.2)

      · skip
        have cE : ((d == gd) && (a == ga)) = false := by simp; omega
        unfold Clm
        w_top off
        k_fill
        intro dp un gd' cn cs a' ccd cl outer A₀ base h₀ L m s Q E B F X N T hk hd' hu pre hret
        refine wpAny_call ?_
        k_dflt (refine' code_defCG ?k1 ?k2 ?k3 ?k4 ?k5 ?kA ?kF ?kK ?k6 ?k7 ?k8 ?k9 ?kB ?kD ?_ ?c2 ?c3 ?c4; (case kA => exact rfl); (case kF => exact rfl); (case kK => assumption); (case k1 => k_asm); (case k2 => k_asm); (case k3 => k_asm); (case k4 => k_asm); (case k5 => k_asm); (case k6 => k_is); (case k7 => k_is); (case k8 => ktr_room); (case k9 => exact BindsTo.of_eq rfl); (case kB => exact rfl); (case kD => decide +kernel); (case c2 => exact rfl); (case c3 => exact rfl); (case c4 => exact rfl); k_whole; intro g' L' h' tk' cells' FG' F' N' Y' B' X' T' l1 G'; replace G' := kept_sub G'; (try k_lt l1); k_cells Y'; (try simp only [List.cons_append, List.nil_append] at N'); (try dsimp only); (try k_fold))
        have G1 := ‹Kept s.heap _›
        obtain ⟨p1, p2, p3, p4⟩ := pre
        have p1 := stays_list G1 p1
        have p2 := stays_list G1 p2
        have p3 := p3.keeps G1
        have p4 := p4.keeps G1
        refine gE (by passes_own) fun EV pe => ?_
        refine gQ fun QV hQV => ?_
        k_steps
        unfold Hold
        refine' pairs_src ?c0 ?c1 ?c2 ?c3 ?c4 ?c5 ?c6 ?c7 ?_
        case c0 => exact rfl
        case c1 => with_unfolding_all rfl
        case c2 => decide
        case c3 => exact rfl
        case c4 => decide
        case c5 => exact rfl
        case c6 => exact rfl
        case c7 => decide
        k_steps
        unfold Hold
        with_reducible rename Fr _ _ _ _ => cF1
        with_reducible rename News _ _ _ _ => cN1
        refine' Clm.use (ih _ (d + 1) a _ _ (by omega) (by omega) (by omega)) ?k11 cF1 ?k31 cN1 ?k51 ?kK1 ?kd1 ?ku1 ?kp1 ?_
        case kp1 => exact ⟨stays_list cF1.keep p1, stays_list cF1.keep p2, News.isTup cN1 (by k_mem), p4.keeps cF1.keep⟩
        case k11 => k_asm
        case k31 => k_asm
        case k51 => k_asm
        case kK1 => first | exact rfl | assumption
        case kd1 => ktr_room
        case ku1 => ktr_units
        intro r9 h9 tk9 F91 N91 K91 o9
        obtain ⟨l9, vs9, n9, rfl, q9, e9, P9⟩ := o9
        have lw1 := P9.length
        have lv1 : vs9.length ≤ 243 := by rw [lw1]; exact waysF_le (by omega)
        refine ⟨l9, vs9, _, 2, mk d a, rfl, ⟨_, e9, rfl, _, rfl⟩, P9.mono (fun b o _ e => e) (fun b h => h.elim), Nat.le_trans lv1 (show 243 ≤ sizeLine by decide), ?elt1, ?_⟩
        case elt1 =>
          intro C h tk m₂ p q t u E' k hn va vb
          refine elt_two (C := L' + 1) rfl rfl rfl rfl (by decide) (by decide) (by decide) hn va vb rfl ⟨_, k _ _ (News.get N91 (by k_mem)), by k_asm⟩ (fun Q hQ => wpAny_Constant_int (hQ _ _))
        intro D2 h2 tk2 ys2 k2 n2 e2 P2
        have ly1 : ys2.length ≤ 243 := by have := P2.length; rw [List.length_map] at this; omega
        refine ways_add F91 N91 k2 e2 P2 ?o11 ?o21 ?off1 (xs := []) PO.nil ?sz1 rfl ?_
        case o11 => exact Nat.ne_of_lt (by omega)
        case o21 => exact Nat.ne_of_lt (by omega)
        case off1 => first | assumption | exact (fun _ m => nomatch m)
        case sz1 => (try simp only [List.length_append, List.length_nil]); omega
        intro h3 n3 EX1 F31 N31 off1 P31
        clear e2 P2 k2 n2 e9 P9 q9
        try clear F91 N91 K91 cF1 cN1
        try simp only [List.nil_append] at P31
        try dsimp only at off1
        try dsimp only
        k_steps
        with_reducible rename News g' L' _ _ => NZ
        with_reducible rename Fr g' L' _ _ => FZ
        refine hQV _ _ ?_
        k_steps
        refine hret _ _ _ (kept_end G1 FZ) ⟨_, _, _, rfl, fresh_of G1 (NZ _ (.head _)).2.2, (NZ _ (.head _)).1, ?_⟩
        rw [waysF_d c1 c2]
        refine PO.pa P31 (fun p hp => (NZ p (.tail _ (.tail _ (.tail _ hp)))).1) (fun p hp q => ?_)
        rcases q with q | q
        · exact (off1 p hp).1 q
        · exact q (fresh_of G1 (NZ p (.tail _ (.tail _ (.tail _ hp)))).2.2)

    · by_cases c2 : a < ga
      · skip
        have cE : ((d == gd) && (a == ga)) = false := by simp; omega
        unfold Clm
        w_top off
        k_fill
        intro dp un gd' cn cs a' ccd cl outer A₀ base h₀ L m s Q E B F X N T hk hd' hu pre hret
        refine wpAny_call ?_
        k_dflt (refine' code_defCG ?k1 ?k2 ?k3 ?k4 ?k5 ?kA ?kF ?kK ?k6 ?k7 ?k8 ?k9 ?kB ?kD ?_ ?c2 ?c3 ?c4; (case kA => exact rfl); (case kF => exact rfl); (case kK => assumption); (case k1 => k_asm); (case k2 => k_asm); (case k3 => k_asm); (case k4 => k_asm); (case k5 => k_asm); (case k6 => k_is); (case k7 => k_is); (case k8 => ktr_room); (case k9 => exact BindsTo.of_eq rfl); (case kB => exact rfl); (case kD => decide +kernel); (case c2 => exact rfl); (case c3 => exact rfl); (case c4 => exact rfl); k_whole; intro g' L' h' tk' cells' FG' F' N' Y' B' X' T' l1 G'; replace G' := kept_sub G'; (try k_lt l1); k_cells Y'; (try simp only [List.cons_append, List.nil_append] at N'); (try dsimp only); (try k_fold))
        have G1 := ‹Kept s.heap _›
        obtain ⟨p1, p2, p3, p4⟩ := pre
        have p1 := stays_list G1 p1
        have p2 := stays_list G1 p2
        have p3 := p3.keeps G1
        have p4 := p4.keeps G1
        refine gE (by passes_own) fun EV pe => ?_
        refine gQ fun QV hQV => ?_
        k_steps
        unfold Hold
        refine' pairs_src ?c0 ?c1 ?c2 ?c3 ?c4 ?c5 ?c6 ?c7 ?_
        case c0 => exact rfl
        case c1 => with_unfolding_all rfl
        case c2 => decide
        case c3 => exact rfl
        case c4 => decide
        case c5 => exact rfl
        case c6 => exact rfl
        case c7 => decide
        k_steps
        unfold Hold
        with_reducible rename Fr _ _ _ _ => cF1
        with_reducible rename News _ _ _ _ => cN1
        refine' Clm.use (ih _ d (a + 1) _ _ (by omega) (by omega) (by omega)) ?k11 cF1 ?k31 cN1 ?k51 ?kK1 ?kd1 ?ku1 ?kp1 ?_
        case kp1 => exact ⟨stays_list cF1.keep p1, stays_list cF1.keep p2, News.isTup cN1 (by k_mem), p4.keeps cF1.keep⟩
        case k11 => k_asm
        case k31 => k_asm
        case k51 => k_asm
        case kK1 => first | exact rfl | assumption
        case kd1 => ktr_room
        case ku1 => ktr_units
        intro r9 h9 tk9 F91 N91 K91 o9
        obtain ⟨l9, vs9, n9, rfl, q9, e9, P9⟩ := o9
        have lw1 := P9.length
        have lv1 : vs9.length ≤ 243 := by rw [lw1]; exact waysF_le (by omega)
        refine ⟨l9, vs9, _, 2, mk d a, rfl, ⟨_, e9, rfl, _, rfl⟩, P9.mono (fun b o _ e => e) (fun b h => h.elim), Nat.le_trans lv1 (show 243 ≤ sizeLine by decide), ?elt1, ?_⟩
        case elt1 =>
          intro C h tk m₂ p q t u E' k hn va vb
          refine elt_two (C := L' + 1) rfl rfl rfl rfl (by decide) (by decide) (by decide) hn va vb rfl ⟨_, k _ _ (News.get N91 (by k_mem)), by k_asm⟩ (fun Q hQ => wpAny_Constant_int (hQ _ _))
        intro D2 h2 tk2 ys2 k2 n2 e2 P2
        have ly1 : ys2.length ≤ 243 := by have := P2.length; rw [List.length_map] at this; omega
        refine ways_add F91 N91 k2 e2 P2 ?o11 ?o21 ?off1 (xs := []) PO.nil ?sz1 rfl ?_
        case o11 => exact Nat.ne_of_lt (by omega)
        case o21 => exact Nat.ne_of_lt (by omega)
        case off1 => first | assumption | exact (fun _ m => nomatch m)
        case sz1 => (try simp only [List.length_append, List.length_nil]); omega
        intro h3 n3 EX1 F31 N31 off1 P31
        clear e2 P2 k2 n2 e9 P9 q9
        try clear F91 N91 K91 cF1 cN1
        try simp only [List.nil_append] at P31
        try dsimp only at off1
        try dsimp only
        k_steps
        with_reducible rename News g' L' _ _ => NZ
        with_reducible rename Fr g' L' _ _ => FZ
        refine hQV _ _ ?_
        k_steps
        refine hret _ _ _ (kept_end G1 FZ) ⟨_, _, _, rfl, fresh_of G1 (NZ _ (.head _)).2.2, (NZ _ (.head _)).1, ?_⟩
        rw [waysF_a c1 c2]
        refine PO.pa P31 (fun p hp => (NZ p (.tail _ (.tail _ (.tail _ hp)))).1) (fun p hp q => ?_)
        rcases q with q | q
        · exact (off1 p hp).1 q
        · exact q (fresh_of G1 (NZ p (.tail _ (.tail _ (.tail _ hp)))).2.2)

      · exact waysB w mean mg mb one two vs ws fs gs hf hg lf lg goal gd ga tg ug (N + 1) place d a td ta (by omega) (by omega) (by omega) (by omega)
end
end Mine
end
section
open PySem PySem.W PyProof.Rows PySem.Calls PySem.Spec PyProof.V PySem.SeqAt PyProof.Rows.LCg
set_option linter.unusedVariables false
namespace Mine
noncomputable def PairTurn (h₀ : Heap) (L : Addr) (I : Addr) (oI : Obj) (src : List (Addr × Obj)) (Jn : (PySem.Str → Option Value) → List (Addr × Obj) → Prop) (s₁ : Shared) (f : Flow) (s₂ : Shared) : Prop :=
  f = .next ∧ ∃ h' tk m' nw', s₂ = { s₁ with heap := h', toks := tk } ∧ Fr h₀ L h' m' ∧ News h₀ L h' ((I, oI) :: (nw' ++ src)) ∧ (∀ p ∈ nw', p.1 ≠ I) ∧ Jn m' nw'
inductive PairFor (prog : Program) (w : World) (A : Around) (h₀ : Heap) (env : Env) (a b : PySem.Str) (body : List Stmt) (Q : Flow → Shared → Prop) (E : Value → Shared → Prop) (xv : Value) (s₁ : Shared) : Prop
  | mk (ax : Addr) (n : Nat) (vs : List Value) (P : List (Int × Int)) (src : List (Addr × Obj)) (m : PySem.Str → Option Value) (nw : List (Addr × Obj)) (J : Nat → (PySem.Str → Option Value) → List (Addr × Obj) → Prop) (pf : xv = .ref ax ∧ A.handled = none ∧ env.kindOf a = some .local ∧ env.kindOf b = some .local ∧ (¬ a = b) ∧ (env.scope.kind == .class || (env.scope.kind == .module && env.locals != env.globals)) = false ∧
    Fr h₀ env.locals s₁.heap m ∧ News h₀ env.locals s₁.heap (nw ++ src) ∧ (ax, listOf vs.toArray n) ∈ src ∧ PO src vs P ∧ J 0 m nw ∧
    (∀ i p q t u m₁ nw₁ h₁ tk₁ I oI, P[i]? = some (p, q) → J i m₁ nw₁ → Fr h₀ env.locals h₁ (fun z => if z = b then some (.int q u) else if z = a then some (.int p t) else m₁ z) →
      News h₀ env.locals h₁ ((I, oI) :: (nw₁ ++ src)) → (∀ p ∈ nw₁, p.1 ≠ I) →
      wpAny (model prog w) A (execs body env) (PairTurn h₀ env.locals I oI src (J (i + 1)) { s₁ with heap := h₁, toks := tk₁ }) E { s₁ with heap := h₁, toks := tk₁ }) ∧
    ∀ h' tk m' nw', Fr h₀ env.locals h' m' → News h₀ env.locals h' (nw' ++ src) → J P.length m' nw' → Q .next { s₁ with heap := h', toks := tk })
theorem PO.get {ex : List (Addr × Obj)} {vs : List Value} {L : List (Int × Int)} (x : PO ex vs L) : ∀ {i : Nat} (hi : i < vs.length), ∃ T o p q t u n, vs[i]? = some (.ref T) ∧ L[i]? = some (p, q) ∧ (T, o) ∈ ex ∧ o.cls = .type "tuple" ∧ o.data = .seq #[.int p t, .int q u] n := by
  induction x with
  | nil => intro i hi; exact absurd hi (Nat.not_lt_zero _)
  | @cons T o p q t u n vs L hm hc hd r ih =>
    intro i hi
    cases i with
    | zero => exact ⟨T, o, p, q, t, u, n, rfl, rfl, hm, hc, hd⟩
    | succ i => exact ih (Nat.lt_of_succ_lt_succ hi)
theorem PO.length {ex : List (Addr × Obj)} {vs : List Value} {L : List (Int × Int)} (x : PO ex vs L) : vs.length = L.length := by
  induction x with
  | nil => rfl
  | cons hm hc hd r ih => simp [ih]
inductive PairInv (h₀ : Heap) (env : Env) (s₁ : Shared) (I ax : Nat) (vs : List Value) (src : List (Addr × Obj)) (J : Nat → (PySem.Str → Option Value) → List (Addr × Obj) → Prop) (k : Nat) (s' : Shared) : Prop
  | mk (h' : Heap) (tk : Nat) (m' : PySem.Str → Option Value) (nw' : List (Addr × Obj)) (i : Nat) (pf : s' = { s₁ with heap := h', toks := tk } ∧ h'.IsListIter I ax i ∧ Fr h₀ env.locals h' m' ∧ News h₀ env.locals h' (nw' ++ src) ∧ (∀ p ∈ nw' ++ src, p.1 ≠ I) ∧ J i m' nw' ∧ i ≤ vs.length ∧ k = vs.length + 1 - i)
section
variable {prog : Program} {w : World} {A : Around} {E : Value → Shared → Prop} {s : Shared} {env : Env} {h₀ : Heap} {body : List Stmt} {Q : Flow → Shared → Prop}
theorem for_pairs {iter : PySem.Expr} {pos : Pos} {a b : PySem.Str} {pa pb tp : Pos} {kk : Nat}
    (h : wpAny (model prog w) A (eval iter env) (PairFor prog w A h₀ env a b body Q E) E s)
    (hs : ∀ x, foldedSetIterable iter env x = pure x := by intro _; rfl)
    (hE : PassesOwn (model prog w) A env E := by passes_own) :
    wpAny (model prog w) A (exec (.For (.Tuple [.Name a pa, .Name b pb] kk tp) iter body [] pos) env) Q E s := by
  refine wpAny_For (wpAny_mono h (fun xv s₁ h₁ => ?_) fun _ _ e => e) hs
  obtain ⟨ax, n, vs, P, src, m, nw, J, rfl, hh, ha, hb, hab, hp, F, N, hax, hP, h0, step, hQ⟩ := h₁
  have Nax := N _ (List.mem_append_right _ hax)
  have hl : s₁.heap.IsList ax vs.toArray := ⟨_, Nax.1, rfl, _, rfl⟩
  refine wpAny_pyIter_list hl ?_
  generalize hI : s₁.heap.objs.size = I
  have nI : h₀.get? I = none := hI ▸ next_is_new F
  have IL : env.locals ≠ I := hI ▸ Nat.ne_of_lt F.ns.lt
  have lt : ∀ p ∈ nw ++ src, p.1 ≠ I := fun p hp => hI ▸ Nat.ne_of_lt (Heap.lt_size (N p hp).1)
  have len := hP.length
  have up0 : ∀ c o, s₁.heap.get? c = some o → (s₁.heap.push { cls := .type "list_iterator", data := .fields #[.ref ax, .int 0 0] }).get? c = some o := fun c o e => Heap.get?_push_of_some _ e
  refine codeAny_forLoop_any
    (PairInv h₀ env s₁ I ax vs src J) ?_ (vs.length + 1)
    ⟨_, _, m, nw, 0, rfl, ⟨_, by rw [← hI]; exact Heap.get?_push_size _ rfl, rfl, rfl⟩, F.keeps up0, N.grown up0, lt, h0, Nat.zero_le _, rfl⟩
  rintro k s' ⟨h', tk, m', nw', i, rfl, hit, F', N', lt', hJ, hi, rfl⟩
  have hl' : h'.IsList ax vs.toArray := ⟨_, (N' _ (List.mem_append_right _ hax)).1, rfl, _, rfl⟩
  by_cases hlt : i < vs.length
  · obtain ⟨T, o, p, q, t, u, nT, e1, e2, hm, hc, hd⟩ := hP.get hlt
    refine wpAny_pyNext_list_item hit hl' (x := .ref T) (by simpa using e1) fun h₁ hit₁ hs₁ => ?_
    refine wpAny_letOwnedTupleGo_listiter hit₁ ?_
    have F₁ : Fr h₀ env.locals h₁ m' := ⟨F'.ns.at' fun o e => hs₁.extBut _ o IL e, fun c o e => hs₁.extBut c o (fun q => by rw [q, nI] at e; cases e) (F'.keep c o e), F'.above⟩
    have N₁ : News h₀ env.locals h₁ (nw' ++ src) := fun p hp => ⟨hs₁.extBut _ _ (lt' p hp) (N' p hp).1, (N' p hp).2⟩
    have hT : h₁.IsTuple T #[.int p t, .int q u] := ⟨o, (N₁ _ (List.mem_append_right _ hm)).1, hc, _, hd⟩
    refine kcp_assign (env := env) (m := m') hh hT ha hb hp F₁.ns fun h₂ tk₂ hn₂ hs₂ => ?_
    have hLn : h₀.get? env.locals = none := Heap.get?_none_of_le F'.above
    have F₂ : Fr h₀ env.locals h₂ (fun z => if z = b then some (.int q u) else if z = a then some (.int p t) else m' z) := ⟨hn₂, fun c o e => hs₂ c o (fun q => by rw [q, hLn] at e; cases e) (F₁.keep c o e), F'.above⟩
    obtain ⟨oI, eI, cI, dI⟩ : h₂.IsListIter I ax (i + 1) := hit₁.at fun o e => hs₂ _ o (Ne.symm IL) e
    have N₂ : News h₀ env.locals h₂ ((I, oI) :: (nw' ++ src)) := fun p hp => by
      rcases List.mem_cons.mp hp with rfl | hp
      · exact ⟨eI, Ne.symm IL, nI⟩
      · exact ⟨hs₂ _ _ (N₁ p hp).2.1 (N₁ p hp).1, (N₁ p hp).2⟩
    refine wpAny_passesOwn hE (wpAny_mono (step i p q t u m' nw' h₂ tk₂ I oI e2 hJ F₂ N₂ fun p hp => lt' p (List.mem_append_left _ hp)) (fun f s₃ h₃ => ?_) fun _ _ e => e)
    obtain ⟨rfl, h₃, tk₃, m₃, nw₃, rfl, F₃, N₃, lt₃, J₃⟩ := h₃
    refine ⟨vs.length + 1 - (i + 1), turn_lt (by assumption), h₃, tk₃, m₃, nw₃, i + 1, rfl, ⟨oI, (N₃ _ (.head _)).1, cI, dI⟩, F₃, fun p hp => N₃ p (.tail _ hp), fun p hp => ?_, J₃, hlt, rfl⟩
    rcases List.mem_append.mp hp with hp | hp
    · exact lt₃ p hp
    · exact lt p (List.mem_append_right _ hp)
  · have hin : i = vs.length := Nat.le_antisymm hi (Nat.not_lt.mp hlt)
    refine wpAny_pyNext_list_end hh hit hl' (by simp [hin]) fun h₁ he₁ => wpAny_execs_nil ?_
    refine hQ h₁ _ m' nw' ⟨F'.ns.at' fun o e => he₁ _ o IL e, fun c o e => he₁ c o (fun q => by rw [q, nI] at e; cases e) (F'.keep c o e), F'.above⟩ (fun p hp => ⟨he₁ _ _ (lt' p hp) (N' p hp).1, (N' p hp).2⟩) ?_
    rw [← len, ← hin]; exact hJ
end
end Mine
end
local macro_rules | `(tactic| walk_at "nokey") => `(tactic| fail)
local macro_rules | `(tactic| walk_at "nokey") => `(tactic| fail)
section
open PySem PySem.W PyProof.Rows PySem.Calls PySem.Spec
set_option maxRecDepth 100000
set_option maxHeartbeats 1500000
set_option linter.unusedVariables false
set_option linter.unusedSimpArgs false
namespace Mine
local macro_rules | `(tactic| walk_at "call ref") => `(tactic| (k_here; (with_reducible show wpAny _ _ (call (Value.ref 132) _) _ _ _); refine hold ?_))
local macro_rules | `(tactic| walk_at "exec For") => `(tactic| (refine hold ?_))
local macro_rules | `(tactic| k_upd) => `(tactic| ((with_reducible rename Off3C _ _ _ _ => offX); exact Upd.tail offX.1 (Upd.tail offX.2.1 (Upd.head offX.2.2))))
section
variable (w : World) (mean : ExcName → Option Value) (mg mb : PySem.Str → Option Value)
noncomputable def Off3C (I2 I C : Addr) (src : List (Addr × Obj)) : Prop := I2 ≠ C ∧ I ≠ C ∧ ∀ p ∈ src, p.1 ≠ C
theorem news_two {g h : Heap} {L : Addr} {x y : Addr × Obj} {ex : List (Addr × Obj)} (hx : h.get? x.1 = some x.2 ∧ x.1 ≠ L ∧ g.get? x.1 = none) (hy : h.get? y.1 = some y.2 ∧ y.1 ≠ L ∧ g.get? y.1 = none) (N : News g L h ex) : News g L h (x :: y :: ex) := fun p hp => by
  rcases List.mem_cons.mp hp with rfl | hp
  · exact hx
  · rcases List.mem_cons.mp hp with rfl | hp
    · exact hy
    · exact N p hp
noncomputable def bump (cs : List Int) (k : Int) : List Int := cs.set k.toNat (cs.getD k.toNat 0 + 1)
noncomputable def innerStep (y : Int × Int) (cs : List Int) (x : Int × Int) : List Int := if Builtin.bitAnd y.2 x.2 = 0 then bump cs (y.1 + x.1) else cs
noncomputable def innerF (U : List (Int × Int)) (cs : List Int) (y : Int × Int) : List Int := U.foldl (innerStep y) cs
noncomputable def apartF (fs gs : List Int) : List Int := (waysF fs gs 3 2 4 1 0).foldl (innerF (waysF fs gs 2 3 4 0 1)) (List.replicate 17 0)
theorem off_pa {h : Heap} {l C : Addr} {o : Obj} {ex : List (Addr × Obj)} (q : h.get? l = none) (be : ∀ p ∈ ex, ¬ (p.1 = l ∨ h.get? p.1 ≠ none)) (e : h.get? C = some o) : l ≠ C ∧ ∀ p ∈ ex, p.1 ≠ C :=
  ⟨fun x => (by rw [x, e] at q; cases q), fun p hp x => be p hp (.inr (by rw [x, e]; simp))⟩
theorem news_cat {g h : Heap} {L : Addr} {y : Addr × Obj} {news ex ex' : List (Addr × Obj)} (N : News g L h news) (hy : y ∈ news) (NE : News g L h ex) (NX : News g L h ex') : News g L h (y :: (ex ++ ex')) := fun p hp => by
  rcases List.mem_cons.mp hp with rfl | hp
  · exact N _ hy
  · rcases List.mem_append.mp hp with hp | hp
    · exact NE p hp
    · exact NX p hp
theorem innerStep_len (y : Int × Int) (cs : List Int) (x : Int × Int) : (innerStep y cs x).length = cs.length := by unfold innerStep bump; split <;> simp
theorem innerF_len (U : List (Int × Int)) : ∀ (cs : List Int) (y : Int × Int), (innerF U cs y).length = cs.length := by
  unfold innerF
  induction U with
  | nil => intro cs y; rfl
  | cons x U ih => intro cs y; rw [List.foldl_cons, ih, innerStep_len]
theorem waysF_price (fs gs : List Int) (gd ga : Int) : ∀ (n : Nat) (d a : Int), ∀ x ∈ waysF fs gs gd ga n d a, 0 ≤ x.1 ∧ x.1 ≤ 2 * n
  | 0, d, a, x, hx => by simp [waysF] at hx; subst hx; simp
  | n + 1, d, a, x, hx => by
    unfold waysF at hx
    split at hx
    · simp at hx; subst hx; constructor <;> simp; omega
    · simp only [List.mem_append] at hx
      rcases hx with (hx | hx) | hx
      all_goals
        split at hx
        · obtain ⟨y, hy, rfl⟩ := List.mem_map.mp hx
          have := waysF_price fs gs gd ga n _ _ y hy
          have hc : ∀ a b, 0 ≤ costF a b ∧ costF a b ≤ 2 := fun a b => by unfold costF; split <;> (try split) <;> decide
          first | (dsimp only; omega) | (have := hc (fs.getD d.toNat 0) (gs.getD a.toNat 0); dsimp only; omega)
        · cases hx
theorem apartC (one two : Addr) (vs ws : List Value) (fs gs : List Int) (hf : IntsAre vs fs) (hg : IntsAre ws gs) (lf : fs.length = 3) (lg : gs.length = 3) :
    Clm w mean mg mb 139 7 [Value.ref one, Value.ref two] (fun h => h.IsList one vs.toArray ∧ h.IsList two ws.toArray) (GivesL (apartF fs gs)) := by
  unfold Clm
  w_top off
  k_fill
  intro dp un gd cn cs a ccd cl outer A₀ base h₀ L m s Q E B F X N T hk hd hu pre hret
  refine wpAny_call ?_
  k_dflt cell_enter
  rename_i g1 L1 h1 FG1 F1 N1 B1 X1 T1 G1
  refine gE (by passes_own) fun EV pe => ?_
  refine gQ fun QV hQV => ?_
  obtain ⟨p1, p2⟩ := pre
  have p1 : g1.IsList one vs.toArray := stays_list G1 p1
  have p2 : g1.IsList two ws.toArray := stays_list G1 p2
  k_steps
  rename_i C hC i1 n0 s1 e1 e2 e3 lC h3 D3 h4 l4 D4 h5 FF NN l5
  unfold Hold
  with_reducible rename Fr g1 L1 _ _ => cF1
  with_reducible rename News g1 L1 _ _ => cN1
  refine' Clm.use (waysC w mean mg mb one two vs ws fs gs hf hg lf lg _ 2 3 _ _ (by decide) (by decide) 4 (by decide) _ 0 1 _ _ (by decide) (by decide) (by decide)) ?k11 cF1 ?k31 cN1 ?k51 ?kK1 ?kd1 ?ku1 ?kp1 ?_
  case kp1 => exact ⟨stays_list cF1.keep p1, stays_list cF1.keep p2, News.isTup cN1 (by k_mem), News.isTup cN1 (by k_mem)⟩
  case k11 => k_asm
  case k31 => k_asm
  case k51 => k_asm
  case kK1 => first | exact rfl | assumption
  case kd1 => ktr_room
  case ku1 => ktr_units
  intro r1 h91 tk1 F91 N91 K91 o91
  obtain ⟨l1, vs1, n1, rfl, q1, e1, P1⟩ := o91
  obtain ⟨ex1, NE1, PO1, be1⟩ := P1.po (g := g1) (L' := L1) (fun T hT => .inr fun q => hT (none_of_kept (fun b o e => cF1.keep b o e) q)) (.inr fun q => by obtain ⟨_, _, _, e, _⟩ := cF1.ns; rw [e] at q; cases q)
  have nl1 : l1 ≠ L1 := fun q => by obtain ⟨_, _, _, e, _⟩ := cF1.ns; rw [← q] at e; exact absurd (q1.symm.trans e) (by simp)
  have ng1 : g1.get? l1 = none := none_of_kept (fun b o e => cF1.keep b o e) q1
  have EC := N91 _ (.tail _ (.tail _ (.head _)))
  have EC0 := cN1 _ (.tail _ (.tail _ (.head _)))
  have NB := news_two (y := (l1, listOf vs1.toArray n1)) EC ⟨e1, nl1, ng1⟩ NE1
  have offC1 := off_pa q1 be1 EC0.1
  clear N91 EC EC0
  k_steps
  unfold Hold
  refine for_pairs (h₀ := g1) ?_
  k_steps
  unfold Hold
  with_reducible rename Fr g1 L1 _ _ => cF2
  with_reducible rename News g1 L1 _ _ => cN2
  refine' Clm.use (waysC w mean mg mb one two vs ws fs gs hf hg lf lg _ 3 2 _ _ (by decide) (by decide) 4 (by decide) _ 1 0 _ _ (by decide) (by decide) (by decide)) ?k12 cF2 ?k32 cN2 ?k52 ?kK2 ?kd2 ?ku2 ?kp2 ?_
  case kp2 => exact ⟨stays_list cF2.keep p1, stays_list cF2.keep p2, News.isTup cN2 (by k_mem), News.isTup cN2 (by k_mem)⟩
  case k12 => k_asm
  case k32 => k_asm
  case k52 => k_asm
  case kK2 => first | exact rfl | assumption
  case kd2 => ktr_room
  case ku2 => ktr_units
  intro r2 h92 tk2 F92 N92 K92 o92
  obtain ⟨l2, vs2, n2, rfl, q2, e2, P2⟩ := o92
  obtain ⟨ex2, NE2, PO2, be2⟩ := P2.po (g := g1) (L' := L1) (fun T hT => .inr fun q => hT (none_of_kept (fun b o e => cF2.keep b o e) q)) (.inr fun q => by obtain ⟨_, _, _, e, _⟩ := cF2.ns; rw [e] at q; cases q)
  have nl2 : l2 ≠ L1 := fun q => by obtain ⟨_, _, _, e, _⟩ := cF2.ns; rw [← q] at e; exact absurd (q2.symm.trans e) (by simp)
  have ng2 : g1.get? l2 = none := none_of_kept (fun b o e => cF2.keep b o e) q2
  have EC2 := N92 _ (.tail _ (.tail _ (.head _)))
  have EC02 := cN2 _ (.tail _ (.tail _ (.head _)))
  have offC2 := off_pa q2 be2 EC02.1
  have NX : News g1 L1 h92 ex1 := fun p hp => N92 p (.tail _ (.tail _ (.tail _ (.tail _ hp))))
  have NB2 := news_two (y := (l2, listOf vs2.toArray n2)) EC2 ⟨e2, nl2, ng2⟩ (news_cat N92 (.tail _ (.tail _ (.tail _ (.head _)))) NE2 NX)
  clear N92 EC2 EC02
  generalize hCg : (List.replicate (Int.toNat 17) [Value.int 0 _]).flatten = us0 at *
  generalize hNg : (List.replicate (Int.toNat 17) [(0 : Int)]).flatten = ns0 at *
  have hns0 : ns0 = List.replicate 17 0 := hNg.symm
  have srcC : ∀ p ∈ (l2, listOf vs2.toArray n2) :: (l1, listOf vs1.toArray n1) :: (ex2 ++ ex1), p.1 ≠ C := fun p hp => by
    rcases List.mem_cons.mp hp with rfl | hp
    · exact offC2.1
    · rcases List.mem_cons.mp hp with rfl | hp
      · exact offC1.1
      · rcases List.mem_append.mp hp with hp | hp
        · exact offC2.2 p hp
        · exact offC1.2 p hp
  have PX1 : PO ((l2, listOf vs2.toArray n2) :: (l1, listOf vs1.toArray n1) :: (ex2 ++ ex1)) vs1 (waysF fs gs 2 3 4 0 1) := PO1.more fun p hp => .tail _ (.tail _ (List.mem_append_right _ hp))
  have PX2 : PO ((l2, listOf vs2.toArray n2) :: (l1, listOf vs1.toArray n1) :: (ex2 ++ ex1)) vs2 (waysF fs gs 3 2 4 1 0) := PO2.more fun p hp => .tail _ (.tail _ (List.mem_append_left _ hp))
  have ml1 : (l1, listOf vs1.toArray n1) ∈ (l2, listOf vs2.toArray n2) :: (l1, listOf vs1.toArray n1) :: (ex2 ++ ex1) := .tail _ (.head _)
  have ml2 : (l2, listOf vs2.toArray n2) ∈ (l2, listOf vs2.toArray n2) :: (l1, listOf vs1.toArray n1) :: (ex2 ++ ex1) := .head _
  generalize (l2, listOf vs2.toArray n2) :: (l1, listOf vs1.toArray n1) :: (ex2 ++ ex1) = src at *
  have hU := waysF_price fs gs 2 3 4 0 1
  have hV := waysF_price fs gs 3 2 4 1 0
  unfold apartF at hret
  generalize waysF fs gs 2 3 4 0 1 = U at *
  generalize waysF fs gs 3 2 4 1 0 = V at *
  refine ⟨l2, n2, vs2, V, src, _, [(C, listOf us0.toArray 0)], fun i m nw => Knows m [("counts", .ref C), ("upper", .ref l1)] ∧ ∃ us n, nw = [(C, listOf us.toArray n)] ∧ IntsAre us ((V.take i).foldl (innerF U) (List.replicate 17 0)), rfl, rfl, rfl, rfl, by decide, rfl, F92, NB2, ml2, PX2, ⟨⟨rfl, rfl, trivial⟩, us0, 0, rfl, hns0 ▸ i1⟩, ?step, ?fin⟩
  case step =>
    rintro i p q t u m1 nw1 h3 tk3 I oI hi ⟨hK, us, n, rfl, hI⟩ F3 N3 hoffI
    have F3 := know F3 (l := [("marks", .int q u), ("price", .int p t), ("counts", .ref C), ("upper", .ref l1)]) ⟨rfl, rfl, hK.1, hK.2.1, trivial⟩
    have hp := hV (p, q) (List.mem_of_getElem? hi)
    have hstep := foldl_take_succ (innerF U) (List.replicate 17 0) hi
    have hlen : ((V.take i).foldl (innerF U) (List.replicate 17 0)).length = 17 := by
      generalize V.take i = W
      clear hstep hI
      suffices ∀ z : List Int, (W.foldl (innerF U) z).length = z.length by rw [this]; rfl
      intro z
      induction W generalizing z with
      | nil => rfl
      | cons y W ih => rw [List.foldl_cons, ih, innerF_len]
    generalize (V.take i).foldl (innerF U) (List.replicate 17 0) = cs0 at *
    k_steps
    unfold Hold
    refine for_pairs (h₀ := g1) ?_
    k_steps
    refine ⟨l1, n1, vs1, U, src, _, [(I, oI), (C, listOf us.toArray n)], fun j m nw => Knows m [("counts", .ref C), ("price", .int p t), ("marks", .int q u), ("upper", .ref l1)] ∧ ∃ us n, nw = [(I, oI), (C, listOf us.toArray n)] ∧ IntsAre us ((U.take j).foldl (innerStep (p, q)) cs0), rfl, rfl, rfl, rfl, by decide, rfl, F3, N3, ml1, PX1, ⟨⟨rfl, rfl, rfl, rfl, trivial⟩, us, n, rfl, hI⟩, ?step2, ?fin2⟩
    case step2 =>
      rintro j x y tx ty m2 nw2 h4 tk4 I2 oI2 hj ⟨hK2, us2, n2', rfl, hI2⟩ F4 N4 hoff2
      have F4 := know F4 (l := [("places", .int y ty), ("other", .int x tx), ("counts", .ref C), ("price", .int p t), ("marks", .int q u), ("upper", .ref l1)]) ⟨rfl, rfl, hK2.1, hK2.2.1, hK2.2.2.1, hK2.2.2.2.1, trivial⟩
      have hx := hU (x, y) (List.mem_of_getElem? hj)
      have hstep2 := foldl_take_succ (innerStep (p, q)) (cs0) hj
      have hlen2 : ((U.take j).foldl (innerStep (p, q)) cs0).length = 17 := by
        have := innerF_len (U.take j) cs0 (p, q)
        unfold innerF at this
        rw [this, hlen]
      generalize (U.take j).foldl (innerStep (p, q)) cs0 = cs at *
      simp only [List.cons_append, List.nil_append] at N4
      have offX : Off3C I2 I C src := ⟨(hoff2 _ (.tail _ (.head _))).symm, (hoffI _ (.head _)).symm, srcC⟩
      have b1 : 0 ≤ p + x := by dsimp only at hp hx; omega
      have b2 : p + x < 17 := by dsimp only at hp hx; omega
      have F4 : Fr g1 L1 h4 _ := F4
      have N4 : News g1 L1 h4 _ := N4
      k_steps
      · refine' ksa_set ?k1 ?k2 ?k3 ?k4 ?k5 ?k6 ?k7 ?_
        case k1 => k_asm
        case k2 => k_asm
        case k3 => exact Upd.tail offX.1 (Upd.tail offX.2.1 (Upd.head offX.2.2))
        case k4 => with_reducible assumption
        case k5 => ksa_idx
        case k6 => ksa_idx
        case k7 => ksa_idx
        k_whole
        intro h6 F6 N6 I6 L6 S6
        k_steps
        refine ⟨rfl, _, _, _, [(I, oI), (C, _)], rfl, F6, N6, fun p hp => ?_, ⟨rfl, rfl, rfl, rfl, trivial⟩, _, _, rfl, ?_⟩
        · rcases List.mem_cons.mp hp with rfl | hp
          · exact hoff2 _ (.head _)
          · rw [List.mem_singleton.mp hp]
            exact hoff2 (C, listOf us2.toArray n2') (.tail _ (.head _))
        · rw [hstep2]
          show IntsAre _ (if Builtin.bitAnd q y = 0 then bump cs (p + x) else cs)
          rw [if_pos (c := Builtin.bitAnd q y = 0) (by assumption)]
          exact I6
      · refine ⟨rfl, _, _, _, [(I, oI), (C, listOf us2.toArray n2')], rfl, F4, N4, hoff2, ⟨rfl, rfl, rfl, rfl, trivial⟩, us2, n2', rfl, ?_⟩
        rw [hstep2]
        show IntsAre _ (if Builtin.bitAnd q y = 0 then bump cs (p + x) else cs)
        rw [if_neg (c := Builtin.bitAnd q y = 0) (by assumption)]
        exact hI2
    case fin2 =>
      rintro h5 tk5 m5 nw5 F5 N5 ⟨hK5, us5, n5, rfl, hI5⟩
      k_steps
      refine ⟨rfl, _, _, _, [(C, listOf us5.toArray n5)], rfl, F5, N5, fun p hp => ?_, ⟨hK5.1, hK5.2.2.2.1, trivial⟩, us5, n5, rfl, ?_⟩
      · rw [List.mem_singleton.mp hp]
        exact hoffI (C, listOf us.toArray n) (.head _)
      · rw [hstep]
        unfold innerF
        rw [List.take_length] at hI5
        exact hI5
  case fin =>
    rintro h5 tk5 m5 nw5 F5 N5 ⟨hK5, us5, n5, rfl, hI5⟩
    have F5 : Fr g1 L1 h5 _ := know F5 (l := [("counts", .ref C)]) ⟨hK5.1, trivial⟩
    have N5 : News g1 L1 h5 ((C, listOf us5.toArray n5) :: src) := N5
    rw [List.take_length] at hI5
    k_steps
    refine hQV _ _ ?_
    k_steps
    exact ret_list hret (kept_end G1 F5) G1 N5 (.head _) hI5 rfl
end
end Mine
end
section
open PySem PySem.W PyProof.Rows PySem.Calls PySem.Spec PyProof.V PySem.SeqAt PyProof.Rows.LCg
set_option linter.unusedVariables false
namespace Mine
section
variable {M : Model} {A : Around} {R : GenEnd} {Y : Protocol} {n : Nat} {s₀ : Shared} {c : Code} {fs : List Frame} {s : Shared} {env : Env}
  {K : Flow → Sem Fin} {H : Value → Sem Fin} {gd : Bool → Bool} {lv : List Value → List Value}
noncomputable abbrev NoE (_ : Value) (_ : Shared) : Prop := False
theorem seg_do {α : Type} {m : Sem α} {K : α → Sem Fin} {H : Value → Sem Fin} (h : wpAny M (A.over c fs) m (fun a s' => Seg M A R Y n s₀ c (K a) fs s') NoE s) : Seg M A R Y n s₀ c (m.wrap K H gd lv) fs s :=
  seg_wrap (wpAny_mono h (fun _ _ x => x) fun _ _ x => x.elim)
theorem seg_stmt {st : Stmt} {rest : List Stmt} (h : wpAny M (A.over c fs) (exec st env) (fun f s' => Seg M A R Y n s₀ c (match f with | .next => (execs rest env).wrap K H gd lv | f => K f) fs s') NoE s) :
    Seg M A R Y n s₀ c ((execs (st :: rest) env).wrap K H gd lv) fs s := seg_execs_cons (seg_do h)
theorem seg_If {test : PySem.Expr} {body orelse : List Stmt} {pos : Pos}
    (h : wpAny M (A.over c fs) (isTrue test env (eval test env)) (fun b s' => Seg M A R Y n s₀ c ((if b = true then execs body env else execs orelse env).wrap K H gd lv) fs s') NoE s) :
    Seg M A R Y n s₀ c ((exec (.If test body orelse pos) env).wrap K H gd lv) fs s := by
  rw [exec_If]
  show Seg M A R Y n s₀ c (.at pos fun _ => (isTrue test env (eval test env) >>= fun b => if b = true then execs body env else execs orelse env).wrap K H gd lv) fs s
  refine seg_at ?_
  rw [Sem.bind_eq_wrap', Sem.wrap_wrap]
  exact seg_do h
theorem seg_For {target iter : PySem.Expr} {body orelse : List Stmt} {pos : Pos} (hs : ∀ x, foldedSetIterable iter env x = pure x)
    (h : wpAny M (A.over c fs) (eval iter env) (fun x s₁ => wpAny M (A.over c fs) (pyIter x) (fun it s₂ => ∀ p, Seg M A R Y n s₀ (.forLoop target it body orelse env) (M.den (.forLoop target it body orelse env))
      (.ret (fun r => ((match r with | .ok f => (.pure f : Sem Flow) | .error e => .raise e).onRaise fun (x : Value) => do
        if (← field x 1) == Value.none then unsupported "frame.own-activation:exception-without-traceback"
        setFlight x env.frame).wrap K H gd lv) none (gd false) (lv []) c p [] :: fs) s₂) NoE s₁) NoE s) :
    Seg M A R Y n s₀ c ((exec (.For target iter body orelse pos) env).wrap K H gd lv) fs s := by
  rw [exec_For]
  show Seg M A R Y n s₀ c (.at pos fun _ => (eval iter env >>= fun x₀ => foldedSetIterable iter env x₀ >>= fun x => standAt iter.pos >>= fun _ => holding [x] (pyIter x) >>= fun it => runOwn (.forLoop target it body orelse env) env).wrap K H gd lv) fs s
  refine seg_at ?_
  rw [Sem.bind_eq_wrap', Sem.wrap_wrap]
  refine seg_do (wpAny_mono h (fun x s₁ h₁ => ?_) fun _ _ x => x)
  rw [hs x]
  show Seg M A R Y n s₀ c (.at iter.pos fun _ => (holding [x] (pyIter x) >>= fun it => runOwn (.forLoop target it body orelse env) env).wrap K H gd lv) fs s₁
  refine seg_at ?_
  rw [Sem.bind_eq_wrap', Sem.wrap_wrap]
  refine seg_do (wpAny_holding (wpAny_mono h₁ (fun it s₂ h₂ => ?_) fun _ _ x => x))
  exact seg_call h₂
end
section
variable {prog : Program} {w : World} {A : Around} {R : GenEnd} {Y : Protocol} {n : Nat} {s₀ : Shared} {fs : List Frame} {s : Shared} {env : Env}
theorem seg_forLoop {target : PySem.Expr} {it : Value} {body orelse : List Stmt}
    (h : wpAny (model prog w) (A.over (.forLoop target it body orelse env) fs) (pyNext it) (fun r s' => match r with
      | none => Seg (model prog w) A R Y n s₀ (.forLoop target it body orelse env) (.pure (.again (.block orelse env))) fs s'
      | some v => wpAny (model prog w) (A.over (.forLoop target it body orelse env) fs) (letOwnedTupleGo target it v) (fun _ s₁ => wpAny (model prog w) (A.over (.forLoop target it body orelse env) fs) (assign target env v) (fun _ s₂ =>
          Seg (model prog w) A R Y n s₀ (.forLoop target it body orelse env) ((execs body env).wrap (fun f => match f with
            | .next | .cont => .pure (.again (.forLoop target it body orelse env))
            | .brk => .pure (.done .next)
            | .ret v => .pure (.done (.ret v))) (fun e => (do noteFrame e env; theTreesLotGoes e : Sem Unit).wrap (fun _ => .raise e) .raise id id) id id) fs s₂) NoE s₁) NoE s') NoE s) :
    Seg (model prog w) A R Y n s₀ (.forLoop target it body orelse env) ((model prog w).den (.forLoop target it body orelse env)) fs s := by
  show Seg _ A R Y n s₀ _ ((forTurn target it body orelse env).onRaise (fun x => do noteFrame x env; theTreesLotGoes x)) fs s
  unfold forTurn
  rw [Sem.onRaise_eq_wrap]
  show Seg _ A R Y n s₀ _ (.at target.pos fun _ => ((pyNext it).onRaise (fun _ => standAt { target.pos with line := 0 }) >>= _).wrap _ _ _ _) fs s
  refine seg_at ?_
  rw [Sem.bind_eq_wrap', Sem.wrap_wrap]
  refine seg_do (wpAny_onRaise (wpAny_mono h (fun r s' hr => ?_) fun _ _ x => x.elim))
  cases r with
  | none => exact hr
  | some v =>
    show Seg _ A R Y n s₀ _ ((letOwnedTupleGo target it v >>= _).wrap _ _ _ _) fs s'
    rw [Sem.bind_eq_wrap', Sem.wrap_wrap]
    refine seg_do (wpAny_mono hr (fun _ s₁ h₁ => ?_) fun _ _ x => x)
    show Seg _ A R Y n s₀ _ ((assign target env v >>= _).wrap _ _ _ _) fs s₁
    rw [Sem.bind_eq_wrap', Sem.wrap_wrap]
    refine seg_do (wpAny_mono h₁ (fun _ s₂ h₂ => ?_) fun _ _ x => x)
    show Seg _ A R Y n s₀ _ ((execs body env >>= _).wrap _ _ _ _) fs s₂
    rw [Sem.bind_eq_wrap', Sem.wrap_wrap]
    rw [Sem.wrap_congr (execs body env) _ _ (K' := fun f => match f with
            | .next | .cont => .pure (.again (.forLoop target it body orelse env))
            | .brk => .pure (.done .next)
            | .ret v => .pure (.done (.ret v))) (H' := (fun e => (do noteFrame e env; theTreesLotGoes e : Sem Unit).wrap (fun _ => .raise e) .raise id id))
        (fun f => by cases f <;> rfl)
        (fun e => by first | exact Sem.bind_eq_wrap _ _ | (show (do noteFrame e env; theTreesLotGoes e : Sem Unit).bind (fun _ => .raise e) = _; rw [Sem.bind_eq_wrap]))]
    exact h₂
end
end Mine
end
section
open PySem PySem.W PyProof.Rows PySem.Calls PySem.Spec PyProof.V PySem.SeqAt PyProof.Rows.LCg
set_option linter.unusedVariables false
namespace Mine
/-- all stands but the generator's own frame and its list iterators -/
noncomputable def KeepG (LG : Addr) (h h' : Heap) : Prop := ∀ b o, h.get? b = some o → b ≠ LG → ¬ (LG < b ∧ o.cls = .type "list_iterator") → h'.get? b = some o
theorem KeepG.refl (LG : Addr) (h : Heap) : KeepG LG h h := fun _ _ e _ _ => e
noncomputable def GY (g : Heap) (LG : Addr) (wv : Nat → Int) (nE : Nat) : Protocol := fun m s₀ v s' κ => m + 1 ≠ nE ∧ ∃ t h' tk I oL oI, v = .int (wv m) t ∧ s' = { s₀ with heap := h', toks := tk } ∧ h'.get? LG = some oL ∧ h'.get? I = some oI ∧ LG < I ∧ oI.cls = .type "list_iterator" ∧ KeepG LG s₀.heap h' ∧
  (m ≠ 0 → ∀ s'', (∀ b o, g.get? b = some o → s''.heap.get? b = some o) → s''.heap.get? LG = some oL → s''.heap.get? I = some oI → κ (.send .none) s'')
noncomputable def GR (LG : Addr) (nE : Nat) (n : Nat) (s₀ s₁ : Shared) : Prop := n = nE ∧ ∃ h' tk, s₁ = { s₀ with heap := h', toks := tk } ∧ KeepG LG s₀.heap h'
noncomputable abbrev GRR (LG : Addr) (nE : Nat) : GenEnd := fun n s₀ r s₁ => r = .ok (.ret .none) ∧ GR LG nE n s₀ s₁
/-- the generator's frame at work -/
structure GS (g : Heap) (LG : Addr) (H0 : Heap) (m : PySem.Str → Option Value) (h : Heap) : Prop where
  ns : h.Ns LG m
  up : ∀ b o, g.get? b = some o → h.get? b = some o
  keep : KeepG LG H0 h
  above : g.objs.size ≤ LG
theorem GS.fresh {g H0 h : Heap} {LG : Addr} {m : PySem.Str → Option Value} (x : GS g LG H0 m h) {b : Addr} (hb : LG ≤ b) : g.get? b = none := Heap.get?_none_of_le (Nat.le_trans x.above hb)
theorem GS.set {g H0 h h' : Heap} {LG : Addr} {m m' : PySem.Str → Option Value} (x : GS g LG H0 m h) (hs : Heap.SameBut LG h h') (hn : h'.Ns LG m') : GS g LG H0 m' h' :=
  ⟨hn, fun b o e => hs.extBut b o (fun q => by have := x.fresh (b := b) (Nat.le_of_eq q.symm); rw [this] at e; cases e) (x.up b o e), fun b o e n1 n2 => hs.extBut b o n1 (x.keep b o e n1 n2), x.above⟩
theorem GS.iter {g H0 h h' : Heap} {LG I : Addr} {oI : Obj} {m : PySem.Str → Option Value} (x : GS g LG H0 m h) (hI : LG < I) (e : h.get? I = some oI) (ec : oI.cls = .type "list_iterator") (hs : Heap.ExtBut I h h') : GS g LG H0 m h' :=
  ⟨x.ns.at' fun o e => hs _ o (Nat.ne_of_lt hI) e, fun b o e => hs b o (fun q => by have := x.fresh (b := b) (Nat.le_of_lt (q ▸ hI)); rw [this] at e; cases e) (x.up b o e),
    fun b o e' n1 n2 => hs b o (fun q => by have := x.keep b o e' n1 n2; rw [q, e] at this; cases this; exact n2 ⟨q ▸ hI, ec⟩) (x.keep b o e' n1 n2), x.above⟩
theorem GS.again {g H0 h : Heap} {LG : Addr} {m : PySem.Str → Option Value} (x : GS g LG H0 m h) {oL : Obj} (e : h.get? LG = some oL) {h' : Heap} (k : ∀ b o, g.get? b = some o → h'.get? b = some o) (e' : h'.get? LG = some oL) : GS g LG h' m h' :=
  ⟨by obtain ⟨o, es, ep, q, r⟩ := x.ns; rw [e] at q; cases q; exact ⟨_, es, ep, e', r⟩, k, KeepG.refl _ _, x.above⟩
section
variable {prog : Program} {w : World} {A : Around} {E : Value → Shared → Prop} {s : Shared} {env : Env} {g H0 : Heap} {LG : Addr} {m : PySem.Str → Option Value}
theorem gs_name {x : PySem.Str} {pos : Pos} {v : Value} {Q : Value → Shared → Prop} (hk : env.scope.kind = .function) (hL : env.locals = LG) (hx : env.kindOf x = some .local) (G : GS g LG H0 m s.heap) (e : m x = some v) (h : Q v s) (hd : (x == ("__debug__" : PySem.Str)) = false := by decide) :
    wpAny (model prog w) A (eval (.Name x pos) env) Q E s := wpAny_Name (wpAny_loadName_local hk hx (hL.symm ▸ G.ns) e h) hd
theorem gs_store {x : PySem.Str} {v : Value} {Q : Unit → Shared → Prop} (hk : env.scope.kind = .function) (hL : env.locals = LG) (hx : env.kindOf x = some .local) (G : GS g LG H0 m s.heap)
    (h : ∀ h', GS g LG H0 (fun y => if y = x then some v else m y) h' → Heap.SameBut LG s.heap h' → Q () { s with heap := h', toks := s.toks + 1 }) :
    wpAny (model prog w) A (storeName env x v) Q E s := by
  subst hL
  exact wpAny_storeName_local hx G.ns (fun h' hn hs => h h' (G.set hs hn) hs) (by rw [hk]; rfl)
end
structure GEnv (prog : Program) (w : World) (env : Env) (g : Heap) (LG : Addr) : Prop where
  kind : env.scope.kind = .function
  loc : env.locals = LG
  gr : env.kindOf "grouping" = some .local
  li : env.kindOf "last_interval" = some .local
  iv : env.kindOf "interval" = some .local
  co : env.scope.isCoroutine = false
  ia : interactive env = false
  cm : ∀ (A : Around) (E : Value → Shared → Prop) (s : Shared) (pos : Pos) (Q : Value → Shared → Prop), (∀ b o, g.get? b = some o → s.heap.get? b = some o) → (∀ t, Q (.int 127 t) s) → wpAny (model prog w) A (eval (.Name "CHAR_MAX" pos) env) Q E s
section
variable {prog : Program} {w : World} {A : Around} {n : Nat} {s₀ s : Shared} {fs : List Frame} {env : Env} {g H0 : Heap} {LG I z : Addr} {m : PySem.Str → Option Value} {wv : Nat → Int} {nE : Nat} {vs : List Value} {k : Nat}
  {p0 p1 p2 p3 p4 p5 p6 p7 p8 p9 p10 p11 p12 p13 p14 p15 p16 p17 p18 p19 p20 p21 p22 p23 : Pos} {rz : List Stmt} {k0 k1 k2 : Nat}
noncomputable abbrev gAss (p14 p15 p16 : Pos) : Stmt := .Assign [.Name "last_interval" p14] (.Name "interval" p15) p16
noncomputable abbrev gYld (p11 p12 p13 : Pos) : Stmt := .Expr (.Yield (some (.Name "interval" p11)) p12) p13
noncomputable abbrev gIfN (rz : List Stmt) (k1 : Nat) (p17 p18 p19 p20 : Pos) : Stmt := .If (.Compare (.Name "last_interval" p17) [.Is] [.Constant .none k1 p18] p19) rz [] p20
noncomputable abbrev gLas (p21 p22 p23 : Pos) : Stmt := .Expr (.Yield (some (.Name "last_interval" p21)) p22) p23
noncomputable abbrev KL (cL : Code) : Flow → Sem Fin := fun f => match f with
            | .next | .cont => .pure (.again cL)
            | .brk => .pure (.done .next)
            | .ret v => .pure (.done (.ret v))
noncomputable abbrev HL (env : Env) : Value → Sem Fin := fun e => (do noteFrame e env; theTreesLotGoes e : Sem Unit).wrap (fun _ => .raise e) .raise id id
theorem seg_ass (V : GEnv prog w env g LG) {c : Code} {H : Value → Sem Fin} {R : GenEnd} {Y : Protocol} {K : Flow → Sem Fin} {x : Value} (G : GS g LG H0 m s.heap) (e : m "interval" = some x)
    (h : ∀ h' tk, GS g LG H0 (fun y => if y = ("last_interval" : PySem.Str) then some x else m y) h' → Heap.SameBut LG s.heap h' → Seg (model prog w) A R Y n s₀ c (K .next) fs { s with heap := h', toks := tk }) :
    Seg (model prog w) A R Y n s₀ c ((execs [gAss p14 p15 p16] env).wrap K H id id) fs s := by
  refine seg_stmt (wpAny_Assign_Name ?_)
  refine gs_name V.kind V.loc V.iv G e ?_
  exact gs_store V.kind V.loc V.li G fun h' G' hs => seg_execs_nil (h h' _ G' hs)
theorem seg_eqtest (V : GEnv prog w env g LG) {c : Code} {H : Value → Sem Fin} {R : GenEnd} {Y : Protocol} {K : Flow → Sem Fin} {x : Int} {t : Tok} {y : Int} {e : PySem.Expr} {yes rest : List Stmt} (G : GS g LG H0 m s.heap) (ex : m "interval" = some (.int x t))
    (he : ∀ (A : Around) (s' : Shared) (Q : Value → Shared → Prop), s'.heap = s.heap → (∀ t tk, Q (.int y t) { s' with toks := tk }) → wpAny (model prog w) A (eval e env) Q NoE s')
    (hm : behindInMarks .Eq e = false)
    (h : ∀ tk, Seg (model prog w) A R Y n s₀ c ((execs (if x = y then yes else []) env).wrap (fun f => match f with | .next => (execs rest env).wrap K H id id | f => K f) H id id) fs { s with toks := tk }) :
    Seg (model prog w) A R Y n s₀ c ((execs (.If (.Compare (.Name "interval" p1) [.Eq] [e] p2) yes [] p3 :: rest) env).wrap K H id id) fs s := by
  refine seg_execs_cons (seg_If (wpAny_isTrue_Compare1 ?_ hm))
  refine gs_name V.kind V.loc V.iv G ex ?_
  refine he _ _ _ rfl fun t' tk => ?_
  refine eq_int (wpAny_truthy_bool ?_)
  have := h tk
  by_cases q : x = y
  · subst q
    rw [if_pos rfl] at this
    rw [show (x == x) = true from beq_self_eq_true x, if_pos rfl]
    exact this
  · rw [if_neg q] at this
    rw [show (x == y) = false from beq_eq_false_iff_ne.mpr q, if_neg Bool.false_ne_true]
    exact this
noncomputable abbrev gWh (k2 : Nat) (p24 p21 p22 p23 p25 : Pos) : Stmt := .While (.Constant (.bool true) k2 p24) [gLas p21 p22 p23] [] p25
section
variable {p24 p25 p26 p27 p28 p29 : Pos}
noncomputable abbrev gBody (rz : List Stmt) (k0 k1 k2 : Nat) (p0 p1 p2 p3 p4 p5 p6 p7 p8 p9 p11 p12 p13 p14 p15 p16 p17 p18 p19 p20 p21 p22 p23 p24 p25 : Pos) : List Stmt :=
  [.If (.Compare (.Name "interval" p0) [.Eq] [.Name "CHAR_MAX" p1] p2) [.Return none p3] [] p4, .If (.Compare (.Name "interval" p5) [.Eq] [.Constant (.int 0) k0 p6] p7) [gIfN rz k1 p17 p18 p19 p20, gWh k2 p24 p21 p22 p23 p25] [] p8, gYld p11 p12 p13, gAss p14 p15 p16]
noncomputable abbrev gLoop (pt : Pos) (I : Addr) (b : List Stmt) (env : Env) : Code := .forLoop (.Name "interval" pt) (.ref I) b [] env
theorem gen_turn (V : GEnv prog w env g LG) {R : GenEnd} {Y : Protocol} {x : Int} {t : Tok} (hl : g.IsList z vs.toArray) (G : GS g LG H0 m s.heap) (hit : s.heap.IsListIter I z k) (hI : LG < I) (hx : vs[k]? = some (.int x t))
    {cL : Code} (hc : cL = gLoop p9 I (gBody rz k0 k1 k2 p0 p1 p2 p3 p4 p5 p6 p7 p8 p9 p11 p12 p13 p14 p15 p16 p17 p18 p19 p20 p21 p22 p23 p24 p25) env)
    (h127 : x = 127 → ∀ h' tk, KeepG LG H0 h' → Seg (model prog w) A R Y n s₀ cL (.pure (.done (.ret .none))) fs { s with heap := h', toks := tk })
    (h0 : x = 0 → ∀ h' tk m', GS g LG H0 m' h' → m' "last_interval" = m "last_interval" → h'.IsListIter I z (k + 1) →
      Seg (model prog w) A R Y n s₀ cL ((execs [gIfN rz k1 p17 p18 p19 p20, gWh k2 p24 p21 p22 p23 p25] env).wrap (fun f => match f with | .next => (execs [gYld p11 p12 p13, gAss p14 p15 p16] env).wrap (KL cL) (HL env) id id | f => KL cL f) (HL env) id id) fs { s with heap := h', toks := tk })
    (hy : x ≠ 127 → x ≠ 0 → ∀ h' tk m', GS g LG H0 m' h' → m' "interval" = some (.int x t) → h'.IsListIter I z (k + 1) →
      Seg (model prog w) A R Y n s₀ cL ((execs [gYld p11 p12 p13, gAss p14 p15 p16] env).wrap (KL cL) (HL env) id id) fs { s with heap := h', toks := tk }) :
    Seg (model prog w) A R Y n s₀ cL ((model prog w).den cL) fs s := by
  subst hc
  refine seg_forLoop ?_
  refine wpAny_pyNext_list_item hit (hl.at fun o e => G.up _ o e) (x := .int x t) (by simpa using hx) fun h₁ hit₁ hs₁ => ?_
  obtain ⟨oI, eI, cI, _⟩ := id hit
  have G₁ : GS g LG H0 m h₁ := G.iter hI eI cI hs₁.extBut
  refine wpAny_pure ?_
  refine wpAny_assign_Name (gs_store V.kind V.loc V.iv G₁ fun h₂ G₂ hs₂ => ?_)
  have hit₂ : h₂.IsListIter I z (k + 1) := hit₁.extBut hs₂.extBut (Nat.ne_of_gt hI)
  have ei : (fun y => if y = ("interval" : PySem.Str) then some (Value.int x t) else m y) "interval" = some (Value.int x t) := if_pos rfl
  refine seg_eqtest V G₂ ei (fun A s' Q q hQ => V.cm A NoE s' p1 Q (by rw [q]; exact G₂.up) fun t => hQ t s'.toks) (by with_unfolding_all rfl) fun tk => ?_
  by_cases q : x = 127
  · rw [if_pos q]
    exact seg_execs_cons (seg_do (wpAny_Return_none (h127 q _ _ G₂.keep)))
  · rw [if_neg q]
    refine seg_execs_nil ?_
    refine seg_eqtest V G₂ ei (fun A s' Q q hQ => wpAny_Constant_int (hQ _ _)) (by with_unfolding_all rfl) fun tk => ?_
    by_cases q0 : x = 0
    · rw [if_pos q0]
      exact h0 q0 _ _ _ G₂ (if_neg (by decide)) hit₂
    · rw [if_neg q0]
      exact seg_execs_nil (hy q q0 _ _ _ G₂ ei hit₂)
theorem gen_yield (V : GEnv prog w env g LG) {R : GenEnd} {x : Int} {t : Tok} {j : Nat} (G : GS g LG H0 m s.heap) (hit : s.heap.IsListIter I z (k + 1)) (hI : LG < I) (ei : m "interval" = some (.int x t)) (es : H0 = s₀.heap) (hs : ∃ h tk, s = { s₀ with heap := h, toks := tk })
    {cL : Code} (hc : cL.quiet = true) (hfs : splitAtGen fs = none) (hfg : fs.any Frame.guarded = false) (hw : wv j = x) (hj : j + 1 ≠ nE)
    (h : j ≠ 0 → ∀ (s'' : Shared) h' tk m', GS g LG s''.heap m' h' → m' "last_interval" = some (.int x t) → h'.IsListIter I z (k + 1) → Seg (model prog w) A R (GY g LG wv nE) j s'' cL ((model prog w).den cL) fs { s'' with heap := h', toks := tk }) :
    Seg (model prog w) A R (GY g LG wv nE) (j + 1) s₀ cL ((execs [gYld p11 p12 p13, gAss p14 p15 p16] env).wrap (KL cL) (HL env) id id) fs s := by
  obtain ⟨hh, tk, rfl⟩ := hs
  refine seg_execs_cons (seg_Expr_Yield hfs rfl hfg ?_ V.co V.ia)
  refine gs_name V.kind V.loc V.iv G ei fun kap hk => ?_
  obtain ⟨oL, eL⟩ : ∃ oL, hh.get? LG = some oL := by obtain ⟨o, _, _, e, _⟩ := G.ns; exact ⟨o, e⟩
  obtain ⟨oI, eI, cI, dI⟩ := id hit
  refine ⟨hj, t, hh, tk, I, oL, oI, by rw [hw], rfl, eL, eI, hI, cI, es ▸ G.keep, fun hj0 s'' up eL' eI' => hk _ _ ?_⟩
  have G' := G.again eL up eL'
  refine seg_ass V G' ei fun h' tk' G'' hs => ?_
  refine seg_again hc (h hj0 s'' h' tk' _ G'' (if_pos rfl) ?_)
  exact ⟨oI, hs.extBut _ _ (Nat.ne_of_gt hI) eI', cI, dI⟩
theorem gen_while (V : GEnv prog w env g LG) {R : GenEnd} {b : Int} {t : Tok} (hI : LG < I) (hn0 : nE = 0) (hfs : splitAtGen fs = none) (hfg : fs.any Frame.guarded = false) : ∀ (j : Nat), (∀ i, i ≤ j → wv i = b) → ∀ (s₀ : Shared) h tk m, GS g LG s₀.heap m h → m "last_interval" = some (.int b t) → h.IsListIter I z k →
    Seg (model prog w) A R (GY g LG wv nE) (j + 1) s₀ (.whileLoop (.Constant (.bool true) k2 p24) [gLas p21 p22 p23] [] env) ((model prog w).den (.whileLoop (.Constant (.bool true) k2 p24) [gLas p21 p22 p23] [] env)) fs { s₀ with heap := h, toks := tk } := by
  intro j
  induction j with
  | zero =>
    intro hw s₀ h tk m G ei hit
    refine seg_whileLoop (wpAny_isTrue_value (wpAny_Constant_bool (wpAny_truthy_bool ?_)))
    rw [if_pos rfl]
    refine seg_execs_cons (seg_Expr_Yield hfs rfl hfg ?_ V.co V.ia)
    refine gs_name V.kind V.loc V.li G ei fun kap hk => ?_
    obtain ⟨oL, eL⟩ : ∃ oL, h.get? LG = some oL := by obtain ⟨o, _, _, e, _⟩ := G.ns; exact ⟨o, e⟩
    obtain ⟨oI, eI, cI, dI⟩ := id hit
    exact ⟨by omega, t, h, tk, I, oL, oI, by rw [hw 0 (Nat.le_refl _)], rfl, eL, eI, hI, cI, G.keep, fun hj0 => absurd rfl hj0⟩
  | succ j ih =>
    intro hw s₀ h tk m G ei hit
    refine seg_whileLoop (wpAny_isTrue_value (wpAny_Constant_bool (wpAny_truthy_bool ?_)))
    rw [if_pos rfl]
    refine seg_execs_cons (seg_Expr_Yield hfs rfl hfg ?_ V.co V.ia)
    refine gs_name V.kind V.loc V.li G ei fun kap hk => ?_
    obtain ⟨oL, eL⟩ : ∃ oL, h.get? LG = some oL := by obtain ⟨o, _, _, e, _⟩ := G.ns; exact ⟨o, e⟩
    obtain ⟨oI, eI, cI, dI⟩ := id hit
    refine ⟨by omega, t, h, tk, I, oL, oI, by rw [hw _ (Nat.le_refl _)], rfl, eL, eI, hI, cI, G.keep, fun _ s'' up eL' eI' => hk _ _ ?_⟩
    show Seg _ _ _ _ _ _ _ (.pure (.again _)) _ _
    refine seg_again rfl ?_
    exact ih (fun i hi => hw i (Nat.le_succ_of_le hi)) s'' s''.heap s''.toks m (G.again eL up eL') ei ⟨oI, eI', cI, dI⟩
theorem gen_zero (V : GEnv prog w env g LG) {R : GenEnd} {b : Int} {t : Tok} {j : Nat} (hI : LG < I) (hn0 : nE = 0) (hfs : splitAtGen fs = none) (hfg : fs.any Frame.guarded = false) (hw : ∀ i, i ≤ j → wv i = b) {h : Heap} {tk : Nat} (G : GS g LG s₀.heap m h) (ei : m "last_interval" = some (.int b t)) (hit : h.IsListIter I z k) {cL : Code} {K : Flow → Sem Fin} {H : Value → Sem Fin} :
    Seg (model prog w) A R (GY g LG wv nE) (j + 1) s₀ cL ((execs [gIfN rz k1 p17 p18 p19 p20, gWh k2 p24 p21 p22 p23 p25] env).wrap K H id id) fs { s₀ with heap := h, toks := tk } := by
  refine seg_execs_cons (seg_If (wpAny_isTrue_Compare1 ?_ (by with_unfolding_all rfl)))
  refine gs_name V.kind V.loc V.li G ei ?_
  refine wpAny_Constant_none (wpAny_is_other rfl (fun q => by cases q) (wpAny_truthy_bool ?_))
  rw [if_neg Bool.false_ne_true]
  refine seg_execs_nil (seg_execs_cons (seg_While fun p => ?_))
  exact gen_while V hI hn0 (by simp [splitAtGen, hfs]) (by simp [Frame.guarded, hfg]) j hw s₀ h tk m G ei hit
theorem gen_end {R : GenEnd} {Y : Protocol} {pt : Pos} {b : List Stmt} (hl : g.IsList z vs.toArray) (G : GS g LG H0 m s.heap) (hit : s.heap.IsListIter I z k) (hI : LG < I) (hx : vs[k]? = none) (hh : (A.over (gLoop pt I b env) fs).handled = none)
    (h : ∀ h' tk, KeepG LG H0 h' → Seg (model prog w) A R Y n s₀ (.block [] env) (.pure (.done .next)) fs { s with heap := h', toks := tk }) :
    Seg (model prog w) A R Y n s₀ (gLoop pt I b env) ((model prog w).den (gLoop pt I b env)) fs s := by
  refine seg_forLoop ?_
  refine wpAny_pyNext_list_end hh hit (hl.at fun o e => G.up _ o e) (by simpa using hx) fun h₁ he₁ => ?_
  obtain ⟨oI, eI, cI, _⟩ := id hit
  exact seg_again rfl (h h₁ _ (G.iter hI eI cI he₁).keep)
end
end
/-- the generator waits, and what it will tell stands -/
noncomputable def Good (prog : Program) (w : World) (A : Around) (g : Heap) (LG : Addr) (wv : Nat → Int) (nE n : Nat) (own : List (Addr × Obj)) (gs : GenState) : Prop :=
  ∀ s : Shared, (∀ b o, g.get? b = some o → s.heap.get? b = some o) → (∀ p ∈ own, s.heap.get? p.1 = some p.2) → gs.Goes (model prog w) A (GRR LG nE) (GY g LG wv nE) n (.send .none) s
section
variable {prog : Program} {w : World} {A : Around} {env : Env} {g : Heap} {LG z : Addr} {wv : Nat → Int} {nE : Nat} {vs : List Value}
  {p0 p1 p2 p3 p4 p5 p6 p7 p8 p9 p10 p11 p12 p13 p14 p15 p16 p17 p18 p19 p20 p21 p22 p23 p24 p25 p26 p27 p28 p29 p30 : Pos} {rz : List Stmt} {k0 k1 k2 k3 : Nat}
theorem gen_good (V : GEnv prog w env g LG) (hh : A.handled = none) {a b : Int} {ta tb : Tok} (hl : g.IsList z vs.toArray) (ha : vs[0]? = some (.int a ta)) (hb : vs[1]? = some (.int b tb)) (a0 : a ≠ 0) (a1 : a ≠ 127) (b0 : b ≠ 0) (b1 : b ≠ 127)
    (hend : (nE = 6 ∧ vs[2]? = none) ∨ (nE = 6 ∧ ∃ t, vs[2]? = some (.int 127 t)) ∨ (nE = 0 ∧ ∃ t, vs[2]? = some (.int 0 t)))
    (hw7 : wv 7 = a) (hw : ∀ i, i ≤ 6 → wv i = b) {m : PySem.Str → Option Value} {oL : Obj} {hL : Heap} (hns : hL.Ns LG m) (eL : hL.get? LG = some oL) (hm : m "grouping" = some (.ref z)) (habove : g.objs.size ≤ LG)
    {fb : List Stmt} (hfb : fb = [.Assign [.Name "last_interval" p26] (.Constant .none k3 p27) p28, .For (.Name "interval" p9) (.Name "grouping" p29) (gBody rz k0 k1 k2 p0 p1 p2 p3 p4 p5 p6 p7 p8 p9 p11 p12 p13 p14 p15 p16 p17 p18 p19 p20 p21 p22 p23 p24 p25) [] p30]) :
    Good prog w A g LG wv nE 8 [(LG, oL)] (.fresh (.func fb env)) := by
  subst hfb
  intro s up own
  refine ⟨rfl, seg_func (seg_stmt (wpAny_Assign_Name (wpAny_Constant_none ?_)))⟩
  have eL' : s.heap.get? LG = some oL := own _ (.head _)
  have G0 : GS g LG s.heap m s.heap := ⟨by obtain ⟨o, es, ep, q, r⟩ := hns; rw [eL] at q; cases q; exact ⟨_, es, ep, eL', r⟩, up, KeepG.refl _ _, habove⟩
  refine gs_store V.kind V.loc V.li G0 fun h₁ G₁ hs₁ => ?_
  refine seg_execs_cons (seg_For (by intro _; rfl) ?_)
  refine gs_name V.kind V.loc V.gr G₁ (by rw [if_neg (by decide)]; exact hm) ?_
  refine wpAny_pyIter_list (hl.at fun o e => G₁.up _ o e) fun p => ?_
  have hI : LG < h₁.objs.size := G₁.ns.lt
  have hupP : ∀ c o, h₁.get? c = some o → (h₁.push { cls := .type "list_iterator", data := .fields #[.ref z, .int 0 0] }).get? c = some o := fun c o e => Heap.get?_push_of_some _ e
  have G₂ : GS g LG s.heap _ (h₁.push { cls := .type "list_iterator", data := .fields #[.ref z, .int 0 0] }) := ⟨G₁.ns.at' fun o e => hupP _ o e, fun c o e => hupP _ _ (G₁.up c o e), fun c o e n1 n2 => hupP _ _ (G₁.keep c o e n1 n2), habove⟩
  have hit₂ : (h₁.push { cls := .type "list_iterator", data := .fields #[.ref z, .int 0 0] }).IsListIter h₁.objs.size z 0 := ⟨_, Heap.get?_push_size _ rfl, rfl, rfl⟩
  generalize h₁.push { cls := .type "list_iterator", data := .fields #[.ref z, .int 0 0] } = h₂ at *
  generalize h₁.objs.size = I at *
  refine gen_turn V hl G₂ hit₂ hI ha rfl (fun q => absurd q a1) (fun q => absurd q a0) fun _ _ h₃ tk₃ m₃ G₃ e₃ hit₃ => ?_
  refine gen_yield V G₃ hit₃ hI e₃ rfl ⟨_, _, rfl⟩ rfl rfl rfl hw7 (by rcases hend with h | h | h <;> omega) fun _ s4 h4 tk4 m4 G4 e4 hit4 => ?_
  refine gen_turn V hl G4 hit4 hI hb rfl (fun q => absurd q b1) (fun q => absurd q b0) fun _ _ h5 tk5 m5 G5 e5 hit5 => ?_
  refine gen_yield V G5 hit5 hI e5 rfl ⟨_, _, rfl⟩ rfl rfl rfl (hw 6 (Nat.le_refl _)) (by rcases hend with h | h | h <;> omega) fun _ s6 h6 tk6 m6 G6 e6 hit6 => ?_
  rcases hend with ⟨rfl, h2⟩ | ⟨rfl, t2, h2⟩ | ⟨rfl, t2, h2⟩
  · refine gen_end hl G6 hit6 hI h2 (by simp [Around.over, marksOver, Frame.marks, markOver, hh]) fun h7 tk7 k7 => ?_
    refine seg_leaf (r := .ok .next) ?_
    exact seg_end (.ok (.ret .none)) ⟨rfl, rfl, h7, tk7, rfl, k7⟩
  · refine gen_turn V hl G6 hit6 hI h2 rfl (fun _ h7 tk7 k7 => ?_) (fun q => absurd q (by decide)) fun q => absurd rfl q
    refine seg_leaf (r := .ok (.ret .none)) ?_
    exact seg_end (.ok (.ret .none)) ⟨rfl, rfl, h7, tk7, rfl, k7⟩
  · refine gen_turn V hl G6 hit6 hI h2 rfl (fun q => absurd q (by decide)) (fun _ h7 tk7 m7 G7 e7 hit7 => ?_) fun _ q => absurd rfl q
    exact gen_zero V hI rfl rfl rfl (fun i hi => hw i (Nat.le_trans hi (by decide))) G7 (e7.trans e6) hit7
end
end Mine
end
section
open PySem PySem.W PyProof.Rows PySem.Calls PySem.Spec PyProof.V PySem.SeqAt PyProof.Rows.LCg
set_option linter.unusedVariables false
namespace Mine
noncomputable def IsStop (h : Heap) (e : Addr) : Prop := ∃ o, h.get? e = some o ∧ o.cls = .type "StopIteration"
section
variable {prog : Program} {w : World} {A : Around} {E : Value → Shared → Prop} {s : Shared}
/-- a StopIteration is made: all that stood stands -/
theorem stop_new {Q : Value → Shared → Prop} (h : ∀ h' e, (∀ b o, s.heap.get? b = some o → h'.get? b = some o) → IsStop h' e → Q (.ref e) { s with heap := h' }) :
    wpAny (model prog w) A (newExc (.type "StopIteration") []) Q E s := by
  unfold newExc newTuple
  have one : firstArgMember (.type "StopIteration") [] = pure Value.none := by unfold firstArgMember; rfl
  rw [one]
  refine wpAny_bind (wpAny_newObj_type (wpAny_bind (wpAny_pure (wpAny_newObj_type (h _ _ (fun b o hb => ?_) ⟨_, Heap.get?_push_size _ rfl, rfl⟩) (by size_fits)))) (by size_fits))
  exact Heap.get?_push_of_some _ (Heap.get?_push_of_some _ hb)
theorem stop_it {α : Type} {Q : α → Shared → Prop} (hh : A.handled = none) (h : ∀ h' e, (∀ b o, s.heap.get? b = some o → h'.get? b = some o) → IsStop h' e → E (.ref e) { s with heap := h' }) :
    wpAny (model prog w) A (Builtin.SmallTypes.stopIteration : Sem α) Q E s :=
  wpAny_bind (stop_new fun h' e k st => wpAny_raiseNew_none hh (h h' e k st))
theorem nextOf_range_item {it : Addr} {x left step : Int} {Q : Value → Shared → Prop} (hit : PySem.IsRangeIter s.heap it x left step) (hleft : 0 < left)
    (hQ : ∀ h', PySem.IsRangeIter h' it (x + step) (left - 1) step → Heap.SameBut it s.heap h' → Q (.int x s.toks) { s with heap := h', toks := s.toks + 1 }) :
    wpAny (model prog w) A (Builtin.SmallTypes.nextOf (.ref it)) Q E s := by
  have run := AutoRange.range_iterator___next___range_iterator_1 it x left step (Int.not_le.mpr hleft)
  have isIt : s.TypeIs (.ref it) "range_iterator" := ⟨_, hit, rfl⟩
  refine wpAny_bind (wpAny_callSpecial?_slot isIt PySem.F.slot_range_iterator_next (PySem.call_meets PySem.F.slot_range_iterator_next isIt PySem.F.entry_range_iterator_next (PySem.F.args_range_iterator_next_1 _) run ⟨hit, wpAny_pure (hQ _ ?_ ?_)⟩))
  · exact Heap.get?_update_self _ (Heap.get?_update_self _ hit rfl) rfl
  · exact Heap.SameBut.trans (Heap.SameBut.update ..) (Heap.SameBut.update ..)
theorem nextOf_range_end {it : Addr} {x left step : Int} {Q : Value → Shared → Prop} (hh : A.handled = none) (hit : PySem.IsRangeIter s.heap it x left step) (hleft : left ≤ 0)
    (hE : ∀ h' e, Heap.ExtBut it s.heap h' → IsStop h' e → E (.ref e) { s with heap := h' }) : wpAny (model prog w) A (Builtin.SmallTypes.nextOf (.ref it)) Q E s := by
  have isIt : s.TypeIs (.ref it) "range_iterator" := ⟨_, hit, rfl⟩
  refine wpAny_bind (wpAny_callSpecial?_slot isIt PySem.F.slot_range_iterator_next (wpAny_call_entry PySem.F.slot_range_iterator_next isIt PySem.F.entry_range_iterator_next ?_ (PySem.F.args_range_iterator_next_1 _)))
  refine wpAny_bind (m := field (.ref it) 0) (wpAny_field hit rfl (x := rawInt x) rfl (wpAny_bind (m := field (.ref it) 1) (wpAny_field hit rfl (x := rawInt left) rfl (wpAny_bind (m := field (.ref it) 2) (wpAny_field hit rfl (x := rawInt step) rfl ?_)))))
  refine (congrArg (fun m => wpAny _ _ m _ _ s) (if_pos hleft)).mpr (wpAny_bind (wpAny_rule (wpAny_bind (stop_it hh fun h' e k st => hE h' e (fun c o _ => k c o) st))))
theorem nextOf_gen {a : Addr} {g n : Nat} {gs : GenState} {P : Nat → Shared → Shared → Prop} {Y : Protocol} {Q : Value → Shared → Prop} (hh : A.handled = none)
    (hl : s.heap.NoLimit) (hroom : A.depth < recursionLimit) (hg : s.heap.IsGen a g) (hgs : s.gens[g]? = some gs)
    (hgo : gs.Goes (model prog w) A.in1 (fun n s₀ r s₁ => r = .ok (.ret .none) ∧ P n s₀ s₁) Y n (.send .none) (s.setGen g .running))
    (hY : ∀ v s₁ gs', gs'.bare = true → Y (n - 1) (s.setGen g .running) v s₁ (fun r' s'' => match n with
        | 0 => False
        | m + 1 => gs'.Goes (model prog w) A.in1 (fun n s₀ r s₁ => r = .ok (.ret .none) ∧ P n s₀ s₁) Y m r' s'') → Q v (s₁.setGen g gs'))
    (hP : ∀ s₁, P n (s.setGen g .running) s₁ → ∀ h' e, (∀ b o, s₁.heap.get? b = some o → h'.get? b = some o) → IsStop h' e → E (.ref e) { s₁.setGen g .finished with heap := h' }) :
    wpAny (model prog w) A (Builtin.SmallTypes.nextOf (.ref a)) Q E s := by
  have wake : wpAny (model prog w) A.in1 (Builtin.Generator.genWake (.ref a) (.send .none)) (fun fin s' => ∃ v, fin = .done (.ret v) ∧ Q v s') E s := by
    refine wpAny_bind (wpAny_holding (wpAny_genNumber hg (wpAny_bind (wpAny_genState hgs ?_))))
    cases gs <;> first
    | exact hgo.elim
    | skip
    all_goals
      refine wpAny_bind (wpAny_roomToWake hl hroom (wpAny_resumeQ hgs hgo (fun r s₁ p => ?_) fun v s₁ gs' hb hv => wpAny_pure ⟨v, rfl, hY v s₁ gs' hb hv⟩))
      obtain ⟨q, p⟩ := p
      cases q
      exact wpAny_bind (wpAny_pure (wpAny_bind (m := newExc (.type "StopIteration") []) (stop_new fun h' e k st => wpAny_bind (wpAny_raiseNew_none hh (hP s₁ p h' e k st)))))
  exact wpAny_bind (wpAny_callSpecial?_slot hg.typeIs slot_gen_next (wpAny_call_entry slot_gen_next hg.typeIs entry_gen_next (wpAny_mono wake (fun fin s' ⟨v, e, q⟩ => ⟨v, e, wpAny_pure q⟩) fun _ _ x => x) (args_gen_next _)))
/-- zip's own tuple is free: nobody else holds it -/
theorem own_free {z TI TO : Addr} {Q : Bool → Shared → Prop} (hz : IsZip s.heap z TI TO .none) (h : Q true s) : wpAny (model prog w) A (Builtin.SmallTypes.ownedTupleIsFree (.ref z)) Q E s :=
  wpAny_bind (wpAny_field hz rfl (x := .none) rfl (wpAny_pure h))
/-- the new tuple is handed out: two notes in zip's own record -/
theorem own_out {z TI TO t : Addr} {f0 : Value} {Q : Unit → Shared → Prop} (hz : IsZip s.heap z TI TO f0) (h : ∀ h', IsZip h' z TI TO (rawInt t) → Heap.SameBut z s.heap h' → Q () { s with heap := h' }) :
    wpAny (model prog w) A (Builtin.SmallTypes.ownedTupleHandOut (.ref z) (.ref t)) Q E s :=
  wpAny_bind (wpAny_setField_rec hz (Nat.zero_lt_succ _) fun g1 z1 k1 => wpAny_setField_rec z1 (Nat.succ_lt_succ (Nat.zero_lt_succ _)) fun g2 z2 k2 => h g2 z2 (k1.trans k2))
/-- zip's next, the two draws left open -/
theorem zipG_next {z TI TO i1 i2 : Addr} {a b : Value} {Q : Value → Shared → Prop} (TOz : TO ≠ z) (TIz : TI ≠ z)
    (hz : IsZip s.heap z TI TO .none) (hTI : IsPair s.heap TI (.ref i1) (.ref i2)) (hTO : IsPair s.heap TO a b)
    (h : ∀ h₁, IsZip h₁ z TI TO .ellipsis → Heap.SameBut z s.heap h₁ →
      wpAny (model prog w) A (Builtin.SmallTypes.nextOf (.ref i1)) (fun x s₂ => IsPair s₂.heap TO a b ∧ ∀ h₃, IsPair h₃ TO x b → Heap.SameBut TO s₂.heap h₃ →
        wpAny (model prog w) A (Builtin.SmallTypes.nextOf (.ref i2)) (fun y s₄ => IsPair s₄.heap TO x b ∧ ∀ h₅, IsPair h₅ TO x y → Heap.SameBut TO s₄.heap h₅ → IsZip h₅ z TI TO .ellipsis ∧
          ∀ h₈, IsZip h₈ z TI TO (rawInt h₅.objs.size) → IsPair h₈ h₅.objs.size x y → h₈.objs.size = h₅.objs.size + 1 → (∀ c o, c ≠ z → h₅.get? c = some o → h₈.get? c = some o) → Q (.ref h₅.objs.size) { s₄ with heap := h₈ })
          (fun e s' => IsZip s'.heap z TI TO .ellipsis ∧ ∀ h'', Heap.SameBut z s'.heap h'' → E e { s' with heap := h'' }) { s₂ with heap := h₃ })
        (fun e s' => IsZip s'.heap z TI TO .ellipsis ∧ ∀ h'', Heap.SameBut z s'.heap h'' → E e { s' with heap := h'' }) { s with heap := h₁ }) :
    wpAny (model prog w) A (Builtin.«zip.__next__» ⟨[.ref z], []⟩) (fun fin s' => ∃ v, fin = .done (.ret v) ∧ Q v s') E s := by
  -- a draw that raises lets zip's mark go
  have off : ∀ (e : Value) (s' : Shared), (IsZip s'.heap z TI TO .ellipsis ∧ ∀ h'', Heap.SameBut z s'.heap h'' → E e { s' with heap := h'' }) →
      wpAny (model prog w) A (setField (.ref z) 0 .none) (fun _ s'' => E e s'') E s' := fun e s' x => wpAny_setField_rec x.1 (Nat.zero_lt_succ _) fun g _ k => x.2 g k
  -- ahead of the draws
  refine wpAny_bind (m := field (.ref z) 2) (wpAny_field hz rfl (x := .bool false) rfl (wpAny_bind (m := field (.ref z) 3) (wpAny_field hz rfl (x := .ref TI) rfl (wpAny_bind (wpAny_seqItems hTI rfl ?_)))))
  refine wpAny_bind (m := Builtin.SmallTypes.ownedTupleIsFree (.ref z)) (own_free hz (wpAny_bind (wpAny_rule (wpAny_bind (wpAny_field hz rfl (x := .ref TO) rfl (wpAny_bind (wpAny_setField_rec hz (Nat.zero_lt_succ _) fun g1 z1 k1 => wpAny_bind ?_)))))))
  -- the two draws
  refine wpAny_bind (wpAny_bind (wpAny_onRaise (wpAny_bind (m := Builtin.SmallTypes.nextOf (.ref i1)) (wpAny_mono (h g1 z1 k1) (fun x s₂ d1 => wpAny_pure ?_) off))))
  refine wpAny_bind (wpAny_seqItems d1.1 rfl (wpAny_bind (wpAny_updateSeq_pair d1.1 fun g2 p2 k2 => wpAny_bind (wpAny_letGo (wpAny_pure ?_)))))
  refine wpAny_bind (wpAny_bind (wpAny_onRaise (wpAny_bind (m := Builtin.SmallTypes.nextOf (.ref i2)) (wpAny_mono (d1.2 g2 p2 k2) (fun y s₄ d2 => wpAny_pure ?_) off))))
  refine wpAny_bind (wpAny_seqItems d2.1 rfl (wpAny_bind (wpAny_updateSeq_pair d2.1 fun g3 p3 k3 => wpAny_bind (wpAny_letGo (wpAny_pure (wpAny_pure ?_))))))
  -- a new tuple of the two
  obtain ⟨z3, fin⟩ := d2.2 g3 p3 k3
  refine wpAny_bind (wpAny_seqItems (show IsPair g3 TO x y from p3) rfl (wpAny_bind (wpAny_newTuple (wpAny_bind (own_out (s := { s₄ with heap := g3.push { cls := .type "tuple", data := .seq #[x, y] } }) (Heap.get?_push_of_some _ z3) fun g4 z4 k4 => wpAny_pure ⟨_, rfl, ?_⟩)))))
  exact fin g4 z4 (k4.extBut _ _ (Nat.ne_of_gt (Heap.lt_size z3)) (Heap.get?_push_size _ rfl)) (by rw [k4.1, Heap.size_push]) fun c o n e => k4.extBut _ _ n (Heap.get?_push_of_some _ e)
theorem pyNext_zipG {z TI TO i1 i2 : Addr} {a b : Value} {Q : Option Value → Shared → Prop} (TOz : TO ≠ z) (TIz : TI ≠ z)
    (hz : IsZip s.heap z TI TO .none) (hTI : IsPair s.heap TI (.ref i1) (.ref i2)) (hTO : IsPair s.heap TO a b)
    (h : ∀ h₁, IsZip h₁ z TI TO .ellipsis → Heap.SameBut z s.heap h₁ →
      wpAny (model prog w) A.in1 (Builtin.SmallTypes.nextOf (.ref i1)) (fun x s₂ => IsPair s₂.heap TO a b ∧ ∀ h₃, IsPair h₃ TO x b → Heap.SameBut TO s₂.heap h₃ →
        wpAny (model prog w) A.in1 (Builtin.SmallTypes.nextOf (.ref i2)) (fun y s₄ => IsPair s₄.heap TO x b ∧ ∀ h₅, IsPair h₅ TO x y → Heap.SameBut TO s₄.heap h₅ → IsZip h₅ z TI TO .ellipsis ∧
          ∀ h₈, IsZip h₈ z TI TO (rawInt h₅.objs.size) → IsPair h₈ h₅.objs.size x y → h₈.objs.size = h₅.objs.size + 1 → (∀ c o, c ≠ z → h₅.get? c = some o → h₈.get? c = some o) → Q (some (.ref h₅.objs.size)) { s₄ with heap := h₈ })
          (fun e s' => ∃ ea, e = .ref ea ∧ IsStop s'.heap ea ∧ IsZip s'.heap z TI TO .ellipsis ∧ ∀ h'', Heap.SameBut z s'.heap h'' → Q none { s' with heap := h'' }) { s₂ with heap := h₃ })
        (fun e s' => ∃ ea, e = .ref ea ∧ IsStop s'.heap ea ∧ IsZip s'.heap z TI TO .ellipsis ∧ ∀ h'', Heap.SameBut z s'.heap h'' → Q none { s' with heap := h'' }) { s with heap := h₁ }) :
    wpAny (model prog w) A (pyNext (.ref z)) Q E s := by
  have hT : s.TypeIs (.ref z) "zip" := ⟨_, hz, rfl⟩
  unfold pyNext
  have fix : ∀ (e : Value) (s' : Shared), (∃ ea, e = .ref ea ∧ IsStop s'.heap ea ∧ IsZip s'.heap z TI TO .ellipsis ∧ ∀ h'', Heap.SameBut z s'.heap h'' → Q none { s' with heap := h'' }) →
      IsZip s'.heap z TI TO .ellipsis ∧ ∀ h'', Heap.SameBut z s'.heap h'' → (∃ ea, e = .ref ea ∧ IsStop h'' ea ∧ Q none { s' with heap := h'' }) := fun e s' ⟨ea, q, ⟨o, ho, hc⟩, hz', hQ⟩ =>
    ⟨hz', fun h'' hs => ⟨ea, q, ⟨o, hs.extBut _ _ (fun q => by rw [q, hz'] at ho; cases ho; simp at hc) ho, hc⟩, hQ h'' hs⟩⟩
  refine wpAny_bind (wpAny_attempt (wpAny_callSpecial?_slot (name := PySem.Str.ofString "__next__") hT PySem.F.slot_zip_next
    (wpAny_call_entry PySem.F.slot_zip_next hT PySem.F.entry_zip_next
      (wpAny_mono (zipG_next (E := fun e s' => ∃ ea, e = .ref ea ∧ IsStop s'.heap ea ∧ Q none s') (Q := fun v s' => Q (some v) s') TOz TIz hz hTI hTO fun h₁ hz₁ hs₁ => wpAny_mono (h h₁ hz₁ hs₁) (fun x s₂ h₂ => ⟨h₂.1, fun h₃ a1 a2 => wpAny_mono (h₂.2 h₃ a1 a2) (fun y s₄ h₄ => h₄) fun e s' he => ?_⟩) fun e s' he => ?_) (fun fin s' hf => ?_) fun e s' he => ?_) (PySem.F.args_zip_next_1 _))))
  · obtain ⟨c1, c2⟩ := fix e s' he
    exact ⟨c1, fun h'' hs => c2 h'' hs⟩
  · obtain ⟨c1, c2⟩ := fix e s' he
    exact ⟨c1, fun h'' hs => c2 h'' hs⟩
  · obtain ⟨v, rfl, hq⟩ := hf
    exact ⟨v, rfl, wpAny_pure hq⟩
  · obtain ⟨ea, rfl, ⟨o, ho, hc⟩, hq⟩ := he
    exact wpAny_bind (wpAny_isInstance (T := "StopIteration") (b := true) ⟨o, ho, hc⟩ isSubtype_stop (wpAny_pure hq))
end
end Mine
end
section
open PySem PySem.W PyProof.Rows PySem.Calls PySem.Spec PyProof.V PySem.SeqAt PyProof.Rows.LCg
set_option linter.unusedVariables false
namespace Mine
noncomputable abbrev zgH1 (h : Heap) : Heap := h.push { cls := .type "range_iterator", data := .fields #[rawInt 0, rawInt 6, rawInt 1] }
noncomputable abbrev zgH2 (h : Heap) (GO : Addr) : Heap := (zgH1 h).push { cls := .type "tuple", data := .seq #[.ref h.objs.size, .ref GO] }
noncomputable abbrev zgH3 (h : Heap) (GO : Addr) : Heap := (zgH2 h GO).push { cls := .type "tuple", data := .seq #[.none, .none] }
noncomputable abbrev zgH4 (h : Heap) (GO : Addr) : Heap := (zgH3 h GO).push { cls := .type "zip", data := .fields #[.none, .bool false, .bool false, .ref (zgH1 h).objs.size, .ref (zgH2 h GO).objs.size] }
theorem rsize : Builtin.Range.rangeSize 0 6 1 = 6 := by decide +kernel
theorem rsmall : Builtin.Range.small 0 6 1 = true := by decide +kernel
theorem meets_zip_newG (r GO : Addr) (g : Nat) (t u v : Tok) :
    Meets (Builtin.«zip.__new__» ⟨[.type "zip", .ref r, .ref GO], []⟩) (fun _ R s => PySem.IsRange s.heap r 0 6 1 t u v ∧ s.heap.IsGen GO g ∧
      R (.ok (.ret (.ref (zgH3 s.heap GO).objs.size))) { s with heap := zgH4 s.heap GO }) :=
  .of_wp fun prog w A R s h => by
    obtain ⟨hp, gn, d, tk, os⟩ := s; obtain ⟨hl1, hl2, h⟩ := h
    have hsub := sub_zip
    have hL1 : PySem.IsRange (Shared.heap ⟨hp, gn, d, tk, os⟩) r 0 6 1 t u v := hl1
    have hL2 : Heap.IsGen (Shared.heap ⟨hp.push { cls := .type "range_iterator", data := .fields #[rawInt 0, rawInt (Builtin.Range.rangeSize 0 6 1), rawInt 1] }, gn, d, tk, os⟩) GO g := Heap.IsGen.push hl2 _
    have hs := rsmall
    wp_walk using wpAny_pyIter_range hL1 hs, wpAny_pyIter_gen hL2
    simp only [rsize]
    exact ⟨_, rfl, h⟩
section
variable {prog : Program} {w : World} {A : Around} {E : Value → Shared → Prop} {s : Shared}
theorem call_zipG {r GO : Addr} {g : Nat} {t u v : Tok} {Q : Value → Shared → Prop} (hr : PySem.IsRange s.heap r 0 6 1 t u v) (hg : s.heap.IsGen GO g)
    (h : ∀ h', IsZip h' (s.heap.objs.size + 3) (s.heap.objs.size + 1) (s.heap.objs.size + 2) .none → IsPair h' (s.heap.objs.size + 1) (.ref s.heap.objs.size) (.ref GO) →
      IsPair h' (s.heap.objs.size + 2) .none .none → PySem.IsRangeIter h' s.heap.objs.size 0 6 1 → h'.objs.size = s.heap.objs.size + 4 →
      (∀ c o, s.heap.get? c = some o → h'.get? c = some o) → Q (.ref (s.heap.objs.size + 3)) { s with heap := h' }) :
    wpAny (model prog w) A (call (.type "zip") [.ref r, .ref GO]) Q E s := by
  refine callType_new PySem.F.called_zip (by decide) (PySem.F.typeCall_zip_2 _ _) (PySem.F.newCall_zip_2 _ _) (fun obj => PySem.F.args_object_init_3 obj _ _) PySem.F.entry_zip_new
    (meets_zip_newG r GO g t u v) ⟨hr, hg, ?_⟩
  have z1 : (zgH1 s.heap).objs.size = s.heap.objs.size + 1 := Heap.size_push ..
  have z2 : (zgH2 s.heap GO).objs.size = s.heap.objs.size + 2 := by rw [Heap.size_push, z1]
  have z3 : (zgH3 s.heap GO).objs.size = s.heap.objs.size + 3 := by rw [Heap.size_push, z2]
  have z4 : (zgH4 s.heap GO).objs.size = s.heap.objs.size + 4 := by rw [Heap.size_push, z3]
  have g4 : (zgH4 s.heap GO).get? (zgH3 s.heap GO).objs.size = some _ := Heap.get?_push_size _ rfl
  have g3 : (zgH4 s.heap GO).get? (zgH2 s.heap GO).objs.size = some _ := Heap.get?_push_of_some _ (Heap.get?_push_size _ rfl)
  have g2 : (zgH4 s.heap GO).get? (zgH1 s.heap).objs.size = some _ := Heap.get?_push_of_some _ (Heap.get?_push_of_some _ (Heap.get?_push_size _ rfl))
  have g1 : (zgH4 s.heap GO).get? s.heap.objs.size = some _ := Heap.get?_push_of_some _ (Heap.get?_push_of_some _ (Heap.get?_push_of_some _ (Heap.get?_push_size _ rfl)))
  show _ ∧ _
  rw [z1, z2, z3] at g4
  rw [z1] at g2
  rw [z2] at g3
  rw [z3]
  exact ⟨⟨_, g4, rfl⟩, h _ g4 g2 g3 g1 z4 fun c o x => Heap.get?_push_of_some _ (Heap.get?_push_of_some _ (Heap.get?_push_of_some _ (Heap.get?_push_of_some _ x)))⟩
end
end Mine
end
section
open PySem PySem.W PyProof.Rows PySem.Calls PySem.Spec PyProof.V PySem.SeqAt PyProof.Rows.LCg
set_option linter.unusedVariables false
namespace Mine
/-- zip over range(6) and the generator, i drawn -/
structure ZH (prog : Program) (w : World) (A : Around) (g : Heap) (LG : Nat) (wv : Nat → Int) (nE : Nat) (N0 GO : Nat) (gno : Nat) (i : Nat) (h : Heap) (G : Array GenState) : Prop where
  lt1 : LG < GO
  lt2 : GO < N0
  z : IsZip h (N0 + 3) (N0 + 1) (N0 + 2) .none
  ti : IsPair h (N0 + 1) (.ref N0) (.ref GO)
  to : ∃ a b, IsPair h (N0 + 2) a b
  ri : PySem.IsRangeIter h N0 (0 + (i : Int) * 1) (6 - (i : Int)) 1
  go : h.IsGen GO gno
  good : ∃ gs gown, G[gno]? = some gs ∧ (∀ p ∈ gown, h.get? p.1 = some p.2 ∧ (p.1 = LG ∨ (LG < p.1 ∧ p.2.cls = .type "list_iterator"))) ∧ Good prog w A g LG wv nE (8 - i) gown gs
theorem nn {x y : Nat} (h : x < y ∨ y < x) : x ≠ y := h.elim Nat.ne_of_lt Nat.ne_of_gt
theorem AllBare.setIf {G : Array GenState} (h : AllBare G) {n : Nat} {x : GenState} (hx : x.bare = true) : AllBare (G.setIfInBounds n x) := fun y hy => by
  rcases Array.mem_or_eq_of_mem_setIfInBounds hy with hy | rfl
  · exact h y hy
  · exact hx
theorem setGen2 {G : Array GenState} {n : Nat} {a b c : GenState} (h : G[n]? = some a) : ((G.setIfInBounds n b).setIfInBounds n c)[n]? = some c := by
  obtain ⟨hn, _⟩ := Array.getElem?_eq_some_iff.mp h
  rw [Array.getElem?_setIfInBounds]
  simp [hn]
theorem nk {n a b : Nat} (h : a < b) : n + a < n + b ∨ n + b < n + a := .inl (Nat.add_lt_add_left h n)
theorem nk' {n a b : Nat} (h : a < b) : n + b < n + a ∨ n + a < n + b := .inr (Nat.add_lt_add_left h n)
theorem nz {n b : Nat} (h : 0 < b) : n < n + b ∨ n + b < n := .inl (Nat.lt_add_of_pos_right h)
theorem nz' {n b : Nat} (h : 0 < b) : n + b < n ∨ n < n + b := .inr (Nat.lt_add_of_pos_right h)
theorem nl {l g n k c : Nat} (h1 : l < g) (h2 : g < n) (h3 : c < l) : c < n + k ∨ n + k < c := .inl (Nat.lt_of_lt_of_le (Nat.lt_trans h3 (Nat.lt_trans h1 h2)) (Nat.le_add_right _ _))
theorem nl0 {l g n c : Nat} (h1 : l < g) (h2 : g < n) (h3 : c < l) : c < n ∨ n < c := .inl (Nat.lt_trans h3 (Nat.lt_trans h1 h2))
theorem nm {l g n k : Nat} (h1 : l < g) (h2 : g < n) : l < n + k ∨ n + k < l := .inl (Nat.lt_of_lt_of_le (Nat.lt_trans h1 h2) (Nat.le_add_right _ _))
theorem nm' {l g n k : Nat} (h1 : l < g) (h2 : g < n) : n + k < l ∨ l < n + k := .inr (Nat.lt_of_lt_of_le (Nat.lt_trans h1 h2) (Nat.le_add_right _ _))
theorem nm0 {l g n : Nat} (h1 : l < g) (h2 : g < n) : l < n ∨ n < l := .inl (Nat.lt_trans h1 h2)
theorem nm0' {l g n : Nat} (h1 : l < g) (h2 : g < n) : n < l ∨ l < n := .inr (Nat.lt_trans h1 h2)
section
variable {prog : Program} {w : World} {A : Around} {E : Value → Shared → Prop} {s : Shared} {g : Heap} {LG : Nat} {wv : Nat → Int} {nE : Nat} {N0 GO : Nat} {gno i : Nat}
theorem zip_step {Q : Option Value → Shared → Prop} (hh : A.handled = none) (hroom : A.depth < recursionLimit) (hlim : g.NoLimit) (up : ∀ b o, g.get? b = some o → s.heap.get? b = some o) (hlow : g.objs.size ≤ LG)
    (Zs : ZH prog w A.in1.in1 g LG wv nE N0 GO gno i s.heap s.gens) (hi : i ≤ 6)
    (hQ : i < 6 → 8 - i ≠ nE → ∀ (T : Nat) h' tk G' tx ty, (AllBare s.gens → AllBare G') → (∀ (b : Nat) o, s.heap.get? b = some o → b < LG → h'.get? b = some o) → IsZip h' (N0 + 3) (N0 + 1) (N0 + 2) (rawInt T) → IsPair h' T (.int i tx) (.int (wv (7 - i)) ty) → N0 + 3 < T →
      (∀ h'', IsZip h'' (N0 + 3) (N0 + 1) (N0 + 2) .none → (∀ (c : Nat) o, c ≠ N0 + 3 → LG ≤ c → h'.get? c = some o → h''.get? c = some o) → ZH prog w A.in1.in1 g LG wv nE N0 GO gno (i + 1) h'' G') → Q (some (.ref T)) { s with heap := h', toks := tk, gens := G' })
    (hE : (i = 6 ∨ 8 - i = nE) → ∀ h' tk G', (AllBare s.gens → AllBare G') → (∀ (b : Nat) o, s.heap.get? b = some o → b < LG → h'.get? b = some o) → Q none { s with heap := h', toks := tk, gens := G' }) :
    wpAny (model prog w) A (pyNext (.ref (N0 + 3))) Q E s := by
  obtain ⟨lt1, lt2, hz, hti, ⟨a, b, hto⟩, hri, hgo, gs, gown, hgs, hown, hgood⟩ := Zs
  have ne : ∀ {x y : Nat}, x < y → x ≠ y := fun h => Nat.ne_of_lt h
  refine pyNext_zipG (nn (by first | exact nk (by decide) | exact nk' (by decide) | exact nz (by decide) | exact nz' (by decide) | exact nl lt1 lt2 (by assumption) | exact nl0 lt1 lt2 (by assumption) | exact nm lt1 lt2 | exact nm' lt1 lt2 | exact nm0 lt1 lt2 | exact nm0' lt1 lt2 | exact .inr jp | omega)) (nn (by first | exact nk (by decide) | exact nk' (by decide) | exact nz (by decide) | exact nz' (by decide) | exact nl lt1 lt2 (by assumption) | exact nl0 lt1 lt2 (by assumption) | exact nm lt1 lt2 | exact nm' lt1 lt2 | exact nm0 lt1 lt2 | exact nm0' lt1 lt2 | exact .inr jp | omega)) hz hti hto fun h₁ hz₁ hs₁ => ?_
  have k1 : ∀ (c : Nat) o, c ≠ N0 + 3 → s.heap.get? c = some o → h₁.get? c = some o := fun (c : Nat) o n e => hs₁.extBut c o n e
  have hri₁ : PySem.IsRangeIter h₁ N0 (0 + (i : Int) * 1) (6 - (i : Int)) 1 := k1 _ _ (nn (by first | exact nk (by decide) | exact nk' (by decide) | exact nz (by decide) | exact nz' (by decide) | exact nl lt1 lt2 (by assumption) | exact nl0 lt1 lt2 (by assumption) | exact nm lt1 lt2 | exact nm' lt1 lt2 | exact nm0 lt1 lt2 | exact nm0' lt1 lt2 | exact .inr jp | omega)) hri
  by_cases i6 : i = 6
  · subst i6
    refine nextOf_range_end hh hri₁ (by decide) fun h₂ e he hst => ⟨e, rfl, hst, he _ _ (nn (by first | exact nk (by decide) | exact nk' (by decide) | exact nz (by decide) | exact nz' (by decide) | exact nl lt1 lt2 (by assumption) | exact nl0 lt1 lt2 (by assumption) | exact nm lt1 lt2 | exact nm' lt1 lt2 | exact nm0 lt1 lt2 | exact nm0' lt1 lt2 | exact .inr jp | omega)) hz₁, fun h'' hs => hE (.inl rfl) _ _ _ id fun (c : Nat) o ec lt => hs.extBut c o (nn (by first | exact nk (by decide) | exact nk' (by decide) | exact nz (by decide) | exact nz' (by decide) | exact nl lt1 lt2 (by assumption) | exact nl0 lt1 lt2 (by assumption) | exact nm lt1 lt2 | exact nm' lt1 lt2 | exact nm0 lt1 lt2 | exact nm0' lt1 lt2 | exact .inr jp | omega)) (he c o (nn (by first | exact nk (by decide) | exact nk' (by decide) | exact nz (by decide) | exact nz' (by decide) | exact nl lt1 lt2 (by assumption) | exact nl0 lt1 lt2 (by assumption) | exact nm lt1 lt2 | exact nm' lt1 lt2 | exact nm0 lt1 lt2 | exact nm0' lt1 lt2 | exact .inr jp | omega)) (k1 c o (nn (by first | exact nk (by decide) | exact nk' (by decide) | exact nz (by decide) | exact nz' (by decide) | exact nl lt1 lt2 (by assumption) | exact nl0 lt1 lt2 (by assumption) | exact nm lt1 lt2 | exact nm' lt1 lt2 | exact nm0 lt1 lt2 | exact nm0' lt1 lt2 | exact .inr jp | omega)) ec))⟩
  have ilt : i < 6 := Nat.lt_of_le_of_ne hi i6
  refine nextOf_range_item hri₁ (Int.sub_pos_of_lt (Int.ofNat_lt.mpr ilt)) fun h₂ hri₂ hs₂ => ?_
  have k2 : ∀ (c : Nat) o, c ≠ N0 + 3 → c ≠ N0 → s.heap.get? c = some o → h₂.get? c = some o := fun (c : Nat) o n n' e => hs₂.extBut c o n' (k1 c o n e)
  refine ⟨k2 _ _ (nn (by first | exact nk (by decide) | exact nk' (by decide) | exact nz (by decide) | exact nz' (by decide) | exact nl lt1 lt2 (by assumption) | exact nl0 lt1 lt2 (by assumption) | exact nm lt1 lt2 | exact nm' lt1 lt2 | exact nm0 lt1 lt2 | exact nm0' lt1 lt2 | exact .inr jp | omega)) (nn (by first | exact nk (by decide) | exact nk' (by decide) | exact nz (by decide) | exact nz' (by decide) | exact nl lt1 lt2 (by assumption) | exact nl0 lt1 lt2 (by assumption) | exact nm lt1 lt2 | exact nm' lt1 lt2 | exact nm0 lt1 lt2 | exact nm0' lt1 lt2 | exact .inr jp | omega)) hto, fun h₃ hto₃ hs₃ => ?_⟩
  have k3 : ∀ (c : Nat) o, c ≠ N0 + 3 → c ≠ N0 → c ≠ N0 + 2 → s.heap.get? c = some o → h₃.get? c = some o := fun (c : Nat) o n n' n'' e => hs₃.extBut c o n'' (k2 c o n n' e)
  have gsz : ∀ (c : Nat) o, g.get? c = some o → c < LG := fun (c : Nat) o e => Nat.lt_of_lt_of_le (Heap.lt_size e) hlow
  have up3 : ∀ (c : Nat) o, g.get? c = some o → h₃.get? c = some o := fun (c : Nat) o e => by
    have := gsz c o e
    exact k3 c o (nn (by first | exact nk (by decide) | exact nk' (by decide) | exact nz (by decide) | exact nz' (by decide) | exact nl lt1 lt2 (by assumption) | exact nl0 lt1 lt2 (by assumption) | exact nm lt1 lt2 | exact nm' lt1 lt2 | exact nm0 lt1 lt2 | exact nm0' lt1 lt2 | exact .inr jp | omega)) (nn (by first | exact nk (by decide) | exact nk' (by decide) | exact nz (by decide) | exact nz' (by decide) | exact nl lt1 lt2 (by assumption) | exact nl0 lt1 lt2 (by assumption) | exact nm lt1 lt2 | exact nm' lt1 lt2 | exact nm0 lt1 lt2 | exact nm0' lt1 lt2 | exact .inr jp | omega)) (nn (by first | exact nk (by decide) | exact nk' (by decide) | exact nz (by decide) | exact nz' (by decide) | exact nl lt1 lt2 (by assumption) | exact nl0 lt1 lt2 (by assumption) | exact nm lt1 lt2 | exact nm' lt1 lt2 | exact nm0 lt1 lt2 | exact nm0' lt1 lt2 | exact .inr jp | omega)) (up c o e)
  have nli : ∀ {p : Addr × Obj}, p ∈ gown → p.1 ≠ N0 + 3 ∧ p.1 ≠ N0 ∧ p.1 ≠ N0 + 2 := fun {p} hp => by
    obtain ⟨e, q | ⟨q, qc⟩⟩ := hown p hp
    · rw [q]; exact ⟨nn (by first | exact nk (by decide) | exact nk' (by decide) | exact nz (by decide) | exact nz' (by decide) | exact nl lt1 lt2 (by assumption) | exact nl0 lt1 lt2 (by assumption) | exact nm lt1 lt2 | exact nm' lt1 lt2 | exact nm0 lt1 lt2 | exact nm0' lt1 lt2 | exact .inr jp | omega), nn (by first | exact nk (by decide) | exact nk' (by decide) | exact nz (by decide) | exact nz' (by decide) | exact nl lt1 lt2 (by assumption) | exact nl0 lt1 lt2 (by assumption) | exact nm lt1 lt2 | exact nm' lt1 lt2 | exact nm0 lt1 lt2 | exact nm0' lt1 lt2 | exact .inr jp | omega), nn (by first | exact nk (by decide) | exact nk' (by decide) | exact nz (by decide) | exact nz' (by decide) | exact nl lt1 lt2 (by assumption) | exact nl0 lt1 lt2 (by assumption) | exact nm lt1 lt2 | exact nm' lt1 lt2 | exact nm0 lt1 lt2 | exact nm0' lt1 lt2 | exact .inr jp | omega)⟩
    · refine ⟨fun x => ?_, fun x => ?_, fun x => ?_⟩
      · rw [x, hz] at e; rw [← Option.some.inj e] at qc; simp at qc
      · rw [x, show s.heap.get? N0 = _ from hri] at e; rw [← Option.some.inj e] at qc; simp at qc
      · rw [x, hto] at e; rw [← Option.some.inj e] at qc; simp at qc
  have own3 : ∀ p ∈ gown, h₃.get? p.1 = some p.2 := fun p hp => k3 _ _ (nli hp).1 (nli hp).2.1 (nli hp).2.2 (hown p hp).1
  have hz₃ : IsZip h₃ (N0 + 3) (N0 + 1) (N0 + 2) .ellipsis := hs₃.extBut _ _ (nn (by first | exact nk (by decide) | exact nk' (by decide) | exact nz (by decide) | exact nz' (by decide) | exact nl lt1 lt2 (by assumption) | exact nl0 lt1 lt2 (by assumption) | exact nm lt1 lt2 | exact nm' lt1 lt2 | exact nm0 lt1 lt2 | exact nm0' lt1 lt2 | exact .inr jp | omega)) (hs₂.extBut _ _ (nn (by first | exact nk (by decide) | exact nk' (by decide) | exact nz (by decide) | exact nz' (by decide) | exact nl lt1 lt2 (by assumption) | exact nl0 lt1 lt2 (by assumption) | exact nm lt1 lt2 | exact nm' lt1 lt2 | exact nm0 lt1 lt2 | exact nm0' lt1 lt2 | exact .inr jp | omega)) hz₁)
  have hri₃ : PySem.IsRangeIter h₃ N0 (0 + (i : Int) * 1 + 1) (6 - (i : Int) - 1) 1 := hs₃.extBut _ _ (nn (by first | exact nk (by decide) | exact nk' (by decide) | exact nz (by decide) | exact nz' (by decide) | exact nl lt1 lt2 (by assumption) | exact nl0 lt1 lt2 (by assumption) | exact nm lt1 lt2 | exact nm' lt1 lt2 | exact nm0 lt1 lt2 | exact nm0' lt1 lt2 | exact .inr jp | omega)) hri₂
  have hgo₃ : h₃.IsGen GO gno := by
    obtain ⟨o, nm, qn, e, r⟩ := hgo
    exact ⟨o, nm, qn, k3 _ _ (nn (by first | exact nk (by decide) | exact nk' (by decide) | exact nz (by decide) | exact nz' (by decide) | exact nl lt1 lt2 (by assumption) | exact nl0 lt1 lt2 (by assumption) | exact nm lt1 lt2 | exact nm' lt1 lt2 | exact nm0 lt1 lt2 | exact nm0' lt1 lt2 | exact .inr jp | omega)) (nn (by first | exact nk (by decide) | exact nk' (by decide) | exact nz (by decide) | exact nz' (by decide) | exact nl lt1 lt2 (by assumption) | exact nl0 lt1 lt2 (by assumption) | exact nm lt1 lt2 | exact nm' lt1 lt2 | exact nm0 lt1 lt2 | exact nm0' lt1 lt2 | exact .inr jp | omega)) (nn (by first | exact nk (by decide) | exact nk' (by decide) | exact nz (by decide) | exact nz' (by decide) | exact nl lt1 lt2 (by assumption) | exact nl0 lt1 lt2 (by assumption) | exact nm lt1 lt2 | exact nm' lt1 lt2 | exact nm0 lt1 lt2 | exact nm0' lt1 lt2 | exact .inr jp | omega)) e, r⟩
  have hti₃ := k3 _ _ (nn (by first | exact nk (by decide) | exact nk' (by decide) | exact nz (by decide) | exact nz' (by decide) | exact nl lt1 lt2 (by assumption) | exact nl0 lt1 lt2 (by assumption) | exact nm lt1 lt2 | exact nm' lt1 lt2 | exact nm0 lt1 lt2 | exact nm0' lt1 lt2 | exact .inr jp | omega)) (nn (by first | exact nk (by decide) | exact nk' (by decide) | exact nz (by decide) | exact nz' (by decide) | exact nl lt1 lt2 (by assumption) | exact nl0 lt1 lt2 (by assumption) | exact nm lt1 lt2 | exact nm' lt1 lt2 | exact nm0 lt1 lt2 | exact nm0' lt1 lt2 | exact .inr jp | omega)) (nn (by first | exact nk (by decide) | exact nk' (by decide) | exact nz (by decide) | exact nz' (by decide) | exact nl lt1 lt2 (by assumption) | exact nl0 lt1 lt2 (by assumption) | exact nm lt1 lt2 | exact nm' lt1 lt2 | exact nm0 lt1 lt2 | exact nm0' lt1 lt2 | exact .inr jp | omega)) hti
  obtain ⟨j, hj, hj7⟩ : ∃ j, 8 - i = j + 1 ∧ j = 7 - i := ⟨7 - i, Nat.succ_sub (Nat.le_trans hi (by decide)), rfl⟩
  have jp : 0 < j := by rw [hj7]; exact Nat.sub_pos_of_lt (Nat.lt_trans ilt (by decide))
  rw [hj] at hgood
  refine nextOf_gen (A := A.in1) (n := j + 1) (P := GR LG nE) (Y := GY g LG wv nE) hh (hlim.keeps up3) hroom hgo₃ hgs (hgood _ up3 own3) (fun v s₁ gs' hbare hv => ?_) fun s₁ hp h' e hk hst => ?_
  · obtain ⟨hne, t, h₄, tk₄, I, oL, oI, rfl, rfl, eL, eI, hI, cI, hkeep, hκ⟩ := hv
    have k4 : ∀ (c : Nat) o, h₃.get? c = some o → c ≠ LG → ¬ (o.cls = .type "list_iterator") → h₄.get? c = some o := fun (c : Nat) o e n1 n2 => hkeep c o e n1 fun q => n2 q.2
    have low4 : ∀ (c : Nat) o, h₃.get? c = some o → c < LG → h₄.get? c = some o := fun (c : Nat) o e lt => hkeep c o e (Nat.ne_of_lt lt) fun q => Nat.lt_asymm q.1 lt
    refine ⟨k4 _ _ hto₃ (nn (by first | exact nk (by decide) | exact nk' (by decide) | exact nz (by decide) | exact nz' (by decide) | exact nl lt1 lt2 (by assumption) | exact nl0 lt1 lt2 (by assumption) | exact nm lt1 lt2 | exact nm' lt1 lt2 | exact nm0 lt1 lt2 | exact nm0' lt1 lt2 | exact .inr jp | omega)) (by simp), fun h₅ hto₅ hs₅ => ⟨hs₅.extBut _ _ (nn (by first | exact nk (by decide) | exact nk' (by decide) | exact nz (by decide) | exact nz' (by decide) | exact nl lt1 lt2 (by assumption) | exact nl0 lt1 lt2 (by assumption) | exact nm lt1 lt2 | exact nm' lt1 lt2 | exact nm0 lt1 lt2 | exact nm0' lt1 lt2 | exact .inr jp | omega)) (k4 _ _ hz₃ (nn (by first | exact nk (by decide) | exact nk' (by decide) | exact nz (by decide) | exact nz' (by decide) | exact nl lt1 lt2 (by assumption) | exact nl0 lt1 lt2 (by assumption) | exact nm lt1 lt2 | exact nm' lt1 lt2 | exact nm0 lt1 lt2 | exact nm0' lt1 lt2 | exact .inr jp | omega)) (by simp)), fun h₈ hz₈ hT₈ sz₈ up₈ => ?_⟩⟩
    have ITO : I ≠ N0 + 2 := fun x => by
      have := k4 _ _ hto₃ (nn (by first | exact nk (by decide) | exact nk' (by decide) | exact nz (by decide) | exact nz' (by decide) | exact nl lt1 lt2 (by assumption) | exact nl0 lt1 lt2 (by assumption) | exact nm lt1 lt2 | exact nm' lt1 lt2 | exact nm0 lt1 lt2 | exact nm0' lt1 lt2 | exact .inr jp | omega)) (by simp)
      rw [← x, eI] at this
      injection this with this
      rw [this] at cI; simp at cI
    have IZ : I ≠ N0 + 3 := fun x => by
      have := k4 _ _ hz₃ (nn (by first | exact nk (by decide) | exact nk' (by decide) | exact nz (by decide) | exact nz' (by decide) | exact nl lt1 lt2 (by assumption) | exact nl0 lt1 lt2 (by assumption) | exact nm lt1 lt2 | exact nm' lt1 lt2 | exact nm0 lt1 lt2 | exact nm0' lt1 lt2 | exact .inr jp | omega)) (by simp)
      rw [← x, eI] at this
      injection this with this
      rw [this] at cI; simp at cI
    refine hQ ilt (by rw [hj]; exact hne) h₅.objs.size h₈ _ _ _ _ (fun hab => AllBare.setIf (AllBare.setIf hab (x := .running) rfl) hbare) (fun (c : Nat) o e lt => up₈ c o (nn (by first | exact nk (by decide) | exact nk' (by decide) | exact nz (by decide) | exact nz' (by decide) | exact nl lt1 lt2 (by assumption) | exact nl0 lt1 lt2 (by assumption) | exact nm lt1 lt2 | exact nm' lt1 lt2 | exact nm0 lt1 lt2 | exact nm0' lt1 lt2 | exact .inr jp | omega)) (hs₅.extBut c o (nn (by first | exact nk (by decide) | exact nk' (by decide) | exact nz (by decide) | exact nz' (by decide) | exact nl lt1 lt2 (by assumption) | exact nl0 lt1 lt2 (by assumption) | exact nm lt1 lt2 | exact nm' lt1 lt2 | exact nm0 lt1 lt2 | exact nm0' lt1 lt2 | exact .inr jp | omega)) (low4 c o (k3 c o (nn (by first | exact nk (by decide) | exact nk' (by decide) | exact nz (by decide) | exact nz' (by decide) | exact nl lt1 lt2 (by assumption) | exact nl0 lt1 lt2 (by assumption) | exact nm lt1 lt2 | exact nm' lt1 lt2 | exact nm0 lt1 lt2 | exact nm0' lt1 lt2 | exact .inr jp | omega)) (nn (by first | exact nk (by decide) | exact nk' (by decide) | exact nz (by decide) | exact nz' (by decide) | exact nl lt1 lt2 (by assumption) | exact nl0 lt1 lt2 (by assumption) | exact nm lt1 lt2 | exact nm' lt1 lt2 | exact nm0 lt1 lt2 | exact nm0' lt1 lt2 | exact .inr jp | omega)) (nn (by first | exact nk (by decide) | exact nk' (by decide) | exact nz (by decide) | exact nz' (by decide) | exact nl lt1 lt2 (by assumption) | exact nl0 lt1 lt2 (by assumption) | exact nm lt1 lt2 | exact nm' lt1 lt2 | exact nm0 lt1 lt2 | exact nm0' lt1 lt2 | exact .inr jp | omega)) e) lt))) hz₈ (by rw [← hj7]; rw [show (i : Int) = 0 + (i : Int) * 1 by omega]; exact hT₈) ?_ fun h'' hz'' up'' => ?_
    · have := Heap.lt_size (hs₅.extBut _ _ (nn (by first | exact nk (by decide) | exact nk' (by decide) | exact nz (by decide) | exact nz' (by decide) | exact nl lt1 lt2 (by assumption) | exact nl0 lt1 lt2 (by assumption) | exact nm lt1 lt2 | exact nm' lt1 lt2 | exact nm0 lt1 lt2 | exact nm0' lt1 lt2 | exact .inr jp | omega)) (k4 _ _ hz₃ (nn (by first | exact nk (by decide) | exact nk' (by decide) | exact nz (by decide) | exact nz' (by decide) | exact nl lt1 lt2 (by assumption) | exact nl0 lt1 lt2 (by assumption) | exact nm lt1 lt2 | exact nm' lt1 lt2 | exact nm0 lt1 lt2 | exact nm0' lt1 lt2 | exact .inr jp | omega)) (by simp)))
      exact this
    · have k5 : ∀ (c : Nat) o, c ≠ N0 + 3 → c ≠ N0 + 2 → LG ≤ c → h₄.get? c = some o → h''.get? c = some o := fun (c : Nat) o n n' l e => up'' c o n l (up₈ c o n (hs₅.extBut c o n' e))
      have hgo4 : h₄.IsGen GO gno := by
        obtain ⟨o, nm, qn, e, c, d, sl⟩ := hgo₃
        exact ⟨o, nm, qn, k4 _ _ e (nn (by first | exact nk (by decide) | exact nk' (by decide) | exact nz (by decide) | exact nz' (by decide) | exact nl lt1 lt2 (by assumption) | exact nl0 lt1 lt2 (by assumption) | exact nm lt1 lt2 | exact nm' lt1 lt2 | exact nm0 lt1 lt2 | exact nm0' lt1 lt2 | exact .inr jp | omega)) (by rw [c]; simp), c, d, sl⟩
      refine ⟨lt1, lt2, hz'', k5 _ _ (nn (by first | exact nk (by decide) | exact nk' (by decide) | exact nz (by decide) | exact nz' (by decide) | exact nl lt1 lt2 (by assumption) | exact nl0 lt1 lt2 (by assumption) | exact nm lt1 lt2 | exact nm' lt1 lt2 | exact nm0 lt1 lt2 | exact nm0' lt1 lt2 | exact .inr jp | omega)) (nn (by first | exact nk (by decide) | exact nk' (by decide) | exact nz (by decide) | exact nz' (by decide) | exact nl lt1 lt2 (by assumption) | exact nl0 lt1 lt2 (by assumption) | exact nm lt1 lt2 | exact nm' lt1 lt2 | exact nm0 lt1 lt2 | exact nm0' lt1 lt2 | exact .inr jp | omega)) (by omega) (k4 _ _ hti₃ (nn (by first | exact nk (by decide) | exact nk' (by decide) | exact nz (by decide) | exact nz' (by decide) | exact nl lt1 lt2 (by assumption) | exact nl0 lt1 lt2 (by assumption) | exact nm lt1 lt2 | exact nm' lt1 lt2 | exact nm0 lt1 lt2 | exact nm0' lt1 lt2 | exact .inr jp | omega)) (by simp)), ⟨_, _, up'' _ _ (nn (by first | exact nk (by decide) | exact nk' (by decide) | exact nz (by decide) | exact nz' (by decide) | exact nl lt1 lt2 (by assumption) | exact nl0 lt1 lt2 (by assumption) | exact nm lt1 lt2 | exact nm' lt1 lt2 | exact nm0 lt1 lt2 | exact nm0' lt1 lt2 | exact .inr jp | omega)) (by omega) (up₈ _ _ (nn (by first | exact nk (by decide) | exact nk' (by decide) | exact nz (by decide) | exact nz' (by decide) | exact nl lt1 lt2 (by assumption) | exact nl0 lt1 lt2 (by assumption) | exact nm lt1 lt2 | exact nm' lt1 lt2 | exact nm0 lt1 lt2 | exact nm0' lt1 lt2 | exact .inr jp | omega)) hto₅)⟩, ?_, ?_, gs', [(LG, oL), (I, oI)], ?_, ?_, ?_⟩
      · have := k5 _ _ (nn (by first | exact nk (by decide) | exact nk' (by decide) | exact nz (by decide) | exact nz' (by decide) | exact nl lt1 lt2 (by assumption) | exact nl0 lt1 lt2 (by assumption) | exact nm lt1 lt2 | exact nm' lt1 lt2 | exact nm0 lt1 lt2 | exact nm0' lt1 lt2 | exact .inr jp | omega)) (nn (by first | exact nk (by decide) | exact nk' (by decide) | exact nz (by decide) | exact nz' (by decide) | exact nl lt1 lt2 (by assumption) | exact nl0 lt1 lt2 (by assumption) | exact nm lt1 lt2 | exact nm' lt1 lt2 | exact nm0 lt1 lt2 | exact nm0' lt1 lt2 | exact .inr jp | omega)) (by omega) (k4 _ _ hri₃ (nn (by first | exact nk (by decide) | exact nk' (by decide) | exact nz (by decide) | exact nz' (by decide) | exact nl lt1 lt2 (by assumption) | exact nl0 lt1 lt2 (by assumption) | exact nm lt1 lt2 | exact nm' lt1 lt2 | exact nm0 lt1 lt2 | exact nm0' lt1 lt2 | exact .inr jp | omega)) (by simp))
        rw [show (0 : Int) + ((i + 1 : Nat) : Int) * 1 = 0 + (i : Int) * 1 + 1 by omega, show (6 : Int) - ((i + 1 : Nat) : Int) = 6 - (i : Int) - 1 by omega]
        exact this
      · obtain ⟨o, nm, qn, e, r⟩ := hgo4
        exact ⟨o, nm, qn, k5 _ _ (nn (by first | exact nk (by decide) | exact nk' (by decide) | exact nz (by decide) | exact nz' (by decide) | exact nl lt1 lt2 (by assumption) | exact nl0 lt1 lt2 (by assumption) | exact nm lt1 lt2 | exact nm' lt1 lt2 | exact nm0 lt1 lt2 | exact nm0' lt1 lt2 | exact .inr jp | omega)) (nn (by first | exact nk (by decide) | exact nk' (by decide) | exact nz (by decide) | exact nz' (by decide) | exact nl lt1 lt2 (by assumption) | exact nl0 lt1 lt2 (by assumption) | exact nm lt1 lt2 | exact nm' lt1 lt2 | exact nm0 lt1 lt2 | exact nm0' lt1 lt2 | exact .inr jp | omega)) (by omega) e, r⟩
      · exact setGen2 hgs
      · intro p hp
        rcases List.mem_cons.mp hp with rfl | hp
        · exact ⟨k5 _ _ (nn (by first | exact nk (by decide) | exact nk' (by decide) | exact nz (by decide) | exact nz' (by decide) | exact nl lt1 lt2 (by assumption) | exact nl0 lt1 lt2 (by assumption) | exact nm lt1 lt2 | exact nm' lt1 lt2 | exact nm0 lt1 lt2 | exact nm0' lt1 lt2 | exact .inr jp | omega)) (nn (by first | exact nk (by decide) | exact nk' (by decide) | exact nz (by decide) | exact nz' (by decide) | exact nl lt1 lt2 (by assumption) | exact nl0 lt1 lt2 (by assumption) | exact nm lt1 lt2 | exact nm' lt1 lt2 | exact nm0 lt1 lt2 | exact nm0' lt1 lt2 | exact .inr jp | omega)) (Nat.le_refl _) eL, .inl rfl⟩
        · rw [List.mem_singleton.mp hp]
          exact ⟨k5 _ _ IZ ITO (Nat.le_of_lt hI) eI, .inr ⟨hI, cI⟩⟩
      · intro s'' up' own'
        have := hκ (nn (by first | exact nk (by decide) | exact nk' (by decide) | exact nz (by decide) | exact nz' (by decide) | exact nl lt1 lt2 (by assumption) | exact nl0 lt1 lt2 (by assumption) | exact nm lt1 lt2 | exact nm' lt1 lt2 | exact nm0 lt1 lt2 | exact nm0' lt1 lt2 | exact .inr jp | omega)) s'' up' (own' _ (.head _)) (own' _ (.tail _ (.head _)))
        rw [show 8 - (i + 1) = j by rw [hj7]; exact Nat.add_sub_add_right 7 1 i]
        exact this
  · obtain ⟨hne, h₄, tk₄, rfl, hkeep⟩ := hp
    have k4 : ∀ (c : Nat) o, h₃.get? c = some o → c ≠ LG → ¬ (o.cls = .type "list_iterator") → h₄.get? c = some o := fun (c : Nat) o e n1 n2 => hkeep c o e n1 fun q => n2 q.2
    refine ⟨e, rfl, hst, hk _ _ (k4 _ _ hz₃ (nn (by first | exact nk (by decide) | exact nk' (by decide) | exact nz (by decide) | exact nz' (by decide) | exact nl lt1 lt2 (by assumption) | exact nl0 lt1 lt2 (by assumption) | exact nm lt1 lt2 | exact nm' lt1 lt2 | exact nm0 lt1 lt2 | exact nm0' lt1 lt2 | exact .inr jp | omega)) (by simp)), fun h'' hs => hE (.inr (by omega)) _ _ _ (fun hab => AllBare.setIf (AllBare.setIf hab (x := .running) rfl) (x := .finished) rfl) fun (c : Nat) o ec lt => hs.extBut c o (nn (by first | exact nk (by decide) | exact nk' (by decide) | exact nz (by decide) | exact nz' (by decide) | exact nl lt1 lt2 (by assumption) | exact nl0 lt1 lt2 (by assumption) | exact nm lt1 lt2 | exact nm' lt1 lt2 | exact nm0 lt1 lt2 | exact nm0' lt1 lt2 | exact .inr jp | omega)) (hk _ _ (hkeep c o (k3 c o (nn (by first | exact nk (by decide) | exact nk' (by decide) | exact nz (by decide) | exact nz' (by decide) | exact nl lt1 lt2 (by assumption) | exact nl0 lt1 lt2 (by assumption) | exact nm lt1 lt2 | exact nm' lt1 lt2 | exact nm0 lt1 lt2 | exact nm0' lt1 lt2 | exact .inr jp | omega)) (nn (by first | exact nk (by decide) | exact nk' (by decide) | exact nz (by decide) | exact nz' (by decide) | exact nl lt1 lt2 (by assumption) | exact nl0 lt1 lt2 (by assumption) | exact nm lt1 lt2 | exact nm' lt1 lt2 | exact nm0 lt1 lt2 | exact nm0' lt1 lt2 | exact .inr jp | omega)) (nn (by first | exact nk (by decide) | exact nk' (by decide) | exact nz (by decide) | exact nz' (by decide) | exact nl lt1 lt2 (by assumption) | exact nl0 lt1 lt2 (by assumption) | exact nm lt1 lt2 | exact nm' lt1 lt2 | exact nm0 lt1 lt2 | exact nm0' lt1 lt2 | exact .inr jp | omega)) ec) (Nat.ne_of_lt lt) fun q => Nat.lt_asymm q.1 lt))⟩
end
end Mine
end
section
open PySem PySem.W PyProof.Rows PySem.Calls PySem.Spec PyProof.V PySem.SeqAt PyProof.Rows.LCg
set_option linter.unusedVariables false
namespace Mine
noncomputable def ZipTurn (g : Heap) (L : Addr) (LG : Nat) (own : List (Addr × Obj)) (Jn : (PySem.Str → Option Value) → List (Addr × Obj) → Prop) (s₁ : Shared) (f : Flow) (s' : Shared) : Prop :=
  f = .next ∧ ∃ h' tk' m' nw', s' = { s₁ with heap := h', toks := tk' } ∧ Fr g L h' m' ∧ News g L h' (nw' ++ own) ∧ (∀ p ∈ nw', p.1 < LG) ∧ Jn m' nw'
section
variable {prog : Program} {w : World} {A : Around} {E : Value → Shared → Prop} {s : Shared} {g : Heap} {LG : Nat} {wv : Nat → Int} {nE : Nat} {N0 GO : Nat} {gno : Nat} {env : Env} {body : List Stmt} {Q : Flow → Shared → Prop}
theorem ZH.own {i : Nat} {h : Heap} {G : Array GenState} (Z : ZH prog w A g LG wv nE N0 GO gno i h G) : ∃ own : List (Addr × Obj), (∀ p ∈ own, h.get? p.1 = some p.2 ∧ LG ≤ p.1) ∧ ∀ h', (∀ p ∈ own, h'.get? p.1 = some p.2) → ZH prog w A g LG wv nE N0 GO gno i h' G := by
  obtain ⟨lt1, lt2, hz, hti, ⟨a, b, hto⟩, hri, ⟨og, nm, qn, hgo, hgc⟩, gs, gown, hgs, hown, hgood⟩ := Z
  refine ⟨(N0 + 3, _) :: (N0 + 1, _) :: (N0 + 2, _) :: (N0, _) :: (GO, og) :: gown, fun p hp => ?_, fun h' k => ⟨lt1, lt2, k _ (.head _), k _ (.tail _ (.head _)), ⟨a, b, k _ (.tail _ (.tail _ (.head _)))⟩, k _ (.tail _ (.tail _ (.tail _ (.head _)))), ⟨og, nm, qn, k _ (.tail _ (.tail _ (.tail _ (.tail _ (.head _))))), hgc⟩, gs, gown, hgs, fun p hp => ⟨k _ (.tail _ (.tail _ (.tail _ (.tail _ (.tail _ hp))))), (hown p hp).2⟩, hgood⟩⟩
  rcases List.mem_cons.mp hp with rfl | hp
  · exact ⟨hz, Nat.le_trans (Nat.le_of_lt (Nat.lt_trans lt1 lt2)) (Nat.le_add_right _ _)⟩
  rcases List.mem_cons.mp hp with rfl | hp
  · exact ⟨hti, Nat.le_trans (Nat.le_of_lt (Nat.lt_trans lt1 lt2)) (Nat.le_add_right _ _)⟩
  rcases List.mem_cons.mp hp with rfl | hp
  · exact ⟨hto, Nat.le_trans (Nat.le_of_lt (Nat.lt_trans lt1 lt2)) (Nat.le_add_right _ _)⟩
  rcases List.mem_cons.mp hp with rfl | hp
  · exact ⟨hri, Nat.le_of_lt (Nat.lt_trans lt1 lt2)⟩
  rcases List.mem_cons.mp hp with rfl | hp
  · exact ⟨hgo, Nat.le_of_lt lt1⟩
  · refine ⟨(hown p hp).1, ?_⟩
    rcases (hown p hp).2 with q | q
    · exact Nat.le_of_eq q.symm
    · exact Nat.le_of_lt q.1
theorem for_zip {a b : PySem.Str} {pa pb tp : Pos} {kk : Nat} {N : Nat} {m : PySem.Str → Option Value} {nw : List (Addr × Obj)}
    (hN : ∀ i, i < N → i < 6 ∧ 8 - i ≠ nE) (hNe : N = 6 ∨ 8 - N = nE) (hN6 : N ≤ 6)
    (hh : A.handled = none) (hroom : A.depth < recursionLimit) (hlim : g.NoLimit) (hlow : env.locals < LG)
    (ha : env.kindOf a = some .local) (hb : env.kindOf b = some .local) (hab : ¬ a = b) (hp : (env.scope.kind == .class || (env.scope.kind == .module && env.locals != env.globals)) = false)
    (F : Fr g env.locals s.heap m) (NW : News g env.locals s.heap nw) (hnw : ∀ p ∈ nw, p.1 < LG) (Zs : ZH prog w A.in1.in1 g LG wv nE N0 GO gno 0 s.heap s.gens)
    (J : Nat → (PySem.Str → Option Value) → List (Addr × Obj) → Prop) (h0 : J 0 m nw)
    (step : ∀ i m nw h tk G own tx ty, i < N → J i m nw → Fr g env.locals h (fun z => if z = b then some (.int (wv (7 - i)) ty) else if z = a then some (.int i tx) else m z) → News g env.locals h (nw ++ own) → (∀ p ∈ nw, p.1 < LG) → (∀ p ∈ own, LG ≤ p.1) →
      wpAny (model prog w) A (execs body env) (ZipTurn g env.locals LG own (J (i + 1)) { s with heap := h, toks := tk, gens := G }) E { s with heap := h, toks := tk, gens := G })
    (hQ : ∀ h tk m nw G, (AllBare s.gens → AllBare G) → Fr g env.locals h m → News g env.locals h nw → J N m nw → Q .next { s with heap := h, toks := tk, gens := G })
    (hE : PassesOwn (model prog w) A env E := by passes_own) :
    codeAny (model prog w) A (.forLoop (.Tuple [.Name a pa, .Name b pb] kk tp) (.ref (N0 + 3)) body [] env) (fun r s' => match r with | .ok f => Q f s' | .error e => cameBackBy (model prog w) A env E e s') s := by
  have low : ∀ {c : Nat} {o : Obj}, g.get? c = some o → c < LG := fun e => Nat.lt_trans (Nat.lt_of_lt_of_le (Heap.lt_size e) F.above) hlow
  have hab' := F.above
  refine codeAny_forLoop_any
    (fun k s' => ∃ h' tk m' nw' i G, s' = { s with heap := h', toks := tk, gens := G } ∧ Fr g env.locals h' m' ∧ News g env.locals h' nw' ∧ (∀ p ∈ nw', p.1 < LG) ∧ ZH prog w A.in1.in1 g LG wv nE N0 GO gno i h' G ∧ (AllBare s.gens → AllBare G) ∧ J i m' nw' ∧ i ≤ N ∧ k = N + 1 - i) ?_ (N + 1)
    ⟨s.heap, s.toks, m, nw, 0, s.gens, rfl, F, NW, hnw, Zs, id, h0, Nat.zero_le _, rfl⟩
  rintro k s' ⟨h', tk, m', nw', i, G, rfl, F', N', hnw', Zi, hbG, hJ, hi, rfl⟩
  refine zip_step hh hroom hlim F'.keep (Nat.le_of_lt (Nat.lt_of_le_of_lt hab' hlow)) Zi (Nat.le_trans hi hN6) (fun i6 iE T h₁ tk₁ G₁ tx ty hb₁ k₁ hz₁ hT₁ hTz hzh => ?_) fun hend h₁ tk₁ G₁ hb₁ k₁ => ?_
  · have hiN : i < N := by
      rcases Nat.lt_or_ge i N with h | h
      · exact h
      · have : i = N := Nat.le_antisymm hi h
        subst this
        rcases hNe with h | h
        · omega
        · exact absurd h iE
    refine wpAny_letOwnedTupleGo_zip hz₁ fun h₂ hz₂ hs₂ => ?_
    have F₁ : Fr g env.locals h₁ m' := ⟨F'.ns.at' fun o e => k₁ _ o e hlow, fun (c : Nat) o e => k₁ c o (F'.keep c o e) (low e), F'.above⟩
    have lz : LG < N0 + 3 := Nat.lt_of_lt_of_le (Nat.lt_trans Zi.lt1 Zi.lt2) (Nat.le_add_right _ _)
    have F₂ : Fr g env.locals h₂ m' := ⟨F₁.ns.at' fun o e => hs₂.extBut _ o (Nat.ne_of_lt (Nat.lt_trans hlow lz)) e, fun (c : Nat) o e => hs₂.extBut c o (Nat.ne_of_lt (Nat.lt_trans (low e) lz)) (F₁.keep c o e), F'.above⟩
    have hT₂ : h₂.IsTuple T #[.int i tx, .int (wv (7 - i)) ty] := ⟨_, hs₂.extBut _ _ (Nat.ne_of_gt hTz) hT₁, rfl, _, rfl⟩
    have Z₂ := hzh h₂ hz₂ fun c o n _ e => hs₂.extBut c o n e
    refine kcp_assign (env := env) (m := m') hh hT₂ ha hb hp F₂.ns fun h₃ tk₃ hn₃ hs₃ => ?_
    have hLn : g.get? env.locals = none := Heap.get?_none_of_le F'.above
    have F₃ : Fr g env.locals h₃ (fun z => if z = b then some (.int (wv (7 - i)) ty) else if z = a then some (.int i tx) else m' z) := ⟨hn₃, fun c o e => hs₃ c o (fun q => by rw [q, hLn] at e; cases e) (F₂.keep c o e), F'.above⟩
    obtain ⟨own, hown, hback⟩ := Z₂.own
    have N₃ : News g env.locals h₃ (nw' ++ own) := fun p hp => by
      rcases List.mem_append.mp hp with hp | hp
      · have l := hnw' p hp
        exact ⟨hs₃ _ _ (N' p hp).2.1 (hs₂.extBut _ _ (Nat.ne_of_lt (Nat.lt_trans l lz)) (k₁ _ _ (N' p hp).1 l)), (N' p hp).2⟩
      · have l := (hown p hp).2
        have nL : p.1 ≠ env.locals := Nat.ne_of_gt (Nat.lt_of_lt_of_le hlow l)
        exact ⟨hs₃ _ _ nL (hown p hp).1, nL, Heap.get?_none_of_le (Nat.le_trans hab' (Nat.le_of_lt (Nat.lt_of_lt_of_le hlow l)))⟩
    refine wpAny_passesOwn hE (wpAny_mono (step i m' nw' h₃ tk₃ G₁ own tx ty hiN hJ F₃ N₃ hnw' fun p hp => (hown p hp).2) (fun f s₄ h₄ => ?_) fun _ _ e => e)
    obtain ⟨rfl, h₄, tk₄, m₄, nw₄, rfl, F₄, N₄, l₄, J₄⟩ := h₄
    exact ⟨N + 1 - (i + 1), turn_lt (by assumption), h₄, tk₄, m₄, nw₄, i + 1, G₁, rfl, F₄, fun p hp => N₄ p (List.mem_append_left _ hp), l₄, (hback h₄ fun p hp => (N₄ p (List.mem_append_right _ hp)).1), (fun x => hb₁ (hbG x)), J₄, hiN, rfl⟩
  · have hin : i = N := by
      rcases Nat.lt_or_ge i N with h | h
      · have := hN i h
        rcases hend with q | q
        · omega
        · exact absurd q this.2
      · exact Nat.le_antisymm hi h
    subst hin
    refine wpAny_execs_nil (hQ h₁ _ m' nw' _ (fun x => hb₁ (hbG x)) ⟨F'.ns.at' fun o e => k₁ _ o e hlow, fun (c : Nat) o e => k₁ c o (F'.keep c o e) (low e), F'.above⟩ (fun p hp => ⟨k₁ _ _ (N' p hp).1 (hnw' p hp), (N' p hp).2⟩) hJ)
end
end Mine
end
section
open PySem PySem.W PyProof.Rows PySem.Calls PySem.Spec PyProof.V
set_option linter.unusedVariables false
namespace Mine
section
variable {prog : Program} {w : World} {A : Around} {s : Shared} {h₀ : Heap} {L : Addr} {m : PySem.Str → Option Value}
theorem code_genG {K : Frag} {p : Program} {loose : List PySem.Str} {mean : ExcName → Option Value} {mg mb : PySem.Str → Option Value} {R : Result → Shared → Prop} {name qual : PySem.Str} {params : Arguments} {body : List Stmt} {scope : Scope} {dV kV doc pm cdv ct oc : Value} {an od : Option Addr} {osl : Array (Option Value)} {f : Addr} {args : Args} {binds : List (PySem.Str × Value)}
    (F : Fr h₀ L s.heap m) (X₀ : K.In h₀) (T : Top p loose mean mg mb h₀)
    (ho : K.lookup f = some ⟨oc, od, .func (fnOf name qual params body scope dV kV doc pm an cdv ct), osl⟩) (hcd : codeIn K cdv qual = true) (hroom : A.depth < recursionLimit)
    (hbind : BindsTo s (fnOf name qual params body scope dV kV doc pm an cdv ct) args binds) (hloc : ∀ y ∈ binds, scope.names.lookup y.1 = some .local)
    (h : ∀ h₁ tk nm qn, Kept s.heap h₁ → h₁.Ns s.heap.objs.size (fun y => binds.reverse.lookup y) → h₁.objs.size = s.heap.objs.size + 1 →
      R (.ok (.ret (.ref (s.heap.objs.size + 1)))) { s with gens := s.gens.push (.fresh (.func body (envOf qual scope s.heap.objs.size f cdv))), toks := tk, heap := h₁.push { cls := .type "generator", data := .fields #[.int s.gens.size 0, nm, qn] } })
    (hco : scope.isCoroutine = false) (hgen : scope.isGenerator = true) (hk : scope.kind = .function)
    (hcell : ∀ x ∈ scope.names, x.2 ≠ .cell) : codeAny (model prog w) A (.call (.ref f) args) R s := by
  refine codeAny_call_generator hroom ((X₀.keeps F.keep) _ _ ho) rfl hco hgen rfl (codeRec_of (X₀.keeps F.keep) hcd) (hbind _ _ _ _ ?_)
  refine wpAny_newFunctionEnv hcell hloc (fun h₁ hns₁ hsb₁ => ?_) hk
  have hkp : Kept s.heap h₁ := fun b o e => hsb₁.extBut b o (Nat.ne_of_lt (Heap.lt_size e)) (Heap.get?_push_of_some _ e)
  have sz : h₁.objs.size = s.heap.objs.size + 1 := by rw [hsb₁.1, Heap.size_push]
  refine ⟨(T.nolimit.keeps F.keep).keeps hkp, ?_⟩
  have := h h₁ (s.toks + binds.length + 1 + 1) (.str name (s.toks + binds.length)) (.str qual (s.toks + binds.length + 1)) hkp hns₁ sz
  rw [← sz] at this
  exact this
end
end Mine
end
section
open PySem PySem.W PyProof.Rows PySem.Calls PySem.Spec
set_option maxRecDepth 100000
set_option maxHeartbeats 1500000
set_option linter.unusedVariables false
set_option linter.unusedSimpArgs false
namespace Mine
local macro_rules | `(tactic| walk_at "call ref") => `(tactic| (refine hold ?_))
local macro_rules | `(tactic| walk_at "exec For Tuple Call cons nil") => `(tactic| (refine hold ?_))
local macro_rules | `(tactic| k_upd) => `(tactic| ((with_reducible rename ∀ p ∈ _, Prod.fst p ≠ _ => offX); exact Upd.head offX))
local macro_rules | `(tactic| walk_at "call type:zip") => `(tactic| (refine hold ?_))
section
variable (w : World) (mean : ExcName → Option Value) (mg mb : PySem.Str → Option Value)
noncomputable def ClmG (w : World) (mean : ExcName → Option Value) (mg mb : PySem.Str → Option Value) (f : Addr) (k : Nat) (vs : List Value) (Pre : Heap → Prop) (Out : Heap → Heap → Value → Prop) : Prop :=
  ∀ (dp un : Nat) (gd : Option (List Code)) (cn : PySem.Str) (cs : Scope) (a : Addr) (ccd : Value) (cl : List (PySem.Str × Addr)) (outer : List Env) (A₀ : Around) (base h₀ : Heap) (L : Addr) (m : PySem.Str → Option Value) (s : Shared) (Q E : Value → Shared → Prop),
    Below A₀ base outer h₀ → Fr h₀ L s.heap m → (hd.heap_1 w.params).In h₀ → News h₀ L s.heap [] → Top hview LO mean mg mb h₀ → cs.kind = .function → dp + k < recursionLimit → un + 8 * k < cLine → Pre s.heap →
    (∀ (r : Value) (h' : Heap) (tk' : Nat) (G' : Array GenState), (AllBare s.gens → AllBare G') → Kept s.heap h' → Out s.heap h' r → Q r { s with heap := h', toks := tk', gens := G' }) →
    wpAny (model PySem.Challenge.rw_tl0021_01.row.prog w) (ktrTop dp un gd cn cs L a ccd cl outer) (call (.ref f) vs) Q E s
noncomputable def pieceStep (st : List Int × Int) (k : Int) : List Int × Int := (st.1 ++ [Builtin.bitAnd st.2 (1 * 2 ^ k.toNat - 1)], st.2.fdiv (2 ^ k.toNat))
noncomputable def piecesF (x : Int) (ws : List Int) : List Int := (ws.foldl pieceStep ([], x)).1 ++ [(ws.foldl pieceStep ([], x)).2]
theorem pieces_len (x : Int) : ∀ (l : List Int) (st : List Int × Int), (l.foldl pieceStep st).1.length = st.1.length + l.length := by
  intro l
  induction l with
  | nil => intro st; rfl
  | cons k l ih =>
    intro st
    rw [List.foldl_cons, ih]
    simp [pieceStep]
    omega
theorem piecesC (x : Int) (tx : Tok) (z : Addr) (vs : List Value) (wv : Nat → Int) (nE NN : Nat) {a b : Int} {ta tb : Tok} (ha : vs[0]? = some (.int a ta)) (hb : vs[1]? = some (.int b tb)) (a0 : 0 < a ∧ a < 100) (b0 : 0 < b ∧ b < 100)
    (hend : (nE = 6 ∧ vs[2]? = none) ∨ (nE = 6 ∧ ∃ t, vs[2]? = some (.int 127 t)) ∨ (nE = 0 ∧ ∃ t, vs[2]? = some (.int 0 t)))
    (hw7 : wv 7 = a) (hw : ∀ i, i ≤ 6 → wv i = b) (hN : ∀ i, i < NN → i < 6 ∧ 8 - i ≠ nE) (hNe : NN = 6 ∨ 8 - NN = nE) (hN6 : NN ≤ 6) :
    ClmG w mean mg mb 120 2 [Value.int x tx, Value.ref z] (fun h => h.IsList z vs.toArray) (GivesL (piecesF x ((List.range NN).map fun i => wv (7 - i)))) := by
  unfold ClmG
  w_top off
  k_fill
  intro dp un gd cn cs a ccd cl outer A₀ base h₀ L m s Q E B F X N T hk hd hu pre hret
  refine wpAny_call ?_
  k_dflt cell_enter
  rename_i g1 L1 h1 FG1 F1 N1 B1 X1 T1 G1
  have pre : g1.IsList z vs.toArray := stays_list G1 pre
  k_steps
  unfold Hold
  refine wpAny_For ?_
  k_steps
  rename_i P h0 l1 h2 F2 N2 h3 t1 u1 v1 tk3 hr F3 N3 k3
  unfold Hold
  refine wpAny_call ?_
  refine' code_genG F3 X1 T1 ?ho ?hcd ?hroom ?hbind ?hloc ?hgo ?c2 ?c3 ?c4 ?c5
  case ho => k_is
  case hcd => k_is
  case hroom => ktr_room
  case hbind => exact BindsTo.of_eq rfl
  case hloc => exact locs rfl
  case c2 => exact rfl
  case c3 => exact rfl
  case c4 => exact rfl
  case c5 => decide
  intro h4 tk4 nm qn k4 ns4 sz4
  obtain ⟨oL, eL⟩ : ∃ oL, h4.get? h3.objs.size = some oL := by obtain ⟨o, _, _, e, _⟩ := ns4; exact ⟨o, e⟩
  have LGl : L1 < h3.objs.size := F3.ns.lt
  generalize hGO : Obj.mk (.type "generator") _ _ _ = og
  have k5 : Kept h3 (h4.push og) := fun b o e => Heap.get?_push_of_some _ (k4 b o e)
  have gen5 : (h4.push og).IsGen (h3.objs.size + 1) s.gens.size := ⟨og, nm, qn, by rw [← sz4]; exact Heap.get?_push_size _ (by rw [← hGO]; rfl), by rw [← hGO], by rw [← hGO], by rw [← hGO]⟩
  have sz5 : (h4.push og).objs.size = h3.objs.size + 2 := by rw [Heap.size_push, sz4]
  have eL5 : (h4.push og).get? h3.objs.size = some oL := Heap.get?_push_of_some _ eL
  have F5 : Fr g1 L1 (h4.push og) _ := F3.keeps k5
  have N5 : News g1 L1 (h4.push og) _ := N3.grown k5
  have hr5 := k5 _ _ hr
  have Plt : P < h3.objs.size := Heap.lt_size (N3 _ (.head _)).1
  clear F2 N2 F3 N3 k3 hr
  k_steps
  unfold Hold
  refine call_zipG hr5 gen5 fun h6 hz6 hti6 hto6 hri6 sz6 k6 => ?_
  have F6 := F5.keeps k6
  have N6 := N5.grown k6
  have k6' : Kept (h4.push og) h6 := k6
  clear F5 N5
  refine wpAny_pyIter_zip hz6 ?_
  generalize hws : (List.range NN).map (fun i => wv (7 - i)) = ws at hret
  have wsi : ∀ i, i < NN → ws[i]? = some (wv (7 - i)) := fun i hi => by rw [← hws]; simp [hi]
  have wsl : ws.length = NN := by rw [← hws]; simp
  refine for_zip (g := g1) (LG := h3.objs.size) (wv := wv) (nE := nE) (N0 := (h4.push og).objs.size) (GO := h3.objs.size + 1) (gno := s.gens.size) (N := NN) hN hNe hN6 rfl ?room T1.nolimit LGl rfl rfl (by decide) rfl F6 N6 ?hnw ?hZ
    (fun i m nw => (∃ t, Knows m [("pieces", .ref P), ("number", .int ((ws.take i).foldl pieceStep ([], x)).2 t)]) ∧ ∃ us n, nw = [(P, listOf us.toArray n)] ∧ IntsAre us ((ws.take i).foldl pieceStep ([], x)).1) ?h0 ?step ?hQ
  case room => ktr_room
  case hnw => exact fun p hp => by rw [List.mem_singleton.mp hp]; exact Plt
  case hZ =>
    refine ⟨Nat.lt_succ_self _, by rw [sz5]; exact Nat.lt_succ_self _, hz6, hti6, ⟨_, _, hto6⟩, hri6, gen5.keeps k6, _, [(h3.objs.size, oL)], Array.getElem?_push_size, fun p hp => ?_, ?_⟩
    · rw [List.mem_singleton.mp hp]
      exact ⟨k6 _ _ eL5, .inl rfl⟩
    · exact gen_good (LG := h3.objs.size) ⟨rfl, rfl, rfl, rfl, rfl, rfl, rfl, fun A E s pos Q up hQ => Name_function_global rfl rfl (loadGlobal_global (T1.g.keeps up) (mg_of X1 T1.g (by k_is)) (hQ _))⟩ rfl pre ha hb (by omega) (by omega) (by omega) (by omega) hend hw7 hw ns4 eL rfl (Nat.le_trans (show g1.objs.size ≤ L1 from F6.above) (Nat.le_of_lt LGl)) rfl
  case h0 => exact ⟨⟨_, rfl, rfl, trivial⟩, [], 0, rfl, .nil⟩
  case step =>
    rintro i m5 nw5 h7 tk7 G7 own tx7 ty7 hi ⟨⟨t5, hK⟩, us, n5, rfl, hI⟩ F7 N7 hl7 ho7
    have hstep := foldl_take_succ pieceStep (([], x)) (wsi i hi)
    have hlen := pieces_len x (ws.take i) ([], x)
    have hul := hI.length
    have hti : (ws.take i).length ≤ 6 := by rw [List.length_take]; omega
    simp only [List.length_nil] at hlen
    generalize (ws.take i).foldl pieceStep ([], x) = st at *
    obtain ⟨st1, st2⟩ := st
    dsimp only at *
    have F7 : Fr g1 L1 h7 _ := know F7 (l := [("width", .int (wv (7 - i)) ty7), ("pieces", .ref P), ("number", .int st2 t5)]) ⟨rfl, hK.1, hK.2.1, trivial⟩
    have N7 : News g1 L1 h7 ((P, listOf us.toArray n5) :: own) := N7
    have offP : ∀ p ∈ own, p.1 ≠ P := fun p hp q => absurd (ho7 p hp) (Nat.not_le.mpr (by rw [q]; exact Plt))
    have w0 : 0 ≤ wv (7 - i) ∧ wv (7 - i) < 100 := by
      rcases Nat.eq_zero_or_pos i with rfl | hp
      · rw [show wv (7 - 0) = wv 7 from rfl, hw7]; omega
      · rw [hw (7 - i) (by omega)]; omega
    generalize wv (7 - i) = wd at *
    have hw0 := w0.1
    have hlsh : (Builtin.Int.intBits 1 : Int) + wd ≤ 2 ^ 27 := by have : (Builtin.Int.intBits 1 : Int) = 1 := (by decide +kernel); rw [this]; omega
    k_steps
    unfold Hold
    (k_here; (with_reducible show wpAny _ _ (call (Value.ref 56) _ _) _ _ _); k_dflt (refine' Clm.use_int (lshC _ _ _ _ _ _ _ _ ?c1ø ?c2ø) ?k1ø ?k2ø ?k3ø ?k4ø ?k5ø ?kKø ?kdø ?kuø ?kpø ?_; (case k1ø => k_asm); (case k2ø => k_asm); (case k3ø => k_asm); (case k4ø => k_asm); (case k5ø => k_asm); (case kpø => exact trivial); (case c1ø => first | assumption | decide | omega); (case c2ø => first | assumption | decide); (case kKø => first | exact rfl | assumption); (case kdø => ktr_room); (case kuø => ktr_units); intro _ _ _ _ _ _; (try dsimp only); (try k_fold); (try k_sweep)))
    k_steps
    unfold Hold
    (k_here; (with_reducible show wpAny _ _ (call (Value.ref 77) _ _) _ _ _); k_dflt (refine' Clm.use_int (subIC _ _ _ _ _ _ _ _) ?k1ø ?k2ø ?k3ø ?k4ø ?k5ø ?kKø ?kdø ?kuø ?kpø ?_; (case k1ø => k_asm); (case k2ø => k_asm); (case k3ø => k_asm); (case k4ø => k_asm); (case k5ø => k_asm); (case kpø => exact trivial); (case kKø => first | exact rfl | assumption); (case kdø => ktr_room); (case kuø => ktr_units); intro _ _ _ _ _ _; (try dsimp only); (try k_fold); (try k_sweep)))
    k_steps
    unfold Hold
    (k_here; (with_reducible show wpAny _ _ (call (Value.ref 49) _ _) _ _ _); k_dflt (refine' Clm.use_int (andC _ _ _ _ _ _ _ _) ?k1ø ?k2ø ?k3ø ?k4ø ?k5ø ?kKø ?kdø ?kuø ?kpø ?_; (case k1ø => k_asm); (case k2ø => k_asm); (case k3ø => k_asm); (case k4ø => k_asm); (case k5ø => k_asm); (case kpø => exact trivial); (case kKø => first | exact rfl | assumption); (case kdø => ktr_room); (case kuø => ktr_units); intro _ _ _ _ _ _; (try dsimp only); (try k_fold); (try k_sweep)))
    k_steps
    unfold Hold
    (k_here; (with_reducible show wpAny _ _ (call (Value.ref 70) _ _) _ _ _); k_dflt (refine' Clm.use_int (rshC _ _ _ _ _ _ _ _ ?c1ø) ?k1ø ?k2ø ?k3ø ?k4ø ?k5ø ?kKø ?kdø ?kuø ?kpø ?_; (case k1ø => k_asm); (case k2ø => k_asm); (case k3ø => k_asm); (case k4ø => k_asm); (case k5ø => k_asm); (case kpø => exact trivial); (case c1ø => first | assumption | decide | omega); (case kKø => first | exact rfl | assumption); (case kdø => ktr_room); (case kuø => ktr_units); intro _ _ _ _ _ _; (try dsimp only); (try k_fold); (try k_sweep)))
    k_steps
    with_reducible rename Fr g1 L1 _ _ => F8
    with_reducible rename News g1 L1 _ _ => N8
    simp only [hstep]
    simp only [List.push_toArray] at N8
    exact ⟨rfl, _, _, _, [(P, _)], rfl, F8, N8, (fun p hp => by rw [List.mem_singleton.mp hp]; exact Plt), ⟨_, rfl, rfl, trivial⟩, _, _, rfl, isn hI⟩
  case hQ =>
    rintro h7 tk7 m7 nw7 G7 hb7 F7 N7 ⟨⟨t5, hK⟩, us, n5, rfl, hI⟩
    have F7 : Fr g1 L1 h7 _ := know F7 (l := [("pieces", .ref P), ("number", .int _ t5)]) ⟨hK.1, hK.2.1, trivial⟩
    have N7 : News g1 L1 h7 [(P, listOf us.toArray n5)] := N7
    rw [← wsl, List.take_length] at hI F7
    have hlen := pieces_len x ws ([], x)
    have hul := hI.length
    simp only [List.length_nil] at hlen
    have hu6 : us.length ≤ 6 := by omega
    k_steps
    with_reducible rename Fr g1 L1 _ _ => F9
    with_reducible rename News g1 L1 _ _ => N9
    try simp only [List.append_toArray] at N9
    refine hret _ _ _ _ (fun hab => hb7 (hab.push rfl)) (kept_end G1 F9) ⟨_, _, _, rfl, fresh_of G1 (N9 _ (.head _)).2.2, (N9 _ (.head _)).1, ?_⟩
    unfold piecesF
    assumption
end
end Mine
end
section
open PySem PySem.W PyProof.Rows PySem.Calls PySem.Spec PyProof.V PySem.SeqAt PyProof.Rows.LCg
set_option linter.unusedVariables false
namespace Mine
noncomputable def EnumEnd (g : Heap) (L : Addr) (m : PySem.Str → Option Value) (C : Addr) (oC : Obj) (D : Addr) (oD : Obj) (rest : List (Addr × Obj)) (s₁ : Shared) (x : Int) (y : Value) (s' : Shared) : Prop :=
  ∃ h' tk t, s' = { s₁ with heap := h', toks := tk } ∧ y = .int x t ∧ Fr g L h' m ∧ News g L h' ((C, oC) :: (D, oD) :: rest)
inductive EcInv (g : Heap) (L : Addr) (m : PySem.Str → Option Value) (nw : List (Addr × Obj)) (s : Shared) (cenv : Env) (e it l D : Nat) (items : Array Value) (f : Nat → Int) (k : Nat) (s' : Shared) : Prop
  | mk (h' : Heap) (tk : Nat) (m' : PySem.Str → Option Value) (ys : List Value) (i : Nat) (old : Value) (pf : s' = { s with heap := h', toks := tk } ∧ IsEnum h' e it i old ∧ h'.IsListIter it l i ∧ h'.get? D = some (lst ys) ∧ h'.Ns cenv.locals m' ∧ Fr g L h' m ∧ News g L h' nw ∧ IntsAre ys ((List.range i).map f) ∧ i ≤ items.size ∧ k = items.size + 1 - i)
section
variable {prog : Program} {w : World} {A : Around} {E : Value → Shared → Prop} {s : Shared} {g : Heap} {L : Nat} {m : PySem.Str → Option Value} {env : Env}
theorem ints_range {ys : List Value} {f : Nat → Int} {i : Nat} {t : Tok} (h : IntsAre ys ((List.range i).map f)) : IntsAre (ys ++ [.int (f i) t]) ((List.range (i + 1)).map f) := by
  rw [List.range_succ, List.map_append]
  exact isn h
theorem enum_loop {elt iter : PySem.Expr} {a b : PySem.Str} {pa pb tp : Pos} {kk : Nat} {scope : Scope} {pos : Pos} {e it l D : Nat} {cenv : Env} {R : Result → Shared → Prop} {items : Array Value} {nw : List (Addr × Obj)} {m₀ : PySem.Str → Option Value} (f : Nat → Int)
    (hh : A.handled = none) (ha : cenv.kindOf a = some .local) (hb : cenv.kindOf b = some .local) (hab : ¬ a = b)
    (hp : (cenv.scope.kind == .class || (cenv.scope.kind == .module && cenv.locals != cenv.globals)) = false)
    (lt1 : L < it) (lt2 : e = it + 1) (lt3 : e < D) (lt4 : @LT.lt Nat _ D cenv.locals) (lnw : ∀ p ∈ nw, p.1 < it)
    (F : Fr g L s.heap m) (N : News g L s.heap nw) (hl : ∃ ol, (l, ol) ∈ nw ∧ ol.cls = .type "list" ∧ ∃ n, ol.data = .seq items n)
    (hen : IsEnum s.heap e it 0 .none) (hit : s.heap.IsListIter it l 0) (hacc : s.heap.get? D = some (lst [])) (hn : s.heap.Ns cenv.locals m₀) (hsz : items.size ≤ sizeLine)
    (step : ∀ (i : Nat) x t oC oD m₂ h tk own E', items[i]? = some x → NsObj oC m₂ → m₂ a = some (.int i t) → m₂ b = some x → Fr g L h m → News g L h ((cenv.locals, oC) :: (D, oD) :: (nw ++ own)) →
      wpAny (model prog w) A (eval elt cenv) (EnumEnd g L m cenv.locals oC D oD (nw ++ own) { s with heap := h, toks := tk } (f i)) E' { s with heap := h, toks := tk })
    (hR : ∀ h' tk m' ys, Fr g L h' m → News g L h' ((D, lst ys) :: nw) → h'.Ns cenv.locals m' → IntsAre ys ((List.range items.size).map f) → R (.ok .next) { s with heap := h', toks := tk }) :
    codeAny (model prog w) A (.compLoop (.ListComp elt [⟨.Tuple [.Name a pa, .Name b pb] kk tp, iter, [], 0⟩] scope pos) 0 (.ref e) (.ref D) cenv) R s := by
  have nng : ∀ {c : Nat}, L < c → g.get? c = none := fun h => Heap.get?_none_of_le (Nat.le_trans F.above (Nat.le_of_lt h))
  have glt : ∀ {c : Nat} {o : Obj}, g.get? c = some o → c < L := fun e => Nat.lt_of_lt_of_le (Heap.lt_size e) F.above
  obtain ⟨ol, hml, hcl, nl, hdl⟩ := hl
  refine kcp_loop
    (EcInv g L m nw s cenv e it l D items f) ?_ (items.size + 1)
    ⟨s.heap, s.toks, m₀, [], 0, .none, rfl, hen, hit, hacc, hn, F, N, .nil, Nat.zero_le _, rfl⟩
  rintro k s' ⟨H, tk, m', ys, i, old, rfl, hen', hit', hacc', hn', F', N', hI, hi, rfl⟩
  have hl' : H.IsList l items := ⟨ol, (N' _ hml).1, hcl, nl, hdl⟩
  have llt : l < it := lnw _ hml
  by_cases hlt : i < items.size
  · have hx : items[i]? = some items[i] := Array.getElem?_eq_getElem hlt
    refine wpAny_pyNext_enum_item hen' hit' hl' hx (by rw [lt2]; exact Nat.succ_ne_self _) fun h₁ ho₁ hit₁ hT₁ hsz₁ hk₁ => ?_
    refine wpAny_letOwnedTupleGo_enum ho₁ fun h₂ he₂ hs₂ => ?_
    have eH : e < H.objs.size := Heap.lt_size hen'
    have hT₂ : h₂.IsTuple H.objs.size #[.int i tk, items[i]] := ⟨_, (hs₂.2 _ (Nat.ne_of_gt eH)).trans hT₁, rfl, _, rfl⟩
    have k₂ : ∀ (c : Nat) o, c ≠ e → c ≠ it → H.get? c = some o → h₂.get? c = some o := fun (c : Nat) o n1 n2 x => (hs₂.2 c n1).trans (hk₁ c o n1 n2 x)
    have hit₂ : h₂.IsListIter it l (i + 1) := hit₁.at fun o x => (hs₂.2 it (by rw [lt2]; exact Nat.ne_of_lt (Nat.lt_succ_self _))).trans x
    have cne : cenv.locals ≠ e ∧ cenv.locals ≠ it := ⟨Nat.ne_of_gt (Nat.lt_trans lt3 lt4), Nat.ne_of_gt (Nat.lt_trans (show it < e by omega) (Nat.lt_trans lt3 lt4))⟩
    refine kcp_assign (env := cenv) (m := m') hh hT₂ ha hb hp (hn'.at' fun o x => k₂ _ o cne.1 cne.2 x) fun h₃ tk₃ hn₃ hs₃ => ?_
    have k₃ : ∀ (c : Nat) o, c ≠ e → c ≠ it → c ≠ cenv.locals → H.get? c = some o → h₃.get? c = some o := fun (c : Nat) o n1 n2 n3 x => hs₃ c o n3 (k₂ c o n1 n2 x)
    have hLC : L < cenv.locals := Nat.lt_trans (Nat.lt_trans lt1 (show it < e by omega)) (Nat.lt_trans lt3 lt4)
    have itD : it < D := by omega
    have F₃ : Fr g L h₃ m := ⟨F'.ns.at' fun o x => k₃ L o (Nat.ne_of_lt (by omega)) (Nat.ne_of_lt lt1) (Nat.ne_of_lt hLC) x, fun (c : Nat) o x => by
      have := glt x
      exact k₃ c o (Nat.ne_of_lt (by omega)) (Nat.ne_of_lt (by omega)) (Nat.ne_of_lt (Nat.lt_trans this hLC)) (F'.keep c o x), F'.above⟩
    obtain ⟨oC, eC, hoC⟩ := ns_obj hn₃
    have hen₃ : IsEnum h₃ e it ((i + 1 : Nat) : Int) items[i] := by
      have := hs₃ e _ (Ne.symm cne.1) he₂
      simpa using this
    obtain ⟨oit, eit, cit, dit⟩ : h₃.IsListIter it l (i + 1) := hit₂.at fun o x => hs₃ it o (Ne.symm cne.2) x
    have eD : h₃.get? D = some (lst ys) := k₃ D _ (Nat.ne_of_gt lt3) (Nat.ne_of_gt itD) (Nat.ne_of_lt lt4) hacc'
    have N₃ : News g L h₃ ((cenv.locals, oC) :: (D, lst ys) :: (nw ++ [(e, _), (it, oit)])) := fun p hp => by
      rcases List.mem_cons.mp hp with rfl | hp
      · exact ⟨eC, Nat.ne_of_gt hLC, nng hLC⟩
      rcases List.mem_cons.mp hp with rfl | hp
      · exact ⟨eD, Nat.ne_of_gt (Nat.lt_trans lt1 itD), nng (Nat.lt_trans lt1 itD)⟩
      rcases List.mem_append.mp hp with hp | hp
      · have l0 := lnw p hp
        exact ⟨k₃ _ _ (Nat.ne_of_lt (Nat.lt_trans l0 (show it < e by omega))) (Nat.ne_of_lt l0) (Nat.ne_of_lt (Nat.lt_trans l0 (Nat.lt_trans itD lt4))) (N' p hp).1, (N' p hp).2⟩
      rcases List.mem_cons.mp hp with rfl | hp
      · exact ⟨hen₃, Nat.ne_of_gt (Nat.lt_trans lt1 (show it < e by omega)), nng (Nat.lt_trans lt1 (show it < e by omega))⟩
      · rw [List.mem_singleton.mp hp]
        exact ⟨eit, Nat.ne_of_gt lt1, nng lt1⟩
    have hxi : items[i]? = some items[i] := hx
    refine wpAny_mono (step i items[i] tk oC (lst ys) _ h₃ _ _ _ hxi hoC (by simp [hab]) (by simp) F₃ N₃) (fun y s₄ h₄ => ?_) fun _ _ x => x
    obtain ⟨h₄, tk₄, t₄, rfl, rfl, F₄, N₄⟩ := h₄
    have hys : ys.length = i := by rw [hI.length]; simp
    have eD₄ := (N₄ _ (.tail _ (.head _))).1
    refine append_at (hsz := by show ys.toArray.size ≤ sizeLine; rw [List.size_toArray, hys]; exact Nat.le_trans hi hsz) eD₄ fun h₅ hs₅ hD₅ => ?_
    have eE₄ := (N₄ (e, _) (.tail _ (.tail _ (List.mem_append_right _ (.head _))))).1
    have eI₄ := (N₄ (it, oit) (.tail _ (.tail _ (List.mem_append_right _ (.tail _ (.head _)))))).1
    have eC₄ := (N₄ (cenv.locals, oC) (.head _)).1
    have hDn : g.get? D = none := nng (Nat.lt_trans lt1 itD)
    refine ⟨items.size + 1 - (i + 1), turn_lt (by assumption), h₅, tk₄, _, ys ++ [.int (f i) t₄], i + 1, _, rfl, hs₅.extBut _ _ (Nat.ne_of_lt lt3) eE₄, ⟨oit, hs₅.extBut _ _ (Nat.ne_of_lt itD) eI₄, cit, dit⟩, hD₅.trans (congrArg some (lst_snoc ys _)), (hoC.ns eC₄).sameBut hs₅ (Nat.ne_of_gt lt4), F₄.change hs₅ (Nat.ne_of_gt (Nat.lt_trans lt1 itD)) hDn, fun p hp => ?_, ints_range hI, hlt, rfl⟩
    have := N₄ p (.tail _ (.tail _ (List.mem_append_left _ hp)))
    exact ⟨hs₅.extBut _ _ (Nat.ne_of_lt (Nat.lt_trans (lnw p hp) itD)) this.1, this.2⟩
  · have hin : i = items.size := Nat.le_antisymm hi (Nat.not_lt.mp hlt)
    subst hin
    refine wpAny_pyNext_enum_end hh hen' hit' hl' (Array.getElem?_eq_none (Nat.le_refl _)) fun h₁ hx => ?_
    have itD : it < D := by omega
    have hLC : L < cenv.locals := Nat.lt_trans (Nat.lt_trans lt1 itD) lt4
    have cne : cenv.locals ≠ e ∧ cenv.locals ≠ it := ⟨Nat.ne_of_gt (Nat.lt_trans lt3 lt4), Nat.ne_of_gt (Nat.lt_trans itD lt4)⟩
    refine hR h₁ _ m' ys ⟨F'.ns.at' fun o y => hx L o (Nat.ne_of_lt lt1) y, fun (c : Nat) o y => by
      have := glt y
      exact hx c o (Nat.ne_of_lt (by omega)) (F'.keep c o y), F'.above⟩ (fun p hp => ?_) (hn'.at' fun o y => hx _ o cne.2 y) hI
    rcases List.mem_cons.mp hp with rfl | hp
    · exact ⟨hx _ _ (Nat.ne_of_gt itD) hacc', Nat.ne_of_gt (Nat.lt_trans lt1 itD), nng (Nat.lt_trans lt1 itD)⟩
    · have l0 := lnw p hp
      exact ⟨hx _ _ (Nat.ne_of_lt l0) (N' p hp).1, (N' p hp).2⟩
inductive EnumSrc (prog : Program) (w : World) (A : Around) (g : Heap) (env : Env) (elt : PySem.Expr) (a b y : PySem.Str) (scope : Scope) (cl : List (PySem.Str × Addr)) (Q : Flow → Shared → Prop) (xv : Value) (s₁ : Shared) : Prop
  | mk (m : PySem.Str → Option Value) (nw : List (Addr × Obj)) (l it : Nat) (items : Array Value) (f : Nat → Int) (pf : xv = .ref (it + 1) ∧ A.handled = none ∧ Fr g env.locals s₁.heap m ∧ News g env.locals s₁.heap nw ∧ (∀ p ∈ nw, p.1 < it) ∧ env.locals < it ∧
    (∃ ol, (l, ol) ∈ nw ∧ ol.cls = .type "list" ∧ ∃ n, ol.data = .seq items n) ∧ IsEnum s₁.heap (it + 1) it 0 .none ∧ s₁.heap.IsListIter it l 0 ∧ s₁.heap.objs.size = it + 2 ∧ items.size ≤ sizeLine ∧
    (∀ (i : Nat) x t (C : Nat) oC (D : Nat) oD m₂ h tk own E', items[i]? = some x → NsObj oC m₂ → m₂ a = some (.int i t) → m₂ b = some x → Fr g env.locals h m → News g env.locals h ((C, oC) :: (D, oD) :: (nw ++ own)) → D < C → (∀ p ∈ nw, p.1 < D) →
      wpAny (model prog w) A (eval elt (compEnvC scope cl C env)) (EnumEnd g env.locals m C oC D oD (nw ++ own) { s₁ with heap := h, toks := tk } (f i)) E' { s₁ with heap := h, toks := tk }) ∧
    ∀ (D : Nat) h' tk ys, Fr g env.locals h' (fun z => if z = y then some (.ref D) else m z) → News g env.locals h' ((D, lst ys) :: nw) → (∀ p ∈ nw, p.1 < D) → IntsAre ys ((List.range items.size).map f) → Q .next { s₁ with heap := h', toks := tk })
theorem enum_assign {elt iter : PySem.Expr} {a b y : PySem.Str} {pa pb tp py : Pos} {kk : Nat} {scope : Scope} {cl : List (PySem.Str × Addr)} {pos spos : Pos} {Q : Flow → Shared → Prop} (_F : Fr g L s.heap m)
    (hsw : swapsWith (.ListComp elt [⟨.Tuple [.Name a pa, .Name b pb] kk tp, iter, [], 0⟩] scope pos) (some (.Name y py)) spos.line env = pure true)
    (hclos : closureFor scope env = pure cl) (hcell : ∀ z ∈ scope.names, z.2 ≠ .cell) (hkind : scope.kind = .function)
    (hnames : ∀ z ∈ scope.names, z.2 = .local → scope.names.lookup z.1 = some .local) (hxa : scope.names.lookup a = some .local) (hxb : scope.names.lookup b = some .local) (hab : ¬ a = b)
    (hy : env.kindOf y = some .local) (hp : (env.scope.kind == .class || (env.scope.kind == .module && env.locals != env.globals)) = false)
    (h : wpAny (model prog w) A (eval iter env) (EnumSrc prog w A g env elt a b y scope cl Q) E s)
    (hs : ∀ x, foldedSetIterable iter env x = pure x := by intro _; rfl) :
    wpAny (model prog w) A (exec (.Assign [.Name y py] (.ListComp elt [⟨.Tuple [.Name a pa, .Name b pb] kk tp, iter, [], 0⟩] scope pos) spos) env) Q E s := by
  rw [exec_Assign_Name_used _ _ _ _ hsw]
  refine wpAny_bind (wpAny_standAt (wpAny_bind ?_))
  show wpAny _ A (do let _ ← comprehension (.ListComp elt [⟨.Tuple [.Name a pa, .Name b pb] kk tp, iter, [], 0⟩] scope pos) scope env _ (newList []) false (eval iter env) (some (assign (.Name y py) env))) _ _ s
  refine wpAny_bind (wpAny_mono (wpAny_comprehension_free (use := some (assign (.Name y py) env)) (Q := fun _ s' => Q .next s') rfl hs hclos hkind hnames
    (wpAny_mono h (fun xv s₁ h₁ => ?_) fun _ _ e => e)) (fun _ s' hq => wpAny_pure (wpAny_pure hq)) fun _ _ e => e)
  obtain ⟨m, nw, l, it, items, f, rfl, hh, F, N, lnw, lt1, hl, hen, hit, sz, hsz, step, hQ⟩ := h₁
  refine wpAny_pyIter_enum hen ?_
  refine wpAny_newObj_type (wpAny_newFunctionEnv hcell (by intro y hy; simp at hy) (fun h₁ hns₁ hsb₁ => ?_) hkind)
  dsimp only at hns₁ hsb₁ ⊢
  generalize hH2 : s₁.heap.push { cls := .type "list", dict := none, data := .seq ([] : List Value).toArray } = H2 at hns₁ hsb₁ ⊢
  have sz2 : H2.objs.size = it + 3 := by rw [← hH2, Heap.size_push, sz]
  have old1 : Kept s₁.heap H2 := fun c o e => hH2 ▸ Heap.get?_push_of_some _ e
  have lt2 : ∀ c o, H2.get? c = some o → c ≠ H2.objs.size := fun c o e => Nat.ne_of_lt (Heap.lt_size e)
  have old2 : Kept H2 h₁ := fun c o e => hsb₁.extBut c o (lt2 c o e) (Heap.get?_push_of_some _ e)
  have hk := old1.trans old2
  have hacc : h₁.get? (it + 2) = some (lst []) := by rw [← sz]; exact old2 _ _ (hH2 ▸ Heap.get?_push_size _ rfl)
  have loop : ∀ s₃ : Shared, s₃ = { s₁ with heap := h₁, toks := s₁.toks + ([] : List (PySem.Str × Value)).length } →
      codeAny (model prog w) A (.compLoop (.ListComp elt [⟨.Tuple [.Name a pa, .Name b pb] kk tp, iter, [], 0⟩] scope pos) 0 (.ref (it + 1)) (.ref s₁.heap.objs.size) (compEnvC scope cl H2.objs.size env))
        (compPost (model prog w) A E (some (assign (.Name y py) env)) (fun _ s' => Q .next s') (.ref s₁.heap.objs.size) H2.objs.size) s₃ := by
    rintro s₃ rfl
    rw [sz]
    refine enum_loop (L := env.locals) (cenv := compEnvC scope cl H2.objs.size env) (nw := nw) (l := l) (it := it) (D := it + 2) (items := items) f hh (lookup_relabel_local hxa) (lookup_relabel_local hxb) hab (by simp [compEnvC, relabel, hkind]) lt1 rfl (Nat.lt_succ_self _) (show it + 2 < H2.objs.size by rw [sz2]; exact Nat.lt_succ_self _) lnw (F.keeps hk) (N.grown hk) hl (hk _ _ hen) (hit.at fun o e => hk _ o e) hacc hns₁ hsz
      (fun i x t oC oD m₂ h tk own E' e1 e2 e3 e4 F' N' => step i x t H2.objs.size oC (it + 2) oD m₂ h tk own E' e1 e2 e3 e4 F' N' (show it + 2 < H2.objs.size by rw [sz2]; exact Nat.lt_succ_self _) fun p hp => Nat.lt_trans (lnw p hp) (Nat.lt_succ_of_lt (Nat.lt_succ_self _))) fun h' tk m' ys F' N' hn' hI => ?_
    have hC₀ : g.get? H2.objs.size = none := Heap.get?_none_of_le (Nat.le_trans F.above (by rw [sz2]; exact Nat.le_of_lt (Nat.lt_trans lt1 (by omega))))
    have hCL : H2.objs.size ≠ env.locals := Nat.ne_of_gt (by rw [sz2]; exact Nat.lt_trans lt1 (by omega))
    show wpAny _ A (assign (.Name y py) env (.ref (it + 2))) _ _ _
    refine wpAny_assign_Name (wpAny_storeName_local hy F'.ns (fun h₂ hn₂ hs₂ => ?_) hp)
    have hL₀ : g.get? env.locals = none := Heap.get?_none_of_le F'.above
    have F₂ : Fr g env.locals h₂ (fun z => if z = y then some (.ref (it + 2)) else m z) := ⟨hn₂, fun b o e => hs₂.extBut b o (fun q => by rw [q, hL₀] at e; cases e) (F'.keep b o e), F'.above⟩
    refine ⟨m', hn'.sameBut hs₂ hCL, fun h'' hs'' => hQ (it + 2) h'' _ ys (F₂.change hs'' hCL hC₀) (fun p hp => ?_) (fun p hp => Nat.lt_trans (lnw p hp) (by omega)) hI⟩
    have z : h₂.get? p.1 = some p.2 := hs₂.extBut _ _ (N' p hp).2.1 (N' p hp).1
    refine ⟨hs''.extBut _ _ ?_ z, (N' p hp).2⟩
    rcases List.mem_cons.mp hp with rfl | hp
    · exact Nat.ne_of_lt (by rw [sz2]; exact Nat.lt_succ_self _)
    · exact Nat.ne_of_lt (by rw [sz2]; exact Nat.lt_trans (lnw p hp) (by omega))
  exact codeAny_compStart_list (loop _ rfl) (wpAny_pyIter_enum (hk _ _ hen) (loop _ rfl))
end
end Mine
end
section
open PySem PySem.W PyProof.Rows PySem.Calls PySem.Spec PyProof.V PySem.SeqAt PyProof.Rows.LCg
set_option linter.unusedVariables false
namespace Mine
theorem ints6 {ys : List Value} {f0 f1 f2 f3 f4 f5 : Int} (h : IntsAre ys [f0, f1, f2, f3, f4, f5]) : ∃ t0 t1 t2 t3 t4 t5, ys = [.int f0 t0, .int f1 t1, .int f2 t2, .int f3 t3, .int f4 t4, .int f5 t5] := by
  cases h with | cons _ t0 h =>
  cases h with | cons _ t1 h =>
  cases h with | cons _ t2 h =>
  cases h with | cons _ t3 h =>
  cases h with | cons _ t4 h =>
  cases h with | cons _ t5 h =>
  cases h
  exact ⟨_, _, _, _, _, _, rfl⟩
section
variable {prog : Program} {w : World} {A : Around} {E : Value → Shared → Prop} {s : Shared} {h₀ : Heap} {L l : Addr} {m : PySem.Str → Option Value} {news : List (Addr × Obj)}
theorem signs_item {value slice : PySem.Expr} {x0 x1 x2 x3 x4 x5 : PySem.Str} {t0 t1 t2 t3 t4 t5 : Tok} {n : Nat} {f : Int} {u : Tok} {Q : Value → Shared → Prop} (N : News h₀ L s.heap news) (hm : (l, listOf #[.str x0 t0, .str x1 t1, .str x2 t2, .str x3 t3, .str x4 t4, .str x5 t5] n) ∈ news)
    (e0 : x0 = sg 0) (e1 : x1 = sg 1) (e2 : x2 = sg 2) (e3 : x3 = sg 3) (e4 : x4 = sg 4) (e5 : x5 = sg 5) (h0 : 0 ≤ f) (h1 : f < 6)
    (hs : subscripted slice false (.ref l) (.int f u) = operate [.ref l, .int f u] (getItem (.ref l) (.int f u)))
    (h : ∀ t, Q (.str (sg f.toNat) t) s) : wpAny (model prog w) A (subscriptTail value slice (.ref l) (.int f u)) Q E s := by
  subst e0 e1 e2 e3 e4 e5
  refine KTb.item_list (vs := [.str (sg 0) t0, .str (sg 1) t1, .str (sg 2) t2, .str (sg 3) t3, .str (sg 4) t4, .str (sg 5) t5]) (ws := [sg 0, sg 1, sg 2, sg 3, sg 4, sg 5]) ⟨_, (N _ hm).1, rfl, n, rfl⟩ (.cons _ _ (.cons _ _ (.cons _ _ (.cons _ _ (.cons _ _ (.cons _ _ .nil)))))) h0 h1 (by omega) (fun t _ => ?_) hs
  have h6 : f.toNat = 0 ∨ f.toNat = 1 ∨ f.toNat = 2 ∨ f.toNat = 3 ∨ f.toNat = 4 ∨ f.toNat = 5 := by omega
  rcases h6 with q | q | q | q | q | q <;> rw [q] <;> have := h t <;> rw [q] at this <;> exact this
theorem sg_len (i : Nat) : (sg i).length ≤ 2 := by unfold sg; split <;> decide
theorem cat_len2 : ∀ l : List Nat, (cat l).length ≤ 2 * l.length
  | [] => Nat.zero_le _
  | i :: r => by
    have h1 := cat_len2 r
    have h2 := sg_len i
    have h3 := cat_len i r
    have : sz i = (sg i).length := rfl
    rw [h3, List.length_cons]
    omega
theorem cat_app (l r : List Nat) : cat l ++ cat r = cat (l ++ r) := by
  show (⟨(cat l).cps ++ (cat r).cps⟩ : PySem.Str) = cat (l ++ r)
  unfold cat
  simp
theorem join_cat {items : Array Value} {a b c : Nat} {t1 t2 t3 t : Tok} {x : PySem.Str} {Q : Value → Shared → Prop} (hl : s.heap.IsList l items) (hi : items.toList = [.str (sg a) t1, .str (sg b) t2, .str (sg c) t3]) (hx : x = PySem.Str.ofString "")
    (h : ∀ t k, Q (.str (cat [a, b, c]) t) { s with toks := k }) : wpAny (model prog w) A (call (.builtin "str.join") [.str x t, .ref l]) Q E s := by
  subst hx
  have e : Txt.join (PySem.Str.ofString "") [sg a, sg b, sg c] = cat [a, b, c] := by
    show (⟨_⟩ : PySem.Str) = ⟨_⟩
    congr 1
    simp [Txt.join, cat, PySem.Str.ofString]
    have e0 : cpsOfBytes 0 0 [] = [] := by rfl
    rw [e0]; rfl
  have la := sg_len a
  have lb := sg_len b
  have lc := sg_len c
  refine join_listW (ys := [sg a, sg b, sg c]) hl (by rw [hi]; exact .cons _ _ (.cons _ _ (.cons _ _ .nil))) (by decide) (by simp; omega) fun t k => e ▸ h t k
theorem add_cat {p q : List Nat} {t u : Tok} {Q : Value → Shared → Prop} (hp : p.length ≤ 10) (hq : q.length ≤ 10) (h : ∀ t k, Q (.str (cat (p ++ q)) t) { s with toks := k }) : wpAny (model prog w) A (binaryOp .Add (.str (cat p) t) (.str (cat q) u)) Q E s := by
  have h1 := cat_len2 p
  have h2 := cat_len2 q
  refine add_str (fun t k => cat_app p q ▸ h t k) (Nat.le_trans (show _ ≤ 40 by omega) (show 40 ≤ sizeLine by decide))
theorem comma : PySem.Str.ofString "," = cat [6] := by rfl
end
end Mine
namespace Mine
theorem news_add {g h h9 : Heap} {L l : Addr} {m : PySem.Str → Option Value} {o : Obj} {news : List (Addr × Obj)} (F : Fr g L h m) (q : h.get? l = none) (N : News g L h9 news) (e : h9.get? l = some o) : News g L h9 ((l, o) :: news) := fun p hp => by
  rcases List.mem_cons.mp hp with rfl | hp
  · refine ⟨e, fun x => ?_, ?_⟩
    · obtain ⟨_, _, _, e', _⟩ := F.ns
      have x' : l = L := x
      rw [← x', q] at e'; cases e'
    · show g.get? l = none
      cases x : g.get? l with
      | none => rfl
      | some o => rw [F.keep _ _ x] at q; cases q
  · exact N p hp
section
variable {α : Type} {M : Model} {A : Around} {E : Value → Shared → Prop} {t : Sem α} {Q : α → Shared → Prop} {h₀ : Heap} {L : Addr} {m : PySem.Str → Option Value} {news : List (Addr × Obj)} {h : Heap} {g : Array GenState} {d : Drawn} {tk : Nat} {o : OsState}
/-- of the frame and of the ledger only what is wanted further on -/
theorem reF (F : Fr h₀ L h m) (N : News h₀ L h news) (l : List (PySem.Str × Value)) (k : Knows m l) (ks : List Nat) (c : ∀ h' tk' u, Fr h₀ L h' (told l u) → News h₀ L h' (ks.filterMap (news[·]?)) → wpAny M A t Q E ⟨h', g, d, tk', o⟩) : wpAny M A t Q E ⟨h, g, d, tk, o⟩ :=
  c h tk m (know F k) fun p hp => N p (by
    obtain ⟨i, _, hi⟩ := List.mem_filterMap.mp hp
    exact List.mem_of_getElem? hi)
end
section
variable {α : Type} {M : Model} {A : Around} {E : Value → Shared → Prop} {t : Sem α} {Q : α → Shared → Prop} {s : Shared}
theorem gQa (h : ∀ Q' : α → Shared → Prop, (∀ a s, Q a s → Q' a s) → wpAny M A t Q' E s) : wpAny M A t Q E s := h Q fun _ _ h => h
end
end Mine
end
section
open PySem PySem.W PyProof.Rows PySem.Calls PySem.Spec
set_option linter.unusedVariables false
namespace Mine
/-- where no price is more than two, pw is a power of 256 -/
theorem pw0 : pw 0 = 1 := by decide
theorem pw1 : pw 1 = 256 := by decide
theorem pw2 : pw 2 = 65536 := by decide
theorem pw_in {c : Int} (h : 0 ≤ c ∧ c ≤ 2) : pw c = 1 ∨ pw c = 256 ∨ pw c = 65536 := by
  have : c = 0 ∨ c = 1 ∨ c = 2 := by omega
  rcases this with rfl | rfl | rfl
  · exact .inl pw0
  · exact .inr (.inl pw1)
  · exact .inr (.inr pw2)
theorem dv (S : Int) (p : Nat) (h1 : S % 256 ^ p = 0) (h2 : S / 256 ^ p % 256 ≠ 0) : ∃ r : Int, S = 256 ^ p * r ∧ r % 256 ≠ 0 :=
  ⟨S / 256 ^ p, (Int.mul_ediv_cancel' (Int.dvd_of_emod_eq_zero h1)).symm, h2⟩
theorem l012 {c : Int} (h : 0 ≤ c ∧ c ≤ 2) : c ∈ ([0, 1, 2] : List Int) := by
  have : c = 0 ∨ c = 1 ∨ c = 2 := by omega
  rcases this with rfl | rfl | rfl <;> decide
theorem t22 : ∀ a ∈ ([0, 1, 2] : List Int), ∀ b ∈ ([0, 1, 2] : List Int), ∀ c ∈ ([0, 1, 2] : List Int), ∀ d ∈ ([0, 1, 2] : List Int), sum22 (pw a) (pw b) (pw c) (pw d) % 256 ^ (a + d).toNat = 0 ∧ sum22 (pw a) (pw b) (pw c) (pw d) / 256 ^ (a + d).toNat % 256 ≠ 0 ∧ 0 ≤ sum22 (pw a) (pw b) (pw c) (pw d) ∧ sum22 (pw a) (pw b) (pw c) (pw d) < 2 ^ 100 := by decide +kernel
theorem t13 : ∀ a ∈ ([0, 1, 2] : List Int), ∀ b ∈ ([0, 1, 2] : List Int), ∀ c ∈ ([0, 1, 2] : List Int), sum13 (pw a) (pw b) (pw c) % 256 ^ (4 + min a (min b c)).toNat = 0 ∧ sum13 (pw a) (pw b) (pw c) / 256 ^ (4 + min a (min b c)).toNat % 256 ≠ 0 ∧ 0 ≤ sum13 (pw a) (pw b) (pw c) ∧ sum13 (pw a) (pw b) (pw c) < 2 ^ 100 := by decide +kernel
theorem least22 (a b c d : Int) (ha : 0 ≤ a ∧ a ≤ 2) (hb : 0 ≤ b ∧ b ≤ 2) (hc : 0 ≤ c ∧ c ≤ 2) (hd : 0 ≤ d ∧ d ≤ 2) : ∃ r : Int, sum22 (pw a) (pw b) (pw c) (pw d) = 256 ^ (a + d).toNat * r ∧ r % 256 ≠ 0 :=
  have h := t22 a (l012 ha) b (l012 hb) c (l012 hc) d (l012 hd)
  dv _ _ h.1 h.2.1
theorem least3 (a b c : Int) (ha : 0 ≤ a ∧ a ≤ 2) (hb : 0 ≤ b ∧ b ≤ 2) (hc : 0 ≤ c ∧ c ≤ 2) : ∃ r : Int, sum13 (pw a) (pw b) (pw c) = 256 ^ (4 + min a (min b c)).toNat * r ∧ r % 256 ≠ 0 :=
  have h := t13 a (l012 ha) b (l012 hb) c (l012 hc)
  dv _ _ h.1 h.2.1
end Mine
end
section
open PySem PySem.W PyProof.Rows PySem.Calls PySem.Spec
set_option linter.unusedVariables false
namespace Mine
theorem Clm.more {w : World} {mean : ExcName → Option Value} {mg mb : PySem.Str → Option Value} {f : Addr} {k k' : Nat} {vs : List Value} {Pre : Heap → Prop} {Out : Heap → Heap → Value → Prop} (C : Clm w mean mg mb f k vs Pre Out) (h : k ≤ k') : Clm w mean mg mb f k' vs Pre Out :=
  fun dp un gd cn cs a ccd cl outer A₀ base h₀ L m s Q E B F X N T hk hd hu pre hret => C dp un gd cn cs a ccd cl outer A₀ base h₀ L m s Q E B F X N T hk (by omega) (by omega) pre hret
theorem sub_self (x : PySem.Str) : subCost x x = 0 := by unfold subCost; rw [if_pos rfl]
theorem dec1 {x1 : Nat} : ∀ {p u q : List Nat}, [x1] = p ++ u ++ q → (p = [] ∧ u = [] ∧ q = [x1]) ∨ (p = [] ∧ u = [x1] ∧ q = []) ∨ (p = [x1] ∧ u = [] ∧ q = [])
  | [], [], q, h => .inl ⟨rfl, rfl, h.symm⟩
  | [], [a], q, h => by simp at h; simp [h]
  | [a], [], q, h => by simp at h; simp [h]
  | [], a :: b :: u, q, h => by simp at h
  | [a], b :: u, q, h => by simp at h
  | a :: b :: p, u, q, h => by simp at h
theorem min_add (k x y : Int) : min (k + x) (k + y) = k + min x y := by
  rcases Int.le_total x y with h | h
  · rw [Int.min_eq_left h, Int.min_eq_left (Int.add_le_add_left h k)]
  · rw [Int.min_eq_right h, Int.min_eq_right (Int.add_le_add_left h k)]
theorem lv11 (c : Nat → Nat → Int) (hc : ∀ i j, 0 ≤ c i j ∧ c i j ≤ 2) : lvV c 1 1 = c 0 0 := by
  have h := hc 0 0
  have e : lvV c 1 1 = min (min 0 2 + 2) (0 + c 0 0) := rfl
  rw [e]
  generalize c 0 0 = x at *
  rw [Int.zero_add]
  exact Int.min_eq_right h.2
theorem lv12 (c : Nat → Nat → Int) (hc : ∀ i j, 0 ≤ c i j ∧ c i j ≤ 2) : 2 ≤ lvV c 1 2 := by
  have h := hc 0 1
  have e : lvV c 1 2 = min (min (lvV c 1 1) 4 + 2) (2 + c 0 1) := rfl
  have h2 := hc 0 0
  rw [e, lv11 c hc]
  generalize c 0 0 = x at *
  generalize c 0 1 = y at *
  exact Int.le_min.mpr ⟨by have := Int.le_min.mpr ⟨h2.1, (show (0 : Int) ≤ 4 by decide)⟩; generalize min x 4 = m at *; omega, by omega⟩
theorem lv21 (c : Nat → Nat → Int) (hc : ∀ i j, 0 ≤ c i j ∧ c i j ≤ 2) : lvV c 2 1 = 2 + min (c 0 0) (c 1 0) := by
  have h := hc 0 0
  have h2 := hc 1 0
  have e : lvV c 2 1 = min (min 2 (lvV c 1 1) + 2) (2 + c 1 0) := rfl
  rw [e, lv11 c hc]
  generalize c 0 0 = x at *
  generalize c 1 0 = y at *
  rw [Int.min_eq_right h.2, Int.add_comm x 2]
  exact min_add 2 x y
theorem lv22 (c : Nat → Nat → Int) (hc : ∀ i j, 0 ≤ c i j ∧ c i j ≤ 2) : lvV c 2 2 = c 0 0 + c 1 1 := by
  have h00 := hc 0 0
  have h11 := hc 1 1
  have h21 : 2 ≤ lvV c 2 1 := by
    rw [lv21 c hc]
    have := Int.le_min.mpr ⟨h00.1, (hc 1 0).1⟩
    generalize min (c 0 0) (c 1 0) = m at *
    omega
  have h12 := lv12 c hc
  have e : lvV c 2 2 = min (min (lvV c 2 1) (lvV c 1 2) + 2) (lvV c 1 1 + c 1 1) := rfl
  rw [e, lv11 c hc]
  have := Int.le_min.mpr ⟨h21, h12⟩
  generalize min (lvV c 2 1) (lvV c 1 2) = m at *
  exact Int.min_eq_right (by omega)
theorem lv31 (c : Nat → Nat → Int) (hc : ∀ i j, 0 ≤ c i j ∧ c i j ≤ 2) : lvV c 3 1 = 4 + min (c 0 0) (min (c 1 0) (c 2 0)) := by
  have h0 := hc 0 0
  have h1 := hc 1 0
  have e : lvV c 3 1 = min (min 4 (lvV c 2 1) + 2) (4 + c 2 0) := rfl
  rw [e, lv21 c hc, ← Int.min_assoc]
  have : min (c 0 0) (c 1 0) ≤ 2 := Int.le_trans (Int.min_le_left _ _) h0.2
  generalize min (c 0 0) (c 1 0) = m at *
  generalize c 2 0 = y at *
  rw [Int.min_eq_right (show 2 + m ≤ 4 from Int.add_le_add_left this 2), Int.add_right_comm 2 m 2]
  exact min_add 4 m y
theorem min_nn {a b c : Int} (ha : 0 ≤ a) (hb : 0 ≤ b) (hc : 0 ≤ c) : 0 ≤ min a (min b c) := Int.le_min.mpr ⟨ha, Int.le_min.mpr ⟨hb, hc⟩⟩
theorem dp11 {a b : Nat} {mc z : Int} (h : subCost ⟨#[b]⟩ ⟨#[a]⟩ = z) (hm : z ≤ mc) : DpOk [a] [b] mc z := by
  have hc : ∀ j i : Nat, 0 ≤ subCost ⟨#[[b].getD j 0]⟩ ⟨#[[a].getD i 0]⟩ ∧ subCost ⟨#[[b].getD j 0]⟩ ⟨#[[a].getD i 0]⟩ ≤ 2 := fun j i => subCost_in _ _
  have h0 := (subCost_in ⟨#[b]⟩ ⟨#[a]⟩).1
  have e := lv11 _ hc
  refine ⟨by simp; omega, e.trans h, fun j hj => ⟨0, Nat.one_pos, ?_⟩⟩
  have : j = 0 := by simpa using hj
  subst this
  exact Int.le_trans (Int.le_of_eq (e.trans h)) hm
theorem dp22 {a b a' b' : Nat} {mc z : Int} (h : subCost ⟨#[b]⟩ ⟨#[a]⟩ + subCost ⟨#[b']⟩ ⟨#[a']⟩ = z) (hm : z ≤ mc) : DpOk [a, a'] [b, b'] mc z := by
  have hc : ∀ j i : Nat, 0 ≤ subCost ⟨#[[b, b'].getD j 0]⟩ ⟨#[[a, a'].getD i 0]⟩ ∧ subCost ⟨#[[b, b'].getD j 0]⟩ ⟨#[[a, a'].getD i 0]⟩ ≤ 2 := fun j i => subCost_in _ _
  have h0 := (subCost_in ⟨#[b]⟩ ⟨#[a]⟩).1
  have h1 := (subCost_in ⟨#[b']⟩ ⟨#[a']⟩).1
  have e := lv22 _ hc
  refine ⟨by simp; omega, e.trans h, fun j hj => ?_⟩
  match j, hj with
  | 0, _ => exact ⟨0, by simp, Int.le_trans (Int.le_of_eq (lv11 _ hc)) (by show subCost ⟨#[b]⟩ ⟨#[a]⟩ ≤ mc; omega)⟩
  | 1, _ => exact ⟨1, by simp, Int.le_trans (Int.le_of_eq (e.trans h)) hm⟩
theorem dp13 {a b b' b'' : Nat} {mc z : Int} (h : 4 + min (subCost ⟨#[b]⟩ ⟨#[a]⟩) (min (subCost ⟨#[b']⟩ ⟨#[a]⟩) (subCost ⟨#[b'']⟩ ⟨#[a]⟩)) = z) (hm : z ≤ mc) : DpOk [a] [b, b', b''] mc z := by
  have hc : ∀ j i : Nat, 0 ≤ subCost ⟨#[[b, b', b''].getD j 0]⟩ ⟨#[[a].getD i 0]⟩ ∧ subCost ⟨#[[b, b', b''].getD j 0]⟩ ⟨#[[a].getD i 0]⟩ ≤ 2 := fun j i => subCost_in _ _
  have h0 := subCost_in ⟨#[b]⟩ ⟨#[a]⟩
  have h1 := subCost_in ⟨#[b']⟩ ⟨#[a]⟩
  have h2 := subCost_in ⟨#[b'']⟩ ⟨#[a]⟩
  have e := lv31 _ hc
  have hz : 4 ≤ z := by have := min_nn h0.1 h1.1 h2.1; rw [← h]; exact Int.le_add_of_nonneg_right this
  refine ⟨Int.le_trans (show ((3 : Int) - 1) * 2 ≤ 4 by decide) (Int.le_trans hz hm), e.trans h, fun j hj => ⟨0, Nat.one_pos, ?_⟩⟩
  match j, hj with
  | 0, _ => exact Int.le_trans (Int.le_of_eq (lv11 _ hc)) (Int.le_trans h0.2 (Int.le_trans (by decide) (Int.le_trans hz hm)))
  | 1, _ => exact Int.le_trans (Int.le_of_eq (lv21 _ hc)) (Int.le_trans (Int.add_le_add_left (Int.le_trans (Int.min_le_left _ _) h0.2) 2) (Int.le_trans hz hm))
  | 2, _ => exact Int.le_trans (Int.le_of_eq (e.trans h)) hm
theorem two_end {y1 y2 x : Nat} : ∀ {v : List Nat}, [y1, y2] = v ++ [x] → y2 = x ∧ v = [y1]
  | [_], h => by simp at h; simp [h]
  | [], h => by simp at h
  | _ :: _ :: _, h => by simp at h
theorem split2 {x1 x2 : Nat} {p u q : List Nat} (h : [x1, x2] = p ++ u ++ q) : (u = [] ∧ p ++ q = [x1, x2]) ∨ (u = [x1] ∧ p = [] ∧ q = [x2]) ∨ (u = [x2] ∧ p = [x1] ∧ q = []) ∨ (u = [x1, x2] ∧ p = [] ∧ q = []) := by
  cases u with
  | nil => exact .inl ⟨rfl, by rw [h, List.append_nil]⟩
  | cons a u =>
    cases p with
    | nil =>
      cases u with
      | nil => simp at h; simp [h]
      | cons b u => simp at h; simp [h]
    | cons b p =>
      have hl := congrArg List.length h
      simp at hl
      have hp : p = [] := List.eq_nil_of_length_eq_zero (by omega)
      have hu : u = [] := List.eq_nil_of_length_eq_zero (by omega)
      have hq : q = [] := List.eq_nil_of_length_eq_zero (by omega)
      subst hp hu hq
      simp at h
      simp [h]
section
variable {w : World} {mean : ExcName → Option Value} {mg mb : PySem.Str → Option Value}
theorem lev22all (x1 x2 y1 y2 : Nat) (tx ty tm : Tok) (mc : Int) (hm : subCost ⟨#[x1]⟩ ⟨#[y1]⟩ + subCost ⟨#[x2]⟩ ⟨#[y2]⟩ ≤ mc) :
    Clm w mean mg mb 28 3 [Value.str ⟨#[x1, x2]⟩ tx, Value.str ⟨#[y1, y2]⟩ ty, Value.int mc tm] Any (Gives (subCost ⟨#[x1]⟩ ⟨#[y1]⟩ + subCost ⟨#[x2]⟩ ⟨#[y2]⟩)) := by
  refine levC w mean mg mb [x1, x2] [y1, y2] (by simp) (by simp) tx ty tm mc _ fun p u v q hx hy => ?_
  rw [subCost_comm ⟨#[x1]⟩, subCost_comm ⟨#[x2]⟩] at hm ⊢
  rcases split2 hx with ⟨rfl, e⟩ | ⟨rfl, rfl, rfl⟩ | ⟨rfl, rfl, rfl⟩ | ⟨rfl, rfl, rfl⟩
  · have hv : v = [] := by
      have h1 := congrArg List.length e
      have h2 := congrArg List.length hy
      simp only [List.length_append, List.length_cons, List.length_nil] at h1 h2
      exact List.eq_nil_of_length_eq_zero (by omega)
    subst hv
    have e2 := e.symm.trans ((List.append_nil p ▸ hy).symm)
    injection e2 with e1 e2
    injection e2 with e2 _
    subst e1 e2
    rw [sub_self, sub_self]
    exact ⟨fun _ => rfl, fun h => absurd rfl h⟩
  · obtain ⟨rfl, rfl⟩ := two_end (by simpa using hy)
    rw [sub_self, Int.add_zero] at hm ⊢
    exact ⟨fun h => by simp at h, fun _ _ => ⟨fun _ => dp11 rfl hm, fun h => absurd h (by simp)⟩⟩
  · have hy : [y1, y2] = x1 :: (v ++ []) := hy
    rw [List.append_nil] at hy
    injection hy with e1 e2
    subst e1 e2
    rw [sub_self, Int.zero_add] at hm ⊢
    exact ⟨fun h => by simp at h, fun _ _ => ⟨fun _ => dp11 rfl hm, fun h => absurd h (by simp)⟩⟩
  · have hy : [y1, y2] = v ++ [] := hy
    rw [List.append_nil] at hy
    subst hy
    exact ⟨fun h => by simp at h, fun _ _ => ⟨fun _ => dp22 rfl hm, fun h => absurd h (by simp)⟩⟩
theorem min0 (a b : Int) (ha : 0 ≤ a) (hb : 0 ≤ b) : min 0 (min a b) = 0 ∧ min a (min b 0) = 0 := ⟨Int.min_eq_left (Int.le_min.mpr ⟨ha, hb⟩), by rw [Int.min_eq_right hb, Int.min_eq_right ha]⟩
theorem three {y1 y2 y3 : Nat} {v : List Nat} {x : Nat} : ([y1, y2, y3] = v ++ [x] → y3 = x ∧ v = [y1, y2]) ∧ ([y1, y2, y3] = [x] ++ v → y1 = x ∧ v = [y2, y3]) := by
  refine ⟨fun h => ?_, fun h => ?_⟩
  · match v, h with
    | [_, _], h => simp at h; simp [h]
    | [], h => simp at h
    | [_], h => simp at h
    | _ :: _ :: _ :: _, h => exact absurd (congrArg List.length h) (by simp)
  · simp at h; simp [h]
theorem lev13all (x1 y1 y2 y3 : Nat) (tx ty tm : Tok) (mc : Int) (hm : 4 + min (subCost ⟨#[x1]⟩ ⟨#[y1]⟩) (min (subCost ⟨#[x1]⟩ ⟨#[y2]⟩) (subCost ⟨#[x1]⟩ ⟨#[y3]⟩)) ≤ mc) :
    Clm w mean mg mb 28 3 [Value.str ⟨#[x1]⟩ tx, Value.str ⟨#[y1, y2, y3]⟩ ty, Value.int mc tm] Any (Gives (4 + min (subCost ⟨#[x1]⟩ ⟨#[y1]⟩) (min (subCost ⟨#[x1]⟩ ⟨#[y2]⟩) (subCost ⟨#[x1]⟩ ⟨#[y3]⟩)))) := by
  refine levC w mean mg mb [x1] [y1, y2, y3] (by simp) (by simp) tx ty tm mc _ fun p u v q hx hy => ?_
  rw [subCost_comm ⟨#[x1]⟩ ⟨#[y1]⟩, subCost_comm ⟨#[x1]⟩ ⟨#[y2]⟩, subCost_comm ⟨#[x1]⟩ ⟨#[y3]⟩] at hm ⊢
  have b1 := (subCost_in ⟨#[y1]⟩ ⟨#[x1]⟩).1
  have b2 := (subCost_in ⟨#[y2]⟩ ⟨#[x1]⟩).1
  have b3 := (subCost_in ⟨#[y3]⟩ ⟨#[x1]⟩).1
  rcases dec1 hx with ⟨rfl, rfl, rfl⟩ | ⟨rfl, rfl, rfl⟩ | ⟨rfl, rfl, rfl⟩
  · obtain ⟨rfl, rfl⟩ := three.1 hy
    rw [sub_self, (min0 _ _ b1 b2).2]
    exact ⟨fun _ => by simp, fun h => absurd rfl h⟩
  · have hv : v = [y1, y2, y3] := by simpa using hy.symm
    subst hv
    exact ⟨fun h => by simp at h, fun _ _ => ⟨fun _ => dp13 rfl hm, fun h => absurd h (by simp)⟩⟩
  · obtain ⟨rfl, rfl⟩ := three.2 (by simpa using hy)
    rw [sub_self, (min0 _ _ b2 b3).1]
    exact ⟨fun _ => by simp, fun h => absurd rfl h⟩
theorem lev31all (x1 x2 x3 y1 : Nat) (tx ty tm : Tok) (mc : Int) (hm : 4 + min (subCost ⟨#[x1]⟩ ⟨#[y1]⟩) (min (subCost ⟨#[x2]⟩ ⟨#[y1]⟩) (subCost ⟨#[x3]⟩ ⟨#[y1]⟩)) ≤ mc) :
    Clm w mean mg mb 28 3 [Value.str ⟨#[x1, x2, x3]⟩ tx, Value.str ⟨#[y1]⟩ ty, Value.int mc tm] Any (Gives (4 + min (subCost ⟨#[x1]⟩ ⟨#[y1]⟩) (min (subCost ⟨#[x2]⟩ ⟨#[y1]⟩) (subCost ⟨#[x3]⟩ ⟨#[y1]⟩)))) := by
  refine levC w mean mg mb [x1, x2, x3] [y1] (by simp) (by simp) tx ty tm mc _ fun p u v q hx hy => ?_
  have b1 := (subCost_in ⟨#[x1]⟩ ⟨#[y1]⟩).1
  have b2 := (subCost_in ⟨#[x2]⟩ ⟨#[y1]⟩).1
  have b3 := (subCost_in ⟨#[x3]⟩ ⟨#[y1]⟩).1
  rcases dec1 hy with ⟨rfl, rfl, rfl⟩ | ⟨rfl, rfl, rfl⟩ | ⟨rfl, rfl, rfl⟩
  · obtain ⟨rfl, rfl⟩ := three.1 hx
    rw [sub_self, (min0 _ _ b1 b2).2]
    exact ⟨fun _ => by simp, fun _ h => absurd rfl h⟩
  · have hv : u = [x1, x2, x3] := by simpa using hx.symm
    subst hv
    exact ⟨fun h => by simp at h, fun _ _ => ⟨fun h => absurd h (by simp), fun _ => dp13 rfl hm⟩⟩
  · obtain ⟨rfl, rfl⟩ := three.2 (by simpa using hx)
    rw [sub_self, (min0 _ _ b2 b3).1]
    exact ⟨fun _ => by simp, fun _ h => absurd rfl h⟩
theorem least22C (a b c d : Int) (t : Tok) (ha : 0 ≤ a ∧ a ≤ 2) (hb : 0 ≤ b ∧ b ≤ 2) (hc : 0 ≤ c ∧ c ≤ 2) (hd : 0 ≤ d ∧ d ≤ 2) : Clm w mean mg mb 113 2 [Value.int (sum22 (pw a) (pw b) (pw c) (pw d)) t] Any (Gives (a + d)) := by
  obtain ⟨r, e, h⟩ := least22 a b c d ha hb hc hd
  have := leastC w mean mg mb (a + d).toNat r t h
  rw [e]
  rwa [Int.toNat_of_nonneg (by omega)] at this
theorem least13C (a b c : Int) (t : Tok) (ha : 0 ≤ a ∧ a ≤ 2) (hb : 0 ≤ b ∧ b ≤ 2) (hc : 0 ≤ c ∧ c ≤ 2) : Clm w mean mg mb 113 2 [Value.int (sum13 (pw a) (pw b) (pw c)) t] Any (Gives (4 + min a (min b c))) := by
  obtain ⟨r, e, h⟩ := least3 a b c ha hb hc
  have := leastC w mean mg mb (4 + min a (min b c)).toNat r t h
  rw [e]
  rwa [Int.toNat_of_nonneg (Int.add_nonneg (by decide) (min_nn ha.1 hb.1 hc.1))] at this
theorem least31C (a b c : Int) (t : Tok) (ha : 0 ≤ a ∧ a ≤ 2) (hb : 0 ≤ b ∧ b ≤ 2) (hc : 0 ≤ c ∧ c ≤ 2) : Clm w mean mg mb 113 2 [Value.int (sum31 (pw a) (pw b) (pw c)) t] Any (Gives (4 + min a (min b c))) := least13C a b c t ha hb hc
end
end Mine
end
section
open PySem PySem.W PyProof.Rows PySem.Calls PySem.Spec
set_option linter.unusedVariables false
namespace Mine
section
variable {w : World} {mean : ExcName → Option Value} {mg mb : PySem.Str → Option Value}
noncomputable abbrev scc (x y : Nat) : Int := subCost ⟨#[x]⟩ ⟨#[y]⟩
theorem least22E {x1 x2 y1 y2 : Nat} {S : Int} (h : sum22 (pw (scc x1 y1)) (pw (scc x1 y2)) (pw (scc x2 y1)) (pw (scc x2 y2)) = S) (t : Tok) : Clm w mean mg mb 113 2 [Value.int S t] Any (Gives (scc x1 y1 + scc x2 y2)) :=
  h ▸ least22C _ _ _ _ t (subCost_in _ _) (subCost_in _ _) (subCost_in _ _) (subCost_in _ _)
theorem least13E {x1 y1 y2 y3 : Nat} {S : Int} (h : sum13 (pw (scc x1 y1)) (pw (scc x1 y2)) (pw (scc x1 y3)) = S) (t : Tok) : Clm w mean mg mb 113 2 [Value.int S t] Any (Gives (4 + min (scc x1 y1) (min (scc x1 y2) (scc x1 y3)))) :=
  h ▸ least13C _ _ _ t (subCost_in _ _) (subCost_in _ _) (subCost_in _ _)
theorem least31E {x1 x2 x3 y1 : Nat} {S : Int} (h : sum31 (pw (scc x1 y1)) (pw (scc x2 y1)) (pw (scc x3 y1)) = S) (t : Tok) : Clm w mean mg mb 113 2 [Value.int S t] Any (Gives (4 + min (scc x1 y1) (min (scc x2 y1) (scc x3 y1)))) :=
  h ▸ least31C _ _ _ t (subCost_in _ _) (subCost_in _ _) (subCost_in _ _)
theorem lev22E {x1 x2 y1 y2 : Nat} {l : Int} (h : scc x1 y1 + scc x2 y2 = l) (tx ty tm : Tok) (mc : Int) (hm : l ≤ mc) : Clm w mean mg mb 28 3 [Value.str ⟨#[x1, x2]⟩ tx, Value.str ⟨#[y1, y2]⟩ ty, Value.int mc tm] Any (Gives l) := by
  subst h; exact lev22all x1 x2 y1 y2 tx ty tm mc hm
theorem lev13E {x1 y1 y2 y3 : Nat} {l : Int} (h : 4 + min (scc x1 y1) (min (scc x1 y2) (scc x1 y3)) = l) (tx ty tm : Tok) (mc : Int) (hm : l ≤ mc) : Clm w mean mg mb 28 3 [Value.str ⟨#[x1]⟩ tx, Value.str ⟨#[y1, y2, y3]⟩ ty, Value.int mc tm] Any (Gives l) := by
  subst h; exact lev13all x1 y1 y2 y3 tx ty tm mc hm
theorem lev31E {x1 x2 x3 y1 : Nat} {l : Int} (h : 4 + min (scc x1 y1) (min (scc x2 y1) (scc x3 y1)) = l) (tx ty tm : Tok) (mc : Int) (hm : l ≤ mc) : Clm w mean mg mb 28 3 [Value.str ⟨#[x1, x2, x3]⟩ tx, Value.str ⟨#[y1]⟩ ty, Value.int mc tm] Any (Gives l) := by
  subst h; exact lev31all x1 x2 x3 y1 tx ty tm mc hm
end
end Mine
end
section
open PySem PySem.W PyProof.Rows PySem.Calls PySem.Spec
set_option linter.unusedVariables false
namespace Mine
theorem intBits_le {k : Int} {n : Nat} (h1 : 0 ≤ k) (h2 : k < 2 ^ n) (hn : 0 < n) : Builtin.Int.intBits k ≤ n := by
  unfold Builtin.Int.intBits
  split
  · exact Nat.zero_le _
  · have hk : k.natAbs < 2 ^ n := by
      have : (k.natAbs : Int) = k := Int.natAbs_of_nonneg h1
      have h3 : ((k.natAbs : Nat) : Int) < ((2 ^ n : Nat) : Int) := by rw [this]; push_cast; exact h2
      exact Int.ofNat_lt.mp h3
    have : k.natAbs.log2 < n := by
      rcases Nat.eq_zero_or_pos k.natAbs with h0 | hp
      · rw [h0]; simpa using hn
      · exact (Nat.log2_lt (Nat.ne_of_gt hp)).mpr hk
    omega
theorem mulok {a b : Int} (ha : 0 ≤ a ∧ a < 2 ^ 100) (hb : 0 ≤ b ∧ b < 2 ^ 100) : IntMulOk a b := by
  have h1 := intBits_le ha.1 ha.2 (by decide)
  have h2 := intBits_le hb.1 hb.2 (by decide)
  unfold IntMulOk
  have h3 : Builtin.Int.intTooBig ((Builtin.Int.intBits a : Nat) + (Builtin.Int.intBits b : Nat) : Int) = false := by
    unfold Builtin.Int.intTooBig
    refine decide_eq_false (fun h => ?_)
    have : (200 : Int) < (bitsLine : Int) := by decide +kernel
    omega
  rw [h3]
  simp
theorem pw_le {c : Int} (h : 0 ≤ c ∧ c ≤ 2) : 0 ≤ pw c ∧ pw c ≤ 65536 := by
  rcases pw_in h with e | e | e <;> rw [e] <;> decide
theorem sum22_lt {a b c d : Int} (ha : 0 ≤ a ∧ a ≤ 2) (hb : 0 ≤ b ∧ b ≤ 2) (hc : 0 ≤ c ∧ c ≤ 2) (hd : 0 ≤ d ∧ d ≤ 2) : 0 ≤ sum22 (pw a) (pw b) (pw c) (pw d) ∧ sum22 (pw a) (pw b) (pw c) (pw d) < 2 ^ 100 := (t22 a (l012 ha) b (l012 hb) c (l012 hc) d (l012 hd)).2.2
theorem sum13_lt {a b c : Int} (ha : 0 ≤ a ∧ a ≤ 2) (hb : 0 ≤ b ∧ b ≤ 2) (hc : 0 ≤ c ∧ c ≤ 2) : 0 ≤ sum13 (pw a) (pw b) (pw c) ∧ sum13 (pw a) (pw b) (pw c) < 2 ^ 100 := (t13 a (l012 ha) b (l012 hb) c (l012 hc)).2.2
section
variable {prog : Program} {w : World} {A : Around} {E : Value → Shared → Prop} {s : Shared}
theorem ints_nth {vs : List Value} {ns : List Int} (h : IntsAre vs ns) : ∀ j (hj : j < vs.length), ∃ x t, vs[j] = .int x t ∧ ns[j]? = some x := by
  induction h with
  | nil => intro j hj; exact absurd hj (Nat.not_lt_zero _)
  | @cons x t vs ns r ih =>
    intro j hj
    cases j with
    | zero => exact ⟨_, _, rfl, rfl⟩
    | succ j => exact ih j (Nat.lt_of_succ_lt_succ hj)
theorem eq_ints {l b : Addr} {vs ws : List Value} {ns : List Int} {Q : Value → Shared → Prop} (hl : s.heap.IsList l vs.toArray) (hb : s.heap.IsList b ws.toArray) (h1 : IntsAre vs ns) (h2 : IntsAre ws ns) (hu : A.units < cLine)
    (h : Q (.bool true) s) : wpAny (model prog w) A (compareOp .Eq (.ref l) (.ref b)) Q E s := by
  have e1 := h1.length
  have e2 := h2.length
  refine SeqAt.eq_listAt (e := fun _ => true) hl hb (by simp [e1, e2]) hu (fun j j1 j2 => ?_) ?_
  · have j1' : j < vs.length := by simpa using j1
    have j2' : j < ws.length := by simpa using j2
    obtain ⟨x, t, q1, r1⟩ := ints_nth h1 j j1'
    obtain ⟨y, u, q2, r2⟩ := ints_nth h2 j j2'
    rw [r1] at r2
    cases r2
    simp only [List.getElem_toArray, q1, q2]
    have := SeqAt.EqAt.int_int (A := A.in1) (s := s) x t x u
    simpa using this
  · have : (List.range vs.toArray.size).all (fun _ => true) = true := by simp
    rw [this]; exact h
end
end Mine
namespace Mine
theorem ClmG.use {w : World} {mean : ExcName → Option Value} {mg mb : PySem.Str → Option Value} {f : Addr} {k : Nat} {vs : List Value} {Pre : Heap → Prop} {Out : Heap → Heap → Value → Prop}
    {dp un : Nat} {gd : Option (List Code)} {cn : PySem.Str} {cs : Scope} {a : Addr} {ccd : Value} {cl : List (PySem.Str × Addr)} {outer : List Env} {A₀ : Around} {base h₀ : Heap} {L : Addr} {m : PySem.Str → Option Value} {s : Shared} {Q E : Value → Shared → Prop} {news : List (Addr × Obj)} (C : ClmG w mean mg mb f k vs Pre Out)
    (B : Below A₀ base outer h₀) (F : Fr h₀ L s.heap m) (X : (hd.heap_1 w.params).In h₀) (N : News h₀ L s.heap news) (T : Top hview LO mean mg mb h₀) (hk : cs.kind = .function) (hd : dp + k < recursionLimit) (hu : un + 8 * k < cLine) (pre : Pre s.heap)
    (ret : ∀ (r : Value) (h' : Heap) (tk' : Nat) (G' : Array GenState), (AllBare s.gens → AllBare G') → Fr h₀ L h' m → News h₀ L h' news → Kept s.heap h' → Out s.heap h' r → Q r { s with heap := h', toks := tk', gens := G' }) :
    wpAny (model PySem.Challenge.rw_tl0021_01.row.prog w) (ktrTop dp un gd cn cs L a ccd cl outer) (call (.ref f) vs) Q E s :=
  C _ _ _ _ _ _ _ _ _ _ _ _ _ _ _ _ _ B F X News.nil T hk hd hu pre fun r h' tk' G' hb k o => ret r h' tk' G' hb (k.fr F) (k.news N) k o
theorem good_gens {c : ClaimW} {cl : PySem.Str → Option Addr} {mean : ExcName → Option Value} {args : List WData} {s₁ : Shared} {res : Result} {h : Heap} {G : Array GenState} {d : Drawn} {tk : Nat} {os : OsState} (hb : AllBare G) (g : GoodW c cl mean args s₁ res ⟨h, s₁.gens, d, tk, os⟩) : GoodWG c cl mean args s₁ res ⟨h, G, d, tk, os⟩ := by
  have := g.toG
  exact ⟨this.1, this.2.1, this.2.2.1, hb⟩
end Mine
end
section
open PySem PySem.W PyProof.Rows PySem.Calls PySem.Spec
set_option linter.unusedVariables false
namespace Mine
noncomputable def Byte (ns : List Int) : Prop := ∀ c ∈ ns, 0 ≤ c ∧ c < 256
theorem packF_cons (c : Int) (ns : List Int) : packF (c :: ns) = packF ns * 256 + c := rfl
theorem packF_nn : ∀ {ns : List Int}, Byte ns → 0 ≤ packF ns
  | [], _ => by simp [packF]
  | c :: ns, h => by
    have := packF_nn (fun x hx => h x (.tail _ hx))
    have := h c (.head _)
    rw [packF_cons]; omega
theorem packF_split : ∀ (k : Nat) {ns : List Int}, Byte ns → packF ns = packF (ns.drop k) * 256 ^ k + packF (ns.take k) ∧ 0 ≤ packF (ns.take k) ∧ packF (ns.take k) < 256 ^ k
  | 0, ns, h => by simp [packF]
  | k + 1, [], h => by simp [packF]; exact Int.pow_pos (by decide)
  | k + 1, c :: ns, h => by
    obtain ⟨h1, h2, h3⟩ := packF_split k (ns := ns) (fun x hx => h x (.tail _ hx))
    have hc := h c (.head _)
    rw [List.drop_succ_cons, List.take_succ_cons, packF_cons, packF_cons, Int.pow_succ]
    refine ⟨?_, by omega, by omega⟩
    have : packF (ns.drop k) * (256 ^ k * 256) = packF (ns.drop k) * 256 ^ k * 256 := by rw [Int.mul_assoc]
    rw [this]
    omega
theorem packF_mod (k : Nat) {ns : List Int} (h : Byte ns) : packF ns % 256 ^ k = packF (ns.take k) ∧ packF ns / 256 ^ k = packF (ns.drop k) := by
  obtain ⟨h1, h2, h3⟩ := packF_split k h
  have hp : (0 : Int) < 256 ^ k := Int.pow_pos (by decide)
  constructor
  · rw [h1, Int.add_comm, Int.add_mul_emod_self_right]
    exact Int.emod_eq_of_lt h2 h3
  · rw [h1, Int.add_comm, Int.add_mul_ediv_right _ _ (Int.ne_of_gt hp), Int.ediv_eq_zero_of_lt h2 h3, Int.zero_add]
theorem bitAnd_mask (x : Int) (n : Nat) (hx : 0 ≤ x) : Builtin.bitAnd x (1 * 2 ^ n - 1) = x % 2 ^ n := by
  obtain ⟨m, rfl⟩ := Int.eq_ofNat_of_zero_le hx
  have h1 : 1 ≤ 2 ^ n := Nat.one_le_two_pow
  have e : (1 * 2 ^ n - 1 : Int) = ((2 ^ n - 1 : Nat) : Int) := by
    rw [Int.natCast_sub h1, Int.one_mul]; push_cast; rfl
  rw [e]
  unfold Builtin.bitAnd
  rw [decide_eq_true (Int.natCast_nonneg m), decide_eq_true (Int.natCast_nonneg _)]
  show ((m &&& (2 ^ n - 1) : Nat) : Int) = _
  rw [Nat.and_two_pow_sub_one_eq_mod]
  push_cast; rfl
theorem two_pow8 (k : Nat) : (2 : Int) ^ (8 * k) = 256 ^ k := by rw [Int.pow_mul]; rfl

/-- the pieces of a packed row are the packed pieces -/
theorem pieces_cut (ks : List Nat) : ∀ {ns : List Int} (P : List Int), Byte ns →
    (((ks.map fun (k : Nat) => ((8 * k : Nat) : Int)).foldl pieceStep (P, packF ns)).1 ++ [((ks.map fun (k : Nat) => ((8 * k : Nat) : Int)).foldl pieceStep (P, packF ns)).2]) =
    (((ks.map fun (k : Nat) => ((k : Nat) : Int)).foldl cutStep (P, ns)).1 ++ [packF ((ks.map fun (k : Nat) => ((k : Nat) : Int)).foldl cutStep (P, ns)).2]) := by
  induction ks with
  | nil => intro ns P h; rfl
  | cons k ks ih =>
    intro ns P h
    simp only [List.map_cons, List.foldl_cons]
    have e1 : pieceStep (P, packF ns) ((8 * k : Nat) : Int) = (P ++ [packF (ns.take k)], packF (ns.drop k)) := by
      unfold pieceStep
      dsimp only
      rw [Int.toNat_natCast, bitAnd_mask _ _ (packF_nn h), Int.fdiv_eq_ediv_of_nonneg _ (Int.le_of_lt (Int.pow_pos (by decide))), two_pow8, (packF_mod k h).1, (packF_mod k h).2]
    have e2 : cutStep (P, ns) (k : Int) = (P ++ [packF (ns.take k)], ns.drop k) := by
      unfold cutStep
      dsimp only
      rw [Int.toNat_natCast]
    rw [e1, e2]
    exact ih _ fun x hx => h x (List.mem_of_mem_drop hx)
end Mine
end
section
open PySem PySem.W PyProof.Rows PySem.Calls PySem.Spec
set_option linter.unusedVariables false
set_option maxRecDepth 100000
namespace Mine
/-- a packed row with one more at place k -/
theorem packF_set : ∀ (cs : List Int) (k : Nat), k < cs.length → packF (cs.set k (cs.getD k 0 + 1)) = packF cs + 256 ^ k
  | [], k, h => absurd h (Nat.not_lt_zero _)
  | c :: cs, 0, _ => by simp [packF_cons]; omega
  | c :: cs, k + 1, h => by
    have := packF_set cs k (Nat.lt_of_succ_lt_succ h)
    rw [List.set_cons_succ, packF_cons, packF_cons]
    have e : (c :: cs).getD (k + 1) 0 = cs.getD k 0 := rfl
    rw [e, this, Int.pow_succ]
    omega
theorem packF_bump {cs : List Int} {k : Int} (h0 : 0 ≤ k) (h1 : k < cs.length) : packF (bump cs k) = packF cs + 256 ^ k.toNat := packF_set cs k.toNat (by omega)
/-- the weight of the ways of U that share no mark with y -/
noncomputable def wsum (y : Int × Int) : List (Int × Int) → Int
  | [] => 0
  | x :: U => (if Builtin.bitAnd y.2 x.2 = 0 then 256 ^ (y.1 + x.1).toNat else 0) + wsum y U
theorem packF_inner (y : Int × Int) : ∀ (U : List (Int × Int)) (cs : List Int), (∀ x ∈ U, 0 ≤ y.1 + x.1 ∧ y.1 + x.1 < cs.length) → packF (innerF U cs y) = packF cs + wsum y U
  | [], cs, _ => by simp [innerF, wsum]
  | x :: U, cs, h => by
    have hx := h x (.head _)
    have e : innerF (x :: U) cs y = innerF U (innerStep y cs x) y := rfl
    rw [e, packF_inner y U _ fun z hz => by rw [innerStep_len]; exact h z (.tail _ hz), wsum]
    unfold innerStep
    split
    · rw [packF_bump hx.1 hx.2]; omega
    · omega
noncomputable def dsum (U : List (Int × Int)) : List (Int × Int) → Int
  | [] => 0
  | y :: V => wsum y U + dsum U V
theorem packF_outer (U : List (Int × Int)) : ∀ (V : List (Int × Int)) (cs : List Int), (∀ y ∈ V, ∀ x ∈ U, 0 ≤ y.1 + x.1 ∧ y.1 + x.1 < cs.length) → packF (V.foldl (innerF U) cs) = packF cs + dsum U V
  | [], cs, _ => by simp [dsum]
  | y :: V, cs, h => by
    rw [List.foldl_cons, packF_outer U V _ fun z hz x hx => by rw [innerF_len]; exact h z (.tail _ hz) x hx, packF_inner y U cs fun x hx => h y (.head _) x hx, dsum]
    omega
theorem packF_apart (fs gs : List Int) : packF (apartF fs gs) = dsum (waysF fs gs 2 3 4 0 1) (waysF fs gs 3 2 4 1 0) := by
  unfold apartF
  rw [packF_outer]
  · have : packF (List.replicate 17 0) = 0 := by decide
    omega
  · intro y hy x hx
    have h1 := waysF_price fs gs 3 2 4 1 0 y hy
    have h2 := waysF_price fs gs 2 3 4 0 1 x hx
    simp only [List.length_replicate]
    omega
end Mine
end
section
open PySem PySem.W PyProof.Rows PySem.Calls PySem.Spec
set_option linter.unusedVariables false
set_option maxRecDepth 100000
namespace Mine
theorem p256 (c : Int) (h : 0 ≤ c) : (256 : Int) ^ c.toNat = pw c := by
  unfold pw
  rw [show (8 * c).toNat = 8 * c.toNat from Int.toNat_mul (by decide) h, two_pow8]
theorem p256_add (a b : Int) (ha : 0 ≤ a) (hb : 0 ≤ b) : (256 : Int) ^ (a + b).toNat = 256 ^ a.toNat * 256 ^ b.toNat := by
  rw [Int.toNat_add ha hb, Int.pow_add]
/-- the ways with their weights in place of their prices -/
noncomputable def wwF (c : Int → Int → Int) (gd ga : Int) : Nat → Int → Int → List (Int × Int)
  | 0, d, a => [(1, mk d a)]
  | n + 1, d, a => if d = gd ∧ a = ga then [(1, mk d a)] else
      ((if d < gd then (wwF c gd ga n (d + 1) a).map (fun x => (x.1 * 65536, x.2 + mk d a)) else []) ++
      (if a < ga then (wwF c gd ga n d (a + 1)).map (fun x => (x.1 * 65536, x.2 + mk d a)) else [])) ++
      (if d < gd ∧ a < ga then (wwF c gd ga n (d + 1) (a + 1)).map (fun x => (x.1 * c d a, x.2 + mk d a)) else [])
theorem costF_in (a b : Int) : 0 ≤ costF a b ∧ costF a b ≤ 2 := by unfold costF; split <;> (try split) <;> decide
theorem waysF_ww (fs gs : List Int) (gd ga : Int) : ∀ (n : Nat) (d a : Int), (waysF fs gs gd ga n d a).map (fun x => ((256 : Int) ^ x.1.toNat, x.2)) = wwF (fun d a => pw (costF (fs.getD d.toNat 0) (gs.getD a.toNat 0))) gd ga n d a
  | 0, d, a => by simp [waysF, wwF]
  | n + 1, d, a => by
    have two : ∀ (L : List (Int × Int)) (m k : Int), 0 ≤ k → (∀ x ∈ L, 0 ≤ x.1) → (L.map (fun x => (x.1 + k, x.2 + m))).map (fun x => ((256 : Int) ^ x.1.toNat, x.2)) = (L.map (fun x => ((256 : Int) ^ x.1.toNat, x.2))).map (fun x => (x.1 * 256 ^ k.toNat, x.2 + m)) := by
      intro L m k hk h
      rw [List.map_map, List.map_map]
      refine List.map_congr_left fun x hx => ?_
      show ((256 : Int) ^ (x.1 + k).toNat, x.2 + m) = (256 ^ x.1.toNat * 256 ^ k.toNat, x.2 + m)
      rw [p256_add _ _ (h x hx) hk]
    have pos : ∀ n d a, ∀ x ∈ waysF fs gs gd ga n d a, 0 ≤ x.1 := fun n d a x hx => (waysF_price fs gs gd ga n d a x hx).1
    unfold waysF wwF
    split
    · simp
    · rw [List.map_append, List.map_append]
      congr 1
      · congr 1
        · split
          · rw [two _ _ 2 (by decide) (pos n _ _), waysF_ww fs gs gd ga n (d + 1) a]; rfl
          · rfl
        · split
          · rw [two _ _ 2 (by decide) (pos n _ _), waysF_ww fs gs gd ga n d (a + 1)]; rfl
          · rfl
      · split
        · rw [two _ _ _ (costF_in _ _).1 (pos n _ _), waysF_ww fs gs gd ga n (d + 1) (a + 1)]
          simp only [p256 _ (costF_in _ _).1]
        · rfl
noncomputable def wsumW (y : Int × Int) : List (Int × Int) → Int
  | [] => 0
  | x :: U => (if Builtin.bitAnd y.2 x.2 = 0 then y.1 * x.1 else 0) + wsumW y U
noncomputable def dsumW (U : List (Int × Int)) : List (Int × Int) → Int
  | [] => 0
  | y :: V => wsumW y U + dsumW U V
theorem wsum_W (y : Int × Int) (hy : 0 ≤ y.1) : ∀ (U : List (Int × Int)), (∀ x ∈ U, 0 ≤ x.1) → wsum y U = wsumW ((256 : Int) ^ y.1.toNat, y.2) (U.map (fun x => ((256 : Int) ^ x.1.toNat, x.2)))
  | [], _ => rfl
  | x :: U, h => by
    rw [wsum, List.map_cons, wsumW, wsum_W y hy U fun z hz => h z (.tail _ hz), p256_add _ _ hy (h x (.head _))]
theorem dsum_W (U : List (Int × Int)) (hU : ∀ x ∈ U, 0 ≤ x.1) : ∀ (V : List (Int × Int)), (∀ x ∈ V, 0 ≤ x.1) → dsum U V = dsumW (U.map (fun x => ((256 : Int) ^ x.1.toNat, x.2))) (V.map (fun x => ((256 : Int) ^ x.1.toNat, x.2)))
  | [], _ => rfl
  | y :: V, h => by
    rw [dsum, List.map_cons, dsumW, dsum_W U hU V fun z hz => h z (.tail _ hz), wsum_W y (h y (.head _)) U hU]
theorem packF_lgv (fs gs : List Int) : packF (apartF fs gs) = dsumW (wwF (fun d a => pw (costF (fs.getD d.toNat 0) (gs.getD a.toNat 0))) 2 3 4 0 1) (wwF (fun d a => pw (costF (fs.getD d.toNat 0) (gs.getD a.toNat 0))) 3 2 4 1 0) := by
  rw [packF_apart, dsum_W _ (fun x hx => (waysF_price fs gs 2 3 4 0 1 x hx).1) _ (fun x hx => (waysF_price fs gs 3 2 4 1 0 x hx).1), waysF_ww, waysF_ww]
end Mine
end
section
open PySem PySem.W PyProof.Rows PySem.Calls PySem.Spec
set_option linter.unusedVariables false
set_option maxRecDepth 100000
set_option maxHeartbeats 2000000
namespace Mine
theorem mk_nat (d a : Nat) : mk (d : Int) (a : Int) = 2 ^ (4 * d + a) := by
  unfold mk
  congr 1
theorem ifb {m n : Int} {x : Int} (k : Bool) (h : decide (Builtin.bitAnd m n = 0) = k) : (if Builtin.bitAnd m n = 0 then x else 0) = if k = true then x else 0 := by
  subst h
  simp
theorem lgv' (c : Int → Int → Int) : dsumW (wwF c 2 3 4 0 1) (wwF c 3 2 4 1 0) =
    sum22 (c 1 0) (c 1 1) (c 2 0) (c 2 1) * sum22 (c 0 1) (c 0 2) (c 1 1) (c 1 2) - sum13 (c 1 0) (c 1 1) (c 1 2) * sum31 (c 0 1) (c 1 1) (c 2 1) := by
  simp [wwF, mk]
  generalize c 0 1 = c01
  generalize c 0 2 = c02
  generalize c 1 0 = c10
  generalize c 1 1 = c11
  generalize c 1 2 = c12
  generalize c 2 0 = c20
  generalize c 2 1 = c21
  simp (config := { decide := true }) only [dsumW, wsumW, if_true, if_false, Int.add_zero, Int.zero_add]
  unfold sum22 sum13 sum31
  grind
end Mine
end
section
open PySem PySem.W PyProof.Rows PySem.Calls PySem.Spec
set_option linter.unusedVariables false
set_option maxRecDepth 100000
namespace Mine
theorem waysF_13a (fs gs : List Int) : (waysF fs gs 2 3 4 0 1).length = 13 := by
  have := congrArg List.length (waysF_ww fs gs 2 3 4 0 1)
  rw [List.length_map] at this
  rw [this]
  simp [wwF, mk]
theorem waysF_13b (fs gs : List Int) : (waysF fs gs 3 2 4 1 0).length = 13 := by
  have := congrArg List.length (waysF_ww fs gs 3 2 4 1 0)
  rw [List.length_map] at this
  rw [this]
  simp [wwF, mk]
noncomputable def Upto (m : Int) (cs : List Int) : Prop := ∀ c ∈ cs, 0 ≤ c ∧ c ≤ m
theorem bump_upto {cs : List Int} {m : Int} (k : Int) (hm : 0 ≤ m) (h : Upto m cs) : Upto (m + 1) (bump cs k) := by
  intro c hc
  unfold bump at hc
  rcases List.mem_or_eq_of_mem_set hc with hc | rfl
  · have := h c hc; omega
  · have : 0 ≤ cs.getD k.toNat 0 ∧ cs.getD k.toNat 0 ≤ m := by
      rw [List.getD_eq_getElem?_getD]
      cases e : cs[k.toNat]? with
      | none => exact ⟨by simp, by simpa using hm⟩
      | some v => exact h v (List.mem_of_getElem? e)
    omega
theorem step_upto {cs : List Int} {m : Int} (y x : Int × Int) (hm : 0 ≤ m) (h : Upto m cs) : Upto (m + 1) (innerStep y cs x) := by
  unfold innerStep
  split
  · exact bump_upto _ hm h
  · exact fun c hc => ⟨(h c hc).1, by have := (h c hc).2; omega⟩
theorem inner_upto (y : Int × Int) : ∀ (U : List (Int × Int)) {cs : List Int} {m : Int}, 0 ≤ m → Upto m cs → Upto (m + U.length) (innerF U cs y)
  | [], cs, m, hm, h => by simpa [innerF] using h
  | x :: U, cs, m, hm, h => by
    have := inner_upto y U (m := m + 1) (by omega) (step_upto y x hm h)
    have e : innerF (x :: U) cs y = innerF U (innerStep y cs x) y := rfl
    rw [e, List.length_cons]
    intro c hc
    have := this c hc
    push_cast
    omega
theorem outer_upto (U : List (Int × Int)) (hU : U.length = 13) : ∀ (V : List (Int × Int)) {cs : List Int} {m : Int}, 0 ≤ m → Upto m cs → Upto (m + 13 * V.length) (V.foldl (innerF U) cs)
  | [], cs, m, hm, h => by simpa using h
  | y :: V, cs, m, hm, h => by
    have h1 := inner_upto y U hm h
    rw [hU] at h1
    have h2 := outer_upto U hU V (m := m + (13 : Nat)) (by omega) h1
    rw [List.foldl_cons, List.length_cons]
    intro c hc
    have := h2 c hc
    push_cast at this ⊢
    omega
theorem apart_byte (fs gs : List Int) : Byte (apartF fs gs) := by
  unfold apartF
  intro c hc
  have := outer_upto (waysF fs gs 2 3 4 0 1) (waysF_13a fs gs) (waysF fs gs 3 2 4 1 0) (cs := List.replicate 17 0) (m := 0) (by decide) (fun c hc => by rw [List.eq_of_mem_replicate hc]; decide) c hc
  rw [waysF_13b] at this
  omega
theorem apart_S {f0 f1 f2 f3 f4 f5 S0 S1 S2 S3 : Int}
    (h0 : sum22 (pw (costF f1 f3)) (pw (costF f1 f4)) (pw (costF f2 f3)) (pw (costF f2 f4)) = S0)
    (h1 : sum22 (pw (costF f0 f4)) (pw (costF f0 f5)) (pw (costF f1 f4)) (pw (costF f1 f5)) = S1)
    (h2 : sum13 (pw (costF f1 f3)) (pw (costF f1 f4)) (pw (costF f1 f5)) = S2)
    (h3 : sum31 (pw (costF f0 f4)) (pw (costF f1 f4)) (pw (costF f2 f4)) = S3) : S0 * S1 - S2 * S3 = packF (apartF [f0, f1, f2] [f3, f4, f5]) := by
  rw [packF_lgv, lgv', ← h0, ← h1, ← h2, ← h3]
  rfl
theorem plain_end {fs gs : List Int} (ks : List Nat) : ((ks.map fun (k : Nat) => ((k : Nat) : Int)).foldl cutStep ([], apartF fs gs)).1 ++ [packF ((ks.map fun (k : Nat) => ((k : Nat) : Int)).foldl cutStep ([], apartF fs gs)).2] =
    piecesF (packF (apartF fs gs)) (ks.map fun (k : Nat) => ((8 * k : Nat) : Int)) := (pieces_cut ks [] (apart_byte fs gs)).symm
theorem plain6 {fs gs : List Int} {x ea la : Int} (hx : x = packF (apartF fs gs)) (ba : 2 ≤ ea ∧ ea ≤ 4) (bl : 2 ≤ la ∧ la ≤ 4) :
    (List.foldl cutStep ([], apartF fs gs) [ea, la, la, la, la, la]).1 ++ [packF (List.foldl cutStep ([], apartF fs gs) [ea, la, la, la, la, la]).2] = piecesF x ((List.range 6).map fun i => (fun j => if j = 7 then 8 * ea else 8 * la) (7 - i)) := by
  obtain ⟨n, rfl⟩ := Int.eq_ofNat_of_zero_le (show 0 ≤ ea by omega)
  obtain ⟨k, rfl⟩ := Int.eq_ofNat_of_zero_le (show 0 ≤ la by omega)
  subst hx
  exact plain_end [n, k, k, k, k, k]
theorem plain2 {fs gs : List Int} {x ea la : Int} (hx : x = packF (apartF fs gs)) (ba : 2 ≤ ea ∧ ea ≤ 4) (bl : 2 ≤ la ∧ la ≤ 4) :
    (List.foldl cutStep ([], apartF fs gs) [ea, la]).1 ++ [packF (List.foldl cutStep ([], apartF fs gs) [ea, la]).2] = piecesF x ((List.range 2).map fun i => (fun j => if j = 7 then 8 * ea else 8 * la) (7 - i)) := by
  obtain ⟨n, rfl⟩ := Int.eq_ofNat_of_zero_le (show 0 ≤ ea by omega)
  obtain ⟨k, rfl⟩ := Int.eq_ofNat_of_zero_le (show 0 ≤ la by omega)
  subst hx
  exact plain_end [n, k]
end Mine
end
section
open PySem PySem.W PyProof.Rows PySem.Calls PySem.Spec
set_option maxRecDepth 100000
set_option maxHeartbeats 8000000
set_option linter.unusedVariables false
set_option linter.unusedSimpArgs false
namespace Mine
noncomputable def Mark2 : Prop := True
local macro_rules | `(tactic| walk_at "exec Assign cons ListComp") => `(tactic| (k_here; (with_reducible show wpAny _ _ (exec (Stmt.Assign [Expr.Name (PySem.Str.ofString "figures") _] _ _) _) _ _ _); refine hold ?_))
local macro_rules | `(tactic| walk_at "call builtin:sum") => `(tactic| (refine hold ?_))
local macro_rules | `(tactic| walk_at "subscriptTail Name Name ref int") => `(tactic| (refine hold ?_))
local macro_rules | `(tactic| walk_at "exec Assign cons ListComp") => `(tactic| (k_here; (with_reducible show wpAny _ _ (exec (Stmt.Assign [Expr.Name (PySem.Str.ofString "drawn") _] _ _) _) _ _ _); refine hold ?_))
local macro_rules | `(tactic| walk_at "call builtin:str.join") => `(tactic| (refine hold ?_))
local macro_rules | `(tactic| walk_at "binaryOp Add str str") => `(tactic| (refine hold ?_))
local macro_rules | `(tactic| walk_at "CompSrc") => `(tactic| (k_here; (rename Mark2 => mk2); k_dflt (refine LCg.CompSrc.ledger (by rfl) (by k_asm) (by k_asm) (by k_mem) (by exact Nat.le_of_ble_eq_true rfl) ?_; intro g'; lcg_lit)))
local macro_rules | `(tactic| walk_at "call ref") => `(tactic| (refine hold ?_))
local macro_rules | `(tactic| walk_at "call type:enumerate") => `(tactic| (refine hold ?_))
local macro_rules | `(tactic| walk_at "FinA") => `(tactic| ((unfold LCg.FinA); intro D' h' tk' F' N' o1'; clear o1'; (try simp only [List.nil_append, List.cons_append] at N'); (try dsimp only)))
local macro_rules | `(tactic| walk_at "CompEnd") => `(tactic| ((with_reducible rename Fr _ _ _ _ => ceF); (with_reducible rename News _ _ _ _ => ceN); refine' LCg.CompEnd.intro ceF ceN _ (fun _ h => h) ?offc ?srcc ?_; (case offc => simp only [LCg.Off3, and_true]; assumption); (case srcc => exact .inr ⟨_, by k_mem, rfl, _, rfl⟩); clear ceF ceN; (try ((with_reducible rename _ = some _ => ze); clear ze)); (try ((with_reducible rename _ = some _ => ze); clear ze)); (try ((with_reducible rename LCg.NsObj _ _ => ze); clear ze)); (try ((with_reducible rename (_ ∧ _ ∧ _) ∧ _ => ze); clear ze)); (try ((with_reducible rename _ ≠ _ ∧ _ ≠ _ ∧ _ ≠ _ => ze); clear ze))))
section
noncomputable def lawC : Σ' P : Prop, Mark P → PySem.Challenge.rw_tl0021_01.Holds := ⟨_, by
  intro hMark
  refine hd.2.2 ⟨hLeft0⟩ ⟨?_⟩
  intro w
  revert w
  w_top off
  k_fill
  intro w s₀ s₁ mg mb G Y fa o pm cd doc dV kV ho hdd hcd hD hmg hg args vals as hpre hlay hrd hwl hlo
  have KX := kIn_of Y
  have X := (Ground.X G).1
  have V := (Ground.X G).2
  try w_nolog (first | (have GL := glob_more (Ground.glob G (by decide +kernel) (by decide +kernel)) V) | (have GL := glob_more (Ground.glob G (by decide +kernel)) V))
  refine Ground.open G ?_
  intro T B D TE TW
  try (refine guard_noD D (by decide +kernel) ?_; clear D)
  obtain ⟨_, _, M⟩ := bmod_of_top T
  have TA := at_of_top T
  try (obtain ⟨_, _, he, B0⟩ := based_of_top T rfl hmg ho hdd; have he' : cd = _ := he; subst he'; clear he)
  clear hmg
  wrow_args hpre hlay hrd hwl hlo
  first | refine callC_kw (enter_call ?_) | refine enter_call ?_ | refine callC_kw (enter_callW ?_) | refine enter_callW ?_ | w_how
  w_top on
  have K0 := below_caller (Top.heap T)
  w_call any ho hdd hcd hD T F
  clear hdd TA
  k_drop
  all_goals try k_fold
  (k_steps; repeat' (((with_reducible refine held ?_); first | ((k_here; (with_reducible rename Fr _ _ _ _ => sF'); (with_reducible rename News _ _ _ _ => sN'); k_dflt (refine' sumK rfl sF' sN' ⟨_, (sN' _ (by k_mem)).1, rfl, _, rfl⟩ ?hiø ?_; (case hiø => first | exact IntsAre.pick (by assumption) _ _ _ | assumption)); intro _ _ _ _ _; (try dsimp only); (try k_sweep))) | (((with_reducible show wpAny _ _ (subscriptTail (Expr.Name _ _) (Expr.Name _ _) (Value.ref _) (Value.int _ _)) _ _ _); (k_here; (with_reducible rename News _ _ _ _ => sN'); k_dflt (refine' signs_item sN' ?ymø ?y0ø ?y1ø ?y2ø ?y3ø ?y4ø ?y5ø ?ypø ?yqø ?yrø ?_; (case ymø => k_mem); (case y0ø => rfl); (case y1ø => rfl); (case y2ø => rfl); (case y3ø => rfl); (case y4ø => rfl); (case y5ø => rfl); (case ypø => omega); (case yqø => omega); (case yrø => with_unfolding_all rfl); intro _)))) | ((k_here; (with_reducible rename News _ _ _ _ => sN'); k_dflt (refine' join_cat ⟨_, (sN' _ (by k_mem)).1, rfl, _, rfl⟩ ?yiø ?yxø ?_; (case yiø => with_unfolding_all rfl); (case yxø => rfl); intro _ _))) | ((k_here; (try rw [comma]); k_dflt (refine' add_cat ?ypø ?yqø ?_; (case ypø => with_unfolding_all exact Nat.le_of_ble_eq_true rfl); (case yqø => with_unfolding_all exact Nat.le_of_ble_eq_true rfl); intro _ _)))); k_steps))
  rename_i hL8 Dc hA tkA oA hB oc F1 N1 d1
  with_reducible rename IntsAre _ (List.map _ (List.take 60 _)) => hI
  have hcl : ys.length ≤ 60 := by rw [hL8, List.length_map, List.length_take]; omega
  generalize List.map _ (List.take 60 _) = cs at hI hL8
  rw [hL8] at hcl
  unfold Hold
  refine' enum_assign F1 ?c0 ?c1 ?c2 ?c3 ?c4 ?c5 ?c6 ?c7 ?c8 ?c9 ?_
  case c0 => with_unfolding_all rfl
  case c1 => with_unfolding_all rfl
  case c2 => decide
  case c3 => exact rfl
  case c4 => decide
  case c5 => exact rfl
  case c6 => exact rfl
  case c7 => decide
  case c8 => exact rfl
  case c9 => exact rfl
  (k_steps; repeat' (((with_reducible refine held ?_); first | ((k_here; (with_reducible rename Fr _ _ _ _ => sF'); (with_reducible rename News _ _ _ _ => sN'); k_dflt (refine' sumK rfl sF' sN' ⟨_, (sN' _ (by k_mem)).1, rfl, _, rfl⟩ ?hiø ?_; (case hiø => first | exact IntsAre.pick (by assumption) _ _ _ | assumption)); intro _ _ _ _ _; (try dsimp only); (try k_sweep))) | (((with_reducible show wpAny _ _ (subscriptTail (Expr.Name _ _) (Expr.Name _ _) (Value.ref _) (Value.int _ _)) _ _ _); (k_here; (with_reducible rename News _ _ _ _ => sN'); k_dflt (refine' signs_item sN' ?ymø ?y0ø ?y1ø ?y2ø ?y3ø ?y4ø ?y5ø ?ypø ?yqø ?yrø ?_; (case ymø => k_mem); (case y0ø => rfl); (case y1ø => rfl); (case y2ø => rfl); (case y3ø => rfl); (case y4ø => rfl); (case y5ø => rfl); (case ypø => omega); (case yqø => omega); (case yrø => with_unfolding_all rfl); intro _)))) | ((k_here; (with_reducible rename News _ _ _ _ => sN'); k_dflt (refine' join_cat ⟨_, (sN' _ (by k_mem)).1, rfl, _, rfl⟩ ?yiø ?yxø ?_; (case yiø => with_unfolding_all rfl); (case yxø => rfl); intro _ _))) | ((k_here; (try rw [comma]); k_dflt (refine' add_cat ?ypø ?yqø ?_; (case ypø => with_unfolding_all exact Nat.le_of_ble_eq_true rfl); (case yqø => with_unfolding_all exact Nat.le_of_ble_eq_true rfl); intro _ _)))); k_steps))
  with_reducible rename Fr _ _ _ _ => F2
  with_reducible rename News _ _ _ _ => N2
  unfold Hold
  refine call_enumerate_list ⟨_, (N2 _ (.head _)).1, rfl, _, rfl⟩ fun h3 hen hit sz hk => ?_
  refine ⟨_, _, _, _, _, fun i => (([0, 2, 1, 1, 2, 3] : List Int).getD i 0 + (pickNums cs (some (i : Int)) none (some 6)).sum).fmod 6, rfl, rfl, F2.keeps hk, N2.grown hk, fun p hp => Heap.lt_size (N2 p hp).1, F2.ns.lt, ⟨_, .head _, rfl, _, rfl⟩, hen, hit, sz, (show 6 ≤ sizeLine by decide), ?step, ?fin⟩
  case step =>
    intro i x t C oC D oD m₂ h tk own E' hx hC ha hb F N hDC hlt
    obtain ⟨tx, rfl, hi⟩ : ∃ tx, x = .int (([0, 2, 1, 1, 2, 3] : List Int).getD i 0) tx ∧ i < 6 := by
      match i, hx with
      | 0, hx => exact ⟨_, (Option.some.inj hx).symm, by decide⟩
      | 1, hx => exact ⟨_, (Option.some.inj hx).symm, by decide⟩
      | 2, hx => exact ⟨_, (Option.some.inj hx).symm, by decide⟩
      | 3, hx => exact ⟨_, (Option.some.inj hx).symm, by decide⟩
      | 4, hx => exact ⟨_, (Option.some.inj hx).symm, by decide⟩
      | 5, hx => exact ⟨_, (Option.some.inj hx).symm, by decide⟩
      | i + 6, hx => simp at hx
    dsimp only
    generalize ([0, 2, 1, 1, 2, 3] : List Int).getD i 0 = ai at *
    have hi0 : (0 : Int) ≤ (i : Int) := Int.natCast_nonneg i
    have hi6 : (i : Int) < 6 := by omega
    generalize (i : Int) = ii at *
    simp only [List.cons_append, List.nil_append] at N
    (k_steps; repeat' (((with_reducible refine held ?_); first | ((k_here; (with_reducible rename Fr _ _ _ _ => sF'); (with_reducible rename News _ _ _ _ => sN'); k_dflt (refine' sumK rfl sF' sN' ⟨_, (sN' _ (by k_mem)).1, rfl, _, rfl⟩ ?hiø ?_; (case hiø => first | exact IntsAre.pick (by assumption) _ _ _ | assumption)); intro _ _ _ _ _; (try dsimp only); (try k_sweep))) | (((with_reducible show wpAny _ _ (subscriptTail (Expr.Name _ _) (Expr.Name _ _) (Value.ref _) (Value.int _ _)) _ _ _); (k_here; (with_reducible rename News _ _ _ _ => sN'); k_dflt (refine' signs_item sN' ?ymø ?y0ø ?y1ø ?y2ø ?y3ø ?y4ø ?y5ø ?ypø ?yqø ?yrø ?_; (case ymø => k_mem); (case y0ø => rfl); (case y1ø => rfl); (case y2ø => rfl); (case y3ø => rfl); (case y4ø => rfl); (case y5ø => rfl); (case ypø => omega); (case yqø => omega); (case yrø => with_unfolding_all rfl); intro _)))) | ((k_here; (with_reducible rename News _ _ _ _ => sN'); k_dflt (refine' join_cat ⟨_, (sN' _ (by k_mem)).1, rfl, _, rfl⟩ ?yiø ?yxø ?_; (case yiø => with_unfolding_all rfl); (case yxø => rfl); intro _ _))) | ((k_here; (try rw [comma]); k_dflt (refine' add_cat ?ypø ?yqø ?_; (case ypø => with_unfolding_all exact Nat.le_of_ble_eq_true rfl); (case yqø => with_unfolding_all exact Nat.le_of_ble_eq_true rfl); intro _ _)))); k_steps))
    with_reducible rename Fr _ _ _ _ => F9
    with_reducible rename News _ _ _ _ => N9
    exact ⟨_, _, _, rfl, rfl, F9, fun p hp => N9 p (.tail _ hp)⟩
  case' fin =>
    intro D h5 tk5 ys5 F5 N5 ltD hI5
    have hb : ∀ i : Nat, 0 ≤ (([0, 2, 1, 1, 2, 3] : List Int).getD i 0 + (pickNums cs (some (i : Int)) none (some 6)).sum).fmod 6 ∧ (([0, 2, 1, 1, 2, 3] : List Int).getD i 0 + (pickNums cs (some (i : Int)) none (some 6)).sum).fmod 6 < 6 := fun i => ⟨Int.fmod_nonneg_of_pos _ (by decide), Int.fmod_lt_of_pos _ (by decide)⟩
    generalize hff : (fun i : Nat => (([0, 2, 1, 1, 2, 3] : List Int).getD i 0 + (pickNums cs (some (i : Int)) none (some 6)).sum).fmod 6) = ff at hI5
    have hb : ∀ i, 0 ≤ ff i ∧ ff i < 6 := fun i => hff ▸ hb i
    replace hI5 : IntsAre ys5 [ff 0, ff 1, ff 2, ff 3, ff 4, ff 5] := hI5
    have b0 := hb 0
    have b1 := hb 1
    have b2 := hb 2
    have b3 := hb 3
    have b4 := hb 4
    have b5 := hb 5
    clear hb hff
    generalize ff 0 = f0 at *
    generalize ff 1 = f1 at *
    generalize ff 2 = f2 at *
    generalize ff 3 = f3 at *
    generalize ff 4 = f4 at *
    generalize ff 5 = f5 at *
    clear ff
    obtain ⟨t0, t1, t2, t3, t4, t5, rfl⟩ := ints6 hI5
    clear hI5
    replace F5 : Fr _ (Array.size (Heap.objs _)) h5 _ := F5
    replace N5 : News _ (Array.size (Heap.objs _)) h5 _ := N5
    have q1 : @LT.lt Nat _ _ _ := ltD _ (.head _)
    have q2 : @LT.lt Nat _ _ _ := ltD _ (.tail _ (.head _))
    have q3 : @LT.lt Nat _ _ _ := ltD _ (.tail _ (.tail _ (.head _)))
    have q4 : @LT.lt Nat _ _ _ := ltD _ (.tail _ (.tail _ (.tail _ (.head _))))
    have q5 : @LT.lt Nat _ _ _ := ltD _ (.tail _ (.tail _ (.tail _ (.tail _ (.head _)))))
    dsimp only at q1 q2 q3 q4 q5
    clear ltD
    dsimp only
    have len2 : ∀ i, (sg i).length ≤ 2 := fun i => by unfold sg; split <;> decide
    have ls0 := len2 f0.toNat
    have ls1 := len2 f1.toNat
    have ls2 := len2 f2.toNat
    have ls3 := len2 f3.toNat
    have ls4 := len2 f4.toNat
    have ls5 := len2 f5.toNat
    clear len2
  (k_steps; repeat' (((with_reducible refine held ?_); first | ((k_here; (with_reducible rename Fr _ _ _ _ => sF'); (with_reducible rename News _ _ _ _ => sN'); k_dflt (refine' sumK rfl sF' sN' ⟨_, (sN' _ (by k_mem)).1, rfl, _, rfl⟩ ?hiø ?_; (case hiø => first | exact IntsAre.pick (by assumption) _ _ _ | assumption)); intro _ _ _ _ _; (try dsimp only); (try k_sweep))) | (((with_reducible show wpAny _ _ (subscriptTail (Expr.Name _ _) (Expr.Name _ _) (Value.ref _) (Value.int _ _)) _ _ _); (k_here; (with_reducible rename News _ _ _ _ => sN'); k_dflt (refine' signs_item sN' ?ymø ?y0ø ?y1ø ?y2ø ?y3ø ?y4ø ?y5ø ?ypø ?yqø ?yrø ?_; (case ymø => k_mem); (case y0ø => rfl); (case y1ø => rfl); (case y2ø => rfl); (case y3ø => rfl); (case y4ø => rfl); (case y5ø => rfl); (case ypø => omega); (case yqø => omega); (case yrø => with_unfolding_all rfl); intro _)))) | ((k_here; (with_reducible rename News _ _ _ _ => sN'); k_dflt (refine' join_cat ⟨_, (sN' _ (by k_mem)).1, rfl, _, rfl⟩ ?yiø ?yxø ?_; (case yiø => with_unfolding_all rfl); (case yxø => rfl); intro _ _))) | ((k_here; (try rw [comma]); k_dflt (refine' add_cat ?ypø ?yqø ?_; (case ypø => with_unfolding_all exact Nat.le_of_ble_eq_true rfl); (case yqø => with_unfolding_all exact Nat.le_of_ble_eq_true rfl); intro _ _)))); k_steps))
  unfold Hold
  try ((with_reducible rename _ ≠ _ ∧ _ ≠ _ ∧ _ ≠ _ => zq); clear zq)
  lcg_calm
  have mk2 : Mark2 := trivial
  k_dflt (refine LCg.Assign_ListComp_U (F₀ := by k_asm) (by rfl) (by with_unfolding_all rfl) (by with_unfolding_all rfl) (by decide) (by rfl) (by decide) (by rfl) (by rfl) (by rfl) ?_)
  k_dflt lcg_toSrc
  (k_steps; repeat' (((with_reducible refine held ?_); first | ((k_here; (with_reducible rename Fr _ _ _ _ => sF'); (with_reducible rename News _ _ _ _ => sN'); k_dflt (refine' sumK rfl sF' sN' ⟨_, (sN' _ (by k_mem)).1, rfl, _, rfl⟩ ?hiø ?_; (case hiø => first | exact IntsAre.pick (by assumption) _ _ _ | assumption)); intro _ _ _ _ _; (try dsimp only); (try k_sweep))) | (((with_reducible show wpAny _ _ (subscriptTail (Expr.Name _ _) (Expr.Name _ _) (Value.ref _) (Value.int _ _)) _ _ _); (k_here; (with_reducible rename News _ _ _ _ => sN'); k_dflt (refine' signs_item sN' ?ymø ?y0ø ?y1ø ?y2ø ?y3ø ?y4ø ?y5ø ?ypø ?yqø ?yrø ?_; (case ymø => k_mem); (case y0ø => rfl); (case y1ø => rfl); (case y2ø => rfl); (case y3ø => rfl); (case y4ø => rfl); (case y5ø => rfl); (case ypø => omega); (case yqø => omega); (case yrø => with_unfolding_all rfl); intro _)))) | ((k_here; (with_reducible rename News _ _ _ _ => sN'); k_dflt (refine' join_cat ⟨_, (sN' _ (by k_mem)).1, rfl, _, rfl⟩ ?yiø ?yxø ?_; (case yiø => with_unfolding_all rfl); (case yxø => rfl); intro _ _))) | ((k_here; (try rw [comma]); k_dflt (refine' add_cat ?ypø ?yqø ?_; (case ypø => with_unfolding_all exact Nat.le_of_ble_eq_true rfl); (case yqø => with_unfolding_all exact Nat.le_of_ble_eq_true rfl); intro _ _)))); k_steps))
  unfold Hold
  with_reducible rename Fr _ _ _ _ => cF
  with_reducible rename News _ _ _ _ => cN
  refine reF cF cN [("figures", .ref _)] ⟨rfl, trivial⟩ [4, 6, 9] fun hz tkz uz Fz Nz => ?_
  have Fh : Hold _ := Fz
  have Nh : Hold _ := Nz
  clear Fz Nz
  repeat ((with_reducible rename Fr _ _ _ _ => q); clear q)
  repeat ((with_reducible rename News _ _ _ _ => q); clear q)
  clear ls0 ls1 ls2 ls3 ls4 ls5
  have Fz : Fr _ _ _ _ := Fh
  have Nz : News _ _ _ [_, _, _] := Nh
  clear Fh Nh
  try revert hL8
  try revert hcl
  try revert hI
  try revert Fz
  try revert Nz
  try revert b0
  try revert b1
  try revert b2
  try revert b3
  try revert b4
  try revert b5
  try revert cs
  try revert f0
  try revert f1
  try revert f2
  try revert f3
  try revert f4
  try revert f5
  try revert hz
  try revert tkz
  try revert uz
  repeat (rename_i zc; (fail_if_success (with_reducible (have zt : True := by exact zc))); first | clear zc | revert zc)
  repeat (rename_i zc; revert zc)
  repeat (rename _ => zc; revert zc)
  exact Mark.out⟩
end
end Mine
end
section
open PySem PySem.W PyProof.Rows PySem.Calls PySem.Spec
set_option maxRecDepth 100000
set_option maxHeartbeats 0
set_option linter.unusedVariables false
set_option linter.unusedSimpArgs false
namespace Mine
local macro_rules | `(tactic| walk_at "call ref") => `(tactic| (refine hold ?_))
local macro_rules | `(tactic| walk_at "subscriptTail Name Slice str ref") => `(tactic| (refine hold ?_))
local macro_rules | `(tactic| kln_le) => `(tactic| first | exact Nat.le_of_ble_eq_true rfl | (show _ ≤ _; omega))
local macro_rules | `(tactic| walk_at "exec Assign cons ListComp") => `(tactic| (k_here; (with_reducible rename MarkA => mkA); (with_reducible show wpAny _ _ (exec (Stmt.Assign [Expr.Name (PySem.Str.ofString "sums") _] _ _) _) _ _ _); refine hold ?_))
local macro_rules | `(tactic| walk_at "exec For Tuple Call cons nil") => `(tactic| (k_here; (with_reducible rename MarkA => mkA); refine hold ?_))
local macro_rules | `(tactic| walk_at "exec Assign") => `(tactic| (k_here; (with_reducible show wpAny _ _ (exec (Stmt.Assign [Expr.Name (PySem.Str.ofString "ruler") _] _ _) _) _ _ _); refine hold ?_))
section
theorem costT : ∀ a ∈ List.range 6, ∀ b ∈ List.range 6, subCost ⟨#[ch a]⟩ ⟨#[ch b]⟩ = costF (a : Int) (b : Int) := by decide +kernel
theorem cost_ch (a b : Nat) (ha : a ≤ 5) (hb : b ≤ 5) : subCost ⟨#[ch a]⟩ ⟨#[ch b]⟩ = costF (a : Int) (b : Int) := costT a (List.mem_range.mpr (Nat.lt_succ_of_le ha)) b (List.mem_range.mpr (Nat.lt_succ_of_le hb))
theorem apart_len (fs gs : List Int) : (apartF fs gs).length = 17 := by
  unfold apartF
  generalize waysF fs gs 3 2 4 1 0 = V
  suffices ∀ z : List Int, (V.foldl (innerF (waysF fs gs 2 3 4 0 1)) z).length = z.length by rw [this]; rfl
  intro z
  induction V generalizing z with
  | nil => rfl
  | cons y V ih => rw [List.foldl_cons, ih, innerF_len]
section
variable {α : Type} {M : Model} {A : Around} {E : Value → Shared → Prop} {t : Sem α} {Q : α → Shared → Prop} {h₀ : Heap} {L : Addr} {m : PySem.Str → Option Value} {news : List (Addr × Obj)} {h : Heap} {g : Array GenState} {d : Drawn} {tk : Nat} {o : OsState}
/-- what is wanted behind the loop: the figures, the sums, the three numbers told -/
theorem reF5 (F : Fr h₀ L h m) (N : News h₀ L h news) (ks : List Nat) {aF aS : Addr} {te tl tz v0 v1 v2 v3 w0 w1 w2 w3 w4 w5 : Tok} {ea la en S0 S1 S2 S3 f0 f1 f2 f3 f4 f5 : Int}
    (k : Knows m [("figures", .ref aF), ("sums", .ref aS), ("early", .int ea te), ("late", .int la tl), ("ending", .int en tz)])
    (n : ks.filterMap (news[·]?) = [(aS, LCg.lst [.int S0 v0, .int S1 v1, .int S2 v2, .int S3 v3]), (aF, LCg.lst [.int f0 w0, .int f1 w1, .int f2 w2, .int f3 w3, .int f4 w4, .int f5 w5])])
    (c : ∀ (aF aS : Addr) (te tl tz v0 v1 v2 v3 w0 w1 w2 w3 w4 w5 : Tok) (h' : Heap) (tk' : Nat) (u : PySem.Str → Option Value), Fr h₀ L h' (told [("figures", .ref aF), ("sums", .ref aS), ("early", .int ea te), ("late", .int la tl), ("ending", .int en tz)] u) →
      News h₀ L h' [(aS, LCg.lst [.int S0 v0, .int S1 v1, .int S2 v2, .int S3 v3]), (aF, LCg.lst [.int f0 w0, .int f1 w1, .int f2 w2, .int f3 w3, .int f4 w4, .int f5 w5])] → wpAny M A t Q E ⟨h', g, d, tk', o⟩) : wpAny M A t Q E ⟨h, g, d, tk, o⟩ :=
  reF F N _ k ks fun h' tk' u F' N' => c _ _ _ _ _ _ _ _ _ _ _ _ _ _ _ h' tk' u F' (n ▸ N')
end
noncomputable def tkF (en ea la : Int) : List Int := if en = 0 then [ea, la, la, la, la, la] else [ea, la]
inductive LwR (h₀ : Heap) (L : Addr) (s : Shared) (l : List (PySem.Str × Value)) (ea la en : Int) (news : List (Addr × Obj)) (s' : Shared) : Prop
  | mk (h' : Heap) (tk : Nat) (u : PySem.Str → Option Value) (R : Addr) (rv : List Value) (rn : Nat) (ta tb : Tok) (e : s' = { s with heap := h', toks := tk }) (F : Fr h₀ L h' (told (("ruler", .ref R) :: l) u)) (N : News h₀ L h' ((R, listOf rv.toArray rn) :: news))
    (pa : rv[0]? = some (.int (8 * ea) ta)) (pb : rv[1]? = some (.int (8 * la) tb)) (pe : (en ≠ 0 ∧ rv[2]? = none) ∨ (en ≠ 0 ∧ ∃ t, rv[2]? = some (.int 127 t)) ∨ (en = 0 ∧ ∃ t, rv[2]? = some (.int 0 t)))
inductive LwT (h₀ : Heap) (L : Addr) (s : Shared) (l : List (PySem.Str × Value)) (ea la en : Int) (news : List (Addr × Obj)) (s' : Shared) : Prop
  | mk (h' : Heap) (tk : Nat) (u : PySem.Str → Option Value) (T : Addr) (tv : List Value) (tn : Nat) (e : s' = { s with heap := h', toks := tk }) (F : Fr h₀ L h' (told (("told", .ref T) :: l) u)) (N : News h₀ L h' ((T, listOf tv.toArray tn) :: news))
    (i : IntsAre tv (tkF en ea la))
theorem tk_in {en ea la : Int} (ba : 2 ≤ ea ∧ ea ≤ 4) (bl : 2 ≤ la ∧ la ≤ 4) : ∀ k ∈ tkF en ea la, 0 ≤ k ∧ k < 2 ^ 20 := by
  intro k hk
  unfold tkF at hk
  split at hk
  · simp only [List.mem_cons, List.not_mem_nil, or_false] at hk
    rcases hk with rfl | rfl | rfl | rfl | rfl | rfl <;> omega
  · simp only [List.mem_cons, List.not_mem_nil, or_false] at hk
    rcases hk with rfl | rfl <;> omega
theorem tk_len {en ea la : Int} : (tkF en ea la).length < 2 ^ 10 := by
  unfold tkF
  split
  · exact (show 6 < 2 ^ 10 by decide)
  · exact (show 2 < 2 ^ 10 by decide)
theorem endings {rv : List Value} {en ea la : Int} (pe : (en ≠ 0 ∧ rv[2]? = none) ∨ (en ≠ 0 ∧ ∃ t, rv[2]? = some (.int 127 t)) ∨ (en = 0 ∧ ∃ t, rv[2]? = some (.int 0 t))) :
    ∃ nE NN : Nat, ((nE = 6 ∧ rv[2]? = none) ∨ (nE = 6 ∧ ∃ t, rv[2]? = some (.int 127 t)) ∨ (nE = 0 ∧ ∃ t, rv[2]? = some (.int 0 t))) ∧ (∀ i, i < NN → i < 6 ∧ 8 - i ≠ nE) ∧ (NN = 6 ∨ 8 - NN = nE) ∧ NN ≤ 6 ∧
      ∀ {fs gs : List Int} {x : Int}, x = packF (apartF fs gs) → 2 ≤ ea ∧ ea ≤ 4 → 2 ≤ la ∧ la ≤ 4 →
        (List.foldl cutStep ([], apartF fs gs) (tkF en ea la)).1 ++ [packF (List.foldl cutStep ([], apartF fs gs) (tkF en ea la)).2] = piecesF x ((List.range NN).map fun i => (fun j => if j = 7 then 8 * ea else 8 * la) (7 - i)) := by
  rcases pe with ⟨h, p⟩ | ⟨h, p⟩ | ⟨h, p⟩
  · refine ⟨6, 2, .inl ⟨rfl, p⟩, fun i hi => ⟨by omega, by omega⟩, .inr rfl, by decide, fun hx ba bl => ?_⟩
    unfold tkF
    rw [if_neg h]
    exact plain2 hx ba bl
  · refine ⟨6, 2, .inr (.inl ⟨rfl, p⟩), fun i hi => ⟨by omega, by omega⟩, .inr rfl, by decide, fun hx ba bl => ?_⟩
    unfold tkF
    rw [if_neg h]
    exact plain2 hx ba bl
  · refine ⟨0, 6, .inr (.inr ⟨rfl, p⟩), fun i hi => ⟨by omega, by omega⟩, .inl rfl, by decide, fun hx ba bl => ?_⟩
    unfold tkF
    rw [if_pos h]
    exact plain6 hx ba bl
noncomputable def lawF : Σ' P : Prop, Mark P → PySem.Challenge.rw_tl0021_01.Holds := ⟨_, by
  intro hMark
  refine lawC.2 ⟨?_⟩
  intro w
  revert w
  w_top off
  k_fill
  intro w
  set_option tactic.hygienic false in intros
  with_reducible rename Fr _ _ _ _ => Fp
  with_reducible rename News _ _ _ _ => Np
  refine' Clm.use (wordsC _ _ _ _ _ _ _ _ _ _ _ (by omega) (by omega) (by omega) (by omega) (by omega) (by omega)) ?k1 Fp ?k3 Np ?k5 ?kK ?kd ?ku ?kp ?_
  case k1 => k_asm
  case k3 => k_asm
  case k5 => k_asm
  case kp => exact trivial
  case kK => exact rfl
  case kd => decide +kernel
  case ku => decide +kernel
  intro r9 h9 tk9 F9 N9 K9 o9
  obtain ⟨lw, tw1, tw2, nw, rfl, qw, ew⟩ := o9
  have N9 := news_add Fp qw N9 ew
  clear Fp Np
  unfold word at N9
  have c11 := cost_ch f0.toNat f3.toNat (by omega) (by omega)
  have c12 := cost_ch f0.toNat f4.toNat (by omega) (by omega)
  have c13 := cost_ch f0.toNat f5.toNat (by omega) (by omega)
  have c21 := cost_ch f1.toNat f3.toNat (by omega) (by omega)
  have c22 := cost_ch f1.toNat f4.toNat (by omega) (by omega)
  have c23 := cost_ch f1.toNat f5.toNat (by omega) (by omega)
  have c31 := cost_ch f2.toNat f3.toNat (by omega) (by omega)
  have c32 := cost_ch f2.toNat f4.toNat (by omega) (by omega)
  have c33 := cost_ch f2.toNat f5.toNat (by omega) (by omega)
  generalize ch f0.toNat = x1 at *
  generalize ch f1.toNat = x2 at *
  generalize ch f2.toNat = x3 at *
  generalize ch f3.toNat = y1 at *
  generalize ch f4.toNat = y2 at *
  generalize ch f5.toNat = y3 at *
  have i0 : (f0.toNat : Int) = f0 := Int.toNat_of_nonneg b0.1
  have i1 : (f1.toNat : Int) = f1 := Int.toNat_of_nonneg b1.1
  have i2 : (f2.toNat : Int) = f2 := Int.toNat_of_nonneg b2.1
  have i3 : (f3.toNat : Int) = f3 := Int.toNat_of_nonneg b3.1
  have i4 : (f4.toNat : Int) = f4 := Int.toNat_of_nonneg b4.1
  have i5 : (f5.toNat : Int) = f5 := Int.toNat_of_nonneg b5.1
  rw [i0, i3] at c11
  rw [i0, i4] at c12
  rw [i0, i5] at c13
  rw [i1, i3] at c21
  rw [i1, i4] at c22
  rw [i1, i5] at c23
  rw [i2, i3] at c31
  rw [i2, i4] at c32
  rw [i2, i5] at c33
  have hfm : 0 ≤ cs.sum.fmod 2 := Int.fmod_nonneg_of_pos _ (by decide)
  have mkA : MarkA := trivial
  (k_steps; repeat' (((with_reducible refine held ?_); first | (((with_reducible show wpAny _ _ (subscriptTail (Expr.Name _ _) (Expr.Slice _ _ _ _) (Value.str _ _) (Value.ref _)) _ _ _); ((with_reducible rename Fr _ _ _ _ => sF'); (with_reducible rename News _ _ _ _ => sN'); first | (refine' tsl_sn (s := ⟨_, _, _, _, _⟩) ?eø sF' sN' ?q1ø ?q2ø ?zø ?_; (case q1ø => with_unfolding_all rfl); (case q2ø => intro _; with_unfolding_all rfl); (case eø => (simp only [Int.reduceAdd, Int.reduceSub, Int.reduceNeg, Int.zero_add, Int.zero_sub, s0_0, s1_0, s1_1, s2_0, s2_1, s2_2, s3_0, s3_1, s3_2]; rfl)); (case zø => exact Nat.le_of_ble_eq_true rfl); intro _ _ _ _ _) | (refine' tsl_nn (s := ⟨_, _, _, _, _⟩) ?eø sF' sN' ?q1ø ?q2ø ?zø ?_; (case q1ø => with_unfolding_all rfl); (case q2ø => intro _; with_unfolding_all rfl); (case eø => (simp only [Int.reduceAdd, Int.reduceSub, Int.reduceNeg, Int.zero_add, Int.zero_sub, n0_n, n1_n, n2_n, n3_n]; rfl)); (case zø => exact Nat.le_of_ble_eq_true rfl); intro _ _ _ _ _) | (refine' tsl_ns (s := ⟨_, _, _, _, _⟩) ?eø sF' sN' ?q1ø ?q2ø ?zø ?_; (case q1ø => with_unfolding_all rfl); (case q2ø => intro _; with_unfolding_all rfl); (case eø => (simp only [Int.reduceAdd, Int.reduceSub, Int.reduceNeg, Int.zero_add, Int.zero_sub, n1_1, n2_1, n3_1, n1_2, n2_2, n3_2]; rfl)); (case zø => exact Nat.le_of_ble_eq_true rfl); intro _ _ _ _ _) | (refine' tsl_ss (s := ⟨_, _, _, _, _⟩) ?eø sF' sN' ?q1ø ?q2ø ?zø ?_; (case q1ø => with_unfolding_all rfl); (case q2ø => intro _; with_unfolding_all rfl); (case eø => (simp only [Int.reduceAdd, Int.reduceSub, Int.reduceNeg, Int.zero_add, Int.zero_sub, c3_12]; rfl)); (case zø => exact Nat.le_of_ble_eq_true rfl); intro _ _ _ _ _))))); k_steps))
  unfold Hold
  refine gQa fun QS hQS => ?_
  with_reducible rename MarkA => mkA
  clear mkA
  (k_steps; repeat' (((with_reducible refine held ?_); first | (((with_reducible show wpAny _ _ (subscriptTail (Expr.Name _ _) (Expr.Slice _ _ _ _) (Value.str _ _) (Value.ref _)) _ _ _); ((with_reducible rename Fr _ _ _ _ => sF'); (with_reducible rename News _ _ _ _ => sN'); first | (refine' tsl_sn (s := ⟨_, _, _, _, _⟩) ?eø sF' sN' ?q1ø ?q2ø ?zø ?_; (case q1ø => with_unfolding_all rfl); (case q2ø => intro _; with_unfolding_all rfl); (case eø => (simp only [Int.reduceAdd, Int.reduceSub, Int.reduceNeg, Int.zero_add, Int.zero_sub, s0_0, s1_0, s1_1, s2_0, s2_1, s2_2, s3_0, s3_1, s3_2]; rfl)); (case zø => exact Nat.le_of_ble_eq_true rfl); intro _ _ _ _ _) | (refine' tsl_nn (s := ⟨_, _, _, _, _⟩) ?eø sF' sN' ?q1ø ?q2ø ?zø ?_; (case q1ø => with_unfolding_all rfl); (case q2ø => intro _; with_unfolding_all rfl); (case eø => (simp only [Int.reduceAdd, Int.reduceSub, Int.reduceNeg, Int.zero_add, Int.zero_sub, n0_n, n1_n, n2_n, n3_n]; rfl)); (case zø => exact Nat.le_of_ble_eq_true rfl); intro _ _ _ _ _) | (refine' tsl_ns (s := ⟨_, _, _, _, _⟩) ?eø sF' sN' ?q1ø ?q2ø ?zø ?_; (case q1ø => with_unfolding_all rfl); (case q2ø => intro _; with_unfolding_all rfl); (case eø => (simp only [Int.reduceAdd, Int.reduceSub, Int.reduceNeg, Int.zero_add, Int.zero_sub, n1_1, n2_1, n3_1, n1_2, n2_2, n3_2]; rfl)); (case zø => exact Nat.le_of_ble_eq_true rfl); intro _ _ _ _ _) | (refine' tsl_ss (s := ⟨_, _, _, _, _⟩) ?eø sF' sN' ?q1ø ?q2ø ?zø ?_; (case q1ø => with_unfolding_all rfl); (case q2ø => intro _; with_unfolding_all rfl); (case eø => (simp only [Int.reduceAdd, Int.reduceSub, Int.reduceNeg, Int.zero_add, Int.zero_sub, c3_12]; rfl)); (case zø => exact Nat.le_of_ble_eq_true rfl); intro _ _ _ _ _))))); k_steps))
  unfold Hold
  with_reducible rename Fr _ _ _ _ => Fo
  with_reducible rename News _ _ _ _ => No
  set_option maxHeartbeats 200000 in
  refine' Clm.use_int (sums22C _ _ _ _ _ _ _ _ _ _) ?k1 Fo ?k3 No ?k5 ?kK ?kd ?ku ?kp ?_
  case k1 => k_asm
  case k3 => k_asm
  case k5 => k_asm
  case kp => exact trivial
  case kK => exact rfl
  case kd => decide +kernel
  case ku => decide +kernel
  intro t9 h9 tk9 F9 N9 K9
  clear K9 Fo No
  generalize hS0 : sum22 _ _ _ _ = S0
  try dsimp only
  first | (k_unfold; (try dsimp only)) | walk1
  refine LCg.CompEnd.intro F9 N9 _ (fun _ h => h) ?offc0 ?srcc0 ?_
  case offc0 => simp only [LCg.Off3, and_true]; assumption
  case srcc0 => exact .inr ⟨_, by k_mem, rfl, _, rfl⟩
  set_option maxHeartbeats 600000 in
  (k_steps; repeat' (((with_reducible refine held ?_); first | (((with_reducible show wpAny _ _ (subscriptTail (Expr.Name _ _) (Expr.Slice _ _ _ _) (Value.str _ _) (Value.ref _)) _ _ _); ((with_reducible rename Fr _ _ _ _ => sF'); (with_reducible rename News _ _ _ _ => sN'); first | (refine' tsl_sn (s := ⟨_, _, _, _, _⟩) ?eø sF' sN' ?q1ø ?q2ø ?zø ?_; (case q1ø => with_unfolding_all rfl); (case q2ø => intro _; with_unfolding_all rfl); (case eø => (simp only [Int.reduceAdd, Int.reduceSub, Int.reduceNeg, Int.zero_add, Int.zero_sub, s0_0, s1_0, s1_1, s2_0, s2_1, s2_2, s3_0, s3_1, s3_2]; rfl)); (case zø => exact Nat.le_of_ble_eq_true rfl); intro _ _ _ _ _) | (refine' tsl_nn (s := ⟨_, _, _, _, _⟩) ?eø sF' sN' ?q1ø ?q2ø ?zø ?_; (case q1ø => with_unfolding_all rfl); (case q2ø => intro _; with_unfolding_all rfl); (case eø => (simp only [Int.reduceAdd, Int.reduceSub, Int.reduceNeg, Int.zero_add, Int.zero_sub, n0_n, n1_n, n2_n, n3_n]; rfl)); (case zø => exact Nat.le_of_ble_eq_true rfl); intro _ _ _ _ _) | (refine' tsl_ns (s := ⟨_, _, _, _, _⟩) ?eø sF' sN' ?q1ø ?q2ø ?zø ?_; (case q1ø => with_unfolding_all rfl); (case q2ø => intro _; with_unfolding_all rfl); (case eø => (simp only [Int.reduceAdd, Int.reduceSub, Int.reduceNeg, Int.zero_add, Int.zero_sub, n1_1, n2_1, n3_1, n1_2, n2_2, n3_2]; rfl)); (case zø => exact Nat.le_of_ble_eq_true rfl); intro _ _ _ _ _) | (refine' tsl_ss (s := ⟨_, _, _, _, _⟩) ?eø sF' sN' ?q1ø ?q2ø ?zø ?_; (case q1ø => with_unfolding_all rfl); (case q2ø => intro _; with_unfolding_all rfl); (case eø => (simp only [Int.reduceAdd, Int.reduceSub, Int.reduceNeg, Int.zero_add, Int.zero_sub, c3_12]; rfl)); (case zø => exact Nat.le_of_ble_eq_true rfl); intro _ _ _ _ _))))); k_steps))
  unfold Hold
  with_reducible rename Fr _ _ _ _ => Fo
  with_reducible rename News _ _ _ _ => No
  set_option maxHeartbeats 200000 in
  refine' Clm.use_int (sums22C _ _ _ _ _ _ _ _ _ _) ?k1 Fo ?k3 No ?k5 ?kK ?kd ?ku ?kp ?_
  case k1 => k_asm
  case k3 => k_asm
  case k5 => k_asm
  case kp => exact trivial
  case kK => exact rfl
  case kd => decide +kernel
  case ku => decide +kernel
  intro t9 h9 tk9 F9 N9 K9
  clear K9 Fo No
  generalize hS1 : sum22 _ _ _ _ = S1
  try dsimp only
  first | (k_unfold; (try dsimp only)) | walk1
  refine LCg.CompEnd.intro F9 N9 _ (fun _ h => h) ?offc1 ?srcc1 ?_
  case offc1 => simp only [LCg.Off3, and_true]; assumption
  case srcc1 => exact .inr ⟨_, by k_mem, rfl, _, rfl⟩
  set_option maxHeartbeats 600000 in
  (k_steps; repeat' (((with_reducible refine held ?_); first | (((with_reducible show wpAny _ _ (subscriptTail (Expr.Name _ _) (Expr.Slice _ _ _ _) (Value.str _ _) (Value.ref _)) _ _ _); ((with_reducible rename Fr _ _ _ _ => sF'); (with_reducible rename News _ _ _ _ => sN'); first | (refine' tsl_sn (s := ⟨_, _, _, _, _⟩) ?eø sF' sN' ?q1ø ?q2ø ?zø ?_; (case q1ø => with_unfolding_all rfl); (case q2ø => intro _; with_unfolding_all rfl); (case eø => (simp only [Int.reduceAdd, Int.reduceSub, Int.reduceNeg, Int.zero_add, Int.zero_sub, s0_0, s1_0, s1_1, s2_0, s2_1, s2_2, s3_0, s3_1, s3_2]; rfl)); (case zø => exact Nat.le_of_ble_eq_true rfl); intro _ _ _ _ _) | (refine' tsl_nn (s := ⟨_, _, _, _, _⟩) ?eø sF' sN' ?q1ø ?q2ø ?zø ?_; (case q1ø => with_unfolding_all rfl); (case q2ø => intro _; with_unfolding_all rfl); (case eø => (simp only [Int.reduceAdd, Int.reduceSub, Int.reduceNeg, Int.zero_add, Int.zero_sub, n0_n, n1_n, n2_n, n3_n]; rfl)); (case zø => exact Nat.le_of_ble_eq_true rfl); intro _ _ _ _ _) | (refine' tsl_ns (s := ⟨_, _, _, _, _⟩) ?eø sF' sN' ?q1ø ?q2ø ?zø ?_; (case q1ø => with_unfolding_all rfl); (case q2ø => intro _; with_unfolding_all rfl); (case eø => (simp only [Int.reduceAdd, Int.reduceSub, Int.reduceNeg, Int.zero_add, Int.zero_sub, n1_1, n2_1, n3_1, n1_2, n2_2, n3_2]; rfl)); (case zø => exact Nat.le_of_ble_eq_true rfl); intro _ _ _ _ _) | (refine' tsl_ss (s := ⟨_, _, _, _, _⟩) ?eø sF' sN' ?q1ø ?q2ø ?zø ?_; (case q1ø => with_unfolding_all rfl); (case q2ø => intro _; with_unfolding_all rfl); (case eø => (simp only [Int.reduceAdd, Int.reduceSub, Int.reduceNeg, Int.zero_add, Int.zero_sub, c3_12]; rfl)); (case zø => exact Nat.le_of_ble_eq_true rfl); intro _ _ _ _ _))))); k_steps))
  unfold Hold
  with_reducible rename Fr _ _ _ _ => Fo
  with_reducible rename News _ _ _ _ => No
  set_option maxHeartbeats 200000 in
  refine' Clm.use_int (sums13C _ _ _ _ _ _ _ _ _ _) ?k1 Fo ?k3 No ?k5 ?kK ?kd ?ku ?kp ?_
  case k1 => k_asm
  case k3 => k_asm
  case k5 => k_asm
  case kp => exact trivial
  case kK => exact rfl
  case kd => decide +kernel
  case ku => decide +kernel
  intro t9 h9 tk9 F9 N9 K9
  clear K9 Fo No
  generalize hS2 : sum13 _ _ _ = S2
  try dsimp only
  first | (k_unfold; (try dsimp only)) | walk1
  refine LCg.CompEnd.intro F9 N9 _ (fun _ h => h) ?offc2 ?srcc2 ?_
  case offc2 => simp only [LCg.Off3, and_true]; assumption
  case srcc2 => exact .inr ⟨_, by k_mem, rfl, _, rfl⟩
  set_option maxHeartbeats 600000 in
  (k_steps; repeat' (((with_reducible refine held ?_); first | (((with_reducible show wpAny _ _ (subscriptTail (Expr.Name _ _) (Expr.Slice _ _ _ _) (Value.str _ _) (Value.ref _)) _ _ _); ((with_reducible rename Fr _ _ _ _ => sF'); (with_reducible rename News _ _ _ _ => sN'); first | (refine' tsl_sn (s := ⟨_, _, _, _, _⟩) ?eø sF' sN' ?q1ø ?q2ø ?zø ?_; (case q1ø => with_unfolding_all rfl); (case q2ø => intro _; with_unfolding_all rfl); (case eø => (simp only [Int.reduceAdd, Int.reduceSub, Int.reduceNeg, Int.zero_add, Int.zero_sub, s0_0, s1_0, s1_1, s2_0, s2_1, s2_2, s3_0, s3_1, s3_2]; rfl)); (case zø => exact Nat.le_of_ble_eq_true rfl); intro _ _ _ _ _) | (refine' tsl_nn (s := ⟨_, _, _, _, _⟩) ?eø sF' sN' ?q1ø ?q2ø ?zø ?_; (case q1ø => with_unfolding_all rfl); (case q2ø => intro _; with_unfolding_all rfl); (case eø => (simp only [Int.reduceAdd, Int.reduceSub, Int.reduceNeg, Int.zero_add, Int.zero_sub, n0_n, n1_n, n2_n, n3_n]; rfl)); (case zø => exact Nat.le_of_ble_eq_true rfl); intro _ _ _ _ _) | (refine' tsl_ns (s := ⟨_, _, _, _, _⟩) ?eø sF' sN' ?q1ø ?q2ø ?zø ?_; (case q1ø => with_unfolding_all rfl); (case q2ø => intro _; with_unfolding_all rfl); (case eø => (simp only [Int.reduceAdd, Int.reduceSub, Int.reduceNeg, Int.zero_add, Int.zero_sub, n1_1, n2_1, n3_1, n1_2, n2_2, n3_2]; rfl)); (case zø => exact Nat.le_of_ble_eq_true rfl); intro _ _ _ _ _) | (refine' tsl_ss (s := ⟨_, _, _, _, _⟩) ?eø sF' sN' ?q1ø ?q2ø ?zø ?_; (case q1ø => with_unfolding_all rfl); (case q2ø => intro _; with_unfolding_all rfl); (case eø => (simp only [Int.reduceAdd, Int.reduceSub, Int.reduceNeg, Int.zero_add, Int.zero_sub, c3_12]; rfl)); (case zø => exact Nat.le_of_ble_eq_true rfl); intro _ _ _ _ _))))); k_steps))
  unfold Hold
  with_reducible rename Fr _ _ _ _ => Fo
  with_reducible rename News _ _ _ _ => No
  set_option maxHeartbeats 200000 in
  refine' Clm.use_int (sums31C _ _ _ _ _ _ _ _ _ _) ?k1 Fo ?k3 No ?k5 ?kK ?kd ?ku ?kp ?_
  case k1 => k_asm
  case k3 => k_asm
  case k5 => k_asm
  case kp => exact trivial
  case kK => exact rfl
  case kd => decide +kernel
  case ku => decide +kernel
  intro t9 h9 tk9 F9 N9 K9
  clear K9 Fo No
  generalize hS3 : sum31 _ _ _ = S3
  try dsimp only
  first | (k_unfold; (try dsimp only)) | walk1
  refine LCg.CompEnd.intro F9 N9 _ (fun _ h => h) ?offc3 ?srcc3 ?_
  case offc3 => simp only [LCg.Off3, and_true]; assumption
  case srcc3 => exact .inr ⟨_, by k_mem, rfl, _, rfl⟩
  set_option maxHeartbeats 600000 in
  (k_steps; repeat' (((with_reducible refine held ?_); first | (((with_reducible show wpAny _ _ (subscriptTail (Expr.Name _ _) (Expr.Slice _ _ _ _) (Value.str _ _) (Value.ref _)) _ _ _); ((with_reducible rename Fr _ _ _ _ => sF'); (with_reducible rename News _ _ _ _ => sN'); first | (refine' tsl_sn (s := ⟨_, _, _, _, _⟩) ?eø sF' sN' ?q1ø ?q2ø ?zø ?_; (case q1ø => with_unfolding_all rfl); (case q2ø => intro _; with_unfolding_all rfl); (case eø => (simp only [Int.reduceAdd, Int.reduceSub, Int.reduceNeg, Int.zero_add, Int.zero_sub, s0_0, s1_0, s1_1, s2_0, s2_1, s2_2, s3_0, s3_1, s3_2]; rfl)); (case zø => exact Nat.le_of_ble_eq_true rfl); intro _ _ _ _ _) | (refine' tsl_nn (s := ⟨_, _, _, _, _⟩) ?eø sF' sN' ?q1ø ?q2ø ?zø ?_; (case q1ø => with_unfolding_all rfl); (case q2ø => intro _; with_unfolding_all rfl); (case eø => (simp only [Int.reduceAdd, Int.reduceSub, Int.reduceNeg, Int.zero_add, Int.zero_sub, n0_n, n1_n, n2_n, n3_n]; rfl)); (case zø => exact Nat.le_of_ble_eq_true rfl); intro _ _ _ _ _) | (refine' tsl_ns (s := ⟨_, _, _, _, _⟩) ?eø sF' sN' ?q1ø ?q2ø ?zø ?_; (case q1ø => with_unfolding_all rfl); (case q2ø => intro _; with_unfolding_all rfl); (case eø => (simp only [Int.reduceAdd, Int.reduceSub, Int.reduceNeg, Int.zero_add, Int.zero_sub, n1_1, n2_1, n3_1, n1_2, n2_2, n3_2]; rfl)); (case zø => exact Nat.le_of_ble_eq_true rfl); intro _ _ _ _ _) | (refine' tsl_ss (s := ⟨_, _, _, _, _⟩) ?eø sF' sN' ?q1ø ?q2ø ?zø ?_; (case q1ø => with_unfolding_all rfl); (case q2ø => intro _; with_unfolding_all rfl); (case eø => (simp only [Int.reduceAdd, Int.reduceSub, Int.reduceNeg, Int.zero_add, Int.zero_sub, c3_12]; rfl)); (case zø => exact Nat.le_of_ble_eq_true rfl); intro _ _ _ _ _))))); k_steps))
  refine hQS _ _ ?_
  clear hQS
  have mkA : MarkA := trivial
  (k_steps; repeat' (((with_reducible refine held ?_); first | (((with_reducible show wpAny _ _ (subscriptTail (Expr.Name _ _) (Expr.Slice _ _ _ _) (Value.str _ _) (Value.ref _)) _ _ _); ((with_reducible rename Fr _ _ _ _ => sF'); (with_reducible rename News _ _ _ _ => sN'); first | (refine' tsl_sn (s := ⟨_, _, _, _, _⟩) ?eø sF' sN' ?q1ø ?q2ø ?zø ?_; (case q1ø => with_unfolding_all rfl); (case q2ø => intro _; with_unfolding_all rfl); (case eø => (simp only [Int.reduceAdd, Int.reduceSub, Int.reduceNeg, Int.zero_add, Int.zero_sub, s0_0, s1_0, s1_1, s2_0, s2_1, s2_2, s3_0, s3_1, s3_2]; rfl)); (case zø => exact Nat.le_of_ble_eq_true rfl); intro _ _ _ _ _) | (refine' tsl_nn (s := ⟨_, _, _, _, _⟩) ?eø sF' sN' ?q1ø ?q2ø ?zø ?_; (case q1ø => with_unfolding_all rfl); (case q2ø => intro _; with_unfolding_all rfl); (case eø => (simp only [Int.reduceAdd, Int.reduceSub, Int.reduceNeg, Int.zero_add, Int.zero_sub, n0_n, n1_n, n2_n, n3_n]; rfl)); (case zø => exact Nat.le_of_ble_eq_true rfl); intro _ _ _ _ _) | (refine' tsl_ns (s := ⟨_, _, _, _, _⟩) ?eø sF' sN' ?q1ø ?q2ø ?zø ?_; (case q1ø => with_unfolding_all rfl); (case q2ø => intro _; with_unfolding_all rfl); (case eø => (simp only [Int.reduceAdd, Int.reduceSub, Int.reduceNeg, Int.zero_add, Int.zero_sub, n1_1, n2_1, n3_1, n1_2, n2_2, n3_2]; rfl)); (case zø => exact Nat.le_of_ble_eq_true rfl); intro _ _ _ _ _) | (refine' tsl_ss (s := ⟨_, _, _, _, _⟩) ?eø sF' sN' ?q1ø ?q2ø ?zø ?_; (case q1ø => with_unfolding_all rfl); (case q2ø => intro _; with_unfolding_all rfl); (case eø => (simp only [Int.reduceAdd, Int.reduceSub, Int.reduceNeg, Int.zero_add, Int.zero_sub, c3_12]; rfl)); (case zø => exact Nat.le_of_ble_eq_true rfl); intro _ _ _ _ _))))); k_steps))
  unfold Hold
  refine gQa fun QF hQF => ?_
  with_reducible rename MarkA => mkA
  clear mkA
  (k_steps; repeat' (((with_reducible refine held ?_); first | (((with_reducible show wpAny _ _ (subscriptTail (Expr.Name _ _) (Expr.Slice _ _ _ _) (Value.str _ _) (Value.ref _)) _ _ _); ((with_reducible rename Fr _ _ _ _ => sF'); (with_reducible rename News _ _ _ _ => sN'); first | (refine' tsl_sn (s := ⟨_, _, _, _, _⟩) ?eø sF' sN' ?q1ø ?q2ø ?zø ?_; (case q1ø => with_unfolding_all rfl); (case q2ø => intro _; with_unfolding_all rfl); (case eø => (simp only [Int.reduceAdd, Int.reduceSub, Int.reduceNeg, Int.zero_add, Int.zero_sub, s0_0, s1_0, s1_1, s2_0, s2_1, s2_2, s3_0, s3_1, s3_2]; rfl)); (case zø => exact Nat.le_of_ble_eq_true rfl); intro _ _ _ _ _) | (refine' tsl_nn (s := ⟨_, _, _, _, _⟩) ?eø sF' sN' ?q1ø ?q2ø ?zø ?_; (case q1ø => with_unfolding_all rfl); (case q2ø => intro _; with_unfolding_all rfl); (case eø => (simp only [Int.reduceAdd, Int.reduceSub, Int.reduceNeg, Int.zero_add, Int.zero_sub, n0_n, n1_n, n2_n, n3_n]; rfl)); (case zø => exact Nat.le_of_ble_eq_true rfl); intro _ _ _ _ _) | (refine' tsl_ns (s := ⟨_, _, _, _, _⟩) ?eø sF' sN' ?q1ø ?q2ø ?zø ?_; (case q1ø => with_unfolding_all rfl); (case q2ø => intro _; with_unfolding_all rfl); (case eø => (simp only [Int.reduceAdd, Int.reduceSub, Int.reduceNeg, Int.zero_add, Int.zero_sub, n1_1, n2_1, n3_1, n1_2, n2_2, n3_2]; rfl)); (case zø => exact Nat.le_of_ble_eq_true rfl); intro _ _ _ _ _) | (refine' tsl_ss (s := ⟨_, _, _, _, _⟩) ?eø sF' sN' ?q1ø ?q2ø ?zø ?_; (case q1ø => with_unfolding_all rfl); (case q2ø => intro _; with_unfolding_all rfl); (case eø => (simp only [Int.reduceAdd, Int.reduceSub, Int.reduceNeg, Int.zero_add, Int.zero_sub, c3_12]; rfl)); (case zø => exact Nat.le_of_ble_eq_true rfl); intro _ _ _ _ _))))); k_steps))
  unfold Hold
  with_reducible rename Fr _ _ _ _ => cF
  with_reducible rename News _ _ _ _ => cN
  refine reF cF cN [("total", .int cs.sum _), ("ways", .int S0 _), ("stretch", .ref _), ("sums", .ref _), ("figures", .ref _)] ⟨rfl, rfl, rfl, rfl, rfl, trivial⟩ [0, 1, 2, 3, 4, 5, 6, 7, 8, 9, 10, 12] fun hz tkz uz Fz Nz => ?_
  have Fh : Hold _ := Fz
  have Nh : Hold _ := Nz
  clear Fz Nz
  repeat ((with_reducible rename Fr _ _ _ _ => q); clear q)
  repeat ((with_reducible rename News _ _ _ _ => q); clear q)
  repeat ((with_reducible rename LCg.NsObj _ _ => q); clear q)
  repeat ((with_reducible rename _ ≠ _ ∧ _ ≠ _ ∧ _ ≠ _ => q); clear q)
  repeat ((with_reducible rename (_ ∧ _ ∧ _) ∧ _ => q); clear q)
  repeat ((with_reducible rename (_ : Option Value) = some _ => q); clear q)
  repeat ((with_reducible rename Kept _ _ => q); clear q)
  repeat ((with_reducible rename InElt _ _ => q); clear q)
  repeat ((with_reducible rename _ ≠ _ ∧ _ => q); clear q)
  clear qw
  clear i0 i1 i2 i3 i4 i5 ew hb hI hcl hL8 b0 b1 b2 b3 b4 b5
  have Fz : Fr _ _ _ _ := Fh
  have Nz : News _ _ _ [_, _, _, _, _, _, _, _, _, _, _, _] := Nh
  clear Fh Nh
  with_reducible rename Fr _ _ _ _ => Fo
  with_reducible rename News _ _ _ _ => No
  set_option maxHeartbeats 200000 in
  refine' Clm.use_int (least22E hS0 _) ?k1 Fo ?k3 No ?k5 ?kK ?kd ?ku ?kp ?_
  case k1 => k_asm
  case k3 => k_asm
  case k5 => k_asm
  case kp => exact trivial
  case kK => exact rfl
  case kd => decide +kernel
  case ku => decide +kernel
  intro t9 h9 tk9 F9 N9 K9
  clear K9 Fo No
  generalize hl0 : scc x2 y1 + scc x3 y2 = l0
  try dsimp only
  k_steps
  unfold Hold
  with_reducible rename Fr _ _ _ _ => Fo
  with_reducible rename News _ _ _ _ => No
  set_option maxHeartbeats 200000 in
  refine' Clm.use_int (lev22E hl0 _ _ _ _ (by omega)) ?k1 Fo ?k3 No ?k5 ?kK ?kd ?ku ?kp ?_
  case k1 => k_asm
  case k3 => k_asm
  case k5 => k_asm
  case kp => exact trivial
  case kK => exact rfl
  case kd => decide +kernel
  case ku => decide +kernel
  intro t9 h9 tk9 F9 N9 K9
  clear K9 Fo No
  try dsimp only
  k_steps
  · exfalso
    omega
  unfold Hold
  with_reducible rename Fr _ _ _ _ => Fo
  with_reducible rename News _ _ _ _ => No
  set_option maxHeartbeats 200000 in
  refine' Clm.use_int (least22E hS1 _) ?k1 Fo ?k3 No ?k5 ?kK ?kd ?ku ?kp ?_
  case k1 => k_asm
  case k3 => k_asm
  case k5 => k_asm
  case kp => exact trivial
  case kK => exact rfl
  case kd => decide +kernel
  case ku => decide +kernel
  intro t9 h9 tk9 F9 N9 K9
  clear K9 Fo No
  generalize hl1 : scc x1 y2 + scc x2 y3 = l1
  try dsimp only
  k_steps
  unfold Hold
  with_reducible rename Fr _ _ _ _ => Fo
  with_reducible rename News _ _ _ _ => No
  set_option maxHeartbeats 200000 in
  refine' Clm.use_int (lev22E hl1 _ _ _ _ (by omega)) ?k1 Fo ?k3 No ?k5 ?kK ?kd ?ku ?kp ?_
  case k1 => k_asm
  case k3 => k_asm
  case k5 => k_asm
  case kp => exact trivial
  case kK => exact rfl
  case kd => decide +kernel
  case ku => decide +kernel
  intro t9 h9 tk9 F9 N9 K9
  clear K9 Fo No
  try dsimp only
  k_steps
  · exfalso
    omega
  unfold Hold
  with_reducible rename Fr _ _ _ _ => Fo
  with_reducible rename News _ _ _ _ => No
  set_option maxHeartbeats 200000 in
  refine' Clm.use_int (least13E hS2 _) ?k1 Fo ?k3 No ?k5 ?kK ?kd ?ku ?kp ?_
  case k1 => k_asm
  case k3 => k_asm
  case k5 => k_asm
  case kp => exact trivial
  case kK => exact rfl
  case kd => decide +kernel
  case ku => decide +kernel
  intro t9 h9 tk9 F9 N9 K9
  clear K9 Fo No
  generalize hl2 : 4 + min (scc x2 y1) (min (scc x2 y2) (scc x2 y3)) = l2
  try dsimp only
  k_steps
  unfold Hold
  with_reducible rename Fr _ _ _ _ => Fo
  with_reducible rename News _ _ _ _ => No
  set_option maxHeartbeats 200000 in
  refine' Clm.use_int (lev13E hl2 _ _ _ _ (by omega)) ?k1 Fo ?k3 No ?k5 ?kK ?kd ?ku ?kp ?_
  case k1 => k_asm
  case k3 => k_asm
  case k5 => k_asm
  case kp => exact trivial
  case kK => exact rfl
  case kd => decide +kernel
  case ku => decide +kernel
  intro t9 h9 tk9 F9 N9 K9
  clear K9 Fo No
  try dsimp only
  k_steps
  · exfalso
    omega
  unfold Hold
  with_reducible rename Fr _ _ _ _ => Fo
  with_reducible rename News _ _ _ _ => No
  set_option maxHeartbeats 200000 in
  refine' Clm.use_int (least31E hS3 _) ?k1 Fo ?k3 No ?k5 ?kK ?kd ?ku ?kp ?_
  case k1 => k_asm
  case k3 => k_asm
  case k5 => k_asm
  case kp => exact trivial
  case kK => exact rfl
  case kd => decide +kernel
  case ku => decide +kernel
  intro t9 h9 tk9 F9 N9 K9
  clear K9 Fo No
  generalize hl3 : 4 + min (scc x1 y2) (min (scc x2 y2) (scc x3 y2)) = l3
  try dsimp only
  k_steps
  unfold Hold
  with_reducible rename Fr _ _ _ _ => Fo
  with_reducible rename News _ _ _ _ => No
  set_option maxHeartbeats 200000 in
  refine' Clm.use_int (lev31E hl3 _ _ _ _ (by omega)) ?k1 Fo ?k3 No ?k5 ?kK ?kd ?ku ?kp ?_
  case k1 => k_asm
  case k3 => k_asm
  case k5 => k_asm
  case kp => exact trivial
  case kK => exact rfl
  case kd => decide +kernel
  case ku => decide +kernel
  intro t9 h9 tk9 F9 N9 K9
  clear K9 Fo No
  try dsimp only
  k_steps
  · exfalso
    omega
  refine hQF _ _ ?_
  clear hQF
  k_steps
  have ba : 2 ≤ cs.sum.fmod 3 + 2 ∧ cs.sum.fmod 3 + 2 ≤ 4 := by
    have := Int.fmod_nonneg_of_pos cs.sum (show (0 : Int) < 3 by decide)
    have := Int.fmod_lt_of_pos cs.sum (show (0 : Int) < 3 by decide)
    omega
  have bl : 2 ≤ (cs.sum.fdiv 3).fmod 3 + 2 ∧ (cs.sum.fdiv 3).fmod 3 + 2 ≤ 4 := by
    have := Int.fmod_nonneg_of_pos (cs.sum.fdiv 3) (show (0 : Int) < 3 by decide)
    have := Int.fmod_lt_of_pos (cs.sum.fdiv 3) (show (0 : Int) < 3 by decide)
    omega
  have bz : (cs.sum.fdiv 9).fmod 3 = 0 ∨ (cs.sum.fdiv 9).fmod 3 = 1 ∨ (cs.sum.fdiv 9).fmod 3 = 2 := by
    have := Int.fmod_nonneg_of_pos (cs.sum.fdiv 9) (show (0 : Int) < 3 by decide)
    have := Int.fmod_lt_of_pos (cs.sum.fdiv 9) (show (0 : Int) < 3 by decide)
    omega
  set_option maxHeartbeats 200000 in
  generalize cs.sum.fmod 3 + 2 = ea at *
  set_option maxHeartbeats 200000 in
  generalize (cs.sum.fdiv 3).fmod 3 + 2 = la at *
  set_option maxHeartbeats 200000 in
  generalize (cs.sum.fdiv 9).fmod 3 = en at *
  repeat ((with_reducible rename _ < _ ∧ _ => qq); clear qq)
  unfold Hold
  have s0 : 0 ≤ S0 ∧ S0 < 2 ^ 100 := hS0 ▸ sum22_lt (subCost_in _ _) (subCost_in _ _) (subCost_in _ _) (subCost_in _ _)
  have s1' : 0 ≤ S1 ∧ S1 < 2 ^ 100 := hS1 ▸ sum22_lt (subCost_in _ _) (subCost_in _ _) (subCost_in _ _) (subCost_in _ _)
  have s2 : 0 ≤ S2 ∧ S2 < 2 ^ 100 := hS2 ▸ sum13_lt (subCost_in _ _) (subCost_in _ _) (subCost_in _ _)
  have s3 : 0 ≤ S3 ∧ S3 < 2 ^ 100 := hS3 ▸ sum13_lt (subCost_in _ _) (subCost_in _ _) (subCost_in _ _)
  have hm01 := mulok s0 s1'
  have hm23 := mulok s2 s3
  clear s0 s1' s2 s3
  have h0 : sum22 _ _ _ _ = S0 := hS0
  have h1 : sum22 _ _ _ _ = S1 := hS1
  have h2 : sum13 _ _ _ = S2 := hS2
  have h3 : sum31 _ _ _ = S3 := hS3
  have c12 : subCost _ _ = costF f0 f4 := c12
  have c13 : subCost _ _ = costF f0 f5 := c13
  have c21 : subCost _ _ = costF f1 f3 := c21
  have c22 : subCost _ _ = costF f1 f4 := c22
  have c23 : subCost _ _ = costF f1 f5 := c23
  have c31 : subCost _ _ = costF f2 f3 := c31
  have c32 : subCost _ _ = costF f2 f4 := c32
  rw [c21, c22, c31, c32] at h0
  rw [c12, c13, c22, c23] at h1
  rw [c21, c22, c23] at h2
  rw [c12, c22, c32] at h3
  have hx := apart_S h0 h1 h2 h3
  clear h0 h1 h2 h3
  have k_ba : Hold _ := ba
  have k_bl : Hold _ := bl
  clear ba bl
  with_reducible rename Fr _ _ _ _ => cF
  with_reducible rename News _ _ _ _ => cN
  refine reF5 cF cN [1, 7] ⟨rfl, rfl, rfl, rfl, rfl, trivial⟩ rfl fun aF aS te tl tz v0 v1 v2 v3 w0 w1 w2 w3 w4 w5 hz tkz uz Fz Nz => ?_
  have Fh : Hold _ := Fz
  have Nh : Hold _ := Nz
  clear Fz Nz
  repeat ((with_reducible rename Fr _ _ _ _ => q); clear q)
  repeat ((with_reducible rename News _ _ _ _ => q); clear q)
  repeat ((with_reducible rename IsTup _ _ _ => q); clear q)
  clear hS0 hS1 hS2 hS3 c11 c12 c13 c21 c22 c23 c31 c32 c33 hl0 hl1 hl2 hl3
  have Fz : Fr _ _ _ _ := Fh
  have Nz : News _ _ _ [_, _] := Nh
  clear Fh Nh
  try revert f0
  try revert f1
  try revert f2
  try revert f3
  try revert f4
  try revert f5
  try revert S0
  try revert S1
  try revert S2
  try revert S3
  try revert ea
  try revert la
  try revert en
  try revert aF
  try revert aS
  try revert te
  try revert tl
  try revert tz
  try revert v0
  try revert v1
  try revert v2
  try revert v3
  try revert w0
  try revert w1
  try revert w2
  try revert w3
  try revert w4
  try revert w5
  try revert hz
  try revert tkz
  try revert uz
  try revert Fz
  try revert Nz
  try revert bz
  try revert hm01
  try revert hm23
  try revert k_ba
  try revert k_bl
  try revert hx
  repeat (rename_i zf; first | clear zf | revert zf)
  repeat (rename _ => zf; (fail_if_success (with_reducible (have zt : True := by exact zf))); first | clear zf | revert zf)
  repeat (rename _ => zf; revert zf)
  exact Mark.out⟩
end
end Mine
end
local macro_rules | `(tactic| walk_at "nokey") => `(tactic| fail)
section
open PySem PySem.W PyProof.Rows PySem.Calls PySem.Spec
set_option maxRecDepth 100000
set_option maxHeartbeats 8000000
set_option linter.unusedVariables false
set_option linter.unusedSimpArgs false
namespace Mine
local macro_rules | `(tactic| walk_at "call ref") => `(tactic| (refine hold ?_))
local macro_rules | `(tactic| walk_at "compareOp Eq ref ref") => `(tactic| (refine hold ?_))
local macro_rules | `(tactic| size_fits) => `(tactic| (with_unfolding_all exact Nat.le_of_ble_eq_true rfl))
local macro_rules | `(tactic| walk_at "exec Assign") => `(tactic| (k_here; (with_reducible rename MarkA => mkA); (with_reducible show wpAny _ _ (exec (Stmt.Assign [Expr.Name (PySem.Str.ofString "told") _] _ _) _) _ _ _); refine hold ?_))
section
theorem lawI : PySem.Challenge.rw_tl0021_01.Holds := by
  refine lawF.2 ⟨?_⟩
  intro w
  revert w
  w_top off
  k_fill
  intro w
  set_option tactic.hygienic false in intros
  refine wpAny_mono (Q := fun f s' => Hold (f = .next ∧ LwR zf_1.heap zf_1.heap.objs.size { heap := hz, gens := zf_1.gens, drawn := zf_1.drawn, toks := tkz, os := zf_1.os } [("figures", .ref aF), ("sums", .ref aS), ("early", .int ea te), ("late", .int la tl), ("ending", .int en tz)] ea la en [(aS, LCg.lst [.int S0 v0, .int S1 v1, .int S2 v2, .int S3 v3]), (aF, LCg.lst [.int f0 w0, .int f1 w1, .int f2 w2, .int f3 w3, .int f4 w4, .int f5 w5])] s')) ?ruler ?rest fun _ _ e => e
  case ruler =>
    clear k_ba k_bl hx hm01 hm23
    rcases bz with rfl | rfl | rfl
    · k_steps
      with_reducible rename Fr _ _ _ _ => F3
      with_reducible rename News _ _ _ _ => N3
      exact ⟨trivial, .mk _ _ _ _ _ _ _ _ rfl (know F3 ⟨rfl, rfl, rfl, rfl, rfl, rfl, trivial⟩) (news_pick [0, 6, 7] N3) rfl rfl (.inr (.inr ⟨rfl, _, rfl⟩))⟩
    · k_steps
      with_reducible rename Fr _ _ _ _ => F3
      with_reducible rename News _ _ _ _ => N3
      exact ⟨trivial, .mk _ _ _ _ _ _ _ _ rfl (know F3 ⟨rfl, rfl, rfl, rfl, rfl, rfl, trivial⟩) (news_pick [0, 6, 7] N3) rfl rfl (.inr (.inl ⟨by decide, _, rfl⟩))⟩
    · k_steps
      with_reducible rename Fr _ _ _ _ => F3
      with_reducible rename News _ _ _ _ => N3
      exact ⟨trivial, .mk _ _ _ _ _ _ _ _ rfl (know F3 ⟨rfl, rfl, rfl, rfl, rfl, rfl, trivial⟩) (news_pick [0, 6, 7] N3) rfl rfl (.inl ⟨by decide, rfl⟩)⟩
  case rest =>
  clear Fz Nz
  have ba : 2 ≤ ea ∧ ea ≤ 4 := k_ba
  have bl : 2 ≤ la ∧ la ≤ 4 := k_bl
  clear k_ba k_bl
  rintro f s' ⟨rfl, h2, tk2, u2, R, rv, rn, ta, tb, rfl, F2, N2, pa, pb, pe⟩
  obtain ⟨nE, NN, hend, hN, hNe, hN6, plain⟩ := endings pe
  replace plain := plain hx ba bl
  have tki := tk_in (en := en) ba bl
  have a0 : 0 < 8 * ea ∧ 8 * ea < 100 := by omega
  have b0 : 0 < 8 * la ∧ 8 * la < 100 := by omega
  clear hx pe ba bl
  have mkA : MarkA := trivial
  k_steps
  unfold Hold
  refine wpAny_mono (Q := fun f s' => Hold (f = .next ∧ LwT zf_1.heap zf_1.heap.objs.size { heap := h2, gens := zf_1.gens, drawn := zf_1.drawn, toks := tk2, os := zf_1.os } (("ruler", .ref R) :: [("figures", .ref aF), ("sums", .ref aS), ("early", .int ea te), ("late", .int la tl), ("ending", .int en tz)]) ea la en [(R, listOf rv.toArray rn), (aS, LCg.lst [.int S0 v0, .int S1 v1, .int S2 v2, .int S3 v3]), (aF, LCg.lst [.int f0 w0, .int f1 w1, .int f2 w2, .int f3 w3, .int f4 w4, .int f5 w5])] s')) ?told ?rest fun _ _ e => e
  case told =>
    clear plain hend hN hNe hN6 tki a0 b0 pa pb hm01 hm23
    with_reducible rename MarkA => mkA
    clear mkA
    rcases bz with rfl | rfl | rfl
    · k_steps
      with_reducible rename Fr _ _ _ _ => F3
      with_reducible rename News _ _ _ _ => N3
      exact ⟨trivial, .mk _ _ _ _ _ _ rfl (know F3 ⟨rfl, rfl, rfl, rfl, rfl, rfl, rfl, trivial⟩) (news_pick [0, 4, 5, 6] N3) (by with_unfolding_all exact (.cons _ _ (.cons _ _ (.cons _ _ (.cons _ _ (.cons _ _ (.cons _ _ .nil)))))))⟩
    · k_steps
      with_reducible rename Fr _ _ _ _ => F3
      with_reducible rename News _ _ _ _ => N3
      exact ⟨trivial, .mk _ _ _ _ _ _ rfl (know F3 ⟨rfl, rfl, rfl, rfl, rfl, rfl, rfl, trivial⟩) (news_pick [0, 4, 5, 6] N3) (by with_unfolding_all exact (.cons _ _ (.cons _ _ .nil)))⟩
    · k_steps
      with_reducible rename Fr _ _ _ _ => F3
      with_reducible rename News _ _ _ _ => N3
      exact ⟨trivial, .mk _ _ _ _ _ _ rfl (know F3 ⟨rfl, rfl, rfl, rfl, rfl, rfl, rfl, trivial⟩) (news_pick [0, 4, 5, 6] N3) (by with_unfolding_all exact (.cons _ _ (.cons _ _ .nil)))⟩
  case rest =>
  clear F2 N2 bz
  rintro f s' ⟨rfl, h3, tk3, u3, T, tv, tn, rfl, F2, N2, itk⟩
  k_steps
  unfold Hold
  with_reducible rename Fr _ _ _ _ => Fo
  with_reducible rename News _ _ _ _ => No
  refine' Clm.use_int (mulC _ _ _ _ _ _ _ _ hm01) ?k1 Fo ?k3 No ?k5 ?kK ?kd ?ku ?kp ?_
  case kp => exact trivial
  case k1 => k_asm
  case k3 => k_asm
  case k5 => k_asm
  case kK => exact rfl
  case kd => decide +kernel
  case ku => decide +kernel
  intro t9 h9 tk9 F9 N9 K9
  clear K9 Fo No
  try dsimp only
  k_steps
  unfold Hold
  with_reducible rename Fr _ _ _ _ => Fo
  with_reducible rename News _ _ _ _ => No
  refine' Clm.use_int (mulC _ _ _ _ _ _ _ _ hm23) ?k1 Fo ?k3 No ?k5 ?kK ?kd ?ku ?kp ?_
  case kp => exact trivial
  case k1 => k_asm
  case k3 => k_asm
  case k5 => k_asm
  case kK => exact rfl
  case kd => decide +kernel
  case ku => decide +kernel
  intro t9 h9 tk9 F9 N9 K9
  clear K9 Fo No
  try dsimp only
  k_steps
  unfold Hold
  with_reducible rename Fr _ _ _ _ => Fo
  with_reducible rename News _ _ _ _ => No
  refine' Clm.use_int (subIC _ _ _ _ _ _ _ _) ?k1 Fo ?k3 No ?k5 ?kK ?kd ?ku ?kp ?_
  case kp => exact trivial
  case k1 => k_asm
  case k3 => k_asm
  case k5 => k_asm
  case kK => exact rfl
  case kd => decide +kernel
  case ku => decide +kernel
  intro t9 h9 tk9 F9 N9 K9
  clear K9 Fo No
  try dsimp only
  k_steps
  unfold Hold
  with_reducible rename Fr _ _ _ _ => Fo
  with_reducible rename News _ _ _ _ => No
  refine' ClmG.use (piecesC _ _ _ _ _ _ _ rv (fun j => if j = 7 then 8 * ea else 8 * la) nE NN pa pb a0 b0 hend rfl (fun i hi => if_neg (by omega)) hN hNe hN6) ?k1 Fo ?k3 No ?k5 ?kK ?kd ?ku ?kp ?_
  case kp => exact isL No (by k_mem)
  case k1 => k_asm
  case k3 => k_asm
  case k5 => k_asm
  case kK => exact rfl
  case kd => decide +kernel
  case ku => decide +kernel
  intro r9 h9 tk9 G9 hb9 F9 N9 K9 o9
  replace hb9 := hb9 (AllBare.of_eq (by assumption))
  obtain ⟨lp, vp, np, rfl, qp, ep, Ip⟩ := o9
  have N9 := news_add Fo qp N9 ep
  clear Fo No K9 pa pb a0 b0 hend hN hNe hN6
  try dsimp only
  k_steps
  unfold Hold
  with_reducible rename Fr _ _ _ _ => Fo
  with_reducible rename News _ _ _ _ => No
  refine' Clm.use (apartC _ _ _ _ _ _ _ _ [f0, f1, f2] [f3, f4, f5] ?yf ?yg rfl rfl) ?k1 Fo ?k3 No ?k5 ?kK ?kd ?ku ?kp ?_
  case kp => exact ⟨isL No (by k_mem), isL No (by k_mem)⟩
  case yf => exact .cons _ _ (.cons _ _ (.cons _ _ .nil))
  case yg => exact .cons _ _ (.cons _ _ (.cons _ _ .nil))
  case k1 => k_asm
  case k3 => k_asm
  case k5 => k_asm
  case kK => exact rfl
  case kd => decide +kernel
  case ku => decide +kernel
  intro r9 h9 tk9 F9 N9 K9 o9
  obtain ⟨lc, vc, nc, rfl, qc, ec, Ic⟩ := o9
  have N9 := news_add Fo qc N9 ec
  clear Fo No K9
  try dsimp only
  k_steps
  unfold Hold
  with_reducible rename Fr _ _ _ _ => Fo
  with_reducible rename News _ _ _ _ => No
  refine' Clm.use (cutC _ _ _ _ _ _ _ _ (apartF [f0, f1, f2] [f3, f4, f5]) (tkF en ea la) Ic (by rw [apart_len]; decide) itk tk_len tki) ?k1 Fo ?k3 No ?k5 ?kK ?kd ?ku ?kp ?_
  case kp => exact ⟨isL No (by k_mem), isL No (by k_mem)⟩
  case k1 => k_asm
  case k3 => k_asm
  case k5 => k_asm
  case kK => exact rfl
  case kd => decide +kernel
  case ku => decide +kernel
  intro r9 h9 tk9 F9 N9 K9 o9
  obtain ⟨lk, vk, nk, rfl, qk9, ek9, Ik⟩ := o9
  have N9 := news_add Fo qk9 N9 ek9
  clear Fo No K9
  try dsimp only
  k_steps
  unfold Hold
  with_reducible rename News _ _ _ _ => No
  refine eq_ints (isL No (by k_mem)) (isL No (by k_mem)) Ip (by have e := plain ▸ Ik; exact e) (show 7 < cLine by decide +kernel) ?_
  k_steps
  refine good_gens hb9 ?_
  k_end
  wrow_close
end
end Mine
end
theorem PySem.Challenge.cw_tl0021_01_holds : PySem.Challenge.rw_tl0021_01.Holds :=
  Mine.lawI
