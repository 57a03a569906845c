import PyProof.Rows.All
import Wide.All
import OpenK.AllK
import Wide.FinOn
import PySem.Challenge.RW_xg0056_01
set_option Elab.async false
set_option linter.all false
set_option rowWalk.seconds 0
section
open PySem PySem.W PyProof.Rows
namespace Mine
set_option maxRecDepth 100000 in
set_option maxHeartbeats 0 in
open_top hd for PySem.Challenge.rw_xg0056_01.row
end Mine
end
theorem Mine.wt : True := by first | row_walk | trivial
section
open PySem PySem.W PyProof.Rows PyProof.V PySem.Spec PySem.SeqAt
set_option maxRecDepth 100000
namespace Mine
local macro_rules | `(tactic| omega) => `(tactic| lia)

def Spec (w : World) (p : Program) (loose : List Str) (mean : ExcName → Option Value) (mg mb : Str → Option Value) (f : Addr) (k : Nat) (vs : List Value) (news : List (Addr × Obj)) (post : Value → List (Addr × Obj) → Prop) : Prop :=
  ∀ (dp un : Nat) (gd : Option (List Code)) (cn : Str) (cs : Scope) (a : Addr) (ccd : Value) (cl : List (Str × Addr)) (outer : List Env) (A₀ : Around) (base h₀ : Heap) (L : Addr) (m : Str → Option Value) (s : Shared) (Q E : Value → Shared → Prop),
    Below A₀ base outer h₀ → Fr h₀ L s.heap m → (hd.heap_1 w.params).In h₀ → News h₀ L s.heap news → Top p loose mean mg mb h₀ → cs.kind = .function → dp + k < recursionLimit → un + 8 * k < cLine →
    (∀ v news' h' tk', post v news' → Fr h₀ L h' m → News h₀ L h' news' → Q v { s with heap := h', toks := tk' }) →
    codeAny (model PySem.Challenge.rw_xg0056_01.row.prog w) (ktrTop dp un gd cn cs L a ccd cl outer) (.call (.ref f) ⟨vs, []⟩) (fun r s' => match r with | .ok (.ret v) => Q v s' | .ok _ => False | .error e => E e s') s

theorem Spec.use {w : World} {p : Program} {loose : List Str} {mean : ExcName → Option Value} {mg mb : Str → Option Value} {f : Addr} {k : Nat} {vs : List Value} {news : List (Addr × Obj)} {post : Value → List (Addr × Obj) → Prop}
    (S : Spec w p loose mean mg mb f k vs news post) {dp un : Nat} {gd : Option (List Code)} {cn : Str} {cs : Scope} {a : Addr} {ccd : Value} {cl : List (Str × Addr)} {outer : List Env} {A₀ : Around} {base h₀ : Heap} {L : Addr} {m : Str → Option Value} {s : Shared} {Q E : Value → Shared → Prop}
    (B : Below A₀ base outer h₀) (F : Fr h₀ L s.heap m) (X : (hd.heap_1 w.params).In h₀) (N : News h₀ L s.heap news) (T : Top p loose mean mg mb h₀) (hk : cs.kind = .function) (hd : dp + k < recursionLimit) (hu : un + 8 * k < cLine)
    (h : ∀ v news' h' tk', post v news' → Fr h₀ L h' m → News h₀ L h' news' → Q v { s with heap := h', toks := tk' }) :
    wpAny (model PySem.Challenge.rw_xg0056_01.row.prog w) (ktrTop dp un gd cn cs L a ccd cl outer) (call (.ref f) vs) Q E s :=
  wpAny_call (S dp un gd cn cs a ccd cl outer A₀ base h₀ L m s Q E B F X N T hk hd hu h)

abbrev sv (p : Str × Tok) : Value := .str p.1 p.2
abbrev svs (ps : List (Str × Tok)) : List Value := ps.map sv
abbrev wds (ps : List (Str × Tok)) : List Str := ps.map (·.1)

/-- one entry of a list of pairs [word, x] -/
structure Tk where
  a : Addr
  c : Nat
  w : Str
  tw : Tok
  x : Int
  tx : Tok
abbrev tkRefs (zs : List Tk) : List Value := zs.map fun z => .ref z.a
abbrev tkLed (zs : List Tk) : List (Addr × Obj) := zs.map fun z => (z.a, listOf [Value.str z.w z.tw, Value.int z.x z.tx].toArray z.c)
abbrev tkDat (zs : List Tk) : List (Str × Int) := zs.map fun z => (z.w, z.x)

theorem allNe_lt {d : Addr} {Z : List (Addr × Obj)} (h : AllLt d Z) : ∀ p ∈ Z, p.1 ≠ d := by
  induction Z with
  | nil => intro p hp; cases hp
  | cons q r ih =>
    intro p hp
    rcases List.mem_cons.mp hp with rfl | hp
    · exact Nat.ne_of_lt h.1
    · exact ih h.2 p hp

theorem allNe_le {d e : Nat} {Z : List (Addr × Obj)} (h : AllLt d Z) (he : d ≤ e) : ∀ p ∈ Z, p.1 ≠ e := by
  induction Z with
  | nil => intro p hp; cases hp
  | cons q r ih =>
    intro p hp
    rcases List.mem_cons.mp hp with rfl | hp
    · exact Nat.ne_of_lt (Nat.lt_of_lt_of_le h.1 he)
    · exact ih h.2 p hp
theorem allNe_all {d : Addr} {Z : List (Addr × Obj)} (h : ∀ p ∈ Z, p.1 < d) : ∀ p ∈ Z, p.1 ≠ d := fun p hp => Nat.ne_of_lt (h p hp)

theorem readsAll_svs (h : Heap) : ∀ ws : List (Str × Tok), ReadsAll h (svs ws) ((wds ws).map PyData.str) []
  | [] => .nil
  | w :: r => by
    have := ReadsAll.cons (Reads.str (h := h) w.1 w.2) (readsAll_svs h r)
    simpa using this
theorem reads_svs {h : Heap} {a : Addr} {ws : List (Str × Tok)} {n : Nat} (hl : h.get? a = some (listOf (svs ws).toArray n)) : Reads h (.ref a) (.list ((wds ws).map PyData.str)) [a] :=
  Reads.list hl rfl rfl (by simpa using readsAll_svs h ws)
theorem canLay_strs : ∀ {ws : List Str}, (∀ w ∈ ws, PyData.strOk w = true) → PyData.canLayAll0 (ws.map PyData.str) = true
  | [], _ => by simp [PyData.canLayAll0]
  | w :: r, h => by
    simp only [List.map_cons, PyData.canLayAll0, PyData.canLay0, Bool.and_eq_true]
    exact ⟨h w (.head _), canLay_strs fun v hv => h v (.tail _ hv)⟩
theorem depth_strs : ∀ ws : List Str, PyData.depthAll (ws.map PyData.str) ≤ 1
  | [] => by simp [PyData.depthAll]
  | w :: r => by
    have := depth_strs r
    simp only [List.map_cons, PyData.depthAll, PyData.depth]
    omega
theorem shaped_strs {ws : List Str} (h : ∀ w ∈ ws, PyData.strOk w = true) : shaped (.list (ws.map PyData.str)) = true := by
  have h1 := depth_strs ws
  have h2 : PyData.depth (.list (ws.map PyData.str)) ≤ 64 := by simp only [PyData.depth]; omega
  show (PyData.canLay0 (.list (ws.map PyData.str)) && decide (PyData.depth (.list (ws.map PyData.str)) ≤ 64)) = true
  rw [Bool.and_eq_true]
  exact ⟨by simp only [PyData.canLay0]; exact canLay_strs h, decide_eq_true h2⟩

section
variable {prog : Program} {w : World} {A : Around} {E : Value → Shared → Prop} {s : Shared} {h₀ : Heap} {L : Addr} {m : Str → Option Value} {news : List (Addr × Obj)}
theorem ne_empty {a b : Addr} {ws : List (Str × Tok)} {n k : Nat} {Q : Value → Shared → Prop} (N : News h₀ L s.heap news) (h1 : (a, listOf (svs ws).toArray n) ∈ news) (h2 : (b, listOf #[] k) ∈ news)
    (hok : ∀ w ∈ wds ws, PyData.strOk w = true) (hu : A.units + 64 < cLine) (h : Q (.bool (!ws.isEmpty)) s) : wpAny (model prog w) A (compareOp .NotEq (.ref a) (.ref b)) Q E s := by
  refine PyProof.Rows.ne_dataH_same (reads_svs (N _ h1).1) (reads_svs (ws := []) (N _ h2).1) (shaped_strs hok) (shaped_strs (ws := []) (fun w hw => nomatch hw)) hu ?_ ?_
  · cases ws <;> simp [noMix, noMixAll]
  · cases ws with
    | nil => simpa [PySem.Spec.same, PySem.Spec.sameAll] using h
    | cons x y => simpa [PySem.Spec.same, PySem.Spec.sameAll] using h
theorem dict_item {value slice : PySem.Expr} {d : Addr} {od : Obj} {kvs : List (Str × Value)} {k : Str} {t : Tok} {v : Value} {Q : Value → Shared → Prop} (N : News h₀ L s.heap news) (h1 : (d, od) ∈ news) (hd : od.IsDictOf (strKind prog w) kvs) (hv : valueAt kvs k = some v)
    (h : Q v { s with toks := s.toks + 1 }) (hs : subscripted slice false (.ref d) (.str k t) = operate [.ref d, .str k t] (getItem (.ref d) (.str k t)) := by with_unfolding_all rfl) :
    wpAny (model prog w) A (subscriptTail value slice (.ref d) (.str k t)) Q E s := by
  have hm : s.heap.DictOf (strKind prog w) d kvs := Heap.dictOf_iff.mpr ⟨od, (N _ h1).1, hd⟩
  refine tail_any hm.mapOf.typeIs slot_dict_getitem.lookup (wpAny_getItem_of (k := k) ?_ hm.mapOf hv h) hs
  show Value.isStrOf k (.str k t) = true
  simp [Value.isStrOf]
end

section
variable {prog : Program} {w : World} {A : Around} {E : Value → Shared → Prop} {s : Shared} {h₀ : Heap} {L : Addr} {m : Str → Option Value} {news : List (Addr × Obj)}
theorem lenS {a : Addr} {ps : List (Str × Tok)} {n : Nat} {Q : Value → Shared → Prop} (N : News h₀ L s.heap news) (h1 : (a, listOf (svs ps).toArray n) ∈ news) (hl : ps.length ≤ 100000)
    (h : Q (.int ps.length (s.toks + 1)) { s with toks := s.toks + 1 + 1 }) : wpAny (model prog w) A (call (.builtin "len") [.ref a]) Q E s := by
  have e : (svs ps).toArray.size = ps.length := by simp
  refine PyProof.Rows.len_list (News.isList N h1) ?_ ?_
  · rw [e]; omega
  · rw [e]; exact h
end

section
variable {prog : Program} {w : World} {A : Around} {E : Value → Shared → Prop} {s : Shared} {h₀ : Heap} {L : Addr} {m : Str → Option Value} {news : List (Addr × Obj)}
theorem truthyS {a : Addr} {ps : List (Str × Tok)} {n : Nat} {Q : Bool → Shared → Prop} (N : News h₀ L s.heap news) (h1 : (a, listOf (svs ps).toArray n) ∈ news) (hl : ps.length ≤ 100000)
    (h : Q (!ps.isEmpty) { s with toks := s.toks + 1 + 1 }) : wpAny (model prog w) A (truthy (.ref a)) Q E s := by
  have e : (svs ps).toArray.size = ps.length := by simp
  have e2 : (svs ps).toArray.isEmpty = ps.isEmpty := by cases ps <;> simp
  refine wpAny_truthy_list (News.isList N h1) (by rw [e]; omega) ?_
  rw [e2]
  exact h
end

theorem hd147 (P : Params) : codeHdIn (hd.heap_1 P) 147 143 = true := by kernel_rfl
theorem hd77 (P : Params) : codeHdIn (hd.heap_1 P) 77 73 = true := by kernel_rfl
theorem hd70 (P : Params) : codeHdIn (hd.heap_1 P) 70 66 = true := by kernel_rfl

theorem sv_from (ws : List (Str × Tok)) : (slicePick (svs ws).toArray (some 1) none none).toList = svs (ws.drop 1) := by
  have h := slicePick_from' (svs ws).toArray 1
  rw [show ((1 : Nat) : Int) = 1 from rfl] at h
  rw [h]
  simp
theorem sv_upto (ws : List (Str × Tok)) : (slicePick (svs ws).toArray none (some 1) none).toList = svs (ws.take 1) := by
  have h := slicePick_upto' (svs ws).toArray 1
  rw [show ((1 : Nat) : Int) = 1 from rfl] at h
  rw [h]
  simp

theorem name_ok {w : Str} (h : w = Str.ofString "7" ∨ w = Str.ofString "70" ∨ w = Str.ofString "17") : PyData.strOk w = true := by
  rcases h with rfl | rfl | rfl <;> decide +kernel

section
variable {M : Model} {A : Around} {α : Type} {s : Shared}
theorem gen_QE {env : Env} {t : Sem α} {Q : α → Shared → Prop} {E : Value → Shared → Prop} (hp : PassesOwn M A env E)
    (h : ∀ (QQ : α → Shared → Prop) (EE : Value → Shared → Prop), (∀ f s', Q f s' → QQ f s') → PassesOwn M A env EE → wpAny M A t QQ EE s) : wpAny M A t Q E s := h Q E (fun _ _ h => h) hp
theorem gen_Q {t : Sem α} {Q : α → Shared → Prop} {E : Value → Shared → Prop} (h : ∀ QQ : α → Shared → Prop, (∀ f s', Q f s' → QQ f s') → wpAny M A t QQ E s) : wpAny M A t Q E s := h Q fun _ _ h => h
theorem cutQ {Q QQ : α → Shared → Prop} {f : α} (h : ∀ f s', Q f s' → QQ f s') (x : Q f s) : QQ f s := h f s x
end

theorem Spec.use2 {w : World} {p : Program} {loose : List Str} {mean : ExcName → Option Value} {mg mb : Str → Option Value} {f : Addr} {k : Nat} {vs : List Value} {news : List (Addr × Obj)} {post : Value → List (Addr × Obj) → Prop}
    (S : Spec w p loose mean mg mb f k vs news post) {dp un : Nat} {gd : Option (List Code)} {cn : Str} {cs : Scope} {a : Addr} {ccd : Value} {cl : List (Str × Addr)} {outer : List Env} {A₀ : Around} {base h₀ : Heap} {L : Addr} {m : Str → Option Value} {s : Shared} {Q E : Value → Shared → Prop}
    (B : Below A₀ base outer h₀) (F : Fr h₀ L s.heap m) (X : (hd.heap_1 w.params).In h₀) (N : News h₀ L s.heap news) (T : Top p loose mean mg mb h₀) (hk : cs.kind = .function) (hd : dp + k < recursionLimit) (hu : un + 8 * k < cLine)
    (h : ∀ v nw, post v nw → ∀ h' tk', Fr h₀ L h' m → News h₀ L h' nw → Q v { s with heap := h', toks := tk' }) :
    wpAny (model PySem.Challenge.rw_xg0056_01.row.prog w) (ktrTop dp un gd cn cs L a ccd cl outer) (call (.ref f) vs) Q E s :=
  S.use B F X N T hk hd hu fun v nw h' tk' hp F N => h v nw hp h' tk' F N
theorem k0_0 {V : Value} {W : List (Addr × Obj)} {Φ : Value → List (Addr × Obj) → Prop} (h : Φ V W) : ∀ v nw, (v = V ∧ nw = W) → Φ v nw := by
  rintro v nw ⟨rfl, rfl⟩
  exact h 
theorem k1_0 {τ0 : Type} {V : τ0 → Value} {W : τ0 → List (Addr × Obj)} {Φ : Value → List (Addr × Obj) → Prop} (h : ∀ a, Φ (V a) (W a)) : ∀ v nw, (∃ a, v = (V a) ∧ nw = (W a)) → Φ v nw := by
  rintro v nw ⟨a, rfl, rfl⟩
  exact h a
theorem k2_0 {τ0 : Type} {τ1 : Type} {V : τ0 → τ1 → Value} {W : τ0 → τ1 → List (Addr × Obj)} {Φ : Value → List (Addr × Obj) → Prop} (h : ∀ a b, Φ (V a b) (W a b)) : ∀ v nw, (∃ a b, v = (V a b) ∧ nw = (W a b)) → Φ v nw := by
  rintro v nw ⟨a, b, rfl, rfl⟩
  exact h a b
theorem k3_0 {τ0 : Type} {τ1 : Type} {τ2 : Type} {V : τ0 → τ1 → τ2 → Value} {W : τ0 → τ1 → τ2 → List (Addr × Obj)} {Φ : Value → List (Addr × Obj) → Prop} (h : ∀ a b c, Φ (V a b c) (W a b c)) : ∀ v nw, (∃ a b c, v = (V a b c) ∧ nw = (W a b c)) → Φ v nw := by
  rintro v nw ⟨a, b, c, rfl, rfl⟩
  exact h a b c
theorem k3_1 {τ0 : Type} {τ1 : Type} {τ2 : Type} {V : τ0 → τ1 → τ2 → Value} {W : τ0 → τ1 → τ2 → List (Addr × Obj)} {R0 : τ0 → τ1 → τ2 → Prop} {Φ : Value → List (Addr × Obj) → Prop} (h : ∀ a b c, (R0 a b c) → Φ (V a b c) (W a b c)) : ∀ v nw, (∃ a b c, v = (V a b c) ∧ nw = (W a b c) ∧ (R0 a b c)) → Φ v nw := by
  rintro v nw ⟨a, b, c, rfl, rfl, h0⟩
  exact h a b c h0
theorem k3_2 {τ0 : Type} {τ1 : Type} {τ2 : Type} {V : τ0 → τ1 → τ2 → Value} {W : τ0 → τ1 → τ2 → List (Addr × Obj)} {R0 : τ0 → τ1 → τ2 → Prop} {R1 : τ0 → τ1 → τ2 → Prop} {Φ : Value → List (Addr × Obj) → Prop} (h : ∀ a b c, (R0 a b c) → (R1 a b c) → Φ (V a b c) (W a b c)) : ∀ v nw, (∃ a b c, v = (V a b c) ∧ nw = (W a b c) ∧ (R0 a b c) ∧ (R1 a b c)) → Φ v nw := by
  rintro v nw ⟨a, b, c, rfl, rfl, h0, h1⟩
  exact h a b c h0 h1
theorem k4_3 {τ0 : Type} {τ1 : Type} {τ2 : Type} {τ3 : Type} {V : τ0 → τ1 → τ2 → τ3 → Value} {W : τ0 → τ1 → τ2 → τ3 → List (Addr × Obj)} {R0 : τ0 → τ1 → τ2 → τ3 → Prop} {R1 : τ0 → τ1 → τ2 → τ3 → Prop} {R2 : τ0 → τ1 → τ2 → τ3 → Prop} {Φ : Value → List (Addr × Obj) → Prop} (h : ∀ a b c d, (R0 a b c d) → (R1 a b c d) → (R2 a b c d) → Φ (V a b c d) (W a b c d)) : ∀ v nw, (∃ a b c d, v = (V a b c d) ∧ nw = (W a b c d) ∧ (R0 a b c d) ∧ (R1 a b c d) ∧ (R2 a b c d)) → Φ v nw := by
  rintro v nw ⟨a, b, c, d, rfl, rfl, h0, h1, h2⟩
  exact h a b c d h0 h1 h2
theorem k4_4 {τ0 : Type} {τ1 : Type} {τ2 : Type} {τ3 : Type} {V : τ0 → τ1 → τ2 → τ3 → Value} {W : τ0 → τ1 → τ2 → τ3 → List (Addr × Obj)} {R0 : τ0 → τ1 → τ2 → τ3 → Prop} {R1 : τ0 → τ1 → τ2 → τ3 → Prop} {R2 : τ0 → τ1 → τ2 → τ3 → Prop} {R3 : τ0 → τ1 → τ2 → τ3 → Prop} {Φ : Value → List (Addr × Obj) → Prop} (h : ∀ a b c d, (R0 a b c d) → (R1 a b c d) → (R2 a b c d) → (R3 a b c d) → Φ (V a b c d) (W a b c d)) : ∀ v nw, (∃ a b c d, v = (V a b c d) ∧ nw = (W a b c d) ∧ (R0 a b c d) ∧ (R1 a b c d) ∧ (R2 a b c d) ∧ (R3 a b c d)) → Φ v nw := by
  rintro v nw ⟨a, b, c, d, rfl, rfl, h0, h1, h2, h3⟩
  exact h a b c d h0 h1 h2 h3
theorem k5_1 {τ0 : Type} {τ1 : Type} {τ2 : Type} {τ3 : Type} {τ4 : Type} {V : τ0 → τ1 → τ2 → τ3 → τ4 → Value} {W : τ0 → τ1 → τ2 → τ3 → τ4 → List (Addr × Obj)} {R0 : τ0 → τ1 → τ2 → τ3 → τ4 → Prop} {Φ : Value → List (Addr × Obj) → Prop} (h : ∀ a b c d e, (R0 a b c d e) → Φ (V a b c d e) (W a b c d e)) : ∀ v nw, (∃ a b c d e, v = (V a b c d e) ∧ nw = (W a b c d e) ∧ (R0 a b c d e)) → Φ v nw := by
  rintro v nw ⟨a, b, c, d, e, rfl, rfl, h0⟩
  exact h a b c d e h0
theorem k5_3 {τ0 : Type} {τ1 : Type} {τ2 : Type} {τ3 : Type} {τ4 : Type} {V : τ0 → τ1 → τ2 → τ3 → τ4 → Value} {W : τ0 → τ1 → τ2 → τ3 → τ4 → List (Addr × Obj)} {R0 : τ0 → τ1 → τ2 → τ3 → τ4 → Prop} {R1 : τ0 → τ1 → τ2 → τ3 → τ4 → Prop} {R2 : τ0 → τ1 → τ2 → τ3 → τ4 → Prop} {Φ : Value → List (Addr × Obj) → Prop} (h : ∀ a b c d e, (R0 a b c d e) → (R1 a b c d e) → (R2 a b c d e) → Φ (V a b c d e) (W a b c d e)) : ∀ v nw, (∃ a b c d e, v = (V a b c d e) ∧ nw = (W a b c d e) ∧ (R0 a b c d e) ∧ (R1 a b c d e) ∧ (R2 a b c d e)) → Φ v nw := by
  rintro v nw ⟨a, b, c, d, e, rfl, rfl, h0, h1, h2⟩
  exact h a b c d e h0 h1 h2
theorem k5_5 {τ0 : Type} {τ1 : Type} {τ2 : Type} {τ3 : Type} {τ4 : Type} {V : τ0 → τ1 → τ2 → τ3 → τ4 → Value} {W : τ0 → τ1 → τ2 → τ3 → τ4 → List (Addr × Obj)} {R0 : τ0 → τ1 → τ2 → τ3 → τ4 → Prop} {R1 : τ0 → τ1 → τ2 → τ3 → τ4 → Prop} {R2 : τ0 → τ1 → τ2 → τ3 → τ4 → Prop} {R3 : τ0 → τ1 → τ2 → τ3 → τ4 → Prop} {R4 : τ0 → τ1 → τ2 → τ3 → τ4 → Prop} {Φ : Value → List (Addr × Obj) → Prop} (h : ∀ a b c d e, (R0 a b c d e) → (R1 a b c d e) → (R2 a b c d e) → (R3 a b c d e) → (R4 a b c d e) → Φ (V a b c d e) (W a b c d e)) : ∀ v nw, (∃ a b c d e, v = (V a b c d e) ∧ nw = (W a b c d e) ∧ (R0 a b c d e) ∧ (R1 a b c d e) ∧ (R2 a b c d e) ∧ (R3 a b c d e) ∧ (R4 a b c d e)) → Φ v nw := by
  rintro v nw ⟨a, b, c, d, e, rfl, rfl, h0, h1, h2, h3, h4⟩
  exact h a b c d e h0 h1 h2 h3 h4
theorem k7_2 {τ0 : Type} {τ1 : Type} {τ2 : Type} {τ3 : Type} {τ4 : Type} {τ5 : Type} {τ6 : Type} {V : τ0 → τ1 → τ2 → τ3 → τ4 → τ5 → τ6 → Value} {W : τ0 → τ1 → τ2 → τ3 → τ4 → τ5 → τ6 → List (Addr × Obj)} {R0 : τ0 → τ1 → τ2 → τ3 → τ4 → τ5 → τ6 → Prop} {R1 : τ0 → τ1 → τ2 → τ3 → τ4 → τ5 → τ6 → Prop} {Φ : Value → List (Addr × Obj) → Prop} (h : ∀ a b c d e f g, (R0 a b c d e f g) → (R1 a b c d e f g) → Φ (V a b c d e f g) (W a b c d e f g)) : ∀ v nw, (∃ a b c d e f g, v = (V a b c d e f g) ∧ nw = (W a b c d e f g) ∧ (R0 a b c d e f g) ∧ (R1 a b c d e f g)) → Φ v nw := by
  rintro v nw ⟨a, b, c, d, e, f, g, rfl, rfl, h0, h1⟩
  exact h a b c d e f g h0 h1
theorem k8_2 {τ0 : Type} {τ1 : Type} {τ2 : Type} {τ3 : Type} {τ4 : Type} {τ5 : Type} {τ6 : Type} {τ7 : Type} {V : τ0 → τ1 → τ2 → τ3 → τ4 → τ5 → τ6 → τ7 → Value} {W : τ0 → τ1 → τ2 → τ3 → τ4 → τ5 → τ6 → τ7 → List (Addr × Obj)} {R0 : τ0 → τ1 → τ2 → τ3 → τ4 → τ5 → τ6 → τ7 → Prop} {R1 : τ0 → τ1 → τ2 → τ3 → τ4 → τ5 → τ6 → τ7 → Prop} {Φ : Value → List (Addr × Obj) → Prop} (h : ∀ a b c d e f g i, (R0 a b c d e f g i) → (R1 a b c d e f g i) → Φ (V a b c d e f g i) (W a b c d e f g i)) : ∀ v nw, (∃ a b c d e f g i, v = (V a b c d e f g i) ∧ nw = (W a b c d e f g i) ∧ (R0 a b c d e f g i) ∧ (R1 a b c d e f g i)) → Φ v nw := by
  rintro v nw ⟨a, b, c, d, e, f, g, i, rfl, rfl, h0, h1⟩
  exact h a b c d e f g i h0 h1

theorem lt_tr2 {a m b : Nat} (h2 : m < b) (h1 : a < m) : a < b := Nat.lt_trans h1 h2
/-- the names of a frame as letters -/
theorem letEA {M : Model} {A : Around} {s : Shared} {Q : Flow → Shared → Prop} {E : Value → Shared → Prop} {env : Env} {b : List Stmt} (h : let e9 := env; let A9 := A; wpAny M A9 (execs b e9) Q E s) : wpAny M A (execs b env) Q E s := h
theorem letM {h₀ h : Heap} {L : Addr} {m : Str → Option Value} {G : Prop} (F : Fr h₀ L h m) (k : let M0 := m; Fr h₀ L h M0 → G) : G := k F
theorem fm {α : Type} {p : α → Prop} {a : α} {l : List α} (h1 : p a) (h2 : ∀ x ∈ l, p x) : ∀ x ∈ a :: l, p x
  | _, .head _ => h1
  | x, .tail _ h => h2 x h
theorem fm0 {α : Type} {p : α → Prop} : ∀ x ∈ ([] : List α), p x := fun _ h => nomatch h
theorem ms1 {n i : Nat} (h : i < n) : n - (i + 1) < n - i := by omega
theorem ms2 {n i : Nat} (h : i + 1 < n) : n - (i + 1 + 1) < n - i := by omega
theorem fmem {α : Type} {p : α → Prop} {l : List α} (h : ∀ x ∈ l, p x) {x : α} (hx : x ∈ l) : p x := h x hx
theorem news_app {h₀ h : Heap} {L : Addr} {x a b c : Addr × Obj} {Z W : List (Addr × Obj)} (N : News h₀ L h (x :: a :: b :: c :: (Z ++ W))) : News h₀ L h (a :: b :: c :: (Z ++ (W ++ [x]))) :=
  kst_newsOf N (fm (.tail _ (.head _)) (fm (.tail _ (.tail _ (.head _))) (fm (.tail _ (.tail _ (.tail _ (.head _)))) fun q hq => (List.mem_append.mp hq).elim (fun h => .tail _ (.tail _ (.tail _ (.tail _ (List.mem_append_left _ h))))) fun h => (List.mem_append.mp h).elim (fun h => .tail _ (.tail _ (.tail _ (.tail _ (List.mem_append_right _ h))))) fun h => by rw [List.mem_singleton.mp h]; exact .head _)))
end Mine
end
open PySem PySem.W PyProof.Rows PyProof.V PySem.Spec PySem.SeqAt in
local macro_rules | `(tactic| omega) => `(tactic| lia)
open PySem PySem.W PyProof.Rows PyProof.V PySem.Spec PySem.SeqAt in
local macro_rules | `(tactic| omega) => `(tactic| first | with_reducible exact Mine.ms1 (by assumption) | with_reducible exact Mine.ms1 (Nat.lt_succ_of_le (by assumption)) | with_reducible exact Nat.le_trans (by assumption) (by decide) | fail)
open PySem PySem.W PyProof.Rows PyProof.V PySem.Spec PySem.SeqAt in
local macro_rules | `(tactic| k_mem) => `(tactic| assumption)
open PySem PySem.W PyProof.Rows PyProof.V PySem.Spec PySem.SeqAt in
local macro_rules | `(tactic| k_all) => `(tactic| first | assumption | exact Mine.allNe_all (by assumption) | exact Mine.allNe_lt (by assumption) | exact Mine.allNe_lt (And.right (by assumption)) | exact Mine.allNe_lt (And.right (And.right (by assumption))) | exact Mine.allNe_lt (And.right (And.right (And.right (by assumption)))) | exact Mine.allNe_lt (And.right (And.right (And.right (And.right (by assumption))))) | exact Mine.allNe_lt (And.right (And.right (And.right (And.right (And.right (by assumption)))))) | exact Mine.allNe_lt (And.right (And.right (And.right (And.right (And.right (And.right (by assumption))))))) | exact Mine.allNe_lt (And.right (And.right (And.right (And.right (And.right (And.right (And.right (by assumption)))))))) | exact Mine.allNe_lt (And.right (And.right (And.right (And.right (And.right (And.right (And.right (And.right (by assumption))))))))) | exact Mine.allNe_lt (And.right (And.right (And.right (And.right (And.right (And.right (And.right (And.right (And.right (by assumption)))))))))) | exact Mine.allNe_lt (And.right (And.right (And.right (And.right (And.right (And.right (And.right (And.right (And.right (And.right (by assumption))))))))))) | exact Mine.allNe_lt (And.right (And.right (And.right (And.right (And.right (And.right (And.right (And.right (And.right (And.right (And.right (by assumption)))))))))))) | exact Mine.allNe_lt (And.right (And.right (And.right (And.right (And.right (And.right (And.right (And.right (And.right (And.right (And.right (And.right (by assumption))))))))))))) | exact Mine.allNe_lt (And.right (And.right (And.right (And.right (And.right (And.right (And.right (And.right (And.right (And.right (And.right (And.right (And.right (by assumption)))))))))))))) | exact Mine.allNe_lt (And.right (And.right (And.right (And.right (And.right (And.right (And.right (And.right (And.right (And.right (And.right (And.right (And.right (And.right (by assumption))))))))))))))) | exact Mine.allNe_lt (And.right (And.right (And.right (And.right (And.right (And.right (And.right (And.right (And.right (And.right (And.right (And.right (And.right (And.right (And.right (by assumption)))))))))))))))))
open PySem PySem.W PyProof.Rows PyProof.V PySem.Spec PySem.SeqAt in
local macro_rules | `(tactic| size_fits) => `(tactic| (simp only [List.size_toArray, List.length_map, List.length_append, List.length_cons, List.length_nil, List.length_drop, List.length_take, sizeLine_eq] <;> omega))
open PySem PySem.W PyProof.Rows PyProof.V PySem.Spec PySem.SeqAt in
local macro_rules | `(tactic| k_room) => `(tactic| ktr_room)
set_option hygiene false in
local macro_rules | `(tactic| ktr_units) => `(tactic| (first | (dsimp only [A9]; ktr_units) | fail "A9"))
set_option hygiene false in
local macro_rules | `(tactic| ktr_room) => `(tactic| (first | (dsimp only [A9]; ktr_room) | fail "A9"))
section
open PySem PySem.W PyProof.Rows
set_option maxRecDepth 100000
namespace Mine

/-- the calls' row of a name -/
structure Par where
  rows : Str → List Str
  limit : Int
  step : Int
  fee : Int

def isName (w : Str) : Prop := w = Str.ofString "7" ∨ w = Str.ofString "70" ∨ w = Str.ofString "17"

structure Par.Ok (P : Par) : Prop where
  step : 1 ≤ P.step
  fee : 0 ≤ P.fee
  rows : ∀ w, 1 ≤ (P.rows w).length ∧ (P.rows w).length ≤ 3
  names : ∀ w, ∀ v ∈ P.rows w, isName v

def rot {α : Type} (b : Int) (ws : List α) : List α := if b % 2 = 1 then ws.drop 1 ++ ws.take 1 else ws
/-- what is taken (the first where `en` is 0, else the last) and what is left -/
def popW {α : Type} (en : Int) (ws : List α) : Option (α × List α) :=
  if en = 0 then (match ws with | [] => none | a :: r => some (a, r)) else (ws.getLast?.map fun a => (a, ws.dropLast))

inductive Runs (P : Par) (en : Int) : List Str → Int → Int → Int → List (Str × Int) → Prop
  | nil (x b : Int) : Runs P en [] x b x []
  | pop {ws : List Str} {x b r : Int} {tk : List (Str × Int)} {w : Str} {rest : List Str} : ws ≠ [] → popW en (rot b ws) = some (w, rest) → x > P.limit → Runs P en rest (x - P.fee) (b / 2) r tk → Runs P en ws x b r ((w, x) :: tk)
  | unf {ws : List Str} {x b r : Int} {tk : List (Str × Int)} {w : Str} {rest : List Str} : ws ≠ [] → popW en (rot b ws) = some (w, rest) → ¬ x > P.limit →
      Runs P en (rest ++ P.rows w) (x + (P.step + (((P.rows w).length : Int) - 1) * P.fee)) (b / 2) r tk → Runs P en ws x b r ((w, x) :: tk)

theorem Runs.det {P : Par} {en : Int} {ws : List Str} {x b r : Int} {tk : List (Str × Int)} (h : Runs P en ws x b r tk) : ∀ {r' : Int} {tk' : List (Str × Int)}, Runs P en ws x b r' tk' → r = r' ∧ tk = tk' := by
  induction h with
  | nil x b =>
    intro r' tk' h'
    cases h' with
    | nil => exact ⟨rfl, rfl⟩
    | pop h => exact absurd rfl h
    | unf h => exact absurd rfl h
  | pop hne hp hx _ ih =>
    intro r' tk' h'
    cases h' with
    | nil => exact absurd rfl hne
    | pop _ hp' _ h2 =>
      rw [hp] at hp'
      cases hp'
      obtain ⟨rfl, rfl⟩ := ih h2
      exact ⟨rfl, rfl⟩
    | unf _ _ hx' => exact absurd hx hx'
  | unf hne hp hx _ ih =>
    intro r' tk' h'
    cases h' with
    | nil => exact absurd rfl hne
    | pop _ _ hx' => exact absurd hx' hx
    | unf _ hp' _ h2 =>
      rw [hp] at hp'
      cases hp'
      obtain ⟨rfl, rfl⟩ := ih h2
      exact ⟨rfl, rfl⟩

/-- unfoldings that are left, of x less the fee of each that waits -/
def Par.left (P : Par) (y : Int) : Nat := if P.limit - P.fee < y then 0 else ((P.limit - P.fee - y) / P.step + 1).toNat
def Par.meas (P : Par) (n : Nat) (x : Int) : Nat := n + 3 * P.left (x - n * P.fee)

theorem rot_length {α : Type} (b : Int) (ws : List α) : (rot b ws).length = ws.length := by
  unfold rot
  split
  · rw [List.length_append, List.length_drop, List.length_take]
    omega
  · rfl
theorem popW_some {α : Type} (en : Int) {ws : List α} (h : ws ≠ []) : ∃ a r, popW en ws = some (a, r) ∧ r.length + 1 = ws.length ∧ a ∈ ws ∧ ∀ x ∈ r, x ∈ ws := by
  unfold popW
  split
  · cases ws with
    | nil => exact absurd rfl h
    | cons a r => exact ⟨a, r, rfl, rfl, .head _, fun x hx => .tail _ hx⟩
  · refine ⟨ws.getLast h, ws.dropLast, ?_, ?_, List.getLast_mem h, fun x hx => List.dropLast_subset _ hx⟩
    · rw [List.getLast?_eq_some_getLast h]; rfl
    · rw [List.length_dropLast]
      have := List.length_pos_iff.mpr h
      omega
theorem rot_map {α β : Type} (f : α → β) (b : Int) (ws : List α) : rot b (ws.map f) = (rot b ws).map f := by
  unfold rot
  split
  · rw [List.map_append, List.map_drop, List.map_take]
  · rfl
theorem popW_map {α β : Type} (f : α → β) (en : Int) {ws : List α} {a : α} {r : List α} (h : popW en ws = some (a, r)) : popW en (ws.map f) = some (f a, r.map f) := by
  unfold popW at h ⊢
  split at h
  · rename_i he
    rw [if_pos he]
    cases ws with
    | nil => cases h
    | cons x y => cases h; rfl
  · rename_i he
    rw [if_neg he]
    cases hl : ws.getLast? with
    | none => rw [hl] at h; cases h
    | some l =>
      rw [hl] at h
      cases h
      rw [List.getLast?_map, hl, List.map_dropLast]
      rfl

theorem Par.meas_pop (P : Par) (n : Nat) (x : Int) : P.meas n (x - P.fee) < P.meas (n + 1) x := by
  unfold Par.meas
  have e : x - P.fee - (n : Int) * P.fee = x - ((n + 1 : Nat) : Int) * P.fee := by
    rw [Int.natCast_add, Int.add_mul]
    omega
  rw [e]
  omega
theorem Par.left_step {P : Par} (hP : P.Ok) {y : Int} (h : y ≤ P.limit - P.fee) : P.left (y + P.step) + 1 = P.left y := by
  unfold Par.left
  have hs := hP.step
  rw [if_neg (by omega : ¬ P.limit - P.fee < y)]
  split
  · rename_i h2
    have : (P.limit - P.fee - y) / P.step = 0 := Int.ediv_eq_zero_of_lt (by omega) (by omega)
    rw [this]
    rfl
  · rename_i h2
    have e : P.limit - P.fee - y = P.limit - P.fee - (y + P.step) + 1 * P.step := by omega
    rw [e, Int.add_mul_ediv_right _ _ (by omega)]
    have : 0 ≤ (P.limit - P.fee - (y + P.step)) / P.step := Int.ediv_nonneg (by omega) (by omega)
    omega
theorem Par.meas_unf {P : Par} (hP : P.Ok) {n k : Nat} {x : Int} (hx : ¬ x > P.limit) (h1 : 1 ≤ k) (h3 : k ≤ 3) : P.meas (n + k) (x + (P.step + ((k : Int) - 1) * P.fee)) < P.meas (n + 1) x := by
  unfold Par.meas
  have e : x + (P.step + ((k : Int) - 1) * P.fee) - ((n + k : Nat) : Int) * P.fee = (x - ((n + 1 : Nat) : Int) * P.fee) + P.step := by
    rw [Int.natCast_add, Int.natCast_add, Int.add_mul, Int.add_mul, Int.sub_mul]
    omega
  have hf := hP.fee
  have hle : x - ((n + 1 : Nat) : Int) * P.fee ≤ P.limit - P.fee := by
    rw [Int.natCast_add, Int.add_mul]
    have : 0 ≤ (n : Int) * P.fee := Int.mul_nonneg (by omega) hf
    omega
  have := Par.left_step hP hle
  rw [e]
  omega

theorem kl_cut_at : ∀ (p : List Value) (y : Value) (q : List Value), kl_cut (p ++ y :: q) p.length = some (p, y, q)
  | [], _, _ => rfl
  | x :: p, y, q => by
    show (match kl_cut (p ++ y :: q) p.length with | some (p', y', q') => some (x :: p', y', q') | none => none) = _
    rw [kl_cut_at p y q]

section
variable {prog : Program} {w : World} {A : Around} {E : Value → Shared → Prop} {s : Shared} {h₀ : Heap} {L : Addr} {m : Str → Option Value} {news news' : List (Addr × Obj)}
theorem pop_K {D : Addr} {ws rest : List (Str × Tok)} {y : Str × Tok} {n : Nat} {en : Int} {u : Tok} {Q : Value → Shared → Prop} (F : Fr h₀ L s.heap m) (N : News h₀ L s.heap news) (hen : en = 0 ∨ en = -1)
    (hp : popW en ws = some (y, rest)) (hl : ws.length ≤ 100) (U : Upd D (listOf (svs ws).toArray n) (listOf (svs rest).toArray (n + 1)) news news')
    (h : ∀ h', Fr h₀ L h' m → News h₀ L h' news' → Q (sv y) { s with heap := h' }) : wpAny (model prog w) A (call (.builtin "list.pop") [.ref D, .int en u]) Q E s := by
  have hz : (svs ws).toArray.toList.length ≤ sizeLine := by rw [sizeLine_eq]; simp; omega
  rcases hen with rfl | rfl
  · cases ws with
    | nil => simp [popW] at hp
    | cons a r =>
      simp only [popW, if_true, Option.some.injEq, Prod.mk.injEq] at hp
      obtain ⟨rfl, rfl⟩ := hp
      exact kl_popAt (k := 0) (p := []) (q := svs r) F N (by decide) (by simp [seqIndex?]) rfl U hz h
  · have hne : ws ≠ [] := by rintro rfl; simp [popW] at hp
    unfold popW at hp
    rw [if_neg (by decide), List.getLast?_eq_some_getLast hne] at hp
    simp only [Option.map_some, Option.some.injEq, Prod.mk.injEq] at hp
    obtain ⟨rfl, rfl⟩ := hp
    have e : svs ws = svs ws.dropLast ++ sv (ws.getLast hne) :: [] := by
      conv => lhs; rw [← List.dropLast_concat_getLast hne]
      simp
    have hlen : (svs ws).toArray.size = ws.length := by simp
    have hpos := List.length_pos_iff.mpr hne
    refine kl_popAt (n := n) (k := (svs ws.dropLast).length) (p := svs ws.dropLast) (q := []) F N (by decide) ?_ ?_ ?_ hz h
    · rw [hlen]
      simp only [seqIndex?, List.length_map, List.length_dropLast]
      rw [if_pos (show (-1 : Int) < 0 by decide), if_pos (by simp; omega)]
      congr 1
      omega
    · show kl_cut (svs ws) _ = _
      rw [e]
      exact kl_cut_at _ _ _
    · rw [List.append_nil]
      exact U
end

structure PSt where
  W : Addr
  n : Nat
  ws : List (Str × Tok)
  zs : List Tk
  tc : Nat
  x : Int
  tx : Tok
  b : Int
  tb : Tok

def PSt.led (T : Addr) (Z : List (Addr × Obj)) (c : PSt) : List (Addr × Obj) := (T, listOf (tkRefs c.zs).toArray c.tc) :: (c.W, listOf (svs c.ws).toArray c.n) :: (tkLed c.zs ++ Z)
def PSt.ps (c : PSt) : List (Str × Value) := [("waiting", .ref c.W), ("x", .int c.x c.tx), ("bits", .int c.b c.tb)]
structure PSt.Facts (T : Addr) (Z : List (Addr × Obj)) (c : PSt) : Prop where
  ne : c.W ≠ T
  hW : ∀ p ∈ tkLed c.zs ++ Z, p.1 ≠ c.W
  hT : ∀ p ∈ tkLed c.zs ++ Z, p.1 ≠ T
  names : ∀ w ∈ c.ws, isName w.1
def PSt.inv (P : Par) (en : Int) (ws₀ : List Str) (x₀ b₀ : Int) (c : PSt) : Prop :=
  c.zs.length + P.meas c.ws.length c.x ≤ 100 ∧ ∀ r tk, Runs P en (wds c.ws) c.x c.b r tk → Runs P en ws₀ x₀ b₀ r (tkDat c.zs ++ tk)

theorem facts_push {T D : Addr} {Z : List (Addr × Obj)} {zs : List Tk} {n tc : Nat} {ws : List (Str × Tok)} {x b : Int} {tx tb : Tok} (e : Tk) (hD : D ≠ T) (hW : ∀ p ∈ tkLed zs ++ Z, p.1 ≠ D) (hT : ∀ p ∈ tkLed zs ++ Z, p.1 ≠ T)
    (h1 : e.a ≠ D) (h2 : e.a ≠ T) (hn : ∀ w ∈ ws, isName w.1) : PSt.Facts T Z ⟨D, n, ws, zs ++ [e], tc, x, tx, b, tb⟩ := by
  have key : ∀ (B : Addr), (∀ p ∈ tkLed zs ++ Z, p.1 ≠ B) → e.a ≠ B → ∀ p ∈ tkLed (zs ++ [e]) ++ Z, p.1 ≠ B := by
    intro B hB h p hp
    simp only [tkLed, List.map_append, List.map_cons, List.map_nil, List.append_assoc, List.mem_append, List.mem_cons, List.not_mem_nil, or_false, List.cons_append, List.nil_append] at hp hB
    rcases hp with hp | rfl | hp
    · exact hB p (.inl hp)
    · exact h
    · exact hB p (.inr hp)
  exact ⟨hD, key D hW h1, key T hT h2, hn⟩
theorem led_push {T D : Addr} {Z news : List (Addr × Obj)} {zs : List Tk} {n tc : Nat} {ws : List (Str × Tok)} {x b : Int} {tx tb : Tok} (e : Tk) (h1 : (T, listOf ((tkRefs zs).toArray.push (.ref e.a)) tc) ∈ news) (h2 : (D, listOf (svs ws).toArray n) ∈ news)
    (h3 : (e.a, listOf [Value.str e.w e.tw, Value.int e.x e.tx].toArray e.c) ∈ news) (h4 : ∀ p ∈ tkLed zs ++ Z, p ∈ news) : ∀ p ∈ PSt.led T Z ⟨D, n, ws, zs ++ [e], tc, x, tx, b, tb⟩, p ∈ news := by
  intro p hp
  simp only [PSt.led, tkLed, List.map_append, List.map_cons, List.map_nil, List.append_assoc, List.mem_append, List.mem_cons, List.not_mem_nil, or_false, List.cons_append, List.nil_append] at hp
  rcases hp with rfl | rfl | hp | rfl | hp
  · simpa [tkRefs] using h1
  · exact h2
  · exact h4 p (List.mem_append_left _ hp)
  · exact h3
  · exact h4 p (List.mem_append_right _ hp)

theorem inv_pop {P : Par} {en : Int} {ws₀ : List Str} {x₀ b₀ : Int} {c : PSt} {D l : Addr} {n tc k : Nat} {y : Str × Tok} {rest : List (Str × Tok)} {t t' : Tok} (hI : PSt.inv P en ws₀ x₀ b₀ c) (hne : c.ws ≠ []) (hp : popW en (rot c.b c.ws) = some (y, rest))
    (hl : rest.length + 1 = c.ws.length) (hx : P.limit < c.x) :
    PSt.inv P en ws₀ x₀ b₀ ⟨D, n, rest, c.zs ++ [⟨l, k, y.1, y.2, c.x, c.tx⟩], tc, c.x - P.fee, t, c.b.fdiv 2, t'⟩ ∧ P.meas rest.length (c.x - P.fee) < P.meas c.ws.length c.x := by
  have hm : P.meas rest.length (c.x - P.fee) < P.meas c.ws.length c.x := by rw [← hl]; exact P.meas_pop _ _
  refine ⟨⟨?_, ?_⟩, hm⟩
  · have := hI.1
    simp only [List.length_append, List.length_cons, List.length_nil]
    omega
  · intro r tk h
    have h' := hI.2 r ((y.1, c.x) :: tk) (.pop (by simpa using hne) (by rw [rot_map]; exact popW_map _ _ hp) hx (by rw [← Int.fdiv_eq_ediv_of_nonneg _ (by omega)]; exact h))
    simpa [tkDat] using h'
theorem inv_unf {P : Par} (hP : P.Ok) {en : Int} {ws₀ : List Str} {x₀ b₀ : Int} {c : PSt} {D l : Addr} {n tc k : Nat} {y : Str × Tok} {rest rr : List (Str × Tok)} {t t' : Tok} (hI : PSt.inv P en ws₀ x₀ b₀ c) (hne : c.ws ≠ []) (hp : popW en (rot c.b c.ws) = some (y, rest))
    (hl : rest.length + 1 = c.ws.length) (hx : ¬ P.limit < c.x) (hr : wds rr = P.rows y.1) :
    PSt.inv P en ws₀ x₀ b₀ ⟨D, n, rest ++ rr, c.zs ++ [⟨l, k, y.1, y.2, c.x, c.tx⟩], tc, c.x + (P.step + ((rr.length : Int) - 1) * P.fee), t, c.b.fdiv 2, t'⟩ ∧
      P.meas (rest ++ rr).length (c.x + (P.step + ((rr.length : Int) - 1) * P.fee)) < P.meas c.ws.length c.x := by
  have hrl : (P.rows y.1).length = rr.length := by rw [← hr]; simp
  have h13 := hP.rows y.1
  rw [hrl] at h13
  have hm : P.meas (rest ++ rr).length (c.x + (P.step + ((rr.length : Int) - 1) * P.fee)) < P.meas c.ws.length c.x := by
    rw [← hl, List.length_append]
    exact P.meas_unf hP hx h13.1 h13.2
  refine ⟨⟨?_, ?_⟩, hm⟩
  · have := hI.1
    simp only [List.length_append, List.length_cons, List.length_nil] at hm ⊢
    omega
  · intro r tk h
    have h' := hI.2 r ((y.1, c.x) :: tk) (.unf (by simpa using hne) (by rw [rot_map]; exact popW_map _ _ hp) hx (by
      rw [← Int.fdiv_eq_ediv_of_nonneg _ (by omega), hrl, ← hr]
      simpa using h))
    simpa [tkDat] using h'

def PlainPost (Z : List (Addr × Obj)) (P : Par) (en : Int) (ws₀ : List Str) (x₀ b₀ : Int) (v : Value) (news' : List (Addr × Obj)) : Prop :=
  ∃ D c T tc zs x tx, v = .ref D ∧ news' = (D, listOf [Value.int x tx, Value.ref T].toArray c) :: (T, listOf (tkRefs zs).toArray tc) :: (tkLed zs ++ Z) ∧ zs.length ≤ 100 ∧ Runs P en ws₀ x₀ b₀ x (tkDat zs)

end Mine
end
section
open PySem PySem.W PyProof.Rows PyProof.V PySem.Spec PySem.SeqAt
set_option maxRecDepth 100000
namespace Mine
section
variable {prog : Program} {w : World} {A : Around} {E : Value → Shared → Prop} {s : Shared} {env : Env} {h₀ : Heap} {L : Addr}

theorem For_gen {Q : Flow → Shared → Prop} {x : Str} {px : Pos} {body : List Stmt} {it : Value} {m : Str → Option Value} {news : List (Addr × Obj)} (J : Nat → (Str → Option Value) → List (Addr × Obj) → Prop) {n₀ : Nat}
    (F : Fr h₀ L s.heap m) (N : News h₀ L s.heap news) (hJ : J n₀ m news)
    (turn : ∀ n m₁ news₁ h₁ tk₁, Fr h₀ L h₁ m₁ → News h₀ L h₁ news₁ → J n m₁ news₁ →
      wpAny (model prog w) A (pyNext it) (fun r s₁ => match r with
        | none => Q .next s₁
        | some v => wpAny (model prog w) A (storeName env x v) (fun _ s₂ => wpAny (model prog w) A (execs body env) (WhileStep2 h₀ L s J Q n) E s₂) E s₁) E { s with heap := h₁, toks := tk₁ })
    (hE : PassesOwn (model prog w) A env E := by passes_own) :
    codeAny (model prog w) A (.forLoop (.Name x px) it body [] env) (fun r s' => match r with | .ok f => Q f s' | .error e => cameBackBy (model prog w) A env E e s') s := by
  refine codeAny_forLoop (fun n s' => ∃ h₁ tk₁ m₁ news₁, s' = { s with heap := h₁, toks := tk₁ } ∧ Fr h₀ L h₁ m₁ ∧ News h₀ L h₁ news₁ ∧ J n m₁ news₁) ?_ n₀ ⟨s.heap, s.toks, m, news, rfl, F, N, hJ⟩
  rintro n s' ⟨h₁, tk₁, m₁, news₁, rfl, F₁, N₁, J₁⟩
  refine wpAny_mono (turn n m₁ news₁ h₁ tk₁ F₁ N₁ J₁) (fun r s₁ hr => ?_) hE
  cases r with
  | none => exact wpAny_execs_nil hr
  | some v =>
    refine wpAny_assign_Name (wpAny_mono hr (fun _ s₂ h₂ => ?_) hE)
    refine wpAny_mono h₂ (fun f s₃ h₃ => ?_) hE
    cases f with
    | next =>
      obtain ⟨h', tk, m₂, news₂, n', rfl, F₂, N₂, hn, J₂⟩ := h₃
      exact ⟨n', hn, h', tk, m₂, news₂, rfl, F₂, N₂, J₂⟩
    | cont =>
      obtain ⟨h', tk, m₂, news₂, n', rfl, F₂, N₂, hn, J₂⟩ := h₃
      exact ⟨n', hn, h', tk, m₂, news₂, rfl, F₂, N₂, J₂⟩
    | brk => exact h₃
    | ret v => exact h₃

theorem For_ksw {σ : Type} {Q : Flow → Shared → Prop} {x : Str} {px : Pos} {body : List Stmt} {it : Value} {m₀ : Str → Option Value} (Led : σ → List (Addr × Obj)) (ps : σ → List (Str × Value)) (Facts : σ → Prop) (stored : List Str) (P : σ → Prop) (μ : σ → Nat) (c₀ : σ)
    (F : Fr h₀ L s.heap m₀) (N : News h₀ L s.heap (Led c₀)) (hf : Facts c₀) (hk : ∀ p ∈ ps c₀, m₀ p.1 = some p.2) (hp : P c₀)
    (turn : ∀ (c : σ) (u : Str → Option Value) h tk, Facts c → P c → Fr h₀ L h (kstB (fun z => if stored.contains z then u z else m₀ z) (ps c)) → News h₀ L h (Led c) →
      wpAny (model prog w) A (pyNext it) (fun r s₁ => match r with
        | none => Q .next s₁
        | some v => wpAny (model prog w) A (storeName env x v) (fun _ s₂ => wpAny (model prog w) A (execs body env) (KswPost h₀ L s Led ps Facts stored m₀ P μ Q c) E s₂) E s₁) E { s with heap := h, toks := tk })
    (hE : PassesOwn (model prog w) A env E := by passes_own) :
    codeAny (model prog w) A (.forLoop (.Name x px) it body [] env) (fun r s' => match r with | .ok f => Q f s' | .error e => cameBackBy (model prog w) A env E e s') s := by
  refine For_gen (fun n m nx => ∃ c : σ, nx = Led c ∧ μ c = n ∧ Facts c ∧ (∀ p ∈ ps c, m p.1 = some p.2) ∧ (∀ z, (∀ p ∈ ps c, z ≠ p.1) → stored.contains z = false → m z = m₀ z) ∧ P c) F N ⟨c₀, rfl, rfl, hf, hk, fun _ _ _ => rfl, hp⟩ ?_ hE
  rintro n m₁ nx h tk F₁ N₁ ⟨c, hnx, hsz, hf', h1, h2, hp'⟩
  rw [hnx] at N₁
  rw [← hsz]
  refine wpAny_mono (turn c m₁ h tk hf' hp' (ksw_fr h1 h2 F₁) N₁) (fun r s₂ p => ?_) fun _ _ x => x
  cases r with
  | none => exact p
  | some v =>
    refine wpAny_mono p (fun _ s₃ q => wpAny_mono q (fun f s₄ q => ?_) fun _ _ x => x) fun _ _ x => x
    cases f with
    | ret v => exact q
    | brk => exact q
    | next =>
      obtain ⟨c', h', tk', m', news', rfl, F', N', hn, hf9, hk9, hr9, hp9, hm9⟩ := q
      exact ⟨h', tk', m', Led c', μ c', rfl, F', fun p hp => N' p (hn p hp), hm9, c', rfl, rfl, hf9, hk9, hr9, hp9⟩
    | cont =>
      obtain ⟨c', h', tk', m', news', rfl, F', N', hn, hf9, hk9, hr9, hp9, hm9⟩ := q
      exact ⟨h', tk', m', Led c', μ c', rfl, F', fun p hp => N' p (hn p hp), hm9, c', rfl, rfl, hf9, hk9, hr9, hp9⟩

theorem while_g {σ : Type} {Q : Flow → Shared → Prop} {test : PySem.Expr} {body : List Stmt} {pos : Pos} {m₀ : Str → Option Value} (Led : σ → List (Addr × Obj)) (ps : σ → List (Str × Value)) (Facts : σ → Prop) (stored : List Str) (P : σ → Prop) (μ : σ → Nat) (c₀ : σ)
    (F : Fr h₀ L s.heap m₀) (N : News h₀ L s.heap (Led c₀)) (hf : Facts c₀) (hk : ∀ p ∈ ps c₀, m₀ p.1 = some p.2) (hp : P c₀)
    (turn : ∀ (c : σ) (u : Str → Option Value) h tk (QB : Flow → Shared → Prop), (∀ f s₂, KswPost h₀ L s Led ps Facts stored m₀ P μ Q c f s₂ → QB f s₂) → Facts c → P c → Fr h₀ L h (kstB (fun z => if stored.contains z then u z else m₀ z) (ps c)) → News h₀ L h (Led c) →
      wpAny (model prog w) A (isTrue test env (eval test env)) (fun b s₂ =>
        if b = true then wpAny (model prog w) A (execs body env) QB E s₂ else Q .next s₂) E { s with heap := h, toks := tk })
    (hE : PassesOwn (model prog w) A env E := by passes_own) :
    wpAny (model prog w) A (exec (.While test body [] pos) env) Q E s :=
  ksw_while Led ps Facts stored P μ c₀ F N hf hk hp (fun c u h tk a b c d => turn _ u h tk _ (fun _ _ x => x) a b c d) hE
theorem For_g {σ : Type} {Q : Flow → Shared → Prop} {x : Str} {px : Pos} {body : List Stmt} {it : Value} {m₀ : Str → Option Value} (Led : σ → List (Addr × Obj)) (ps : σ → List (Str × Value)) (Facts : σ → Prop) (stored : List Str) (P : σ → Prop) (μ : σ → Nat) (c₀ : σ)
    (F : Fr h₀ L s.heap m₀) (N : News h₀ L s.heap (Led c₀)) (hf : Facts c₀) (hk : ∀ p ∈ ps c₀, m₀ p.1 = some p.2) (hp : P c₀)
    (turn : ∀ (c : σ) (u : Str → Option Value) h tk (QB : Flow → Shared → Prop), (∀ f s₂, KswPost h₀ L s Led ps Facts stored m₀ P μ Q c f s₂ → QB f s₂) → Facts c → P c → Fr h₀ L h (kstB (fun z => if stored.contains z then u z else m₀ z) (ps c)) → News h₀ L h (Led c) →
      wpAny (model prog w) A (pyNext it) (fun r s₁ => match r with
        | none => Q .next s₁
        | some v => wpAny (model prog w) A (storeName env x v) (fun _ s₂ => wpAny (model prog w) A (execs body env) QB E s₂) E s₁) E { s with heap := h, toks := tk })
    (hE : PassesOwn (model prog w) A env E := by passes_own) :
    codeAny (model prog w) A (.forLoop (.Name x px) it body [] env) (fun r s' => match r with | .ok f => Q f s' | .error e => cameBackBy (model prog w) A env E e s') s :=
  For_ksw Led ps Facts stored P μ c₀ F N hf hk hp (fun c u h tk a b c d => turn _ u h tk _ (fun _ _ x => x) a b c d) hE

/-- a statement's ways joined behind it -/
def CEndG (s : Shared) (g : Heap) (L : Addr) {σ : Type} (Led : σ → List (Addr × Obj)) (mp : σ → Str → Option Value) (P : σ → Prop) (f : Flow) (s' : Shared) : Prop :=
  f = .next ∧ ∃ c h' tk', s' = { s with heap := h', toks := tk' } ∧ P c ∧ Fr g L h' (mp c) ∧ News g L h' (Led c)
theorem cutG {M : Model} {A : Around} {t : Sem Flow} {Q : Flow → Shared → Prop} {E : Value → Shared → Prop} {s : Shared} {g h0 : Heap} {L : Addr} {m : Str → Option Value} (_F : Fr g L h0 m) {σ : Type} (Led : σ → List (Addr × Obj)) (mp : σ → Str → Option Value) (P : σ → Prop)
    (h1 : ∀ QB : Flow → Shared → Prop, (∀ f s', CEndG s g L Led mp P f s' → QB f s') → wpAny M A t QB E s)
    (h2 : ∀ c h' tk', P c → Fr g L h' (mp c) → News g L h' (Led c) → Q .next { s with heap := h', toks := tk' }) : wpAny M A t Q E s :=
  wpAny_mono (h1 _ fun _ _ x => x) (by rintro f s' ⟨rfl, c, h', tk', rfl, p, F, N⟩; exact h2 c h' tk' p F N) fun _ _ x => x
theorem cutEnd {s : Shared} {g h' : Heap} {L : Addr} {σ : Type} {Led : σ → List (Addr × Obj)} {mp : σ → Str → Option Value} {P : σ → Prop} {tk' : Nat} {news' : List (Addr × Obj)} (c : σ)
    (p : P c) (F : Fr g L h' (mp c)) (N : News g L h' news') (hn : ∀ q ∈ Led c, q ∈ news') :
    CEndG s g L Led mp P .next { s with heap := h', toks := tk' } := ⟨rfl, c, h', tk', rfl, p, F, kst_newsOf N hn⟩
theorem fr_put {g h : Heap} {L : Addr} {m : Str → Option Value} {x : Str} {v : Value} (e : m x = some v) (F : Fr g L h m) : Fr g L h (fun y => if y = x then some v else m y) := by
  have : (fun y => if y = x then some v else m y) = m := by
    funext y
    by_cases h : y = x
    · rw [if_pos h, h, e]
    · rw [if_neg h]
  rw [this]
  exact F

theorem newsSwap {h : Heap} {a b : Addr × Obj} {Z : List (Addr × Obj)} (N : News h₀ L h (a :: b :: Z)) : News h₀ L h (b :: a :: Z) := kst_newsOf N fun q hq => by
  simp only [List.mem_cons] at hq ⊢
  rcases hq with h | h | h <;> simp [h]

theorem fsame1 {x z : Str} {v : Option Value} {u M : Str → Option Value} (h : [x].contains z = false) : (if z = x then v else if [x].contains z = true then u z else M z) = M z := by
  have hz : z ≠ x := by simpa using h
  rw [if_neg hz, h]
  rfl

/-- a list's iterator at place i -/
def IsIt (l : Addr) (i : Nat) (o : Obj) : Prop := o.cls = .type "list_iterator" ∧ o.data = .fields #[.ref l, .int i 0]

variable {m : Str → Option Value} {news : List (Addr × Obj)}
theorem iter_list {l : Addr} {items : Array Value} {n : Nat} {Q : Value → Shared → Prop} (F : Fr h₀ L s.heap m) (N : News h₀ L s.heap news) (hl : (l, listOf items n) ∈ news)
    (h : ∀ I o h', IsIt l 0 o → Fr h₀ L h' m → News h₀ L h' ((I, o) :: news) → (∀ p ∈ news, p.1 < I) → Q (.ref I) { s with heap := h' }) : wpAny (model prog w) A (pyIter (.ref l)) Q E s := by
  refine wpAny_pyIter_list (News.isList N hl) ?_
  exact h _ _ _ ⟨rfl, rfl⟩ (F.push _) (News.push F N _) (fun p hp => Heap.lt_size (N p hp).1)
theorem next_list {l I : Addr} {i n : Nat} {o : Obj} {items : Array Value} {v : Value} {Q : Option Value → Shared → Prop} (F : Fr h₀ L s.heap m) (N : News h₀ L s.heap ((I, o) :: news)) (hI : IsIt l i o) (hne : ∀ p ∈ news, p.1 ≠ I)
    (hl : (l, listOf items n) ∈ news) (hx : items[i]? = some v) (h : ∀ h' o', IsIt l (i + 1) o' → Fr h₀ L h' m → News h₀ L h' ((I, o') :: news) → Q (some v) { s with heap := h' }) :
    wpAny (model prog w) A (pyNext (.ref I)) Q E s := by
  have z := N _ (.head _)
  refine wpAny_pyNext_list_item (l := l) (i := i) ⟨o, z.1, hI.1, hI.2⟩ (News.isList (fun p hp => N p (.tail _ hp)) hl) hx fun h' hit hs => ?_
  obtain ⟨o', e1, e2, e3⟩ := hit
  refine h h' o' ⟨e2, e3⟩ (F.change hs z.2.1 z.2.2) ?_
  intro p hp
  rcases List.mem_cons.mp hp with rfl | hp
  · exact ⟨e1, z.2⟩
  · have y := N p (.tail _ hp)
    exact ⟨(hs.2 p.1 (hne p hp)).trans y.1, y.2⟩
theorem next_list_end {l I : Addr} {i n : Nat} {o : Obj} {items : Array Value} {Q : Option Value → Shared → Prop} (hh : A.handled = none) (F : Fr h₀ L s.heap m) (N : News h₀ L s.heap ((I, o) :: news)) (hI : IsIt l i o) (hne : ∀ p ∈ news, p.1 ≠ I)
    (hl : (l, listOf items n) ∈ news) (hx : items[i]? = none) (h : ∀ h', Fr h₀ L h' m → News h₀ L h' news → Q none { s with heap := h' }) :
    wpAny (model prog w) A (pyNext (.ref I)) Q E s := by
  have z := N _ (.head _)
  refine wpAny_pyNext_list_end (l := l) (i := i) hh ⟨o, z.1, hI.1, hI.2⟩ (News.isList (fun p hp => N p (.tail _ hp)) hl) hx fun h' hs => ?_
  refine h h' ?_ ?_
  · obtain ⟨oL, es, ep, hL, r⟩ := F.ns
    exact ⟨⟨oL, es, ep, hs _ _ (Ne.symm z.2.1) hL, r⟩, fun b x q => hs b x (fun e => by have := z.2.2; rw [← e, q] at this; cases this) (F.keep b x q), F.above⟩
  · intro p hp
    have y := N p (.tail _ hp)
    exact ⟨hs _ _ (hne p hp) y.1, y.2⟩
end
end Mine
end
section
open PySem PySem.W PyProof.Rows PyProof.V PySem.Spec PySem.SeqAt
set_option maxRecDepth 100000
namespace Mine

/-- an object that holds names -/
def NsO (o : Obj) (m : Str → Option Value) : Prop := ∃ es ep, o.data = .dict es ep ∧ StrKeys es ∧ ∀ name, nsFind es name = m name
theorem NsO.ns {h : Heap} {C : Addr} {o : Obj} {m : Str → Option Value} (n : NsO o m) (e : h.get? C = some o) : h.Ns C m := let ⟨es, ep, a, b, c⟩ := n; ⟨o, es, ep, e, a, b, c⟩

abbrev testsM (ifs : List PySem.Expr) (cenv : Env) : Sem Bool := forIn ifs true fun c r => if r = true then do let ok ← isTrue c cenv (eval c cenv); pure (ForInStep.yield ok) else pure (ForInStep.yield r)

section
variable {prog : Program} {w : World} {A : Around} {E : Value → Shared → Prop} {s : Shared} {env : Env} {h₀ : Heap} {L : Addr} {m : Str → Option Value}

/-- the end of a turn -/
def CEnd (h₀ : Heap) (L : Addr) (m : Str → Option Value) (s : Shared) {σ : Type} (Led : σ → List (Addr × Obj)) (P : σ → List Value → Prop) (μ : σ → Nat) (D C : Addr) (oC : Obj) (n k : Nat) (items items' : List Value) (s₄ : Shared) : Prop :=
  ∃ c' h' tk', s₄ = { s with heap := h', toks := tk' } ∧ Fr h₀ L h' m ∧ News h₀ L h' ((C, oC) :: (D, listOf items.toArray n) :: Led c') ∧ (∀ p ∈ Led c', p.1 ≠ C ∧ p.1 ≠ D) ∧ P c' items' ∧ μ c' < k
theorem cEnd {h₀ h' : Heap} {L : Addr} {m : Str → Option Value} {s : Shared} {σ : Type} {Led : σ → List (Addr × Obj)} {P : σ → List Value → Prop} {μ : σ → Nat} {D C : Addr} {oC : Obj} {n k tk' : Nat} {items items' : List Value} (c' : σ)
    (F : Fr h₀ L h' m) (N : News h₀ L h' ((C, oC) :: (D, listOf items.toArray n) :: Led c')) (h1 : ∀ p ∈ Led c', p.1 ≠ C ∧ p.1 ≠ D) (h2 : P c' items') (h3 : μ c' < k) : CEnd h₀ L m s Led P μ D C oC n k items items' { s with heap := h', toks := tk' } :=
  ⟨c', h', tk', rfl, F, N, h1, h2, h3⟩
/-- what a turn shows, behind the drawing of an item -/
def CGo (prog : Program) (w : World) (A : Around) (env : Env) (h₀ : Heap) (L : Addr) (m : Str → Option Value) (s : Shared) (scope : Scope) (cl : List (Str × Addr)) (x : Str) (ifs : List PySem.Expr) (elt : PySem.Expr) {σ : Type} (Led : σ → List (Addr × Obj)) (P : σ → List Value → Prop) (μ : σ → Nat) (D C : Addr) (n : Nat) (k : Nat) (items : List Value) (news : List (Addr × Obj)) (v : Value) : Prop :=
  ∀ oC mC h tk, NsO oC mC → mC x = some v → h.Ns C mC → Fr h₀ L h m → News h₀ L h ((C, oC) :: (D, listOf items.toArray n) :: news) →
    wpAny (model prog w) A (testsM ifs (compEnvC scope cl C env)) (fun ok s₃ =>
      if ok = true then wpAny (model prog w) A (eval elt (compEnvC scope cl C env)) (fun y s₄ => CEnd h₀ L m s Led P μ D C oC n k items (items ++ [y]) s₄) (fun _ _ => False) s₃
      else CEnd h₀ L m s Led P μ D C oC n k items items s₃) (fun _ _ => False) { s with heap := h, toks := tk }

theorem comp_block {σ : Type} {elt iter : PySem.Expr} {x : Str} {px : Pos} {ifs : List PySem.Expr} {scope : Scope} {cl : List (Str × Addr)} {pos : Pos} {RR : Value → Addr → Result → Shared → Prop} {it : Value}
    (Led : σ → List (Addr × Obj)) (P : σ → List Value → Prop) (μ : σ → Nat) (c₀ : σ)
    (F : Fr h₀ L s.heap m) (N : News h₀ L s.heap (Led c₀)) (hp : P c₀ []) (hcell : ∀ y ∈ scope.names, y.2 ≠ .cell) (hkind : scope.kind = .function) (hx : scope.names.lookup x = some .local)
    (hself : ∀ h tk (Q : Value → Shared → Prop) (E' : Value → Shared → Prop), Fr h₀ L h m → News h₀ L h (Led c₀) → Q it { s with heap := h, toks := tk } → wpAny (model prog w) A (pyIter it) Q E' { s with heap := h, toks := tk })
    (turn : ∀ D C oC n c items h tk, P c items → Fr h₀ L h m → News h₀ L h ((C, oC) :: (D, listOf items.toArray n) :: Led c) → (∀ p ∈ Led c, p.1 ≠ C ∧ p.1 ≠ D) → D ≠ C → items.length ≤ 1000000 ∧
      wpAny (model prog w) A (pyNext it) (fun r s₁ => match r with
        | none => ∃ news' h' tk', s₁ = { s with heap := h', toks := tk' } ∧ Fr h₀ L h' m ∧ News h₀ L h' ((C, oC) :: (D, listOf items.toArray n) :: news') ∧ ∀ m', h'.Ns C m' → RR (.ref D) C (.ok .next) { s with heap := h', toks := tk' }
        | some v => ∃ news' h' tk', s₁ = { s with heap := h', toks := tk' } ∧ Fr h₀ L h' m ∧ News h₀ L h' ((C, oC) :: (D, listOf items.toArray n) :: news') ∧ (∀ p ∈ news', p.1 ≠ C ∧ p.1 ≠ D) ∧ CGo prog w A env h₀ L m s scope cl x ifs elt Led P μ D C n (μ c) items news' v) (fun _ _ => False) { s with heap := h, toks := tk }) :
    wpAny (model prog w) A (newList []) (fun acc s₃ => wpAny (model prog w) A (newFunctionEnv scope env.globals cl [] env.qual none .none (some env)) (fun cenv s₄ =>
      codeAny (model prog w) A (.compStart (.ListComp elt [⟨.Name x px, iter, ifs, 0⟩] scope pos) 0 it acc { cenv with scope := relabel scope env }) (RR acc cenv.locals) s₄) E s₃) E s := by
  refine wpAny_newObj_type (wpAny_newFunctionEnv hcell (by intro y hy; simp at hy) (fun h₁ hns₁ hsb₁ => ?_) hkind)
  dsimp only at hns₁ hsb₁ ⊢
  have F1 : Fr h₀ L (s.heap.push (listOf ([] : List Value).toArray 0)) m := F.push _
  have N1 : News h₀ L (s.heap.push (listOf ([] : List Value).toArray 0)) ((s.heap.objs.size, listOf ([] : List Value).toArray 0) :: Led c₀) := News.push F N _
  have hD : ∀ p ∈ Led c₀, p.1 < s.heap.objs.size := fun p hp => Heap.lt_size (N p hp).1
  generalize hDD : s.heap.objs.size = D at F1 N1 hD hns₁ hsb₁ ⊢
  generalize hH2 : s.heap.push (listOf ([] : List Value).toArray 0) = H2 at F1 N1
  have hH2' : s.heap.push { cls := .type "list", dict := none, data := .seq ([] : List Value).toArray } = H2 := hH2
  rw [hH2'] at hns₁ hsb₁
  try rw [hH2']
  have hC : ∀ p ∈ (D, listOf ([] : List Value).toArray 0) :: Led c₀, p.1 < H2.objs.size := fun p hp => Heap.lt_size (N1 p hp).1
  have F2 : Fr h₀ L (H2.push { cls := .type "dict", data := .dict #[] }) m := F1.push _
  have N2 : News h₀ L (H2.push { cls := .type "dict", data := .dict #[] }) ((H2.objs.size, { cls := .type "dict", data := .dict #[] }) :: (D, listOf ([] : List Value).toArray 0) :: Led c₀) := News.push F1 N1 _
  generalize hCC : H2.objs.size = C at F2 N2 hC hns₁ hsb₁ ⊢
  have hsb : Heap.SameBut C (H2.push { cls := .type "dict", data := .dict #[] }) h₁ := hsb₁
  obtain ⟨oC, es, ep, ho, hdat, hks, hnf⟩ := id hns₁
  have F3 : Fr h₀ L h₁ m := F2.change hsb (N2 _ (.head _)).2.1 (N2 _ (.head _)).2.2
  have N3 : News h₀ L h₁ ((C, oC) :: (D, listOf ([] : List Value).toArray 0) :: Led c₀) := News.setHead N2 (fun p hp => Nat.ne_of_lt (hC p hp)) hsb ho
  have hDC : D ≠ C := Nat.ne_of_lt (hC _ (.head _))
  have hfr : ∀ p ∈ Led c₀, p.1 ≠ C ∧ p.1 ≠ D := fun p hp => ⟨Nat.ne_of_lt (hC p (.tail _ hp)), Nat.ne_of_lt (hD p hp)⟩
  have loop : ∀ s₃ : Shared, s₃ = { s with heap := h₁, toks := s.toks + ([] : List (Str × Value)).length } →
      codeAny (model prog w) A (.compLoop (.ListComp elt [⟨.Name x px, iter, ifs, 0⟩] scope pos) 0 it (.ref D) (compEnvC scope cl C env)) (RR (.ref D) C) s₃ := by
    rintro s₃ rfl
    refine codeAny_compLoop_tests (fun n s' => ∃ c items n' oC mC h' tk', μ c = n ∧ s' = { s with heap := h', toks := tk' } ∧ NsO oC mC ∧ Fr h₀ L h' m ∧ News h₀ L h' ((C, oC) :: (D, listOf items.toArray n') :: Led c) ∧ (∀ p ∈ Led c, p.1 ≠ C ∧ p.1 ≠ D) ∧ P c items) ?_ _
      ⟨c₀, [], 0, oC, _, h₁, _, rfl, rfl, ⟨es, ep, hdat, hks, hnf⟩, F3, N3, hfr, hp⟩
    rintro n s' ⟨c, items, n', oC, mC, h', tk', hμ, rfl, hO, F', N', hfr', hP⟩
    obtain ⟨hil, ht⟩ := turn D C oC n' c items h' tk' hP F' N' hfr' hDC
    refine wpAny_mono ht (fun r s₁ hr => ?_) fun _ _ x => x.elim
    cases r with
    | none =>
      obtain ⟨news', h2, tk2, rfl, F2, N2, hRR⟩ := hr
      exact hRR mC (hO.ns (N2 _ (.head _)).1)
    | some v =>
      obtain ⟨news', h2, tk2, rfl, F2, N2, hfr2, hgo⟩ := hr
      have hkl : (compEnvC scope cl C env).kindOf x = some .local := lookup_relabel_local hx
      refine wpAny_assign_Name (wpAny_storeName_local hkl (hO.ns (N2 _ (.head _)).1) (fun h3 hn3 hs3 => ?_) (by simp [compEnvC, relabel, hkind]))
      obtain ⟨oC3, es3, ep3, ho3, hdat3, hks3, hnf3⟩ := id hn3
      have F3 : Fr h₀ L h3 m := F2.change hs3 (N2 _ (.head _)).2.1 (N2 _ (.head _)).2.2
      have N3 : News h₀ L h3 ((C, oC3) :: (D, listOf items.toArray n') :: news') := News.setHead N2 (by
        intro p hp
        rcases List.mem_cons.mp hp with rfl | hp
        · exact hDC
        · exact (hfr2 p hp).1) hs3 ho3
      refine wpAny_mono (hgo oC3 _ h3 _ ⟨es3, ep3, hdat3, hks3, hnf3⟩ (by simp) hn3 F3 N3) (fun ok s₃ h₃ => ?_) fun _ _ x => x.elim
      cases ok with
      | false =>
        obtain ⟨c', h4, tk4, rfl, F4, N4, hfr4, hP4, hm4⟩ := h₃
        exact ⟨_, hμ ▸ hm4, c', items, n', oC3, _, h4, tk4, rfl, rfl, ⟨es3, ep3, hdat3, hks3, hnf3⟩, F4, N4, hfr4, hP4⟩
      | true =>
        refine wpAny_mono h₃ (fun y s₄ h₄ => ?_) fun _ _ x => x.elim
        obtain ⟨c', h4, tk4, rfl, F4, N4, hfr4, hP4, hm4⟩ := h₄
        refine append_K F4 N4 (.tail hDC.symm (.head fun p hp => (hfr4 p hp).2)) (fun h5 F5 N5 => ?_) (by rw [sizeLine_eq]; simp; omega)
        refine ⟨_, hμ ▸ hm4, c', items ++ [y], n' + 1, oC3, _, h5, tk4, rfl, rfl, ⟨es3, ep3, hdat3, hks3, hnf3⟩, F5, ?_, hfr4, hP4⟩
        rw [show (items ++ [y]).toArray = items.toArray.push y by simp]
        exact N5
  exact codeAny_compStart_list (loop _ rfl) (hself _ _ _ _ F3 (fun p hp => N3 p (.tail _ (.tail _ hp))) (loop _ rfl))

theorem ListComp_G {elt iter : PySem.Expr} {x : Str} {px : Pos} {ifs : List PySem.Expr} {scope : Scope} {cl : List (Str × Addr)} {pos : Pos} {Q : Value → Shared → Prop} (_F : Fr h₀ L s.heap m)
    (hclos : closureFor scope env = pure cl) (hcell : ∀ y ∈ scope.names, y.2 ≠ .cell) (hkind : scope.kind = .function)
    (hnames : ∀ y ∈ scope.names, y.2 = .local → scope.names.lookup y.1 = some .local) (hx : scope.names.lookup x = some .local)
    (h : wpAny (model prog w) A (eval iter env) (fun xv s₁ => wpAny (model prog w) A (pyIter xv) (fun it s => ∃ (σ : Type) (Led : σ → List (Addr × Obj)) (P : σ → List Value → Prop) (μ : σ → Nat) (c₀ : σ),
      Fr h₀ L s.heap m ∧ News h₀ L s.heap (Led c₀) ∧ P c₀ [] ∧
      (∀ h tk (Q : Value → Shared → Prop) (E' : Value → Shared → Prop), Fr h₀ L h m → News h₀ L h (Led c₀) → Q it { s with heap := h, toks := tk } → wpAny (model prog w) A (pyIter it) Q E' { s with heap := h, toks := tk }) ∧
      (∀ D C oC n c items h tk, P c items → Fr h₀ L h m → News h₀ L h ((C, oC) :: (D, listOf items.toArray n) :: Led c) → (∀ p ∈ Led c, p.1 ≠ C ∧ p.1 ≠ D) → D ≠ C → items.length ≤ 1000000 ∧
        wpAny (model prog w) A (pyNext it) (fun r s₁ => match r with
          | none => ∃ news' h' tk', s₁ = { s with heap := h', toks := tk' } ∧ Fr h₀ L h' m ∧ News h₀ L h' ((C, oC) :: (D, listOf items.toArray n) :: news') ∧ (∀ p ∈ news', p.1 ≠ C ∧ p.1 ≠ D) ∧
              ∀ h'' tk'', Fr h₀ L h'' m → News h₀ L h'' ((D, listOf items.toArray n) :: news') → Q (.ref D) { s with heap := h'', toks := tk'' }
          | some v => ∃ news' h' tk', s₁ = { s with heap := h', toks := tk' } ∧ Fr h₀ L h' m ∧ News h₀ L h' ((C, oC) :: (D, listOf items.toArray n) :: news') ∧ (∀ p ∈ news', p.1 ≠ C ∧ p.1 ≠ D) ∧ CGo prog w A env h₀ L m s scope cl x ifs elt Led P μ D C n (μ c) items news' v) (fun _ _ => False) { s with heap := h, toks := tk })) E s₁) E s)
    (hs : ∀ x, foldedSetIterable iter env x = pure x) :
    wpAny (model prog w) A (eval (.ListComp elt [⟨.Name x px, iter, ifs, 0⟩] scope pos) env) Q E s := by
  rw [eval_ListComp]
  refine wpAny_comprehension_free (use := none) rfl hs hclos hkind hnames (wpAny_mono h (fun xv s₁ h₁ => wpAny_mono h₁ (fun it s₂ h₂ => ?_) fun _ _ e => e) fun _ _ e => e)
  obtain ⟨σ, Led, P, μ, c₀, F, N, hp, hself, turn⟩ := h₂
  refine comp_block (RR := fun acc C => compPost (model prog w) A E none Q acc C) Led P μ c₀ F N hp hcell hkind hx hself ?_
  intro D C oC n c items h tk hP F' N' hfr hDC
  obtain ⟨hil, ht⟩ := turn D C oC n c items h tk hP F' N' hfr hDC
  refine ⟨hil, wpAny_mono ht (fun r s₁ hr => ?_) fun _ _ x => x⟩
  cases r with
  | some v => exact hr
  | none =>
    obtain ⟨news', h', tk', rfl, F2, N2, hfr2, hQ⟩ := hr
    refine ⟨news', h', tk', rfl, F2, N2, fun m' hn' => ⟨m', hn', fun h'' hs'' => ?_⟩⟩
    have zC := N2 _ (.head _)
    refine hQ h'' tk' (F2.change hs'' zC.2.1 zC.2.2) fun p hp => ?_
    have zp := N2 p (.tail _ hp)
    refine ⟨(hs''.2 p.1 ?_).trans zp.1, zp.2⟩
    rcases List.mem_cons.mp hp with rfl | hp
    · exact hDC
    · exact (hfr2 p hp).1

theorem Assign_ListComp_G {elt iter : PySem.Expr} {x y : Str} {px py : Pos} {ifs : List PySem.Expr} {scope : Scope} {cl : List (Str × Addr)} {pos spos : Pos} {Q : Flow → Shared → Prop} (_F : Fr h₀ L s.heap m)
    (hsw : swapsWith (.ListComp elt [⟨.Name x px, iter, ifs, 0⟩] scope pos) (some (.Name y py)) spos.line env = pure true) (hL : env.locals = L)
    (hclos : closureFor scope env = pure cl) (hcell : ∀ y ∈ scope.names, y.2 ≠ .cell) (hkind : scope.kind = .function)
    (hnames : ∀ y ∈ scope.names, y.2 = .local → scope.names.lookup y.1 = some .local) (hx : scope.names.lookup x = some .local)
    (hy : env.kindOf y = some .local) (hp : (env.scope.kind == .class || (env.scope.kind == .module && env.locals != env.globals)) = false)
    (h : wpAny (model prog w) A (eval iter env) (fun xv s₁ => wpAny (model prog w) A (pyIter xv) (fun it s => ∃ (σ : Type) (Led : σ → List (Addr × Obj)) (P : σ → List Value → Prop) (μ : σ → Nat) (c₀ : σ),
      Fr h₀ L s.heap m ∧ News h₀ L s.heap (Led c₀) ∧ P c₀ [] ∧
      (∀ h tk (Q : Value → Shared → Prop) (E' : Value → Shared → Prop), Fr h₀ L h m → News h₀ L h (Led c₀) → Q it { s with heap := h, toks := tk } → wpAny (model prog w) A (pyIter it) Q E' { s with heap := h, toks := tk }) ∧
      (∀ D C oC n c items h tk, P c items → Fr h₀ L h m → News h₀ L h ((C, oC) :: (D, listOf items.toArray n) :: Led c) → (∀ p ∈ Led c, p.1 ≠ C ∧ p.1 ≠ D) → D ≠ C → items.length ≤ 1000000 ∧
        wpAny (model prog w) A (pyNext it) (fun r s₁ => match r with
          | none => ∃ news' h' tk', s₁ = { s with heap := h', toks := tk' } ∧ Fr h₀ L h' m ∧ News h₀ L h' ((C, oC) :: (D, listOf items.toArray n) :: news') ∧ (∀ p ∈ news', p.1 ≠ C ∧ p.1 ≠ D) ∧
              ∀ h'' tk'', Fr h₀ L h'' (fun z => if z = y then some (.ref D) else m z) → News h₀ L h'' ((D, listOf items.toArray n) :: news') → Q .next { s with heap := h'', toks := tk'' }
          | some v => ∃ news' h' tk', s₁ = { s with heap := h', toks := tk' } ∧ Fr h₀ L h' m ∧ News h₀ L h' ((C, oC) :: (D, listOf items.toArray n) :: news') ∧ (∀ p ∈ news', p.1 ≠ C ∧ p.1 ≠ D) ∧ CGo prog w A env h₀ L m s scope cl x ifs elt Led P μ D C n (μ c) items news' v) (fun _ _ => False) { s with heap := h, toks := tk })) E s₁) E s)
    (hs : ∀ x, foldedSetIterable iter env x = pure x) :
    wpAny (model prog w) A (exec (.Assign [.Name y py] (.ListComp elt [⟨.Name x px, iter, ifs, 0⟩] scope pos) spos) env) Q E s := by
  rw [exec_Assign_Name_used _ _ _ _ hsw]
  refine wpAny_bind (wpAny_standAt (wpAny_bind ?_))
  show wpAny _ A (do let _ ← PySem.comprehension (.ListComp elt [⟨.Name x px, iter, ifs, 0⟩] scope pos) scope env _ (newList []) false (eval iter env) (some (assign (.Name y py) env))) _ _ s
  refine wpAny_bind (wpAny_mono (wpAny_comprehension_free (use := some (assign (.Name y py) env)) (Q := fun _ s' => Q .next s') rfl hs hclos hkind hnames
    (wpAny_mono h (fun xv s₁ h₁ => wpAny_mono h₁ (fun it s₂ h₂ => ?_) fun _ _ e => e) fun _ _ e => e)) (fun _ s' hq => wpAny_pure (wpAny_pure hq)) fun _ _ e => e)
  obtain ⟨σ, Led, P, μ, c₀, F, N, hpp, hself, turn⟩ := h₂
  refine comp_block (RR := fun acc C => compPost (model prog w) A E (some (assign (.Name y py) env)) (fun _ s' => Q .next s') acc C) Led P μ c₀ F N hpp hcell hkind hx hself ?_
  intro D C oC n c items h tk hP F' N' hfr hDC
  obtain ⟨hil, ht⟩ := turn D C oC n c items h tk hP F' N' hfr hDC
  refine ⟨hil, wpAny_mono ht (fun r s₁ hr => ?_) fun _ _ x => x⟩
  cases r with
  | some v => exact hr
  | none =>
    obtain ⟨news', h', tk', rfl, F2, N2, hfr2, hQ⟩ := hr
    refine ⟨news', h', tk', rfl, F2, N2, fun m' hn' => ?_⟩
    have zC := N2 _ (.head _)
    show wpAny _ A (assign (.Name y py) env (.ref D)) _ _ _
    subst hL
    refine wpAny_assign_Name (wpAny_storeName_local hy F2.ns (fun h₂ hn₂ hs₂ => ?_) hp)
    refine ⟨m', hn'.sameBut hs₂ zC.2.1, fun h₃ hs₃ => ?_⟩
    have hCL : C ≠ env.locals := zC.2.1
    have F3 : Fr h₀ env.locals h₂ (fun z => if z = y then some (.ref D) else m z) := F2.set hn₂ hs₂
    have N3 := News.set N2 hs₂
    refine hQ h₃ _ (F3.change hs₃ hCL zC.2.2) fun p hp => ?_
    have zp := N3 p (.tail _ hp)
    refine ⟨(hs₃.2 p.1 ?_).trans zp.1, zp.2⟩
    rcases List.mem_cons.mp hp with rfl | hp
    · exact hDC
    · exact (hfr2 p hp).1
end
end Mine
end
section
open PySem PySem.W PyProof.Rows PyProof.V PySem.Spec PySem.SeqAt
set_option maxRecDepth 100000
namespace Mine
section
variable {prog : Program} {w : World} {A : Around} {E : Value → Shared → Prop} {s : Shared} {h₀ : Heap} {L : Addr} {m : Str → Option Value} {news : List (Addr × Obj)}
abbrev rgIt (x left step : Int) : Obj := { cls := .type "range_iterator", dict := none, data := .fields #[rawInt x, rawInt left, rawInt step], slots := #[] }
theorem ext_keep {h h' : Heap} {it : Addr} {o : Obj} (F : Fr h₀ L h m) (N : News h₀ L h ((it, o) :: news)) (hne : ∀ p ∈ news, p.1 ≠ it) (hs : Heap.ExtBut it h h') : Fr h₀ L h' m ∧ News h₀ L h' news := by
  have z := N _ (.head _)
  refine ⟨?_, ?_⟩
  · obtain ⟨oL, es, ep, hL, r⟩ := F.ns
    exact ⟨⟨oL, es, ep, hs _ _ (Ne.symm z.2.1) hL, r⟩, fun b x q => hs b x (fun e => by have := z.2.2; rw [← e, q] at this; cases this) (F.keep b x q), F.above⟩
  · intro p hp
    have y := N p (.tail _ hp)
    exact ⟨hs _ _ (hne p hp) y.1, y.2⟩
theorem small_ok {a b : Int} (h1 : -1000000 ≤ a) (h2 : a ≤ 1000000) (h3 : -1000000 ≤ b) (h4 : b ≤ 1000000) : Builtin.Range.small a b 1 = true := by
  unfold Builtin.Range.small
  rw [rangeSize_nat]
  simp only [Builtin.Range.rangeFitsLong, Bool.and_eq_true, Bool.or_eq_true, decide_eq_true_eq, beq_iff_eq, gt_iff_lt]
  simp
  omega
theorem range_it2 {a b : Int} {t u : Tok} {Q : Value → Shared → Prop} (F : Fr h₀ L s.heap m) (N : News h₀ L s.heap news) (h1 : -1000000 ≤ a) (h2 : a ≤ 1000000) (h3 : -1000000 ≤ b) (h4 : b ≤ 1000000)
    (h : ∀ I h' tk, Fr h₀ L h' m → News h₀ L h' ((I, rgIt a (b - a).toNat 1) :: news) → (∀ p ∈ news, p.1 < I) → Q (.ref I) { s with heap := h', toks := tk }) :
    wpAny (model prog w) A (call (.type "range") [.int a t, .int b u]) (fun x s => wpAny (model prog w) A (pyIter x) Q E s) E s := by
  refine range2_rows F N fun h' tk t₁ u₁ v₁ hr F1 N1 _ => ?_
  refine wpAny_pyIter_range hr (small_ok h1 h2 h3 h4) ?_
  rw [rangeSize_nat]
  exact h _ _ _ (F1.push _) (News.push F1 N1 _) fun p hp => Heap.lt_size (N1 p hp).1
theorem range_it {n : Int} {t : Tok} {Q : Value → Shared → Prop} (F : Fr h₀ L s.heap m) (N : News h₀ L s.heap news) (hn : 0 ≤ n) (hn2 : n ≤ 1000000)
    (h : ∀ I h' tk, Fr h₀ L h' m → News h₀ L h' ((I, rgIt 0 n 1) :: news) → (∀ p ∈ news, p.1 < I) → Q (.ref I) { s with heap := h', toks := tk }) :
    wpAny (model prog w) A (call (.type "range") [.int n t]) (fun x s => wpAny (model prog w) A (pyIter x) Q E s) E s := by
  refine range1_rows F N fun h' tk t₁ u₁ v₁ hr F1 N1 _ => ?_
  refine wpAny_pyIter_range hr (small_ok (by omega) (by omega) (by omega) hn2) ?_
  rw [rangeSize_nat, show (((n - 0).toNat : Nat) : Int) = n by omega]
  exact h _ _ _ (F1.push _) (News.push F1 N1 _) fun p hp => Heap.lt_size (N1 p hp).1
theorem next_range {I : Addr} {x left step : Int} {Q : Option Value → Shared → Prop} (F : Fr h₀ L s.heap m) (N : News h₀ L s.heap ((I, rgIt x left step) :: news)) (hne : ∀ p ∈ news, p.1 ≠ I) (hl : 0 < left)
    (h : ∀ h' tk t, Fr h₀ L h' m → News h₀ L h' ((I, rgIt (x + step) (left - 1) step) :: news) → Q (some (.int x t)) { s with heap := h', toks := tk }) : wpAny (model prog w) A (pyNext (.ref I)) Q E s := by
  have z := N _ (.head _)
  refine wpAny_pyNext_range_item z.1 hl fun h' hit hs => ?_
  exact h _ _ _ (F.change hs z.2.1 z.2.2) (News.setHead N hne hs hit)
theorem next_range_end {I : Addr} {x left step : Int} {Q : Option Value → Shared → Prop} (hh : A.handled = none) (F : Fr h₀ L s.heap m) (N : News h₀ L s.heap ((I, rgIt x left step) :: news)) (hne : ∀ p ∈ news, p.1 ≠ I) (hl : left ≤ 0)
    (h : ∀ h', Fr h₀ L h' m → News h₀ L h' news → Q none { s with heap := h' }) : wpAny (model prog w) A (pyNext (.ref I)) Q E s :=
  wpAny_pyNext_range_end hh (N _ (.head _)).1 hl fun h' hs => h h' (ext_keep F N hne hs).1 (ext_keep F N hne hs).2
end
end Mine
end
section
open PySem PySem.W PyProof.Rows PyProof.V PySem.Spec PySem.SeqAt
set_option maxRecDepth 100000
namespace Mine
abbrev ivs (ps : List (Int × Tok)) : List Value := ps.map fun p => Value.int p.1 p.2
theorem ivs_of : ∀ {vs : List Value} {ns : List Int}, IntsAre vs ns → ∃ ps, vs = ivs ps ∧ ps.map (·.1) = ns := by
  intro vs ns h
  induction h with
  | nil => exact ⟨[], rfl, rfl⟩
  | cons _ _ _ ih =>
    obtain ⟨ps, rfl, rfl⟩ := ih
    exact ⟨(_, _) :: ps, rfl, rfl⟩
theorem ivs_ints : ∀ ps : List (Int × Tok), IntsAre (ivs ps) (ps.map (·.1))
  | [] => .nil
  | _ :: r => .cons _ _ (ivs_ints r)
structure CSt where
  i : Int
  lf : Int
  cs : List (Int × Tok)
  n : Nat
set_option maxHeartbeats 0 in
theorem cellsS (w : World) (p : Program) (loose : List Str) (mean : ExcName → Option Value) (mg mb : Str → Option Value)
  (S Fi : Addr) (vs fs : List Value) (ns ms : List Int) (sn fn : Nat) (Z : List (Addr × Obj)) (hS : (S, listOf vs.toArray sn) ∈ Z) (hF : (Fi, listOf fs.toArray fn) ∈ Z) (hvs : IntsAre vs ns) (hfs : IntsAre fs ms) (hl : ns.length ≤ 63) (hm : ms.length = 10) (hb : ∀ m ∈ ms, 0 ≤ m ∧ m ≤ 10000) :
  Spec w p loose mean mg mb 141 8 [.ref S, .ref Fi] Z (fun v nw => ∃ D n cs ks, v = .ref D ∧ nw = (D, listOf cs.toArray n) :: Z ∧ (∀ p ∈ Z, p.1 ≠ D) ∧ IntsAre cs ks ∧ ks.length = 10 ∧ ∀ k ∈ ks, -10^32 ≤ k ∧ k ≤ 10^32) := by
  obtain ⟨cs0, rfl, hcs1⟩ := ivs_of hfs
  have hnl := hvs.length
  unfold Spec
  k_fill
  intro dp un gd cn cs a ccd cl outer A₀ base h₀ L m s Q E B F X N T hk hd hu hret
  k_dflt cell_enter
  rename Fr _ _ _ (fun _ => _) => F0; refine letM F0 ?_; clear F0; intro M0 F1
  refine letEA ?_; intro e9 A9
  iterate 9 (focus (first | ((first | ((rename (∀ (f : Flow) (s : Shared), _ → _) => hq); (with_reducible refine Mine.cutQ hq ?_); clear hq; (rename (Flow → Shared → Prop) => qq); clear qq) | (with_reducible refine Mine.cutQ (by with_reducible assumption) ?_)); (try dsimp only)) | ((first | (k_unfold; (try dsimp only)) | (k_end; kc_close) | walk1 | (dsimp only; walk1) | (leave1; (try dsimp only)) | fail "no step"); (try ((with_reducible show wpAny _ _ (exec _ _) (fun _ _ => _) _ _); refine Mine.gen_Q ?_; intro QQ9 hQ9)))))
  refine list_copyK (by k_asm) (by k_asm) (News.isList (by k_asm) hF) ?_ (by rw [List.size_toArray, hfs.length, hm]; decide)
  intro D' c' h' F' N' l1; (try k_lt l1); k_sweep
  iterate 4 (focus (first | ((first | ((rename (∀ (f : Flow) (s : Shared), _ → _) => hq); (with_reducible refine Mine.cutQ hq ?_); clear hq; (rename (Flow → Shared → Prop) => qq); clear qq) | (with_reducible refine Mine.cutQ (by with_reducible assumption) ?_)); (try dsimp only)) | ((first | (k_unfold; (try dsimp only)) | (k_end; kc_close) | walk1 | (dsimp only; walk1) | (leave1; (try dsimp only)) | fail "no step"); (try ((with_reducible show wpAny _ _ (exec _ _) (fun _ _ => _) _ _); refine Mine.gen_Q ?_; intro QQ9 hQ9)))))
  refine wpAny_For ?_
  iterate 10 (focus (first | ((first | ((rename (∀ (f : Flow) (s : Shared), _ → _) => hq); (with_reducible refine Mine.cutQ hq ?_); clear hq; (rename (Flow → Shared → Prop) => qq); clear qq) | (with_reducible refine Mine.cutQ (by with_reducible assumption) ?_)); (try dsimp only)) | ((first | (k_unfold; (try dsimp only)) | (k_end; kc_close) | walk1 | (dsimp only; walk1) | (leave1; (try dsimp only)) | fail "no step"); (try ((with_reducible show wpAny _ _ (exec _ _) (fun _ _ => _) _ _); refine Mine.gen_Q ?_; intro QQ9 hQ9)))))
  refine PyProof.Rows.len_list (News.isList (by k_asm) (.tail _ hS)) (by rw [hvs.sizeZ]; omega) ?_
  rw [hvs.sizeZ]
  iterate 1 (focus (first | ((first | ((rename (∀ (f : Flow) (s : Shared), _ → _) => hq); (with_reducible refine Mine.cutQ hq ?_); clear hq; (rename (Flow → Shared → Prop) => qq); clear qq) | (with_reducible refine Mine.cutQ (by with_reducible assumption) ?_)); (try dsimp only)) | ((first | (k_unfold; (try dsimp only)) | (k_end; kc_close) | walk1 | (dsimp only; walk1) | (leave1; (try dsimp only)) | fail "no step"); (try ((with_reducible show wpAny _ _ (exec _ _) (fun _ _ => _) _ _); refine Mine.gen_Q ?_; intro QQ9 hQ9)))))
  refine range_it (by k_asm) (by k_asm) (by omega) (by omega) ?_
  intro I h1 tk1 F1 N1 l2; (try k_lt l2); (try k_sweep)
  refine' For_g (σ := CSt) (fun c => (I, rgIt c.i c.lf 1) :: (D', listOf (ivs c.cs).toArray c.n) :: Z) (fun c => []) (fun c => 0 ≤ c.i) ["k", "kept"]
    (fun q => (q.i + q.lf = ns.length ∧ 0 ≤ q.lf) ∧ q.cs.length = 10 ∧ ∀ z ∈ q.cs, -10000 - q.i * 10^30 ≤ z.1 ∧ z.1 ≤ 10000 + q.i * 10^30) (fun q => q.lf.toNat) ⟨0, ns.length, cs0, c'⟩ F1 ?_ ?_ ?kMap ?_ ?_
  case kMap => exact fun _ h => nomatch h
  · exact N1
  · dsimp only; omega
  · refine ⟨⟨by dsimp only; omega, by dsimp only; omega⟩, by rw [← hm, ← hcs1]; simp, fun z hz => ?_⟩
    have := hb z.1 (by rw [← hcs1]; exact List.mem_map_of_mem hz)
    dsimp only
    omega
  rintro ⟨i, lf, cs', n⟩ u h tk QB hB hfa ⟨⟨hp1, hp0⟩, hp2, hp3⟩ FF NN
  dsimp only at hfa hp1 hp0 hp2 hp3 FF NN
  have hne : ∀ p ∈ (D', listOf (ivs cs').toArray n) :: Z, p.1 ≠ I := allNe_lt (d := I) ⟨l2.1, l2.2⟩
  by_cases hlf : lf ≤ 0
  · refine next_range_end rfl FF NN hne hlf ?_
    intro h2 F2 N2; (try k_sweep)
    dsimp only
    iterate 7 (focus (first | ((first | ((rename (∀ (f : Flow) (s : Shared), _ → _) => hq); (with_reducible refine Mine.cutQ hq ?_); clear hq; (rename (Flow → Shared → Prop) => qq); clear qq) | (with_reducible refine Mine.cutQ (by with_reducible assumption) ?_)); (try dsimp only)) | ((first | (k_unfold; (try dsimp only)) | (k_end; kc_close) | walk1 | (dsimp only; walk1) | (leave1; (try dsimp only)) | fail "no step"); (try ((with_reducible show wpAny _ _ (exec _ _) (fun _ _ => _) _ _); refine Mine.gen_Q ?_; intro QQ9 hQ9)))))
    rename News h₀ _ _ _ => NR
    refine hret _ _ _ _ ⟨D', _, ivs cs', cs'.map (·.1), rfl, rfl, allNe_all l1, ?_⟩ (by k_asm) NR
    refine ⟨ivs_ints _, by simp [hp2], ?_⟩
    intro k hk
    obtain ⟨z, hz, rfl⟩ := List.mem_map.mp hk
    have := hp3 z hz
    have hi63 : i ≤ 63 := by omega
    have e1 : i * 10 ^ 30 ≤ 63 * 10 ^ 30 := by omega
    omega
  · refine next_range FF NN hne (by omega) ?_
    intro h2 tk2 t2 F2 N2; (try k_sweep)
    dsimp only
    have hsz10 : (((ivs cs').toArray.size : Nat) : Int) = 10 := by simp [ivs, hp2]
    iterate 22 (focus (first | ((first | ((rename (∀ (f : Flow) (s : Shared), _ → _) => hq); (with_reducible refine Mine.cutQ hq ?_); clear hq; (rename (Flow → Shared → Prop) => qq); clear qq) | (with_reducible refine Mine.cutQ (by with_reducible assumption) ?_)); (try dsimp only)) | ((first | (k_unfold; (try dsimp only)) | (k_end; kc_close) | walk1 | (dsimp only; walk1) | (leave1; (try dsimp only)) | fail "no step"); (try ((with_reducible show wpAny _ _ (exec _ _) (fun _ _ => _) _ _); refine Mine.gen_Q ?_; intro QQ9 hQ9)))))
    iterate 12 (focus (first | ((first | ((rename (∀ (f : Flow) (s : Shared), _ → _) => hq); (with_reducible refine Mine.cutQ hq ?_); clear hq; (rename (Flow → Shared → Prop) => qq); clear qq) | (with_reducible refine Mine.cutQ (by with_reducible assumption) ?_)); (try dsimp only)) | ((first | (k_unfold; (try dsimp only)) | (k_end; kc_close) | walk1 | (dsimp only; walk1) | (leave1; (try dsimp only)) | fail "no step"); (try ((with_reducible show wpAny _ _ (exec _ _) (fun _ _ => _) _ _); refine Mine.gen_Q ?_; intro QQ9 hQ9)))))
    refine PyProof.Rows.len_list (News.isList (by k_asm) (by k_mem)) (by rw [hsz10]; decide) ?_
    rw [hsz10]
    iterate 1 (focus (first | ((first | ((rename (∀ (f : Flow) (s : Shared), _ → _) => hq); (with_reducible refine Mine.cutQ hq ?_); clear hq; (rename (Flow → Shared → Prop) => qq); clear qq) | (with_reducible refine Mine.cutQ (by with_reducible assumption) ?_)); (try dsimp only)) | ((first | (k_unfold; (try dsimp only)) | (k_end; kc_close) | walk1 | (dsimp only; walk1) | (leave1; (try dsimp only)) | fail "no step"); (try ((with_reducible show wpAny _ _ (exec _ _) (fun _ _ => _) _ _); refine Mine.gen_Q ?_; intro QQ9 hQ9)))))
    have hmod10 : 0 ≤ i.fmod 10 ∧ i.fmod 10 < 10 := by
      rw [Int.fmod_eq_emod_of_nonneg _ (by omega)]
      omega
    obtain ⟨j, hj⟩ : ∃ j : Nat, j = (i.fmod 10).toNat := ⟨_, rfl⟩
    have hj10 : j < cs'.length := by omega
    refine wpAny_getItem_list (x := .int cs'[j].1 cs'[j].2) (News.isList (by k_asm) (by k_mem)) hmod10.1 (by omega) (by rw [← hj]; simp [ivs, hj10]) ?_
    have hkept : 0 ≤ ((if ns.getD i.toNat 0 < 0 then -ns.getD i.toNat 0 else ns.getD i.toNat 0).fmod (10 ^ Int.toNat 30)) ∧ ((if ns.getD i.toNat 0 < 0 then -ns.getD i.toNat 0 else ns.getD i.toNat 0).fmod (10 ^ Int.toNat 30)) < 10 ^ 30 := by
      rw [Int.fmod_eq_emod_of_nonneg _ (by decide)]
      exact ⟨Int.emod_nonneg _ (by decide), Int.emod_lt_of_pos _ (by decide)⟩
    generalize hkk : (if ns.getD i.toNat 0 < 0 then -ns.getD i.toNat 0 else ns.getD i.toNat 0).fmod (10 ^ Int.toNat 30) = kp at hkept
    iterate 9 (focus (first | ((first | ((rename (∀ (f : Flow) (s : Shared), _ → _) => hq); (with_reducible refine Mine.cutQ hq ?_); clear hq; (rename (Flow → Shared → Prop) => qq); clear qq) | (with_reducible refine Mine.cutQ (by with_reducible assumption) ?_)); (try dsimp only)) | ((first | (k_unfold; (try dsimp only)) | (k_end; kc_close) | walk1 | (dsimp only; walk1) | (leave1; (try dsimp only)) | fail "no step"); (try ((with_reducible show wpAny _ _ (exec _ _) (fun _ _ => _) _ _); refine Mine.gen_Q ?_; intro QQ9 hQ9)))))
    iterate 1 (focus (first | ((first | ((rename (∀ (f : Flow) (s : Shared), _ → _) => hq); (with_reducible refine Mine.cutQ hq ?_); clear hq; (rename (Flow → Shared → Prop) => qq); clear qq) | (with_reducible refine Mine.cutQ (by with_reducible assumption) ?_)); (try dsimp only)) | ((first | (k_unfold; (try dsimp only)) | (k_end; kc_close) | walk1 | (dsimp only; walk1) | (leave1; (try dsimp only)) | fail "no step"); (try ((with_reducible show wpAny _ _ (exec _ _) (fun _ _ => _) _ _); refine Mine.gen_Q ?_; intro QQ9 hQ9)))))
    iterate 2 (focus (first | ((first | ((rename (∀ (f : Flow) (s : Shared), _ → _) => hq); (with_reducible refine Mine.cutQ hq ?_); clear hq; (rename (Flow → Shared → Prop) => qq); clear qq) | (with_reducible refine Mine.cutQ (by with_reducible assumption) ?_)); (try dsimp only)) | ((first | (k_unfold; (try dsimp only)) | (k_end; kc_close) | walk1 | (dsimp only; walk1) | (leave1; (try dsimp only)) | fail "no step"); (try ((with_reducible show wpAny _ _ (exec _ _) (fun _ _ => _) _ _); refine Mine.gen_Q ?_; intro QQ9 hQ9)))))
    · rw [hkk] at *
      refine ksa_set (vs := ivs cs') (ns := cs'.map (·.1)) (by k_asm) (by k_asm) (by k_upd) (ivs_ints cs') hmod10.1 (by simp; omega) (by omega) ?_
      intro h5 F5 N5 _ _; (try k_sweep)
      iterate 6 (focus (first | ((first | ((rename (∀ (f : Flow) (s : Shared), _ → _) => hq); (with_reducible refine Mine.cutQ hq ?_); clear hq; (rename (Flow → Shared → Prop) => qq); clear qq) | (with_reducible refine Mine.cutQ (by with_reducible assumption) ?_)); (try dsimp only)) | ((first | (k_unfold; (try dsimp only)) | (k_end; kc_close) | walk1 | (dsimp only; walk1) | (leave1; (try dsimp only)) | fail "no step"); (try ((with_reducible show wpAny _ _ (exec _ _) (fun _ _ => _) _ _); refine Mine.gen_Q ?_; intro QQ9 hQ9)))))
      refine' ksw_end ⟨i + 1, lf - 1, cs'.set (i.fmod 10).toNat (cs'[j].1 + kp, ?_), n⟩ ?F ?N ?hn ?hf ?hk ?hr ?hp ?hm
      case F => k_asm
      case N => k_asm
      case hk => exact fun _ h => nomatch h
      case hn =>
        dsimp only
        intro q hq
        rw [show ivs (cs'.set (i.fmod 10).toNat (cs'[j].1 + kp, _)) = (ivs cs').set (i.fmod 10).toNat (.int (cs'[j].1 + kp) _) from List.map_set ..] at hq
        exact hq
      case hf => dsimp only; omega
      case hr => (dsimp only [kstB]; ksw_same)
      case hp =>
        refine ⟨⟨by dsimp only; omega, by dsimp only; omega⟩, by dsimp only; simp [hp2], ?_⟩
        dsimp only
        intro z hz
        rcases List.mem_or_eq_of_mem_set hz with hz | rfl
        · have := hp3 z hz
          omega
        · have h9 := hp3 cs'[j] (List.getElem_mem hj10)
          dsimp only
          omega
      case hm => dsimp only; omega
    · iterate 4 (focus (first | ((first | ((rename (∀ (f : Flow) (s : Shared), _ → _) => hq); (with_reducible refine Mine.cutQ hq ?_); clear hq; (rename (Flow → Shared → Prop) => qq); clear qq) | (with_reducible refine Mine.cutQ (by with_reducible assumption) ?_)); (try dsimp only)) | ((first | (k_unfold; (try dsimp only)) | (k_end; kc_close) | walk1 | (dsimp only; walk1) | (leave1; (try dsimp only)) | fail "no step"); (try ((with_reducible show wpAny _ _ (exec _ _) (fun _ _ => _) _ _); refine Mine.gen_Q ?_; intro QQ9 hQ9)))))
      rw [hkk] at *
      refine ksa_set (vs := ivs cs') (ns := cs'.map (·.1)) (by k_asm) (by k_asm) (by k_upd) (ivs_ints cs') hmod10.1 (by simp; omega) (by omega) ?_
      intro h5 F5 N5 _ _; (try k_sweep)
      iterate 6 (focus (first | ((first | ((rename (∀ (f : Flow) (s : Shared), _ → _) => hq); (with_reducible refine Mine.cutQ hq ?_); clear hq; (rename (Flow → Shared → Prop) => qq); clear qq) | (with_reducible refine Mine.cutQ (by with_reducible assumption) ?_)); (try dsimp only)) | ((first | (k_unfold; (try dsimp only)) | (k_end; kc_close) | walk1 | (dsimp only; walk1) | (leave1; (try dsimp only)) | fail "no step"); (try ((with_reducible show wpAny _ _ (exec _ _) (fun _ _ => _) _ _); refine Mine.gen_Q ?_; intro QQ9 hQ9)))))
      refine' ksw_end ⟨i + 1, lf - 1, cs'.set (i.fmod 10).toNat (cs'[j].1 + -kp, ?_), n⟩ ?F ?N ?hn ?hf ?hk ?hr ?hp ?hm
      case F => k_asm
      case N => k_asm
      case hk => exact fun _ h => nomatch h
      case hn =>
        dsimp only
        intro q hq
        rw [show ivs (cs'.set (i.fmod 10).toNat (cs'[j].1 + -kp, _)) = (ivs cs').set (i.fmod 10).toNat (.int (cs'[j].1 + -kp) _) from List.map_set ..] at hq
        exact hq
      case hf => dsimp only; omega
      case hr => (dsimp only [kstB]; ksw_same)
      case hp =>
        refine ⟨⟨by dsimp only; omega, by dsimp only; omega⟩, by dsimp only; simp [hp2], ?_⟩
        dsimp only
        intro z hz
        rcases List.mem_or_eq_of_mem_set hz with hz | rfl
        · have := hp3 z hz
          omega
        · have h9 := hp3 cs'[j] (List.getElem_mem hj10)
          dsimp only
          omega
      case hm => dsimp only; omega
end Mine
end
section
open PySem PySem.W PyProof.Rows PyProof.V PySem.Spec PySem.SeqAt
set_option maxRecDepth 100000
namespace Mine
def rwName (k : Int) : Str := if k = 0 then Str.ofString "7" else if k = 1 then Str.ofString "70" else Str.ofString "17"
def rowGo : Nat → Int → List Str
  | 0, _ => []
  | n + 1, left => rwName ((left.fdiv 3).fmod 3) :: rowGo n (left.fdiv 3)
def rowOf (c : Int) : List Str := let left := if c < 0 then -c else c; rowGo (1 + left.fmod 3).toNat left
structure RwSt where
  left : Int
  tl : Tok
  i : Int
  lf : Int
  ws : List (Str × Tok)
  n : Nat
theorem rw_pick (t1 t2 t3 : Tok) {k : Int} (h0 : 0 ≤ k) (h3 : k < 3) : ∃ t, [Value.str (Str.ofString "7") t1, Value.str (Str.ofString "70") t2, Value.str (Str.ofString "17") t3][k.toNat]? = some (.str (rwName k) t) := by
  have : k = 0 ∨ k = 1 ∨ k = 2 := by omega
  rcases this with rfl | rfl | rfl <;> exact ⟨_, rfl⟩
set_option maxHeartbeats 0 in
theorem row (w : World) (p : Program) (loose : List Str) (mean : ExcName → Option Value) (mg mb : Str → Option Value)
  (c : Int) (t1 : Tok) (Z : List (Addr × Obj)) :
  Spec w p loose mean mg mb 162 6 [.int c t1] Z (fun v nw => ∃ D n ws, v = .ref D ∧ nw = (D, listOf (svs ws).toArray n) :: Z ∧ (∀ p ∈ Z, p.1 ≠ D) ∧ wds ws = rowOf c) := by
  unfold Spec
  k_fill
  intro dp un gd cn cs a ccd cl outer A₀ base h₀ L m s Q E B F X N T hk hd hu hret
  k_dflt cell_enter
  rename Fr _ _ _ (fun _ => _) => F0; refine letM F0 ?_; clear F0; intro M0 F1
  refine letEA ?_; intro e9 A9
  iterate 22 (focus (first | ((first | ((rename (∀ (f : Flow) (s : Shared), _ → _) => hq); (with_reducible refine Mine.cutQ hq ?_); clear hq; (rename (Flow → Shared → Prop) => qq); clear qq) | (with_reducible refine Mine.cutQ (by with_reducible assumption) ?_)); (try dsimp only)) | ((first | (k_unfold; (try dsimp only)) | (k_end; kc_close) | walk1 | (dsimp only; walk1) | (leave1; (try dsimp only)) | fail "no step"); (try ((with_reducible show wpAny _ _ (exec _ _) (fun _ _ => _) _ _); refine Mine.gen_Q ?_; intro QQ9 hQ9)))))
  rename News _ _ _ ((_, listOf #[] 0) :: _) => NW
  rename ∀ p ∈ Z, p.1 < _ => lW
  rename_i W0 _ _ _
  obtain ⟨l0, hl0⟩ : ∃ l0, l0 = if c < 0 then -c else c := ⟨_, rfl⟩
  have hl0p : 0 ≤ l0 := by rw [hl0]; split <;> omega
  have hmod : l0.fmod 3 = l0 % 3 := Int.fmod_eq_emod_of_nonneg _ (by omega)
  refine wpAny_For ?_
  iterate 12 (focus (first | ((first | ((rename (∀ (f : Flow) (s : Shared), _ → _) => hq); (with_reducible refine Mine.cutQ hq ?_); clear hq; (rename (Flow → Shared → Prop) => qq); clear qq) | (with_reducible refine Mine.cutQ (by with_reducible assumption) ?_)); (try dsimp only)) | ((first | (k_unfold; (try dsimp only)) | (k_end; kc_close) | walk1 | (dsimp only; walk1) | (leave1; (try dsimp only)) | fail "no step"); (try ((with_reducible show wpAny _ _ (exec _ _) (fun _ _ => _) _ _); refine Mine.gen_Q ?_; intro QQ9 hQ9)))))
  refine range_it (by k_asm) (by k_asm) (by rw [← hl0]; omega) (by rw [← hl0]; omega) ?_
  intro I h1 tk1 F1 N1 l1; (try k_lt l1); (try k_sweep)
  refine' For_g (σ := RwSt) (fun c => (I, rgIt c.i c.lf 1) :: (W0, listOf (svs c.ws).toArray c.n) :: Z) (fun c => [("left", .int c.left c.tl)]) (fun c => 0 ≤ c.left) ["k"]
    (fun q => 0 ≤ q.lf ∧ q.ws.length + q.lf ≤ 3 ∧ wds q.ws ++ rowGo q.lf.toNat q.left = rowOf c) (fun q => q.lf.toNat) ⟨l0, ?_, 0, 1 + l0.fmod 3, [], 0⟩ F1 ?_ ?_ ?kMap ?_ ?_
  case kMap => (dsimp only; rw [hl0]; kst_all)
  · dsimp only
    rw [hl0]
    exact N1
  · exact hl0p
  · refine ⟨by dsimp only; omega, by dsimp only; simp; omega, ?_⟩
    unfold rowOf
    dsimp only
    rw [← hl0]
    rfl
  rintro ⟨left, tl, i, lf, ws, n⟩ u h tk QB hB hfa ⟨hp1, hp2, hp3⟩ FF NN
  dsimp only at hfa hp1 hp2 hp3 FF NN
  have hne : ∀ p ∈ (W0, listOf (svs ws).toArray n) :: Z, p.1 ≠ I := allNe_lt (d := I) ⟨l1.1, l1.2⟩
  by_cases hlf : lf ≤ 0
  · refine next_range_end rfl FF NN hne hlf ?_
    intro h2 F2 N2; (try k_sweep)
    dsimp only
    iterate 7 (focus (first | ((first | ((rename (∀ (f : Flow) (s : Shared), _ → _) => hq); (with_reducible refine Mine.cutQ hq ?_); clear hq; (rename (Flow → Shared → Prop) => qq); clear qq) | (with_reducible refine Mine.cutQ (by with_reducible assumption) ?_)); (try dsimp only)) | ((first | (k_unfold; (try dsimp only)) | (k_end; kc_close) | walk1 | (dsimp only; walk1) | (leave1; (try dsimp only)) | fail "no step"); (try ((with_reducible show wpAny _ _ (exec _ _) (fun _ _ => _) _ _); refine Mine.gen_Q ?_; intro QQ9 hQ9)))))
    rename News h₀ _ _ _ => NR
    refine hret _ _ _ _ ⟨W0, _, ws, rfl, rfl, allNe_all lW, ?_⟩ (by k_asm) NR
    have e : lf = 0 := by omega
    subst e
    simpa [rowGo] using hp3
  · refine next_range FF NN hne (by omega) ?_
    intro h2 tk2 t2 F2 N2; (try k_sweep)
    dsimp only
    have hmod3 : 0 ≤ (left.fdiv 3).fmod 3 ∧ (left.fdiv 3).fmod 3 < 3 := by
      rw [Int.fmod_eq_emod_of_nonneg _ (by omega)]
      omega
    iterate 31 (focus (first | ((first | ((rename (∀ (f : Flow) (s : Shared), _ → _) => hq); (with_reducible refine Mine.cutQ hq ?_); clear hq; (rename (Flow → Shared → Prop) => qq); clear qq) | (with_reducible refine Mine.cutQ (by with_reducible assumption) ?_)); (try dsimp only)) | ((first | (k_unfold; (try dsimp only)) | (k_end; kc_close) | walk1 | (dsimp only; walk1) | (leave1; (try dsimp only)) | fail "no step"); (try ((with_reducible show wpAny _ _ (exec _ _) (fun _ _ => _) _ _); refine Mine.gen_Q ?_; intro QQ9 hQ9)))))
    obtain ⟨tp, hpk⟩ := rw_pick (_ : Tok) (_ : Tok) (_ : Tok) hmod3.1 hmod3.2
    refine item_litK (News.isList (by k_asm) (by k_mem)) hmod3.1 (by omega) hpk ?_ (by with_unfolding_all rfl)
    iterate 1 (focus (first | ((first | ((rename (∀ (f : Flow) (s : Shared), _ → _) => hq); (with_reducible refine Mine.cutQ hq ?_); clear hq; (rename (Flow → Shared → Prop) => qq); clear qq) | (with_reducible refine Mine.cutQ (by with_reducible assumption) ?_)); (try dsimp only)) | ((first | (k_unfold; (try dsimp only)) | (k_end; kc_close) | walk1 | (dsimp only; walk1) | (leave1; (try dsimp only)) | fail "no step"); (try ((with_reducible show wpAny _ _ (exec _ _) (fun _ _ => _) _ _); refine Mine.gen_Q ?_; intro QQ9 hQ9)))))
    refine append_K (its := (svs ws).toArray) (n := n) (by k_asm) (by k_asm) (by k_upd) ?_ (by size_fits)
    intro h5 F5 N5; (try k_sweep)
    iterate 5 (focus (first | ((first | ((rename (∀ (f : Flow) (s : Shared), _ → _) => hq); (with_reducible refine Mine.cutQ hq ?_); clear hq; (rename (Flow → Shared → Prop) => qq); clear qq) | (with_reducible refine Mine.cutQ (by with_reducible assumption) ?_)); (try dsimp only)) | ((first | (k_unfold; (try dsimp only)) | (k_end; kc_close) | walk1 | (dsimp only; walk1) | (leave1; (try dsimp only)) | fail "no step"); (try ((with_reducible show wpAny _ _ (exec _ _) (fun _ _ => _) _ _); refine Mine.gen_Q ?_; intro QQ9 hQ9)))))
    have hnil : rowGo lf.toNat left = rwName ((left.fdiv 3).fmod 3) :: rowGo (lf - 1).toNat (left.fdiv 3) := by
      obtain ⟨q, hq⟩ : ∃ q : Nat, lf = ((q + 1 : Nat) : Int) := ⟨lf.toNat - 1, by omega⟩
      subst hq
      rw [show (((q + 1 : Nat) : Int)).toNat = q + 1 by omega, show (((q + 1 : Nat) : Int) - 1).toNat = q by omega]
      rfl
    refine' ksw_end ⟨left.fdiv 3, ?_, i + 1, lf - 1, ws ++ [(rwName ((left.fdiv 3).fmod 3), tp)], n + 1⟩ ?F ?N ?hn ?hf ?hk ?hr ?hp ?hm
    case F => k_asm
    case N => k_asm
    case hk => (dsimp only; kst_all)
    case hn => dsimp only; simp only [svs, List.map_append, List.map_cons, List.map_nil]; intro q hq; simp only [List.mem_cons] at hq ⊢; rcases hq with h | h | h <;> simp [h]
    case hf => dsimp only; rw [Int.fdiv_eq_ediv_of_nonneg _ (by omega)]; omega
    case hr => (dsimp only [kstB]; ksw_same)
    case hp => refine ⟨by dsimp only; omega, by dsimp only; simp; omega, ?_⟩; dsimp only; rw [← hp3, hnil]; simp [wds]
    case hm => dsimp only; omega
end Mine
end
section
open PySem PySem.W PyProof.Rows PyProof.V PySem.Spec PySem.SeqAt
set_option maxRecDepth 100000
namespace Mine
open PySem.Sre

abbrev ipC : Array Nat := #[14, 8, 1, 2, 4294967295, 1, 1, 46, 0, 16, 46, 24, 9, 1, 4294967295, 13, 4, 8, 0, 0, 1, 6, 5, 1]

abbrev fr0 (s : Nat) (o : Bool) : Sre.Frame := { wait := .nextStart, pc := 9, pos := s, outermost := o }
/-- the machine at the start of an attempt at s -/
abbrev atS (t : Array Nat) (s : Nat) (o : Bool) (seen : Sre.Seen) : M :=
  { code := ipC, text := t, lim := t.size, start := s, lastStart := t.size, pc := 9, pos := s, handed := s, outermost := o, marks := #[], frames := [fr0 s o], weight := 1, seen }

theorem step_lit_no {t : Array Nat} {s : Nat} {o : Bool} {seen : Sre.Seen} (h : ¬ s ≥ t.size) (hc : (t.getD s 0 == 46) = false) :
    (atS t s o seen).step = { atS t s o (seen.add 16) with answer := some false } := by
  show (if s ≥ t.size then _ else _) = _
  rw [if_neg h]
  show (match (Except.ok (t.getD s 0 == 46, seen.add 16) : Except String (Bool × Sre.Seen)) with | .error why => _ | .ok (false, seen) => _ | .ok (true, seen) => _) = _
  rw [hc]
  rfl
theorem step_lit_end {t : Array Nat} {s : Nat} {o : Bool} {seen : Sre.Seen} (h : s ≥ t.size) :
    (atS t s o seen).step = { atS t s o (seen.add 16) with answer := some false } := by
  show (if s ≥ t.size then _ else _) = _
  rw [if_pos h]
  rfl
theorem step_lit_yes {t : Array Nat} {s : Nat} {o : Bool} {seen : Sre.Seen} (h : ¬ s ≥ t.size) (hc : (t.getD s 0 == 46) = true) :
    (atS t s o seen).step = { atS t s o (seen.add 16) with pc := 11, pos := s + 1 } := by
  show (if s ≥ t.size then _ else _) = _
  rw [if_neg h]
  show (match (Except.ok (t.getD s 0 == 46, seen.add 16) : Except String (Bool × Sre.Seen)) with | .error why => _ | .ok (false, seen) => _ | .ok (true, seen) => _) = _
  rw [hc]
  rfl

def Rch (n : Nat) (m m' : M) : Prop := ∀ k, M.runFor (n + k) m = M.runFor k m'
theorem Rch.one {m m' : M} (h0 : m.outcome = none) (h : m.step = m') : Rch 1 m m' := fun k => by
  rw [Nat.add_comm 1 k]
  show (if m.outcome.isSome then m else M.runFor k m.step) = _
  rw [h0, h]
  rfl
theorem Rch.trans {a b : Nat} {m m1 m2 : M} (h1 : Rch a m m1) (h2 : Rch b m1 m2) : Rch (a + b) m m2 := fun k => by
  rw [Nat.add_assoc, h1, h2]
theorem Rch.zero (m : M) : Rch 0 m m := fun k => by rw [Nat.zero_add]

theorem accepts_dig (c : Nat) (seen : Sre.Seen) : ∃ seen', accepts ipC 15 c seen = .ok (Sre.isDigit c, seen') := by
  have e : accepts ipC 15 c seen = (match (Except.ok (Sre.isDigit c != (0 % 2 == 1)) : Except String Bool) with
    | .error e => .error e
    | .ok b => if b = true then .ok (true, (seen.add 8).add 55) else .ok (false, ((seen.add 8).add 55).add 0)) := rfl
  rw [e]
  cases h : Sre.isDigit c with
  | true => exact ⟨_, rfl⟩
  | false => exact ⟨_, rfl⟩

def digs (t : Array Nat) : (n p : Nat) → Nat
  | 0, _ => 0
  | n + 1, p => if Sre.isDigit (t.getD p 0) then digs t n (p + 1) + 1 else 0
theorem run_digs (t : Array Nat) : ∀ (n p found : Nat) (seen : Sre.Seen), ∃ seen', Sre.run ipC t 15 n p found seen = .ok (found + digs t n p, seen')
  | 0, p, found, seen => ⟨seen, rfl⟩
  | n + 1, p, found, seen => by
    obtain ⟨s1, h1⟩ := accepts_dig (t.getD p 0) seen
    cases h : Sre.isDigit (t.getD p 0) with
    | true =>
      obtain ⟨s2, h2⟩ := run_digs t n (p + 1) (found + 1) s1
      refine ⟨s2, ?_⟩
      have hd : digs t (n + 1) p = digs t n (p + 1) + 1 := by simp only [digs, h, if_true]
      rw [hd]
      unfold Sre.run
      rw [h1, h]
      show Sre.run ipC t 15 n (p + 1) (found + 1) s1 = _
      rw [h2]
      congr 2
      omega
    | false =>
      refine ⟨s1, ?_⟩
      have hd : digs t (n + 1) p = 0 := by simp only [digs, h]; rfl
      rw [hd]
      unfold Sre.run
      rw [h1, h]
      rfl

abbrev failS (t : Array Nat) (s : Nat) (o : Bool) (seen : Sre.Seen) (pc pos hd : Nat) : M := { atS t s o seen with pc := pc, pos := pos, handed := hd, answer := some false }
theorem step_next {t : Array Nat} {s pc pos hd : Nat} {o : Bool} {seen : Sre.Seen} (h : s < t.size) : (failS t s o seen pc pos hd).step = atS t (s + 1) false seen := by
  show (if s < t.size then _ else _) = _
  rw [if_pos h]
  rfl
theorem step_stop {t : Array Nat} {s pc pos hd : Nat} {o : Bool} {seen : Sre.Seen} (h : ¬ s < t.size) : ∃ m, Rch 2 (failS t s o seen pc pos hd) m ∧ m.outcome = some .failed ∧ m.answer = some false := by
  have h1 : (failS t s o seen pc pos hd).step = { atS t s o seen with pc := 9, pos := s, handed := hd, frames := [], weight := 0, answer := some false } := by
    show (if s < t.size then _ else _) = _
    rw [if_neg h]
    rfl
  exact ⟨_, Rch.trans (Rch.one rfl h1) (Rch.one rfl rfl), rfl, rfl⟩

abbrev bS (t : Array Nat) (s : Nat) (o : Bool) (seen : Sre.Seen) : M := { atS t s o seen with pc := 11, pos := s + 1 }
abbrev gbF (s j : Nat) (o : Bool) : Sre.Frame := { wait := .giveBack, pc := 11, pos := s + 1 + j, outermost := o, count := j, kept := { lastmark := -1, lastindex := -1, whole := false, marks := #[] } }
/-- j signs taken, the end is looked at -/
abbrev gS (t : Array Nat) (s j : Nat) (o : Bool) (seen : Sre.Seen) : M := { atS t s o seen with pc := 21, pos := s + 1 + j, handed := s + 1 + j, frames := [gbF s j o, fr0 s o], weight := 2 }

theorem step_rep_room {t : Array Nat} {s : Nat} {o : Bool} {seen : Sre.Seen} (h : t.size ≤ s + 1) : (bS t s o seen).step = failS t s o (seen.add 24) 11 (s + 1) s := by
  show (if ((1 : Nat) : Int) > ((t.size : Int) - ((s + 1 : Nat) : Int)) then _ else _) = _
  rw [if_pos (by omega)]
  rfl
def nDig (t : Array Nat) (s : Nat) : Nat := digs t (min 4294967295 ((t.size : Int) - ((s + 1 : Nat) : Int)).toNat) (s + 1)
theorem step_rep {t : Array Nat} {s : Nat} {o : Bool} {seen : Sre.Seen} (h : ¬ t.size ≤ s + 1) :
    ∃ seen', (bS t s o seen).step = if nDig t s < 1 then failS t s o seen' 11 (s + 1) s else gS t s (nDig t s) o seen' := by
  obtain ⟨seen', hr⟩ := run_digs t (min 4294967295 ((t.size : Int) - ((s + 1 : Nat) : Int)).toNat) (s + 1) 0 ((seen.add 24).add 13)
  refine ⟨seen', ?_⟩
  show (if ((1 : Nat) : Int) > ((t.size : Int) - ((s + 1 : Nat) : Int)) then _ else _) = _
  rw [if_neg (by omega)]
  show (match Sre.run ipC t 15 (min 4294967295 ((t.size : Int) - ((s + 1 : Nat) : Int)).toNat) (s + 1) 0 ((seen.add 24).add 13) with
    | .error why => _ | .ok (n, seen) => _) = _
  rw [hr]
  rw [Nat.zero_add]
  show (if nDig t s < 1 then _ else _) = _
  by_cases hn : nDig t s < 1
  · rw [if_pos hn, if_pos hn]; rfl
  · rw [if_neg hn, if_neg hn]; rfl

def atEnd (t : Array Nat) (p : Nat) : Bool := p == t.size || (p + 1 == t.size && t.getD p 0 == 10)
theorem step_at {t : Array Nat} {s j : Nat} {o : Bool} {seen : Sre.Seen} : ∃ seen', (gS t s j o seen).step = if atEnd t (s + 1 + j) = true then { gS t s j o seen' with pc := 23 } else { gS t s j o seen' with answer := some false } := by
  refine ⟨(seen.add 6).add 48, ?_⟩
  show (if atEnd t (s + 1 + j) = true then _ else _) = _
  by_cases h : atEnd t (s + 1 + j) = true
  · rw [if_pos h, if_pos h]; rfl
  · rw [if_neg h, if_neg h]; rfl

/-- a match: from s up to e -/
structure Hit (m : M) (s e : Nat) : Prop where
  out : m.outcome = some .matched
  start : m.start = s
  handed : m.handed = e
  lastmark : m.lastmark = -1
  lastindex : m.lastindex = -1
  marks : m.marks = #[]

theorem step_succ {t : Array Nat} {s j : Nat} {o : Bool} {seen : Sre.Seen} : ∃ m, Rch 4 { gS t s j o seen with pc := 23 } m ∧ Hit m s (s + 1 + j) := by
  have h1 : ({ gS t s j o seen with pc := 23 } : M).step = { gS t s j o (seen.add 1) with pc := 23, answer := some true } := by
    cases o <;> rfl
  have h2 : ({ gS t s j o (seen.add 1) with pc := 23, answer := some true } : M).step = { atS t s o (seen.add 1) with pc := 11, pos := s + 1 + j, handed := s + 1 + j, answer := some true } := rfl
  have h3 : ({ atS t s o (seen.add 1) with pc := 11, pos := s + 1 + j, handed := s + 1 + j, answer := some true } : M).step = { atS t s o (seen.add 1) with pc := 9, pos := s, handed := s + 1 + j, frames := [], weight := 0, answer := some true } := rfl
  exact ⟨_, Rch.trans (Rch.one rfl h1) (Rch.trans (Rch.one rfl h2) (Rch.trans (Rch.one rfl h3) (Rch.one rfl rfl))), rfl, rfl, rfl, rfl, rfl, rfl⟩
theorem back_zero {t : Array Nat} {s : Nat} {o : Bool} {seen : Sre.Seen} : ({ gS t s 1 o seen with answer := some false } : M).step = failS t s o seen 11 (s + 1 + 1) (s + 1 + 1) := rfl
theorem back_more {t : Array Nat} {s i : Nat} {o : Bool} {seen : Sre.Seen} (hi : 1 ≤ i) : ({ gS t s (i + 1) o seen with answer := some false } : M).step = gS t s i o seen := by
  show (if ((i + 1 : Nat) : Int) - 1 < ((1 : Nat) : Int) then _ else _) = _
  rw [if_neg (by omega)]
  have e : ((i + 1 : Nat) : Int) - 1 = (i : Int) := by omega
  show ({ atS t s o seen with pc := 21, pos := s + 1 + i, handed := s + 1 + i, frames := [{ wait := .giveBack, pc := 11, pos := s + 1 + i, outermost := o, count := ((i + 1 : Nat) : Int) - 1, kept := { lastmark := -1, lastindex := -1, whole := false, marks := #[] } }, fr0 s o], weight := 2 } : M) = _
  rw [e]

theorem back_all {t : Array Nat} {s : Nat} {o : Bool} : ∀ (j : Nat) (seen : Sre.Seen), 1 ≤ j → (∀ i, 1 ≤ i → i ≤ j → atEnd t (s + 1 + i) = false) → ∃ n seen' pos hd, n ≤ 2 * j ∧ Rch n (gS t s j o seen) (failS t s o seen' 11 pos hd)
  | 0, _, h, _ => absurd h (by omega)
  | 1, seen, _, hf => by
    obtain ⟨s1, h1⟩ := step_at (t := t) (s := s) (j := 1) (o := o) (seen := seen)
    rw [hf 1 (by omega) (by omega), if_neg (by decide)] at h1
    exact ⟨2, s1, _, _, by omega, Rch.trans (Rch.one rfl h1) (Rch.one rfl back_zero)⟩
  | i + 2, seen, _, hf => by
    obtain ⟨s1, h1⟩ := step_at (t := t) (s := s) (j := i + 2) (o := o) (seen := seen)
    rw [hf (i + 2) (by omega) (by omega), if_neg (by decide)] at h1
    obtain ⟨n, s2, pos, hd, hn, hr⟩ := back_all (t := t) (s := s) (o := o) (i + 1) s1 (by omega) (fun k h1 h2 => hf k h1 (by omega))
    exact ⟨1 + (1 + n), s2, pos, hd, by omega, Rch.trans (Rch.one rfl h1) (Rch.trans (Rch.one rfl (back_more (by omega))) hr)⟩

/-- what lies at s: a dot, signs 0 to 9 behind it, then the end -/
def hitAt (t : Array Nat) (s : Nat) : Bool := decide (s < t.size) && t.getD s 0 == 46 && decide (1 ≤ nDig t s) && atEnd t (s + 1 + nDig t s)

theorem digs_le (t : Array Nat) : ∀ n p, digs t n p ≤ n
  | 0, _ => Nat.le_refl _
  | n + 1, p => by
    simp only [digs]
    split
    · have := digs_le t n (p + 1); omega
    · omega
theorem digs_dig (t : Array Nat) : ∀ n p i, i < digs t n p → Sre.isDigit (t.getD (p + i) 0) = true
  | 0, _, _, h => absurd h (Nat.not_lt_zero _)
  | n + 1, p, i, h => by
    simp only [digs] at h
    split at h
    · rename_i hd
      cases i with
      | zero => exact hd
      | succ i =>
        have := digs_dig t n (p + 1) i (by omega)
        rw [show p + (i + 1) = p + 1 + i by omega]
        exact this
    · omega
theorem nDig_le {t : Array Nat} {s : Nat} (h : s + 1 ≤ t.size) : s + 1 + nDig t s ≤ t.size := by
  have := digs_le t (min 4294967295 ((t.size : Int) - ((s + 1 : Nat) : Int)).toNat) (s + 1)
  unfold nDig
  omega

theorem att_miss {t : Array Nat} {s : Nat} {o : Bool} {seen : Sre.Seen} (h : hitAt t s = false) : ∃ n seen' pc pos hd, n ≤ 2 * t.size + 4 ∧ Rch n (atS t s o seen) (failS t s o seen' pc pos hd) := by
  by_cases hs : s ≥ t.size
  · exact ⟨1, _, _, _, _, by omega, Rch.one rfl (step_lit_end hs)⟩
  cases hc : (t.getD s 0 == 46) with
  | false => exact ⟨1, _, _, _, _, by omega, Rch.one rfl (step_lit_no hs hc)⟩
  | true =>
    have r1 := Rch.one rfl (step_lit_yes (o := o) (seen := seen) hs hc)
    by_cases hroom : t.size ≤ s + 1
    · exact ⟨1 + 1, _, _, _, _, by omega, r1.trans (Rch.one rfl (step_rep_room hroom))⟩
    obtain ⟨s1, h1⟩ := step_rep (o := o) (seen := seen.add 16) hroom
    by_cases hn : nDig t s < 1
    · rw [if_pos hn] at h1
      exact ⟨1 + 1, _, _, _, _, by omega, r1.trans (Rch.one rfl h1)⟩
    · rw [if_neg hn] at h1
      have hle := nDig_le (t := t) (s := s) (by omega)
      have he : atEnd t (s + 1 + nDig t s) = false := by
        unfold hitAt at h
        rw [hc] at h
        simpa [show s < t.size by omega, show 1 ≤ nDig t s by omega] using h
      obtain ⟨n, s2, pos, hd, hnb, hr⟩ := back_all (t := t) (s := s) (o := o) (nDig t s) s1 (by omega) (fun i h1 h2 => by
        by_cases hi : i = nDig t s
        · rw [hi]; exact he
        · have hdg := digs_dig t (min 4294967295 ((t.size : Int) - ((s + 1 : Nat) : Int)).toNat) (s + 1) i (show i < nDig t s by omega)
          unfold atEnd
          have hne : ¬ (t.getD (s + 1 + i) 0 = 10) := by
            intro e
            rw [e] at hdg
            revert hdg
            decide
          have h3 : ¬ (s + 1 + i = t.size) := by omega
          rw [show (s + 1 + i == t.size) = false from beq_eq_false_iff_ne.mpr h3, show (t.getD (s + 1 + i) 0 == 10) = false from beq_eq_false_iff_ne.mpr hne]
          simp)
      exact ⟨1 + (1 + n), s2, _, _, _, by omega, r1.trans ((Rch.one rfl h1).trans hr)⟩
theorem att_hit {t : Array Nat} {s : Nat} {o : Bool} {seen : Sre.Seen} (h : hitAt t s = true) : ∃ m, Rch 7 (atS t s o seen) m ∧ Hit m s (s + 1 + nDig t s) := by
  unfold hitAt at h
  simp only [Bool.and_eq_true, decide_eq_true_eq] at h
  obtain ⟨⟨⟨h1, h2⟩, h3⟩, h4⟩ := h
  have r1 := Rch.one rfl (step_lit_yes (o := o) (seen := seen) (Nat.not_le.mpr h1) h2)
  have hroom : ¬ t.size ≤ s + 1 := by
    intro hh
    unfold nDig at h3
    rw [show ((t.size : Int) - ((s + 1 : Nat) : Int)).toNat = 0 by omega] at h3
    simp [digs] at h3
  obtain ⟨s1, e1⟩ := step_rep (o := o) (seen := seen.add 16) hroom
  rw [if_neg (by omega)] at e1
  obtain ⟨s2, e2⟩ := step_at (t := t) (s := s) (j := nDig t s) (o := o) (seen := s1)
  rw [if_pos h4] at e2
  obtain ⟨m, r2, hm⟩ := step_succ (t := t) (s := s) (j := nDig t s) (o := o) (seen := s2)
  exact ⟨m, r1.trans ((Rch.one rfl e1).trans ((Rch.one rfl e2).trans r2)), hm⟩

/-- the search, from s on -/
theorem search_miss {t : Array Nat} : ∀ (d s : Nat) (o : Bool) (seen : Sre.Seen), t.size - s = d → s ≤ t.size → (∀ i, s ≤ i → hitAt t i = false) → ∃ n m, n ≤ (d + 1) * (2 * t.size + 5) + 2 ∧ Rch n (atS t s o seen) m ∧ m.outcome = some .failed
  | 0, s, o, seen, hd, hs, hm => by
    obtain ⟨n, s1, pc, pos, hdd, hn, hr⟩ := att_miss (o := o) (seen := seen) (hm s (Nat.le_refl _))
    obtain ⟨m, r2, ho, _⟩ := step_stop (t := t) (s := s) (pc := pc) (pos := pos) (hd := hdd) (o := o) (seen := s1) (by omega)
    exact ⟨n + 2, m, by omega, hr.trans r2, ho⟩
  | d + 1, s, o, seen, hd, hs, hm => by
    obtain ⟨n, s1, pc, pos, hdd, hn, hr⟩ := att_miss (o := o) (seen := seen) (hm s (Nat.le_refl _))
    obtain ⟨n2, m, hn2, r2, ho⟩ := search_miss (t := t) d (s + 1) false s1 (by omega) (by omega) (fun i hi => hm i (by omega))
    refine ⟨n + (1 + n2), m, ?_, hr.trans ((Rch.one rfl (step_next (by omega))).trans r2), ho⟩
    have : (d + 1 + 1) * (2 * t.size + 5) = (d + 1) * (2 * t.size + 5) + (2 * t.size + 5) := by rw [Nat.add_mul (d + 1) 1, Nat.one_mul]
    omega
theorem search_hit {t : Array Nat} {q : Nat} (hq : hitAt t q = true) : ∀ (d s : Nat) (o : Bool) (seen : Sre.Seen), q - s = d → s ≤ q → (∀ i, s ≤ i → i < q → hitAt t i = false) → ∃ n m, n ≤ (d + 1) * (2 * t.size + 5) + 7 ∧ Rch n (atS t s o seen) m ∧ Hit m q (q + 1 + nDig t q)
  | 0, s, o, seen, hd, hs, hm => by
    have e : s = q := by omega
    subst e
    obtain ⟨m, r, h⟩ := att_hit (o := o) (seen := seen) hq
    exact ⟨7, m, by omega, r, h⟩
  | d + 1, s, o, seen, hd, hs, hm => by
    obtain ⟨n, s1, pc, pos, hdd, hn, hr⟩ := att_miss (o := o) (seen := seen) (hm s (Nat.le_refl _) (by omega))
    obtain ⟨n2, m, hn2, r2, ho⟩ := search_hit hq d (s + 1) false s1 (by omega) (by omega) (fun i hi => hm i (by omega))
    have hlt : q < t.size := by
      unfold hitAt at hq
      simp only [Bool.and_eq_true, decide_eq_true_eq] at hq
      exact hq.1.1.1
    refine ⟨n + (1 + n2), m, ?_, hr.trans ((Rch.one rfl (step_next (by omega))).trans r2), ho⟩
    have : (d + 1 + 1) * (2 * t.size + 5) = (d + 1) * (2 * t.size + 5) + (2 * t.size + 5) := by rw [Nat.add_mul (d + 1) 1, Nat.one_mul]
    omega
end Mine
end
section
open PySem PySem.W PyProof.Rows PyProof.V PySem.Spec PySem.SeqAt
set_option maxRecDepth 100000
namespace Mine
open PySem.Builtin.Re

theorem runFor_done {m : Sre.M} (h : m.outcome.isSome = true) : ∀ n, Sre.M.runFor n m = m
  | 0 => rfl
  | n + 1 => by
    show (if m.outcome.isSome = true then m else _) = m
    rw [if_pos h]
theorem runFor_add (a b : Nat) : ∀ m : Sre.M, Sre.M.runFor (a + b) m = Sre.M.runFor b (Sre.M.runFor a m) := by
  induction a with
  | zero => intro m; rw [Nat.zero_add]; rfl
  | succ a ih =>
    intro m
    rw [Nat.add_right_comm]
    show (if m.outcome.isSome = true then m else Sre.M.runFor (a + b) m.step) = Sre.M.runFor b (if m.outcome.isSome = true then m else Sre.M.runFor a m.step)
    by_cases h : m.outcome.isSome = true
    · rw [if_pos h, if_pos h, runFor_done h]
    · rw [if_neg h, if_neg h, ih]

section
variable {prog : Program} {w : World} {A : Around} {E : Value → Shared → Prop} {s : Shared}
theorem drive {Q : Sre.M → Shared → Prop} {mf : Sre.M} (ho : mf.outcome.isSome = true) (h : Q mf s) : ∀ (turns n : Nat) (m : Sre.M), n ≤ 4 * turns → 0 < turns → Sre.M.runFor n m = mf → wpAny (model prog w) A (reDrive turns m) Q E s
  | 0, _, _, _, h0, _ => absurd h0 (Nat.lt_irrefl _)
  | turns + 1, n, m, hn, _, hr => by
    show wpAny _ _ (if (Sre.M.runFor 4 m).outcome.isSome = true then pure (Sre.M.runFor 4 m) else _) _ _ _
    by_cases h4 : (Sre.M.runFor 4 m).outcome.isSome = true
    · rw [if_pos h4]
      have e : Sre.M.runFor 4 m = mf := by
        rcases Nat.le_total 4 n with hle | hle
        · rw [← hr, show n = 4 + (n - 4) by omega, runFor_add, runFor_done h4]
        · rw [show 4 = n + (4 - n) by omega, runFor_add, hr, runFor_done ho]
      rw [e]
      exact wpAny_pure h
    · rw [if_neg h4]
      have hlt : 4 < n := by
        rcases Nat.lt_or_ge 4 n with hlt | hge
        · exact hlt
        · exfalso
          apply h4
          rw [show 4 = n + (4 - n) by omega, runFor_add, hr, runFor_done ho]
          exact ho
      refine wpAny_bind (wpAny_rule ?_)
      refine drive ho h turns (n - 4) _ (by omega) (by omega) ?_
      rw [← runFor_add]
      show Sre.M.runFor (4 + (n - 4)) m = mf
      rw [show 4 + (n - 4) = n by omega, hr]
theorem forIn_rules {c : Nat → Bool} {f : Nat → String} {Q : PUnit → Shared → Prop} (h : Q ⟨⟩ s) : ∀ l : List Nat,
    wpAny (model prog w) A (forIn (m := Sem) l PUnit.unit (fun i _ => if c i = true then (rule (f i) >>= fun _ => pure (ForInStep.yield PUnit.unit)) else pure (ForInStep.yield PUnit.unit))) Q E s
  | [] => wpAny_pure h
  | i :: l => by
    rw [List.forIn_cons]
    refine wpAny_bind ?_
    by_cases hc : c i = true
    · rw [if_pos hc]
      refine wpAny_bind (wpAny_rule (wpAny_pure ?_))
      exact forIn_rules h l
    · rw [if_neg hc]
      refine wpAny_pure ?_
      exact forIn_rules h l
theorem runToEnd_hit {Q : Option Sre.M → Shared → Prop} {mf m : Sre.M} {n : Nat} (ho : mf.outcome = some .matched) (hn : n ≤ 4 * 2 ^ 64) (hr : Sre.M.runFor n m = mf) (h : Q (some mf) s) : wpAny (model prog w) A (reRunToEnd m) Q E s := by
  unfold reRunToEnd
  refine wpAny_bind (drive (by rw [ho]; rfl) ?_ _ n m hn (by decide) hr)
  refine wpAny_bind (forIn_rules ?_ _)
  rw [ho]
  exact wpAny_pure h
theorem runToEnd_miss {Q : Option Sre.M → Shared → Prop} {mf m : Sre.M} {n : Nat} (ho : mf.outcome = some .failed) (hn : n ≤ 4 * 2 ^ 64) (hr : Sre.M.runFor n m = mf) (h : Q none s) : wpAny (model prog w) A (reRunToEnd m) Q E s := by
  unfold reRunToEnd
  refine wpAny_bind (drive (by rw [ho]; rfl) ?_ _ n m hn (by decide) hr)
  refine wpAny_bind (forIn_rules ?_ _)
  rw [ho]
  exact wpAny_pure h
end

noncomputable def patF (P : Params) : Array Value := match (hd.heap_1 P).lookup 43 with
  | some ⟨_, _, .fields vs, _⟩ => vs
  | _ => #[]
noncomputable def patC (P : Params) : Array Value := match (hd.heap_1 P).lookup 42 with
  | some ⟨_, _, .seq vs _, _⟩ => vs
  | _ => #[]
theorem pat_obj (P : Params) : (hd.heap_1 P).lookup 43 = some { cls := .type "re.Pattern", data := .fields (patF P) } := by kernel_rfl
theorem pat_cod (P : Params) : (hd.heap_1 P).lookup 42 = some { cls := .type "tuple", data := .seq (patC P) } := by kernel_rfl
theorem pat_2 (P : Params) : reRawNat ((patF P).getD 2 .none) = 0 := by kernel_rfl
theorem pat_5 (P : Params) : (patF P).getD 5 .none = .ref 42 := by kernel_rfl
theorem pat_6 (P : Params) : reRawNat ((patF P).getD 6 .none) = 0 := by kernel_rfl
theorem pat_is (P : Params) : ((patC P).map reRawOf).map (·.toNat) = ipC := by kernel_rfl

theorem plainAttrs_pat : PlainAttrs "re.Pattern" :=
  ⟨⟨"object.__getattribute__", by rw [typeLookup_type, builtinLookup_eq_fast]; kernel_rfl, by decide +kernel⟩, by rw [typeLookup_type, builtinLookup_eq_fast]; kernel_rfl⟩
theorem slot_search : Slot "re.Pattern" "search" "re.Pattern.search" :=
  .of (owner := "re.Pattern") (n := "search") (by rw [typeLookup_type, builtinLookup_eq_fast]; kernel_rfl) (by decide +kernel) (by decide +kernel) (by decide +kernel)
    (by first | exact .inl (by decide +kernel) | exact .inr (by decide +kernel)) (by rw [isSubtype_type]; kernel_rfl)
theorem type_search : typeOf (.builtin "re.Pattern.search") = pure (.type "method_descriptor") := by show builtinType _ = _; rw [builtinType_eq_fast]; kernel_rfl
theorem entry_search : entryFor table "re.Pattern.search" = some Builtin.«re.Pattern.search» := entryFor_of_tree (by kernel_rfl)
theorem owner_pat : Manifest.owners.lookup (String.ofList "re.Pattern".toList.reverse.reverse) = some Manifest.sig_re_Pattern := by kernel_rfl
theorem args_search (a b : Value) : argsOk "re.Pattern.search" ⟨[a, b], []⟩ := by
  unfold argsOk; rw [signature?_of (id := "re.Pattern.search") (n := "search".toList.reverse) (o := "re.Pattern".toList.reverse) (by kernel_rfl) owner_pat]; kernel_rfl

section
variable {prog : Program} {w : World} {A : Around} {E : Value → Shared → Prop} {s : Shared}
theorem named_search (x : Str) (t : Tok) : reNamed "re.Pattern.search" "search" ["string", "pos", "endpos"] 1 [.str x t] [] = pure [some (.str x t), none, none] := by rfl
theorem target_search {x : Str} {t : Tok} {Q : ReTarget → Shared → Prop} (X : (hd.heap_1 w.params).In s.heap) (hx : x.cps.size < 2 ^ 62)
    (h : Q { pattern := .ref 43, string := .str x t, code := ipC, text := x.cps, kind := 0, groups := 0, pos := 0, lim := x.cps.size } s) :
    wpAny (model prog w) A (reTarget "re.Pattern.search" "search" ⟨[.ref 43, .str x t], []⟩) Q E s := by
  unfold reTarget
  show wpAny _ _ (reNamed _ _ _ _ [.str x t] [] >>= _) _ _ s
  rw [named_search]
  refine wpAny_bind (wpAny_pure ?_)
  show wpAny _ _ (fieldsOf (.ref 43) >>= _) _ _ s
  refine wpAny_bind (wpAny_fieldsOf (X _ _ (pat_obj _)) rfl ?_)
  have hT : reTextOf (.str x t) = pure (x.cps, 0) := rfl
  rw [hT]
  refine wpAny_bind (wpAny_pure ?_)
  dsimp only
  rw [pat_6, pat_5, pat_2]
  rw [if_neg (by decide), if_neg (by decide)]
  have hN : reNoCollectionInside (.str x t) 0 = pure () := rfl
  rw [hN]
  refine wpAny_bind (wpAny_pure ?_)
  refine wpAny_bind ?_
  unfold reRawItems
  refine wpAny_bind (wpAny_seqItems (X _ _ (pat_cod _)) rfl ?_)
  refine wpAny_pure ?_
  show wpAny _ _ (pure _) _ _ _
  refine wpAny_pure ?_
  show Q { pattern := .ref 43, string := .str x t, code := ((patC w.params).map reRawOf).map (·.toNat), text := x.cps, kind := 0, groups := 0, pos := min (Int.toNat 0) x.cps.size, lim := min (Int.toNat (2 ^ 63 - 1)) x.cps.size } s
  rw [pat_is, show min (Int.toNat 0) x.cps.size = 0 by omega, show min (Int.toNat (2 ^ 63 - 1)) x.cps.size = x.cps.size from Nat.min_eq_right (by
    have : Int.toNat (2 ^ 63 - 1) = 2 ^ 63 - 1 := by decide
    rw [this]
    omega)]
  exact h

theorem start_search (t : Array Nat) (h : 2 ≤ t.size) : ∃ seen, Sre.forSearch ipC t 0 0 t.size false = atS t 0 true seen := by
  refine ⟨({} : Sre.Seen).add 14, ?_⟩
  show (if (decide (0 > t.size) || decide (t.size - 0 < 2)) = true then _ else _) = _
  rw [if_neg (by simp; omega)]
  rfl
theorem start_short (t : Array Nat) (h : t.size < 2) : ∃ m, Sre.M.runFor 1 (Sre.forSearch ipC t 0 0 t.size false) = m ∧ m.outcome = some .failed := by
  have e : Sre.forSearch ipC t 0 0 t.size false = { code := ipC, text := t, lim := t.size, start := 0, pc := 9, pos := 0, handed := 0, marks := #[], seen := ({} : Sre.Seen).add 14, answer := some false } := by
    show (if (decide (0 > t.size) || decide (t.size - 0 < 2)) = true then _ else _) = _
    rw [if_pos (by simp; omega)]
    rfl
  rw [e]
  exact ⟨_, rfl, rfl⟩
theorem Rch.run {n : Nat} {m m' : Sre.M} (h : Rch n m m') : Sre.M.runFor n m = m' := h 0

theorem search_none {x : Str} {t : Tok} {Q : Value → Shared → Prop} (X : (hd.heap_1 w.params).In s.heap) (hx : x.cps.size ≤ 1000000) (hm : ∀ i, hitAt x.cps i = false) (h : Q .none s) :
    wpAny (model prog w) A (call (.builtin "re.Pattern.search") [.ref 43, .str x t]) Q E s := by
  have hT : s.TypeIs (.ref 43) "re.Pattern" := ⟨_, X _ _ (pat_obj _), rfl⟩
  refine wpAny_call_entry slot_search hT entry_search ?_ (args_search _ _)
  show wpAny _ _ (reTarget "re.Pattern.search" "search" ⟨[.ref 43, .str x t], []⟩ >>= _) _ _ _
  refine wpAny_bind (target_search X (by omega) ?_)
  unfold reAnswer
  dsimp only
  by_cases h2 : 2 ≤ x.cps.size
  · obtain ⟨seen, e⟩ := start_search x.cps h2
    rw [e]
    obtain ⟨n, m, hn, hr, ho⟩ := search_miss (t := x.cps) x.cps.size 0 true seen (by omega) (by omega) (fun i _ => hm i)
    have hb : (x.cps.size + 1) * (2 * x.cps.size + 5) ≤ 1000001 * 2000005 := Nat.mul_le_mul (by omega) (by omega)
    refine wpAny_bind (runToEnd_miss ho (n := n) (by omega) hr.run ?_)
    exact wpAny_pure ⟨_, rfl, h⟩
  · obtain ⟨m, hr, ho⟩ := start_short x.cps (by omega)
    refine wpAny_bind (runToEnd_miss ho (n := 1) (by decide) hr ?_)
    exact wpAny_pure ⟨_, rfl, h⟩

abbrev maObj (x : Str) (t : Tok) (T : Addr) : Obj := { cls := .type "re.Match", data := .fields #[.str x t, .ref 43, rawInt 0, rawInt x.cps.size, rawInt (-1), .ref T] }
abbrev spObj (s e : Nat) : Obj := { cls := .type "tuple", data := .seq #[rawInt s, rawInt e] }
theorem search_some {x : Str} {t : Tok} {q : Nat} {Q : Value → Shared → Prop} (X : (hd.heap_1 w.params).In s.heap) (hx : x.cps.size ≤ 1000000) (hq : hitAt x.cps q = true) (hm : ∀ i, i < q → hitAt x.cps i = false)
    (h : Q (.ref (s.heap.push (spObj q (q + 1 + nDig x.cps q))).objs.size) { s with heap := (s.heap.push (spObj q (q + 1 + nDig x.cps q))).push (maObj x t s.heap.objs.size) }) :
    wpAny (model prog w) A (call (.builtin "re.Pattern.search") [.ref 43, .str x t]) Q E s := by
  have hT : s.TypeIs (.ref 43) "re.Pattern" := ⟨_, X _ _ (pat_obj _), rfl⟩
  refine wpAny_call_entry slot_search hT entry_search ?_ (args_search _ _)
  show wpAny _ _ (reTarget "re.Pattern.search" "search" ⟨[.ref 43, .str x t], []⟩ >>= _) _ _ _
  refine wpAny_bind (target_search X (by omega) ?_)
  unfold reAnswer
  dsimp only
  have hq' := hq
  unfold hitAt at hq'
  simp only [Bool.and_eq_true, decide_eq_true_eq] at hq'
  obtain ⟨⟨⟨g1, g2⟩, g3⟩, g4⟩ := hq'
  have h2 : 2 ≤ x.cps.size := by
    rcases Nat.lt_or_ge (q + 1) x.cps.size with hl | hl
    · omega
    · exfalso
      unfold nDig at g3
      rw [show ((x.cps.size : Int) - ((q + 1 : Nat) : Int)).toNat = 0 by omega] at g3
      simp [digs] at g3
  obtain ⟨seen, e⟩ := start_search x.cps h2
  rw [e]
  obtain ⟨n, m, hn, hr, hh⟩ := search_hit hq q 0 true seen (by omega) (by omega) (fun i _ hi => hm i hi)
  have hb : (q + 1) * (2 * x.cps.size + 5) ≤ 1000001 * 2000005 := Nat.mul_le_mul (by omega) (by omega)
  refine wpAny_bind (runToEnd_hit hh.out (n := n) (by omega) hr.run ?_)
  dsimp only
  refine wpAny_bind ?_
  unfold reNewMatch
  rw [hh.start, hh.handed, hh.lastindex]
  show wpAny _ _ (newTuple [rawInt q, rawInt (q + 1 + nDig x.cps q : Nat)] >>= fun v => newFields "re.Match" [.str x t, .ref 43, rawInt (0 : Nat), rawInt x.cps.size, rawInt (-1), v]) _ _ _
  refine wpAny_bind ?_
  refine wpAny_newObj_type ?_ (by size_fits)
  refine wpAny_newObj_type ?_ (by size_fits)
  exact wpAny_pure ⟨_, rfl, h⟩
end
end Mine
end
section
open PySem PySem.W PyProof.Rows PyProof.V PySem.Spec PySem.SeqAt
set_option maxRecDepth 100000
namespace Mine
open PySem.Builtin.Re

theorem plainAttrs_ma : PlainAttrs "re.Match" :=
  ⟨⟨"object.__getattribute__", by rw [typeLookup_type, builtinLookup_eq_fast]; kernel_rfl, by decide +kernel⟩, by rw [typeLookup_type, builtinLookup_eq_fast]; kernel_rfl⟩
theorem slot_span : Slot "re.Match" "span" "re.Match.span" :=
  .of (owner := "re.Match") (n := "span") (by rw [typeLookup_type, builtinLookup_eq_fast]; kernel_rfl) (by decide +kernel) (by decide +kernel) (by decide +kernel)
    (by first | exact .inl (by decide +kernel) | exact .inr (by decide +kernel)) (by rw [isSubtype_type]; kernel_rfl)
theorem type_span : typeOf (.builtin "re.Match.span") = pure (.type "method_descriptor") := by show builtinType _ = _; rw [builtinType_eq_fast]; kernel_rfl
theorem entry_span : entryFor table "re.Match.span" = some Builtin.«re.Match.span» := entryFor_of_tree (by kernel_rfl)
theorem slot_group : Slot "re.Match" "group" "re.Match.group" :=
  .of (owner := "re.Match") (n := "group") (by rw [typeLookup_type, builtinLookup_eq_fast]; kernel_rfl) (by decide +kernel) (by decide +kernel) (by decide +kernel)
    (by first | exact .inl (by decide +kernel) | exact .inr (by decide +kernel)) (by rw [isSubtype_type]; kernel_rfl)
theorem type_group : typeOf (.builtin "re.Match.group") = pure (.type "method_descriptor") := by show builtinType _ = _; rw [builtinType_eq_fast]; kernel_rfl
theorem entry_group : entryFor table "re.Match.group" = some Builtin.«re.Match.group» := entryFor_of_tree (by kernel_rfl)
theorem owner_ma : Manifest.owners.lookup (String.ofList "re.Match".toList.reverse.reverse) = some Manifest.sig_re_Match := by kernel_rfl
theorem args_span (a b : Value) : argsOk "re.Match.span" ⟨[a, b], []⟩ := by
  unfold argsOk; rw [signature?_of (id := "re.Match.span") (n := "span".toList.reverse) (o := "re.Match".toList.reverse) (by kernel_rfl) owner_ma]; kernel_rfl
theorem args_group (a b : Value) : argsOk "re.Match.group" ⟨[a, b], []⟩ := by
  unfold argsOk; rw [signature?_of (id := "re.Match.group") (n := "group".toList.reverse) (o := "re.Match".toList.reverse) (by kernel_rfl) owner_ma]; kernel_rfl
theorem ma_noBool : typeLookup (.type "re.Match") "__bool__" = pure none := by rw [typeLookup_type, builtinLookup_eq_fast]; kernel_rfl
theorem ma_noLen : typeLookup (.type "re.Match") "__len__" = pure none := by rw [typeLookup_type, builtinLookup_eq_fast]; kernel_rfl

theorem ma_ga : Slot "re.Match" "__getattribute__" "object.__getattribute__" :=
  .of (owner := "object") (n := "__getattribute__") (by rw [typeLookup_type, builtinLookup_eq_fast]; kernel_rfl) (by decide +kernel) (by decide +kernel) (by decide +kernel)
    (by first | exact .inl (by decide +kernel) | exact .inr (by decide +kernel)) (by rw [isSubtype_type]; kernel_rfl)
theorem ma_lk : typeLookup (.type "re.Match") "string" = pure (some (.builtin "re.Match.string")) := by rw [typeLookup_type, builtinLookup_eq_fast]; kernel_rfl
theorem ma_tystr : typeOf (.builtin "re.Match.string") = pure (.type "member_descriptor") := by show builtinType _ = _; rw [builtinType_eq_fast]; kernel_rfl
theorem slot_md_get : Slot "member_descriptor" "__get__" "member_descriptor.__get__" :=
  .of (owner := "member_descriptor") (n := "__get__") (by rw [typeLookup_type, builtinLookup_eq_fast]; kernel_rfl) (by decide +kernel) (by decide +kernel) (by decide +kernel)
    (by first | exact .inl (by decide +kernel) | exact .inr (by decide +kernel)) (by rw [isSubtype_type]; kernel_rfl)
theorem slot_md_set : Slot "member_descriptor" "__set__" "member_descriptor.__set__" :=
  .of (owner := "member_descriptor") (n := "__set__") (by rw [typeLookup_type, builtinLookup_eq_fast]; kernel_rfl) (by decide +kernel) (by decide +kernel) (by decide +kernel)
    (by first | exact .inl (by decide +kernel) | exact .inr (by decide +kernel)) (by rw [isSubtype_type]; kernel_rfl)
theorem entry_md_get : entryFor table "member_descriptor.__get__" = some Builtin.«member_descriptor.__get__» := entryFor_of_tree (by kernel_rfl)
theorem args_md_get (a b c : Value) : argsOk "member_descriptor.__get__" ⟨[a, b, c], []⟩ := by unfold argsOk; kernel_rfl
theorem ma_entry_string : entryFor table "re.Match.string" = some Builtin.«re.Match.string» := entryFor_of_tree (by kernel_rfl)
theorem ma_owner_string : (".".intercalate ("re.Match.string".cutAt '.').dropLast) = "re.Match" := by
  have e0 : "re.Match.string".cutAt '.' = ["re", "Match", "string"] := by first | rfl | decide +kernel
  rw [e0]; decide +kernel
theorem ma_sub : isSubtype (.type "re.Match") (.type "re.Match") = pure true := by rw [isSubtype_type]; kernel_rfl
theorem ma_entry_ga : entryFor table "object.__getattribute__" = some Builtin.«object.__getattribute__» := entryFor_of_tree (by kernel_rfl)
theorem ma_args_ga (a b : Value) : argsOk "object.__getattribute__" ⟨[a, b], []⟩ := by unfold argsOk; kernel_rfl

section
variable {prog : Program} {w : World} {A : Around} {E : Value → Shared → Prop} {s : Shared}
theorem truthy_ma {a : Addr} {Q : Bool → Shared → Prop} (hT : s.TypeIs (.ref a) "re.Match") (h : Q true s) : wpAny (model prog w) A (truthy (.ref a)) Q E s := by
  unfold truthy
  refine wpAny_bind (wpAny_callSpecial?_none hT ma_noBool ?_)
  refine wpAny_bind (wpAny_specialOf hT ma_noLen ?_)
  exact wpAny_pure h

end
end Mine
end
section
open PySem PySem.W PyProof.Rows PyProof.V PySem.Spec PySem.SeqAt
set_option maxRecDepth 100000
namespace Mine
open PySem.Builtin.Re
section
variable {prog : Program} {w : World} {A : Around} {E : Value → Shared → Prop} {s : Shared}
section
variable {h : Heap} {g : Array GenState} {d : Drawn} {t : Nat} {os : OsState} {a : Addr} {o : Obj} {vs : Array Value} {a0 : Value}
theorem mas_get {R : Result → Shared → Prop} (hx : h.get? a = some o) (hc : o.cls = .type "re.Match") (hd : o.data = .fields vs) (h0 : vs[0]? = some a0) (hnd : (a0 == doubtfulMember) = false) (hq : R (.ok (.ret a0)) ⟨h, g, d, t, os⟩) :
    codeAny (model prog w) A (.call (.builtin "member_descriptor.__get__") ⟨[.builtin "re.Match.string", .ref a, .type "re.Match"], []⟩) R ⟨h, g, d, t, os⟩ := by
  have hT : (⟨h, g, d, t, os⟩ : Shared).TypeIs (.ref a) "re.Match" := ⟨_, hx, hc⟩
  have hT5 : (⟨h, g, d, t, os⟩ : Shared).TypeIs (.builtin "re.Match.string") "member_descriptor" := ma_tystr
  have f8 : isSubtype (.type "re.Match") (.type (".".intercalate ("re.Match.string".cutAt '.').dropLast)) = pure true := by rw [ma_owner_string]; exact ma_sub
  refine codeAny_call_builtin slot_md_get.plain entry_md_get (slot_md_get.check _ _ _ _ _ _ _ _ hT5 (args_md_get _ _ _) ?_)
  repeat (any_goals (first | assumption | wp_step))
  refine ⟨Code.quiet_builtin _ (by decide +kernel), codeAny_builtin ma_entry_string ?_⟩
  unfold Builtin.«re.Match.string»
  refine wpAny_bind (wpAny_field hx hd h0 ?_)
  repeat (any_goals (first | assumption | wp_step))

theorem mas_entry {tk : Tok} {Q : Fin → Shared → Prop} (hx : h.get? a = some o) (hc : o.cls = .type "re.Match") (hd : o.data = .fields vs) (h0 : vs[0]? = some a0) (hnd : (a0 == doubtfulMember) = false) (hq : Q (.done (.ret a0)) ⟨h, g, d, t, os⟩) :
    wpAny (model prog w) A (Builtin.«object.__getattribute__» ⟨[.ref a, .str "string" tk], []⟩) Q E ⟨h, g, d, t, os⟩ := by
  have hT : (⟨h, g, d, t, os⟩ : Shared).TypeIs (.ref a) "re.Match" := ⟨_, hx, hc⟩
  have hT5 : (⟨h, g, d, t, os⟩ : Shared).TypeIs (.builtin "re.Match.string") "member_descriptor" := ma_tystr
  have f4 := ma_lk
  have f5 := ma_tystr
  have f6 := slot_md_get.lookup
  have f7 := slot_md_set.lookup
  unfold Builtin.«object.__getattribute__»
  repeat (any_goals (first | assumption | wp_step))
  refine mas_get hx hc hd h0 hnd ?_
  repeat (any_goals (first | assumption | wp_step))

theorem mas_call {tk : Tok} {R : Result → Shared → Prop} (hx : h.get? a = some o) (hc : o.cls = .type "re.Match") (hd : o.data = .fields vs) (h0 : vs[0]? = some a0) (hnd : (a0 == doubtfulMember) = false) (hq : R (.ok (.ret a0)) ⟨h, g, d, t, os⟩) :
    codeAny (model prog w) A (.call (.builtin "object.__getattribute__") ⟨[.ref a, .str "string" tk], []⟩) R ⟨h, g, d, t, os⟩ :=
  codeAny_call_builtin ma_ga.plain ma_entry_ga (ma_ga.check _ _ _ _ _ _ _ _ (show (⟨h, g, d, t, os⟩ : Shared).TypeIs (.ref a) "re.Match" from ⟨_, hx, hc⟩) (ma_args_ga _ _) (mas_entry hx hc hd h0 hnd hq))

theorem mas_by {tk : Tok} {fill expr : Bool} {Q : Value → Shared → Prop} {xs : Str} {xt : Tok} (hx : h.get? a = some o) (hc : o.cls = .type "re.Match") (hd : o.data = .fields vs) (h0 : vs[0]? = some (.str xs xt))
    (hq : Q (.str xs xt) ⟨h, g, d, t, os⟩) : wpAny (model prog w) A (getAttrBy (.ref a) (.str "string" tk) fill expr) Q E ⟨h, g, d, t, os⟩ := by
  have hT : (⟨h, g, d, t, os⟩ : Shared).TypeIs (.ref a) "re.Match" := ⟨_, hx, hc⟩
  have f2 := ma_ga.lookup
  have f3 := ma_ga.bind (.ref a)
  have hx0 : (expr && onTheHeap (Value.builtin "object.__getattribute__")) = false := by cases expr <;> rfl
  unfold getAttrBy
  repeat (any_goals (first | assumption | wp_step))
  refine mas_call hx hc hd h0 (by first | rfl | decide | simp [doubtfulMember, rawInt]) ?_
  repeat (any_goals (first | assumption | wp_step))

theorem mas_attr {expr : Bool} {Q : Value → Shared → Prop} {xs : Str} {xt : Tok} (hx : h.get? a = some o) (hc : o.cls = .type "re.Match") (hd : o.data = .fields vs) (h0 : vs[0]? = some (.str xs xt))
    (hq : Q (.str xs xt) ⟨h, g, d, t + 1, os⟩) : wpAny (model prog w) A (getAttr (.ref a) "string" expr) Q E ⟨h, g, d, t, os⟩ := by
  unfold getAttr
  repeat (any_goals (first | assumption | with_reducible apply mas_by hx hc hd h0 | wp_step))
end
end

end Mine
end
section
open PySem PySem.W PyProof.Rows PyProof.V PySem.Spec PySem.SeqAt
set_option maxRecDepth 100000
namespace Mine
open PySem.Builtin.Re
section
variable {prog : Program} {w : World} {A : Around} {E : Value → Shared → Prop} {s : Shared}
theorem found_ma {a T : Addr} {x : Str} {t : Tok} {q e : Nat} {Q : ReFound → Shared → Prop} (h1 : s.heap.get? a = some (maObj x t T)) (h2 : s.heap.get? T = some (spObj q e))
    (h : Q { fields := #[.str x t, .ref 43, rawInt 0, rawInt x.cps.size, rawInt (-1), .ref T], spans := #[(q : Int), (e : Int)] } s) : wpAny (model prog w) A (reFound (.ref a)) Q E s := by
  unfold reFound
  refine wpAny_bind (wpAny_fieldsOf h1 rfl ?_)
  refine wpAny_bind ?_
  unfold reRawItems
  show wpAny _ _ (seqItems? (.ref T) >>= _) _ _ s
  refine wpAny_bind (wpAny_seqItems h2 rfl ?_)
  refine wpAny_pure (wpAny_pure ?_)
  have e : Array.map reRawOf ((some #[rawInt (q : Int), rawInt (e : Int)]).getD #[]) = #[(q : Int), (e : Int)] := by simp [reRawOf, rawInt]
  rw [e]
  exact h
theorem gnum {x : ReFound} {q e : Int} {u : Tok} {Q : Nat → Shared → Prop} (hx : x.spans = #[q, e]) (h : Q 0 s) : wpAny (model prog w) A (reGroupNumber x (.int 0 u)) Q E s := by
  unfold reGroupNumber
  refine wpAny_bind (m := asInt? _) (wpAny_pure ?_)
  refine wpAny_bind (m := asIndex _) ?_
  unfold asIndex
  refine wpAny_bind (m := asInt? _) (wpAny_pure ?_)
  refine wpAny_pure ?_
  rw [hx]
  exact wpAny_pure h
theorem group_ma {a T : Addr} {x : Str} {t u : Tok} {q e : Nat} {Q : Value → Shared → Prop} (h1 : s.heap.get? a = some (maObj x t T)) (h2 : s.heap.get? T = some (spObj q e))
    (hxs : x.cps.size ≤ 1000000) (h : Q (.str ⟨x.cps.extract q e⟩ s.toks) { s with toks := s.toks + 1 }) : wpAny (model prog w) A (call (.builtin "re.Match.group") [.ref a, .int 0 u]) Q E s := by
  have hT : s.TypeIs (.ref a) "re.Match" := ⟨_, h1, rfl⟩
  refine wpAny_call_entry slot_group hT entry_group ?_ (args_group _ _)
  unfold Builtin.«re.Match.group»
  refine wpAny_bind (m := noKeywords _ _) (wpAny_pure ?_)
  refine wpAny_bind (found_ma h1 h2 ?_)
  dsimp only
  refine wpAny_bind (gnum rfl ?_)
  refine wpAny_bind ?_
  unfold reGroupText
  dsimp only
  rw [if_neg (by simp)]
  refine wpAny_bind (m := reTextOf _) (wpAny_of_eq (a := (x.cps, 0)) rfl ?_)
  show wpAny _ _ (mkStr _) _ _ _
  refine wpAny_mkStr ?_ (by simp [Str.length, sizeLine_eq]; omega)
  exact wpAny_pure ⟨_, rfl, h⟩
theorem span_ma {a T : Addr} {x : Str} {t u : Tok} {q e : Nat} {Q : Value → Shared → Prop} (h1 : s.heap.get? a = some (maObj x t T)) (h2 : s.heap.get? T = some (spObj q e))
    (h : Q (.ref s.heap.objs.size) { s with heap := s.heap.push { cls := .type "tuple", data := .seq #[.int q s.toks, .int e (s.toks + 1)] }, toks := s.toks + 1 + 1 }) : wpAny (model prog w) A (call (.builtin "re.Match.span") [.ref a, .int 0 u]) Q E s := by
  have hT : s.TypeIs (.ref a) "re.Match" := ⟨_, h1, rfl⟩
  refine wpAny_call_entry slot_span hT entry_span ?_ (args_span _ _)
  unfold Builtin.«re.Match.span»
  refine wpAny_bind (m := reOneGroup _ _ _) ?_
  unfold reOneGroup
  refine wpAny_bind (m := selfAndSome _ _ _ _ _) (wpAny_pure ?_)
  dsimp only
  refine wpAny_bind (found_ma h1 h2 ?_)
  refine wpAny_bind (gnum rfl ?_)
  refine wpAny_pure ?_
  dsimp only
  refine wpAny_bind (wpAny_mkInt ?_)
  refine wpAny_bind (wpAny_mkInt ?_)
  refine wpAny_bind (wpAny_newTuple ?_)
  exact wpAny_pure ⟨_, rfl, h⟩
end
end Mine
end
section
open PySem PySem.W PyProof.Rows PyProof.V PySem.Spec PySem.SeqAt
set_option maxRecDepth 100000
namespace Mine
section
variable {prog : Program} {w : World} {A : Around} {E : Value → Shared → Prop} {s : Shared} {h₀ : Heap} {L : Addr} {m : Str → Option Value} {news : List (Addr × Obj)}
theorem gm_search {pl : Sem Bool} {Q : Value × List Value → Shared → Prop} (X : (hd.heap_1 w.params).In h₀) (F : Fr h₀ L s.heap m) (h : Q (.builtin "re.Pattern.search", [.ref 43]) s) :
    wpAny (model prog w) A (getMethod (.ref 43) (Str.ofString "search") pl) Q E s := by
  have hT : s.TypeIs (.ref 43) "re.Pattern" := ⟨_, X.keeps F.keep _ _ (pat_obj _), rfl⟩
  refine getMethod_builtin hT plainAttrs_pat slot_search type_search ?_ h
  intro a ha
  cases ha
  exact ⟨_, X.keeps F.keep _ _ (pat_obj _), rfl⟩
theorem gm_ma {pl : Sem Bool} {name : Str} {id : String} {Q : Value × List Value → Shared → Prop} {M T : Addr} {x : Str} {t : Tok} (N : News h₀ L s.heap news) (hM : (M, maObj x t T) ∈ news) (slot : Slot "re.Match" name id) (hty : typeOf (.builtin id) = pure (.type "method_descriptor")) (h : Q (.builtin id, [.ref M]) s) :
    wpAny (model prog w) A (getMethod (.ref M) name pl) Q E s := by
  have hT : s.TypeIs (.ref M) "re.Match" := ⟨_, (N _ hM).1, rfl⟩
  refine getMethod_builtin hT plainAttrs_ma slot hty ?_ h
  intro a ha
  cases ha
  exact ⟨_, (N _ hM).1, rfl⟩
abbrev spanObj (q e : Nat) (t1 t2 : Tok) : Obj := { cls := .type "tuple", data := .seq #[.int q t1, .int e t2] }
theorem span_K {M T : Addr} {x : Str} {t u : Tok} {q e : Nat} {Q : Value → Shared → Prop} (F : Fr h₀ L s.heap m) (N : News h₀ L s.heap news) (hM : (M, maObj x t T) ∈ news) (hT : (T, spObj q e) ∈ news)
    (h : ∀ D h' tk t1 t2, Fr h₀ L h' m → News h₀ L h' ((D, spanObj q e t1 t2) :: news) → (∀ p ∈ news, p.1 < D) → Q (.ref D) { s with heap := h', toks := tk }) : wpAny (model prog w) A (call (.builtin "re.Match.span") [.ref M, .int 0 u]) Q E s := by
  refine span_ma (N _ hM).1 (N _ hT).1 ?_
  exact h _ _ _ _ _ (F.push _) (News.push F N _) fun p hp => Heap.lt_size (N p hp).1
theorem search_noneK {x : Str} {t : Tok} {Q : Value → Shared → Prop} (X : (hd.heap_1 w.params).In h₀) (F : Fr h₀ L s.heap m) (hx : x.cps.size ≤ 1000000) (hm : ∀ i, hitAt x.cps i = false) (h : Q .none s) :
    wpAny (model prog w) A (call (.builtin "re.Pattern.search") [.ref 43, .str x t]) Q E s := search_none (X.keeps F.keep) hx hm h
theorem search_someK {x : Str} {t : Tok} {q : Nat} {Q : Value → Shared → Prop} (X : (hd.heap_1 w.params).In h₀) (F : Fr h₀ L s.heap m) (N : News h₀ L s.heap news) (hx : x.cps.size ≤ 1000000) (hq : hitAt x.cps q = true) (hm : ∀ i, i < q → hitAt x.cps i = false)
    (h : ∀ M T h', Fr h₀ L h' m → News h₀ L h' ((M, maObj x t T) :: (T, spObj q (q + 1 + nDig x.cps q)) :: news) → (∀ p ∈ news, p.1 < T) → T < M → Q (.ref M) { s with heap := h' }) :
    wpAny (model prog w) A (call (.builtin "re.Pattern.search") [.ref 43, .str x t]) Q E s := by
  refine search_some (X.keeps F.keep) hx hq hm ?_
  have N1 := News.push F N (spObj q (q + 1 + nDig x.cps q))
  refine h _ _ _ ((F.push _).push _) (News.push (F.push _) N1 _) (fun p hp => Heap.lt_size (N p hp).1) ?_
  exact Heap.lt_size (N1 _ (.head _)).1
theorem string_K {M T : Addr} {x : Str} {t : Tok} {expr : Bool} {Q : Value → Shared → Prop} (N : News h₀ L s.heap news) (hM : (M, maObj x t T) ∈ news) (h : Q (.str x t) { s with toks := s.toks + 1 }) : wpAny (model prog w) A (getAttr (.ref M) (Str.ofString "string") expr) Q E s := by
  obtain ⟨hp, g, d, tk, os⟩ := s
  exact mas_attr (N _ hM).1 rfl rfl rfl h
theorem truthy_maK {M T : Addr} {x : Str} {t : Tok} {Q : Bool → Shared → Prop} (N : News h₀ L s.heap news) (hM : (M, maObj x t T) ∈ news) (h : Q true s) : wpAny (model prog w) A (truthy (.ref M)) Q E s :=
  truthy_ma ⟨_, (N _ hM).1, rfl⟩ h
theorem group_K {M T : Addr} {x : Str} {t u : Tok} {q e : Nat} {Q : Value → Shared → Prop} (N : News h₀ L s.heap news) (hM : (M, maObj x t T) ∈ news) (hT : (T, spObj q e) ∈ news) (hxs : x.cps.size ≤ 1000000)
    (h : Q (.str ⟨x.cps.extract q e⟩ s.toks) { s with toks := s.toks + 1 }) : wpAny (model prog w) A (call (.builtin "re.Match.group") [.ref M, .int 0 u]) Q E s := group_ma (N _ hM).1 (N _ hT).1 hxs h
end
end Mine
end
section
open PySem PySem.W PyProof.Rows PyProof.V PySem.Spec PySem.SeqAt
set_option maxRecDepth 100000
namespace Mine

abbrev isD (c : Nat) : Prop := Sre.isDigit c = true
theorem nodot : ¬ isD 46 := by decide +kernel
theorem nonl : ¬ isD 10 := by decide +kernel

theorem digs_eq {t : Array Nat} : ∀ (j n p : Nat), (∀ i, i < j → isD (t.getD (p + i) 0)) → j ≤ n → (j = n ∨ ¬ isD (t.getD (p + j) 0)) → digs t n p = j
  | 0, n, p, _, _, h => by
    cases n with
    | zero => rfl
    | succ n =>
      have h : ¬ isD (t.getD p 0) := h.elim (fun h => by omega) fun h => h
      show (if Sre.isDigit (t.getD p 0) then _ else _) = _
      rw [if_neg h]
  | j + 1, n, p, hd, hn, h => by
    obtain ⟨n, rfl⟩ : ∃ n', n = n' + 1 := ⟨n - 1, by omega⟩
    show (if Sre.isDigit (t.getD p 0) then digs t n (p + 1) + 1 else 0) = _
    rw [if_pos (show isD (t.getD p 0) from hd 0 (by omega))]
    rw [digs_eq j n (p + 1) (fun i hi => by have := hd (i + 1) (by omega); rwa [show p + 1 + i = p + (i + 1) by omega]) (by omega) (by
      rcases h with h | h
      · exact .inl (by omega)
      · exact .inr (by rwa [show p + 1 + j = p + (j + 1) by omega]))]

def flatW (ws : List (List Nat)) : List Nat := ws.flatMap fun w => 46 :: w
def pileL (hd : List Nat) (ws : List (List Nat)) : List Nat := hd ++ (flatW ws ++ [10])
/-- a host name: behind a dot no figure -/
def HdOk (hd : List Nat) : Prop := ∀ i, hd[i]? = some 46 → ∃ c, hd[i + 1]? = some c ∧ ¬ isD c
def WdOk (w : List Nat) : Prop := 1 ≤ w.length ∧ ∀ c ∈ w, isD c

theorem getD_arr (l : List Nat) (i : Nat) : l.toArray.getD i 0 = (l[i]?).getD 0 := by
  simp [Array.getD_eq_getD_getElem?]

theorem hit_none {hd : List Nat} (h : HdOk hd) (i : Nat) : hitAt (hd ++ [10]).toArray i = false := by
  unfold hitAt
  rw [getD_arr]
  by_cases h1 : (hd ++ [10])[i]?.getD 0 = 46
  · have hi : hd[i]? = some 46 := by
      rcases Nat.lt_or_ge i hd.length with hl | hl
      · rw [List.getElem?_append_left hl] at h1
        rw [List.getElem?_eq_getElem hl] at h1 ⊢
        simpa using h1
      · rw [List.getElem?_append_right hl] at h1
        rcases Nat.eq_zero_or_pos (i - hd.length) with h0 | h0
        · rw [h0] at h1; simp at h1
        · rw [List.getElem?_eq_none (by simp; omega)] at h1; simp at h1
    obtain ⟨c, hc, hnd⟩ := h i hi
    have hz : nDig (hd ++ [10]).toArray i = 0 := by
      unfold nDig
      refine digs_eq 0 _ _ (fun i hi => by omega) (Nat.zero_le _) (.inr ?_)
      rw [getD_arr, Nat.add_zero, List.getElem?_append_left (List.getElem?_eq_some_iff.mp hc).1, hc]
      exact hnd
    rw [hz]
    simp
  · simp [h1]
theorem hit_at {pre w : List Nat} (hw : WdOk w) (hs : (pre ++ (46 :: w ++ [10])).length ≤ 1000000) : nDig (pre ++ (46 :: w ++ [10])).toArray pre.length = w.length ∧ hitAt (pre ++ (46 :: w ++ [10])).toArray pre.length = true := by
  have hget : ∀ i, (pre ++ (46 :: w ++ [10])).toArray.getD (pre.length + i) 0 = ((46 :: w ++ [10])[i]?).getD 0 := by
    intro i
    rw [getD_arr, List.getElem?_append_right (by omega)]
    congr 2
    omega
  have hn : nDig (pre ++ (46 :: w ++ [10])).toArray pre.length = w.length := by
    unfold nDig
    refine digs_eq _ _ _ ?_ ?_ (.inr ?_)
    · intro i hi
      rw [Nat.add_assoc, hget, Nat.add_comm 1 i, List.cons_append, List.getElem?_cons_succ, List.getElem?_append_left hi, List.getElem?_eq_getElem hi]
      exact hw.2 _ (List.getElem_mem hi)
    · simp at hs ⊢
      omega
    · rw [Nat.add_assoc, hget, Nat.add_comm 1, List.cons_append, List.getElem?_cons_succ, List.getElem?_append_right (Nat.le_refl _)]
      simp
      rfl
  refine ⟨hn, ?_⟩
  unfold hitAt
  rw [hn]
  have h0 := hget 0
  rw [Nat.add_zero] at h0
  rw [h0]
  have h2 := hget (1 + w.length)
  rw [← Nat.add_assoc] at h2
  unfold atEnd
  rw [h2]
  have e : (46 :: w ++ [10])[1 + w.length]? = some 10 := by rw [Nat.add_comm 1, List.cons_append, List.getElem?_cons_succ, List.getElem?_append_right (Nat.le_refl _)]; simp
  rw [e]
  have := hw.1
  simp
  omega
theorem hit_before {pre w : List Nat} {i : Nat} (hi : i < pre.length) : hitAt (pre ++ (46 :: w ++ [10])).toArray i = false := by
  apply Bool.eq_false_iff.mpr
  intro h
  unfold hitAt at h
  simp only [Bool.and_eq_true, decide_eq_true_eq] at h
  obtain ⟨⟨⟨h1, h2⟩, h3⟩, h4⟩ := h
  have hle : pre.length < i + 1 + nDig (pre ++ (46 :: w ++ [10])).toArray i := by
    unfold atEnd at h4
    generalize nDig (pre ++ (46 :: w ++ [10])).toArray i = d at h4 ⊢
    simp only [Bool.or_eq_true, Bool.and_eq_true, beq_iff_eq] at h4
    simp at h4
    omega
  have hd := digs_dig (pre ++ (46 :: w ++ [10])).toArray _ _ (pre.length - (i + 1)) (show pre.length - (i + 1) < nDig _ i by omega)
  rw [show i + 1 + (pre.length - (i + 1)) = pre.length by omega, getD_arr, List.getElem?_append_right (Nat.le_refl _)] at hd
  simp at hd
  exact nodot hd
theorem flatW_snoc (ws : List (List Nat)) (w : List Nat) : flatW (ws ++ [w]) = flatW ws ++ 46 :: w := by simp [flatW]
theorem pileL_snoc (hd : List Nat) (ws : List (List Nat)) (w : List Nat) : pileL hd (ws ++ [w]) = (hd ++ flatW ws) ++ (46 :: w ++ [10]) := by simp [pileL, flatW_snoc]
end Mine
end
section
open PySem PySem.W PyProof.Rows PyProof.V PySem.Spec PySem.SeqAt
set_option maxRecDepth 100000
namespace Mine
abbrev ent (P : Params) (n : String) (k : Tok) (v : Value) : DictEntry := { hash := PyData.keyHash P (Str.ofString n), key := Value.str (Str.ofString n) k, val := v }
abbrev lxD (P : Params) (k1 k2 k3 k4 : Tok) (ln : Int) (tl : Tok) (ins : Value) (ws : Str) (tw : Tok) (pb : Addr) : Obj :=
  dictOf [ent P "lineno" k1 (.int ln tl), ent P "instream" k2 ins, ent P "whitespace" k3 (.str ws tw), ent P "pushback" k4 (.ref pb)] 4

set_option maxHeartbeats 0 in
theorem gtPush (w : World) (p : Program) (loose : List Str) (mean : ExcName → Option Value) (mg mb : Str → Option Value)
  (x dx pb hx : Addr) (k1 k2 k3 k4 tl tw : Tok) (ln : Int) (ws : Str) (y : Str × Tok) (rest : List (Str × Tok)) (n : Nat) (news news' : List (Addr × Obj))
  (h1 : (x, instObj 130 dx) ∈ news) (h2 : (dx, lxD w.params k1 k2 k3 k4 ln tl (.ref hx) ws tw pb) ∈ news) (h3 : (pb, listOf (svs (y :: rest)).toArray n) ∈ news) (hl : rest.length ≤ 99)
  (hU : Upd pb (listOf (svs (y :: rest)).toArray n) (listOf (svs rest).toArray (n + 1)) news news') :
  Spec w p loose mean mg mb 120 2 [.ref x] news (fun v nw => v = sv y ∧ nw = news') := by
  unfold Spec
  k_fill
  intro dp un gd cn cs a ccd cl outer A₀ base h₀ L m s Q E B F X N T hk hd hu hret
  k_dflt cell_enter
  iterate 7 (focus (first | ((first | ((rename (∀ (f : Flow) (s : Shared), _ → _) => hq); (with_reducible refine Mine.cutQ hq ?_); clear hq; (rename (Flow → Shared → Prop) => qq); clear qq) | (with_reducible refine Mine.cutQ (by with_reducible assumption) ?_)); (try dsimp only)) | ((first | (k_unfold; (try dsimp only)) | (k_end; kc_close) | walk1 | (dsimp only; walk1) | (leave1; (try dsimp only)) | fail "no step"); (try ((with_reducible show wpAny _ _ (exec _ _) (fun _ _ => _) _ _); refine Mine.gen_Q ?_; intro QQ9 hQ9)))))
  refine truthyS (by k_asm) (by k_mem) (by simp; omega) ?_
  dsimp only [List.isEmpty_cons, Bool.not_false]
  iterate 13 (focus (first | ((first | ((rename (∀ (f : Flow) (s : Shared), _ → _) => hq); (with_reducible refine Mine.cutQ hq ?_); clear hq; (rename (Flow → Shared → Prop) => qq); clear qq) | (with_reducible refine Mine.cutQ (by with_reducible assumption) ?_)); (try dsimp only)) | ((first | (k_unfold; (try dsimp only)) | (k_end; kc_close) | walk1 | (dsimp only; walk1) | (leave1; (try dsimp only)) | fail "no step"); (try ((with_reducible show wpAny _ _ (exec _ _) (fun _ _ => _) _ _); refine Mine.gen_Q ?_; intro QQ9 hQ9)))))
  refine pop_K (by k_asm) (by k_asm) (.inl rfl) (show popW 0 (y :: rest) = some (y, rest) from rfl) (by simp; omega) hU ?_
  intro h4 F4 N4; k_sweep
  iterate 4 (focus (first | ((first | ((rename (∀ (f : Flow) (s : Shared), _ → _) => hq); (with_reducible refine Mine.cutQ hq ?_); clear hq; (rename (Flow → Shared → Prop) => qq); clear qq) | (with_reducible refine Mine.cutQ (by with_reducible assumption) ?_)); (try dsimp only)) | ((first | (k_unfold; (try dsimp only)) | (k_end; kc_close) | walk1 | (dsimp only; walk1) | (leave1; (try dsimp only)) | fail "no step"); (try ((with_reducible show wpAny _ _ (exec _ _) (fun _ _ => _) _ _); refine Mine.gen_Q ?_; intro QQ9 hQ9)))))

  exact hret _ _ _ _ ⟨rfl, rfl⟩ (by k_asm) (by k_asm)

set_option maxHeartbeats 0 in
theorem pushTok (w : World) (p : Program) (loose : List Str) (mean : ExcName → Option Value) (mg mb : Str → Option Value)
  (x dx pb hx : Addr) (k1 k2 k3 k4 tl tw : Tok) (ln : Int) (ws : Str) (y : Str × Tok) (ps : List (Str × Tok)) (n : Nat) (news news' : List (Addr × Obj))
  (h1 : (x, instObj 130 dx) ∈ news) (h2 : (dx, lxD w.params k1 k2 k3 k4 ln tl (.ref hx) ws tw pb) ∈ news) (h3 : (pb, listOf (svs ps).toArray n) ∈ news) (hl : ps.length ≤ 1000)
  (hU : Upd pb (listOf (svs ps).toArray n) (listOf (svs (ps ++ [y])).toArray (n + 1)) news news') :
  Spec w p loose mean mg mb 127 2 [.ref x, sv y] news (fun v nw => v = .none ∧ nw = news') := by
  unfold Spec
  k_fill
  intro dp un gd cn cs a ccd cl outer A₀ base h₀ L m s Q E B F X N T hk hd hu hret
  k_dflt cell_enter
  iterate 12 (focus (first | ((first | ((rename (∀ (f : Flow) (s : Shared), _ → _) => hq); (with_reducible refine Mine.cutQ hq ?_); clear hq; (rename (Flow → Shared → Prop) => qq); clear qq) | (with_reducible refine Mine.cutQ (by with_reducible assumption) ?_)); (try dsimp only)) | ((first | (k_unfold; (try dsimp only)) | (k_end; kc_close) | walk1 | (dsimp only; walk1) | (leave1; (try dsimp only)) | fail "no step"); (try ((with_reducible show wpAny _ _ (exec _ _) (fun _ _ => _) _ _); refine Mine.gen_Q ?_; intro QQ9 hQ9)))))
  refine append_K (its := (svs ps).toArray) (n := n) (news' := news') (by k_asm) (by k_asm) (by simpa [svs] using hU) ?_ (by size_fits)
  intro h4 F4 N4; k_sweep
  iterate 5 (focus (first | ((first | ((rename (∀ (f : Flow) (s : Shared), _ → _) => hq); (with_reducible refine Mine.cutQ hq ?_); clear hq; (rename (Flow → Shared → Prop) => qq); clear qq) | (with_reducible refine Mine.cutQ (by with_reducible assumption) ?_)); (try dsimp only)) | ((first | (k_unfold; (try dsimp only)) | (k_end; kc_close) | walk1 | (dsimp only; walk1) | (leave1; (try dsimp only)) | fail "no step"); (try ((with_reducible show wpAny _ _ (exec _ _) (fun _ _ => _) _ _); refine Mine.gen_Q ?_; intro QQ9 hQ9)))))

  exact hret _ _ _ _ ⟨rfl, rfl⟩ (by k_asm) (by k_asm)
end Mine
end
section
open PySem PySem.W PyProof.Rows PyProof.V PySem.Spec PySem.SeqAt
set_option maxRecDepth 100000
namespace Mine
theorem slot_ci_next : Slot "callable_iterator" "__next__" "callable_iterator.__next__" :=
  .of (owner := "callable_iterator") (n := "__next__") (by rw [typeLookup_type, builtinLookup_eq_fast]; kernel_rfl) (by decide +kernel) (by decide +kernel) (by decide +kernel)
    (by first | exact .inl (by decide +kernel) | exact .inr (by decide +kernel)) (by rw [isSubtype_type]; kernel_rfl)
theorem entry_ci_next : entryFor table "callable_iterator.__next__" = some Builtin.«callable_iterator.__next__» := entryFor_of_tree (by kernel_rfl)
theorem owner_ci : Manifest.owners.lookup (String.ofList "callable_iterator".toList.reverse.reverse) = some Manifest.sig_callable_iterator := by kernel_rfl
theorem args_ci_next (a : Value) : argsOk "callable_iterator.__next__" ⟨[a], []⟩ := by
  unfold argsOk; rw [signature?_of (id := "callable_iterator.__next__") (n := "__next__".toList.reverse) (o := "callable_iterator".toList.reverse) (by kernel_rfl) owner_ci]; kernel_rfl
theorem slot_ci_iter : Slot "callable_iterator" "__iter__" "callable_iterator.__iter__" :=
  .of (owner := "callable_iterator") (n := "__iter__") (by rw [typeLookup_type, builtinLookup_eq_fast]; kernel_rfl) (by decide +kernel) (by decide +kernel) (by decide +kernel)
    (by first | exact .inl (by decide +kernel) | exact .inr (by decide +kernel)) (by rw [isSubtype_type]; kernel_rfl)
theorem entry_ci_iter : entryFor table "callable_iterator.__iter__" = some Builtin.«dict_keyiterator.__iter__» :=
  entryFor_alias (id' := "dict_keyiterator.__iter__") (by kernel_rfl) (by first | rfl | decide +kernel | (unfold String.splitOn; simp +decide [String.splitOnAux])) (by decide +kernel) (by kernel_rfl)
theorem args_ci_iter (a : Value) : argsOk "callable_iterator.__iter__" ⟨[a], []⟩ := by
  unfold argsOk; rw [signature?_of (id := "callable_iterator.__iter__") (n := "__iter__".toList.reverse) (o := "callable_iterator".toList.reverse) (by kernel_rfl) owner_ci]; kernel_rfl

abbrev ciObj (q : Addr) (sent : Str) (t : Tok) : Obj := { cls := .type "callable_iterator", data := .fields #[.ref q, .str sent t, .bool false] }

abbrev ciEnd : Obj := { cls := .type "callable_iterator", data := .fields #[.none, .none, .bool true] }
theorem kind_iter : builtinKind "iter" = none := by decide +kernel
theorem plain_iter : plainId "iter" = true := by decide +kernel
theorem entry_iter : entryFor table "iter" = some Builtin.«iter» := entryFor_of_tree (by kernel_rfl)
theorem args_iter2 (a b : Value) : argsOk "iter" ⟨[a, b], []⟩ := by unfold argsOk; kernel_rfl
theorem method_callable : typeLookup (.type "method") (Str.ofString "__call__") = pure (some (.builtin "method.__call__")) := by rw [typeLookup_type, builtinLookup_eq_fast]; kernel_rfl

section
variable {prog : Program} {w : World} {A : Around} {E : Value → Shared → Prop} {s : Shared} {h₀ : Heap} {L : Addr}
theorem iter2 {q : Addr} {fn self : Value} {sent : Str} {t : Tok} {Q : Value → Shared → Prop} (h1 : s.heap.get? q = some (methodObj fn self))
    (h : Q (.ref s.heap.objs.size) { s with heap := s.heap.push (ciObj q sent t) }) : wpAny (model prog w) A (call (.builtin "iter") [.ref q, .str sent t]) Q E s := by
  refine Calls.call_function_entry kind_iter plain_iter entry_iter (args_iter2 _ _) ?_
  unfold Builtin.«iter»
  refine wpAny_bind (m := someArgs _ _ _ _) (wpAny_pure ?_)
  have hT : s.TypeIs (.ref q) "method" := ⟨_, h1, rfl⟩
  refine wpAny_bind (wpAny_specialOf hT method_callable ?_)
  show wpAny _ _ (rule _ >>= _) _ _ s
  refine wpAny_bind (wpAny_rule ?_)
  exact wpAny_bind (wpAny_newObj_type (wpAny_pure ⟨_, rfl, h⟩))
theorem wpAny_callBorrowed {f : Value} {pos : List Value} {Q : Value → Shared → Prop}
    (hc : codeAny (model prog w) A (.call f ⟨pos, []⟩) (fun r s' => match r with | .ok (.ret v) => Q v s' | .ok _ => False | .error e => E e s') s) :
    wpAny (model prog w) A (callBorrowed f pos) Q E s := fun Γ p hΓ => by
  unfold callBorrowed
  rw [Sem.wp_call]
  refine wpCode_mono (fun r s' hr => ?_) (hc _ p rfl (hΓ.enter _ none p (by intro x; cases x)))
  cases r with
  | error e => exact hr
  | ok f => cases f <;> exact hr

theorem borrows_method {q fn : Addr} {self : Value} {ofn : Obj} {fd : FuncData} {Q : Bool → Shared → Prop} (h2 : s.heap.get? q = some (methodObj (.ref fn) self)) (h3 : s.heap.get? fn = some ofn) (h4 : ofn.data = .func fd)
    (h : Q true s) : wpAny (model prog w) A (borrowsExactly (.ref q)) Q E s := by
  unfold borrowsExactly
  refine wpAny_bind (wpAny_load h2 ?_)
  show wpAny _ _ ((load fn) >>= _) _ _ s
  refine wpAny_bind (wpAny_load h3 ?_)
  rw [h4]
  exact wpAny_pure h

theorem iter_ci {it : Addr} {q : Addr} {sent : Str} {t : Tok} {Q : Value → Shared → Prop} (h1 : s.heap.get? it = some (ciObj q sent t)) (h : Q (.ref it) s) : wpAny (model prog w) A (pyIter (.ref it)) Q E s := by
  have hT : s.TypeIs (.ref it) "callable_iterator" := ⟨_, h1, rfl⟩
  refine wpAny_pyIter_slot hT slot_ci_iter (wpAny_call_entry slot_ci_iter hT entry_ci_iter ?_ (args_ci_iter _))
  show wpAny _ _ (ret (.ref it)) _ _ s
  exact wpAny_pure ⟨_, rfl, "callable_iterator", _, hT, slot_ci_next.lookup, h⟩

theorem next_ci {it q fn : Addr} {self : Value} {sent : Str} {t : Tok} {ofn : Obj} {fd : FuncData} {Q : Option Value → Shared → Prop} (hh : A.handled = none)
    (h1 : s.heap.get? it = some (ciObj q sent t)) (h2 : s.heap.get? q = some (methodObj (.ref fn) self)) (h3 : s.heap.get? fn = some ofn) (h4 : ofn.data = .func fd)
    (h : codeAny (model prog w) A.in1 (.call (.ref q) ⟨[], []⟩) (fun r s' => match r with
      | .ok (.ret v) => ∃ c u, v = .str c u ∧ s'.heap.get? it = some (ciObj q sent t) ∧ s'.heap.get? q = some (methodObj (.ref fn) self) ∧ s'.heap.get? fn = some ofn ∧
          (c ≠ sent → Q (some v) s') ∧ (c = sent → ∀ h', Heap.ExtBut it s'.heap h' → h'.get? it = some ciEnd → Q none { s' with heap := h' })
      | .ok _ => False | .error _ => False) s) :
    wpAny (model prog w) A (pyNext (.ref it)) Q E s := by
  have hT : s.TypeIs (.ref it) "callable_iterator" := ⟨_, h1, rfl⟩
  unfold pyNext
  refine wpAny_bind (wpAny_attempt (wpAny_callSpecial?_slot (name := Str.ofString "__next__") hT slot_ci_next
    (wpAny_call_entry slot_ci_next hT entry_ci_next ?_ (args_ci_next _))))
  show wpAny _ _ (field (.ref it) 2 >>= _) _ _ s
  refine wpAny_bind (wpAny_field h1 rfl (x := .bool false) rfl ?_)
  show wpAny _ _ (if (Value.bool false == Value.bool true) = true then _ else _) _ _ s
  rw [if_neg (show ¬ ((Value.bool false == Value.bool true) = true) from by decide)]
  refine wpAny_bind (wpAny_field h1 rfl (x := .ref q) rfl ?_)
  unfold callOutOfASlot
  refine wpAny_bind (wpAny_attempt (wpAny_bind (borrows_method h2 h3 h4 ?_)))
  rw [if_pos rfl]
  refine wpAny_callBorrowed (codeAny_mono h fun r s' hr => ?_)
  cases r with
  | error e => exact hr.elim
  | ok f =>
    cases f with
    | next => exact hr.elim
    | brk => exact hr.elim
    | cont => exact hr.elim
    | ret v =>
      obtain ⟨c, u, rfl, g1, g2, g3, g4, g5⟩ := hr
      dsimp only
      refine wpAny_bind (wpAny_field g1 rfl (x := .bool false) rfl ?_)
      rw [if_neg (show ¬ ((Value.bool false == Value.bool true) = true) from by decide)]
      refine wpAny_bind (wpAny_field g1 rfl (x := .str sent t) rfl ?_)
      refine wpAny_bind (wpAny_holding (wpAny_eqBool_str ?_))
      by_cases hc : c = sent
      · rw [decide_eq_true hc.symm]
        rw [if_neg (by decide)]
        refine wpAny_bind (wpAny_rule ?_)
        refine wpAny_bind ?_
        show wpAny _ _ (field (.ref it) 0 >>= _) _ _ s'
        refine wpAny_bind (wpAny_field g1 rfl (x := .ref q) rfl ?_)
        refine wpAny_bind ?_
        unfold slotLetsGo
        refine wpAny_bind (borrows_method g2 g3 h4 ?_)
        rw [if_pos rfl]
        refine wpAny_pure ?_
        refine wpAny_bind (wpAny_setField g1 rfl (by simp) ?_)
        refine wpAny_bind (wpAny_setField (Heap.get?_update_self _ g1 rfl) rfl (by simp) ?_)
        refine wpAny_setField (Heap.get?_update_self _ (Heap.get?_update_self _ g1 rfl) rfl) rfl (by simp) ?_
        show wpAny _ _ (newExc (.type "StopIteration") [] >>= _) _ _ _
        refine wpAny_bind ?_
        simp only [newExc, newTuple]
        refine wpAny_bind (wpAny_newObj_type ?_ (by size_fits))
        refine wpAny_bind (m := firstArgMember _ _) (wpAny_of_eq (a := Value.none) (by first | rfl | (simp only [firstArgMember]; rfl)) ?_)
        refine wpAny_newObj_type ?_ (by size_fits)
        simp only [raiseNew]
        refine wpAny_bind (wpAny_handled ?_)
        rw [show A.in1.handled = none from hh]
        refine wpAny_bind (wpAny_pure (wpAny_throw ?_))
        refine wpAny_bind (wpAny_isInstance (T := "StopIteration") (b := true) ⟨_, Heap.get?_push_size _ rfl, rfl⟩ isSubtype_stop ?_)
        refine wpAny_pure (g5 hc _ ?_ ?_)
        · exact (((((Heap.SameBut.update ..).extBut).trans ((Heap.SameBut.update ..).extBut)).trans ((Heap.SameBut.update ..).extBut)).push _).push _
        · refine Heap.get?_push_of_some _ (Heap.get?_push_of_some _ ?_)
          exact Heap.get?_update_self _ (Heap.get?_update_self _ (Heap.get?_update_self _ g1 rfl) rfl) rfl
      · rw [decide_eq_false (fun e => hc e.symm)]
        rw [if_pos (by decide)]
        exact wpAny_pure ⟨_, rfl, wpAny_pure (g4 hc)⟩
theorem next_ciEnd {it : Addr} {Q : Option Value → Shared → Prop} (hh : A.handled = none) (h1 : s.heap.get? it = some ciEnd)
    (h : ∀ h', Heap.ExtBut it s.heap h' → Q none { s with heap := h' }) : wpAny (model prog w) A (pyNext (.ref it)) Q E s := by
  have hT : s.TypeIs (.ref it) "callable_iterator" := ⟨_, h1, rfl⟩
  unfold pyNext
  refine wpAny_bind (wpAny_attempt (wpAny_callSpecial?_slot (name := Str.ofString "__next__") hT slot_ci_next
    (wpAny_call_entry slot_ci_next hT entry_ci_next ?_ (args_ci_next _))))
  show wpAny _ _ (field (.ref it) 2 >>= _) _ _ s
  refine wpAny_bind (wpAny_field h1 rfl (x := .bool true) rfl ?_)
  show wpAny _ _ (if (Value.bool true == Value.bool true) = true then _ else _) _ _ s
  rw [if_pos (by decide)]
  refine wpAny_bind (wpAny_rule ?_)
  refine wpAny_bind ?_
  show wpAny _ _ (newExc (.type "StopIteration") [] >>= _) _ _ _
  refine wpAny_bind ?_
  simp only [newExc, newTuple]
  refine wpAny_bind (wpAny_newObj_type ?_ (by size_fits))
  refine wpAny_bind (m := firstArgMember _ _) (wpAny_of_eq (a := Value.none) (by first | rfl | (simp only [firstArgMember]; rfl)) ?_)
  refine wpAny_newObj_type ?_ (by size_fits)
  simp only [raiseNew]
  refine wpAny_bind (wpAny_handled ?_)
  rw [show A.in1.handled = none from hh]
  refine wpAny_bind (wpAny_pure (wpAny_throw ?_))
  refine wpAny_bind (wpAny_isInstance (T := "StopIteration") (b := true) ⟨_, Heap.get?_push_size _ rfl, rfl⟩ isSubtype_stop ?_)
  exact wpAny_pure (h _ (((Heap.ExtBut.refl _ _).push _).push _))
end
end Mine
end
section
open PySem PySem.W PyProof.Rows PyProof.V PySem.Spec PySem.SeqAt
set_option maxRecDepth 100000
namespace Mine
def at1 (x : Str) (k : Nat) : Str := match x.cps[k]? with
  | some c => ⟨#[c]⟩
  | none => ⟨#[]⟩
theorem slice_one (x : Str) (k : Nat) : Txt.slice x (some (k : Int)) (some ((k : Int) + 1)) = at1 x k := by
  unfold at1
  by_cases h : k < x.cps.size
  · have h1 := slice_closes (x := x) (i := (k : Int)) (j := (k : Int) + 1) ⟨by omega, by omega, by simp; omega⟩
    rw [beq_iff_eq] at h1
    rw [h1]
    have e : ((k : Int) + 1 - (k : Int)).toNat = 1 := by omega
    rw [e]
    simp [h, List.take_one, List.head?_drop]
  · simp only [Array.getElem?_eq_none (Nat.le_of_not_lt h)]
    have hn : ((x.length : Nat) : Int) ≤ (k : Int) := by unfold Str.length; omega
    have e : Builtin.Str.strSliceIndices (some (k : Int)) (some ((k : Int) + 1)) 1 x.length = [] := by
      have h1 : ¬ ((k : Int) < 0) := by omega
      have h2 : ¬ ((k : Int) + 1 < 0) := by omega
      have e1 : max (0 : Int) (min (k : Int) (x.length : Int)) = x.length := by omega
      have e2 : max (0 : Int) (min ((k : Int) + 1) (x.length : Int)) = x.length := by omega
      simp only [Builtin.Str.strSliceIndices, sliceRange, h1, h2, if_false, e1, e2, show ((1 : Int) > 0) = True from by simp, if_true]
      simp
    show StrLaws.sliceText _ _ _ = _
    unfold StrLaws.sliceText
    rw [e]
    by_cases hx : x.length = 0
    · rw [if_pos (by rw [hx]; rfl)]
      obtain ⟨c⟩ := x
      simp only [Str.length] at hx
      simp [Array.eq_empty_of_size_eq_zero hx]
    · rw [if_neg (by simp; omega)]
      simp
end Mine
end
section
open PySem PySem.W PyProof.Rows PyProof.V PySem.Spec PySem.SeqAt
set_option maxRecDepth 100000
namespace Mine
local macro_rules | `(tactic| k_ne) => `(tactic| (refine neN ?_; (try dsimp only); first | with_reducible assumption | exact Ne.symm (by with_reducible assumption) | exact Nat.ne_of_lt (by with_reducible assumption) | exact Nat.ne_of_gt (by with_reducible assumption) | exact Nat.ne_of_lt (And.left (by with_reducible assumption)) | exact Nat.ne_of_lt (And.left (And.right (by with_reducible assumption))) | exact Nat.ne_of_lt (And.left (And.right (And.right (by with_reducible assumption)))) | exact Nat.ne_of_lt (And.left (And.right (And.right (And.right (by with_reducible assumption))))) | exact Nat.ne_of_lt (And.left (And.right (And.right (And.right (And.right (by with_reducible assumption)))))) | exact Nat.ne_of_lt (And.left (And.right (And.right (And.right (And.right (And.right (by with_reducible assumption))))))) | exact Nat.ne_of_lt (And.left (And.right (And.right (And.right (And.right (And.right (And.right (by with_reducible assumption)))))))) | exact Nat.ne_of_lt (And.left (And.right (And.right (And.right (And.right (And.right (And.right (And.right (by with_reducible assumption))))))))) | exact Nat.ne_of_lt (And.left (And.right (And.right (And.right (And.right (And.right (And.right (And.right (And.right (by with_reducible assumption)))))))))) | exact Nat.ne_of_lt (And.left (And.right (And.right (And.right (And.right (And.right (And.right (And.right (And.right (And.right (by with_reducible assumption))))))))))) | exact Nat.ne_of_lt (And.left (And.right (And.right (And.right (And.right (And.right (And.right (And.right (And.right (And.right (And.right (by with_reducible assumption)))))))))))) | exact Nat.ne_of_lt (And.left (And.right (And.right (And.right (And.right (And.right (And.right (And.right (And.right (And.right (And.right (And.right (by with_reducible assumption))))))))))))) | exact Nat.ne_of_lt (And.left (And.right (And.right (And.right (And.right (And.right (And.right (And.right (And.right (And.right (And.right (And.right (And.right (by with_reducible assumption)))))))))))))) | exact Nat.ne_of_gt (And.left (by with_reducible assumption)) | exact Nat.ne_of_gt (And.left (And.right (by with_reducible assumption))) | exact Nat.ne_of_gt (And.left (And.right (And.right (by with_reducible assumption)))) | exact Nat.ne_of_gt (And.left (And.right (And.right (And.right (by with_reducible assumption))))) | exact Nat.ne_of_gt (And.left (And.right (And.right (And.right (And.right (by with_reducible assumption)))))) | exact Nat.ne_of_gt (And.left (And.right (And.right (And.right (And.right (And.right (by with_reducible assumption))))))) | exact Nat.ne_of_gt (And.left (And.right (And.right (And.right (And.right (And.right (And.right (by with_reducible assumption)))))))) | exact Nat.ne_of_gt (And.left (And.right (And.right (And.right (And.right (And.right (And.right (And.right (by with_reducible assumption))))))))) | exact Nat.ne_of_gt (And.left (And.right (And.right (And.right (And.right (And.right (And.right (And.right (And.right (by with_reducible assumption)))))))))) | exact Nat.ne_of_gt (And.left (And.right (And.right (And.right (And.right (And.right (And.right (And.right (And.right (And.right (by with_reducible assumption))))))))))) | exact Nat.ne_of_gt (And.left (And.right (And.right (And.right (And.right (And.right (And.right (And.right (And.right (And.right (And.right (by with_reducible assumption)))))))))))) | exact Nat.ne_of_gt (And.left (And.right (And.right (And.right (And.right (And.right (And.right (And.right (And.right (And.right (And.right (And.right (by with_reducible assumption))))))))))))) | exact Nat.ne_of_gt (And.left (And.right (And.right (And.right (And.right (And.right (And.right (And.right (And.right (And.right (And.right (And.right (And.right (by with_reducible assumption)))))))))))))) | exact (And.left (by with_reducible assumption)) | exact Ne.symm (And.left (by with_reducible assumption)) | exact (And.left (And.right (by with_reducible assumption))) | exact Ne.symm (And.left (And.right (by with_reducible assumption))) | exact (And.left (And.right (And.right (by with_reducible assumption)))) | exact Ne.symm (And.left (And.right (And.right (by with_reducible assumption)))) | exact (And.left (And.right (And.right (And.right (by with_reducible assumption))))) | exact Ne.symm (And.left (And.right (And.right (And.right (by with_reducible assumption))))) | exact (And.left (And.right (And.right (And.right (And.right (by with_reducible assumption)))))) | exact Ne.symm (And.left (And.right (And.right (And.right (And.right (by with_reducible assumption)))))) | exact (And.left (And.right (And.right (And.right (And.right (And.right (by with_reducible assumption))))))) | exact Ne.symm (And.left (And.right (And.right (And.right (And.right (And.right (by with_reducible assumption))))))) | exact (And.left (And.right (And.right (And.right (And.right (And.right (And.right (by with_reducible assumption)))))))) | exact Ne.symm (And.left (And.right (And.right (And.right (And.right (And.right (And.right (by with_reducible assumption)))))))) | exact (And.left (And.right (And.right (And.right (And.right (And.right (And.right (And.right (by with_reducible assumption))))))))) | exact Ne.symm (And.left (And.right (And.right (And.right (And.right (And.right (And.right (And.right (by with_reducible assumption))))))))) | exact Nat.ne_of_lt (lt_tr2 (by with_reducible assumption) (And.left (by with_reducible assumption))) | exact Nat.ne_of_gt (lt_tr2 (by with_reducible assumption) (And.left (by with_reducible assumption))) | exact Nat.ne_of_lt (lt_tr2 (by with_reducible assumption) (And.left (And.right (by with_reducible assumption)))) | exact Nat.ne_of_gt (lt_tr2 (by with_reducible assumption) (And.left (And.right (by with_reducible assumption)))) | exact Nat.ne_of_lt (lt_tr2 (by with_reducible assumption) (And.left (And.right (And.right (by with_reducible assumption))))) | exact Nat.ne_of_gt (lt_tr2 (by with_reducible assumption) (And.left (And.right (And.right (by with_reducible assumption))))) | exact Nat.ne_of_lt (lt_tr2 (by with_reducible assumption) (And.left (And.right (And.right (And.right (by with_reducible assumption)))))) | exact Nat.ne_of_gt (lt_tr2 (by with_reducible assumption) (And.left (And.right (And.right (And.right (by with_reducible assumption)))))) | exact Nat.ne_of_lt (lt_tr2 (by with_reducible assumption) (And.left (And.right (And.right (And.right (And.right (by with_reducible assumption))))))) | exact Nat.ne_of_gt (lt_tr2 (by with_reducible assumption) (And.left (And.right (And.right (And.right (And.right (by with_reducible assumption))))))) | exact Nat.ne_of_lt (lt_tr2 (by with_reducible assumption) (And.left (And.right (And.right (And.right (And.right (And.right (by with_reducible assumption)))))))) | exact Nat.ne_of_gt (lt_tr2 (by with_reducible assumption) (And.left (And.right (And.right (And.right (And.right (And.right (by with_reducible assumption)))))))) | exact Nat.ne_of_lt (lt_tr2 (by with_reducible assumption) (And.left (And.right (And.right (And.right (And.right (And.right (And.right (by with_reducible assumption))))))))) | exact Nat.ne_of_gt (lt_tr2 (by with_reducible assumption) (And.left (And.right (And.right (And.right (And.right (And.right (And.right (by with_reducible assumption))))))))) | exact Nat.ne_of_lt (lt_tr2 (by with_reducible assumption) (And.left (And.right (And.right (And.right (And.right (And.right (And.right (And.right (by with_reducible assumption)))))))))) | exact Nat.ne_of_gt (lt_tr2 (by with_reducible assumption) (And.left (And.right (And.right (And.right (And.right (And.right (And.right (And.right (by with_reducible assumption)))))))))) | exact Nat.ne_of_lt (lt_tr2 (by with_reducible assumption) (And.left (And.right (And.right (And.right (And.right (And.right (And.right (And.right (And.right (by with_reducible assumption))))))))))) | exact Nat.ne_of_gt (lt_tr2 (by with_reducible assumption) (And.left (And.right (And.right (And.right (And.right (And.right (And.right (And.right (And.right (by with_reducible assumption))))))))))) | exact Nat.ne_of_lt (lt_tr2 (by with_reducible assumption) (And.left (And.right (And.right (And.right (And.right (And.right (And.right (And.right (And.right (And.right (by with_reducible assumption)))))))))))) | exact Nat.ne_of_gt (lt_tr2 (by with_reducible assumption) (And.left (And.right (And.right (And.right (And.right (And.right (And.right (And.right (And.right (And.right (by with_reducible assumption)))))))))))) | exact Nat.ne_of_lt (lt_tr2 (by with_reducible assumption) (And.left (And.right (And.right (And.right (And.right (And.right (And.right (And.right (And.right (And.right (And.right (by with_reducible assumption))))))))))))) | exact Nat.ne_of_gt (lt_tr2 (by with_reducible assumption) (And.left (And.right (And.right (And.right (And.right (And.right (And.right (And.right (And.right (And.right (And.right (by with_reducible assumption)))))))))))))))

structure Rdr where
  x : Addr
  dx : Addr
  pb : Addr
  hx : Addr
  hdx : Addr
  hpb : Addr
  f : Addr
  c : Addr
  ct : Addr
  cp : Addr
  pl : Addr
  fo : Obj
  oc : Obj
  oct : Obj
  ocp : Obj
  k1 : Tok
  k2 : Tok
  k3 : Tok
  k4 : Tok
  j1 : Tok
  j2 : Tok
  j3 : Tok
  j4 : Tok
  j5 : Tok
  jl : Tok
  jw : Tok
  tw : Tok
  nh : Nat
abbrev hxD (P : Params) (R : Rdr) : Obj :=
  dictOf [ent P "lineno" R.j1 (.int 1 R.jl), ent P "instream" R.j2 .none, ent P "whitespace" R.j3 (.str (Str.ofString "\n\t\x0d ") R.jw), ent P "pushback" R.j4 (.ref R.hpb), ent P "read" R.j5 (.ref R.f)] 5
/-- the reader's parts that no call turns -/
abbrev Rdr.ro (P : Params) (R : Rdr) : List (Addr × Obj) := [(R.x, instObj 130 R.dx), (R.hpb, listOf #[] R.nh), (R.hx, instObj 130 R.hdx), (R.hdx, hxD P R), (R.f, R.fo), (R.c, R.oc), (R.ct, R.oct), (R.cp, R.ocp)]
abbrev Rdr.dxo (P : Params) (R : Rdr) (ws : Str) (ln : Int) (tl : Tok) : Obj := lxD P R.k1 R.k2 R.k3 R.k4 ln tl (.ref R.hx) ws R.tw R.pb

def ReadSpec (w : World) (p : Program) (loose : List Str) (mean : ExcName → Option Value) (mg mb : Str → Option Value) (tx : Str) (R : Rdr) : Prop :=
  (∃ fd, R.fo.data = .func fd) ∧ ∀ (k : Nat) (tk t1 : Tok) (n : Nat) (Z : List (Addr × Obj)), (R.f, R.fo) ∈ Z → (R.c, R.oc) ∈ Z → (R.ct, R.oct) ∈ Z → (R.cp, R.ocp) ∈ Z → (∀ p ∈ Z, p.1 ≠ R.pl) → k ≤ 100000 →
    Spec w p loose mean mg mb R.f 2 [.int 1 t1] ((R.pl, listOf #[.int k tk] n) :: Z) (fun v nw => ∃ t tk', v = .str (at1 tx k) t ∧ nw = (R.pl, listOf #[.int (k + 1 : Nat) tk'] n) :: Z)

/-- the code object of `read` that is kept in the table -/
def TabC (oc : Obj) : Prop := ∃ vs t, oc.data = .fields vs ∧ vs[1]? = some (.str (Str.ofString "_law_reader.<locals>.read") t)
/-- what a reader turns lies apart -/
def Rdr.apart (R : Rdr) : Prop := @Ne Nat R.pb R.dx ∧ @Ne Nat R.pb R.pl ∧ @Ne Nat R.dx R.pl ∧ @Ne Nat R.pb 143 ∧ @Ne Nat R.dx 143 ∧ @Ne Nat R.pl 143 ∧ (∀ a ∈ [R.x, R.hpb, R.hx, R.hdx, R.f, R.c, R.ct, R.cp], @Ne Nat a R.pb ∧ @Ne Nat a R.dx ∧ @Ne Nat a R.pl)

def RdPost (w : World) (p : Program) (loose : List Str) (mean : ExcName → Option Value) (mg mb : Str → Option Value) (tx wh : Str) (Z : List (Addr × Obj)) (v : Value) (nw : List (Addr × Obj)) : Prop :=
  ∃ (R : Rdr) (npb n : Nat) (tl tk : Tok), v = .ref R.x ∧ nw = (R.pb, listOf #[] npb) :: (R.dx, R.dxo w.params wh 1 tl) :: (R.pl, listOf #[.int (0 : Nat) tk] n) :: (143, tabObj #[rawInt 144, rawInt 4, .ref R.c]) :: (R.ro w.params ++ Z) ∧ TabC R.oc ∧ R.apart ∧
    (∀ p ∈ Z, p.1 ≠ R.pb ∧ p.1 ≠ R.dx ∧ p.1 ≠ R.pl) ∧ (∀ p ∈ Z, ∀ q ∈ R.ro w.params, p.1 ≠ q.1) ∧ ReadSpec w p loose mean mg mb tx R

theorem allLt_mem {d : Addr} {Z : List (Addr × Obj)} (h : AllLt d Z) : ∀ p ∈ Z, @LT.lt Nat _ p.1 d := by
  induction Z with
  | nil => intro p hp; cases hp
  | cons q r ih =>
    intro p hp
    rcases List.mem_cons.mp hp with rfl | hp
    · exact h.1
    · exact ih h.2 p hp
theorem rd_fin {w : World} {p : Program} {loose : List Str} {mean : ExcName → Option Value} {mg mb : Str → Option Value} {tx wh : Str} {h₀ h : Heap} {L : Addr} {m : Str → Option Value} {Z : List (Addr × Obj)} {s : Shared} {tk₀ : Nat} {Q : Value → Shared → Prop} {npb n : Nat} {tl tk : Tok} (R : Rdr)
    (N : News h₀ L h ((R.pb, listOf #[] npb) :: (R.x, instObj 130 R.dx) :: (R.dx, R.dxo w.params wh 1 tl) :: (R.hpb, listOf #[] R.nh) :: (R.hx, instObj 130 R.hdx) :: (R.hdx, hxD w.params R) :: (R.f, R.fo) :: (R.c, R.oc) :: (R.pl, listOf #[.int (0 : Nat) tk] n) :: (R.cp, R.ocp) :: (R.ct, R.oct) :: (143, tabObj #[rawInt 144, rawInt 4, .ref R.c]) :: Z))
    (F : Fr h₀ L h m) (hret : ∀ v news' h' tk', RdPost w p loose mean mg mb tx wh Z v news' → Fr h₀ L h' m → News h₀ L h' news' → Q v { s with heap := h', toks := tk' })
    (ht : TabC R.oc) (ha : R.apart) (hZ : ∀ p ∈ Z, p.1 ≠ R.pb ∧ p.1 ≠ R.dx ∧ p.1 ≠ R.pl) (hZ2 : ∀ p ∈ Z, ∀ q ∈ R.ro w.params, p.1 ≠ q.1)
    (hs : ReadSpec w p loose mean mg mb tx R) : Q (.ref R.x) { s with heap := h, toks := tk₀ } := by
  refine hret _ _ _ _ ⟨R, npb, n, tl, tk, rfl, rfl, ht, ha, hZ, hZ2, hs⟩ F (kst_newsOf N ?_)
  refine List.forall_mem_cons.mpr ⟨?_, List.forall_mem_cons.mpr ⟨?_, List.forall_mem_cons.mpr ⟨?_, List.forall_mem_cons.mpr ⟨?_, List.forall_mem_cons.mpr ⟨?_, List.forall_mem_cons.mpr ⟨?_, List.forall_mem_cons.mpr ⟨?_, List.forall_mem_cons.mpr ⟨?_, List.forall_mem_cons.mpr ⟨?_, List.forall_mem_cons.mpr ⟨?_, List.forall_mem_cons.mpr ⟨?_, List.forall_mem_cons.mpr ⟨?_, fun q hq => ?_⟩⟩⟩⟩⟩⟩⟩⟩⟩⟩⟩⟩
  all_goals (repeat' (first | exact .head _ | exact hq | apply List.Mem.tail))

def RdPost2 (w : World) (p : Program) (loose : List Str) (mean : ExcName → Option Value) (mg mb : Str → Option Value) (tx wh : Str) (Z : List (Addr × Obj)) (v : Value) (nw : List (Addr × Obj)) : Prop :=
  ∃ (R : Rdr) (npb n : Nat) (tl tk : Tok), v = .ref R.x ∧ nw = (R.pb, listOf #[] npb) :: (R.dx, R.dxo w.params wh 1 tl) :: (R.pl, listOf #[.int (0 : Nat) tk] n) :: (R.ro w.params ++ Z) ∧ R.apart ∧
    (∀ p ∈ Z, p.1 ≠ R.pb ∧ p.1 ≠ R.dx ∧ p.1 ≠ R.pl) ∧ ReadSpec w p loose mean mg mb tx R
theorem rd_fin2 {w : World} {p : Program} {loose : List Str} {mean : ExcName → Option Value} {mg mb : Str → Option Value} {tx wh : Str} {h₀ h : Heap} {L : Addr} {m : Str → Option Value} {Z : List (Addr × Obj)} {s : Shared} {tk₀ : Nat} {Q : Value → Shared → Prop} {npb n : Nat} {tl tk : Tok} (R : Rdr)
    (N : News h₀ L h ((R.pb, listOf #[] npb) :: (R.x, instObj 130 R.dx) :: (R.dx, R.dxo w.params wh 1 tl) :: (R.hpb, listOf #[] R.nh) :: (R.hx, instObj 130 R.hdx) :: (R.hdx, hxD w.params R) :: (R.f, R.fo) :: (R.pl, listOf #[.int (0 : Nat) tk] n) :: (R.cp, R.ocp) :: (R.ct, R.oct) :: Z))
    (hc : (R.c, R.oc) ∈ Z) (F : Fr h₀ L h m) (hret : ∀ v news' h' tk', RdPost2 w p loose mean mg mb tx wh Z v news' → Fr h₀ L h' m → News h₀ L h' news' → Q v { s with heap := h', toks := tk' })
    (ha : R.apart) (hZ : ∀ p ∈ Z, p.1 ≠ R.pb ∧ p.1 ≠ R.dx ∧ p.1 ≠ R.pl)
    (hs : ReadSpec w p loose mean mg mb tx R) : Q (.ref R.x) { s with heap := h, toks := tk₀ } := by
  refine hret _ _ _ _ ⟨R, npb, n, tl, tk, rfl, rfl, ha, hZ, hs⟩ F (kst_newsOf N ?_)
  refine List.forall_mem_cons.mpr ⟨?_, List.forall_mem_cons.mpr ⟨?_, List.forall_mem_cons.mpr ⟨?_, List.forall_mem_cons.mpr ⟨?_, List.forall_mem_cons.mpr ⟨?_, List.forall_mem_cons.mpr ⟨?_, List.forall_mem_cons.mpr ⟨?_, List.forall_mem_cons.mpr ⟨?_, List.forall_mem_cons.mpr ⟨?_, List.forall_mem_cons.mpr ⟨?_, List.forall_mem_cons.mpr ⟨?_, fun q hq => ?_⟩⟩⟩⟩⟩⟩⟩⟩⟩⟩⟩
  all_goals (repeat' (first | exact .head _ | exact hc | exact hq | apply List.Mem.tail))

set_option maxHeartbeats 0 in
theorem reader0 (w : World) (p : Program) (loose : List Str) (mean : ExcName → Option Value) (mg mb : Str → Option Value)
  (tx wh : Str) (t1 t2 : Tok) (Z : List (Addr × Obj)) (h143 : ∀ p ∈ Z, p.1 ≠ 143) (htx : tx.length ≤ 10000) :
  Spec w p loose mean mg mb 148 10 [.str tx t1, .str wh t2] ((143, tabObj #[]) :: Z) (RdPost w p loose mean mg mb tx wh Z) := by
  unfold Spec
  k_fill
  intro dp un gd cn cs a ccd cl outer A₀ base h₀ L m s Q E B F X N T hk hd hu hret
  refine' code_defC ?k1 ?k2 ?k3 ?k4 ?k5 ?kA ?kF ?kK ?k6 ?k7 ?k8 ?k9 ?kB ?kD ?_ ?c2 ?c3 ?c4; (case kA => exact rfl); (case kF => exact rfl); (case kK => assumption); (case k1 => k_asm); (case k2 => k_asm); (case k3 => k_asm); (case k4 => k_asm); (case k5 => k_asm); (case k6 => k_is); (case k7 => k_is); (case k8 => ktr_room); (case k9 => exact BindsTo.of_eq rfl); (case kB => exact rfl); (case kD => decide +kernel); (case c2 => exact rfl); (case c3 => exact rfl); (case c4 => exact rfl); k_whole; intro g' L' h' tk' cells' FG' F' N' Y' B' X' T' l1; (try k_lt l1); k_cells Y'; (try simp only [List.cons_append, List.nil_append] at N'); (try dsimp only); (try k_lift B'); (try k_fold)
  rename Fr _ _ _ (fun _ => _) => F0; refine letM F0 ?_; clear F0; intro M0 F1
  refine letEA ?_; intro e9 A9
  have hcH : CodeHd g' 147 143 := codeHd_of_K X' (hd147 _)
  have hL1 : ∀ p ∈ Z, p.1 ≠ L' + 1 := allNe_le l1.2 (by omega)
  have hL2 : ∀ p ∈ Z, p.1 ≠ L' + 1 + 1 := allNe_le l1.2 (by omega)
  iterate 128 (focus (first | ((first | ((rename (∀ (f : Flow) (s : Shared), _ → _) => hq); (with_reducible refine Mine.cutQ hq ?_); clear hq; (rename (Flow → Shared → Prop) => qq); clear qq) | (with_reducible refine Mine.cutQ (by with_reducible assumption) ?_)); (try dsimp only)) | ((first | (k_unfold; (try dsimp only)) | (k_end; kc_close) | walk1 | (dsimp only; walk1) | (leave1; (try dsimp only)) | fail "no step"); (try ((with_reducible show wpAny _ _ (exec _ _) (fun _ _ => _) _ _); refine Mine.gen_Q ?_; intro QQ9 hQ9)))))
  rename News h₀ _ _ _ => NR
  refine rd_fin (npb := 0) (n := 0) ⟨_, _, _, _, _, _, _, _, _, _, _, _, _, _, _, _, _, _, _, _, _, _, _, _, _, _, _, _⟩ NR (by k_asm) hret ?tab ?apart ?hZ ?hZ2 ?_
  case tab => exact ⟨_, _, by assumption, by with_unfolding_all assumption⟩
  case apart =>
    unfold Rdr.apart
    dsimp only
    refine ⟨by k_ne, by k_ne, by k_ne, by k_ne, by k_ne, by k_ne, ?_⟩
    exact fm (⟨by k_ne, by k_ne, by k_ne⟩) (fm (⟨by k_ne, by k_ne, by k_ne⟩) (fm (⟨by k_ne, by k_ne, by k_ne⟩) (fm (⟨by k_ne, by k_ne, by k_ne⟩) (fm (⟨by k_ne, by k_ne, by k_ne⟩) (fm (⟨by k_ne, by k_ne, by k_ne⟩) (fm (⟨by k_ne, by k_ne, by k_ne⟩) (fm (⟨by k_ne, by k_ne, by k_ne⟩) fm0)))))))
  case hZ =>
    dsimp only
    intro q hq
    exact ⟨(show ∀ q ∈ Z, q.1 ≠ _ by k_all) q hq, (show ∀ q ∈ Z, q.1 ≠ _ by k_all) q hq, (show ∀ q ∈ Z, q.1 ≠ _ by k_all) q hq⟩
  case hZ2 =>
    dsimp only [Rdr.ro]
    intro q hq
    exact fm (by first | (dsimp only; exact (show ∀ q ∈ Z, q.1 ≠ _ by k_all) q hq) | (have hql := allLt_mem l1.2 q hq; clear NR hret; k_ne)) (fm (by first | (dsimp only; exact (show ∀ q ∈ Z, q.1 ≠ _ by k_all) q hq) | (have hql := allLt_mem l1.2 q hq; clear NR hret; k_ne)) (fm (by first | (dsimp only; exact (show ∀ q ∈ Z, q.1 ≠ _ by k_all) q hq) | (have hql := allLt_mem l1.2 q hq; clear NR hret; k_ne)) (fm (by first | (dsimp only; exact (show ∀ q ∈ Z, q.1 ≠ _ by k_all) q hq) | (have hql := allLt_mem l1.2 q hq; clear NR hret; k_ne)) (fm (by first | (dsimp only; exact (show ∀ q ∈ Z, q.1 ≠ _ by k_all) q hq) | (have hql := allLt_mem l1.2 q hq; clear NR hret; k_ne)) (fm (by first | (dsimp only; exact (show ∀ q ∈ Z, q.1 ≠ _ by k_all) q hq) | (have hql := allLt_mem l1.2 q hq; clear NR hret; k_ne)) (fm (by first | (dsimp only; exact (show ∀ q ∈ Z, q.1 ≠ _ by k_all) q hq) | (have hql := allLt_mem l1.2 q hq; clear NR hret; k_ne)) (fm (by first | (dsimp only; exact (show ∀ q ∈ Z, q.1 ≠ _ by k_all) q hq) | (have hql := allLt_mem l1.2 q hq; clear NR hret; k_ne)) fm0)))))))
  rename Fr h₀ _ _ _ => kFold
  clear kFold NR hret
  refine ⟨⟨_, rfl⟩, ?_⟩
  intro k tkk t1' n' Z' hmf hmc hmct hmcp hmne hk2
  unfold Spec
  dsimp only at hmf hmc hmct hmcp hmne ⊢
  intro dp' un' gd' cn' cs' a' ccd' cl' outer' A₀' base' hh₀ LL mm ss QQ EE BB FF XX NN TT hkk hdd huu hret
  have hcH2 : CodeHd hh₀ 147 143 := codeHd_of_K XX (hd147 _)
  refine' code_nest ?k1 ?k2 ?k3 ?k4 ?k5 ?kA ?kF ?kK ?k6 ?k7 ?k8 ?k9 ?kB ?_ ?c2 ?c3 ?c4 ?c5
  case kA => exact rfl
  case kF => exact rfl
  case kK => assumption
  case k1 => k_asm
  case k2 => k_asm
  case k3 => k_asm
  case k4 => k_asm
  case k5 => k_asm
  case k6 => exact .tail _ hmf
  case k7 => exact codeRec_news (by k_asm) (.tail _ hmc) (by assumption) (by assumption)
  case k8 => k_room
  case k9 => exact BindsTo.of_eq rfl
  case c5 => decide
  case kB => exact locs rfl
  case c2 => exact rfl
  case c3 => exact rfl
  case c4 => exact rfl
  intro g9 L9 h9 FG9 F9 N9 B9 X9 T9
  (try dsimp only); (try k_lift B9); (try k_fold)
  iterate 38 (focus (first | ((first | ((rename (∀ (f : Flow) (s : Shared), _ → _) => hq); (with_reducible refine Mine.cutQ hq ?_); clear hq; (rename (Flow → Shared → Prop) => qq); clear qq) | (with_reducible refine Mine.cutQ (by with_reducible assumption) ?_)); (try dsimp only)) | ((first | (k_unfold; (try dsimp only)) | (k_end; kc_close) | walk1 | (dsimp only; walk1) | (leave1; (try dsimp only)) | fail "no step"); (try ((with_reducible show wpAny _ _ (exec _ _) (fun _ _ => _) _ _); refine Mine.gen_Q ?_; intro QQ9 hQ9)))))
  have ek : [((k : Nat) : Int)].getD (Int.toNat 0) 0 = ((k : Nat) : Int) := rfl
  rename News hh₀ _ _ _ => NR
  rw [ek] at NR ⊢
  rw [slice_one]
  exact hret _ _ _ _ ⟨_, _, rfl, rfl⟩ (by k_asm) NR
set_option maxHeartbeats 0 in
theorem reader1 (w : World) (p : Program) (loose : List Str) (mean : ExcName → Option Value) (mg mb : Str → Option Value)
  (tx wh : Str) (t1 t2 : Tok) (Z : List (Addr × Obj)) (htx : tx.length ≤ 10000) (c₀ : Addr) (oc₀ : Obj) (htab : (143, tabObj #[rawInt 144, rawInt 4, .ref c₀]) ∈ Z) (hc₀ : (c₀, oc₀) ∈ Z) (hoc : TabC oc₀) :
  Spec w p loose mean mg mb 148 10 [.str tx t1, .str wh t2] Z (RdPost2 w p loose mean mg mb tx wh Z) := by
  unfold Spec
  k_fill
  intro dp un gd cn cs a ccd cl outer A₀ base h₀ L m s Q E B F X N T hk hd hu hret
  refine' code_defC ?k1 ?k2 ?k3 ?k4 ?k5 ?kA ?kF ?kK ?k6 ?k7 ?k8 ?k9 ?kB ?kD ?_ ?c2 ?c3 ?c4; (case kA => exact rfl); (case kF => exact rfl); (case kK => assumption); (case k1 => k_asm); (case k2 => k_asm); (case k3 => k_asm); (case k4 => k_asm); (case k5 => k_asm); (case k6 => k_is); (case k7 => k_is); (case k8 => ktr_room); (case k9 => exact BindsTo.of_eq rfl); (case kB => exact rfl); (case kD => decide +kernel); (case c2 => exact rfl); (case c3 => exact rfl); (case c4 => exact rfl); k_whole; intro g' L' h' tk' cells' FG' F' N' Y' B' X' T' l1; (try k_lt l1); k_cells Y'; (try simp only [List.cons_append, List.nil_append] at N'); (try dsimp only); (try k_lift B'); (try k_fold)
  rename Fr _ _ _ (fun _ => _) => F0; refine letM F0 ?_; clear F0; intro M0 F1
  refine letEA ?_; intro e9 A9
  have hcH : CodeHd g' 147 143 := codeHd_of_K X' (hd147 _)
  have hL1 : ∀ p ∈ Z, p.1 ≠ L' + 1 := fun q hq => Nat.ne_of_lt (Nat.lt_of_lt_of_le (l1 q hq) (by omega))
  have hL2 : ∀ p ∈ Z, p.1 ≠ L' + 1 + 1 := fun q hq => Nat.ne_of_lt (Nat.lt_of_lt_of_le (l1 q hq) (by omega))
  obtain ⟨vs₀, tq₀, hv₀, hq₀⟩ := hoc
  iterate 128 (focus (first | ((first | ((rename (∀ (f : Flow) (s : Shared), _ → _) => hq); (with_reducible refine Mine.cutQ hq ?_); clear hq; (rename (Flow → Shared → Prop) => qq); clear qq) | (with_reducible refine Mine.cutQ (by with_reducible assumption) ?_)); (try dsimp only)) | ((first | (k_unfold; (try dsimp only)) | (k_end; kc_close) | walk1 | (dsimp only; walk1) | (leave1; (try dsimp only)) | fail "no step"); (try ((with_reducible show wpAny _ _ (exec _ _) (fun _ _ => _) _ _); refine Mine.gen_Q ?_; intro QQ9 hQ9)))))
  rename News h₀ _ _ _ => NR
  refine rd_fin2 (npb := 0) (n := 0) ⟨_, _, _, _, _, _, _, c₀, _, _, _, _, oc₀, _, _, _, _, _, _, _, _, _, _, _, _, _, _, _⟩ NR hc₀ (by k_asm) hret ?apart ?hZ ?_
  case apart =>
    have hcb : ∀ (d : Nat), (∀ q ∈ Z, q.1 ≠ d) → @Ne Nat c₀ d := fun d h => h _ hc₀
    unfold Rdr.apart
    dsimp only
    have h143b : ∀ (d : Nat), (∀ q ∈ Z, q.1 ≠ d) → @Ne Nat d 143 := fun d h => Ne.symm (h _ htab)
    refine ⟨by k_ne, by k_ne, by k_ne, h143b _ (by k_all), h143b _ (by k_all), h143b _ (by k_all), ?_⟩
    exact fm (⟨by k_ne, by k_ne, by k_ne⟩) (fm (⟨by k_ne, by k_ne, by k_ne⟩) (fm (⟨by k_ne, by k_ne, by k_ne⟩) (fm (⟨by k_ne, by k_ne, by k_ne⟩) (fm (⟨by k_ne, by k_ne, by k_ne⟩) (fm (⟨hcb _ (by k_all), hcb _ (by k_all), hcb _ (by k_all)⟩) (fm (⟨by k_ne, by k_ne, by k_ne⟩) (fm (⟨by k_ne, by k_ne, by k_ne⟩) fm0)))))))
  case hZ =>
    dsimp only
    intro q hq
    exact ⟨(show ∀ q ∈ Z, q.1 ≠ _ by k_all) q hq, (show ∀ q ∈ Z, q.1 ≠ _ by k_all) q hq, (show ∀ q ∈ Z, q.1 ≠ _ by k_all) q hq⟩
  rename Fr h₀ _ _ _ => kFold
  clear kFold NR hret
  refine ⟨⟨_, rfl⟩, ?_⟩
  intro k tkk t1' n' Z' hmf hmc hmct hmcp hmne hk2
  unfold Spec
  dsimp only at hmf hmc hmct hmcp hmne ⊢
  intro dp' un' gd' cn' cs' a' ccd' cl' outer' A₀' base' hh₀ LL mm ss QQ EE BB FF XX NN TT hkk hdd huu hret
  have hcH2 : CodeHd hh₀ 147 143 := codeHd_of_K XX (hd147 _)
  refine' code_nest ?k1 ?k2 ?k3 ?k4 ?k5 ?kA ?kF ?kK ?k6 ?k7 ?k8 ?k9 ?kB ?_ ?c2 ?c3 ?c4 ?c5
  case kA => exact rfl
  case kF => exact rfl
  case kK => assumption
  case k1 => k_asm
  case k2 => k_asm
  case k3 => k_asm
  case k4 => k_asm
  case k5 => k_asm
  case k6 => exact .tail _ hmf
  case k7 => exact codeRec_news (by k_asm) (.tail _ hmc) hv₀ (by with_unfolding_all exact hq₀)
  case k8 => k_room
  case k9 => exact BindsTo.of_eq rfl
  case c5 => decide
  case kB => exact locs rfl
  case c2 => exact rfl
  case c3 => exact rfl
  case c4 => exact rfl
  intro g9 L9 h9 FG9 F9 N9 B9 X9 T9
  (try dsimp only); (try k_lift B9); (try k_fold)
  iterate 38 (focus (first | ((first | ((rename (∀ (f : Flow) (s : Shared), _ → _) => hq); (with_reducible refine Mine.cutQ hq ?_); clear hq; (rename (Flow → Shared → Prop) => qq); clear qq) | (with_reducible refine Mine.cutQ (by with_reducible assumption) ?_)); (try dsimp only)) | ((first | (k_unfold; (try dsimp only)) | (k_end; kc_close) | walk1 | (dsimp only; walk1) | (leave1; (try dsimp only)) | fail "no step"); (try ((with_reducible show wpAny _ _ (exec _ _) (fun _ _ => _) _ _); refine Mine.gen_Q ?_; intro QQ9 hQ9)))))
  have ek : [((k : Nat) : Int)].getD (Int.toNat 0) 0 = ((k : Nat) : Int) := rfl
  rename News hh₀ _ _ _ => NR
  rw [ek] at NR ⊢
  rw [slice_one]
  exact hret _ _ _ _ ⟨_, _, rfl, rfl⟩ (by k_asm) NR
end Mine
end
section
open PySem PySem.W PyProof.Rows PyProof.V PySem.Spec PySem.SeqAt
set_option maxRecDepth 100000
namespace Mine

abbrev nlS : Str := Str.ofString "\n"
def lnNext (ch : Str) (ln : Int) : Int := if ch = nlS then ln + 1 else ln
structure Rdr.In (P : Params) (R : Rdr) (Z : List (Addr × Obj)) : Prop where
  x : (R.x, instObj 130 R.dx) ∈ Z
  hpb : (R.hpb, listOf #[] R.nh) ∈ Z
  hx : (R.hx, instObj 130 R.hdx) ∈ Z
  hdx : (R.hdx, hxD P R) ∈ Z
  f : (R.f, R.fo) ∈ Z
  c : (R.c, R.oc) ∈ Z
  ct : (R.ct, R.oct) ∈ Z
  cp : (R.cp, R.ocp) ∈ Z
  ndx : ∀ p ∈ Z, p.1 ≠ R.dx
  npl : ∀ p ∈ Z, p.1 ≠ R.pl
  dxpl : @Ne Nat R.dx R.pl

theorem fnAt_of {h₀ h : Heap} {L q : Addr} {o : Obj} {news : List (Addr × Obj)} (hf : ∃ fd, o.data = .func fd) (N : News h₀ L h news) (hm : (q, o) ∈ news) : FnAt q h := by
  obtain ⟨fd, e⟩ := hf
  obtain ⟨a, b, c, d⟩ := o
  dsimp only at e
  subst e
  exact ⟨a, b, fd, d, (N _ hm).1⟩

set_option maxHeartbeats 0 in
theorem readChar (w : World) (p : Program) (loose : List Str) (mean : ExcName → Option Value) (mg mb : Str → Option Value)
  (tx : Str) (R : Rdr) (hR : ReadSpec w p loose mean mg mb tx R) (ws : Str) (ln : Int) (tl tk : Tok) (k n : Nat) (Z : List (Addr × Obj)) (hZ : R.In w.params Z) (hk0 : k ≤ 100000) :
  Spec w p loose mean mg mb 113 5 [.ref R.x] ((R.dx, R.dxo w.params ws ln tl) :: (R.pl, listOf #[.int k tk] n) :: Z)
    (fun v nw => ∃ t tl' tk', v = .str (at1 tx k) t ∧ nw = (R.dx, R.dxo w.params ws (lnNext (at1 tx k) ln) tl') :: (R.pl, listOf #[.int (k + 1 : Nat) tk'] n) :: Z) := by
  unfold Spec
  k_fill
  intro dp un gd cn cs a ccd cl outer A₀ base h₀ L m s Q E B F X N T hk hd hu hret
  k_dflt cell_enter
  rename Fr _ _ _ (fun _ => _) => F0; refine letM F0 ?_; clear F0; intro M0 F1
  refine letEA ?_; intro e9 A9
  have h1 := hZ.x
  have h2 := hZ.hx
  have h3 := hZ.hdx
  have hdxpl := hZ.dxpl
  have hndx := hZ.ndx
  have hnpl := hZ.npl
  iterate 8 (focus (first | ((first | ((rename (∀ (f : Flow) (s : Shared), _ → _) => hq); (with_reducible refine Mine.cutQ hq ?_); clear hq; (rename (Flow → Shared → Prop) => qq); clear qq) | (with_reducible refine Mine.cutQ (by with_reducible assumption) ?_)); (try dsimp only)) | ((first | (k_unfold; (try dsimp only)) | (k_end; kc_close) | walk1 | (dsimp only; walk1) | (leave1; (try dsimp only)) | fail "no step"); (try ((with_reducible show wpAny _ _ (exec _ _) (fun _ _ => _) _ _); refine Mine.gen_Q ?_; intro QQ9 hQ9)))))
  refine callWith_F (fnAt_of hR.1 (by k_asm) (.tail _ (.tail _ hZ.f))) ?_
  iterate 4 (focus (first | ((first | ((rename (∀ (f : Flow) (s : Shared), _ → _) => hq); (with_reducible refine Mine.cutQ hq ?_); clear hq; (rename (Flow → Shared → Prop) => qq); clear qq) | (with_reducible refine Mine.cutQ (by with_reducible assumption) ?_)); (try dsimp only)) | ((first | (k_unfold; (try dsimp only)) | (k_end; kc_close) | walk1 | (dsimp only; walk1) | (leave1; (try dsimp only)) | fail "no step"); (try ((with_reducible show wpAny _ _ (exec _ _) (fun _ _ => _) _ _); refine Mine.gen_Q ?_; intro QQ9 hQ9)))))
  · exact fnAt_of hR.1 (by k_asm) (.tail _ (.tail _ hZ.f))
  refine' Spec.use2 (hR.2 k tk _ n ((R.dx, R.dxo w.params ws ln tl) :: Z) ?c1 ?c2 ?c3 ?c4 ?c5 hk0) ?B ?F ?X ?N ?T rfl ?d ?u (k2_0 ?_)
  case c1 => exact .tail _ hZ.f
  case c2 => exact .tail _ hZ.c
  case c3 => exact .tail _ hZ.ct
  case c4 => exact .tail _ hZ.cp
  case c5 => k_all
  case N => exact kst_newsOf (by k_asm) (by intro q hq; simp only [List.mem_cons] at hq ⊢; rcases hq with h | h | h <;> simp [h])
  case B => k_asm
  case F => k_asm
  case X => k_asm
  case T => k_asm
  case d => ktr_room
  case u => ktr_units
  intro t5 tk6 h5 tk5 F5 N5; k_sweep
  iterate 29 (focus (first | ((first | ((rename (∀ (f : Flow) (s : Shared), _ → _) => hq); (with_reducible refine Mine.cutQ hq ?_); clear hq; (rename (Flow → Shared → Prop) => qq); clear qq) | (with_reducible refine Mine.cutQ (by with_reducible assumption) ?_)); (try dsimp only)) | ((first | (k_unfold; (try dsimp only)) | (k_end; kc_close) | walk1 | (dsimp only; walk1) | (leave1; (try dsimp only)) | fail "no step"); (try ((with_reducible show wpAny _ _ (exec _ _) (fun _ _ => _) _ _); refine Mine.gen_Q ?_; intro QQ9 hQ9)))))
  · rename _ = true => hc
    have e : lnNext (at1 tx k) ln = ln + 1 := by unfold lnNext; rw [if_pos (by simpa using hc)]
    rename News h₀ _ _ _ => NR
    refine' hret _ _ _ _ ⟨t5, ?_, tk6, rfl, ?_⟩ (by k_asm) (newsSwap NR)
    rotate_left
    · rw [e]
  · rename _ = false => hc
    have e : lnNext (at1 tx k) ln = ln := by unfold lnNext; rw [if_neg (by simpa using hc)]
    iterate 9 (focus (first | ((first | ((rename (∀ (f : Flow) (s : Shared), _ → _) => hq); (with_reducible refine Mine.cutQ hq ?_); clear hq; (rename (Flow → Shared → Prop) => qq); clear qq) | (with_reducible refine Mine.cutQ (by with_reducible assumption) ?_)); (try dsimp only)) | ((first | (k_unfold; (try dsimp only)) | (k_end; kc_close) | walk1 | (dsimp only; walk1) | (leave1; (try dsimp only)) | fail "no step"); (try ((with_reducible show wpAny _ _ (exec _ _) (fun _ _ => _) _ _); refine Mine.gen_Q ?_; intro QQ9 hQ9)))))
    rename News h₀ _ _ _ => NR
    refine' hret _ _ _ _ ⟨t5, ?_, tk6, rfl, ?_⟩ (by k_asm) (newsSwap NR)
    rotate_left
    · rw [e]
end Mine
end
section
open PySem PySem.W PyProof.Rows PyProof.V PySem.Spec PySem.SeqAt
set_option maxRecDepth 100000
namespace Mine

/-- the lexer's line number behind k signs -/
def lnAt (tx : Str) (k : Nat) : Int := 1 + ((tx.cps.toList.take k).count 10 : Nat)
theorem lnAt_next (tx : Str) (k : Nat) : lnNext (at1 tx k) (lnAt tx k) = lnAt tx (k + 1) := by
  unfold lnNext lnAt at1
  rw [List.take_add_one]
  have e : tx.cps.toList[k]? = tx.cps[k]? := by simp
  rw [e]
  cases h : tx.cps[k]? with
  | none =>
    have : ¬ ((⟨#[]⟩ : Str) = nlS) := by decide
    simp [this]
  | some c =>
    by_cases hc : c = 10
    · subst hc
      rw [if_pos (by decide)]
      simp [List.count_append]
      omega
    · rw [if_neg (by
        intro e
        have : (⟨#[c]⟩ : Str).cps = nlS.cps := congrArg _ e
        have h2 : nlS.cps = #[10] := by decide
        rw [h2] at this
        simp at this
        exact hc this)]
      have : List.count 10 [c] = 0 := by simp [List.count_cons, hc]
      simp [List.count_append, this]
def isFnD (K : Frag) (a : Addr) : Bool := match K.lookup a with
  | some ⟨_, _, .func _, _⟩ => true
  | _ => false
theorem fn113 (P : Params) : isFnD (hd.heap_1 P) 113 = true := by kernel_rfl
theorem isFn_get {K : Frag} {h : Heap} {a : Addr} (X : K.In h) (e : isFnD K a = true) : ∃ o fd, h.get? a = some o ∧ o.data = .func fd := by
  unfold isFnD at e
  split at e
  · rename_i ho
    exact ⟨_, _, X _ _ ho, rfl⟩
  · cases e
theorem Rdr.In.more {P : Params} {R : Rdr} {Z X : List (Addr × Obj)} (h : R.In P Z) (hx : ∀ p ∈ X, p.1 ≠ R.dx ∧ p.1 ≠ R.pl) : R.In P (X ++ Z) :=
  ⟨List.mem_append_right _ h.x, List.mem_append_right _ h.hpb, List.mem_append_right _ h.hx, List.mem_append_right _ h.hdx, List.mem_append_right _ h.f, List.mem_append_right _ h.c, List.mem_append_right _ h.ct, List.mem_append_right _ h.cp,
    fun p hp => (List.mem_append.mp hp).elim (fun q => (hx p q).1) (h.ndx p), fun p hp => (List.mem_append.mp hp).elim (fun q => (hx p q).2) (h.npl p), h.dxpl⟩

abbrev emS : Str := Str.ofString ""
theorem at1_some {tx : Str} {k c : Nat} (h : tx.cps[k]? = some c) : at1 tx k = ⟨#[c]⟩ := by unfold at1; rw [h]
theorem at1_none {tx : Str} {k : Nat} (h : tx.cps[k]? = none) : at1 tx k = ⟨#[]⟩ := by unfold at1; rw [h]
theorem one_ne (c : Nat) : (⟨#[c]⟩ : Str) ≠ emS := by
  intro e
  have : (⟨#[c]⟩ : Str).cps = emS.cps := congrArg _ e
  have h2 : emS.cps = #[] := by decide
  rw [h2] at this
  simp at this
theorem em_is : (⟨#[]⟩ : Str) = emS := by decide

theorem nextRd {w : World} {p : Program} {loose : List Str} {mean : ExcName → Option Value} {mg mb : Str → Option Value} {dp un : Nat} {gd : Option (List Code)} {cn : Str} {cs : Scope} {a : Addr} {ccd : Value} {cl : List (Str × Addr)} {outer : List Env} {A₀ : Around} {base h₀ : Heap} {L : Addr} {m : Str → Option Value} {s : Shared}
    {Q : Option Value → Shared → Prop} {E : Value → Shared → Prop} {tx ws : Str} {R : Rdr} {tl tk u : Tok} {k n : Nat} {Z : List (Addr × Obj)} {fi q : Addr}
    (hR : ReadSpec w p loose mean mg mb tx R) (hk0 : k ≤ 100000)
    (B : Below A₀ base outer h₀) (F : Fr h₀ L s.heap m) (X : (hd.heap_1 w.params).In h₀) (T : Top p loose mean mg mb h₀) (hk : cs.kind = .function) (hd : dp + 5 < recursionLimit) (hu : un + 1 + 8 * 5 < cLine)
    (N : News h₀ L s.heap ((fi, ciObj q emS u) :: (q, methodObj (.ref 113) (.ref R.x)) :: (R.dx, R.dxo w.params ws (lnAt tx k) tl) :: (R.pl, listOf #[.int k tk] n) :: Z)) (hZ : R.In w.params Z)
    (hf1 : fi ≠ R.dx) (hf2 : fi ≠ R.pl) (hf3 : fi ≠ q) (hf4 : ∀ p ∈ Z, p.1 ≠ fi) (hq1 : q ≠ R.dx) (hq2 : q ≠ R.pl)
    (h1 : ∀ c, tx.cps[k]? = some c → ∀ h' tk' t' tl' tk'', Fr h₀ L h' m → News h₀ L h' ((fi, ciObj q emS u) :: (q, methodObj (.ref 113) (.ref R.x)) :: (R.dx, R.dxo w.params ws (lnAt tx (k + 1)) tl') :: (R.pl, listOf #[.int (k + 1 : Nat) tk''] n) :: Z) →
      Q (some (.str ⟨#[c]⟩ t')) { s with heap := h', toks := tk' })
    (h2 : tx.cps[k]? = none → ∀ h' tk' tl' tk'', Fr h₀ L h' m → News h₀ L h' ((fi, ciEnd) :: (q, methodObj (.ref 113) (.ref R.x)) :: (R.dx, R.dxo w.params ws (lnAt tx (k + 1)) tl') :: (R.pl, listOf #[.int (k + 1 : Nat) tk''] n) :: Z) →
      Q none { s with heap := h', toks := tk' }) :
    wpAny (model PySem.Challenge.rw_xg0056_01.row.prog w) (ktrTop dp un gd cn cs L a ccd cl outer) (pyNext (.ref fi)) Q E s := by
  obtain ⟨ofn, fd, hfn, hfd⟩ := isFn_get (X.keeps F.keep) (fn113 _)
  have hfn0 : h₀.get? 113 = some ofn := by
    obtain ⟨o2, fd2, g1, _⟩ := isFn_get X (fn113 w.params)
    rw [F.keep _ _ g1] at hfn
    rw [g1]
    exact hfn
  refine next_ci rfl (N _ (.head _)).1 (N _ (.tail _ (.head _))).1 hfn hfd (method_call (N _ (.tail _ (.head _))).1 ?_)
  have hZ' : R.In w.params ([(fi, ciObj q emS u), (q, methodObj (.ref 113) (.ref R.x))] ++ Z) := hZ.more (by
    intro p hp
    simp only [List.mem_cons, List.not_mem_nil, or_false] at hp
    rcases hp with rfl | rfl
    · exact ⟨hf1, hf2⟩
    · exact ⟨hq1, hq2⟩)
  have S := readChar w p loose mean mg mb tx R hR ws (lnAt tx k) tl tk k n _ hZ' hk0
  refine codeAny_mono (S dp (un + 1) gd cn cs a ccd cl outer A₀ base h₀ L m s (fun v s' => ∃ t tl' tk' h' tk'', v = .str (at1 tx k) t ∧ s' = { s with heap := h', toks := tk'' } ∧ Fr h₀ L h' m ∧
    News h₀ L h' ((fi, ciObj q emS u) :: (q, methodObj (.ref 113) (.ref R.x)) :: (R.dx, R.dxo w.params ws (lnAt tx (k + 1)) tl') :: (R.pl, listOf #[.int (k + 1 : Nat) tk'] n) :: Z)) (fun _ _ => False) B F X (kst_newsOf N ?_) T hk hd hu ?_) ?_
  · intro r hr
    simp only [List.mem_cons, List.mem_append, List.not_mem_nil, or_false] at hr ⊢
    rcases hr with h | h | (h | h) | h <;> simp [h]
  · rintro v nw h' tk' ⟨t, tl', tk'', rfl, rfl⟩ F' N'
    refine ⟨t, tl', tk'', h', tk', rfl, rfl, F', kst_newsOf N' ?_⟩
    rw [lnAt_next]
    intro r hr
    simp only [List.mem_cons, List.mem_append, List.not_mem_nil, or_false] at hr ⊢
    rcases hr with h | h | h | h | h <;> simp [h]
  · intro r s' hr
    cases r with
    | error e => exact hr
    | ok f =>
      cases f with
      | next => exact hr
      | brk => exact hr
      | cont => exact hr
      | ret v =>
        obtain ⟨t, tl', tk', h', tk'', rfl, rfl, F', N'⟩ := hr
        refine ⟨_, t, rfl, (N' _ (.head _)).1, (N' _ (.tail _ (.head _))).1, F'.keep _ _ hfn0, ?_, ?_⟩
        · intro hne
          cases hc : tx.cps[k]? with
          | none => rw [at1_none hc] at hne; exact absurd em_is hne
          | some c =>
            rw [at1_some hc]
            exact h1 c hc h' tk'' t tl' tk' F' N'
        · intro he h3 hx hg
          cases hc : tx.cps[k]? with
          | some c => rw [at1_some hc] at he; exact absurd he (one_ne c)
          | none =>
            have zf := N' _ (.head _)
            refine h2 hc h3 tk'' tl' tk' ?_ ?_
            · obtain ⟨oL, es, ep, hL, r⟩ := F'.ns
              exact ⟨⟨oL, es, ep, hx _ _ (Ne.symm zf.2.1) hL, r⟩, fun b x e => hx b x (fun e2 => by have := zf.2.2; rw [← e2, e] at this; cases this) (F'.keep b x e), F'.above⟩
            · intro r hr
              rcases List.mem_cons.mp hr with rfl | hr
              · exact ⟨hg, zf.2⟩
              · have y := N' r (.tail _ hr)
                refine ⟨hx _ _ ?_ y.1, y.2⟩
                simp only [List.mem_cons] at hr
                rcases hr with rfl | rfl | rfl | hr
                · exact Ne.symm hf3
                · exact Ne.symm hf1
                · exact Ne.symm hf2
                · exact hf4 r hr
end Mine
end
section
open PySem PySem.W PyProof.Rows PyProof.V PySem.Spec PySem.SeqAt
set_option maxRecDepth 100000
namespace Mine

inductive LexB (ws : List Nat) (tx : Str) : Nat → Str → Str → Nat → Bool → Prop
  | stop {k : Nat} {acc : Str} {c : Nat} : tx.cps[k]? = some c → c ∈ ws → LexB ws tx k acc acc (k + 1) false
  | fin {k : Nat} {acc : Str} : tx.cps[k]? = none → LexB ws tx k acc acc (k + 1) true
  | esc {k k' : Nat} {acc r : Str} {e : Bool} : tx.cps[k]? = some 92 → 92 ∉ ws → LexB ws tx (k + 1 + 1) (acc ++ at1 tx (k + 1)) r k' e → LexB ws tx k acc r k' e
  | plain {k k' c : Nat} {acc r : Str} {e : Bool} : tx.cps[k]? = some c → c ∉ ws → c ≠ 92 → LexB ws tx (k + 1) (acc ++ ⟨#[c]⟩) r k' e → LexB ws tx k acc r k' e
/-- within quotes, no backslash -/
inductive LexQ (tx : Str) : Nat → Str → Str → Nat → Prop
  | stop {k : Nat} {acc : Str} : tx.cps[k]? = some 34 → LexQ tx k acc acc (k + 1)
  | plain {k k' c : Nat} {acc r : Str} : tx.cps[k]? = some c → c ≠ 34 → c ≠ 92 → LexQ tx (k + 1) (acc ++ ⟨#[c]⟩) r k' → LexQ tx k acc r k'
inductive Lex (ws : List Nat) (tx : Str) : Nat → Str → Nat → Prop
  | skip {k k' c : Nat} {r : Str} : tx.cps[k]? = some c → c ∈ ws → Lex ws tx (k + 1) r k' → Lex ws tx k r k'
  | fin {k : Nat} : tx.cps[k]? = none → Lex ws tx k emS (k + 1)
  | quote {k k' : Nat} {r : Str} : tx.cps[k]? = some 34 → 34 ∉ ws → LexQ tx (k + 1) emS r k' → Lex ws tx k r k'
  | esc {k k' : Nat} {r : Str} {e : Bool} : tx.cps[k]? = some 92 → 92 ∉ ws → LexB ws tx (k + 1 + 1) (emS ++ at1 tx (k + 1)) r k' e → Lex ws tx k r k'
  | bare {k k' c : Nat} {r : Str} {e : Bool} : tx.cps[k]? = some c → c ∉ ws → c ≠ 34 → c ≠ 92 → LexB ws tx (k + 1) (emS ++ ⟨#[c]⟩) r k' e → Lex ws tx k r k'
theorem LexB.lt {ws : List Nat} {tx : Str} {k k' : Nat} {a r : Str} {e : Bool} (h : LexB ws tx k a r k' e) : k < k' := by
  induction h <;> omega
theorem LexQ.lt {tx : Str} {k k' : Nat} {a r : Str} (h : LexQ tx k a r k') : k < k' := by
  induction h <;> omega
theorem Lex.lt {ws : List Nat} {tx : Str} {k k' : Nat} {r : Str} (h : Lex ws tx k r k') : k < k' := by
  induction h with
  | skip => omega
  | fin => omega
  | quote _ _ h => have := h.lt; omega
  | esc _ _ h => have := h.lt; omega
  | bare _ _ _ _ h => have := h.lt; omega

theorem Lex.inv {ws : List Nat} {tx : Str} {k k' c : Nat} {r : Str} (h : Lex ws tx k r k') (hc : tx.cps[k]? = some c) :
    (c ∈ ws ∧ Lex ws tx (k + 1) r k') ∨ (c ∉ ws ∧ c = 34 ∧ LexQ tx (k + 1) emS r k') ∨ (c ∉ ws ∧ c = 92 ∧ ∃ e, LexB ws tx (k + 1 + 1) (emS ++ at1 tx (k + 1)) r k' e) ∨ (c ∉ ws ∧ c ≠ 34 ∧ c ≠ 92 ∧ ∃ e, LexB ws tx (k + 1) (emS ++ ⟨#[c]⟩) r k' e) := by
  cases h with
  | skip h1 h2 h3 => rw [hc] at h1; cases h1; exact .inl ⟨h2, h3⟩
  | fin h1 => rw [hc] at h1; cases h1
  | quote h1 h2 h3 => rw [hc] at h1; cases h1; exact .inr (.inl ⟨h2, rfl, h3⟩)
  | esc h1 h2 h3 => rw [hc] at h1; cases h1; exact .inr (.inr (.inl ⟨h2, rfl, _, h3⟩))
  | bare h1 h2 h3 h4 h5 => rw [hc] at h1; cases h1; exact .inr (.inr (.inr ⟨h2, h3, h4, _, h5⟩))
theorem Lex.inv_none {ws : List Nat} {tx : Str} {k k' : Nat} {r : Str} (h : Lex ws tx k r k') (hc : tx.cps[k]? = none) : r = emS ∧ k' = k + 1 := by
  cases h with
  | fin => exact ⟨rfl, rfl⟩
  | skip h1 => rw [hc] at h1; cases h1
  | quote h1 => rw [hc] at h1; cases h1
  | esc h1 => rw [hc] at h1; cases h1
  | bare h1 => rw [hc] at h1; cases h1
theorem LexB.inv {ws : List Nat} {tx : Str} {k k' c : Nat} {a r : Str} {e : Bool} (h : LexB ws tx k a r k' e) (hc : tx.cps[k]? = some c) :
    (c ∈ ws ∧ r = a ∧ k' = k + 1 ∧ e = false) ∨ (c ∉ ws ∧ c = 92 ∧ LexB ws tx (k + 1 + 1) (a ++ at1 tx (k + 1)) r k' e) ∨ (c ∉ ws ∧ c ≠ 92 ∧ LexB ws tx (k + 1) (a ++ ⟨#[c]⟩) r k' e) := by
  cases h with
  | stop h1 h2 => rw [hc] at h1; cases h1; exact .inl ⟨h2, rfl, rfl, rfl⟩
  | fin h1 => rw [hc] at h1; cases h1
  | esc h1 h2 h3 => rw [hc] at h1; cases h1; exact .inr (.inl ⟨h2, rfl, h3⟩)
  | plain h1 h2 h3 h4 => rw [hc] at h1; cases h1; exact .inr (.inr ⟨h2, h3, h4⟩)
theorem LexB.inv_none {ws : List Nat} {tx : Str} {k k' : Nat} {a r : Str} {e : Bool} (h : LexB ws tx k a r k' e) (hc : tx.cps[k]? = none) : r = a ∧ k' = k + 1 ∧ e = true := by
  cases h with
  | fin => exact ⟨rfl, rfl, rfl⟩
  | stop h1 => rw [hc] at h1; cases h1
  | esc h1 => rw [hc] at h1; cases h1
  | plain h1 => rw [hc] at h1; cases h1
theorem LexQ.inv {tx : Str} {k k' c : Nat} {a r : Str} (h : LexQ tx k a r k') (hc : tx.cps[k]? = some c) :
    (c = 34 ∧ r = a ∧ k' = k + 1) ∨ (c ≠ 34 ∧ c ≠ 92 ∧ LexQ tx (k + 1) (a ++ ⟨#[c]⟩) r k') := by
  cases h with
  | stop h1 => rw [hc] at h1; cases h1; exact .inl ⟨rfl, rfl, rfl⟩
  | plain h1 h2 h3 h4 => rw [hc] at h1; cases h1; exact .inr ⟨h2, h3, h4⟩
theorem LexQ.inv_none {tx : Str} {k k' : Nat} {a r : Str} (h : LexQ tx k a r k') (hc : tx.cps[k]? = none) : False := by
  cases h with
  | stop h1 => rw [hc] at h1; cases h1
  | plain h1 => rw [hc] at h1; cases h1

theorem in_ws {prog : Program} {w : World} {A : Around} {E : Value → Shared → Prop} {s : Shared} {c : Nat} {ws : Str} {t tw : Tok} {Q : Value → Shared → Prop} (h : Q (.bool (decide (c ∈ ws.cps.toList))) s) :
    wpAny (model prog w) A (compareOp .In (.str ⟨#[c]⟩ t) (.str ws tw)) Q E s := by
  refine in_str ?_
  rw [StrLaws.found_one]
  exact h
theorem eq_one {prog : Program} {w : World} {A : Around} {E : Value → Shared → Prop} {s : Shared} {c d : Nat} {t u : Tok} {x : Str} {Q : Value → Shared → Prop} (hx : x = ⟨#[d]⟩) (h : Q (.bool (decide (c = d))) s) :
    wpAny (model prog w) A (compareOp .Eq (.str ⟨#[c]⟩ t) (.str x u)) Q E s := by
  refine PyProof.Rows.eq_str ?_
  subst hx
  have e : ((⟨#[c]⟩ : Str) == ⟨#[d]⟩) = decide (c = d) := by
    rw [← PyProof.Rows.toList_beq]
    by_cases hcd : c = d
    · subst hcd; simp
    · simp [hcd]
  rw [e]
  exact h

theorem next_ciEndK {prog : Program} {w : World} {A : Around} {E : Value → Shared → Prop} {s : Shared} {h₀ : Heap} {L : Addr} {m : Str → Option Value} {news : List (Addr × Obj)} {fi : Addr} {Q : Option Value → Shared → Prop} (hh : A.handled = none) (F : Fr h₀ L s.heap m) (N : News h₀ L s.heap ((fi, ciEnd) :: news))
    (hne : ∀ p ∈ news, p.1 ≠ fi) (h : ∀ h', Fr h₀ L h' m → News h₀ L h' news → Q none { s with heap := h' }) : wpAny (model prog w) A (pyNext (.ref fi)) Q E s := by
  have z := N _ (.head _)
  refine next_ciEnd hh z.1 fun h' hs => h h' ?_ ?_
  · obtain ⟨oL, es, ep, hL, r⟩ := F.ns
    exact ⟨⟨oL, es, ep, hs _ _ (Ne.symm z.2.1) hL, r⟩, fun b x q => hs b x (fun e => by have := z.2.2; rw [← e, q] at this; cases this) (F.keep b x q), F.above⟩
  · intro p hp
    have y := N p (.tail _ hp)
    exact ⟨hs _ _ (hne p hp) y.1, y.2⟩

theorem at1_len (tx : Str) (k : Nat) : (at1 tx k).length ≤ 1 := by
  unfold at1
  cases tx.cps[k]? <;> simp [Str.length]
theorem one_len (c : Nat) : (⟨#[c]⟩ : Str).length = 1 := rfl
theorem em_len : emS.length = 0 := by decide

theorem newsRot {h₀ h : Heap} {L : Addr} {a b c d : Addr × Obj} {Z : List (Addr × Obj)} (N : News h₀ L h (a :: b :: c :: d :: Z)) : News h₀ L h (c :: d :: a :: b :: Z) := kst_newsOf N fun q hq => by
  simp only [List.mem_cons] at hq ⊢
  rcases hq with h | h | h | h | h
  · exact .inr (.inr (.inl h))
  · exact .inr (.inr (.inr (.inl h)))
  · exact .inl h
  · exact .inr (.inl h)
  · exact .inr (.inr (.inr (.inr h)))

theorem iter2K {prog : Program} {w : World} {A : Around} {E : Value → Shared → Prop} {s : Shared} {h₀ : Heap} {L : Addr} {m : Str → Option Value} {news : List (Addr × Obj)} {q : Addr} {fn self : Value} {sent : Str} {t : Tok} {Q : Value → Shared → Prop} (F : Fr h₀ L s.heap m) (N : News h₀ L s.heap news)
    (h1 : (q, methodObj fn self) ∈ news) (h : ∀ I h', Fr h₀ L h' m → News h₀ L h' ((I, ciObj q sent t) :: news) → (∀ p ∈ news, p.1 < I) → Q (.ref I) { s with heap := h' }) :
    wpAny (model prog w) A (call (.builtin "iter") [.ref q, .str sent t]) Q E s :=
  iter2 (N _ h1).1 (h _ _ (F.push _) (News.push F N _) fun p hp => Heap.lt_size (N p hp).1)

set_option maxHeartbeats 0 in
theorem getTok (w : World) (p : Program) (loose : List Str) (mean : ExcName → Option Value) (mg mb : Str → Option Value)
  (tx : Str) (R : Rdr) (hR : ReadSpec w p loose mean mg mb tx R) (ws : Str) (tl tk : Tok) (k n npb : Nat) (Z : List (Addr × Obj)) (hZ : R.In w.params Z) (hpb : (R.pb, listOf (svs []).toArray npb) ∈ Z)
  (r : Str) (k' : Nat) (hlex : Lex ws.cps.toList tx k r k') (hk' : k' ≤ 100000) (htx : tx.length ≤ 10000) :
  Spec w p loose mean mg mb 120 10 [.ref R.x] ((R.dx, R.dxo w.params ws (lnAt tx k) tl) :: (R.pl, listOf #[.int k tk] n) :: Z)
    (fun v nw => ∃ t tl' tk', v = .str r t ∧ nw = (R.dx, R.dxo w.params ws (lnAt tx k') tl') :: (R.pl, listOf #[.int k' tk'] n) :: Z) := by
  unfold Spec
  k_fill
  intro dp un gd cn cs a ccd cl outer A₀ base h₀ L m s Q E B F X N T hk hd hu hret
  k_dflt cell_enter
  rename Fr _ _ _ (fun _ => _) => F0; refine letM F0 ?_; clear F0; intro M0 F1
  refine letEA ?_; intro e9 A9
  have h1 := hZ.x
  have h2 := hZ.hx
  have h3 := hZ.hdx
  have hdxpl := hZ.dxpl
  have hndx := hZ.ndx
  have hnpl := hZ.npl
  iterate 6 (focus (first | ((first | ((rename (∀ (f : Flow) (s : Shared), _ → _) => hq); (with_reducible refine Mine.cutQ hq ?_); clear hq; (rename (Flow → Shared → Prop) => qq); clear qq) | (with_reducible refine Mine.cutQ (by with_reducible assumption) ?_)); (try dsimp only)) | ((first | (k_unfold; (try dsimp only)) | (k_end; kc_close) | walk1 | (dsimp only; walk1) | (leave1; (try dsimp only)) | fail "no step"); (try ((with_reducible show wpAny _ _ (exec _ _) (fun _ _ => _) _ _); refine Mine.gen_Q ?_; intro QQ9 hQ9)))))
  refine truthyS (ps := []) (by k_asm) (by k_mem) (by simp) ?_
  dsimp only [List.isEmpty_nil, Bool.not_true]
  iterate 22 (focus (first | ((first | ((rename (∀ (f : Flow) (s : Shared), _ → _) => hq); (with_reducible refine Mine.cutQ hq ?_); clear hq; (rename (Flow → Shared → Prop) => qq); clear qq) | (with_reducible refine Mine.cutQ (by with_reducible assumption) ?_)); (try dsimp only)) | ((first | (k_unfold; (try dsimp only)) | (k_end; kc_close) | walk1 | (dsimp only; walk1) | (leave1; (try dsimp only)) | fail "no step"); (try ((with_reducible show wpAny _ _ (exec _ _) (fun _ _ => _) _ _); refine Mine.gen_Q ?_; intro QQ9 hQ9)))))
  refine iter2K (by k_asm) (by k_asm) (by k_mem) ?_
  intro fi h4 F4 N4 l4; k_lt l4; k_sweep
  iterate 4 (focus (first | ((first | ((rename (∀ (f : Flow) (s : Shared), _ → _) => hq); (with_reducible refine Mine.cutQ hq ?_); clear hq; (rename (Flow → Shared → Prop) => qq); clear qq) | (with_reducible refine Mine.cutQ (by with_reducible assumption) ?_)); (try dsimp only)) | ((first | (k_unfold; (try dsimp only)) | (k_end; kc_close) | walk1 | (dsimp only; walk1) | (leave1; (try dsimp only)) | fail "no step"); (try ((with_reducible show wpAny _ _ (exec _ _) (fun _ _ => _) _ _); refine Mine.gen_Q ?_; intro QQ9 hQ9)))))
  rename_i q' _ l0 _ FF NN
  refine wpAny_For ?_
  iterate 1 (focus (first | ((first | ((rename (∀ (f : Flow) (s : Shared), _ → _) => hq); (with_reducible refine Mine.cutQ hq ?_); clear hq; (rename (Flow → Shared → Prop) => qq); clear qq) | (with_reducible refine Mine.cutQ (by with_reducible assumption) ?_)); (try dsimp only)) | ((first | (k_unfold; (try dsimp only)) | (k_end; kc_close) | walk1 | (dsimp only; walk1) | (leave1; (try dsimp only)) | fail "no step"); (try ((with_reducible show wpAny _ _ (exec _ _) (fun _ _ => _) _ _); refine Mine.gen_Q ?_; intro QQ9 hQ9)))))
  refine iter_ci (News.get (by k_asm) (by k_mem)) ?_
  have hfq : @Ne Nat fi q' := by omega
  refine' For_g (σ := Obj × Nat × Tok × Tok × Str × Tok) (fun c => (fi, c.1) :: (q', methodObj (.ref 113) (.ref R.x)) :: (R.dx, R.dxo w.params ws (lnAt tx c.2.1) c.2.2.1) :: (R.pl, listOf #[.int c.2.1 c.2.2.2.1] n) :: Z) (fun c => [("token", .str c.2.2.2.2.1 c.2.2.2.2.2)]) (fun c => c.2.1 ≤ 100000) ["ch"]
    (fun c => ((∃ u, c.1 = ciObj q' emS u) ∧ c.2.2.2.2.1 = emS ∧ Lex ws.cps.toList tx c.2.1 r k') ∨ (c.1 = ciEnd ∧ c.2.2.2.2.1 = r ∧ c.2.1 = k')) (fun c => 100001 - c.2.1) (ciObj q' emS _, k, tl, _, emS, ?_) FF NN ?_ ?kMap ?_ ?_
  case kMap => (dsimp only; kst_all)
  · have := hlex.lt; dsimp only; omega
  · exact .inl ⟨⟨_, rfl⟩, rfl, hlex⟩
  rintro ⟨o, k, tl, tk, acc, ta⟩ u h tkk QB hB hk1 hP FF NN
  dsimp only [kstB] at FF NN hP hk1
  rcases hP with ⟨⟨u9, rfl⟩, rfl, hlex⟩ | ⟨rfl, rfl, rfl⟩
  · have hlt := hlex.lt
    refine nextRd hR hk1 (by k_asm) FF (by k_asm) (by k_asm) rfl (by ktr_room) (by ktr_units) NN hZ (by k_ne) (by k_ne) (by k_ne) (by k_all) (by k_ne) (by k_ne) ?_ ?_
    · intro c hc h5 tk5 t5 tl5 tk6 F5 N5; k_sweep
      dsimp only
      iterate 9 (focus (first | ((first | ((rename (∀ (f : Flow) (s : Shared), _ → _) => hq); (with_reducible refine Mine.cutQ hq ?_); clear hq; (rename (Flow → Shared → Prop) => qq); clear qq) | (with_reducible refine Mine.cutQ (by with_reducible assumption) ?_)); (try dsimp only)) | ((first | (k_unfold; (try dsimp only)) | (k_end; kc_close) | walk1 | (dsimp only; walk1) | (leave1; (try dsimp only)) | fail "no step"); (try ((with_reducible show wpAny _ _ (exec _ _) (fun _ _ => _) _ _); refine Mine.gen_Q ?_; intro QQ9 hQ9)))))
      refine in_ws ?_
      rcases hlex.inv hc with ⟨hin, hl2⟩ | ⟨hin, rfl, hq⟩ | hCD
      · rw [decide_eq_true hin]
        iterate 9 (focus (first | ((first | ((rename (∀ (f : Flow) (s : Shared), _ → _) => hq); (with_reducible refine Mine.cutQ hq ?_); clear hq; (rename (Flow → Shared → Prop) => qq); clear qq) | (with_reducible refine Mine.cutQ (by with_reducible assumption) ?_)); (try dsimp only)) | ((first | (k_unfold; (try dsimp only)) | (k_end; kc_close) | walk1 | (dsimp only; walk1) | (leave1; (try dsimp only)) | fail "no step"); (try ((with_reducible show wpAny _ _ (exec _ _) (fun _ _ => _) _ _); refine Mine.gen_Q ?_; intro QQ9 hQ9)))))
        have := hl2.lt
        rename Fr _ _ _ _ => FE
        rename News _ _ _ _ => NE
        exact ksw_end (ciObj q' emS u9, k + 1, tl5, tk6, emS, ta) FE NE (fun q hq => hq) (by dsimp only; omega) (by dsimp only; kst_all) (by dsimp only; ksw_same) (.inl ⟨⟨_, rfl⟩, rfl, hl2⟩) (by dsimp only; omega)
      · rw [decide_eq_false hin]
        iterate 10 (focus (first | ((first | ((rename (∀ (f : Flow) (s : Shared), _ → _) => hq); (with_reducible refine Mine.cutQ hq ?_); clear hq; (rename (Flow → Shared → Prop) => qq); clear qq) | (with_reducible refine Mine.cutQ (by with_reducible assumption) ?_)); (try dsimp only)) | ((first | (k_unfold; (try dsimp only)) | (k_end; kc_close) | walk1 | (dsimp only; walk1) | (leave1; (try dsimp only)) | fail "no step"); (try ((with_reducible show wpAny _ _ (exec _ _) (fun _ _ => _) _ _); refine Mine.gen_Q ?_; intro QQ9 hQ9)))))
        refine eq_one (d := 34) (by decide) ?_
        rw [decide_eq_true rfl]
        iterate 4 (focus (first | ((first | ((rename (∀ (f : Flow) (s : Shared), _ → _) => hq); (with_reducible refine Mine.cutQ hq ?_); clear hq; (rename (Flow → Shared → Prop) => qq); clear qq) | (with_reducible refine Mine.cutQ (by with_reducible assumption) ?_)); (try dsimp only)) | ((first | (k_unfold; (try dsimp only)) | (k_end; kc_close) | walk1 | (dsimp only; walk1) | (leave1; (try dsimp only)) | fail "no step"); (try ((with_reducible show wpAny _ _ (exec _ _) (fun _ _ => _) _ _); refine Mine.gen_Q ?_; intro QQ9 hQ9)))))
        refine wpAny_For ?_
        iterate 1 (focus (first | ((first | ((rename (∀ (f : Flow) (s : Shared), _ → _) => hq); (with_reducible refine Mine.cutQ hq ?_); clear hq; (rename (Flow → Shared → Prop) => qq); clear qq) | (with_reducible refine Mine.cutQ (by with_reducible assumption) ?_)); (try dsimp only)) | ((first | (k_unfold; (try dsimp only)) | (k_end; kc_close) | walk1 | (dsimp only; walk1) | (leave1; (try dsimp only)) | fail "no step"); (try ((with_reducible show wpAny _ _ (exec _ _) (fun _ _ => _) _ _); refine Mine.gen_Q ?_; intro QQ9 hQ9)))))
        refine iter_ci (News.get (by k_asm) (by k_mem)) ?_
        rename Fr _ _ _ _ => FI
        rename News _ _ _ _ => NI
        have hlb0 := hq.lt
        refine' For_g (σ := Obj × Nat × Tok × Tok × Str × Tok) (fun c => (fi, c.1) :: (q', methodObj (.ref 113) (.ref R.x)) :: (R.dx, R.dxo w.params ws (lnAt tx c.2.1) c.2.2.1) :: (R.pl, listOf #[.int c.2.1 c.2.2.2.1] n) :: Z) (fun c => [("token", .str c.2.2.2.2.1 c.2.2.2.2.2)]) (fun c => c.2.1 ≤ 100000) ["ch"] (fun c => c.2.2.2.2.1.length ≤ c.2.1 ∧ c.1 = ciObj q' emS u9 ∧ LexQ tx c.2.1 c.2.2.2.2.1 r k') (fun c => 100001 - c.2.1) (ciObj q' emS u9, k + 1, _, _, emS, ?_) FI NI ?_ ?kMap ?_ ?_
        case kMap => (dsimp only; kst_all)
        · dsimp only; omega
        · exact ⟨Nat.zero_le _, rfl, hq⟩
        rintro ⟨o2, k2, tl2, tk2, acc2, ta2⟩ u2 h7 tkk2 QB hB hk2 ⟨hal, ho2, hlb⟩ FF2 NN2
        dsimp only [kstB] at FF2 NN2 hk2 hal ho2 hlb
        subst ho2
        have hlt2 := hlb.lt
        refine nextRd hR hk2 (by k_asm) FF2 (by k_asm) (by k_asm) rfl (by ktr_room) (by ktr_units) NN2 hZ (by k_ne) (by k_ne) (by k_ne) (by k_all) (by k_ne) (by k_ne) ?_ ?_
        · intro c2 hc2 h8 tk9 t9 tl9 tk10 F9 N9; k_sweep
          dsimp only
          iterate 7 (focus (first | ((first | ((rename (∀ (f : Flow) (s : Shared), _ → _) => hq); (with_reducible refine Mine.cutQ hq ?_); clear hq; (rename (Flow → Shared → Prop) => qq); clear qq) | (with_reducible refine Mine.cutQ (by with_reducible assumption) ?_)); (try dsimp only)) | ((first | (k_unfold; (try dsimp only)) | (k_end; kc_close) | walk1 | (dsimp only; walk1) | (leave1; (try dsimp only)) | fail "no step"); (try ((with_reducible show wpAny _ _ (exec _ _) (fun _ _ => _) _ _); refine Mine.gen_Q ?_; intro QQ9 hQ9)))))
          refine eq_one (d := 34) (by decide) ?_
          rcases hlb.inv hc2 with ⟨rfl, rfl, rfl⟩ | ⟨hn2, hn3, hb2⟩
          · rw [decide_eq_true rfl]
            iterate 17 (focus (first | ((first | ((rename (∀ (f : Flow) (s : Shared), _ → _) => hq); (with_reducible refine Mine.cutQ hq ?_); clear hq; (rename (Flow → Shared → Prop) => qq); clear qq) | (with_reducible refine Mine.cutQ (by with_reducible assumption) ?_)); (try dsimp only)) | ((first | (k_unfold; (try dsimp only)) | (k_end; kc_close) | walk1 | (dsimp only; walk1) | (leave1; (try dsimp only)) | fail "no step"); (try ((with_reducible show wpAny _ _ (exec _ _) (fun _ _ => _) _ _); refine Mine.gen_Q ?_; intro QQ9 hQ9)))))
            rename News h₀ _ _ _ => NE
            exact hret _ _ _ _ ⟨_, _, _, rfl, rfl⟩ (by k_asm) (kst_newsOf NE (fun q hq => .tail _ (.tail _ hq)))
          · rw [decide_eq_false hn2]
            iterate 8 (focus (first | ((first | ((rename (∀ (f : Flow) (s : Shared), _ → _) => hq); (with_reducible refine Mine.cutQ hq ?_); clear hq; (rename (Flow → Shared → Prop) => qq); clear qq) | (with_reducible refine Mine.cutQ (by with_reducible assumption) ?_)); (try dsimp only)) | ((first | (k_unfold; (try dsimp only)) | (k_end; kc_close) | walk1 | (dsimp only; walk1) | (leave1; (try dsimp only)) | fail "no step"); (try ((with_reducible show wpAny _ _ (exec _ _) (fun _ _ => _) _ _); refine Mine.gen_Q ?_; intro QQ9 hQ9)))))
            refine eq_one (d := 92) (by decide) ?_
            rw [decide_eq_false hn3]
            have hlb2 := hb2.lt
            iterate 11 (focus (first | ((first | ((rename (∀ (f : Flow) (s : Shared), _ → _) => hq); (with_reducible refine Mine.cutQ hq ?_); clear hq; (rename (Flow → Shared → Prop) => qq); clear qq) | (with_reducible refine Mine.cutQ (by with_reducible assumption) ?_)); (try dsimp only)) | ((first | (k_unfold; (try dsimp only)) | (k_end; kc_close) | walk1 | (dsimp only; walk1) | (leave1; (try dsimp only)) | fail "no step"); (try ((with_reducible show wpAny _ _ (exec _ _) (fun _ _ => _) _ _); refine Mine.gen_Q ?_; intro QQ9 hQ9)))))
            refine PyProof.Rows.iadd_str ?_ (by rw [sizeLine_eq, one_len]; omega)
            intro t11 tk11
            iterate 6 (focus (first | ((first | ((rename (∀ (f : Flow) (s : Shared), _ → _) => hq); (with_reducible refine Mine.cutQ hq ?_); clear hq; (rename (Flow → Shared → Prop) => qq); clear qq) | (with_reducible refine Mine.cutQ (by with_reducible assumption) ?_)); (try dsimp only)) | ((first | (k_unfold; (try dsimp only)) | (k_end; kc_close) | walk1 | (dsimp only; walk1) | (leave1; (try dsimp only)) | fail "no step"); (try ((with_reducible show wpAny _ _ (exec _ _) (fun _ _ => _) _ _); refine Mine.gen_Q ?_; intro QQ9 hQ9)))))
            rename Fr _ _ _ _ => FE
            rename News _ _ _ _ => NE
            exact ksw_end (ciObj q' emS u9, k2 + 1, _, _, acc2 ++ ⟨#[c2]⟩, t11) FE NE (fun q hq => hq) (by dsimp only; omega) (by dsimp only; kst_all) (by dsimp only [kstB]; ksw_same) ⟨by dsimp only; rw [Str.length_append, one_len]; omega, rfl, hb2⟩ (by dsimp only; omega)
        · intro hc2
          exact absurd (hlb.inv_none hc2) id
      · have hin : c ∉ ws.cps.toList := by
          rcases hCD with h | h <;> exact h.1
        have hn34 : c ≠ 34 := by
          rcases hCD with h | h
          · rw [h.2.1]; decide
          · exact h.2.1
        rw [decide_eq_false hin]
        iterate 10 (focus (first | ((first | ((rename (∀ (f : Flow) (s : Shared), _ → _) => hq); (with_reducible refine Mine.cutQ hq ?_); clear hq; (rename (Flow → Shared → Prop) => qq); clear qq) | (with_reducible refine Mine.cutQ (by with_reducible assumption) ?_)); (try dsimp only)) | ((first | (k_unfold; (try dsimp only)) | (k_end; kc_close) | walk1 | (dsimp only; walk1) | (leave1; (try dsimp only)) | fail "no step"); (try ((with_reducible show wpAny _ _ (exec _ _) (fun _ _ => _) _ _); refine Mine.gen_Q ?_; intro QQ9 hQ9)))))
        refine eq_one (d := 34) (by decide) ?_
        rw [decide_eq_false hn34]
        iterate 4 (focus (first | ((first | ((rename (∀ (f : Flow) (s : Shared), _ → _) => hq); (with_reducible refine Mine.cutQ hq ?_); clear hq; (rename (Flow → Shared → Prop) => qq); clear qq) | (with_reducible refine Mine.cutQ (by with_reducible assumption) ?_)); (try dsimp only)) | ((first | (k_unfold; (try dsimp only)) | (k_end; kc_close) | walk1 | (dsimp only; walk1) | (leave1; (try dsimp only)) | fail "no step"); (try ((with_reducible show wpAny _ _ (exec _ _) (fun _ _ => _) _ _); refine Mine.gen_Q ?_; intro QQ9 hQ9)))))
        rename Fr _ _ _ _ => FQ
        refine letM FQ ?_; clear FQ; intro M1 FQ
        refine cutG FQ (fun c : Nat × Str × Tok × Tok × Tok => (fi, ciObj q' emS u9) :: (q', methodObj (.ref 113) (.ref R.x)) :: (R.dx, R.dxo w.params ws (lnAt tx c.1) c.2.2.2.1) :: (R.pl, listOf #[.int c.1 c.2.2.2.2] n) :: Z) (fun c y => if y = Str.ofString "ch" then some (.str c.2.1 c.2.2.1) else M1 y) (fun c => c.2.1.length ≤ 1 ∧ 1 ≤ c.1 ∧ ∃ e, LexB ws.cps.toList tx c.1 (emS ++ c.2.1) r k' e) ?_ ?_
        · intro QC hC
          rcases hCD with ⟨_, rfl, e, hb⟩ | ⟨_, _, hn92, e, hb⟩
          · iterate 4 (focus (first | ((first | ((rename (∀ (f : Flow) (s : Shared), _ → _) => hq); (with_reducible refine Mine.cutQ hq ?_); clear hq; (rename (Flow → Shared → Prop) => qq); clear qq) | (with_reducible refine Mine.cutQ (by with_reducible assumption) ?_)); (try dsimp only)) | ((first | (k_unfold; (try dsimp only)) | (k_end; kc_close) | walk1 | (dsimp only; walk1) | (leave1; (try dsimp only)) | fail "no step"); (try ((with_reducible show wpAny _ _ (exec _ _) (fun _ _ => _) _ _); refine Mine.gen_Q ?_; intro QQ9 hQ9)))))
            refine eq_one (d := 92) (by decide) ?_
            rw [decide_eq_true rfl]
            have hbl := hb.lt
            iterate 9 (focus (first | ((first | ((rename (∀ (f : Flow) (s : Shared), _ → _) => hq); (with_reducible refine Mine.cutQ hq ?_); clear hq; (rename (Flow → Shared → Prop) => qq); clear qq) | (with_reducible refine Mine.cutQ (by with_reducible assumption) ?_)); (try dsimp only)) | ((first | (k_unfold; (try dsimp only)) | (k_end; kc_close) | walk1 | (dsimp only; walk1) | (leave1; (try dsimp only)) | fail "no step"); (try ((with_reducible show wpAny _ _ (exec _ _) (fun _ _ => _) _ _); refine Mine.gen_Q ?_; intro QQ9 hQ9)))))
            refine' Spec.use2 (readChar w p loose mean mg mb tx R hR ws (lnAt tx (k + 1)) _ _ (k + 1) n ((fi, ciObj q' emS u9) :: (q', methodObj (.ref 113) (.ref R.x)) :: Z) ?hZ ?hk0) ?B ?F ?X ?N ?T rfl ?d ?u (k3_0 ?_)
            case N => exact newsRot (by k_asm)
            case hZ => exact hZ.more (X := [(fi, ciObj q' emS u9), (q', methodObj (.ref 113) (.ref R.x))]) (by
              intro p hp
              simp only [List.mem_cons, List.not_mem_nil, or_false] at hp
              rcases hp with rfl | rfl
              · exact ⟨by k_ne, by k_ne⟩
              · exact ⟨by k_ne, by k_ne⟩)
            case hk0 => omega
            case B => k_asm
            case F => k_asm
            case X => k_asm
            case T => k_asm
            case d => ktr_room
            case u => ktr_units
            intro t6 tl6 tk8 h6 tk7 F6 N6; k_sweep
            rw [lnAt_next] at N6
            replace N6 := newsRot N6
            iterate 5 (focus (first | ((first | ((rename (∀ (f : Flow) (s : Shared), _ → _) => hq); (with_reducible refine Mine.cutQ hq ?_); clear hq; (rename (Flow → Shared → Prop) => qq); clear qq) | (with_reducible refine Mine.cutQ (by with_reducible assumption) ?_)); (try dsimp only)) | ((first | (k_unfold; (try dsimp only)) | (k_end; kc_close) | walk1 | (dsimp only; walk1) | (leave1; (try dsimp only)) | fail "no step"); (try ((with_reducible show wpAny _ _ (exec _ _) (fun _ _ => _) _ _); refine Mine.gen_Q ?_; intro QQ9 hQ9)))))
            rename News _ _ _ _ => NE
            rename Fr _ _ _ _ => FE
            exact cutEnd (k + 1 + 1, at1 tx (k + 1), _, _, _) ⟨at1_len _ _, Nat.le_add_left _ _, e, hb⟩ FE NE (fm (by repeat' (first | exact .head _ | apply List.Mem.tail)) (fm (by repeat' (first | exact .head _ | apply List.Mem.tail)) (fm (by repeat' (first | exact .head _ | apply List.Mem.tail)) (fm (by repeat' (first | exact .head _ | apply List.Mem.tail)) (fun q hq => by repeat' (first | exact hq | apply List.Mem.tail))))))
          · iterate 4 (focus (first | ((first | ((rename (∀ (f : Flow) (s : Shared), _ → _) => hq); (with_reducible refine Mine.cutQ hq ?_); clear hq; (rename (Flow → Shared → Prop) => qq); clear qq) | (with_reducible refine Mine.cutQ (by with_reducible assumption) ?_)); (try dsimp only)) | ((first | (k_unfold; (try dsimp only)) | (k_end; kc_close) | walk1 | (dsimp only; walk1) | (leave1; (try dsimp only)) | fail "no step"); (try ((with_reducible show wpAny _ _ (exec _ _) (fun _ _ => _) _ _); refine Mine.gen_Q ?_; intro QQ9 hQ9)))))
            refine eq_one (d := 92) (by decide) ?_
            rw [decide_eq_false hn92]
            iterate 5 (focus (first | ((first | ((rename (∀ (f : Flow) (s : Shared), _ → _) => hq); (with_reducible refine Mine.cutQ hq ?_); clear hq; (rename (Flow → Shared → Prop) => qq); clear qq) | (with_reducible refine Mine.cutQ (by with_reducible assumption) ?_)); (try dsimp only)) | ((first | (k_unfold; (try dsimp only)) | (k_end; kc_close) | walk1 | (dsimp only; walk1) | (leave1; (try dsimp only)) | fail "no step"); (try ((with_reducible show wpAny _ _ (exec _ _) (fun _ _ => _) _ _); refine Mine.gen_Q ?_; intro QQ9 hQ9)))))
            rename News _ _ _ _ => NE
            rename Fr _ _ _ _ => FE
            exact cutEnd (k + 1, ⟨#[c]⟩, _, _, _) ⟨Nat.le_refl _, Nat.le_add_left _ _, e, hb⟩ (fr_put rfl FE) NE (fm (by repeat' (first | exact .head _ | apply List.Mem.tail)) (fm (by repeat' (first | exact .head _ | apply List.Mem.tail)) (fm (by repeat' (first | exact .head _ | apply List.Mem.tail)) (fm (by repeat' (first | exact .head _ | apply List.Mem.tail)) (fun q hq => by repeat' (first | exact hq | apply List.Mem.tail))))))
        rintro ⟨kk, ch, tch, tlk, tkq⟩ h6 tk7 ⟨hch, hk1', e, hb⟩ F6 N6; clear FQ
        dsimp only at hch hk1' hb F6 N6
        have hbl := hb.lt
        iterate 5 (focus (first | ((first | ((rename (∀ (f : Flow) (s : Shared), _ → _) => hq); (with_reducible refine Mine.cutQ hq ?_); clear hq; (rename (Flow → Shared → Prop) => qq); clear qq) | (with_reducible refine Mine.cutQ (by with_reducible assumption) ?_)); (try dsimp only)) | ((first | (k_unfold; (try dsimp only)) | (k_end; kc_close) | walk1 | (dsimp only; walk1) | (leave1; (try dsimp only)) | fail "no step"); (try ((with_reducible show wpAny _ _ (exec _ _) (fun _ _ => _) _ _); refine Mine.gen_Q ?_; intro QQ9 hQ9)))))
        refine PyProof.Rows.iadd_str ?_ (by rw [sizeLine_eq, em_len]; omega)
        intro t11 tk11
        have hal1 : (emS ++ ch).length ≤ kk := by rw [Str.length_append, em_len]; omega
        iterate 4 (focus (first | ((first | ((rename (∀ (f : Flow) (s : Shared), _ → _) => hq); (with_reducible refine Mine.cutQ hq ?_); clear hq; (rename (Flow → Shared → Prop) => qq); clear qq) | (with_reducible refine Mine.cutQ (by with_reducible assumption) ?_)); (try dsimp only)) | ((first | (k_unfold; (try dsimp only)) | (k_end; kc_close) | walk1 | (dsimp only; walk1) | (leave1; (try dsimp only)) | fail "no step"); (try ((with_reducible show wpAny _ _ (exec _ _) (fun _ _ => _) _ _); refine Mine.gen_Q ?_; intro QQ9 hQ9)))))
        refine wpAny_For ?_
        iterate 1 (focus (first | ((first | ((rename (∀ (f : Flow) (s : Shared), _ → _) => hq); (with_reducible refine Mine.cutQ hq ?_); clear hq; (rename (Flow → Shared → Prop) => qq); clear qq) | (with_reducible refine Mine.cutQ (by with_reducible assumption) ?_)); (try dsimp only)) | ((first | (k_unfold; (try dsimp only)) | (k_end; kc_close) | walk1 | (dsimp only; walk1) | (leave1; (try dsimp only)) | fail "no step"); (try ((with_reducible show wpAny _ _ (exec _ _) (fun _ _ => _) _ _); refine Mine.gen_Q ?_; intro QQ9 hQ9)))))
        refine iter_ci (News.get (by k_asm) (by k_mem)) ?_
        rename Fr _ _ _ _ => FI
        rename News _ _ _ _ => NI
        have hlb0 := hb.lt
        refine' For_g (σ := Obj × Nat × Tok × Tok × Str × Tok) (fun c => (fi, c.1) :: (q', methodObj (.ref 113) (.ref R.x)) :: (R.dx, R.dxo w.params ws (lnAt tx c.2.1) c.2.2.1) :: (R.pl, listOf #[.int c.2.1 c.2.2.2.1] n) :: Z) (fun c => [("token", .str c.2.2.2.2.1 c.2.2.2.2.2)]) (fun c => c.2.1 ≤ 100000) ["ch"] (fun c => c.2.2.2.2.1.length ≤ c.2.1 ∧ c.1 = ciObj q' emS u9 ∧ LexB ws.cps.toList tx c.2.1 c.2.2.2.2.1 r k' e) (fun c => 100001 - c.2.1) (ciObj q' emS u9, kk, _, _, emS ++ ch, ?_) FI NI ?_ ?kMap ?_ ?_
        case kMap => (dsimp only; kst_all)
        · dsimp only; omega
        · exact ⟨by dsimp only; exact hal1, rfl, hb⟩
        rintro ⟨o2, k2, tl2, tk2, acc2, ta2⟩ u2 h7 tkk2 QB hB hk2 ⟨hal, ho2, hlb⟩ FF2 NN2
        dsimp only [kstB] at FF2 NN2 hk2 hal ho2 hlb
        subst ho2
        have hlt2 := hlb.lt
        refine nextRd hR hk2 (by k_asm) FF2 (by k_asm) (by k_asm) rfl (by ktr_room) (by ktr_units) NN2 hZ (by k_ne) (by k_ne) (by k_ne) (by k_all) (by k_ne) (by k_ne) ?_ ?_
        · intro c2 hc2 h8 tk9 t9 tl9 tk10 F9 N9; k_sweep
          dsimp only
          iterate 9 (focus (first | ((first | ((rename (∀ (f : Flow) (s : Shared), _ → _) => hq); (with_reducible refine Mine.cutQ hq ?_); clear hq; (rename (Flow → Shared → Prop) => qq); clear qq) | (with_reducible refine Mine.cutQ (by with_reducible assumption) ?_)); (try dsimp only)) | ((first | (k_unfold; (try dsimp only)) | (k_end; kc_close) | walk1 | (dsimp only; walk1) | (leave1; (try dsimp only)) | fail "no step"); (try ((with_reducible show wpAny _ _ (exec _ _) (fun _ _ => _) _ _); refine Mine.gen_Q ?_; intro QQ9 hQ9)))))
          refine in_ws ?_
          rcases hlb.inv hc2 with ⟨hin2, rfl, rfl, rfl⟩ | ⟨hin2, rfl, hb2⟩ | ⟨hin2, hn2, hb2⟩
          · rw [decide_eq_true hin2]
            iterate 17 (focus (first | ((first | ((rename (∀ (f : Flow) (s : Shared), _ → _) => hq); (with_reducible refine Mine.cutQ hq ?_); clear hq; (rename (Flow → Shared → Prop) => qq); clear qq) | (with_reducible refine Mine.cutQ (by with_reducible assumption) ?_)); (try dsimp only)) | ((first | (k_unfold; (try dsimp only)) | (k_end; kc_close) | walk1 | (dsimp only; walk1) | (leave1; (try dsimp only)) | fail "no step"); (try ((with_reducible show wpAny _ _ (exec _ _) (fun _ _ => _) _ _); refine Mine.gen_Q ?_; intro QQ9 hQ9)))))
            rename News h₀ _ _ _ => NE
            exact hret _ _ _ _ ⟨_, _, _, rfl, rfl⟩ (by k_asm) (kst_newsOf NE (fun q hq => .tail _ (.tail _ hq)))
          · rw [decide_eq_false hin2]
            iterate 8 (focus (first | ((first | ((rename (∀ (f : Flow) (s : Shared), _ → _) => hq); (with_reducible refine Mine.cutQ hq ?_); clear hq; (rename (Flow → Shared → Prop) => qq); clear qq) | (with_reducible refine Mine.cutQ (by with_reducible assumption) ?_)); (try dsimp only)) | ((first | (k_unfold; (try dsimp only)) | (k_end; kc_close) | walk1 | (dsimp only; walk1) | (leave1; (try dsimp only)) | fail "no step"); (try ((with_reducible show wpAny _ _ (exec _ _) (fun _ _ => _) _ _); refine Mine.gen_Q ?_; intro QQ9 hQ9)))))
            refine eq_one (d := 92) (by decide) ?_
            rw [decide_eq_true rfl]
            have hlb2 := hb2.lt
            iterate 9 (focus (first | ((first | ((rename (∀ (f : Flow) (s : Shared), _ → _) => hq); (with_reducible refine Mine.cutQ hq ?_); clear hq; (rename (Flow → Shared → Prop) => qq); clear qq) | (with_reducible refine Mine.cutQ (by with_reducible assumption) ?_)); (try dsimp only)) | ((first | (k_unfold; (try dsimp only)) | (k_end; kc_close) | walk1 | (dsimp only; walk1) | (leave1; (try dsimp only)) | fail "no step"); (try ((with_reducible show wpAny _ _ (exec _ _) (fun _ _ => _) _ _); refine Mine.gen_Q ?_; intro QQ9 hQ9)))))
            refine' Spec.use2 (readChar w p loose mean mg mb tx R hR ws (lnAt tx (k2 + 1)) _ _ (k2 + 1) n ((fi, ciObj q' emS u9) :: (q', methodObj (.ref 113) (.ref R.x)) :: Z) ?hZ ?hk0) ?B ?F ?X ?N ?T rfl ?d ?u (k3_0 ?_)
            case N => exact newsRot (by k_asm)
            case hZ => exact hZ.more (X := [(fi, ciObj q' emS u9), (q', methodObj (.ref 113) (.ref R.x))]) (by
              intro p hp
              simp only [List.mem_cons, List.not_mem_nil, or_false] at hp
              rcases hp with rfl | rfl
              · exact ⟨by k_ne, by k_ne⟩
              · exact ⟨by k_ne, by k_ne⟩)
            case hk0 => omega
            case B => k_asm
            case F => k_asm
            case X => k_asm
            case T => k_asm
            case d => ktr_room
            case u => ktr_units
            intro t6 tl6 tk8 h6 tk7 F6 N6; k_sweep
            rw [lnAt_next] at N6
            replace N6 := newsRot N6
            iterate 11 (focus (first | ((first | ((rename (∀ (f : Flow) (s : Shared), _ → _) => hq); (with_reducible refine Mine.cutQ hq ?_); clear hq; (rename (Flow → Shared → Prop) => qq); clear qq) | (with_reducible refine Mine.cutQ (by with_reducible assumption) ?_)); (try dsimp only)) | ((first | (k_unfold; (try dsimp only)) | (k_end; kc_close) | walk1 | (dsimp only; walk1) | (leave1; (try dsimp only)) | fail "no step"); (try ((with_reducible show wpAny _ _ (exec _ _) (fun _ _ => _) _ _); refine Mine.gen_Q ?_; intro QQ9 hQ9)))))
            have hal2 := at1_len tx (k2 + 1)
            refine PyProof.Rows.iadd_str ?_ (by rw [sizeLine_eq]; omega)
            intro t11 tk11
            iterate 6 (focus (first | ((first | ((rename (∀ (f : Flow) (s : Shared), _ → _) => hq); (with_reducible refine Mine.cutQ hq ?_); clear hq; (rename (Flow → Shared → Prop) => qq); clear qq) | (with_reducible refine Mine.cutQ (by with_reducible assumption) ?_)); (try dsimp only)) | ((first | (k_unfold; (try dsimp only)) | (k_end; kc_close) | walk1 | (dsimp only; walk1) | (leave1; (try dsimp only)) | fail "no step"); (try ((with_reducible show wpAny _ _ (exec _ _) (fun _ _ => _) _ _); refine Mine.gen_Q ?_; intro QQ9 hQ9)))))
            rename Fr _ _ _ _ => FE
            rename News _ _ _ _ => NE
            exact ksw_end (ciObj q' emS u9, k2 + 1 + 1, _, _, acc2 ++ at1 tx (k2 + 1), t11) FE NE (fun q hq => hq) (by dsimp only; omega) (by dsimp only; kst_all) (by dsimp only [kstB]; ksw_same) ⟨by dsimp only; rw [Str.length_append]; omega, rfl, hb2⟩ (by dsimp only; omega)
          · rw [decide_eq_false hin2]
            iterate 8 (focus (first | ((first | ((rename (∀ (f : Flow) (s : Shared), _ → _) => hq); (with_reducible refine Mine.cutQ hq ?_); clear hq; (rename (Flow → Shared → Prop) => qq); clear qq) | (with_reducible refine Mine.cutQ (by with_reducible assumption) ?_)); (try dsimp only)) | ((first | (k_unfold; (try dsimp only)) | (k_end; kc_close) | walk1 | (dsimp only; walk1) | (leave1; (try dsimp only)) | fail "no step"); (try ((with_reducible show wpAny _ _ (exec _ _) (fun _ _ => _) _ _); refine Mine.gen_Q ?_; intro QQ9 hQ9)))))
            refine eq_one (d := 92) (by decide) ?_
            rw [decide_eq_false hn2]
            have hlb2 := hb2.lt
            iterate 11 (focus (first | ((first | ((rename (∀ (f : Flow) (s : Shared), _ → _) => hq); (with_reducible refine Mine.cutQ hq ?_); clear hq; (rename (Flow → Shared → Prop) => qq); clear qq) | (with_reducible refine Mine.cutQ (by with_reducible assumption) ?_)); (try dsimp only)) | ((first | (k_unfold; (try dsimp only)) | (k_end; kc_close) | walk1 | (dsimp only; walk1) | (leave1; (try dsimp only)) | fail "no step"); (try ((with_reducible show wpAny _ _ (exec _ _) (fun _ _ => _) _ _); refine Mine.gen_Q ?_; intro QQ9 hQ9)))))
            refine PyProof.Rows.iadd_str ?_ (by rw [sizeLine_eq, one_len]; omega)
            intro t11 tk11
            iterate 6 (focus (first | ((first | ((rename (∀ (f : Flow) (s : Shared), _ → _) => hq); (with_reducible refine Mine.cutQ hq ?_); clear hq; (rename (Flow → Shared → Prop) => qq); clear qq) | (with_reducible refine Mine.cutQ (by with_reducible assumption) ?_)); (try dsimp only)) | ((first | (k_unfold; (try dsimp only)) | (k_end; kc_close) | walk1 | (dsimp only; walk1) | (leave1; (try dsimp only)) | fail "no step"); (try ((with_reducible show wpAny _ _ (exec _ _) (fun _ _ => _) _ _); refine Mine.gen_Q ?_; intro QQ9 hQ9)))))
            rename Fr _ _ _ _ => FE
            rename News _ _ _ _ => NE
            exact ksw_end (ciObj q' emS u9, k2 + 1, _, _, acc2 ++ ⟨#[c2]⟩, t11) FE NE (fun q hq => hq) (by dsimp only; omega) (by dsimp only; kst_all) (by dsimp only [kstB]; ksw_same) ⟨by dsimp only; rw [Str.length_append, one_len]; omega, rfl, hb2⟩ (by dsimp only; omega)
        · intro hc2 h8 tk9 tl9 tk10 F9 N9; k_sweep
          obtain ⟨rfl, rfl, rfl⟩ := hlb.inv_none hc2
          dsimp only
          iterate 6 (focus (first | ((first | ((rename (∀ (f : Flow) (s : Shared), _ → _) => hq); (with_reducible refine Mine.cutQ hq ?_); clear hq; (rename (Flow → Shared → Prop) => qq); clear qq) | (with_reducible refine Mine.cutQ (by with_reducible assumption) ?_)); (try dsimp only)) | ((first | (k_unfold; (try dsimp only)) | (k_end; kc_close) | walk1 | (dsimp only; walk1) | (leave1; (try dsimp only)) | fail "no step"); (try ((with_reducible show wpAny _ _ (exec _ _) (fun _ _ => _) _ _); refine Mine.gen_Q ?_; intro QQ9 hQ9)))))
          rename Fr _ _ _ _ => FE
          rename News _ _ _ _ => NE
          exact ksw_end (ciEnd, k2 + 1, _, _, r, ta2) FE NE (fun q hq => hq) (by dsimp only; omega) (by dsimp only; kst_all) (by dsimp only [M1, kstB]; ksw_same) (.inr ⟨rfl, rfl, rfl⟩) (by dsimp only; omega)
    · intro hc h5 tk5 tl5 tk6 F5 N5; k_sweep
      obtain ⟨rfl, rfl⟩ := hlex.inv_none hc
      dsimp only
      iterate 7 (focus (first | ((first | ((rename (∀ (f : Flow) (s : Shared), _ → _) => hq); (with_reducible refine Mine.cutQ hq ?_); clear hq; (rename (Flow → Shared → Prop) => qq); clear qq) | (with_reducible refine Mine.cutQ (by with_reducible assumption) ?_)); (try dsimp only)) | ((first | (k_unfold; (try dsimp only)) | (k_end; kc_close) | walk1 | (dsimp only; walk1) | (leave1; (try dsimp only)) | fail "no step"); (try ((with_reducible show wpAny _ _ (exec _ _) (fun _ _ => _) _ _); refine Mine.gen_Q ?_; intro QQ9 hQ9)))))
      rename News h₀ _ _ _ => NE
      exact hret _ _ _ _ ⟨_, _, _, rfl, rfl⟩ (by k_asm) (kst_newsOf NE (fun q hq => .tail _ (.tail _ hq)))
  · refine next_ciEndK rfl FF NN (by k_all) ?_
    intro h5 F5 N5; k_sweep
    dsimp only
    iterate 7 (focus (first | ((first | ((rename (∀ (f : Flow) (s : Shared), _ → _) => hq); (with_reducible refine Mine.cutQ hq ?_); clear hq; (rename (Flow → Shared → Prop) => qq); clear qq) | (with_reducible refine Mine.cutQ (by with_reducible assumption) ?_)); (try dsimp only)) | ((first | (k_unfold; (try dsimp only)) | (k_end; kc_close) | walk1 | (dsimp only; walk1) | (leave1; (try dsimp only)) | fail "no step"); (try ((with_reducible show wpAny _ _ (exec _ _) (fun _ _ => _) _ _); refine Mine.gen_Q ?_; intro QQ9 hQ9)))))
    rename News h₀ _ _ _ => NE
    exact hret _ _ _ _ ⟨_, _, _, rfl, rfl⟩ (by k_asm) (kst_newsOf NE (fun q hq => .tail _ hq))
end Mine
end
section
open PySem PySem.W PyProof.Rows PyProof.V PySem.Spec PySem.SeqAt
set_option maxRecDepth 100000
namespace Mine
theorem strs_are : ∀ ws : List (Str × Tok), StrsAre (svs ws) (wds ws)
  | [] => .nil
  | w :: r => .cons w.1 w.2 (strs_are r)
theorem glued_cps (sep : Str) (a : Str) (r : List Str) : (Txt.join sep (a :: r)).cps.toList = a.cps.toList ++ r.flatMap fun p => sep.cps.toList ++ p.cps.toList := by
  show (r.foldl (fun acc p => acc ++ sep.cps ++ p.cps) a.cps).toList = _
  generalize a.cps = x
  induction r generalizing x with
  | nil => simp
  | cons p r ih =>
    rw [List.foldl_cons, ih]
    simp
def IsSi (x : Str) (t : Tok) (i : Nat) (o : Obj) : Prop := o.cls = .type "str_ascii_iterator" ∧ o.data = .fields #[.str x t, .int i 0]
section
variable {prog : Program} {w : World} {A : Around} {E : Value → Shared → Prop} {s : Shared} {h₀ : Heap} {L : Addr} {m : Str → Option Value} {news : List (Addr × Obj)}
theorem iter_str {x : Str} {t : Tok} {Q : Value → Shared → Prop} (F : Fr h₀ L s.heap m) (N : News h₀ L s.heap news) (ha : x.cps.all (· < 128) = true)
    (h : ∀ I o h', IsSi x t 0 o → Fr h₀ L h' m → News h₀ L h' ((I, o) :: news) → (∀ p ∈ news, p.1 < I) → Q (.ref I) { s with heap := h' }) : wpAny (model prog w) A (pyIter (.str x t)) Q E s := by
  refine wpAny_pyIter_ascii ha ?_
  exact h _ _ _ ⟨rfl, rfl⟩ (F.push _) (News.push F N _) (fun p hp => Heap.lt_size (N p hp).1)
theorem next_str {x : Str} {t : Tok} {I : Addr} {i c : Nat} {o : Obj} {Q : Option Value → Shared → Prop} (F : Fr h₀ L s.heap m) (N : News h₀ L s.heap ((I, o) :: news)) (hI : IsSi x t i o) (hne : ∀ p ∈ news, p.1 ≠ I) (hx : x.cps[i]? = some c)
    (h : ∀ h' o' tk u, IsSi x t (i + 1) o' → Fr h₀ L h' m → News h₀ L h' ((I, o') :: news) → Q (some (.str ⟨#[c]⟩ u)) { s with heap := h', toks := tk }) :
    wpAny (model prog w) A (pyNext (.ref I)) Q E s := by
  have z := N _ (.head _)
  refine wpAny_pyNext_ascii_item (x := x) (t := t) (i := i) ⟨o, z.1, hI.1, hI.2⟩ hx fun h' hit hs => ?_
  obtain ⟨o', e1, e2, e3⟩ := hit
  exact h h' o' _ _ ⟨e2, e3⟩ (F.change hs z.2.1 z.2.2) (News.setHead N hne hs e1)
theorem next_str_end {x : Str} {t : Tok} {I : Addr} {i : Nat} {o : Obj} {Q : Option Value → Shared → Prop} (hh : A.handled = none) (F : Fr h₀ L s.heap m) (N : News h₀ L s.heap ((I, o) :: news)) (hI : IsSi x t i o) (hne : ∀ p ∈ news, p.1 ≠ I) (hx : x.cps[i]? = none)
    (h : ∀ h', Fr h₀ L h' m → News h₀ L h' news → Q none { s with heap := h' }) : wpAny (model prog w) A (pyNext (.ref I)) Q E s := by
  have z := N _ (.head _)
  exact wpAny_pyNext_ascii_end (x := x) (t := t) (i := i) hh ⟨o, z.1, hI.1, hI.2⟩ hx fun h' hs => h h' (ext_keep F N hne hs).1 (ext_keep F N hne hs).2
end
end Mine
end
section
open PySem PySem.W PyProof.Rows PyProof.V PySem.Spec PySem.SeqAt
set_option maxRecDepth 100000
namespace Mine
theorem sl_upto {x : Str} {q : Nat} (h : q ≤ x.cps.size) : Txt.slice x none (some (q : Int)) = ⟨x.cps.extract 0 q⟩ := by
  have e := slice_closes_to (x := x) (j := (q : Int)) ⟨by omega, by simp; omega⟩
  rw [beq_iff_eq] at e
  rw [e]
  congr 1
  apply Array.toList_inj.mp
  simp [show ((q : Int) - 0).toNat = q by omega]
theorem sl_from {x : Str} {q : Nat} (h : q ≤ x.cps.size) : Txt.slice x (some (q : Int)) none = ⟨x.cps.extract q x.cps.size⟩ := by
  have e := slice_from_eq (x := x) (i := (q : Int)) (b := x.length) (by omega) (by unfold Str.length; omega) rfl
  rw [e]
  congr 1
  apply Array.toList_inj.mp
  simp [Str.length, show ((x.cps.size : Int) - (q : Int)).toNat = x.cps.size - q by omega]
set_option maxHeartbeats 0 in
theorem unm (w : World) (p : Program) (loose : List Str) (mean : ExcName → Option Value) (mg mb : Str → Option Value)
  (M Ta : Addr) (x : Str) (t : Tok) (q e : Nat) (Z : List (Addr × Obj)) (hM : (M, maObj x t Ta) ∈ Z) (hT : (Ta, spObj q e) ∈ Z) (hx : x.cps.size ≤ 100000) (hq : q ≤ e) (he : e ≤ x.cps.size) :
  Spec w p loose mean mg mb 38 6 [.ref M] Z (fun v nw => ∃ t', v = .str (⟨x.cps.extract 0 q⟩ ++ ⟨x.cps.extract e x.cps.size⟩) t' ∧ nw = Z) := by
  unfold Spec
  k_fill
  intro dp un gd cn cs a ccd cl outer A₀ base h₀ L m s Q E B F X N T hk hd hu hret
  k_dflt cell_enter
  rename Fr _ _ _ (fun _ => _) => F0; refine letM F0 ?_; clear F0; intro M0 F1
  refine letEA ?_; intro e9 A9
  iterate 5 (focus (first | ((first | ((rename (∀ (f : Flow) (s : Shared), _ → _) => hq); (with_reducible refine Mine.cutQ hq ?_); clear hq; (rename (Flow → Shared → Prop) => qq); clear qq) | (with_reducible refine Mine.cutQ (by with_reducible assumption) ?_)); (try dsimp only)) | ((first | (k_unfold; (try dsimp only)) | (k_end; kc_close) | walk1 | (dsimp only; walk1) | (leave1; (try dsimp only)) | fail "no step"); (try ((with_reducible show wpAny _ _ (exec _ _) (fun _ _ => _) _ _); refine Mine.gen_Q ?_; intro QQ9 hQ9)))))
  refine gm_ma (by k_asm) (by k_mem) slot_span type_span ?_
  iterate 4 (focus (first | ((first | ((rename (∀ (f : Flow) (s : Shared), _ → _) => hq); (with_reducible refine Mine.cutQ hq ?_); clear hq; (rename (Flow → Shared → Prop) => qq); clear qq) | (with_reducible refine Mine.cutQ (by with_reducible assumption) ?_)); (try dsimp only)) | ((first | (k_unfold; (try dsimp only)) | (k_end; kc_close) | walk1 | (dsimp only; walk1) | (leave1; (try dsimp only)) | fail "no step"); (try ((with_reducible show wpAny _ _ (exec _ _) (fun _ _ => _) _ _); refine Mine.gen_Q ?_; intro QQ9 hQ9)))))
  refine span_K (by k_asm) (by k_asm) (by k_mem) (by k_mem) ?_
  intro D h1 tk1 u1 u2 F1 N1 l1; (try k_lt l1); (try k_sweep)
  iterate 16 (focus (first | ((first | ((rename (∀ (f : Flow) (s : Shared), _ → _) => hq); (with_reducible refine Mine.cutQ hq ?_); clear hq; (rename (Flow → Shared → Prop) => qq); clear qq) | (with_reducible refine Mine.cutQ (by with_reducible assumption) ?_)); (try dsimp only)) | ((first | (k_unfold; (try dsimp only)) | (k_end; kc_close) | walk1 | (dsimp only; walk1) | (leave1; (try dsimp only)) | fail "no step"); (try ((with_reducible show wpAny _ _ (exec _ _) (fun _ _ => _) _ _); refine Mine.gen_Q ?_; intro QQ9 hQ9)))))
  refine string_K (by k_asm) (by k_mem) ?_
  iterate 10 (focus (first | ((first | ((rename (∀ (f : Flow) (s : Shared), _ → _) => hq); (with_reducible refine Mine.cutQ hq ?_); clear hq; (rename (Flow → Shared → Prop) => qq); clear qq) | (with_reducible refine Mine.cutQ (by with_reducible assumption) ?_)); (try dsimp only)) | ((first | (k_unfold; (try dsimp only)) | (k_end; kc_close) | walk1 | (dsimp only; walk1) | (leave1; (try dsimp only)) | fail "no step"); (try ((with_reducible show wpAny _ _ (exec _ _) (fun _ _ => _) _ _); refine Mine.gen_Q ?_; intro QQ9 hQ9)))))
  refine string_K (by k_asm) (by k_mem) ?_
  iterate 7 (focus (first | ((first | ((rename (∀ (f : Flow) (s : Shared), _ → _) => hq); (with_reducible refine Mine.cutQ hq ?_); clear hq; (rename (Flow → Shared → Prop) => qq); clear qq) | (with_reducible refine Mine.cutQ (by with_reducible assumption) ?_)); (try dsimp only)) | ((first | (k_unfold; (try dsimp only)) | (k_end; kc_close) | walk1 | (dsimp only; walk1) | (leave1; (try dsimp only)) | fail "no step"); (try ((with_reducible show wpAny _ _ (exec _ _) (fun _ _ => _) _ _); refine Mine.gen_Q ?_; intro QQ9 hQ9)))))
  refine PyProof.Rows.add_str ?_ (by rw [sl_upto (by omega), sl_from he]; simp only [Str.length, sizeLine_eq, Array.size_extract]; omega)
  iterate 5 (focus (first | ((first | ((rename (∀ (f : Flow) (s : Shared), _ → _) => hq); (with_reducible refine Mine.cutQ hq ?_); clear hq; (rename (Flow → Shared → Prop) => qq); clear qq) | (with_reducible refine Mine.cutQ (by with_reducible assumption) ?_)); (try dsimp only)) | ((first | (k_unfold; (try dsimp only)) | (k_end; kc_close) | walk1 | (dsimp only; walk1) | (leave1; (try dsimp only)) | fail "no step"); (try ((with_reducible show wpAny _ _ (exec _ _) (fun _ _ => _) _ _); refine Mine.gen_Q ?_; intro QQ9 hQ9)))))
  rw [sl_upto (by omega), sl_from he]
  exact hret _ _ _ _ ⟨_, rfl, rfl⟩ (by k_asm) (kst_newsOf (by k_asm) fun q hq => .tail _ hq)
end Mine
end
section
open PySem PySem.W PyProof.Rows PyProof.V PySem.Spec PySem.SeqAt
set_option maxRecDepth 100000
namespace Mine
theorem cnt_count (c : Nat) : ∀ l : List Nat, cnt c l = (l.count c : Nat) := by
  intro l
  induction l with
  | nil => rfl
  | cons a l ih =>
    rw [cnt_cons, List.count_cons, ih]
    by_cases h : a = c
    · subst h; simp; omega
    · simp [h]
theorem count_one (x : Str) (c : Nat) : Txt.count x ⟨#[c]⟩ = (x.cps.toList.count c : Nat) := by rw [count_cnt, cnt_count]

abbrev nl (ws : List Str) : List (List Nat) := ws.map (·.cps.toList)
def pileS (hd : List Nat) (ws : List Str) : Str := ⟨(pileL hd (nl ws)).toArray⟩
theorem str_inj {x y : Str} (h : x.cps.toList = y.cps.toList) : x = y := by
  obtain ⟨a⟩ := x
  obtain ⟨b⟩ := y
  have : a = b := Array.toList_inj.mp h
  rw [this]
theorem name_len {v : Str} (h : isName v) : v.cps.toList.length ≤ 2 := by rcases h with rfl | rfl | rfl <;> decide +kernel
theorem name_wd {v : Str} (h : isName v) : WdOk v.cps.toList := by
  rcases h with rfl | rfl | rfl <;> exact ⟨by decide +kernel, by decide +kernel⟩
theorem flat_len : ∀ {ws : List Str}, (∀ v ∈ ws, isName v) → (flatW (nl ws)).length ≤ 3 * ws.length
  | [], _ => by simp [flatW]
  | v :: r, h => by
    have h1 := flat_len (ws := r) fun x hx => h x (.tail _ hx)
    have h2 := name_len (h v (.head _))
    simp only [flatW, nl, List.map_cons, List.flatMap_cons, List.length_append, List.length_cons] at h1 ⊢
    omega
theorem pile_len {hd : List Nat} {ws : List Str} (h : ∀ v ∈ ws, isName v) : (pileS hd ws).cps.size ≤ hd.length + 3 * ws.length + 1 := by
  have := flat_len h
  simp only [pileS, pileL, List.size_toArray, List.length_append, List.length_cons, List.length_nil]
  omega
theorem pile_cps (hd : List Nat) (ws : List Str) (v : Str) : (pileS hd (ws ++ [v])).cps = ((hd ++ flatW (nl ws)) ++ (46 :: v.cps.toList ++ [10])).toArray := by
  show (pileL hd (nl (ws ++ [v]))).toArray = _
  rw [show nl (ws ++ [v]) = nl ws ++ [v.cps.toList] by simp [nl], pileL_snoc]
abbrev pq (hd : List Nat) (ws : List Str) : Nat := (hd ++ flatW (nl ws)).length
theorem pile_hit {hd : List Nat} {ws : List Str} {v : Str} (hv : isName v) (hs : (pileS hd (ws ++ [v])).cps.size ≤ 1000000) :
    hitAt (pileS hd (ws ++ [v])).cps (pq hd ws) = true ∧ (∀ i, i < pq hd ws → hitAt (pileS hd (ws ++ [v])).cps i = false) ∧ nDig (pileS hd (ws ++ [v])).cps (pq hd ws) = v.cps.size := by
  rw [pile_cps] at hs ⊢
  have h := hit_at (pre := hd ++ flatW (nl ws)) (name_wd hv) (by simpa using hs)
  exact ⟨h.2, fun i hi => hit_before hi, h.1.trans (by simp)⟩
theorem pile_miss {hd : List Nat} (h : HdOk hd) (i : Nat) : hitAt (pileS hd []).cps i = false := hit_none h i
theorem pile_size (hd : List Nat) (ws : List Str) (v : Str) : (pileS hd (ws ++ [v])).cps.size = pq hd ws + 1 + v.cps.size + 1 := by
  rw [pile_cps]
  simp
  omega
theorem pile_group (hd : List Nat) (ws : List Str) (v : Str) : Txt.slice ⟨(pileS hd (ws ++ [v])).cps.extract (pq hd ws) (pq hd ws + 1 + v.cps.size)⟩ (some 1) none = v := by
  have e : (⟨(pileS hd (ws ++ [v])).cps.extract (pq hd ws) (pq hd ws + 1 + v.cps.size)⟩ : Str) = ⟨(46 :: v.cps.toList).toArray⟩ := by
    apply str_inj
    rw [pile_cps]
    simp only [List.extract_toArray, List.extract_eq_take_drop, pq]
    rw [List.drop_left, show (hd ++ flatW (nl ws)).length + 1 + v.cps.size - (hd ++ flatW (nl ws)).length = (46 :: v.cps.toList).length by simp; omega, List.take_left]
  rw [e, show (1 : Int) = ((1 : Nat) : Int) from rfl, sl_from (by simp)]
  apply str_inj
  simp [List.extract_eq_take_drop]
  exact List.take_of_length_le (by simp)
theorem pile_unm (hd : List Nat) (ws : List Str) (v : Str) :
    ((⟨(pileS hd (ws ++ [v])).cps.extract 0 (pq hd ws)⟩ : Str) ++ ⟨(pileS hd (ws ++ [v])).cps.extract (pq hd ws + 1 + v.cps.size) (pileS hd (ws ++ [v])).cps.size⟩) = pileS hd ws := by
  apply str_inj
  rw [pile_size, pile_cps]
  show ((Array.extract _ _ _) ++ (Array.extract _ _ _)).toList = _
  simp only [List.extract_toArray, List.extract_eq_take_drop, pq, Array.toList_append]
  have e : hd ++ flatW (nl ws) ++ (46 :: v.cps.toList ++ [10]) = (hd ++ flatW (nl ws) ++ (46 :: v.cps.toList)) ++ [10] := by simp
  rw [show List.take ((hd ++ flatW (nl ws)).length - 0) (List.drop 0 (hd ++ flatW (nl ws) ++ (46 :: v.cps.toList ++ [10]))) = hd ++ flatW (nl ws) by rw [Nat.sub_zero, List.drop_zero, List.take_left], e,
    show (hd ++ flatW (nl ws)).length + 1 + v.cps.size = (hd ++ flatW (nl ws) ++ (46 :: v.cps.toList)).length by simp; omega, List.drop_left]
  simp [pileS, pileL]
theorem pile_cut (hd : List Nat) (ws : List Str) : Txt.slice (pileS hd ws) none (some (-1)) = ⟨(hd ++ flatW (nl ws)).toArray⟩ := by
  have hl : (pileS hd ws).length = pq hd ws + 1 := by simp [pileS, pileL, Str.length]; omega
  rw [slice_to_neg (by omega), show max (0 : Int) (((pileS hd ws).length : Int) + -1) = ((pq hd ws : Nat) : Int) by rw [hl]; omega, sl_upto (by have := hl; unfold Str.length at this; omega)]
  apply str_inj
  simp only [pileS, pileL, List.extract_toArray, List.extract_eq_take_drop, pq]
  rw [← List.append_assoc, Nat.sub_zero, List.drop_zero, List.take_left]
theorem pile_put (hd : List Nat) (ws : List Str) {r : List Str} (hr : r ≠ []) : Txt.slice (pileS hd ws) none (some (-1)) ++ Str.ofString "." ++ Txt.join (Str.ofString ".") r ++ Str.ofString "\n" = pileS hd (ws ++ r) := by
  obtain ⟨a, r, rfl⟩ : ∃ a r', r = a :: r' := by cases r with | nil => exact absurd rfl hr | cons a b => exact ⟨a, b, rfl⟩
  rw [pile_cut]
  apply str_inj
  show (((⟨(hd ++ flatW (nl ws)).toArray⟩ : Str).cps ++ (Str.ofString ".").cps ++ (Txt.join (Str.ofString ".") (a :: r)).cps ++ (Str.ofString "\n").cps)).toList = _
  simp only [Array.toList_append, glued_cps]
  rw [show (Str.ofString ".").cps.toList = [46] by decide, show (Str.ofString "\n").cps.toList = [10] by decide]
  simp [pileS, pileL, flatW, List.flatMap_map]
theorem join_len {r : List Str} (h3 : r.length ≤ 3) (hn : ∀ v ∈ r, isName v) : (Txt.join (Str.ofString ".") r).length ≤ 20 := by
  cases r with
  | nil => decide
  | cons a r =>
    have e : (Txt.join (Str.ofString ".") (a :: r)).length = (Txt.join (Str.ofString ".") (a :: r)).cps.toList.length := by simp [Str.length]
    rw [e, glued_cps]
    have hl : (Str.ofString ".").cps.toList.length = 1 := by decide
    have : ∀ l : List Str, (∀ v ∈ l, isName v) → (l.flatMap fun p => (Str.ofString ".").cps.toList ++ p.cps.toList).length ≤ 3 * l.length := by
      intro l
      induction l with
      | nil => intro _; simp
      | cons b l ih =>
        intro h
        have h1 := ih fun v hv => h v (.tail _ hv)
        have h2 := name_len (h b (.head _))
        rw [List.flatMap_cons, List.length_append, List.length_append, hl, List.length_cons]
        omega
    have h1 := this r fun v hv => hn v (.tail _ hv)
    have h2 := name_len (hn a (.head _))
    rw [List.length_append]
    simp only [List.length_cons] at h3
    omega
theorem join_ascii {r : List Str} (hn : ∀ v ∈ r, isName v) : (Txt.join (Str.ofString ".") r).cps.all (· < 128) = true := by
  have hg : ∀ v, isName v → ∀ c ∈ v.cps.toList, c < 128 := by rintro v (rfl | rfl | rfl) <;> decide +kernel
  rw [← Array.all_toList, List.all_eq_true]
  intro c hc
  cases r with
  | nil => exact absurd hc (by show c ∉ (Txt.join (Str.ofString ".") []).cps.toList; rw [show (Txt.join (Str.ofString ".") []).cps.toList = [] by decide]; simp)
  | cons a rs =>
    rw [glued_cps, show (Str.ofString ".").cps.toList = [46] by decide] at hc
    rcases List.mem_append.mp hc with hc | hc
    · exact decide_eq_true (hg a (hn a (.head _)) c hc)
    · obtain ⟨v, hv, hc⟩ := List.mem_flatMap.mp hc
      rcases List.mem_append.mp hc with hc | hc
      · rw [List.mem_singleton] at hc
        subst hc
        decide
      · exact decide_eq_true (hg v (hn v (.tail _ hv)) c hc)
end Mine
end
section
open PySem PySem.W PyProof.Rows PyProof.V PySem.Spec PySem.SeqAt
set_option maxRecDepth 100000
namespace Mine
inductive Toks (ws : List Nat) (tx : Str) : Nat → List Str → Prop
  | nil {k k' : Nat} : Lex ws tx k emS k' → k' ≤ 100000 → Toks ws tx k []
  | cons {k k' : Nat} {r : Str} {rs : List Str} : Lex ws tx k r k' → k' ≤ 100000 → r ≠ emS → Toks ws tx k' rs → Toks ws tx k (r :: rs)

structure WSt where
  ws : List (Str × Tok)
  n : Nat
  k : Nat
  tl : Tok
  tk : Tok
  pn : Nat
  r : Str
  tr : Tok
abbrev dotS : Str := Str.ofString "."

set_option maxHeartbeats 0 in
theorem words (w : World) (p : Program) (loose : List Str) (mean : ExcName → Option Value) (mg mb : Str → Option Value)
  (tx : Str) (t1 : Tok) (Z : List (Addr × Obj)) (htx : tx.length ≤ 10000) (c₀ : Addr) (oc₀ : Obj) (htab : (143, tabObj #[rawInt 144, rawInt 4, .ref c₀]) ∈ Z) (hc₀ : (c₀, oc₀) ∈ Z) (hoc : TabC oc₀)
  (all : List Str) (hall : all.length ≤ 100) (hT : Toks dotS.cps.toList tx 0 all) :
  Spec w p loose mean mg mb 155 25 [.str tx t1] Z (fun v nw => ∃ D n ws, v = .ref D ∧ nw = (D, listOf (svs ws).toArray n) :: Z ∧ (∀ p ∈ Z, p.1 ≠ D) ∧ wds ws = all) := by
  unfold Spec
  k_fill
  intro dp un gd cn cs a ccd cl outer A₀ base h₀ L m s Q E B F X N T hk hd hu hret
  k_dflt cell_enter
  rename Fr _ _ _ (fun _ => _) => F0; refine letM F0 ?_; clear F0; intro M0 F1
  refine letEA ?_; intro e9 A9
  iterate 12 (focus (first | ((first | ((rename (∀ (f : Flow) (s : Shared), _ → _) => hq); (with_reducible refine Mine.cutQ hq ?_); clear hq; (rename (Flow → Shared → Prop) => qq); clear qq) | (with_reducible refine Mine.cutQ (by with_reducible assumption) ?_)); (try dsimp only)) | ((first | (k_unfold; (try dsimp only)) | (k_end; kc_close) | walk1 | (dsimp only; walk1) | (leave1; (try dsimp only)) | fail "no step"); (try ((with_reducible show wpAny _ _ (exec _ _) (fun _ _ => _) _ _); refine Mine.gen_Q ?_; intro QQ9 hQ9)))))
  refine' Spec.use2 (reader1 w p loose mean mg mb tx dotS _ _ Z htx c₀ oc₀ htab hc₀ hoc) ?B ?F ?X ?N ?T rfl ?d ?u (k5_3 ?_)
  case N => k_asm
  case B => k_asm
  case F => k_asm
  case X => k_asm
  case T => k_asm
  case d => ktr_room
  case u => ktr_units
  intro R npb pn tl tk0 hap hZ hR h3 tk3 F3 N3; (try k_sweep)
  iterate 8 (focus (first | ((first | ((rename (∀ (f : Flow) (s : Shared), _ → _) => hq); (with_reducible refine Mine.cutQ hq ?_); clear hq; (rename (Flow → Shared → Prop) => qq); clear qq) | (with_reducible refine Mine.cutQ (by with_reducible assumption) ?_)); (try dsimp only)) | ((first | (k_unfold; (try dsimp only)) | (k_end; kc_close) | walk1 | (dsimp only; walk1) | (leave1; (try dsimp only)) | fail "no step"); (try ((with_reducible show wpAny _ _ (exec _ _) (fun _ _ => _) _ _); refine Mine.gen_Q ?_; intro QQ9 hQ9)))))
  iterate 9 (focus (first | ((first | ((rename (∀ (f : Flow) (s : Shared), _ → _) => hq); (with_reducible refine Mine.cutQ hq ?_); clear hq; (rename (Flow → Shared → Prop) => qq); clear qq) | (with_reducible refine Mine.cutQ (by with_reducible assumption) ?_)); (try dsimp only)) | ((first | (k_unfold; (try dsimp only)) | (k_end; kc_close) | walk1 | (dsimp only; walk1) | (leave1; (try dsimp only)) | fail "no step"); (try ((with_reducible show wpAny _ _ (exec _ _) (fun _ _ => _) _ _); refine Mine.gen_Q ?_; intro QQ9 hQ9)))))
  rename News _ _ _ ((_, listOf #[] 0) :: _) => NW
  rename Fr _ _ _ _ => FW
  rename _ < _ ∧ _ < _ ∧ _ < _ ∧ AllLt _ _ => lW
  rename_i W0 _ _
  have hap0 := hap
  unfold Rdr.apart at hap0
  obtain ⟨ha1, ha2, ha3, _, _, _, ha4⟩ := hap0
  have hW1 : @Ne Nat R.pb W0 := Nat.ne_of_lt lW.1
  have hW2 : @Ne Nat R.dx W0 := Nat.ne_of_lt lW.2.1
  have hW3 : @Ne Nat R.pl W0 := Nat.ne_of_lt lW.2.2.1
  have hW4 : ∀ p ∈ R.ro w.params ++ Z, p.1 ≠ W0 := allNe_lt lW.2.2.2
  have hro : ∀ q ∈ R.ro w.params, @Ne Nat q.1 R.pb ∧ @Ne Nat q.1 R.dx ∧ @Ne Nat q.1 R.pl := by
    intro q hq
    simp only [Rdr.ro, List.mem_cons, List.not_mem_nil, or_false] at hq
    rcases hq with rfl | rfl | rfl | rfl | rfl | rfl | rfl | rfl <;> exact ha4 _ (by simp)
  have hIn : ∀ (ps : List (Str × Tok)) (nn : Nat), R.In w.params ((W0, listOf (svs ps).toArray nn) :: (R.pb, listOf (svs []).toArray npb) :: (R.ro w.params ++ Z)) := by
    intro ps nn
    have hm : ∀ q ∈ R.ro w.params, q ∈ ((W0, listOf (svs ps).toArray nn) :: (R.pb, listOf (svs []).toArray npb) :: (R.ro w.params ++ Z)) := fun q hq => .tail _ (.tail _ (List.mem_append_left _ hq))
    refine ⟨hm _ (by simp [Rdr.ro]), hm _ (by simp [Rdr.ro]), hm _ (by simp [Rdr.ro]), hm _ (by simp [Rdr.ro]), hm _ (by simp [Rdr.ro]), hm _ (by simp [Rdr.ro]), hm _ (by simp [Rdr.ro]), hm _ (by simp [Rdr.ro]), ?_, ?_, ha3⟩
    · intro q hq
      rcases List.mem_cons.mp hq with rfl | hq
      · exact Ne.symm hW2
      · rcases List.mem_cons.mp hq with rfl | hq
        · exact ha1
        · rcases List.mem_append.mp hq with hq | hq
          · exact (hro q hq).2.1
          · exact (hZ q hq).2.1
    · intro q hq
      rcases List.mem_cons.mp hq with rfl | hq
      · exact Ne.symm hW3
      · rcases List.mem_cons.mp hq with rfl | hq
        · exact ha2
        · rcases List.mem_append.mp hq with hq | hq
          · exact (hro q hq).2.2
          · exact (hZ q hq).2.2
  have hln0 : lnAt tx 0 = 1 := rfl
  obtain ⟨r1, kk, rs1, hlex1, hkk, hcase1⟩ : ∃ r k' rs, Lex dotS.cps.toList tx 0 r k' ∧ k' ≤ 100000 ∧ ((r = emS ∧ all = []) ∨ (r ≠ emS ∧ all = r :: rs ∧ Toks dotS.cps.toList tx k' rs)) := by
    cases hT with
    | nil h1 h2 => exact ⟨_, _, [], h1, h2, .inl ⟨rfl, rfl⟩⟩
    | cons h1 h2 h3 h4 => exact ⟨_, _, _, h1, h2, .inr ⟨h3, rfl, h4⟩⟩
  refine' Spec.use2 (getTok w p loose mean mg mb tx R hR dotS tl tk0 0 pn npb ((W0, listOf (svs []).toArray 0) :: (R.pb, listOf (svs []).toArray npb) :: (R.ro w.params ++ Z)) ?g1 ?g2 r1 kk ?g3 ?g4 htx) ?B ?F ?X ?N ?T rfl ?d ?u (k3_0 ?_)
  case g1 => exact hIn _ _
  case g2 => exact .tail _ (.head _)
  case g3 => exact hlex1
  case g4 => exact hkk
  case N =>
    rw [hln0]
    exact newsRot NW
  case B => k_asm
  case F => k_asm
  case X => k_asm
  case T => k_asm
  case d => ktr_room
  case u => ktr_units
  intro t4 tl4 tk5 h4 tk4 F4 N4; (try k_sweep)
  iterate 4 (focus (first | ((first | ((rename (∀ (f : Flow) (s : Shared), _ → _) => hq); (with_reducible refine Mine.cutQ hq ?_); clear hq; (rename (Flow → Shared → Prop) => qq); clear qq) | (with_reducible refine Mine.cutQ (by with_reducible assumption) ?_)); (try dsimp only)) | ((first | (k_unfold; (try dsimp only)) | (k_end; kc_close) | walk1 | (dsimp only; walk1) | (leave1; (try dsimp only)) | fail "no step"); (try ((with_reducible show wpAny _ _ (exec _ _) (fun _ _ => _) _ _); refine Mine.gen_Q ?_; intro QQ9 hQ9)))))
  rename Fr _ _ _ _ => FW2
  rename News _ _ _ _ => NW2
  refine' while_g (σ := WSt) (fun c => (R.dx, R.dxo w.params dotS (lnAt tx c.k) c.tl) :: (R.pl, listOf #[.int c.k c.tk] pn) :: (W0, listOf (svs c.ws).toArray c.n) :: (R.pb, listOf (svs []).toArray npb) :: (R.ro w.params ++ Z)) (fun c => [("word", .str c.r c.tr)]) (fun c => c.k ≤ 100000) []
    (fun c => (c.r = emS ∧ wds c.ws = all) ∨ (c.r ≠ emS ∧ ∃ rs, wds c.ws ++ c.r :: rs = all ∧ Toks dotS.cps.toList tx c.k rs)) (fun c => 101 - c.ws.length) ⟨[], 0, kk, tl4, tk5, pn, r1, t4⟩ FW2 ?_ ?_ ?kMap ?_ ?_
  case kMap => (dsimp only; kst_all)
  · exact NW2
  · exact hkk
  · rcases hcase1 with ⟨h1, h2⟩ | ⟨h1, h2, h3⟩
    · exact .inl ⟨h1, by rw [h2]; rfl⟩
    · exact .inr ⟨h1, rs1, by rw [h2]; rfl, h3⟩
  rintro ⟨ws, n, k, tl6, tk6, pn6, r, tr⟩ u h tk QB hB hfa hp FF NN
  dsimp only at hfa hp FF NN
  iterate 5 (focus (first | ((first | ((rename (∀ (f : Flow) (s : Shared), _ → _) => hq); (with_reducible refine Mine.cutQ hq ?_); clear hq; (rename (Flow → Shared → Prop) => qq); clear qq) | (with_reducible refine Mine.cutQ (by with_reducible assumption) ?_)); (try dsimp only)) | ((first | (k_unfold; (try dsimp only)) | (k_end; kc_close) | walk1 | (dsimp only; walk1) | (leave1; (try dsimp only)) | fail "no step"); (try ((with_reducible show wpAny _ _ (exec _ _) (fun _ _ => _) _ _); refine Mine.gen_Q ?_; intro QQ9 hQ9)))))
  rcases hp with ⟨rfl, hp⟩ | ⟨hne, rs, hp, hTk⟩
  · rw [if_neg (by decide)]
    iterate 8 (focus (first | ((first | ((rename (∀ (f : Flow) (s : Shared), _ → _) => hq); (with_reducible refine Mine.cutQ hq ?_); clear hq; (rename (Flow → Shared → Prop) => qq); clear qq) | (with_reducible refine Mine.cutQ (by with_reducible assumption) ?_)); (try dsimp only)) | ((first | (k_unfold; (try dsimp only)) | (k_end; kc_close) | walk1 | (dsimp only; walk1) | (leave1; (try dsimp only)) | fail "no step"); (try ((with_reducible show wpAny _ _ (exec _ _) (fun _ _ => _) _ _); refine Mine.gen_Q ?_; intro QQ9 hQ9)))))
    rename News h₀ _ _ _ => NR
    refine hret _ _ _ _ ⟨W0, n, ws, rfl, rfl, fun q hq => hW4 q (List.mem_append_right _ hq), hp⟩ (by k_asm) (kst_newsOf NR fun q hq => ?_)
    rcases List.mem_cons.mp hq with rfl | hq
    · exact .tail _ (.tail _ (.head _))
    · exact .tail _ (.tail _ (.tail _ (.tail _ (List.mem_append_right _ hq))))
  · rw [if_pos (by simpa [bne] using hne)]
    have hwl : ws.length + 1 ≤ 100 := by
      have := congrArg List.length hp
      simp at this
      omega
    iterate 9 (focus (first | ((first | ((rename (∀ (f : Flow) (s : Shared), _ → _) => hq); (with_reducible refine Mine.cutQ hq ?_); clear hq; (rename (Flow → Shared → Prop) => qq); clear qq) | (with_reducible refine Mine.cutQ (by with_reducible assumption) ?_)); (try dsimp only)) | ((first | (k_unfold; (try dsimp only)) | (k_end; kc_close) | walk1 | (dsimp only; walk1) | (leave1; (try dsimp only)) | fail "no step"); (try ((with_reducible show wpAny _ _ (exec _ _) (fun _ _ => _) _ _); refine Mine.gen_Q ?_; intro QQ9 hQ9)))))
    refine append_K (its := (svs ws).toArray) (n := n) (by k_asm) (by k_asm) (by k_upd) ?_ (by size_fits)
    intro h5 F5 N5; (try k_sweep)
    obtain ⟨r2, k2, rs2, hlex2, hk2, hcase2⟩ : ∃ r2 k' rs2, Lex dotS.cps.toList tx k r2 k' ∧ k' ≤ 100000 ∧ ((r2 = emS ∧ rs = []) ∨ (r2 ≠ emS ∧ rs = r2 :: rs2 ∧ Toks dotS.cps.toList tx k' rs2)) := by
      cases hTk with
      | nil h1 h2 => exact ⟨_, _, [], h1, h2, .inl ⟨rfl, rfl⟩⟩
      | cons h1 h2 h3 h4 => exact ⟨_, _, _, h1, h2, .inr ⟨h3, rfl, h4⟩⟩
    iterate 8 (focus (first | ((first | ((rename (∀ (f : Flow) (s : Shared), _ → _) => hq); (with_reducible refine Mine.cutQ hq ?_); clear hq; (rename (Flow → Shared → Prop) => qq); clear qq) | (with_reducible refine Mine.cutQ (by with_reducible assumption) ?_)); (try dsimp only)) | ((first | (k_unfold; (try dsimp only)) | (k_end; kc_close) | walk1 | (dsimp only; walk1) | (leave1; (try dsimp only)) | fail "no step"); (try ((with_reducible show wpAny _ _ (exec _ _) (fun _ _ => _) _ _); refine Mine.gen_Q ?_; intro QQ9 hQ9)))))
    refine' Spec.use2 (getTok w p loose mean mg mb tx R hR dotS tl6 tk6 k pn npb ((W0, listOf (svs (ws ++ [(r, tr)])).toArray (n + 1)) :: (R.pb, listOf (svs []).toArray npb) :: (R.ro w.params ++ Z)) ?g1 ?g2 r2 k2 ?g3 ?g4 htx) ?B ?F ?X ?N ?T rfl ?d ?u (k3_0 ?_)
    case g1 => exact hIn _ _
    case g2 => exact .tail _ (.head _)
    case g3 => exact hlex2
    case g4 => exact hk2
    case N =>
      rw [show (svs (ws ++ [(r, tr)])).toArray = (svs ws).toArray.push (.str r tr) by simp [svs]]
      k_asm
    case B => k_asm
    case F => k_asm
    case X => k_asm
    case T => k_asm
    case d => ktr_room
    case u => ktr_units
    intro t6 tl7 tk8 h6 tk7 F6 N6; (try k_sweep)
    iterate 6 (focus (first | ((first | ((rename (∀ (f : Flow) (s : Shared), _ → _) => hq); (with_reducible refine Mine.cutQ hq ?_); clear hq; (rename (Flow → Shared → Prop) => qq); clear qq) | (with_reducible refine Mine.cutQ (by with_reducible assumption) ?_)); (try dsimp only)) | ((first | (k_unfold; (try dsimp only)) | (k_end; kc_close) | walk1 | (dsimp only; walk1) | (leave1; (try dsimp only)) | fail "no step"); (try ((with_reducible show wpAny _ _ (exec _ _) (fun _ _ => _) _ _); refine Mine.gen_Q ?_; intro QQ9 hQ9)))))
    rename Fr _ _ _ _ => FE
    rename News _ _ _ _ => NE
    refine ksw_end ⟨ws ++ [(r, tr)], n + 1, k2, tl7, tk8, pn, r2, t6⟩ FE NE (fun q hq => hq) hk2 (by dsimp only; kst_all) (by dsimp only [kstB]; ksw_same) ?_ (by dsimp only; simp; omega)
    dsimp only
    rcases hcase2 with ⟨h1, h2⟩ | ⟨h1, h2, h3⟩
    · exact .inl ⟨h1, by rw [← hp, h2]; simp [wds]⟩
    · exact .inr ⟨h1, rs2, by rw [← hp, h2]; simp [wds], h3⟩
end Mine
end
section
open PySem PySem.W PyProof.Rows PyProof.V PySem.Spec PySem.SeqAt
set_option maxRecDepth 100000
namespace Mine
def escL (l : List Nat) : List Nat := l.flatMap fun c => [92, c]
def escS (w : Str) : Str := ⟨(escL w.cps.toList).toArray⟩
def sepS (k : Int) : Str := if k = 0 then Str.ofString " " else if k = 1 then Str.ofString "\n" else if k = 2 then Str.ofString "\t" else Str.ofString "\x0d"
def wrS (w : Str) (left : Int) : Str := if left.fmod 3 = 0 then Str.ofString "\"" ++ w ++ Str.ofString "\"" else if left.fmod 3 = 1 then w else escS w
def fileGo : List Str → Int → Str → Str
  | [], _, acc => acc
  | w :: r, left, acc => fileGo r ((left.fdiv 3).fdiv 4) (acc ++ wrS w left ++ sepS ((left.fdiv 3).fmod 4))
theorem item_sep {k : Int} (h0 : 0 ≤ k) (h4 : k < 4) : Txt.item (Str.ofString " \n\t\r") k = sepS k := by
  have : k = 0 ∨ k = 1 ∨ k = 2 ∨ k = 3 := by omega
  rcases this with rfl | rfl | rfl | rfl <;> decide +kernel
theorem sep_len (k : Int) : (sepS k).length ≤ 1 := by
  unfold sepS
  split
  · decide
  · split
    · decide
    · split <;> decide
theorem esc_len (w : Str) : (escS w).length = 2 * w.length := by
  unfold escS Str.length
  simp only [List.size_toArray]
  rw [show w.cps.size = w.cps.toList.length by simp]
  generalize w.cps.toList = l
  unfold escL
  induction l with
  | nil => rfl
  | cons a r ih => rw [List.flatMap_cons, List.length_append, ih]; simp; omega
theorem wr_len (w : Str) (left : Int) : (wrS w left).length ≤ 2 * w.length + 2 := by
  unfold wrS
  split
  · rw [Str.length_append, Str.length_append, show (Str.ofString "\"").length = 1 by decide]; omega
  · split
    · omega
    · rw [esc_len]; omega
theorem fileGo_step {ws : List Str} {i : Nat} (hi : i < ws.length) (left : Int) (acc : Str) : fileGo (ws.drop i) left acc = fileGo (ws.drop (i + 1)) ((left.fdiv 3).fdiv 4) (acc ++ wrS ws[i] left ++ sepS ((left.fdiv 3).fmod 4)) := by
  rw [List.drop_eq_getElem_cons hi]
  rfl
theorem esc_one (c : Nat) : Str.ofString "\\" ++ (⟨#[c]⟩ : Str) = ⟨#[92, c]⟩ := by
  rw [show Str.ofString "\\" = ⟨#[92]⟩ by decide]
  rfl
theorem sum_two (l : List Nat) : ((l.map fun c => (⟨#[92, c]⟩ : Str)).map (·.length)).sum = 2 * l.length := by
  induction l with
  | nil => rfl
  | cons a r ih => rw [List.map_cons, List.map_cons, List.sum_cons, ih]; simp [Str.length]; omega
theorem join_esc (w : Str) : Txt.join (Str.ofString "") (w.cps.toList.map fun c => ⟨#[92, c]⟩) = escS w := by
  unfold escS escL
  cases h : w.cps.toList with
  | nil => rfl
  | cons a r =>
    have e := glued_cps (Str.ofString "") ⟨#[92, a]⟩ (r.map fun c => ⟨#[92, c]⟩)
    rw [List.map_cons]
    have e2 : (Txt.join (Str.ofString "") ((⟨#[92, a]⟩ : Str) :: r.map fun c => ⟨#[92, c]⟩)).cps.toList = (a :: r).flatMap fun c => [92, c] := by
      rw [e, show (Str.ofString "").cps.toList = [] by decide, List.flatMap_map]
      simp
    generalize Txt.join (Str.ofString "") ((⟨#[92, a]⟩ : Str) :: r.map fun c => ⟨#[92, c]⟩) = x at e2
    obtain ⟨x⟩ := x
    congr 1
    rw [← e2]
structure FSt where
  o : Obj
  i : Nat
  left : Int
  tl : Tok
  acc : Str
  ta : Tok
set_option maxHeartbeats 0 in
theorem fileS (w : World) (p : Program) (loose : List Str) (mean : ExcName → Option Value) (mg mb : Str → Option Value)
  (W : Addr) (ws : List (Str × Tok)) (nw0 : Nat) (c : Int) (t1 : Tok) (Z : List (Addr × Obj)) (hW : (W, listOf (svs ws).toArray nw0) ∈ Z) (hwl : ws.length ≤ 10) (hws : ∀ x ∈ wds ws, x.length ≤ 20 ∧ x.cps.all (· < 128) = true) :
  Spec w p loose mean mg mb 167 12 [.ref W, .int c t1] Z (fun v nw => ∃ t, v = .str (fileGo (wds ws) (if c < 0 then -c else c) emS ++ Str.ofString "end") t ∧ nw = Z) := by
  unfold Spec
  k_fill
  intro dp un gd cn cs aa ccd cl outer A₀ base h₀ L m s Q E B F X N T hk hd hu hret
  k_dflt cell_enter
  rename Fr _ _ _ (fun _ => _) => F0; refine letM F0 ?_; clear F0; intro M0 F1
  refine letEA ?_; intro e9 A9
  iterate 20 (focus (first | ((first | ((rename (∀ (f : Flow) (s : Shared), _ → _) => hq); (with_reducible refine Mine.cutQ hq ?_); clear hq; (rename (Flow → Shared → Prop) => qq); clear qq) | (with_reducible refine Mine.cutQ (by with_reducible assumption) ?_)); (try dsimp only)) | ((first | (k_unfold; (try dsimp only)) | (k_end; kc_close) | walk1 | (dsimp only; walk1) | (leave1; (try dsimp only)) | fail "no step"); (try ((with_reducible show wpAny _ _ (exec _ _) (fun _ _ => _) _ _); refine Mine.gen_Q ?_; intro QQ9 hQ9)))))
  obtain ⟨l0, hl0⟩ : ∃ l0, l0 = if c < 0 then -c else c := ⟨_, rfl⟩
  have hl0p : 0 ≤ l0 := by rw [hl0]; split <;> omega
  refine wpAny_For ?_
  iterate 1 (focus (first | ((first | ((rename (∀ (f : Flow) (s : Shared), _ → _) => hq); (with_reducible refine Mine.cutQ hq ?_); clear hq; (rename (Flow → Shared → Prop) => qq); clear qq) | (with_reducible refine Mine.cutQ (by with_reducible assumption) ?_)); (try dsimp only)) | ((first | (k_unfold; (try dsimp only)) | (k_end; kc_close) | walk1 | (dsimp only; walk1) | (leave1; (try dsimp only)) | fail "no step"); (try ((with_reducible show wpAny _ _ (exec _ _) (fun _ _ => _) _ _); refine Mine.gen_Q ?_; intro QQ9 hQ9)))))
  refine iter_list (by k_asm) (by k_asm) hW ?_
  intro I oI h1 hI F1 N1 l2; (try k_lt l2); (try k_sweep)
  refine' For_g (σ := FSt) (fun c => (I, c.o) :: Z) (fun c => [("left", .int c.left c.tl), ("text", .str c.acc c.ta)]) (fun c => 0 ≤ c.left ∧ c.acc.length ≤ 50 * c.i) ["word"]
    (fun q => IsIt W q.i q.o ∧ q.i ≤ ws.length ∧ fileGo ((wds ws).drop q.i) q.left q.acc = fileGo (wds ws) l0 emS) (fun q => ws.length + 1 - q.i) ⟨oI, 0, l0, ?_, emS, ?_⟩ F1 ?_ ?_ ?kMap ?_ ?_
  case kMap => (dsimp only; rw [hl0]; kst_all)
  · exact N1
  · exact ⟨hl0p, Nat.zero_le _⟩
  · exact ⟨hI, Nat.zero_le _, rfl⟩
  rintro ⟨o, i, left, tl, acc, ta⟩ u h tk QB hB ⟨hf1, hf2⟩ ⟨hp1, hp2, hp3⟩ FF NN
  dsimp only at hf1 hf2 hp1 hp2 hp3 FF NN
  have hneI : ∀ p ∈ Z, p.1 ≠ I := allNe_all l2
  by_cases hil : i < ws.length
  · refine next_list FF NN hp1 hneI hW (v := sv ws[i]) (by simp [svs, hil]) ?_
    intro h2 o2 hI2 F2 N2; (try k_sweep)
    dsimp only
    obtain ⟨hwl20, hwasc⟩ : (ws[i]).1.length ≤ 20 ∧ (ws[i]).1.cps.all (· < 128) = true := hws _ (List.mem_map_of_mem (List.getElem_mem hil))
    have hm4 : 0 ≤ (left.fdiv 3).fmod 4 ∧ (left.fdiv 3).fmod 4 < 4 := by
      rw [Int.fmod_eq_emod_of_nonneg _ (by omega)]
      omega
    iterate 3 (focus (first | ((first | ((rename (∀ (f : Flow) (s : Shared), _ → _) => hq); (with_reducible refine Mine.cutQ hq ?_); clear hq; (rename (Flow → Shared → Prop) => qq); clear qq) | (with_reducible refine Mine.cutQ (by with_reducible assumption) ?_)); (try dsimp only)) | ((first | (k_unfold; (try dsimp only)) | (k_end; kc_close) | walk1 | (dsimp only; walk1) | (leave1; (try dsimp only)) | fail "no step"); (try ((with_reducible show wpAny _ _ (exec _ _) (fun _ _ => _) _ _); refine Mine.gen_Q ?_; intro QQ9 hQ9)))))
    rename Fr _ _ _ _ => FQ
    refine letM FQ ?_; clear FQ; intro M1 FQ
    have hwr := wr_len ws[i].1 left
    refine cutG FQ (fun _ : Tok => (I, o2) :: Z) (fun t y => if y = Str.ofString "text" then some (.str (acc ++ wrS ws[i].1 left) t) else M1 y) (fun _ => True) ?_ ?_
    · intro QC hC
      iterate 9 (focus (first | ((first | ((rename (∀ (f : Flow) (s : Shared), _ → _) => hq); (with_reducible refine Mine.cutQ hq ?_); clear hq; (rename (Flow → Shared → Prop) => qq); clear qq) | (with_reducible refine Mine.cutQ (by with_reducible assumption) ?_)); (try dsimp only)) | ((first | (k_unfold; (try dsimp only)) | (k_end; kc_close) | walk1 | (dsimp only; walk1) | (leave1; (try dsimp only)) | fail "no step"); (try ((with_reducible show wpAny _ _ (exec _ _) (fun _ _ => _) _ _); refine Mine.gen_Q ?_; intro QQ9 hQ9)))))
      iterate 1 (focus (first | ((first | ((rename (∀ (f : Flow) (s : Shared), _ → _) => hq); (with_reducible refine Mine.cutQ hq ?_); clear hq; (rename (Flow → Shared → Prop) => qq); clear qq) | (with_reducible refine Mine.cutQ (by with_reducible assumption) ?_)); (try dsimp only)) | ((first | (k_unfold; (try dsimp only)) | (k_end; kc_close) | walk1 | (dsimp only; walk1) | (leave1; (try dsimp only)) | fail "no step"); (try ((with_reducible show wpAny _ _ (exec _ _) (fun _ _ => _) _ _); refine Mine.gen_Q ?_; intro QQ9 hQ9)))))
      · have hc : left.fmod 3 = 0 := by first | assumption | simpa using (by assumption : (left.fmod 3 == 0) = true)
        iterate 7 (focus (first | ((first | ((rename (∀ (f : Flow) (s : Shared), _ → _) => hq); (with_reducible refine Mine.cutQ hq ?_); clear hq; (rename (Flow → Shared → Prop) => qq); clear qq) | (with_reducible refine Mine.cutQ (by with_reducible assumption) ?_)); (try dsimp only)) | ((first | (k_unfold; (try dsimp only)) | (k_end; kc_close) | walk1 | (dsimp only; walk1) | (leave1; (try dsimp only)) | fail "no step"); (try ((with_reducible show wpAny _ _ (exec _ _) (fun _ _ => _) _ _); refine Mine.gen_Q ?_; intro QQ9 hQ9)))))
        refine PyProof.Rows.add_str ?_ (by rw [sizeLine_eq, show (Str.ofString "\"").length = 1 by decide]; omega)
        iterate 3 (focus (first | ((first | ((rename (∀ (f : Flow) (s : Shared), _ → _) => hq); (with_reducible refine Mine.cutQ hq ?_); clear hq; (rename (Flow → Shared → Prop) => qq); clear qq) | (with_reducible refine Mine.cutQ (by with_reducible assumption) ?_)); (try dsimp only)) | ((first | (k_unfold; (try dsimp only)) | (k_end; kc_close) | walk1 | (dsimp only; walk1) | (leave1; (try dsimp only)) | fail "no step"); (try ((with_reducible show wpAny _ _ (exec _ _) (fun _ _ => _) _ _); refine Mine.gen_Q ?_; intro QQ9 hQ9)))))
        refine PyProof.Rows.add_str ?_ (by rw [sizeLine_eq, Str.length_append, show (Str.ofString "\"").length = 1 by decide]; omega)
        iterate 2 (focus (first | ((first | ((rename (∀ (f : Flow) (s : Shared), _ → _) => hq); (with_reducible refine Mine.cutQ hq ?_); clear hq; (rename (Flow → Shared → Prop) => qq); clear qq) | (with_reducible refine Mine.cutQ (by with_reducible assumption) ?_)); (try dsimp only)) | ((first | (k_unfold; (try dsimp only)) | (k_end; kc_close) | walk1 | (dsimp only; walk1) | (leave1; (try dsimp only)) | fail "no step"); (try ((with_reducible show wpAny _ _ (exec _ _) (fun _ _ => _) _ _); refine Mine.gen_Q ?_; intro QQ9 hQ9)))))
        refine PyProof.Rows.iadd_str ?_ (by rw [sizeLine_eq, Str.length_append, Str.length_append, show (Str.ofString "\"").length = 1 by decide]; omega)
        iterate 7 (focus (first | ((first | ((rename (∀ (f : Flow) (s : Shared), _ → _) => hq); (with_reducible refine Mine.cutQ hq ?_); clear hq; (rename (Flow → Shared → Prop) => qq); clear qq) | (with_reducible refine Mine.cutQ (by with_reducible assumption) ?_)); (try dsimp only)) | ((first | (k_unfold; (try dsimp only)) | (k_end; kc_close) | walk1 | (dsimp only; walk1) | (leave1; (try dsimp only)) | fail "no step"); (try ((with_reducible show wpAny _ _ (exec _ _) (fun _ _ => _) _ _); refine Mine.gen_Q ?_; intro QQ9 hQ9)))))
        rename Fr _ _ _ _ => FE
        rename News _ _ _ _ => NE
        have hw9 : wrS ws[i].1 left = Str.ofString "\"" ++ ws[i].1 ++ Str.ofString "\"" := by
          unfold wrS; rw [if_pos hc]
        exact cutEnd _ trivial (by rw [hw9]; exact FE) NE (fun q hq => hq)
      have hc0 : ¬ left.fmod 3 = 0 := by first | assumption | simpa using (by assumption : (left.fmod 3 == 0) = false)
      iterate 10 (focus (first | ((first | ((rename (∀ (f : Flow) (s : Shared), _ → _) => hq); (with_reducible refine Mine.cutQ hq ?_); clear hq; (rename (Flow → Shared → Prop) => qq); clear qq) | (with_reducible refine Mine.cutQ (by with_reducible assumption) ?_)); (try dsimp only)) | ((first | (k_unfold; (try dsimp only)) | (k_end; kc_close) | walk1 | (dsimp only; walk1) | (leave1; (try dsimp only)) | fail "no step"); (try ((with_reducible show wpAny _ _ (exec _ _) (fun _ _ => _) _ _); refine Mine.gen_Q ?_; intro QQ9 hQ9)))))
      iterate 1 (focus (first | ((first | ((rename (∀ (f : Flow) (s : Shared), _ → _) => hq); (with_reducible refine Mine.cutQ hq ?_); clear hq; (rename (Flow → Shared → Prop) => qq); clear qq) | (with_reducible refine Mine.cutQ (by with_reducible assumption) ?_)); (try dsimp only)) | ((first | (k_unfold; (try dsimp only)) | (k_end; kc_close) | walk1 | (dsimp only; walk1) | (leave1; (try dsimp only)) | fail "no step"); (try ((with_reducible show wpAny _ _ (exec _ _) (fun _ _ => _) _ _); refine Mine.gen_Q ?_; intro QQ9 hQ9)))))
      · have hc : left.fmod 3 = 1 := by first | assumption | simpa using (by assumption : (left.fmod 3 == 1) = true)
        iterate 4 (focus (first | ((first | ((rename (∀ (f : Flow) (s : Shared), _ → _) => hq); (with_reducible refine Mine.cutQ hq ?_); clear hq; (rename (Flow → Shared → Prop) => qq); clear qq) | (with_reducible refine Mine.cutQ (by with_reducible assumption) ?_)); (try dsimp only)) | ((first | (k_unfold; (try dsimp only)) | (k_end; kc_close) | walk1 | (dsimp only; walk1) | (leave1; (try dsimp only)) | fail "no step"); (try ((with_reducible show wpAny _ _ (exec _ _) (fun _ _ => _) _ _); refine Mine.gen_Q ?_; intro QQ9 hQ9)))))
        refine PyProof.Rows.iadd_str ?_ (by rw [sizeLine_eq]; omega)
        iterate 9 (focus (first | ((first | ((rename (∀ (f : Flow) (s : Shared), _ → _) => hq); (with_reducible refine Mine.cutQ hq ?_); clear hq; (rename (Flow → Shared → Prop) => qq); clear qq) | (with_reducible refine Mine.cutQ (by with_reducible assumption) ?_)); (try dsimp only)) | ((first | (k_unfold; (try dsimp only)) | (k_end; kc_close) | walk1 | (dsimp only; walk1) | (leave1; (try dsimp only)) | fail "no step"); (try ((with_reducible show wpAny _ _ (exec _ _) (fun _ _ => _) _ _); refine Mine.gen_Q ?_; intro QQ9 hQ9)))))
        rename Fr _ _ _ _ => FE
        rename News _ _ _ _ => NE
        have hw9 : wrS ws[i].1 left = ws[i].1 := by
          unfold wrS; rw [if_neg hc0, if_pos hc]
        exact cutEnd _ trivial (by rw [hw9]; exact FE) NE (fun q hq => hq)
      · have hc : ¬ left.fmod 3 = 1 := by first | assumption | simpa using (by assumption : (left.fmod 3 == 1) = false)
        iterate 8 (focus (first | ((first | ((rename (∀ (f : Flow) (s : Shared), _ → _) => hq); (with_reducible refine Mine.cutQ hq ?_); clear hq; (rename (Flow → Shared → Prop) => qq); clear qq) | (with_reducible refine Mine.cutQ (by with_reducible assumption) ?_)); (try dsimp only)) | ((first | (k_unfold; (try dsimp only)) | (k_end; kc_close) | walk1 | (dsimp only; walk1) | (leave1; (try dsimp only)) | fail "no step"); (try ((with_reducible show wpAny _ _ (exec _ _) (fun _ _ => _) _ _); refine Mine.gen_Q ?_; intro QQ9 hQ9)))))
        rename Fr _ _ _ _ => FC
        rename News _ _ _ _ => NC
        refine' ListComp_G FC ?hclos ?hcell ?hkind ?hnames ?hx ?_ ?hs
        case hclos => with_unfolding_all rfl
        case hcell => decide
        case hkind => with_unfolding_all rfl
        case hnames => decide
        case hx => with_unfolding_all rfl
        case hs => intro _; with_unfolding_all rfl
        iterate 1 (focus (first | ((first | ((rename (∀ (f : Flow) (s : Shared), _ → _) => hq); (with_reducible refine Mine.cutQ hq ?_); clear hq; (rename (Flow → Shared → Prop) => qq); clear qq) | (with_reducible refine Mine.cutQ (by with_reducible assumption) ?_)); (try dsimp only)) | ((first | (k_unfold; (try dsimp only)) | (k_end; kc_close) | walk1 | (dsimp only; walk1) | (leave1; (try dsimp only)) | fail "no step"); (try ((with_reducible show wpAny _ _ (exec _ _) (fun _ _ => _) _ _); refine Mine.gen_Q ?_; intro QQ9 hQ9)))))
        refine iter_str FC NC hwasc ?_
        intro I5 o5 h5 hI5 F5 N5 l5
        refine ⟨Obj × Nat, fun c => (I5, c.1) :: (I, o2) :: Z, fun c items => IsSi ws[i].1 ws[i].2 c.2 c.1 ∧ c.2 ≤ ws[i].1.length ∧ ∃ ps, items = svs ps ∧ wds ps = (ws[i].1.cps.toList.take c.2).map fun c => ⟨#[92, c]⟩, fun c => ws[i].1.length + 1 - c.2, (o5, 0), F5, N5, ⟨hI5, Nat.zero_le _, [], rfl, rfl⟩, ?_, ?_⟩
        · intro h tk Q E' F N hq
          have z := N _ (.head _)
          exact wpAny_pyIter_striter_ascii ⟨_, z.1, hI5.1, hI5.2⟩ hq
        rintro D C oC n9 ⟨o9, i9⟩ items h tk ⟨hI9, hi9, ps9, rfl, hps9⟩ FF9 NN9 hne9 hDC
        dsimp only at hI9 hi9 hps9 FF9 NN9 hne9 ⊢
        have hneI9 : ∀ p ∈ (I, o2) :: (C, oC) :: (D, listOf (svs ps9).toArray n9) :: Z, p.1 ≠ I5 := by
          intro q hq
          rcases List.mem_cons.mp hq with rfl | hq
          · exact Nat.ne_of_lt (l5 _ (.head _))
          · rcases List.mem_cons.mp hq with rfl | hq
            · exact Ne.symm (hne9 (I5, o9) (.head _)).1
            · rcases List.mem_cons.mp hq with rfl | hq
              · exact Ne.symm (hne9 (I5, o9) (.head _)).2
              · exact Nat.ne_of_lt (l5 _ (.tail _ hq))
        have hpl9 : ps9.length = i9 := by
          have := congrArg List.length hps9
          simp at this
          rw [this]
          unfold Str.length at hi9
          omega
        refine ⟨by simp [svs]; omega, ?_⟩
        by_cases hil9 : i9 < ws[i].1.length
        · obtain ⟨c9, hcx⟩ : ∃ c9, ws[i].1.cps[i9]? = some c9 := ⟨_, Array.getElem?_eq_getElem hil9⟩
          refine next_str FF9 (newsRot NN9) hI9 hneI9 hcx ?_
          intro h10 o10 tk10 u10 hI10 F10 N10
          refine ⟨(I5, o10) :: (I, o2) :: Z, h10, _, rfl, F10, newsRot N10, fun q hq => ?_, ?_⟩
          · rcases List.mem_cons.mp hq with rfl | hq
            · exact hne9 (I5, o9) (.head _)
            · exact hne9 _ (.tail _ hq)
          intro oC2 mC h11 tk11 hO hmx hNs FF11 NN11
          refine wpAny_tests_nil ?_
          rw [if_pos rfl]
          clear F10 N10 FF9 NN9 F5 N5
          iterate 3 (focus (first | ((first | ((rename (∀ (f : Flow) (s : Shared), _ → _) => hq); (with_reducible refine Mine.cutQ hq ?_); clear hq; (rename (Flow → Shared → Prop) => qq); clear qq) | (with_reducible refine Mine.cutQ (by with_reducible assumption) ?_)); (try dsimp only)) | ((first | (k_unfold; (try dsimp only)) | (k_end; kc_close) | walk1 | (dsimp only; walk1) | (leave1; (try dsimp only)) | fail "no step"); (try ((with_reducible show wpAny _ _ (exec _ _) (fun _ _ => _) _ _); refine Mine.gen_Q ?_; intro QQ9 hQ9)))))
          refine PyProof.Rows.add_str ?_ (by rw [sizeLine_eq, show (Str.ofString "\\").length = 1 by decide, one_len]; decide)
          intro t12 tk12
          rw [esc_one]
          refine cEnd (o10, i9 + 1) FF11 NN11 ?_ ⟨hI10, by dsimp only; omega, ps9 ++ [(⟨#[92, c9]⟩, t12)], by simp [svs], ?_⟩ (by dsimp only; omega)
          · intro q hq
            rcases List.mem_cons.mp hq with rfl | hq
            · exact hne9 (I5, o9) (.head _)
            · exact hne9 _ (.tail _ hq)
          · dsimp only
            rw [show (wds (ps9 ++ [((⟨#[92, c9]⟩ : Str), t12)])) = wds ps9 ++ [⟨#[92, c9]⟩] by simp [wds], hps9, List.take_add_one, show ws[i].1.cps.toList[i9]? = some c9 by simpa using hcx]
            simp
        · refine next_str_end rfl FF9 (newsRot NN9) hI9 hneI9 (by simp; unfold Str.length at hil9; omega) ?_
          intro h10 F10 N10
          obtain rfl : i9 = ws[i].1.length := by omega
          rw [List.take_of_length_le (by simp [Str.length])] at hps9
          refine ⟨(I, o2) :: Z, h10, _, rfl, F10, kst_newsOf N10 ?_, fun q hq => hne9 q (.tail _ hq), ?_⟩
          · intro q hq
            rcases List.mem_cons.mp hq with rfl | hq
            · exact .tail _ (.head _)
            · rcases List.mem_cons.mp hq with rfl | hq
              · exact .tail _ (.tail _ (.head _))
              · rcases List.mem_cons.mp hq with rfl | hq
                · exact .head _
                · exact .tail _ (.tail _ (.tail _ hq))
          intro h13 tk13 F13 N13
          clear F10 N10 FF9 NN9 F5 N5
          (try k_sweep)
          iterate 1 (focus (first | ((first | ((rename (∀ (f : Flow) (s : Shared), _ → _) => hq); (with_reducible refine Mine.cutQ hq ?_); clear hq; (rename (Flow → Shared → Prop) => qq); clear qq) | (with_reducible refine Mine.cutQ (by with_reducible assumption) ?_)); (try dsimp only)) | ((first | (k_unfold; (try dsimp only)) | (k_end; kc_close) | walk1 | (dsimp only; walk1) | (leave1; (try dsimp only)) | fail "no step"); (try ((with_reducible show wpAny _ _ (exec _ _) (fun _ _ => _) _ _); refine Mine.gen_Q ?_; intro QQ9 hQ9)))))
          refine join_listC (News.isList N13 (.head _)) (strs_are ps9) (by decide) (by rw [hps9, sum_two]; simp [Str.length] at *; omega) ?_
          intro t14 k14
          rw [show Txt.join (Str.ofString "") (wds ps9) = escS ws[i].1 by rw [hps9]; exact join_esc _]
          refine PyProof.Rows.iadd_str ?_ (by rw [sizeLine_eq, esc_len]; omega)
          iterate 9 (focus (first | ((first | ((rename (∀ (f : Flow) (s : Shared), _ → _) => hq); (with_reducible refine Mine.cutQ hq ?_); clear hq; (rename (Flow → Shared → Prop) => qq); clear qq) | (with_reducible refine Mine.cutQ (by with_reducible assumption) ?_)); (try dsimp only)) | ((first | (k_unfold; (try dsimp only)) | (k_end; kc_close) | walk1 | (dsimp only; walk1) | (leave1; (try dsimp only)) | fail "no step"); (try ((with_reducible show wpAny _ _ (exec _ _) (fun _ _ => _) _ _); refine Mine.gen_Q ?_; intro QQ9 hQ9)))))
          rename Fr _ _ _ _ => FE
          rename News _ _ _ _ => NE
          have hw9 : wrS ws[i].1 left = escS ws[i].1 := by
            unfold wrS; rw [if_neg hc0, if_neg hc]
          exact cutEnd _ trivial (by rw [hw9]; exact FE) NE (fun q hq => .tail _ hq)
    clear FQ
    intro t8 h8 tk8 pt8 F8 N8
    iterate 18 (focus (first | ((first | ((rename (∀ (f : Flow) (s : Shared), _ → _) => hq); (with_reducible refine Mine.cutQ hq ?_); clear hq; (rename (Flow → Shared → Prop) => qq); clear qq) | (with_reducible refine Mine.cutQ (by with_reducible assumption) ?_)); (try dsimp only)) | ((first | (k_unfold; (try dsimp only)) | (k_end; kc_close) | walk1 | (dsimp only; walk1) | (leave1; (try dsimp only)) | fail "no step"); (try ((with_reducible show wpAny _ _ (exec _ _) (fun _ _ => _) _ _); refine Mine.gen_Q ?_; intro QQ9 hQ9)))))
    iterate 1 (focus (first | ((first | ((rename (∀ (f : Flow) (s : Shared), _ → _) => hq); (with_reducible refine Mine.cutQ hq ?_); clear hq; (rename (Flow → Shared → Prop) => qq); clear qq) | (with_reducible refine Mine.cutQ (by with_reducible assumption) ?_)); (try dsimp only)) | ((first | (k_unfold; (try dsimp only)) | (k_end; kc_close) | walk1 | (dsimp only; walk1) | (leave1; (try dsimp only)) | fail "no step"); (try ((with_reducible show wpAny _ _ (exec _ _) (fun _ _ => _) _ _); refine Mine.gen_Q ?_; intro QQ9 hQ9)))))
    refine PyProof.Rows.iadd_str ?_ (by rw [item_sep hm4.1 hm4.2, sizeLine_eq, Str.length_append]; have := sep_len ((left.fdiv 3).fmod 4); omega)
    iterate 16 (focus (first | ((first | ((rename (∀ (f : Flow) (s : Shared), _ → _) => hq); (with_reducible refine Mine.cutQ hq ?_); clear hq; (rename (Flow → Shared → Prop) => qq); clear qq) | (with_reducible refine Mine.cutQ (by with_reducible assumption) ?_)); (try dsimp only)) | ((first | (k_unfold; (try dsimp only)) | (k_end; kc_close) | walk1 | (dsimp only; walk1) | (leave1; (try dsimp only)) | fail "no step"); (try ((with_reducible show wpAny _ _ (exec _ _) (fun _ _ => _) _ _); refine Mine.gen_Q ?_; intro QQ9 hQ9)))))
    rename Fr _ _ _ _ => FE
    rename News _ _ _ _ => NE
    have hse := sep_len ((left.fdiv 3).fmod 4)
    refine ksw_end ⟨o2, i + 1, (left.fdiv 3).fdiv 4, _, acc ++ wrS ws[i].1 left ++ Txt.item (Str.ofString " \n\t\r") ((left.fdiv 3).fmod 4), _⟩ FE NE ?_ ⟨?_, ?_⟩ (by dsimp only; kst_all) (by dsimp only [M1, kstB]; ksw_same) ⟨hI2, by dsimp only; omega, ?_⟩ (by dsimp only; omega)
    · exact fun q hq => hq
    · dsimp only; rw [Int.fdiv_eq_ediv_of_nonneg _ (by omega), Int.fdiv_eq_ediv_of_nonneg _ (by omega)]; omega
    · dsimp only
      rw [item_sep hm4.1 hm4.2, Str.length_append, Str.length_append]
      omega
    · dsimp only
      rw [item_sep hm4.1 hm4.2, ← hp3, fileGo_step (ws := wds ws) (i := i) (by simpa using hil) left acc]
      simp
  · refine next_list_end rfl FF NN hp1 hneI hW (by simp [svs]; omega) ?_
    intro h2 F2 N2; (try k_sweep)
    dsimp only
    iterate 6 (focus (first | ((first | ((rename (∀ (f : Flow) (s : Shared), _ → _) => hq); (with_reducible refine Mine.cutQ hq ?_); clear hq; (rename (Flow → Shared → Prop) => qq); clear qq) | (with_reducible refine Mine.cutQ (by with_reducible assumption) ?_)); (try dsimp only)) | ((first | (k_unfold; (try dsimp only)) | (k_end; kc_close) | walk1 | (dsimp only; walk1) | (leave1; (try dsimp only)) | fail "no step"); (try ((with_reducible show wpAny _ _ (exec _ _) (fun _ _ => _) _ _); refine Mine.gen_Q ?_; intro QQ9 hQ9)))))
    refine PyProof.Rows.add_str ?_ (by rw [sizeLine_eq, show (Str.ofString "end").length = 3 by decide]; omega)
    iterate 5 (focus (first | ((first | ((rename (∀ (f : Flow) (s : Shared), _ → _) => hq); (with_reducible refine Mine.cutQ hq ?_); clear hq; (rename (Flow → Shared → Prop) => qq); clear qq) | (with_reducible refine Mine.cutQ (by with_reducible assumption) ?_)); (try dsimp only)) | ((first | (k_unfold; (try dsimp only)) | (k_end; kc_close) | walk1 | (dsimp only; walk1) | (leave1; (try dsimp only)) | fail "no step"); (try ((with_reducible show wpAny _ _ (exec _ _) (fun _ _ => _) _ _); refine Mine.gen_Q ?_; intro QQ9 hQ9)))))
    rename News h₀ _ _ _ => NR
    obtain rfl : i = ws.length := by omega
    rw [List.drop_of_length_le (by simp)] at hp3
    rw [show acc = fileGo (wds ws) l0 emS from hp3, hl0]
    exact hret _ _ _ _ ⟨_, rfl, rfl⟩ (by k_asm) NR
end Mine
end
section
open PySem PySem.W PyProof.Rows
set_option maxRecDepth 100000
namespace Mine
theorem cps_at {tx : Str} {l : List Nat} (h : tx.cps.toList = l) (k : Nat) : tx.cps[k]? = l[k]? := by rw [← h, Array.getElem?_toList]
theorem at1_eq {tx : Str} {k c : Nat} (h : tx.cps[k]? = some c) : at1 tx k = ⟨#[c]⟩ := by unfold at1; rw [h]
abbrev St (l : List Nat) : Str := ⟨l.toArray⟩
theorem st_app (a : Str) (c : Nat) (l : List Nat) : a ++ (⟨#[c]⟩ : Str) ++ St l = a ++ St (c :: l) := by
  apply str_inj
  show (a.cps ++ #[c] ++ l.toArray).toList = (a.cps ++ (c :: l).toArray).toList
  simp
theorem lexB_run {ws : List Nat} {tx : Str} {r : Str} {k' : Nat} {e : Bool} (post : List Nat) : ∀ (w pre : List Nat) (acc : Str), tx.cps.toList = pre ++ (w ++ post) → (∀ c ∈ w, c ∉ ws ∧ c ≠ 92) →
    LexB ws tx (pre.length + w.length) (acc ++ St w) r k' e → LexB ws tx pre.length acc r k' e
  | [], pre, acc, _, _, h => by
    have e : acc ++ St [] = acc := by apply str_inj; show (acc.cps ++ #[]).toList = _; simp
    rw [e] at h
    exact h
  | c :: w, pre, acc, ht, hw, h => by
    have hc : tx.cps[pre.length]? = some c := by rw [cps_at ht]; simp
    refine .plain hc (hw c (.head _)).1 (hw c (.head _)).2 ?_
    have := lexB_run post w (pre ++ [c]) (acc ++ ⟨#[c]⟩) (by rw [ht]; simp) (fun d hd => hw d (.tail _ hd)) (r := r) (k' := k') (e := e) (by
      rw [st_app]
      rw [show (pre ++ [c]).length + w.length = pre.length + (c :: w).length by simp; omega]
      exact h)
    simpa using this
theorem lexB_esc {ws : List Nat} {tx : Str} {r : Str} {k' : Nat} {e : Bool} (hws : 92 ∉ ws) (post : List Nat) : ∀ (w pre : List Nat) (acc : Str), tx.cps.toList = pre ++ (escL w ++ post) →
    LexB ws tx (pre.length + (escL w).length) (acc ++ St w) r k' e → LexB ws tx pre.length acc r k' e
  | [], pre, acc, _, h => by
    have e : acc ++ St [] = acc := by apply str_inj; show (acc.cps ++ #[]).toList = _; simp
    rw [e] at h
    exact h
  | c :: w, pre, acc, ht, h => by
    have hc : tx.cps[pre.length]? = some 92 := by rw [cps_at ht]; simp [escL]
    have hc2 : tx.cps[pre.length + 1]? = some c := by rw [cps_at ht, List.getElem?_append_right (by omega)]; simp [escL]
    refine .esc hc hws ?_
    rw [at1_eq hc2]
    have := lexB_esc hws post w (pre ++ [92, c]) (acc ++ ⟨#[c]⟩) (by rw [ht]; simp [escL]) (r := r) (k' := k') (e := e) (by
      rw [st_app]
      rw [show (pre ++ [92, c]).length + (escL w).length = pre.length + (escL (c :: w)).length by simp [escL]; omega]
      exact h)
    simpa using this
theorem lexQ_run {tx : Str} {r : Str} {k' : Nat} (post : List Nat) : ∀ (w pre : List Nat) (acc : Str), tx.cps.toList = pre ++ (w ++ post) → (∀ c ∈ w, c ≠ 34 ∧ c ≠ 92) →
    LexQ tx (pre.length + w.length) (acc ++ St w) r k' → LexQ tx pre.length acc r k'
  | [], pre, acc, _, _, h => by
    have e : acc ++ St [] = acc := by apply str_inj; show (acc.cps ++ #[]).toList = _; simp
    rw [e] at h
    exact h
  | c :: w, pre, acc, ht, hw, h => by
    have hc : tx.cps[pre.length]? = some c := by rw [cps_at ht]; simp
    refine .plain hc (hw c (.head _)).1 (hw c (.head _)).2 ?_
    have := lexQ_run post w (pre ++ [c]) (acc ++ ⟨#[c]⟩) (by rw [ht]; simp) (fun d hd => hw d (.tail _ hd)) (r := r) (k' := k') (by
      rw [st_app]
      rw [show (pre ++ [c]).length + w.length = pre.length + (c :: w).length by simp; omega]
      exact h)
    simpa using this
theorem em_st (w : List Nat) : emS ++ St w = St w := by
  apply str_inj
  show (emS.cps ++ w.toArray).toList = _
  simp [show emS.cps = #[] by decide]
theorem em_one (c : Nat) (w : List Nat) : emS ++ (⟨#[c]⟩ : Str) ++ St w = St (c :: w) := by rw [st_app, em_st]
/-- a bare word, up to its end -/
theorem lex_bare {ws : List Nat} {tx : Str} {r : Str} {k' : Nat} {e : Bool} {w pre post : List Nat} (hne : w ≠ []) (ht : tx.cps.toList = pre ++ (w ++ post)) (hw : ∀ c ∈ w, c ∉ ws ∧ c ≠ 34 ∧ c ≠ 92)
    (h : LexB ws tx (pre.length + w.length) (St w) r k' e) : Lex ws tx pre.length r k' := by
  cases w with
  | nil => exact absurd rfl hne
  | cons c w =>
    have hc : tx.cps[pre.length]? = some c := by rw [cps_at ht]; simp
    have h1 := hw c (.head _)
    refine .bare (e := e) hc h1.1 h1.2.1 h1.2.2 ?_
    have := lexB_run post w (pre ++ [c]) (emS ++ ⟨#[c]⟩) (by rw [ht]; simp) (fun d hd => ⟨(hw d (.tail _ hd)).1, (hw d (.tail _ hd)).2.2⟩) (r := r) (k' := k') (e := e) (by
      rw [em_one]
      rw [show (pre ++ [c]).length + w.length = pre.length + (c :: w).length by simp; omega]
      exact h)
    simpa using this
theorem lex_esc {ws : List Nat} {tx : Str} {r : Str} {k' : Nat} {e : Bool} {w pre post : List Nat} (hws : 92 ∉ ws) (hne : w ≠ []) (ht : tx.cps.toList = pre ++ (escL w ++ post))
    (h : LexB ws tx (pre.length + (escL w).length) (St w) r k' e) : Lex ws tx pre.length r k' := by
  cases w with
  | nil => exact absurd rfl hne
  | cons c w =>
    have hc : tx.cps[pre.length]? = some 92 := by rw [cps_at ht]; simp [escL]
    have hc2 : tx.cps[pre.length + 1]? = some c := by rw [cps_at ht, List.getElem?_append_right (by omega)]; simp [escL]
    refine .esc (e := e) hc hws ?_
    rw [at1_eq hc2]
    have := lexB_esc hws post w (pre ++ [92, c]) (emS ++ ⟨#[c]⟩) (by rw [ht]; simp [escL]) (r := r) (k' := k') (e := e) (by
      rw [em_one]
      rw [show (pre ++ [92, c]).length + (escL w).length = pre.length + (escL (c :: w)).length by simp [escL]; omega]
      exact h)
    simpa using this
theorem lex_quote {ws : List Nat} {tx : Str} {w pre post : List Nat} (hws : 34 ∉ ws) (ht : tx.cps.toList = pre ++ (34 :: (w ++ 34 :: post))) (hw : ∀ c ∈ w, c ≠ 34 ∧ c ≠ 92) : Lex ws tx pre.length (St w) (pre.length + w.length + 2) := by
  have hc : tx.cps[pre.length]? = some 34 := by rw [cps_at ht]; simp
  refine .quote hc hws ?_
  have := lexQ_run (34 :: post) w (pre ++ [34]) emS (by rw [ht]; simp) hw (r := St w) (k' := pre.length + w.length + 2) (by
    rw [em_st, show pre.length + w.length + 2 = (pre ++ [34]).length + w.length + 1 by simp; omega]
    refine .stop ?_
    rw [cps_at ht]
    rw [show pre ++ 34 :: (w ++ 34 :: post) = (pre ++ [34] ++ w) ++ 34 :: post by simp, List.getElem?_append_right (by simp; omega),
      show (pre ++ [34] : List Nat).length + w.length - (pre ++ [34] ++ w : List Nat).length = 0 by simp; omega]
    rfl)
  simpa using this

theorem st_of (x : Str) : St x.cps.toList = x := by
  apply str_inj
  rfl
theorem toks_go {tx : Str} (hs : tx.cps.size ≤ 10000) : ∀ (rs : List Str) (a : Str) (pre : List Nat), tx.cps.toList = pre ++ (a.cps.toList ++ flatW (nl rs)) → isName a → (∀ v ∈ rs, isName v) → Toks [46] tx pre.length (a :: rs) := by
  have hg : ∀ v, isName v → v.cps.toList ≠ [] ∧ (∀ c ∈ v.cps.toList, c ∉ [46] ∧ c ≠ 34 ∧ c ≠ 92) ∧ v ≠ emS := by
    rintro v (rfl | rfl | rfl) <;> decide +kernel
  have hl : tx.cps.toList.length ≤ 10000 := by simpa using hs
  intro rs
  induction rs with
  | nil =>
    intro a pre ht ha _
    obtain ⟨g1, g2, g3⟩ := hg a ha
    rw [show flatW (nl []) = [] from rfl] at ht
    rw [ht] at hl
    simp only [List.length_append, List.length_nil] at hl
    refine .cons (k' := pre.length + a.cps.toList.length + 1) (lex_bare (e := true) (post := []) g1 ht g2 ?_) (by omega) g3 (.nil (k' := pre.length + a.cps.toList.length + 1 + 1) (.fin ?_) (by omega))
    · rw [st_of]
      refine .fin ?_
      rw [cps_at ht]
      simp
    · rw [cps_at ht]
      simp
  | cons b rs ih =>
    intro a pre ht ha hn
    obtain ⟨g1, g2, g3⟩ := hg a ha
    have ht2 : tx.cps.toList = pre ++ (a.cps.toList ++ 46 :: (b.cps.toList ++ flatW (nl rs))) := by rw [ht]; simp [flatW, nl]
    have hl2 := hl
    rw [ht2] at hl2
    simp only [List.length_append, List.length_cons] at hl2
    refine .cons (k' := pre.length + a.cps.toList.length + 1) (lex_bare (e := false) (post := 46 :: (b.cps.toList ++ flatW (nl rs))) g1 ht2 g2 ?_) (by omega) g3 ?_
    · rw [st_of]
      refine .stop (c := 46) ?_ (by simp)
      rw [cps_at ht2, List.getElem?_append_right (by omega), List.getElem?_append_right (by omega)]
      simp
    · have := ih b (pre ++ a.cps.toList ++ [46]) (by rw [ht2]; simp) (hn b (.head _)) (fun v hv => hn v (.tail _ hv))
      rw [show (pre ++ a.cps.toList ++ [46] : List Nat).length = pre.length + a.cps.toList.length + 1 by simp; omega] at this
      exact this
theorem toks_row {r : List Str} (hne : r ≠ []) (h3 : r.length ≤ 3) (hn : ∀ v ∈ r, isName v) : Toks dotS.cps.toList (Txt.join (Str.ofString ".") r) 0 r := by
  cases r with
  | nil => exact absurd rfl hne
  | cons a rs =>
    rw [show dotS.cps.toList = [46] by decide]
    have hj : (Txt.join (Str.ofString ".") (a :: rs)).cps.toList = [] ++ (a.cps.toList ++ flatW (nl rs)) := by
      rw [glued_cps, show (Str.ofString ".").cps.toList = [46] by decide]
      simp [flatW, nl, List.flatMap_map]
    refine toks_go ?_ rs a [] hj (hn a (.head _)) (fun v hv => hn v (.tail _ hv))
    have := join_len h3 hn
    unfold Str.length at this
    omega

abbrev wsL : List Nat := [10, 9, 13, 32]
inductive Chain (ws : List Nat) (tx : Str) : Nat → List Str → Nat → Prop
  | nil {k : Nat} : Chain ws tx k [] k
  | cons {k k1 k2 : Nat} {r : Str} {rs : List Str} : Lex ws tx k r k1 → k1 ≤ 100000 → Chain ws tx k1 rs k2 → Chain ws tx k (r :: rs) k2
def AtK (tx : Str) (k : Nat) (n : Nat) : Prop := k = n ∨ (k + 1 = n ∧ ∃ c, tx.cps[k]? = some c ∧ c ∈ wsL)
theorem AtK.lex {tx : Str} {k n k' : Nat} {r : Str} (h : AtK tx k n) (hl : Lex wsL tx n r k') : Lex wsL tx k r k' := by
  rcases h with rfl | ⟨rfl, c, h1, h2⟩
  · exact hl
  · exact .skip h1 h2 hl
def GoodW (w : Str) : Prop := w.cps.toList ≠ [] ∧ ∀ c ∈ w.cps.toList, c ∉ wsL ∧ c ≠ 34 ∧ c ≠ 92
theorem sep_one (k : Int) : ∃ c, (sepS k).cps.toList = [c] ∧ c ∈ wsL := by
  unfold sepS
  split
  · exact ⟨32, by decide, by decide⟩
  split
  · exact ⟨10, by decide, by decide⟩
  split
  · exact ⟨9, by decide, by decide⟩
  · exact ⟨13, by decide, by decide⟩
theorem app_cps (a b : Str) : (a ++ b).cps.toList = a.cps.toList ++ b.cps.toList := by
  show (a.cps ++ b.cps).toList = _
  simp
theorem tok_one {tx w : Str} {pre post : List Nat} {left k : Int} (hw : GoodW w) (ht : tx.cps.toList = pre ++ ((wrS w left).cps.toList ++ ((sepS k).cps.toList ++ post))) : ∃ k', Lex wsL tx pre.length w k' ∧ AtK tx k' (pre.length + (wrS w left).cps.toList.length + 1) := by
  obtain ⟨c, hc, hcm⟩ := sep_one k
  rw [hc] at ht
  have hat : tx.cps[pre.length + (wrS w left).cps.toList.length]? = some c := by
    rw [cps_at ht, List.getElem?_append_right (by omega), List.getElem?_append_right (by omega)]
    simp
  unfold wrS at ht hat ⊢
  split at ht
  · rename_i h0
    rw [if_pos h0] at hat ⊢
    have e : (Str.ofString "\"" ++ w ++ Str.ofString "\"").cps.toList = 34 :: (w.cps.toList ++ [34]) := by
      rw [app_cps, app_cps, show (Str.ofString "\"").cps.toList = [34] by decide]
      simp
    rw [e] at ht hat ⊢
    refine ⟨pre.length + w.cps.toList.length + 2, ?_, .inr ⟨by simp; omega, c, ?_, hcm⟩⟩
    · have := lex_quote (ws := wsL) (tx := tx) (w := w.cps.toList) (pre := pre) (post := [c] ++ post) (by decide) (by rw [ht]; simp) (fun c hc => (hw.2 c hc).2)
      rw [st_of] at this
      exact this
    · rw [show pre.length + w.cps.toList.length + 2 = pre.length + (34 :: (w.cps.toList ++ [34])).length by simp; omega]
      exact hat
  · rename_i h0
    rw [if_neg h0] at hat ⊢
    split at ht
    · rename_i h1
      rw [if_pos h1] at hat ⊢
      refine ⟨_, lex_bare (e := false) (w := w.cps.toList) hw.1 ht hw.2 ?_, .inl rfl⟩
      rw [st_of]
      exact .stop hat hcm
    · rename_i h1
      rw [if_neg h1] at hat ⊢
      have e : (escS w).cps.toList = escL w.cps.toList := rfl
      rw [e] at ht hat ⊢
      refine ⟨_, lex_esc (e := false) (w := w.cps.toList) (by decide) hw.1 ht ?_, .inl rfl⟩
      rw [st_of]
      exact .stop hat hcm
theorem file_pre : ∀ (ws : List Str) (left : Int) (acc : Str), ∃ post, (fileGo ws left acc).cps.toList = acc.cps.toList ++ post
  | [], _, acc => ⟨[], by simp [fileGo]⟩
  | w :: r, left, acc => by
    obtain ⟨post, h⟩ := file_pre r ((left.fdiv 3).fdiv 4) (acc ++ wrS w left ++ sepS ((left.fdiv 3).fmod 4))
    refine ⟨(wrS w left ++ sepS ((left.fdiv 3).fmod 4)).cps.toList ++ post, ?_⟩
    show (fileGo r _ _).cps.toList = _
    rw [h]
    simp [app_cps]
theorem file_chain {tx : Str} (hs : tx.cps.size ≤ 10000) : ∀ (ws : List Str) (left : Int) (acc : Str), tx = fileGo ws left acc ++ Str.ofString "end" → (∀ w ∈ ws, GoodW w) → ∀ k, AtK tx k acc.cps.toList.length →
    ∃ k', Chain wsL tx k ws k' ∧ AtK tx k' (fileGo ws left acc).cps.toList.length
  | [], left, acc, _, _, k, hk => ⟨k, .nil, hk⟩
  | w :: r, left, acc, ht, hg, k, hk => by
    obtain ⟨post, hp⟩ := file_pre r ((left.fdiv 3).fdiv 4) (acc ++ wrS w left ++ sepS ((left.fdiv 3).fmod 4))
    have ht2 : tx.cps.toList = acc.cps.toList ++ ((wrS w left).cps.toList ++ ((sepS ((left.fdiv 3).fmod 4)).cps.toList ++ (post ++ (Str.ofString "end").cps.toList))) := by
      rw [ht, app_cps]
      show (fileGo r _ _).cps.toList ++ _ = _
      rw [hp]
      simp [app_cps]
    obtain ⟨k1, h1, h2⟩ := tok_one (hg w (.head _)) ht2
    obtain ⟨c, hc, _⟩ := sep_one ((left.fdiv 3).fmod 4)
    have hl : (acc ++ wrS w left ++ sepS ((left.fdiv 3).fmod 4)).cps.toList.length = acc.cps.toList.length + (wrS w left).cps.toList.length + 1 := by
      rw [app_cps, app_cps, hc]
      simp only [List.length_append, List.length_cons, List.length_nil]
    rw [← hl] at h2
    obtain ⟨k', h3, h4⟩ := file_chain hs r ((left.fdiv 3).fdiv 4) (acc ++ wrS w left ++ sepS ((left.fdiv 3).fmod 4)) ht (fun w hw => hg w (.tail _ hw)) k1 h2
    refine ⟨k', .cons (hk.lex h1) ?_ h3, h4⟩
    have hsz : (acc ++ wrS w left ++ sepS ((left.fdiv 3).fmod 4)).cps.toList.length ≤ 10000 := by
      have e := congrArg List.length ht2
      rw [Array.length_toList] at e
      rw [hl]
      simp only [List.length_append, hc, List.length_cons, List.length_nil] at e
      omega
    rcases h2 with h | h <;> omega
theorem file_end {tx : Str} (hs : tx.cps.size ≤ 10000) {ws : List Str} {left : Int} (ht : tx = fileGo ws left emS ++ Str.ofString "end") (hg : ∀ w ∈ ws, GoodW w) :
    ∃ k k', Chain wsL tx 0 ws k ∧ Lex wsL tx k (Str.ofString "end") k' ∧ k' ≤ 100000 ∧ Lex wsL tx k' emS (k' + 1) ∧ k' + 1 ≤ 100000 ∧ tx.cps.toList.length ≤ k' := by
  obtain ⟨k, h1, h2⟩ := file_chain hs ws left emS ht hg 0 (.inl (by decide))
  have ht2 : tx.cps.toList = (fileGo ws left emS).cps.toList ++ ((Str.ofString "end").cps.toList ++ []) := by rw [ht, app_cps, List.append_nil]
  have hl := congrArg List.length ht2
  rw [Array.length_toList] at hl
  simp only [List.length_append, List.length_nil] at hl
  have he : (Str.ofString "end").cps.toList.length = 3 := by decide
  have h5 : Lex wsL tx (fileGo ws left emS).cps.toList.length (Str.ofString "end") ((fileGo ws left emS).cps.toList.length + (Str.ofString "end").cps.toList.length + 1) := by
    refine lex_bare (e := true) (w := (Str.ofString "end").cps.toList) (by decide) ht2 (by decide) ?_
    rw [st_of]
    refine .fin ?_
    rw [cps_at ht2]
    simp
  refine ⟨k, _, h1, h2.lex h5, by omega, .fin ?_, by omega, by rw [Array.length_toList]; omega⟩
  rw [cps_at ht2]
  simp
theorem join_good {r : List Str} (hne : r ≠ []) (hn : ∀ v ∈ r, isName v) : GoodW (Txt.join (Str.ofString ".") r) := by
  have hg : ∀ v, isName v → v.cps.toList ≠ [] ∧ (∀ c ∈ v.cps.toList, c ∉ wsL ∧ c ≠ 34 ∧ c ≠ 92) := by
    rintro v (rfl | rfl | rfl) <;> decide +kernel
  cases r with
  | nil => exact absurd rfl hne
  | cons a rs =>
    unfold GoodW
    rw [glued_cps, show (Str.ofString ".").cps.toList = [46] by decide]
    refine ⟨fun h => (hg a (hn a (.head _))).1 (List.append_eq_nil_iff.mp h).1, ?_⟩
    intro c hc
    rcases List.mem_append.mp hc with hc | hc
    · exact (hg a (hn a (.head _))).2 c hc
    · obtain ⟨v, hv, hc⟩ := List.mem_flatMap.mp hc
      rcases List.mem_append.mp hc with hc | hc
      · rw [List.mem_singleton] at hc
        subst hc
        decide
      · exact (hg v (hn v (.tail _ hv))).2 c hc
end Mine
end
section
open PySem PySem.W PyProof.Rows
set_option maxRecDepth 100000
namespace Mine
theorem hit_at2 {pre w : List Nat} (hw : WdOk w) (hs : (pre ++ (46 :: w)).length ≤ 1000000) : hitAt (pre ++ (46 :: w)).toArray pre.length = true := by
  have hget : ∀ i, (pre ++ (46 :: w)).toArray.getD (pre.length + i) 0 = ((46 :: w)[i]?).getD 0 := by
    intro i
    rw [getD_arr, List.getElem?_append_right (by omega)]
    congr 2
    omega
  have hn : nDig (pre ++ (46 :: w)).toArray pre.length = w.length := by
    unfold nDig
    refine digs_eq _ _ _ ?_ ?_ (.inl ?_)
    · intro i hi
      rw [Nat.add_assoc, hget, Nat.add_comm 1 i, List.getElem?_cons_succ, List.getElem?_eq_getElem hi]
      exact hw.2 _ (List.getElem_mem hi)
    · simp at hs ⊢
      omega
    · simp at hs ⊢
      omega
  unfold hitAt
  rw [hn]
  have h0 := hget 0
  rw [Nat.add_zero] at h0
  rw [h0]
  unfold atEnd
  have := hw.1
  simp
  omega
theorem hit_before2 {pre w : List Nat} {i : Nat} (hi : i < pre.length) : hitAt (pre ++ (46 :: w)).toArray i = false := by
  apply Bool.eq_false_iff.mpr
  intro h
  unfold hitAt at h
  simp only [Bool.and_eq_true, decide_eq_true_eq] at h
  obtain ⟨⟨⟨h1, h2⟩, h3⟩, h4⟩ := h
  have hle : pre.length < i + 1 + nDig (pre ++ (46 :: w)).toArray i := by
    have hw0 : nDig (pre ++ (46 :: w)).toArray i = nDig (pre ++ (46 :: w)).toArray i := rfl
    unfold atEnd at h4
    generalize nDig (pre ++ (46 :: w)).toArray i = d at h4 ⊢
    simp only [Bool.or_eq_true, Bool.and_eq_true, beq_iff_eq] at h4
    rcases h4 with h4 | ⟨h4, h5⟩
    · simp at h4
      omega
    · simp at h4
      rcases Nat.lt_or_ge pre.length (i + 1 + d) with hlt | hge
      · exact hlt
      · have e : i + 1 + d = pre.length := by omega
        rw [e, getD_arr, List.getElem?_append_right (Nat.le_refl _)] at h5
        simp at h5
  have hd := digs_dig (pre ++ (46 :: w)).toArray _ _ (pre.length - (i + 1)) (show pre.length - (i + 1) < nDig _ i by omega)
  rw [show i + 1 + (pre.length - (i + 1)) = pre.length by omega, getD_arr, List.getElem?_append_right (Nat.le_refl _)] at hd
  simp at hd
  exact nodot hd
def nmOf (k : Int) : Str := if k = 0 then Str.ofString "f" else if k = 1 then Str.ofString "7" else if k = 2 then Str.ofString "f.g" else Str.ofString "7.f"
theorem nm_cases (k : Int) : nmOf k = Str.ofString "f" ∨ nmOf k = Str.ofString "7" ∨ nmOf k = Str.ofString "f.g" ∨ nmOf k = Str.ofString "7.f" := by
  unfold nmOf
  split
  · exact .inl rfl
  split
  · exact .inr (.inl rfl)
  split
  · exact .inr (.inr (.inl rfl))
  · exact .inr (.inr (.inr rfl))
theorem nm_pick (t1 t2 t3 t4 : Tok) {k : Int} (h0 : 0 ≤ k) (h4 : k < 4) : ∃ t, [Value.str (Str.ofString "f") t1, Value.str (Str.ofString "7") t2, Value.str (Str.ofString "f.g") t3, Value.str (Str.ofString "7.f") t4][k.toNat]? = some (.str (nmOf k) t) := by
  have : k = 0 ∨ k = 1 ∨ k = 2 ∨ k = 3 := by omega
  rcases this with rfl | rfl | rfl | rfl
  · exact ⟨t1, rfl⟩
  · exact ⟨t2, rfl⟩
  · exact ⟨t3, rfl⟩
  · exact ⟨t4, rfl⟩
theorem hdOk_small {l : List Nat} (h : ∀ i, i < l.length → l[i]? = some 46 → ∃ c, l[i + 1]? = some c ∧ ¬ isD c) : HdOk l := fun i hi => h i (by
  rcases Nat.lt_or_ge i l.length with h | h
  · exact h
  · rw [List.getElem?_eq_none h] at hi; cases hi) hi
theorem hit_small {x : Str} (h : ∀ i, i < x.cps.size → hitAt x.cps i = false) (i : Nat) : hitAt x.cps i = false := by
  rcases Nat.lt_or_ge i x.cps.size with h1 | h1
  · exact h i h1
  · unfold hitAt
    rw [decide_eq_false (by omega)]
    rfl
theorem hd_f : HdOk [102] := by
  intro i hi
  match i with
  | 0 => simp at hi
  | i + 1 => simp at hi
theorem hd_7 : HdOk [55] := by
  intro i hi
  match i with
  | 0 => simp at hi
  | i + 1 => simp at hi
theorem hd_fg : HdOk [102, 46, 103] := by
  intro i hi
  match i with
  | 0 => simp at hi
  | 1 => exact ⟨103, rfl, by decide +kernel⟩
  | 2 => simp at hi
  | i + 3 => simp at hi
theorem hd_7f : HdOk [55, 46, 102] := by
  intro i hi
  match i with
  | 0 => simp at hi
  | 1 => exact ⟨102, rfl, by decide +kernel⟩
  | 2 => simp at hi
  | i + 3 => simp at hi
theorem nm_facts (k : Int) : HdOk (nmOf k).cps.toList ∧ (∀ i, hitAt (nmOf k).cps i = false) ∧ nmOf k ≠ Str.ofString "" ∧ (Txt.item (nmOf k) 0 == Str.ofString ".") = false ∧ (Txt.item (nmOf k) (-1) == Str.ofString ".") = false ∧ (nmOf k).cps.size ≤ 3 ∧ PyData.strOk (nmOf k) = true := by
  rcases nm_cases k with h | h | h | h <;> rw [h]
  · exact ⟨hd_f, hit_small (by decide +kernel), by decide +kernel, by decide +kernel, by decide +kernel, by decide +kernel, by decide +kernel⟩
  · exact ⟨hd_7, hit_small (by decide +kernel), by decide +kernel, by decide +kernel, by decide +kernel, by decide +kernel, by decide +kernel⟩
  · exact ⟨hd_fg, hit_small (by decide +kernel), by decide +kernel, by decide +kernel, by decide +kernel, by decide +kernel, by decide +kernel⟩
  · exact ⟨hd_7f, hit_small (by decide +kernel), by decide +kernel, by decide +kernel, by decide +kernel, by decide +kernel, by decide +kernel⟩
/-- the name and the first calls behind it -/
def begS (hd : List Nat) (ws : List Str) : Str := ⟨(hd ++ flatW (nl ws)).toArray⟩
theorem beg_is (nm : Str) {r : List Str} (hr : r ≠ []) : nm ++ Str.ofString "." ++ Txt.join (Str.ofString ".") r = begS nm.cps.toList r := by
  obtain ⟨a, r, rfl⟩ : ∃ a r', r = a :: r' := by cases r with | nil => exact absurd rfl hr | cons a b => exact ⟨a, b, rfl⟩
  apply str_inj
  rw [app_cps, app_cps, glued_cps, show (Str.ofString ".").cps.toList = [46] by decide]
  simp [begS, flatW, List.flatMap_map]
theorem beg_pile (hd : List Nat) (ws : List Str) : begS hd ws ++ Str.ofString "\n" = pileS hd ws := by
  apply str_inj
  rw [app_cps, show (Str.ofString "\n").cps.toList = [10] by decide]
  simp [begS, pileS, pileL]
theorem pile_nil (nm : Str) : pileS nm.cps.toList [] = nm ++ Str.ofString "\n" := by
  apply str_inj
  rw [app_cps, show (Str.ofString "\n").cps.toList = [10] by decide]
  simp [pileS, pileL, flatW]
theorem beg_hit {hd : List Nat} {ws : List Str} {v : Str} (hv : isName v) (hs : (begS hd (ws ++ [v])).cps.size ≤ 1000000) :
    hitAt (begS hd (ws ++ [v])).cps (pq hd ws) = true ∧ ∀ i, i < pq hd ws → hitAt (begS hd (ws ++ [v])).cps i = false := by
  have e : (begS hd (ws ++ [v])).cps = ((hd ++ flatW (nl ws)) ++ (46 :: v.cps.toList)).toArray := by
    show (hd ++ flatW (nl (ws ++ [v]))).toArray = _
    rw [show nl (ws ++ [v]) = nl ws ++ [v.cps.toList] by simp [nl], flatW_snoc, List.append_assoc]
  rw [e] at hs ⊢
  exact ⟨hit_at2 (pre := hd ++ flatW (nl ws)) (name_wd hv) (by simpa using hs), fun i hi => hit_before2 hi⟩
theorem beg_len {hd : List Nat} {ws : List Str} (h : ∀ v ∈ ws, isName v) : (begS hd ws).cps.size ≤ hd.length + 3 * ws.length := by
  have := flat_len h
  simp only [begS, List.size_toArray, List.length_append]
  omega
end Mine
end
section
open PySem PySem.W PyProof.Rows
set_option maxRecDepth 100000
namespace Mine
theorem Runs.ends {P : Par} (hP : P.Ok) {en : Int} {ws : List Str} {x b r : Int} {tk : List (Str × Int)} (h : Runs P en ws x b r tk) : (ws = [] → P.limit - P.fee < x) →
    (tk.filter fun z => z.2 ≤ P.limit).length = P.left (x - ws.length * P.fee) ∧ r = x - ws.length * P.fee + (P.left (x - ws.length * P.fee) : Int) * P.step := by
  induction h with
  | nil x b =>
    intro h0
    have h0 := h0 rfl
    have : P.left (x - (([] : List Str).length : Int) * P.fee) = 0 := by
      unfold Par.left
      rw [if_pos (by simpa using h0)]
    rw [this]
    simp
  | @pop ws x b r tk w rest hne hp hx _ ih =>
    intro _
    obtain ⟨a', r', e1, e2, _, _⟩ := popW_some en (ws := rot b ws) (by intro e; have := rot_length b ws; rw [e] at this; exact hne (List.length_eq_zero_iff.mp this.symm))
    rw [hp] at e1
    cases e1
    rw [rot_length] at e2
    obtain ⟨i1, i2⟩ := ih (fun _ => by omega)
    have e : x - P.fee - (rest.length : Int) * P.fee = x - (ws.length : Int) * P.fee := by
      rw [← e2, Int.natCast_add, Int.add_mul]
      omega
    rw [e] at i1 i2
    refine ⟨?_, i2⟩
    rw [List.filter_cons_of_neg (by simpa using hx)]
    exact i1
  | @unf ws x b r tk w rest hne hp hx _ ih =>
    intro _
    obtain ⟨a', r', e1, e2, _, _⟩ := popW_some en (ws := rot b ws) (by intro e; have := rot_length b ws; rw [e] at this; exact hne (List.length_eq_zero_iff.mp this.symm))
    rw [hp] at e1
    cases e1
    rw [rot_length] at e2
    have h13 := hP.rows w
    obtain ⟨i1, i2⟩ := ih (fun h => by
      have := congrArg List.length h
      simp only [List.length_append, List.length_nil] at this
      omega)
    have e : x + (P.step + (((P.rows w).length : Int) - 1) * P.fee) - ((rest ++ P.rows w).length : Int) * P.fee = x - (ws.length : Int) * P.fee + P.step := by
      rw [← e2, List.length_append, Int.natCast_add, Int.natCast_add, Int.add_mul, Int.add_mul, Int.sub_mul]
      omega
    rw [e] at i1 i2
    have hf := hP.fee
    have hle : x - (ws.length : Int) * P.fee ≤ P.limit - P.fee := by
      rw [← e2, Int.natCast_add, Int.add_mul]
      have : 0 ≤ (rest.length : Int) * P.fee := Int.mul_nonneg (by omega) hf
      omega
    have hs := Par.left_step hP hle
    refine ⟨?_, ?_⟩
    · rw [List.filter_cons_of_pos (by simp; omega), List.length_cons, i1]
      omega
    · rw [i2, ← hs, Int.natCast_add, Int.add_mul]
      omega
/-- the start's x, and what it makes -/
def Par.x0 (P : Par) (n : Nat) (q : Int) : Int := P.limit + P.step - q + ((n : Int) - 1) * P.fee
theorem Par.left0 {P : Par} (hP : P.Ok) (n : Nat) {q : Int} (h0 : 0 ≤ q) : P.x0 n q - n * P.fee = P.limit + P.step - q - P.fee ∧ (P.left (P.x0 n q - n * P.fee) : Int) = q / P.step := by
  have hs := hP.step
  have e : P.x0 n q - n * P.fee = P.limit + P.step - q - P.fee := by
    unfold Par.x0
    rw [Int.sub_mul]
    omega
  refine ⟨e, ?_⟩
  rw [e]
  unfold Par.left
  split
  · rename_i h
    rw [Int.ediv_eq_zero_of_lt h0 (by omega)]
    rfl
  · rename_i h
    have e2 : P.limit - P.fee - (P.limit + P.step - q - P.fee) = q + (-1) * P.step := by omega
    rw [e2, Int.add_mul_ediv_right _ _ (by omega)]
    have : 1 ≤ q / P.step := by
      rw [Int.le_ediv_iff_mul_le (by omega)]
      omega
    omega
theorem Par.meas0 {P : Par} (hP : P.Ok) {n : Nat} (hn : n ≤ 3) {q : Int} (h0 : 0 ≤ q) (h5 : q < 5 * P.step) : P.meas n (P.x0 n q) ≤ 100 := by
  have h := (Par.left0 hP n h0).2
  have hs := hP.step
  have : q / P.step < 5 := by
    rw [Int.ediv_lt_iff_lt_mul (by omega)]
    exact h5
  unfold Par.meas
  omega
theorem Runs.fin {P : Par} (hP : P.Ok) {en : Int} {ws : List Str} {b r q : Int} {tk : List (Str × Int)} (h0 : 0 ≤ q) (hne : ws ≠ []) (h : Runs P en ws (P.x0 ws.length q) b r tk) :
    ((tk.filter fun z => z.2 ≤ P.limit).length : Int) = (q - P.step) / P.step + 1 ∧ r = P.limit + P.step - P.fee - (q - P.step) % P.step := by
  obtain ⟨h1, h2⟩ := h.ends hP (fun h => absurd h hne)
  obtain ⟨e1, e2⟩ := Par.left0 hP ws.length h0
  have hs := hP.step
  have d1 : (q - P.step) / P.step = q / P.step - 1 := by
    have := Int.add_mul_ediv_right q (-1) (show P.step ≠ 0 by omega)
    rw [show q - P.step = q + (-1) * P.step by omega, this]
    omega
  have d2 : (q - P.step) % P.step = q % P.step := by
    rw [show q - P.step = q + P.step * (-1) by omega, Int.add_mul_emod_self_left]
  refine ⟨?_, ?_⟩
  · rw [h1, e2, d1]
    omega
  · rw [h2, e2, e1, d2]
    have := Int.mul_ediv_add_emod q P.step
    rw [Int.mul_comm] at this
    omega
end Mine
end
section
open PySem PySem.W PyProof.Rows PyProof.V PySem.Spec PySem.SeqAt
set_option maxRecDepth 100000
namespace Mine
noncomputable def recOf {q : Program} {lo : List Str} {XP : _} {YP : _} {r : _} {rc : _} {ds hw : _} {c : Prop} (_ : WalkO q lo XP YP r rc ds hw → c) := rc
noncomputable def lawRec := recOf hd
noncomputable abbrev lawEnv (L fa : Addr) (cd : Value) : Env := envOfC (Str.ofString "law") lawRec.scope L fa cd
/-- the law's body, from its statement n on -/
abbrev LGo (w : World) (L fa : Addr) (cd : Value) (n : Nat) (Q : Flow → Shared → Prop) (E : Value → Shared → Prop) (s : Shared) : Prop :=
  wpAny (model PySem.Challenge.rw_xg0056_01.row.prog w) (callerA.deeper (lawEnv L fa cd)) (execs (lawRec.body.drop n) (lawEnv L fa cd)) Q E s
theorem fr_kst {h₀ h : Heap} {L : Addr} {m : Str → Option Value} (ps : List (Str × Value)) (F : Fr h₀ L h m) (hk : ∀ p ∈ ps, m p.1 = some p.2) : Fr h₀ L h (kstB m ps) := by
  have e : kstB m ps = m := by
    funext z
    induction ps with
    | nil => rfl
    | cons p r ih =>
      show (if z = p.1 then some p.2 else kstB m r z) = m z
      split
      · rename_i h
        rw [h, hk p (.head _)]
      · exact ih fun q hq => hk q (.tail _ hq)
  rw [e]
  exact F
def NeAll (D : Addr) : List (Addr × Obj) → Prop
  | [] => True
  | p :: r => @Ne Nat p.1 D ∧ NeAll D r
theorem neAll_of {D : Addr} : ∀ {Z : List (Addr × Obj)}, (∀ p ∈ Z, p.1 ≠ D) → NeAll D Z
  | [], _ => trivial
  | p :: _, h => ⟨h p (.head _), neAll_of fun q hq => h q (.tail _ hq)⟩
structure Rw where
  a : Addr
  n : Nat
  ws : List (Str × Tok)
abbrev rwRefs (rs : List Rw) : List Value := rs.map fun r => .ref r.a
abbrev rwLed (rs : List Rw) : List (Addr × Obj) := rs.map fun r => (r.a, listOf (svs r.ws).toArray r.n)
abbrev rwW (rs : List Rw) : List (List Str) := rs.map fun r => wds r.ws
theorem row_go_len : ∀ (n : Nat) (l : Int), (rowGo n l).length = n
  | 0, _ => rfl
  | n + 1, l => by simp [rowGo, row_go_len n]
theorem row_go_names : ∀ (n : Nat) (l : Int), ∀ v ∈ rowGo n l, isName v
  | 0, _, v, h => by cases h
  | n + 1, l, v, h => by
    rcases List.mem_cons.mp h with rfl | h
    · unfold rwName
      split
      · exact .inl rfl
      split
      · exact .inr (.inl rfl)
      · exact .inr (.inr rfl)
    · exact row_go_names n _ v h
/-- a row: one to three names -/
def RowOk (r : List Str) : Prop := 1 ≤ r.length ∧ r.length ≤ 3 ∧ ∀ v ∈ r, isName v
theorem rowOf_ok (c : Int) : RowOk (rowOf c) := by
  unfold rowOf RowOk
  dsimp only
  rw [row_go_len]
  have h1 := Int.fmod_nonneg_of_pos (if c < 0 then -c else c) (show (0 : Int) < 3 by decide)
  have h2 := Int.fmod_lt_of_pos (if c < 0 then -c else c) (show (0 : Int) < 3 by decide)
  exact ⟨by omega, by omega, row_go_names _ _⟩
abbrev txOf (r : List Str) : Str := Txt.join (Str.ofString ".") r
theorem ten {α : Type} {l : List α} (h : l.length = 10) : ∃ a b c d e f g i j k, l = [a, b, c, d, e, f, g, i, j, k] := by
  match l, h with
  | [a, b, c, d, e, f, g, i, j, k], _ => exact ⟨a, b, c, d, e, f, g, i, j, k, rfl⟩
theorem four {α : Type} {l : List α} (h : l.length = 4) : ∃ a b c d, l = [a, b, c, d] := by
  match l, h with
  | [a, b, c, d], _ => exact ⟨a, b, c, d, rfl⟩
theorem newsUp {h₀ h : Heap} {L : Addr} {a b c : Addr × Obj} {Z : List (Addr × Obj)} (N : News h₀ L h (a :: b :: c :: Z)) : News h₀ L h (c :: a :: b :: Z) := kst_newsOf N fun q hq => by
  simp only [List.mem_cons] at hq ⊢
  rcases hq with h | h | h | h
  · exact .inr (.inr (.inl h))
  · exact .inl h
  · exact .inr (.inl h)
  · exact .inr (.inr (.inr h))
theorem newsDown {h₀ h : Heap} {L : Addr} {a b c : Addr × Obj} {Z : List (Addr × Obj)} (N : News h₀ L h (c :: a :: b :: Z)) : News h₀ L h (a :: b :: c :: Z) := kst_newsOf N fun q hq => by
  simp only [List.mem_cons] at hq ⊢
  rcases hq with h | h | h | h
  · exact .inr (.inl h)
  · exact .inr (.inr (.inl h))
  · exact .inl h
  · exact .inr (.inr (.inr h))
def kAt (k4 k5 k6 k7 : Int) (i : Nat) : Int := match i with | 0 => k4 | 1 => k5 | 2 => k6 | _ => k7
theorem cell_at {k0 k1 k2 k3 k4 k5 k6 k7 k8 k9 : Int} {t0 t1 t2 t3 t4 t5 t6 t7 t8 t9 : Tok} {i : Nat} (hi : i < 4) :
    ∃ t, [Value.int k0 t0, .int k1 t1, .int k2 t2, .int k3 t3, .int k4 t4, .int k5 t5, .int k6 t6, .int k7 t7, .int k8 t8, .int k9 t9][(4 + (i : Int)).toNat]? = some (.int (kAt k4 k5 k6 k7 i) t) := by
  match i, hi with
  | 0, _ => exact ⟨t4, rfl⟩
  | 1, _ => exact ⟨t5, rfl⟩
  | 2, _ => exact ⟨t6, rfl⟩
  | 3, _ => exact ⟨t7, rfl⟩
theorem kAt_take {k4 k5 k6 k7 : Int} {i : Nat} (hi : i < 4) : [rowOf k4, rowOf k5, rowOf k6, rowOf k7].take (i + 1) = [rowOf k4, rowOf k5, rowOf k6, rowOf k7].take i ++ [rowOf (kAt k4 k5 k6 k7 i)] := by
  match i, hi with
  | 0, _ => rfl
  | 1, _ => rfl
  | 2, _ => rfl
  | 3, _ => rfl
theorem rwLed_snoc (rs : List Rw) (r : Rw) : rwLed (rs ++ [r]) = rwLed rs ++ [(r.a, listOf (svs r.ws).toArray r.n)] := by simp [rwLed]
theorem rwRefs_snoc (rs : List Rw) (r : Rw) : rwRefs (rs ++ [r]) = rwRefs rs ++ [.ref r.a] := by simp [rwRefs]
theorem rwW_snoc (rs : List Rw) (r : Rw) : rwW (rs ++ [r]) = rwW rs ++ [wds r.ws] := by simp [rwW]
theorem ne_led {rs : List Rw} {x : Addr} (h : ∀ r ∈ rs, @Ne Nat r.a x) : ∀ p ∈ rwLed rs, p.1 ≠ x := by
  intro p hp
  obtain ⟨r, hr, rfl⟩ := List.mem_map.mp hp
  exact h r hr
theorem rows_ok {rs : List Rw} {a b c d : Int} (h : rwW rs = [rowOf a, rowOf b, rowOf c, rowOf d]) : ∀ r ∈ rs, RowOk (wds r.ws) := by
  intro r hr
  have : wds r.ws ∈ rwW rs := List.mem_map_of_mem (f := fun r : Rw => wds r.ws) hr
  rw [h] at this
  simp only [List.mem_cons, List.not_mem_nil, or_false] at this
  rcases this with e | e | e | e <;> rw [e] <;> exact rowOf_ok _
theorem sum_names : ∀ {l : List Str}, (∀ v ∈ l, isName v) → (l.map (·.length)).sum ≤ 2 * l.length
  | [], _ => by simp
  | v :: r, h => by
    have h1 := sum_names (l := r) fun x hx => h x (.tail _ hx)
    have h2 := name_len (h v (.head _))
    rw [Array.length_toList] at h2
    simp only [List.map_cons, List.sum_cons, List.length_cons, Str.length] at h1 ⊢
    omega
theorem row_sum {r : List Str} (h : RowOk r) : (r.map (·.length)).sum + r.length * 64 ≤ 16777216 := by
  have h1 := sum_names h.2.2
  have h2 := h.2.1
  omega
theorem take_map_succ {α β : Type} (f : α → β) {l : List α} {i : Nat} (h : i < l.length) : (l.map f).take (i + 1) = (l.map f).take i ++ [f l[i]] := by
  rw [List.take_add_one, List.getElem?_map, List.getElem?_eq_getElem h]
  rfl
end Mine
end
section
open PySem PySem.W PyProof.Rows PyProof.V PySem.Spec PySem.SeqAt
set_option maxRecDepth 100000
namespace Mine
set_option maxHeartbeats 0 in
theorem lawS2 (w : World) (p : Program) (loose : List Str) (mean : ExcName → Option Value) (mg mb : Str → Option Value) (base h₀ : Heap) (L fa : Addr) (cd : Value) (s : Shared) (m₀ : Str → Option Value) (Q : Flow → Shared → Prop) (E : Value → Shared → Prop)
  (B : Below callerA base [] h₀) (X : (hd.heap_1 w.params).In h₀) (T : Top p loose mean mg mb h₀)
  (D : Addr) (n : Nat) (o1 o2 : Obj) (k0 k1 k2 k3 k4 k5 k6 k7 k8 k9 : Int) (t0 t1 t2 t3 t4 t5 t6 t7 t8 t9 : Tok)
  (Z : List (Addr × Obj)) (hZ : Z = [(D, listOf #[Value.int k0 t0, .int k1 t1, .int k2 t2, .int k3 t3, .int k4 t4, .int k5 t5, .int k6 t6, .int k7 t7, .int k8 t8, .int k9 t9] n), (L + 1 + 1, o2), (L + 1, o1), (143, tabObj #[]), (73, tabObj #[]), (66, tabObj #[])])
  (F : Fr h₀ L s.heap m₀) (N : News h₀ L s.heap Z)
  (hL : 143 < L) (d1 : @Ne Nat D (L + 1)) (d2 : @Ne Nat D (L + 1 + 1)) (d3 : @Ne Nat D 143) (d4 : @Ne Nat D 73) (d5 : @Ne Nat D 66)
  (h1 : o1.data = .cell (some (.ref D)))
  (next : ∀ (h : Heap) (tk : Nat) (m : Str → Option Value) (Dr nD Wr nW : Nat) (rs : List Rw) (ws : List (Str × Tok)) (tl ts tf : Tok),
    Fr h₀ L h (kstB m [("limit", .int k0 tl), ("step", .int (1 + (if k1 < 0 then -k1 else k1)) ts), ("fee", .int (if k2 < 0 then -k2 else k2) tf), ("drawn", .ref Dr), ("writings", .ref Wr)]) →
    News h₀ L h ((Wr, listOf (svs ws).toArray nW) :: (Dr, listOf (rwRefs rs).toArray nD) :: (Z ++ rwLed rs)) →
    (∀ q ∈ Z, q.1 ≠ Wr ∧ q.1 ≠ Dr ∧ ∀ r ∈ rs, q.1 ≠ r.a) → rwW rs = [rowOf k4, rowOf k5, rowOf k6, rowOf k7] → wds ws = [txOf (rowOf k4), txOf (rowOf k5), txOf (rowOf k6), txOf (rowOf k7)] →
    LGo w L fa cd 6 Q E { s with heap := h, toks := tk }) :
  LGo w L fa cd 1 Q E s := by
  unfold LGo
  dsimp only [lawEnv, lawRec, recOf, List.drop]
  revert X
  k_fill
  intro X

  rw [hZ] at N
  iterate 43 (focus (first | ((first | ((rename (∀ (f : Flow) (s : Shared), _ → _) => hq); (with_reducible refine Mine.cutQ hq ?_); clear hq; (rename (Flow → Shared → Prop) => qq); clear qq) | (with_reducible refine Mine.cutQ (by with_reducible assumption) ?_)); (try dsimp only)) | ((first | (k_unfold; (try dsimp only)) | (k_end; kc_close) | walk1 | (dsimp only; walk1) | (leave1; (try dsimp only)) | fail "no step"); (try ((with_reducible show wpAny _ _ (exec _ _) (fun _ _ => _) _ _); refine Mine.gen_Q ?_; intro QQ9 hQ9)))))
  rename Fr _ _ _ _ => FA
  rename News _ _ _ _ => NA
  refine' Assign_ListComp_G FA ?hsw ?hL ?hclos ?hcell ?hkind ?hnames ?hx ?hy ?hp ?_ ?hs
  case hsw => with_unfolding_all rfl
  case hL => rfl
  case hclos => with_unfolding_all rfl
  case hcell => decide
  case hkind => with_unfolding_all rfl
  case hnames => decide
  case hx => with_unfolding_all rfl
  case hy => with_unfolding_all rfl
  case hp => with_unfolding_all rfl
  case hs => intro _; with_unfolding_all rfl
  iterate 8 (focus (first | ((first | ((rename (∀ (f : Flow) (s : Shared), _ → _) => hq); (with_reducible refine Mine.cutQ hq ?_); clear hq; (rename (Flow → Shared → Prop) => qq); clear qq) | (with_reducible refine Mine.cutQ (by with_reducible assumption) ?_)); (try dsimp only)) | ((first | (k_unfold; (try dsimp only)) | (k_end; kc_close) | walk1 | (dsimp only; walk1) | (leave1; (try dsimp only)) | fail "no step"); (try ((with_reducible show wpAny _ _ (exec _ _) (fun _ _ => _) _ _); refine Mine.gen_Q ?_; intro QQ9 hQ9)))))
  refine range_it2 (by k_asm) (by k_asm) (by decide) (by decide) (by decide) (by decide) ?_
  intro I h1' tk1 F1 N1 l1; k_lt l1
  have hZI : ∀ q ∈ Z, q.1 ≠ I := by rw [hZ]; k_all
  refine ⟨Nat × List Rw, fun c => (I, rgIt (4 + c.1) (4 - c.1) 1) :: (Z ++ rwLed c.2), fun c items => items = rwRefs c.2 ∧ c.2.length = c.1 ∧ c.1 ≤ 4 ∧ rwW c.2 = [rowOf k4, rowOf k5, rowOf k6, rowOf k7].take c.1 ∧ (∀ r ∈ c.2, @Ne Nat r.a I) ∧ ∀ q ∈ Z, ∀ r ∈ c.2, q.1 ≠ r.a, fun c => 4 - c.1, (0, []), F1, ?_, ⟨rfl, rfl, Nat.zero_le _, rfl, (fun r hr => nomatch hr), (fun q _ r hr => nomatch hr)⟩, ?_, ?_⟩
  · rw [hZ]; exact N1
  · intro h tk Q E' F N hq
    exact wpAny_pyIter_rangeiter (N _ (.head _)).1 hq
  rintro DD C oC nD ⟨i, rs⟩ items h tk ⟨hit, hrl, hi4, hrw, hrI, hZr⟩ FF NN hne hDC
  dsimp only at hit hrl hi4 hrw hrI hZr FF NN hne ⊢
  have hil : items.length = i := by rw [hit]; simpa using hrl
  refine ⟨by omega, ?_⟩
  have hneI : ∀ q ∈ (C, oC) :: (DD, listOf items.toArray nD) :: (Z ++ rwLed rs), q.1 ≠ I := by
    intro q hq
    rcases List.mem_cons.mp hq with rfl | hq
    · exact Ne.symm (hne _ (.head _)).1
    rcases List.mem_cons.mp hq with rfl | hq
    · exact Ne.symm (hne _ (.head _)).2
    rcases List.mem_append.mp hq with hq | hq
    · exact hZI q hq
    · obtain ⟨r, hr, rfl⟩ := List.mem_map.mp hq
      exact hrI r hr
  rcases Nat.lt_or_ge i 4 with hlt | hge
  · refine next_range FF (newsUp NN) hneI (by omega) ?_
    intro h2 tk2 t2' F2 N2
    refine ⟨(I, rgIt (4 + i + 1) (4 - i - 1) 1) :: (Z ++ rwLed rs), h2, tk2, rfl, F2, newsDown N2, fun q hq => ?_, ?_⟩
    · rcases List.mem_cons.mp hq with rfl | hq
      · exact hne (I, rgIt (4 + i) (4 - i) 1) (.head _)
      · exact hne _ (.tail _ hq)
    intro oC2 mC h3 tk3 hO hmx hNs FF3 NN3
    refine wpAny_tests_nil ?_
    rw [if_pos rfl]
    rw [hZ] at NN3
    dsimp only [List.cons_append, List.nil_append] at NN3
    clear N2 F2 FF NN N1 F1 FA NA
    iterate 8 (focus (first | ((first | ((rename (∀ (f : Flow) (s : Shared), _ → _) => hq); (with_reducible refine Mine.cutQ hq ?_); clear hq; (rename (Flow → Shared → Prop) => qq); clear qq) | (with_reducible refine Mine.cutQ (by with_reducible assumption) ?_)); (try dsimp only)) | ((first | (k_unfold; (try dsimp only)) | (k_end; kc_close) | walk1 | (dsimp only; walk1) | (leave1; (try dsimp only)) | fail "no step"); (try ((with_reducible show wpAny _ _ (exec _ _) (fun _ _ => _) _ _); refine Mine.gen_Q ?_; intro QQ9 hQ9)))))
    obtain ⟨tq, hq⟩ := cell_at (k0 := k0) (k1 := k1) (k2 := k2) (k3 := k3) (k4 := k4) (k5 := k5) (k6 := k6) (k7 := k7) (k8 := k8) (k9 := k9) (t0 := t0) (t1 := t1) (t2 := t2) (t3 := t3) (t4 := t4) (t5 := t5) (t6 := t6) (t7 := t7) (t8 := t8) (t9 := t9) hlt
    refine item_litK (News.isList NN3 (by k_mem)) (by omega) (by omega) hq ?_ (by with_unfolding_all rfl)
    iterate 2 (focus (first | ((first | ((rename (∀ (f : Flow) (s : Shared), _ → _) => hq); (with_reducible refine Mine.cutQ hq ?_); clear hq; (rename (Flow → Shared → Prop) => qq); clear qq) | (with_reducible refine Mine.cutQ (by with_reducible assumption) ?_)); (try dsimp only)) | ((first | (k_unfold; (try dsimp only)) | (k_end; kc_close) | walk1 | (dsimp only; walk1) | (leave1; (try dsimp only)) | fail "no step"); (try ((with_reducible show wpAny _ _ (exec _ _) (fun _ _ => _) _ _); refine Mine.gen_Q ?_; intro QQ9 hQ9)))))
    refine' Spec.use2 (row w p loose mean mg mb _ _ _) ?B ?F ?X ?N ?T rfl ?d ?u (k3_2 ?_)
    case N => k_asm
    case B => k_asm
    case F => k_asm
    case X => k_asm
    case T => k_asm
    case d => ktr_room
    case u => ktr_units
    intro Dw nw wsw hDw hww h4 tk4 F4 N4
    have N5 : News h₀ L h4 ((Dw, listOf (svs wsw).toArray nw) :: (C, oC2) :: (DD, listOf items.toArray nD) :: (I, rgIt (4 + i + 1) (4 - i - 1) 1) :: (Z ++ rwLed rs)) := by rw [hZ]; exact N4
    have hDw' : ∀ q ∈ (C, oC2) :: (DD, listOf items.toArray nD) :: (I, rgIt (4 + i + 1) (4 - i - 1) 1) :: (Z ++ rwLed rs), q.1 ≠ Dw := by rw [hZ]; exact hDw
    refine cEnd (i + 1, rs ++ [⟨Dw, nw, wsw⟩]) F4 (by dsimp only; rw [rwLed_snoc, show (4 + ((i + 1 : Nat) : Int)) = 4 + i + 1 by omega, show (4 - ((i + 1 : Nat) : Int)) = 4 - i - 1 by omega]; exact news_app N5) ?_ ⟨?_, ?_, ?_, ?_, ?_, ?_⟩ ?_
    · intro q hq
      dsimp only at hq
      rw [rwLed_snoc] at hq
      rcases List.mem_cons.mp hq with rfl | hq
      · exact hne (I, rgIt (4 + i) (4 - i) 1) (.head _)
      rcases List.mem_append.mp hq with hq | hq
      · exact hne q (.tail _ (List.mem_append_left _ hq))
      rcases List.mem_append.mp hq with hq | hq
      · exact hne q (.tail _ (List.mem_append_right _ hq))
      · rw [List.mem_singleton] at hq
        subst hq
        exact ⟨Ne.symm (hDw' _ (.head _)), Ne.symm (hDw' _ (.tail _ (.head _)))⟩
    · dsimp only
      rw [rwRefs_snoc, hit]
    · dsimp only
      rw [List.length_append, hrl]
      rfl
    · dsimp only
      omega
    · dsimp only
      rw [rwW_snoc, hrw, kAt_take hlt, hww]
    · intro r hr
      rcases List.mem_append.mp hr with hr | hr
      · exact hrI r hr
      · rw [List.mem_singleton] at hr
        subst hr
        exact Ne.symm (hDw' _ (.tail _ (.tail _ (.head _))))
    · intro q hq r hr
      rcases List.mem_append.mp hr with hr | hr
      · exact hZr q hq r hr
      · rw [List.mem_singleton] at hr
        subst hr
        exact hDw' q (.tail _ (.tail _ (.tail _ (List.mem_append_left _ hq))))
    · dsimp only
      omega
  · refine next_range_end rfl FF (newsUp NN) hneI (by omega) ?_
    intro h2 F2 N2
    refine ⟨Z ++ rwLed rs, h2, _, rfl, F2, N2, fun q hq => hne q (.tail _ hq), ?_⟩
    intro h5 tk5 F5 N5
    have hi : i = 4 := by omega
    subst hi
    rw [List.take_of_length_le (by simp)] at hrw
    have hDD : ∀ q ∈ Z ++ rwLed rs, q.1 ≠ DD := fun q hq => (hne q (.tail _ hq)).2
    clear F2 N2 FF NN N1 F1 FA NA hneI hne
    iterate 2 (focus (first | ((first | ((rename (∀ (f : Flow) (s : Shared), _ → _) => hq); (with_reducible refine Mine.cutQ hq ?_); clear hq; (rename (Flow → Shared → Prop) => qq); clear qq) | (with_reducible refine Mine.cutQ (by with_reducible assumption) ?_)); (try dsimp only)) | ((first | (k_unfold; (try dsimp only)) | (k_end; kc_close) | walk1 | (dsimp only; walk1) | (leave1; (try dsimp only)) | fail "no step"); (try ((with_reducible show wpAny _ _ (exec _ _) (fun _ _ => _) _ _); refine Mine.gen_Q ?_; intro QQ9 hQ9)))))
    rename Fr _ _ _ _ => FA2
    rename News _ _ _ _ => NA2
    refine' Assign_ListComp_G FA2 ?hsw ?hL ?hclos ?hcell ?hkind ?hnames ?hx ?hy ?hp ?_ ?hs
    case hsw => with_unfolding_all rfl
    case hL => rfl
    case hclos => with_unfolding_all rfl
    case hcell => decide
    case hkind => with_unfolding_all rfl
    case hnames => decide
    case hx => with_unfolding_all rfl
    case hy => with_unfolding_all rfl
    case hp => with_unfolding_all rfl
    case hs => intro _; with_unfolding_all rfl
    iterate 1 (focus (first | ((first | ((rename (∀ (f : Flow) (s : Shared), _ → _) => hq); (with_reducible refine Mine.cutQ hq ?_); clear hq; (rename (Flow → Shared → Prop) => qq); clear qq) | (with_reducible refine Mine.cutQ (by with_reducible assumption) ?_)); (try dsimp only)) | ((first | (k_unfold; (try dsimp only)) | (k_end; kc_close) | walk1 | (dsimp only; walk1) | (leave1; (try dsimp only)) | fail "no step"); (try ((with_reducible show wpAny _ _ (exec _ _) (fun _ _ => _) _ _); refine Mine.gen_Q ?_; intro QQ9 hQ9)))))
    refine iter_list (by k_asm) (by k_asm) (.head _) ?_
    intro J oJ h6 hJ F6 N6 l6
    have hrk := rows_ok hrw
    rw [hit] at hil N6 l6
    refine ⟨Obj × List (Str × Tok), fun c => (J, c.1) :: (DD, listOf (rwRefs rs).toArray nD) :: (Z ++ rwLed rs), fun c items => IsIt DD c.2.length c.1 ∧ items = svs c.2 ∧ c.2.length ≤ 4 ∧ wds c.2 = (rs.map fun r => txOf (wds r.ws)).take c.2.length, fun c => 4 - c.2.length, (oJ, []), F6, N6, ⟨hJ, rfl, Nat.zero_le _, rfl⟩, ?_, ?_⟩
    · intro h tk Q E' F N hq
      have z := N _ (.head _)
      exact wpAny_pyIter_listiter ⟨_, z.1, hJ.1, hJ.2⟩ hq
    rintro D2 C oC nD2 ⟨o, ws⟩ items2 h tk ⟨hI1, hit2, hi, hws⟩ FF NN hne hDC
    dsimp only at hI1 hit2 hi hws FF NN hne ⊢
    refine ⟨by rw [hit2]; simp; omega, ?_⟩
    have hneJ : ∀ q ∈ (C, oC) :: (D2, listOf items2.toArray nD2) :: (DD, listOf (rwRefs rs).toArray nD) :: (Z ++ rwLed rs), q.1 ≠ J := by
      intro q hq
      rcases List.mem_cons.mp hq with rfl | hq
      · exact Ne.symm (hne _ (.head _)).1
      rcases List.mem_cons.mp hq with rfl | hq
      · exact Ne.symm (hne _ (.head _)).2
      exact Nat.ne_of_lt (l6 q hq)
    rcases Nat.lt_or_ge ws.length 4 with hlt | hge
    · have hlr : ws.length < rs.length := by omega
      refine next_list (v := .ref rs[ws.length].a) FF (newsUp NN) hI1 hneJ (.tail _ (.tail _ (.head _))) (by simp [rwRefs, hlr]) ?_
      intro h2 o2' hI2 F2 N2
      refine ⟨(J, o2') :: (DD, listOf (rwRefs rs).toArray nD) :: (Z ++ rwLed rs), h2, _, rfl, F2, newsDown N2, fun q hq => ?_, ?_⟩
      · rcases List.mem_cons.mp hq with rfl | hq
        · exact hne (J, o) (.head _)
        · exact hne _ (.tail _ hq)
      intro oC2 mC h3 tk3 hO hmx hNs FF3 NN3
      refine wpAny_tests_nil ?_
      rw [if_pos rfl]
      clear N2 F2 FF NN N6 F6 FA2 NA2
      iterate 8 (focus (first | ((first | ((rename (∀ (f : Flow) (s : Shared), _ → _) => hq); (with_reducible refine Mine.cutQ hq ?_); clear hq; (rename (Flow → Shared → Prop) => qq); clear qq) | (with_reducible refine Mine.cutQ (by with_reducible assumption) ?_)); (try dsimp only)) | ((first | (k_unfold; (try dsimp only)) | (k_end; kc_close) | walk1 | (dsimp only; walk1) | (leave1; (try dsimp only)) | fail "no step"); (try ((with_reducible show wpAny _ _ (exec _ _) (fun _ _ => _) _ _); refine Mine.gen_Q ?_; intro QQ9 hQ9)))))
      have hmr : (rs[ws.length].a, listOf (svs rs[ws.length].ws).toArray rs[ws.length].n) ∈ rwLed rs := List.mem_map_of_mem (f := fun r : Rw => (r.a, listOf (svs r.ws).toArray r.n)) (List.getElem_mem hlr)
      refine join_listC (News.isList NN3 (.tail _ (.tail _ (.tail _ (.tail _ (List.mem_append_right _ hmr)))))) (strs_are _) (by decide) (row_sum (hrk _ (List.getElem_mem hlr))) ?_
      intro t14 k14
      skip
      refine cEnd (o2', ws ++ [(txOf (wds rs[ws.length].ws), t14)]) FF3 NN3 ?_ ⟨?_, ?_, ?_, ?_⟩ ?_
      · intro q hq
        rcases List.mem_cons.mp hq with rfl | hq
        · exact hne (J, o) (.head _)
        · exact hne _ (.tail _ hq)
      · dsimp only
        rw [List.length_append]
        exact hI2
      · dsimp only
        rw [hit2]
        simp [svs]
      · dsimp only
        rw [List.length_append]
        exact hlt
      · dsimp only
        rw [List.length_append, show [(txOf (wds rs[ws.length].ws), t14)].length = 1 from rfl, take_map_succ _ hlr]
        simp only [wds, List.map_append] at hws ⊢
        rw [hws]
        rfl
      · dsimp only
        rw [List.length_append]
        simp
        omega
    · refine next_list_end rfl FF (newsUp NN) hI1 hneJ (.tail _ (.tail _ (.head _))) (by simp [rwRefs]; omega) ?_
      intro h2 F2 N2
      refine ⟨(DD, listOf (rwRefs rs).toArray nD) :: (Z ++ rwLed rs), h2, _, rfl, F2, N2, fun q hq => hne q (.tail _ hq), ?_⟩
      intro h7 tk7 F7 N7
      have hi : ws.length = 4 := by omega
      rw [hi, List.take_of_length_le (by simp [hrl])] at hws
      clear F2 N2 FF NN N6 F6 FA2 NA2 hneJ
      rw [hit2] at N7
      iterate 1 (focus (first | ((first | ((rename (∀ (f : Flow) (s : Shared), _ → _) => hq); (with_reducible refine Mine.cutQ hq ?_); clear hq; (rename (Flow → Shared → Prop) => qq); clear qq) | (with_reducible refine Mine.cutQ (by with_reducible assumption) ?_)); (try dsimp only)) | ((first | (k_unfold; (try dsimp only)) | (k_end; kc_close) | walk1 | (dsimp only; walk1) | (leave1; (try dsimp only)) | fail "no step"); (try ((with_reducible show wpAny _ _ (exec _ _) (fun _ _ => _) _ _); refine Mine.gen_Q ?_; intro QQ9 hQ9)))))
      refine' next h7 tk7 _ DD nD D2 nD2 rs ws ?tl ?ts ?tf (fr_kst [("limit", .int k0 ?tl), ("step", .int (1 + (if k1 < 0 then -k1 else k1)) ?ts), ("fee", .int (if k2 < 0 then -k2 else k2) ?tf), ("drawn", .ref DD), ("writings", .ref D2)] F7 ?hF) N7 ?hz hrw ?hw
      case hF =>
        exact fm (by rfl) (fm (by rfl) (fm (by rfl) (fm (by rfl) (fm (by rfl) fm0))))
      case hz =>
        intro q hq
        refine ⟨(hne q (.tail _ (.tail _ (List.mem_append_left _ hq)))).2, hDD q (List.mem_append_left _ hq), fun r hr => hZr q hq r hr⟩
      case hw =>
        rw [hws]
        have : rs.map (fun r => txOf (wds r.ws)) = (rwW rs).map txOf := by simp [rwW]
        rw [this, hrw]
        rfl
end Mine
end
section
open PySem PySem.W PyProof.Rows PyProof.V PySem.Spec PySem.SeqAt
set_option maxRecDepth 100000
namespace Mine
theorem file_len : ∀ (ws : List Str) (left : Int) (acc : Str), (∀ w ∈ ws, w.length ≤ 20) → (fileGo ws left acc).length ≤ acc.length + 50 * ws.length
  | [], _, acc, _ => by simp [fileGo]
  | w :: r, left, acc, h => by
    have h1 := file_len r ((left.fdiv 3).fdiv 4) (acc ++ wrS w left ++ sepS ((left.fdiv 3).fmod 4)) fun x hx => h x (.tail _ hx)
    have h2 := wr_len w left
    have h3 := sep_len ((left.fdiv 3).fmod 4)
    have h4 := h w (.head _)
    rw [Str.length_append, Str.length_append] at h1
    show (fileGo r _ _).length ≤ _
    simp only [List.length_cons]
    omega
abbrev wsS : Str := Str.ofString "\n\t\x0d "
theorem wsS_is : wsS.cps.toList = [10, 9, 13, 32] := by decide
/-- what the law's text and its lexer are -/
structure LexOk (tx : Str) (wr : List Str) (k4 k5 : Nat) : Prop where
  len : tx.length ≤ 10000
  chain : Chain wsL tx 0 wr k4
  e : Lex wsL tx k4 (Str.ofString "end") k5
  e1 : k5 ≤ 100000
  n : Lex wsL tx k5 emS (k5 + 1)
  n1 : k5 + 1 ≤ 100000
  all : tx.cps.toList.length ≤ k5
theorem lexOk_of {rs : List (List Str)} {left : Int} {tx : Str} (hr : ∀ r ∈ rs, RowOk r) (hl : rs.length ≤ 10) (ht : tx = fileGo (rs.map txOf) left emS ++ Str.ofString "end") : ∃ k4 k5, LexOk tx (rs.map txOf) k4 k5 := by
  have hlen : tx.length ≤ 10000 := by
    rw [ht, Str.length_append]
    have h1 := file_len (rs.map txOf) left emS (by
      intro w hw
      obtain ⟨r, hr', rfl⟩ := List.mem_map.mp hw
      exact join_len (hr r hr').2.1 (hr r hr').2.2)
    have h2 : (Str.ofString "end").length = 3 := by decide
    have h3 := em_len
    rw [List.length_map] at h1
    omega
  have hg : ∀ w ∈ rs.map txOf, GoodW w := by
    intro w hw
    obtain ⟨r, hr', rfl⟩ := List.mem_map.mp hw
    refine join_good ?_ (hr r hr').2.2
    intro e
    have := (hr r hr').1
    rw [e] at this
    simp at this
  obtain ⟨k, k', h1, h2, h3, h4, h5, h6⟩ := file_end (by unfold Str.length at hlen; exact hlen) ht hg
  exact ⟨k, k', hlen, h1, h2, h3, h4, h5, h6⟩
/-- the ledger's part that stays -/
structure LB (w : World) (p : Program) (loose : List Str) (mean : ExcName → Option Value) (mg mb : Str → Option Value) (L D n : Nat) (cv : Array Value) (Wr nW : Nat) (wr : List (Str × Tok)) (Dr nD : Nat) (rs : List Rw) (o1 o2 : Obj) (tx : Str) (R : Rdr) (Z : List (Addr × Obj)) : Prop where
  cells : (D, listOf cv n) ∈ Z
  c1 : (L + 1, o1) ∈ Z
  c1d : o1.data = .cell (some (.ref D))
  c2 : (L + 1 + 1, o2) ∈ Z
  c2d : o2.data = .cell (some (.ref R.x))
  wr : (Wr, listOf (svs wr).toArray nW) ∈ Z
  dr : (Dr, listOf (rwRefs rs).toArray nD) ∈ Z
  rows : ∀ q ∈ rwLed rs, q ∈ Z
  ro : ∀ q ∈ R.ro w.params, q ∈ Z
  tab : (143, tabObj #[rawInt 144, rawInt 4, .ref R.c]) ∈ Z
  t73 : (73, tabObj #[]) ∈ Z
  t66 : (66, tabObj #[]) ∈ Z
  pb : ∀ q ∈ Z, q.1 ≠ R.pb ∧ q.1 ≠ R.dx ∧ q.1 ≠ R.pl
  apart : R.apart
  tabc : TabC R.oc
  rd : ReadSpec w p loose mean mg mb tx R
theorem newsUp4 {h₀ h : Heap} {L : Addr} {a b c d e : Addr × Obj} {Z : List (Addr × Obj)} (N : News h₀ L h (a :: b :: c :: d :: e :: Z)) : News h₀ L h (e :: a :: b :: c :: d :: Z) := kst_newsOf N fun q hq => by
  simp only [List.mem_cons] at hq ⊢
  rcases hq with h | h | h | h | h | h
  · exact .inr (.inr (.inr (.inr (.inl h))))
  · exact .inl h
  · exact .inr (.inl h)
  · exact .inr (.inr (.inl h))
  · exact .inr (.inr (.inr (.inl h)))
  · exact .inr (.inr (.inr (.inr (.inr h))))
theorem newsDown4 {h₀ h : Heap} {L : Addr} {a b c d e : Addr × Obj} {Z : List (Addr × Obj)} (N : News h₀ L h (e :: a :: b :: c :: d :: Z)) : News h₀ L h (a :: b :: c :: d :: e :: Z) := kst_newsOf N fun q hq => by
  simp only [List.mem_cons] at hq ⊢
  rcases hq with h | h | h | h | h | h
  · exact .inr (.inl h)
  · exact .inr (.inr (.inl h))
  · exact .inr (.inr (.inr (.inl h)))
  · exact .inr (.inr (.inr (.inr (.inl h))))
  · exact .inl h
  · exact .inr (.inr (.inr (.inr (.inr h))))
theorem Chain.inv {ws : List Nat} {tx : Str} {k k2 : Nat} {r : Str} {rs : List Str} (h : Chain ws tx k (r :: rs) k2) : ∃ k1, Lex ws tx k r k1 ∧ k1 ≤ 100000 ∧ Chain ws tx k1 rs k2 := by
  cases h with
  | cons h1 h2 h3 => exact ⟨_, h1, h2, h3⟩
theorem Chain.inv_nil {ws : List Nat} {tx : Str} {k k2 : Nat} (h : Chain ws tx k [] k2) : k = k2 := by cases h; rfl
theorem Chain.ws {ws ws' : List Nat} {tx : Str} {k k2 : Nat} {rs : List Str} (e : ws = ws') (h : Chain ws tx k rs k2) : Chain ws' tx k rs k2 := e ▸ h
theorem LB.inn {w : World} {p : Program} {loose : List Str} {mean : ExcName → Option Value} {mg mb : Str → Option Value} {L D n : Nat} {cv : Array Value} {Wr nW : Nat} {wr : List (Str × Tok)} {Dr nD : Nat} {rs : List Rw} {o1 o2 : Obj} {tx : Str} {R : Rdr} {Z : List (Addr × Obj)}
    (hb : LB w p loose mean mg mb L D n cv Wr nW wr Dr nD rs o1 o2 tx R Z) {Y : List (Addr × Obj)} (hY : ∀ q ∈ Z, q ∈ Y) (h1 : ∀ q ∈ Y, q ∈ Z ∨ (q.1 ≠ R.dx ∧ q.1 ≠ R.pl)) : R.In w.params Y := by
  have hm : ∀ q ∈ R.ro w.params, q ∈ Y := fun q hq => hY q (hb.ro q hq)
  refine ⟨hm _ (by simp [Rdr.ro]), hm _ (by simp [Rdr.ro]), hm _ (by simp [Rdr.ro]), hm _ (by simp [Rdr.ro]), hm _ (by simp [Rdr.ro]), hm _ (by simp [Rdr.ro]), hm _ (by simp [Rdr.ro]), hm _ (by simp [Rdr.ro]), ?_, ?_, hb.apart.2.2.1⟩
  · intro q hq
    rcases h1 q hq with h | h
    · exact (hb.pb q h).2.1
    · exact h.1
  · intro q hq
    rcases h1 q hq with h | h
    · exact (hb.pb q h).2.2
    · exact h.2
end Mine
end
section
open PySem PySem.W PyProof.Rows PyProof.V PySem.Spec PySem.SeqAt
set_option maxRecDepth 100000
namespace Mine
set_option maxHeartbeats 0 in
theorem lawS3 (w : World) (p : Program) (loose : List Str) (mean : ExcName → Option Value) (mg mb : Str → Option Value) (base h₀ : Heap) (L fa : Addr) (cd : Value) (s : Shared) (m₀ : Str → Option Value) (Q : Flow → Shared → Prop) (E : Value → Shared → Prop)
  (B : Below callerA base [] h₀) (X : (hd.heap_1 w.params).In h₀) (T : Top p loose mean mg mb h₀)
  (D : Addr) (n : Nat) (o1 o2 : Obj) (k0 k1 k2 k3 k4 k5 k6 k7 k8 k9 : Int) (t0 t1 t2 t3 t4 t5 t6 t7 t8 t9 : Tok) (limit step fee : Int) (tl ts tf : Tok)
  (Dr nD Wr nW : Nat) (rs : List Rw) (wr : List (Str × Tok))
  (Z : List (Addr × Obj)) (hZ : Z = [(D, listOf #[Value.int k0 t0, .int k1 t1, .int k2 t2, .int k3 t3, .int k4 t4, .int k5 t5, .int k6 t6, .int k7 t7, .int k8 t8, .int k9 t9] n), (L + 1 + 1, o2), (L + 1, o1), (143, tabObj #[]), (73, tabObj #[]), (66, tabObj #[])])
  (F : Fr h₀ L s.heap (kstB m₀ [("limit", .int limit tl), ("step", .int step ts), ("fee", .int fee tf), ("drawn", .ref Dr), ("writings", .ref Wr)])) (N : News h₀ L s.heap ((Wr, listOf (svs wr).toArray nW) :: (Dr, listOf (rwRefs rs).toArray nD) :: (Z ++ rwLed rs)))
  (hZn : ∀ q ∈ Z, q.1 ≠ Wr ∧ q.1 ≠ Dr ∧ ∀ r ∈ rs, q.1 ≠ r.a) (hw : wds wr = (rwW rs).map txOf) (hrk : ∀ r ∈ rs, RowOk (wds r.ws)) (hr4 : rs.length = 4)
  (hL : @LT.lt Nat _ 143 L) (d1 : @Ne Nat D (L + 1)) (d2 : @Ne Nat D (L + 1 + 1)) (d3 : @Ne Nat D 143) (d4 : @Ne Nat D 73) (d5 : @Ne Nat D 66)
  (h1 : o1.data = .cell (some (.ref D))) (h2 : o2.data = .cell none)
  (next : ∀ (h : Heap) (tk : Nat) (m : Str → Option Value) (tx : Str) (tt : Tok) (kk4 kk5 : Nat) (R : Rdr) (npb npl : Nat) (o2 : Obj) (tl1 tk1 : Tok) (Z1 : List (Addr × Obj)),
    Fr h₀ L h (kstB m [("limit", .int limit tl), ("step", .int step ts), ("fee", .int fee tf), ("drawn", .ref Dr), ("writings", .ref Wr), ("text", .str tx tt)]) →
    News h₀ L h ((R.dx, R.dxo w.params wsS (lnAt tx 0) tl1) :: (R.pl, listOf #[.int (0 : Nat) tk1] npl) :: (R.pb, listOf (svs []).toArray npb) :: Z1) →
    LB w p loose mean mg mb L D n #[Value.int k0 t0, .int k1 t1, .int k2 t2, .int k3 t3, .int k4 t4, .int k5 t5, .int k6 t6, .int k7 t7, .int k8 t8, .int k9 t9] Wr nW wr Dr nD rs o1 o2 tx R Z1 →
    LexOk tx (wds wr) kk4 kk5 →
    LGo w L fa cd 8 Q E { s with heap := h, toks := tk }) :
  LGo w L fa cd 6 Q E s := by
  unfold LGo
  dsimp only [lawEnv, lawRec, recOf, List.drop]
  revert X
  k_fill
  intro X
  rw [hZ] at N
  have e143 := hZn (143, tabObj #[]) (by rw [hZ]; k_mem)
  have e2 := hZn (L + 1 + 1, o2) (by rw [hZ]; k_mem)
  have e2l : ∀ p ∈ rwLed rs, p.1 ≠ L + 1 + 1 := ne_led fun r hr => Ne.symm (e2.2.2 r hr)
  have hwk : ∀ x ∈ wds wr, x.length ≤ 20 ∧ x.cps.all (· < 128) = true := by
    rw [hw]
    intro x hx
    obtain ⟨r, hr, rfl⟩ := List.mem_map.mp hx
    obtain ⟨r', hr', rfl⟩ := List.mem_map.mp hr
    exact ⟨join_len (hrk r' hr').2.1 (hrk r' hr').2.2, join_ascii (hrk r' hr').2.2⟩
  have hwl : wr.length = 4 := by
    have := congrArg List.length hw
    simpa [hr4] using this
  dsimp only [List.cons_append, List.nil_append] at N
  iterate 14 (focus (first | ((first | ((rename (∀ (f : Flow) (s : Shared), _ → _) => hq); (with_reducible refine Mine.cutQ hq ?_); clear hq; (rename (Flow → Shared → Prop) => qq); clear qq) | (with_reducible refine Mine.cutQ (by with_reducible assumption) ?_)); (try dsimp only)) | ((first | (k_unfold; (try dsimp only)) | (k_end; kc_close) | walk1 | (dsimp only; walk1) | (leave1; (try dsimp only)) | fail "no step"); (try ((with_reducible show wpAny _ _ (exec _ _) (fun _ _ => _) _ _); refine Mine.gen_Q ?_; intro QQ9 hQ9)))))
  refine' Spec.use2 (fileS w p loose mean mg mb Wr wr nW _ _ _ ?g1 ?g2 hwk) ?B ?F ?X ?N ?T rfl ?d ?u (k1_0 ?_)
  case N => k_asm
  case g1 => k_mem
  case g2 => omega
  case B => k_asm
  case F => k_asm
  case X => k_asm
  case T => k_asm
  case d => ktr_room
  case u => ktr_units
  intro tt h4 tk4 F4 N4
  obtain ⟨kk4, kk5, hlex⟩ := lexOk_of (rs := rwW rs) (left := if ([k0, k1, k2, k3, k4, k5, k6, k7, k8, k9].getD (Int.toNat 8) 0) < 0 then -([k0, k1, k2, k3, k4, k5, k6, k7, k8, k9].getD (Int.toNat 8) 0) else ([k0, k1, k2, k3, k4, k5, k6, k7, k8, k9].getD (Int.toNat 8) 0)) (by
    intro r hr
    obtain ⟨r', hr', rfl⟩ := List.mem_map.mp hr
    exact hrk r' hr') (by simp [rwW, hr4]) rfl
  rw [← hw] at hlex
  generalize (fileGo (wds wr) _ emS ++ Str.ofString "end") = tx at hlex ⊢
  iterate 14 (focus (first | ((first | ((rename (∀ (f : Flow) (s : Shared), _ → _) => hq); (with_reducible refine Mine.cutQ hq ?_); clear hq; (rename (Flow → Shared → Prop) => qq); clear qq) | (with_reducible refine Mine.cutQ (by with_reducible assumption) ?_)); (try dsimp only)) | ((first | (k_unfold; (try dsimp only)) | (k_end; kc_close) | walk1 | (dsimp only; walk1) | (leave1; (try dsimp only)) | fail "no step"); (try ((with_reducible show wpAny _ _ (exec _ _) (fun _ _ => _) _ _); refine Mine.gen_Q ?_; intro QQ9 hQ9)))))
  obtain ⟨Zr, hZr⟩ : ∃ Z', Z' = (Wr, listOf (svs wr).toArray nW) :: (Dr, listOf (rwRefs rs).toArray nD) :: (D, listOf #[Value.int k0 t0, .int k1 t1, .int k2 t2, .int k3 t3, .int k4 t4, .int k5 t5, .int k6 t6, .int k7 t7, .int k8 t8, .int k9 t9] n) :: (L + 1 + 1, o2) :: (L + 1, o1) :: (73, tabObj #[]) :: (66, tabObj #[]) :: rwLed rs := ⟨_, rfl⟩
  have h143 : ∀ q ∈ Zr, q.1 ≠ 143 := by
    rw [hZr]
    refine fm (Ne.symm e143.1) (fm (Ne.symm e143.2.1) (fm d3 (fm ?_ (fm ?_ (fm ?_ (fm ?_ (ne_led fun r hr => Ne.symm (e143.2.2 r hr))))))))
    · k_ne
    · k_ne
    · decide
    · decide
  have m2 : (L + 1 + 1, o2) ∈ Zr := by rw [hZr]; k_mem
  refine' Spec.use2 (reader0 w p loose mean mg mb tx wsS _ _ Zr h143 hlex.len) ?B ?F ?X ?N ?T rfl ?d ?u (k5_5 ?_)
  case N =>
    rename News _ _ _ _ => NN
    refine kst_newsOf NN ?_
    rw [hZr]
    refine fm ?_ (fm ?_ (fm ?_ (fm ?_ (fm ?_ (fm ?_ (fm ?_ (fm ?_ fun q hq => ?_)))))))
    iterate 8 (focus (repeat' (first | exact .head _ | apply List.Mem.tail)))
    repeat' (first | exact hq | apply List.Mem.tail)
  case B => k_asm
  case F => k_asm
  case X => k_asm
  case T => k_asm
  case d => ktr_room
  case u => ktr_units
  intro R npb npl tl1 tk1 htc hap hZp hZ2 hrd h5 tk5 F5 N5
  have a1 : @Ne Nat R.pb (L + 1 + 1) := Ne.symm (hZp _ m2).1
  have a3 : @Ne Nat R.dx (L + 1 + 1) := Ne.symm (hZp _ m2).2.1
  have a4 : @Ne Nat R.pl (L + 1 + 1) := Ne.symm (hZp _ m2).2.2
  have a5 : @Ne Nat Wr (L + 1 + 1) := Ne.symm e2.1
  have a6 : @Ne Nat Dr (L + 1 + 1) := Ne.symm e2.2.1
  have a2 := neAll_of (D := L + 1 + 1) (Z := R.ro w.params) (fun q hq => Ne.symm (hZ2 (L + 1 + 1, o2) m2 q hq))
  dsimp only [NeAll, Rdr.ro] at a2
  rw [hZr] at N5
  dsimp only [Rdr.ro, List.cons_append, List.nil_append] at N5

  iterate 2 (focus (first | ((first | ((rename (∀ (f : Flow) (s : Shared), _ → _) => hq); (with_reducible refine Mine.cutQ hq ?_); clear hq; (rename (Flow → Shared → Prop) => qq); clear qq) | (with_reducible refine Mine.cutQ (by with_reducible assumption) ?_)); (try dsimp only)) | ((first | (k_unfold; (try dsimp only)) | (k_end; kc_close) | walk1 | (dsimp only; walk1) | (leave1; (try dsimp only)) | fail "no step"); (try ((with_reducible show wpAny _ _ (exec _ _) (fun _ _ => _) _ _); refine Mine.gen_Q ?_; intro QQ9 hQ9)))))
  rename Fr _ _ _ _ => FE
  rename News _ _ _ _ => NE
  rename Obj => o2'
  obtain ⟨ha1, ha2, ha3, ha4, ha5, ha6, ha7⟩ := id hap
  refine' next _ _ _ tx tt kk4 kk5 R npb npl o2' tl1 tk1 ((143, tabObj #[rawInt 144, rawInt 4, .ref R.c]) :: (R.ro w.params ++ ((Wr, listOf (svs wr).toArray nW) :: (Dr, listOf (rwRefs rs).toArray nD) :: (D, listOf #[Value.int k0 t0, .int k1 t1, .int k2 t2, .int k3 t3, .int k4 t4, .int k5 t5, .int k6 t6, .int k7 t7, .int k8 t8, .int k9 t9] n) :: (L + 1 + 1, o2') :: (L + 1, o1) :: (73, tabObj #[]) :: (66, tabObj #[]) :: rwLed rs)))
    (fr_kst [("limit", .int limit tl), ("step", .int step ts), ("fee", .int fee tf), ("drawn", .ref Dr), ("writings", .ref Wr), ("text", .str tx tt)] FE ?hF) (kst_newsOf NE ?hN) ⟨?b1, ?b2, h1, ?b3, by assumption, ?b4, ?b5, ?b6, ?b7, .head _, ?b8, ?b9, ?b10, hap, htc, hrd⟩ hlex
  case hF =>
    exact fm rfl (fm rfl (fm rfl (fm rfl (fm rfl (fm rfl fm0)))))
  case hN =>
    exact fm (.tail _ (.head _)) (fm (.tail _ (.tail _ (.head _))) (fm (.head _) fun q hq => .tail _ (.tail _ (.tail _ hq))))
  case b1 => exact .tail _ (List.mem_append_right _ (by k_mem))
  case b2 => exact .tail _ (List.mem_append_right _ (by k_mem))
  case b3 => exact .tail _ (List.mem_append_right _ (by k_mem))
  case b4 => exact .tail _ (List.mem_append_right _ (by k_mem))
  case b5 => exact .tail _ (List.mem_append_right _ (by k_mem))
  case b6 => exact fun q hq => .tail _ (List.mem_append_right _ (.tail _ (.tail _ (.tail _ (.tail _ (.tail _ (.tail _ (.tail _ hq))))))))
  case b7 => exact fun q hq => .tail _ (List.mem_append_left _ hq)
  case b8 => exact .tail _ (List.mem_append_right _ (by k_mem))
  case b9 => exact .tail _ (List.mem_append_right _ (by k_mem))
  case b10 =>
    intro q hq
    rcases List.mem_cons.mp hq with rfl | hq
    · exact ⟨Ne.symm ha4, Ne.symm ha5, Ne.symm ha6⟩
    rcases List.mem_append.mp hq with hq | hq
    · exact (show ∀ q ∈ R.ro w.params, @Ne Nat q.1 R.pb ∧ @Ne Nat q.1 R.dx ∧ @Ne Nat q.1 R.pl from fm (ha7 _ (.head _)) (fm (ha7 _ (.tail _ (.head _))) (fm (ha7 _ (.tail _ (.tail _ (.head _)))) (fm (ha7 _ (.tail _ (.tail _ (.tail _ (.head _))))) (fm (ha7 _ (.tail _ (.tail _ (.tail _ (.tail _ (.head _)))))) (fm (ha7 _ (.tail _ (.tail _ (.tail _ (.tail _ (.tail _ (.head _))))))) (fm (ha7 _ (.tail _ (.tail _ (.tail _ (.tail _ (.tail _ (.tail _ (.head _)))))))) (fm (ha7 _ (.tail _ (.tail _ (.tail _ (.tail _ (.tail _ (.tail _ (.tail _ (.head _))))))))) fm0)))))))) q hq
    · have hZp9 := hZp
      rw [hZr] at hZp9
      refine fmem (p := fun q : Addr × Obj => @Ne Nat q.1 R.pb ∧ @Ne Nat q.1 R.dx ∧ @Ne Nat q.1 R.pl) ?_ hq
      exact fm (hZp9 _ (.head _)) (fm (hZp9 _ (.tail _ (.head _))) (fm (hZp9 _ (.tail _ (.tail _ (.head _)))) (fm (hZp9 (L + 1 + 1, o2) (.tail _ (.tail _ (.tail _ (.head _))))) (fm (hZp9 _ (.tail _ (.tail _ (.tail _ (.tail _ (.head _)))))) (fm (hZp9 _ (.tail _ (.tail _ (.tail _ (.tail _ (.tail _ (.head _))))))) (fm (hZp9 _ (.tail _ (.tail _ (.tail _ (.tail _ (.tail _ (.tail _ (.head _)))))))) (fun q hq => hZp9 q (.tail _ (.tail _ (.tail _ (.tail _ (.tail _ (.tail _ (.tail _ (hq)))))))))))))))
end Mine
end
section
open PySem PySem.W PyProof.Rows PyProof.V PySem.Spec PySem.SeqAt
set_option maxRecDepth 100000
namespace Mine
set_option maxHeartbeats 0 in
theorem lawS4 (w : World) (p : Program) (loose : List Str) (mean : ExcName → Option Value) (mg mb : Str → Option Value) (base h₀ : Heap) (L fa : Addr) (cd : Value) (s : Shared) (m₀ : Str → Option Value) (Q : Flow → Shared → Prop) (E : Value → Shared → Prop)
  (B : Below callerA base [] h₀) (X : (hd.heap_1 w.params).In h₀) (T : Top p loose mean mg mb h₀)
  (D : Addr) (n : Nat) (o1 o2 : Obj) (cv : Array Value) (limit step fee : Int) (tl ts tf : Tok)
  (Dr nD Wr nW : Nat) (rs : List Rw) (wr : List (Str × Tok)) (tx : Str) (tt : Tok) (kk4 kk5 : Nat) (R : Rdr) (npb npl : Nat) (tl1 tk1 : Tok) (Z1 : List (Addr × Obj))
  (F : Fr h₀ L s.heap (kstB m₀ [("limit", .int limit tl), ("step", .int step ts), ("fee", .int fee tf), ("drawn", .ref Dr), ("writings", .ref Wr), ("text", .str tx tt)]))
  (N : News h₀ L s.heap ((R.dx, R.dxo w.params wsS (lnAt tx 0) tl1) :: (R.pl, listOf #[.int (0 : Nat) tk1] npl) :: (R.pb, listOf (svs []).toArray npb) :: Z1))
  (hb : LB w p loose mean mg mb L D n cv Wr nW wr Dr nD rs o1 o2 tx R Z1) (hx : LexOk tx (wds wr) kk4 kk5) (hr4 : rs.length = 4) (hw4 : wr.length = 4)
  (next : ∀ (h : Heap) (tk : Nat) (m : Str → Option Value) (To nT : Nat) (told : List (Str × Tok)) (tl1 tk1 : Tok),
    Fr h₀ L h (kstB m [("limit", .int limit tl), ("step", .int step ts), ("fee", .int fee tf), ("drawn", .ref Dr), ("writings", .ref Wr), ("text", .str tx tt), ("told", .ref To)]) →
    News h₀ L h ((To, listOf (svs told).toArray nT) :: (R.dx, R.dxo w.params wsS (lnAt tx kk4) tl1) :: (R.pl, listOf #[.int kk4 tk1] npl) :: (R.pb, listOf (svs []).toArray npb) :: Z1) →
    (∀ q ∈ Z1, q.1 ≠ To) → @Ne Nat R.dx To → @Ne Nat R.pl To → @Ne Nat R.pb To → wds told = wds wr →
    LGo w L fa cd 9 Q E { s with heap := h, toks := tk }) :
  LGo w L fa cd 8 Q E s := by
  unfold LGo
  dsimp only [lawEnv, lawRec, recOf, List.drop]
  revert X
  k_fill
  intro X
  have b1 := hb.c1
  have b1d := hb.c1d
  have b2 := hb.c2
  have b2d := hb.c2d
  have bdr := hb.dr
  have bx : (R.x, instObj 130 R.dx) ∈ Z1 := hb.ro _ (by simp [Rdr.ro])
  obtain ⟨ha1, ha2, ha3, ha4, ha5, ha6, ha7⟩ := id hb.apart
  have hwk : wsS.cps.toList = wsL := wsS_is
  iterate 1 (focus (first | ((first | ((rename (∀ (f : Flow) (s : Shared), _ → _) => hq); (with_reducible refine Mine.cutQ hq ?_); clear hq; (rename (Flow → Shared → Prop) => qq); clear qq) | (with_reducible refine Mine.cutQ (by with_reducible assumption) ?_)); (try dsimp only)) | ((first | (k_unfold; (try dsimp only)) | (k_end; kc_close) | walk1 | (dsimp only; walk1) | (leave1; (try dsimp only)) | fail "no step"); (try ((with_reducible show wpAny _ _ (exec _ _) (fun _ _ => _) _ _); refine Mine.gen_Q ?_; intro QQ9 hQ9)))))
  rename Fr _ _ _ _ => FA2
  rename News _ _ _ _ => NA2
  refine' Assign_ListComp_G FA2 ?hsw ?hL ?hclos ?hcell ?hkind ?hnames ?hx ?hy ?hp ?_ ?hs
  case hsw => with_unfolding_all rfl
  case hL => rfl
  case hclos => with_unfolding_all rfl
  case hcell => decide
  case hkind => with_unfolding_all rfl
  case hnames => decide
  case hx => with_unfolding_all rfl
  case hy => with_unfolding_all rfl
  case hp => with_unfolding_all rfl
  case hs => intro _; with_unfolding_all rfl
  iterate 1 (focus (first | ((first | ((rename (∀ (f : Flow) (s : Shared), _ → _) => hq); (with_reducible refine Mine.cutQ hq ?_); clear hq; (rename (Flow → Shared → Prop) => qq); clear qq) | (with_reducible refine Mine.cutQ (by with_reducible assumption) ?_)); (try dsimp only)) | ((first | (k_unfold; (try dsimp only)) | (k_end; kc_close) | walk1 | (dsimp only; walk1) | (leave1; (try dsimp only)) | fail "no step"); (try ((with_reducible show wpAny _ _ (exec _ _) (fun _ _ => _) _ _); refine Mine.gen_Q ?_; intro QQ9 hQ9)))))
  refine iter_list (by k_asm) (by k_asm) (.tail _ (.tail _ (.tail _ bdr))) ?_
  intro J oJ h6 hJ F6 N6 l6
  have lJ1 : @Ne Nat R.dx J := Nat.ne_of_lt (l6 _ (.head _))
  have lJ2 : @Ne Nat R.pl J := Nat.ne_of_lt (l6 _ (.tail _ (.head _)))
  refine ⟨Obj × List (Str × Tok) × Nat × Tok × Tok, fun c => (R.dx, R.dxo w.params wsS (lnAt tx c.2.2.1) c.2.2.2.1) :: (R.pl, listOf #[.int c.2.2.1 c.2.2.2.2] npl) :: (J, c.1) :: (R.pb, listOf (svs []).toArray npb) :: Z1, fun c items => IsIt Dr c.2.1.length c.1 ∧ items = svs c.2.1 ∧ c.2.1.length ≤ 4 ∧ wds c.2.1 = (wds wr).take c.2.1.length ∧ Chain wsL tx c.2.2.1 ((wds wr).drop c.2.1.length) kk4, fun c => 4 - c.2.1.length, (oJ, [], 0, tl1, tk1), F6, newsDown N6, ⟨hJ, rfl, Nat.zero_le _, rfl, hx.chain⟩, ?_, ?_⟩
  · intro h tk Q E' F N hq
    have z := N _ (.tail _ (.tail _ (.head _)))
    exact wpAny_pyIter_listiter ⟨_, z.1, hJ.1, hJ.2⟩ hq
  rintro D2 C oC nD2 ⟨o, ws, k, tl2, tk2⟩ items2 h tk ⟨hI1, hit2, hi, hws, hch⟩ FF NN hne hDC
  dsimp only at hI1 hit2 hi hws hch FF NN hne ⊢
  refine ⟨by rw [hit2]; simp; omega, ?_⟩
  have hC1 := (hne _ (.head _))
  have hC2 := (hne _ (.tail _ (.head _)))
  have hC3 := (hne _ (.tail _ (.tail _ (.head _))))
  have hC4 : ∀ q ∈ (R.pb, listOf (svs []).toArray npb) :: Z1, q.1 ≠ C ∧ q.1 ≠ D2 := fun q hq => hne q (.tail _ (.tail _ (.tail _ hq)))
  dsimp only at hC1 hC2 hC3
  have hneJ : ∀ (x y : Obj), ∀ q ∈ (C, oC) :: (D2, listOf items2.toArray nD2) :: (R.dx, x) :: (R.pl, y) :: (R.pb, listOf (svs []).toArray npb) :: Z1, q.1 ≠ J := by
    intro x y q hq
    rcases List.mem_cons.mp hq with rfl | hq
    · exact Ne.symm hC3.1
    rcases List.mem_cons.mp hq with rfl | hq
    · exact Ne.symm hC3.2
    rcases List.mem_cons.mp hq with rfl | hq
    · exact lJ1
    rcases List.mem_cons.mp hq with rfl | hq
    · exact lJ2
    exact Nat.ne_of_lt (l6 q (.tail _ (.tail _ hq)))
  rcases Nat.lt_or_ge ws.length 4 with hlt | hge
  · have hlr : ws.length < rs.length := by omega
    have hlw : ws.length < (wds wr).length := by simp; omega
    rw [List.drop_eq_getElem_cons hlw] at hch
    obtain ⟨k1, hlx, hk1, hch2⟩ := hch.inv
    refine next_list (v := .ref rs[ws.length].a) FF (newsUp4 NN) hI1 (hneJ _ _) (.tail _ (.tail _ (.tail _ (.tail _ (.tail _ bdr))))) (by simp [rwRefs, hlr]) ?_
    intro h2 o2' hI2 F2 N2
    refine ⟨(R.dx, R.dxo w.params wsS (lnAt tx k) tl2) :: (R.pl, listOf #[.int k tk2] npl) :: (J, o2') :: (R.pb, listOf (svs []).toArray npb) :: Z1, h2, _, rfl, F2, newsDown4 N2, fun q hq => ?_, ?_⟩
    · rcases List.mem_cons.mp hq with rfl | hq
      · exact hC1
      rcases List.mem_cons.mp hq with rfl | hq
      · exact hC2
      rcases List.mem_cons.mp hq with rfl | hq
      · exact hC3
      · exact hC4 q hq
    intro oC2 mC h3 tk3 hO hmx hNs FF3 NN3
    refine wpAny_tests_nil ?_
    rw [if_pos rfl]
    clear N2 F2 FF NN N6 F6 FA2 NA2 hne
    iterate 5 (focus (first | ((first | ((rename (∀ (f : Flow) (s : Shared), _ → _) => hq); (with_reducible refine Mine.cutQ hq ?_); clear hq; (rename (Flow → Shared → Prop) => qq); clear qq) | (with_reducible refine Mine.cutQ (by with_reducible assumption) ?_)); (try dsimp only)) | ((first | (k_unfold; (try dsimp only)) | (k_end; kc_close) | walk1 | (dsimp only; walk1) | (leave1; (try dsimp only)) | fail "no step"); (try ((with_reducible show wpAny _ _ (exec _ _) (fun _ _ => _) _ _); refine Mine.gen_Q ?_; intro QQ9 hQ9)))))
    refine' Spec.use2 (getTok w p loose mean mg mb tx R hb.rd wsS tl2 tk2 k npl npb ((C, oC2) :: (D2, listOf items2.toArray nD2) :: (J, o2') :: (R.pb, listOf (svs []).toArray npb) :: Z1) ?g1 ?g2 _ k1 ?g3 hk1 hx.len) ?B ?F ?X ?N ?T rfl ?d ?u (k3_0 ?_)
    case g1 =>
      refine hb.inn (fun q hq => .tail _ (.tail _ (.tail _ (.tail _ hq)))) fun q hq => ?_
      rcases List.mem_cons.mp hq with rfl | hq
      · exact .inr ⟨Ne.symm hC1.1, Ne.symm hC2.1⟩
      rcases List.mem_cons.mp hq with rfl | hq
      · exact .inr ⟨Ne.symm hC1.2, Ne.symm hC2.2⟩
      rcases List.mem_cons.mp hq with rfl | hq
      · exact .inr ⟨Ne.symm lJ1, Ne.symm lJ2⟩
      rcases List.mem_cons.mp hq with rfl | hq
      · exact .inr ⟨ha1, ha2⟩
      · exact .inl hq
    case g2 => exact .tail _ (.tail _ (.tail _ (.head _)))
    case g3 => rw [hwk]; exact hlx
    case N => exact newsRot NN3
    case B => k_asm
    case F => k_asm
    case X => k_asm
    case T => k_asm
    case d => ktr_room
    case u => ktr_units
    intro t4 tl4 tk5 h4 tk4 F4 N4
    have hws1 : (ws ++ [((wds wr)[ws.length], t4)]).length = ws.length + 1 := by simp
    refine cEnd (o2', ws ++ [((wds wr)[ws.length], t4)], k1, tl4, tk5) F4 (newsRot N4) ?_ ⟨?_, ?_, ?_, ?_, ?_⟩ ?_
    · intro q hq
      rcases List.mem_cons.mp hq with rfl | hq
      · exact hC1
      rcases List.mem_cons.mp hq with rfl | hq
      · exact hC2
      rcases List.mem_cons.mp hq with rfl | hq
      · exact hC3
      · exact hC4 q hq
    · dsimp only
      rw [hws1]
      exact hI2
    · dsimp only
      rw [hit2]
      simp [svs]
    · dsimp only
      rw [hws1]
      exact hlt
    · dsimp only
      rw [hws1, List.take_succ_eq_append_getElem hlw, ← hws]
      simp [wds]
    · dsimp only
      rw [hws1]
      exact hch2
    · dsimp only
      rw [hws1]
      omega
  · have hw8 : (wds wr).length = 4 := by simp [hw4]
    refine next_list_end rfl FF (newsUp4 NN) hI1 (hneJ _ _) (.tail _ (.tail _ (.tail _ (.tail _ (.tail _ bdr))))) (by simp [rwRefs]; omega) ?_
    intro h2 F2 N2
    refine ⟨(R.dx, R.dxo w.params wsS (lnAt tx k) tl2) :: (R.pl, listOf #[.int k tk2] npl) :: (R.pb, listOf (svs []).toArray npb) :: Z1, h2, _, rfl, F2, N2, fun q hq => ?_, ?_⟩
    · rcases List.mem_cons.mp hq with rfl | hq
      · exact hC1
      rcases List.mem_cons.mp hq with rfl | hq
      · exact hC2
      · exact hC4 q hq
    intro h7 tk7 F7 N7
    have hi : ws.length = 4 := by omega
    rw [hi, List.drop_of_length_le (by omega)] at hch
    rw [hi, List.take_of_length_le (by omega)] at hws
    have hk := hch.inv_nil
    subst hk
    rw [hit2] at N7
    iterate 1 (focus (first | ((first | ((rename (∀ (f : Flow) (s : Shared), _ → _) => hq); (with_reducible refine Mine.cutQ hq ?_); clear hq; (rename (Flow → Shared → Prop) => qq); clear qq) | (with_reducible refine Mine.cutQ (by with_reducible assumption) ?_)); (try dsimp only)) | ((first | (k_unfold; (try dsimp only)) | (k_end; kc_close) | walk1 | (dsimp only; walk1) | (leave1; (try dsimp only)) | fail "no step"); (try ((with_reducible show wpAny _ _ (exec _ _) (fun _ _ => _) _ _); refine Mine.gen_Q ?_; intro QQ9 hQ9)))))
    refine next h7 tk7 _ D2 nD2 ws tl2 tk2 (fr_kst [("limit", .int limit tl), ("step", .int step ts), ("fee", .int fee tf), ("drawn", .ref Dr), ("writings", .ref Wr), ("text", .str tx tt), ("told", .ref D2)] F7 ?_) N7 (fun q hq => (hC4 q (.tail _ hq)).2) hC1.2 hC2.2 (hC4 _ (.head _)).2 hws
    exact fm rfl (fm rfl (fm rfl (fm rfl (fm rfl (fm rfl (fm rfl fm0))))))
end Mine
end
section
open PySem PySem.W PyProof.Rows PyProof.V PySem.Spec PySem.SeqAt
set_option maxRecDepth 100000
namespace Mine
structure Gd (k : Nat) (d : PyData) : Prop where
  mix : noMix d d = true
  lay : PyData.canLay0 d = true
  dep : PyData.depth d ≤ k
theorem gd_int (i : Int) : Gd 0 (.int i) := ⟨by simp [noMix], by simp [PyData.canLay0], by simp [PyData.depth]⟩
theorem gd_str {x : Str} (h : PyData.strOk x = true) : Gd 0 (.str x) := ⟨by simp [noMix], by simp [PyData.canLay0, h], by simp [PyData.depth]⟩
theorem gd_all {k : Nat} : ∀ {xs : List PyData}, (∀ x ∈ xs, Gd k x) → noMixAll xs xs = true ∧ PyData.canLayAll0 xs = true ∧ PyData.depthAll xs ≤ k
  | [], _ => ⟨by simp [noMixAll], by simp [PyData.canLayAll0], by simp [PyData.depthAll]⟩
  | x :: r, h => by
    have h1 := gd_all (xs := r) fun y hy => h y (.tail _ hy)
    have h2 := h x (.head _)
    refine ⟨?_, ?_, ?_⟩
    · simp [noMixAll, h1.1, h2.mix]
    · simp [PyData.canLayAll0, h1.2.1, h2.lay]
    · simp only [PyData.depthAll]
      have := h1.2.2
      have := h2.dep
      omega
theorem gd_list {k : Nat} {xs : List PyData} (h : ∀ x ∈ xs, Gd k x) : Gd (k + 1) (.list xs) := by
  have h1 := gd_all h
  refine ⟨by simp only [noMix]; exact h1.1, by simp only [PyData.canLay0]; exact h1.2.1, ?_⟩
  simp only [PyData.depth]
  have := h1.2.2
  omega
theorem Gd.mono {k l : Nat} {d : PyData} (h : Gd k d) (hl : k ≤ l) : Gd l d := ⟨h.mix, h.lay, Nat.le_trans h.dep hl⟩
theorem Gd.shaped {k : Nat} {d : PyData} (h : Gd k d) (hk : k ≤ 64) : shaped d = true := by
  show (PyData.canLay0 d && decide (PyData.depth d ≤ 64)) = true
  rw [Bool.and_eq_true]
  exact ⟨h.lay, decide_eq_true (Nat.le_trans h.dep hk)⟩
section
variable {prog : Program} {w : World} {A : Around} {E : Value → Shared → Prop} {s : Shared} {a b : Value} {d : PyData} {as bs : List Addr} {Q : Value → Shared → Prop}
theorem ne_self {k : Nat} (g : Gd k d) (hk : k ≤ 64) (ra : Reads s.heap a d as) (rb : Reads s.heap b d bs) (hu : A.units + 64 < cLine) (h : Q (.bool false) s) : wpAny (model prog w) A (compareOp .NotEq a b) Q E s := by
  refine PyProof.Rows.ne_dataH_same ra rb (g.shaped hk) (g.shaped hk) hu g.mix ?_
  rw [same_refl]
  exact h
theorem eq_self {k : Nat} (g : Gd k d) (hk : k ≤ 64) (ra : Reads s.heap a d as) (rb : Reads s.heap b d bs) (hu : A.units + 64 < cLine) (h : Q (.bool true) s) : wpAny (model prog w) A (compareOp .Eq a b) Q E s := by
  refine PyProof.Rows.eq_dataH_same ra rb (g.shaped hk) (g.shaped hk) hu g.mix ?_
  rw [same_refl]
  exact h
end
def strsD (ws : List Str) : PyData := .list (ws.map .str)
theorem gd_strs {ws : List Str} (h : ∀ w ∈ ws, PyData.strOk w = true) : Gd 1 (strsD ws) := gd_list (k := 0) fun x hx => by
  obtain ⟨w, hw, rfl⟩ := List.mem_map.mp hx
  exact gd_str (h w hw)
theorem readsAll_rows {h : Heap} : ∀ {rs : List Rw}, (∀ q ∈ rwLed rs, h.get? q.1 = some q.2) → ReadsAll h (rwRefs rs) ((rwW rs).map strsD) (rs.map (·.a))
  | [], _ => .nil
  | r :: rs, hr => by
    have h1 : Reads h (.ref r.a) (strsD (wds r.ws)) [r.a] := reads_svs (hr _ (.head _))
    exact .cons h1 (readsAll_rows fun q hq => hr q (.tail _ hq))
theorem reads_rows {h : Heap} {a n : Nat} {rs : List Rw} (ha : h.get? a = some (listOf (rwRefs rs).toArray n)) (hr : ∀ q ∈ rwLed rs, h.get? q.1 = some q.2) : Reads h (.ref a) (.list ((rwW rs).map strsD)) (a :: rs.map (·.a)) :=
  Reads.list ha rfl rfl (by simpa using readsAll_rows hr)
def tkD (p : Str × Int) : PyData := .list [.str p.1, .int p.2]
theorem readsAll_tks {h : Heap} : ∀ {zs : List Tk}, (∀ q ∈ tkLed zs, h.get? q.1 = some q.2) → ReadsAll h (tkRefs zs) ((tkDat zs).map tkD) (zs.map (·.a))
  | [], _ => .nil
  | z :: zs, hr => by
    have h1 : Reads h (.ref z.a) (tkD (z.w, z.x)) [z.a] := Reads.list (hr _ (.head _)) rfl rfl (.cons (.str _ _) (.cons (.int _ _) .nil))
    exact .cons h1 (readsAll_tks fun q hq => hr q (.tail _ hq))
theorem reads_tks {h : Heap} {a n : Nat} {zs : List Tk} (ha : h.get? a = some (listOf (tkRefs zs).toArray n)) (hr : ∀ q ∈ tkLed zs, h.get? q.1 = some q.2) : Reads h (.ref a) (.list ((tkDat zs).map tkD)) (a :: zs.map (·.a)) :=
  Reads.list ha rfl rfl (by simpa using readsAll_tks hr)
theorem strOk_ascii {x : Str} (h : x.cps.all (· < 128) = true) : PyData.strOk x = true := by
  show x.cps.all (· < 0x110000) = true
  rw [← Array.all_toList, List.all_eq_true] at h ⊢
  intro c hc
  have := of_decide_eq_true (h c hc)
  exact decide_eq_true (by omega)
theorem row_strOk {r : List Str} (h : RowOk r) : ∀ v ∈ r, PyData.strOk v = true := fun v hv => name_ok (h.2.2 v hv)
theorem tx_strOk {r : List Str} (h : RowOk r) : PyData.strOk (txOf r) = true := strOk_ascii (join_ascii h.2.2)
end Mine
end
section
open PySem PySem.W PyProof.Rows PyProof.V PySem.Spec PySem.SeqAt
set_option maxRecDepth 100000
namespace Mine
set_option maxHeartbeats 0 in
theorem lawS5 (w : World) (p : Program) (loose : List Str) (mean : ExcName → Option Value) (mg mb : Str → Option Value) (base h₀ : Heap) (L fa : Addr) (cd : Value) (s : Shared) (m₀ : Str → Option Value) (Q : Flow → Shared → Prop) (E : Value → Shared → Prop)
  (B : Below callerA base [] h₀) (X : (hd.heap_1 w.params).In h₀) (T : Top p loose mean mg mb h₀)
  (limit step fee : Int) (tl ts tf : Tok)
  (Dr nD Wr nW To nT : Nat) (rs : List Rw) (wr told : List (Str × Tok)) (tx : Str) (tt : Tok) (c₀ : Addr) (oc₀ : Obj) (Y : List (Addr × Obj))
  (F : Fr h₀ L s.heap (kstB m₀ [("limit", .int limit tl), ("step", .int step ts), ("fee", .int fee tf), ("drawn", .ref Dr), ("writings", .ref Wr), ("text", .str tx tt), ("told", .ref To)]))
  (N : News h₀ L s.heap Y)
  (hto : (To, listOf (svs told).toArray nT) ∈ Y) (hwr : (Wr, listOf (svs wr).toArray nW) ∈ Y) (hdr : (Dr, listOf (rwRefs rs).toArray nD) ∈ Y) (hrs : ∀ q ∈ rwLed rs, q ∈ Y)
  (htab : (143, tabObj #[rawInt 144, rawInt 4, .ref c₀]) ∈ Y) (hc₀ : (c₀, oc₀) ∈ Y) (hoc : TabC oc₀)
  (hr4 : rs.length = 4) (hrk : ∀ r ∈ rs, RowOk (wds r.ws)) (hw : wds wr = (rwW rs).map txOf) (ht : wds told = wds wr)
  (next : ∀ (h : Heap) (tk : Nat) (m : Str → Option Value) (Rr nR : Nat) (rr : List Rw),
    Fr h₀ L h (kstB m [("limit", .int limit tl), ("step", .int step ts), ("fee", .int fee tf), ("text", .str tx tt), ("told", .ref To), ("read_rows", .ref Rr)]) →
    News h₀ L h ((Rr, listOf (rwRefs rr).toArray nR) :: (Y ++ rwLed rr)) →
    (∀ q ∈ Y, q.1 ≠ Rr ∧ ∀ r ∈ rr, q.1 ≠ r.a) → rwW rr = rwW rs →
    LGo w L fa cd 11 Q E { s with heap := h, toks := tk }) :
  LGo w L fa cd 9 Q E s := by
  unfold LGo
  dsimp only [lawEnv, lawRec, recOf, List.drop]
  revert X
  k_fill
  intro X
  have ht4 : told.length = 4 := by
    have e := congrArg List.length (ht.trans hw)
    simpa [hr4] using e
  have hti : ∀ i (h1 : i < told.length) (h2 : i < rs.length), told[i].1 = txOf (wds rs[i].ws) := by
    intro i h1 h2
    have e : (wds told)[i]? = (rs.map fun r => txOf (wds r.ws))[i]? := by rw [ht, hw, rwW, List.map_map]; rfl
    simpa [wds, h1, h2] using e
  iterate 1 (focus (first | ((first | ((rename (∀ (f : Flow) (s : Shared), _ → _) => hq); (with_reducible refine Mine.cutQ hq ?_); clear hq; (rename (Flow → Shared → Prop) => qq); clear qq) | (with_reducible refine Mine.cutQ (by with_reducible assumption) ?_)); (try dsimp only)) | ((first | (k_unfold; (try dsimp only)) | (k_end; kc_close) | walk1 | (dsimp only; walk1) | (leave1; (try dsimp only)) | fail "no step"); (try ((with_reducible show wpAny _ _ (exec _ _) (fun _ _ => _) _ _); refine Mine.gen_Q ?_; intro QQ9 hQ9)))))
  rename Fr _ _ _ _ => FA2
  rename News _ _ _ _ => NA2
  refine' Assign_ListComp_G FA2 ?hsw ?hL ?hclos ?hcell ?hkind ?hnames ?hx ?hy ?hp ?_ ?hs
  case hsw => with_unfolding_all rfl
  case hL => rfl
  case hclos => with_unfolding_all rfl
  case hcell => decide
  case hkind => with_unfolding_all rfl
  case hnames => decide
  case hx => with_unfolding_all rfl
  case hy => with_unfolding_all rfl
  case hp => with_unfolding_all rfl
  case hs => intro _; with_unfolding_all rfl
  iterate 1 (focus (first | ((first | ((rename (∀ (f : Flow) (s : Shared), _ → _) => hq); (with_reducible refine Mine.cutQ hq ?_); clear hq; (rename (Flow → Shared → Prop) => qq); clear qq) | (with_reducible refine Mine.cutQ (by with_reducible assumption) ?_)); (try dsimp only)) | ((first | (k_unfold; (try dsimp only)) | (k_end; kc_close) | walk1 | (dsimp only; walk1) | (leave1; (try dsimp only)) | fail "no step"); (try ((with_reducible show wpAny _ _ (exec _ _) (fun _ _ => _) _ _); refine Mine.gen_Q ?_; intro QQ9 hQ9)))))
  refine iter_list (by k_asm) (by k_asm) hto ?_
  intro J oJ h6 hJ F6 N6 l6
  refine ⟨Obj × List Rw, fun c => (J, c.1) :: (Y ++ rwLed c.2), fun c items => IsIt To c.2.length c.1 ∧ items = rwRefs c.2 ∧ c.2.length ≤ 4 ∧ rwW c.2 = (rwW rs).take c.2.length ∧ (∀ r ∈ c.2, @Ne Nat r.a J) ∧ ∀ q ∈ Y, ∀ r ∈ c.2, q.1 ≠ r.a, fun c => 4 - c.2.length, (oJ, []), F6, (by simpa using N6), ⟨hJ, rfl, Nat.zero_le _, rfl, (fun r hr => nomatch hr), (fun q _ r hr => nomatch hr)⟩, ?_, ?_⟩
  · intro h tk Q E' F N hq
    have z := N _ (.head _)
    exact wpAny_pyIter_listiter ⟨_, z.1, hJ.1, hJ.2⟩ hq
  rintro D2 C oC nD2 ⟨o, rr⟩ items2 h tk ⟨hI1, hit2, hi, hws, hrJ, hYr⟩ FF NN hne hDC
  dsimp only at hI1 hit2 hi hws hrJ hYr FF NN hne ⊢
  refine ⟨by rw [hit2]; simp; omega, ?_⟩
  have hJ1 := hne _ (.head _)
  dsimp only at hJ1
  have hne2 : ∀ q ∈ Y ++ rwLed rr, q.1 ≠ C ∧ q.1 ≠ D2 := fun q hq => hne q (.tail _ hq)
  have hneJ : ∀ q ∈ (C, oC) :: (D2, listOf items2.toArray nD2) :: (Y ++ rwLed rr), q.1 ≠ J := by
    intro q hq
    rcases List.mem_cons.mp hq with rfl | hq
    · exact Ne.symm hJ1.1
    rcases List.mem_cons.mp hq with rfl | hq
    · exact Ne.symm hJ1.2
    rcases List.mem_append.mp hq with hq | hq
    · exact Nat.ne_of_lt (l6 q hq)
    · exact ne_led hrJ q hq
  rcases Nat.lt_or_ge rr.length 4 with hlt | hge
  · have hlt4 : rr.length < told.length := by omega
    have hlr : rr.length < rs.length := by omega
    have hro := hrk _ (List.getElem_mem hlr)
    refine next_list (v := sv told[rr.length]) FF (newsUp NN) hI1 hneJ (.tail _ (.tail _ (List.mem_append_left _ hto))) (by simp [svs, hlt4]) ?_
    intro h2 o2' hI2 F2 N2
    refine ⟨(J, o2') :: (Y ++ rwLed rr), h2, _, rfl, F2, newsDown N2, fun q hq => ?_, ?_⟩
    · rcases List.mem_cons.mp hq with rfl | hq
      · exact hJ1
      · exact hne2 q hq
    intro oC2 mC h3 tk3 hO hmx hNs FF3 NN3
    refine wpAny_tests_nil ?_
    rw [if_pos rfl]
    clear N2 F2 FF NN N6 F6 FA2 NA2
    iterate 8 (focus (first | ((first | ((rename (∀ (f : Flow) (s : Shared), _ → _) => hq); (with_reducible refine Mine.cutQ hq ?_); clear hq; (rename (Flow → Shared → Prop) => qq); clear qq) | (with_reducible refine Mine.cutQ (by with_reducible assumption) ?_)); (try dsimp only)) | ((first | (k_unfold; (try dsimp only)) | (k_end; kc_close) | walk1 | (dsimp only; walk1) | (leave1; (try dsimp only)) | fail "no step"); (try ((with_reducible show wpAny _ _ (exec _ _) (fun _ _ => _) _ _); refine Mine.gen_Q ?_; intro QQ9 hQ9)))))
    have htl := hti rr.length hlt4 hlr
    refine' Spec.use2 (words w p loose mean mg mb told[rr.length].1 _ _ ?g1 c₀ oc₀ ?g2 ?g3 hoc (wds rs[rr.length].ws) ?g4 ?g5) ?B ?F ?X ?N ?T rfl ?d ?u (k3_2 ?_)
    case N => exact NN3
    case g1 => rw [htl]; exact Nat.le_trans (join_len hro.2.1 hro.2.2) (by omega)
    case g2 => exact .tail _ (.tail _ (.tail _ (List.mem_append_left _ htab)))
    case g3 => exact .tail _ (.tail _ (.tail _ (List.mem_append_left _ hc₀)))
    case g4 => exact Nat.le_trans hro.2.1 (by omega)
    case g5 =>
      rw [htl]
      refine toks_row ?_ hro.2.1 hro.2.2
      intro e
      have := hro.1
      rw [e] at this
      simp at this
    case B => k_asm
    case F => k_asm
    case X => k_asm
    case T => k_asm
    case d => ktr_room
    case u => ktr_units
    intro Dw nw wsw hDw hww h4 tk4 F4 N4
    refine cEnd (o2', rr ++ [⟨Dw, nw, wsw⟩]) F4 (by dsimp only; rw [rwLed_snoc]; exact news_app N4) ?_ ⟨?_, ?_, ?_, ?_, ?_, ?_⟩ ?_
    · intro q hq
      dsimp only at hq
      rw [rwLed_snoc] at hq
      rcases List.mem_cons.mp hq with rfl | hq
      · exact hJ1
      rcases List.mem_append.mp hq with hq | hq
      · exact hne2 q (List.mem_append_left _ hq)
      rcases List.mem_append.mp hq with hq | hq
      · exact hne2 q (List.mem_append_right _ hq)
      · rw [List.mem_singleton] at hq
        subst hq
        exact ⟨Ne.symm (hDw _ (.head _)), Ne.symm (hDw _ (.tail _ (.head _)))⟩
    · dsimp only
      rw [List.length_append]
      exact hI2
    · dsimp only
      rw [rwRefs_snoc, hit2]
    · dsimp only
      rw [List.length_append]
      exact hlt
    · dsimp only
      rw [rwW_snoc, hws, hww, List.length_append, show [(⟨Dw, nw, wsw⟩ : Rw)].length = 1 from rfl]
      exact (take_map_succ (fun r : Rw => wds r.ws) hlr).symm
    · intro r hr
      rcases List.mem_append.mp hr with hr | hr
      · exact hrJ r hr
      · rw [List.mem_singleton] at hr
        subst hr
        exact Ne.symm (hDw _ (.tail _ (.tail _ (.head _))))
    · intro q hq r hr
      rcases List.mem_append.mp hr with hr | hr
      · exact hYr q hq r hr
      · rw [List.mem_singleton] at hr
        subst hr
        exact hDw q (.tail _ (.tail _ (.tail _ (List.mem_append_left _ hq))))
    · dsimp only
      rw [List.length_append]
      simp
      omega
  · refine next_list_end rfl FF (newsUp NN) hI1 hneJ (.tail _ (.tail _ (List.mem_append_left _ hto))) (by simp [svs]; omega) ?_
    intro h2 F2 N2
    refine ⟨Y ++ rwLed rr, h2, _, rfl, F2, N2, hne2, ?_⟩
    intro h7 tk7 F7 N7
    have hi : rr.length = 4 := by omega
    rw [hi, List.take_of_length_le (by simp [hr4])] at hws
    rw [hit2] at N7
    clear N2 F2 FF NN N6 F6 FA2 NA2
    have hto' := List.mem_append_left (rwLed rr) hto
    have hwr' := List.mem_append_left (rwLed rr) hwr
    have hdr' := List.mem_append_left (rwLed rr) hdr
    iterate 7 (focus (first | ((first | ((rename (∀ (f : Flow) (s : Shared), _ → _) => hq); (with_reducible refine Mine.cutQ hq ?_); clear hq; (rename (Flow → Shared → Prop) => qq); clear qq) | (with_reducible refine Mine.cutQ (by with_reducible assumption) ?_)); (try dsimp only)) | ((first | (k_unfold; (try dsimp only)) | (k_end; kc_close) | walk1 | (dsimp only; walk1) | (leave1; (try dsimp only)) | fail "no step"); (try ((with_reducible show wpAny _ _ (exec _ _) (fun _ _ => _) _ _); refine Mine.gen_Q ?_; intro QQ9 hQ9)))))
    refine ne_self (k := 1) (d := strsD (wds told)) (gd_strs ?_) (by decide) (reads_svs (N7 _ (.tail _ hto')).1) (by rw [ht]; exact reads_svs (N7 _ (.tail _ hwr')).1) (by ktr_units) ?_
    · rw [ht, hw]
      intro v hv
      obtain ⟨r, hr, rfl⟩ := List.mem_map.mp hv
      obtain ⟨r', hr', rfl⟩ := List.mem_map.mp hr
      exact tx_strOk (hrk r' hr')
    iterate 6 (focus (first | ((first | ((rename (∀ (f : Flow) (s : Shared), _ → _) => hq); (with_reducible refine Mine.cutQ hq ?_); clear hq; (rename (Flow → Shared → Prop) => qq); clear qq) | (with_reducible refine Mine.cutQ (by with_reducible assumption) ?_)); (try dsimp only)) | ((first | (k_unfold; (try dsimp only)) | (k_end; kc_close) | walk1 | (dsimp only; walk1) | (leave1; (try dsimp only)) | fail "no step"); (try ((with_reducible show wpAny _ _ (exec _ _) (fun _ _ => _) _ _); refine Mine.gen_Q ?_; intro QQ9 hQ9)))))
    refine ne_self (k := 2) (d := .list ((rwW rs).map strsD)) (gd_list (k := 1) ?_) (by decide) (by rw [← hws]; exact reads_rows (N7 _ (.head _)).1 (fun q hq => (N7 _ (.tail _ (List.mem_append_right _ hq))).1)) (reads_rows (N7 _ (.tail _ hdr')).1 (fun q hq => (N7 _ (.tail _ (List.mem_append_left _ (hrs q hq)))).1)) (by ktr_units) ?_
    · intro x hx
      obtain ⟨r, hr, rfl⟩ := List.mem_map.mp hx
      obtain ⟨r', hr', rfl⟩ := List.mem_map.mp hr
      exact gd_strs (row_strOk (hrk r' hr'))
    iterate 4 (focus (first | ((first | ((rename (∀ (f : Flow) (s : Shared), _ → _) => hq); (with_reducible refine Mine.cutQ hq ?_); clear hq; (rename (Flow → Shared → Prop) => qq); clear qq) | (with_reducible refine Mine.cutQ (by with_reducible assumption) ?_)); (try dsimp only)) | ((first | (k_unfold; (try dsimp only)) | (k_end; kc_close) | walk1 | (dsimp only; walk1) | (leave1; (try dsimp only)) | fail "no step"); (try ((with_reducible show wpAny _ _ (exec _ _) (fun _ _ => _) _ _); refine Mine.gen_Q ?_; intro QQ9 hQ9)))))
    iterate 2 (focus (first | ((first | ((rename (∀ (f : Flow) (s : Shared), _ → _) => hq); (with_reducible refine Mine.cutQ hq ?_); clear hq; (rename (Flow → Shared → Prop) => qq); clear qq) | (with_reducible refine Mine.cutQ (by with_reducible assumption) ?_)); (try dsimp only)) | ((first | (k_unfold; (try dsimp only)) | (k_end; kc_close) | walk1 | (dsimp only; walk1) | (leave1; (try dsimp only)) | fail "no step"); (try ((with_reducible show wpAny _ _ (exec _ _) (fun _ _ => _) _ _); refine Mine.gen_Q ?_; intro QQ9 hQ9)))))
    refine next _ _ _ D2 nD2 rr (fr_kst [("limit", .int limit tl), ("step", .int step ts), ("fee", .int fee tf), ("text", .str tx tt), ("told", .ref To), ("read_rows", .ref D2)] (by assumption) ?_) N7 (fun q hq => ⟨(hne2 q (List.mem_append_left _ hq)).2, fun r hr => hYr q hq r hr⟩) hws
    exact fm rfl (fm rfl (fm rfl (fm rfl (fm rfl (fm rfl fm0)))))
end Mine
end
section
open PySem PySem.W PyProof.Rows PyProof.V PySem.Spec PySem.SeqAt
set_option maxRecDepth 100000
namespace Mine
set_option maxHeartbeats 0 in
theorem lawS6 (w : World) (p : Program) (loose : List Str) (mean : ExcName → Option Value) (mg mb : Str → Option Value) (base h₀ : Heap) (L fa : Addr) (cd : Value) (s : Shared) (m₀ : Str → Option Value) (Q : Flow → Shared → Prop) (E : Value → Shared → Prop)
  (B : Below callerA base [] h₀) (X : (hd.heap_1 w.params).In h₀) (T : Top p loose mean mg mb h₀)
  (limit step fee : Int) (tl ts tf : Tok) (D : Addr) (n : Nat) (o1 : Obj) (k0 k1 k2 k3 k4 k5 k6 k7 k8 k9 : Int) (t0 t1 t2 t3 t4 t5 t6 t7 t8 t9 : Tok)
  (To nT Rr nR : Nat) (v0 v1 v2 v3 : Str × Tok) (r0 r1 r2 r3 : Rw) (tx : Str) (tt : Tok) (Y : List (Addr × Obj))
  (F : Fr h₀ L s.heap (kstB m₀ [("limit", .int limit tl), ("step", .int step ts), ("fee", .int fee tf), ("text", .str tx tt), ("told", .ref To), ("read_rows", .ref Rr)]))
  (N : News h₀ L s.heap Y)
  (hto : (To, listOf #[Value.str v0.1 v0.2, .str v1.1 v1.2, .str v2.1 v2.2, .str v3.1 v3.2] nT) ∈ Y) (hrr : (Rr, listOf #[Value.ref r0.a, .ref r1.a, .ref r2.a, .ref r3.a] nR) ∈ Y) (hr3 : (r3.a, listOf (svs r3.ws).toArray r3.n) ∈ Y)
  (hce : (L + 1, o1) ∈ Y) (hcd : o1.data = .cell (some (.ref D))) (hcl : (D, listOf #[Value.int k0 t0, .int k1 t1, .int k2 t2, .int k3 t3, .int k4 t4, .int k5 t5, .int k6 t6, .int k7 t7, .int k8 t8, .int k9 t9] n) ∈ Y)
  (h1 : -10 ^ 32 ≤ limit ∧ limit ≤ 10 ^ 32) (h2 : 1 ≤ step ∧ step ≤ 10 ^ 33) (h3 : 0 ≤ fee ∧ fee ≤ 10 ^ 32) (h5 : -10 ^ 32 ≤ k3 ∧ k3 ≤ 10 ^ 32) (h4 : -10 ^ 32 ≤ k9 ∧ k9 ≤ 10 ^ 32) (hro : RowOk (wds r3.ws)) (hv3 : v3.1 = txOf (wds r3.ws))
  (next : ∀ (h : Heap) (tk : Nat) (m : Str → Option Value) (dT dR : Nat) (oT oR : Obj) (ux un ub ug um : Tok),
    Fr h₀ L h (kstB m [("limit", .int limit tl), ("step", .int step ts), ("fee", .int fee tf), ("text", .str tx tt), ("texts", .ref dT), ("rows", .ref dR), ("first", .ref r3.a), ("more", .int (((r3.ws.length : Int) - 1) * fee) um),
      ("x", .int (limit + step - k3.fmod (5 * step) + ((r3.ws.length : Int) - 1) * fee) ux), ("name", .str (nmOf (k9.fmod 4)) un), ("bits", .int ((if k9 < 0 then -k9 else k9).fdiv 4) ub), ("begun", .str (nmOf (k9.fmod 4) ++ Str.ofString "." ++ v3.1) ug)]) →
    News h₀ L h ((dR, oR) :: (dT, oT) :: Y) → (∀ q ∈ Y, q.1 ≠ dT ∧ q.1 ≠ dR) →
    oT.IsDictOf (strKind PySem.Challenge.rw_xg0056_01.row.prog w) [(Str.ofString "7", .str v0.1 v0.2), (Str.ofString "70", .str v1.1 v1.2), (Str.ofString "17", .str v2.1 v2.2)] →
    oR.IsDictOf (strKind PySem.Challenge.rw_xg0056_01.row.prog w) [(Str.ofString "7", .ref r0.a), (Str.ofString "70", .ref r1.a), (Str.ofString "17", .ref r2.a)] →
    LGo w L fa cd 19 Q E { s with heap := h, toks := tk }) :
  LGo w L fa cd 11 Q E s := by
  unfold LGo
  dsimp only [lawEnv, lawRec, recOf, List.drop]
  revert X
  k_fill
  intro X
  iterate 8 (focus (first | ((first | ((rename (∀ (f : Flow) (s : Shared), _ → _) => hq); (with_reducible refine Mine.cutQ hq ?_); clear hq; (rename (Flow → Shared → Prop) => qq); clear qq) | (with_reducible refine Mine.cutQ (by with_reducible assumption) ?_)); (try dsimp only)) | ((first | (k_unfold; (try dsimp only)) | (k_end; kc_close) | walk1 | (dsimp only; walk1) | (leave1; (try dsimp only)) | fail "no step"); (try ((with_reducible show wpAny _ _ (exec _ _) (fun _ _ => _) _ _); refine Mine.gen_Q ?_; intro QQ9 hQ9)))))
  have lT := And.intro (show ∀ p ∈ Y, p.1 < _ by assumption) trivial
  dsimp only
  refine item_litK (News.isList (by k_asm) (by k_mem)) (by decide) (by decide) rfl ?_ (by with_unfolding_all rfl)
  iterate 5 (focus (first | ((first | ((rename (∀ (f : Flow) (s : Shared), _ → _) => hq); (with_reducible refine Mine.cutQ hq ?_); clear hq; (rename (Flow → Shared → Prop) => qq); clear qq) | (with_reducible refine Mine.cutQ (by with_reducible assumption) ?_)); (try dsimp only)) | ((first | (k_unfold; (try dsimp only)) | (k_end; kc_close) | walk1 | (dsimp only; walk1) | (leave1; (try dsimp only)) | fail "no step"); (try ((with_reducible show wpAny _ _ (exec _ _) (fun _ _ => _) _ _); refine Mine.gen_Q ?_; intro QQ9 hQ9)))))
  dsimp only
  refine item_litK (News.isList (by k_asm) (by k_mem)) (by decide) (by decide) rfl ?_ (by with_unfolding_all rfl)
  iterate 5 (focus (first | ((first | ((rename (∀ (f : Flow) (s : Shared), _ → _) => hq); (with_reducible refine Mine.cutQ hq ?_); clear hq; (rename (Flow → Shared → Prop) => qq); clear qq) | (with_reducible refine Mine.cutQ (by with_reducible assumption) ?_)); (try dsimp only)) | ((first | (k_unfold; (try dsimp only)) | (k_end; kc_close) | walk1 | (dsimp only; walk1) | (leave1; (try dsimp only)) | fail "no step"); (try ((with_reducible show wpAny _ _ (exec _ _) (fun _ _ => _) _ _); refine Mine.gen_Q ?_; intro QQ9 hQ9)))))
  dsimp only
  refine item_litK (News.isList (by k_asm) (by k_mem)) (by decide) (by decide) rfl ?_ (by with_unfolding_all rfl)
  iterate 4 (focus (first | ((first | ((rename (∀ (f : Flow) (s : Shared), _ → _) => hq); (with_reducible refine Mine.cutQ hq ?_); clear hq; (rename (Flow → Shared → Prop) => qq); clear qq) | (with_reducible refine Mine.cutQ (by with_reducible assumption) ?_)); (try dsimp only)) | ((first | (k_unfold; (try dsimp only)) | (k_end; kc_close) | walk1 | (dsimp only; walk1) | (leave1; (try dsimp only)) | fail "no step"); (try ((with_reducible show wpAny _ _ (exec _ _) (fun _ _ => _) _ _); refine Mine.gen_Q ?_; intro QQ9 hQ9)))))
  rename Obj.IsDictOf _ _ _ => hdT
  iterate 9 (focus (first | ((first | ((rename (∀ (f : Flow) (s : Shared), _ → _) => hq); (with_reducible refine Mine.cutQ hq ?_); clear hq; (rename (Flow → Shared → Prop) => qq); clear qq) | (with_reducible refine Mine.cutQ (by with_reducible assumption) ?_)); (try dsimp only)) | ((first | (k_unfold; (try dsimp only)) | (k_end; kc_close) | walk1 | (dsimp only; walk1) | (leave1; (try dsimp only)) | fail "no step"); (try ((with_reducible show wpAny _ _ (exec _ _) (fun _ _ => _) _ _); refine Mine.gen_Q ?_; intro QQ9 hQ9)))))
  dsimp only
  refine item_litK (News.isList (by k_asm) (by k_mem)) (by decide) (by decide) rfl ?_ (by with_unfolding_all rfl)
  iterate 5 (focus (first | ((first | ((rename (∀ (f : Flow) (s : Shared), _ → _) => hq); (with_reducible refine Mine.cutQ hq ?_); clear hq; (rename (Flow → Shared → Prop) => qq); clear qq) | (with_reducible refine Mine.cutQ (by with_reducible assumption) ?_)); (try dsimp only)) | ((first | (k_unfold; (try dsimp only)) | (k_end; kc_close) | walk1 | (dsimp only; walk1) | (leave1; (try dsimp only)) | fail "no step"); (try ((with_reducible show wpAny _ _ (exec _ _) (fun _ _ => _) _ _); refine Mine.gen_Q ?_; intro QQ9 hQ9)))))
  dsimp only
  refine item_litK (News.isList (by k_asm) (by k_mem)) (by decide) (by decide) rfl ?_ (by with_unfolding_all rfl)
  iterate 5 (focus (first | ((first | ((rename (∀ (f : Flow) (s : Shared), _ → _) => hq); (with_reducible refine Mine.cutQ hq ?_); clear hq; (rename (Flow → Shared → Prop) => qq); clear qq) | (with_reducible refine Mine.cutQ (by with_reducible assumption) ?_)); (try dsimp only)) | ((first | (k_unfold; (try dsimp only)) | (k_end; kc_close) | walk1 | (dsimp only; walk1) | (leave1; (try dsimp only)) | fail "no step"); (try ((with_reducible show wpAny _ _ (exec _ _) (fun _ _ => _) _ _); refine Mine.gen_Q ?_; intro QQ9 hQ9)))))
  dsimp only
  refine item_litK (News.isList (by k_asm) (by k_mem)) (by decide) (by decide) rfl ?_ (by with_unfolding_all rfl)
  iterate 4 (focus (first | ((first | ((rename (∀ (f : Flow) (s : Shared), _ → _) => hq); (with_reducible refine Mine.cutQ hq ?_); clear hq; (rename (Flow → Shared → Prop) => qq); clear qq) | (with_reducible refine Mine.cutQ (by with_reducible assumption) ?_)); (try dsimp only)) | ((first | (k_unfold; (try dsimp only)) | (k_end; kc_close) | walk1 | (dsimp only; walk1) | (leave1; (try dsimp only)) | fail "no step"); (try ((with_reducible show wpAny _ _ (exec _ _) (fun _ _ => _) _ _); refine Mine.gen_Q ?_; intro QQ9 hQ9)))))
  rename Obj.IsDictOf _ _ _ => hdR
  iterate 6 (focus (first | ((first | ((rename (∀ (f : Flow) (s : Shared), _ → _) => hq); (with_reducible refine Mine.cutQ hq ?_); clear hq; (rename (Flow → Shared → Prop) => qq); clear qq) | (with_reducible refine Mine.cutQ (by with_reducible assumption) ?_)); (try dsimp only)) | ((first | (k_unfold; (try dsimp only)) | (k_end; kc_close) | walk1 | (dsimp only; walk1) | (leave1; (try dsimp only)) | fail "no step"); (try ((with_reducible show wpAny _ _ (exec _ _) (fun _ _ => _) _ _); refine Mine.gen_Q ?_; intro QQ9 hQ9)))))
  dsimp only
  refine item_litK (News.isList (by k_asm) (by k_mem)) (by decide) (by decide) rfl ?_ (by with_unfolding_all rfl)
  iterate 2 (focus (first | ((first | ((rename (∀ (f : Flow) (s : Shared), _ → _) => hq); (with_reducible refine Mine.cutQ hq ?_); clear hq; (rename (Flow → Shared → Prop) => qq); clear qq) | (with_reducible refine Mine.cutQ (by with_reducible assumption) ?_)); (try dsimp only)) | ((first | (k_unfold; (try dsimp only)) | (k_end; kc_close) | walk1 | (dsimp only; walk1) | (leave1; (try dsimp only)) | fail "no step"); (try ((with_reducible show wpAny _ _ (exec _ _) (fun _ _ => _) _ _); refine Mine.gen_Q ?_; intro QQ9 hQ9)))))
  have hbc : (r3.a, listOf (svs r3.ws).toArray r3.n) ∈ Y := hr3
  have hl13 : 1 ≤ r3.ws.length ∧ r3.ws.length ≤ 3 := by have a := hro.1; have b := hro.2.1; simp at a b; omega
  iterate 10 (focus (first | ((first | ((rename (∀ (f : Flow) (s : Shared), _ → _) => hq); (with_reducible refine Mine.cutQ hq ?_); clear hq; (rename (Flow → Shared → Prop) => qq); clear qq) | (with_reducible refine Mine.cutQ (by with_reducible assumption) ?_)); (try dsimp only)) | ((first | (k_unfold; (try dsimp only)) | (k_end; kc_close) | walk1 | (dsimp only; walk1) | (leave1; (try dsimp only)) | fail "no step"); (try ((with_reducible show wpAny _ _ (exec _ _) (fun _ _ => _) _ _); refine Mine.gen_Q ?_; intro QQ9 hQ9)))))
  refine lenS (by k_asm) (by k_mem) (by omega) ?_
  iterate 6 (focus (first | ((first | ((rename (∀ (f : Flow) (s : Shared), _ → _) => hq); (with_reducible refine Mine.cutQ hq ?_); clear hq; (rename (Flow → Shared → Prop) => qq); clear qq) | (with_reducible refine Mine.cutQ (by with_reducible assumption) ?_)); (try dsimp only)) | ((first | (k_unfold; (try dsimp only)) | (k_end; kc_close) | walk1 | (dsimp only; walk1) | (leave1; (try dsimp only)) | fail "no step"); (try ((with_reducible show wpAny _ _ (exec _ _) (fun _ _ => _) _ _); refine Mine.gen_Q ?_; intro QQ9 hQ9)))))
  iterate 13 (focus (first | ((first | ((rename (∀ (f : Flow) (s : Shared), _ → _) => hq); (with_reducible refine Mine.cutQ hq ?_); clear hq; (rename (Flow → Shared → Prop) => qq); clear qq) | (with_reducible refine Mine.cutQ (by with_reducible assumption) ?_)); (try dsimp only)) | ((first | (k_unfold; (try dsimp only)) | (k_end; kc_close) | walk1 | (dsimp only; walk1) | (leave1; (try dsimp only)) | fail "no step"); (try ((with_reducible show wpAny _ _ (exec _ _) (fun _ _ => _) _ _); refine Mine.gen_Q ?_; intro QQ9 hQ9)))))
  dsimp only
  refine item_litK (News.isList (by k_asm) (by k_mem)) (by decide) (by decide) rfl ?_ (by with_unfolding_all rfl)
  iterate 10 (focus (first | ((first | ((rename (∀ (f : Flow) (s : Shared), _ → _) => hq); (with_reducible refine Mine.cutQ hq ?_); clear hq; (rename (Flow → Shared → Prop) => qq); clear qq) | (with_reducible refine Mine.cutQ (by with_reducible assumption) ?_)); (try dsimp only)) | ((first | (k_unfold; (try dsimp only)) | (k_end; kc_close) | walk1 | (dsimp only; walk1) | (leave1; (try dsimp only)) | fail "no step"); (try ((with_reducible show wpAny _ _ (exec _ _) (fun _ _ => _) _ _); refine Mine.gen_Q ?_; intro QQ9 hQ9)))))
  have hm0 := Int.fmod_nonneg_of_pos k9 (show (0 : Int) < 4 by decide)
  have hm4 := Int.fmod_lt_of_pos k9 (show (0 : Int) < 4 by decide)
  iterate 18 (focus (first | ((first | ((rename (∀ (f : Flow) (s : Shared), _ → _) => hq); (with_reducible refine Mine.cutQ hq ?_); clear hq; (rename (Flow → Shared → Prop) => qq); clear qq) | (with_reducible refine Mine.cutQ (by with_reducible assumption) ?_)); (try dsimp only)) | ((first | (k_unfold; (try dsimp only)) | (k_end; kc_close) | walk1 | (dsimp only; walk1) | (leave1; (try dsimp only)) | fail "no step"); (try ((with_reducible show wpAny _ _ (exec _ _) (fun _ _ => _) _ _); refine Mine.gen_Q ?_; intro QQ9 hQ9)))))
  dsimp only
  refine item_litK (News.isList (by k_asm) (by k_mem)) (by decide) (by decide) rfl ?_ (by with_unfolding_all rfl)
  iterate 2 (focus (first | ((first | ((rename (∀ (f : Flow) (s : Shared), _ → _) => hq); (with_reducible refine Mine.cutQ hq ?_); clear hq; (rename (Flow → Shared → Prop) => qq); clear qq) | (with_reducible refine Mine.cutQ (by with_reducible assumption) ?_)); (try dsimp only)) | ((first | (k_unfold; (try dsimp only)) | (k_end; kc_close) | walk1 | (dsimp only; walk1) | (leave1; (try dsimp only)) | fail "no step"); (try ((with_reducible show wpAny _ _ (exec _ _) (fun _ _ => _) _ _); refine Mine.gen_Q ?_; intro QQ9 hQ9)))))
  refine' item_litK (v := .str (nmOf (k9.fmod 4)) ?tn) (News.isList (by k_asm) (by k_mem)) hm0 (by omega) ?hx ?_ (by with_unfolding_all rfl)
  case hx => exact Exists.choose_spec (nm_pick _ _ _ _ hm0 hm4)
  iterate 2 (focus (first | ((first | ((rename (∀ (f : Flow) (s : Shared), _ → _) => hq); (with_reducible refine Mine.cutQ hq ?_); clear hq; (rename (Flow → Shared → Prop) => qq); clear qq) | (with_reducible refine Mine.cutQ (by with_reducible assumption) ?_)); (try dsimp only)) | ((first | (k_unfold; (try dsimp only)) | (k_end; kc_close) | walk1 | (dsimp only; walk1) | (leave1; (try dsimp only)) | fail "no step"); (try ((with_reducible show wpAny _ _ (exec _ _) (fun _ _ => _) _ _); refine Mine.gen_Q ?_; intro QQ9 hQ9)))))
  iterate 11 (focus (first | ((first | ((rename (∀ (f : Flow) (s : Shared), _ → _) => hq); (with_reducible refine Mine.cutQ hq ?_); clear hq; (rename (Flow → Shared → Prop) => qq); clear qq) | (with_reducible refine Mine.cutQ (by with_reducible assumption) ?_)); (try dsimp only)) | ((first | (k_unfold; (try dsimp only)) | (k_end; kc_close) | walk1 | (dsimp only; walk1) | (leave1; (try dsimp only)) | fail "no step"); (try ((with_reducible show wpAny _ _ (exec _ _) (fun _ _ => _) _ _); refine Mine.gen_Q ?_; intro QQ9 hQ9)))))
  dsimp only
  refine item_litK (News.isList (by k_asm) (by k_mem)) (by decide) (by decide) rfl ?_ (by with_unfolding_all rfl)
  iterate 6 (focus (first | ((first | ((rename (∀ (f : Flow) (s : Shared), _ → _) => hq); (with_reducible refine Mine.cutQ hq ?_); clear hq; (rename (Flow → Shared → Prop) => qq); clear qq) | (with_reducible refine Mine.cutQ (by with_reducible assumption) ?_)); (try dsimp only)) | ((first | (k_unfold; (try dsimp only)) | (k_end; kc_close) | walk1 | (dsimp only; walk1) | (leave1; (try dsimp only)) | fail "no step"); (try ((with_reducible show wpAny _ _ (exec _ _) (fun _ _ => _) _ _); refine Mine.gen_Q ?_; intro QQ9 hQ9)))))
  have hnf := nm_facts (k9.fmod 4)
  have hnl : (nmOf (k9.fmod 4)).length ≤ 3 := hnf.2.2.2.2.2.1
  have htl : v3.1.length ≤ 20 := by rw [hv3]; exact join_len hro.2.1 hro.2.2
  have hL3 : (Str.ofString ".").length = 1 := by decide
  iterate 6 (focus (first | ((first | ((rename (∀ (f : Flow) (s : Shared), _ → _) => hq); (with_reducible refine Mine.cutQ hq ?_); clear hq; (rename (Flow → Shared → Prop) => qq); clear qq) | (with_reducible refine Mine.cutQ (by with_reducible assumption) ?_)); (try dsimp only)) | ((first | (k_unfold; (try dsimp only)) | (k_end; kc_close) | walk1 | (dsimp only; walk1) | (leave1; (try dsimp only)) | fail "no step"); (try ((with_reducible show wpAny _ _ (exec _ _) (fun _ _ => _) _ _); refine Mine.gen_Q ?_; intro QQ9 hQ9)))))
  refine PyProof.Rows.add_str ?_ (by simp only [Str.length_append, sizeLine_eq]; omega)
  iterate 5 (focus (first | ((first | ((rename (∀ (f : Flow) (s : Shared), _ → _) => hq); (with_reducible refine Mine.cutQ hq ?_); clear hq; (rename (Flow → Shared → Prop) => qq); clear qq) | (with_reducible refine Mine.cutQ (by with_reducible assumption) ?_)); (try dsimp only)) | ((first | (k_unfold; (try dsimp only)) | (k_end; kc_close) | walk1 | (dsimp only; walk1) | (leave1; (try dsimp only)) | fail "no step"); (try ((with_reducible show wpAny _ _ (exec _ _) (fun _ _ => _) _ _); refine Mine.gen_Q ?_; intro QQ9 hQ9)))))
  dsimp only
  refine item_litK (News.isList (by k_asm) (by k_mem)) (by decide) (by decide) rfl ?_ (by with_unfolding_all rfl)
  refine PyProof.Rows.add_str ?_ (by simp only [Str.length_append, sizeLine_eq]; omega)
  iterate 4 (focus (first | ((first | ((rename (∀ (f : Flow) (s : Shared), _ → _) => hq); (with_reducible refine Mine.cutQ hq ?_); clear hq; (rename (Flow → Shared → Prop) => qq); clear qq) | (with_reducible refine Mine.cutQ (by with_reducible assumption) ?_)); (try dsimp only)) | ((first | (k_unfold; (try dsimp only)) | (k_end; kc_close) | walk1 | (dsimp only; walk1) | (leave1; (try dsimp only)) | fail "no step"); (try ((with_reducible show wpAny _ _ (exec _ _) (fun _ _ => _) _ _); refine Mine.gen_Q ?_; intro QQ9 hQ9)))))
  rename Fr _ _ _ _ => FE
  rename News _ _ _ _ => NE
  rename _ < _ ∧ _ < _ ∧ AllLt _ Y => lE
  refine' next _ _ _ _ _ _ _ ?ux ?un ?ub ?ug ?um (fr_kst [("limit", .int limit tl), ("step", .int step ts), ("fee", .int fee tf), ("text", .str tx tt), ("texts", .ref _), ("rows", .ref _), ("first", .ref r3.a), ("more", .int (((r3.ws.length : Int) - 1) * fee) ?um),
      ("x", .int (limit + step - k3.fmod (5 * step) + ((r3.ws.length : Int) - 1) * fee) ?ux), ("name", .str (nmOf (k9.fmod 4)) ?un), ("bits", .int ((if k9 < 0 then -k9 else k9).fdiv 4) ?ub), ("begun", .str (nmOf (k9.fmod 4) ++ Str.ofString "." ++ v3.1) ?ug)] FE ?hF) (kst_newsOf NE fun q hq => .tail _ hq) ?hn hdT hdR
  case hF =>
    exact fm (by rfl) (fm (by rfl) (fm (by rfl) (fm (by rfl) (fm (by rfl) (fm (by rfl) (fm (by rfl) (fm (by rfl) (fm (by rfl) (fm (by rfl) (fm (by rfl) (fm (by rfl) fm0)))))))))))
  case hn =>
    rename _ < _ ∧ AllLt _ Y => lR
    exact fun q hq => ⟨Nat.ne_of_lt (lT.1 q hq), allNe_lt lR.2 q hq⟩
end Mine
end
section
open PySem PySem.W PyProof.Rows PyProof.V PySem.Spec PySem.SeqAt
set_option maxRecDepth 100000
namespace Mine

set_option maxHeartbeats 0 in
theorem plain (w : World) (p : Program) (loose : List Str) (mean : ExcName → Option Value) (mg mb : Str → Option Value)
  (P : Par) (hP : P.Ok)
  (r f : Addr) (x bits en : Int) (t1 t2 t3 t4 t5 t6 : Tok) (od : Obj) (ws : List (Str × Tok)) (nf : Nat) (Z : List (Addr × Obj))
  (hws : P.meas ws.length x ≤ 100) (hf : (f, listOf (svs ws).toArray nf) ∈ Z) (hnm : ∀ w ∈ ws, isName w.1) (hen : en = 0 ∨ en = -1)
  (kvs : List (Str × Value)) (hr : (r, od) ∈ Z) (hod : od.IsDictOf (strKind PySem.Challenge.rw_xg0056_01.row.prog w) kvs) (hrows : ∀ v, isName v → ∃ a rr n, (a, listOf (svs rr).toArray n) ∈ Z ∧ wds rr = P.rows v ∧ valueAt kvs v = some (.ref a)) :
  Spec w p loose mean mg mb 188 10 [.ref r, .ref f, .int x t1, .int P.limit t2, .int P.step t3, .int P.fee t4, .int bits t5, .int en t6] Z (PlainPost Z P en (wds ws) x bits) := by
  unfold Spec
  k_fill
  intro dp un gd cn cs a ccd cl outer A₀ base h₀ L m s Q E B F X N T hk hd hu hret
  k_dflt cell_enter
  rename Fr _ _ _ (fun _ => _) => F0; refine letM F0 ?_; clear F0; intro M0 F1
  refine letEA ?_
  intro e9 A9
  iterate 9 (focus (first | ((first | ((rename (∀ (f : Flow) (s : Shared), _ → _) => hq); (with_reducible refine Mine.cutQ hq ?_); clear hq; (rename (Flow → Shared → Prop) => qq); clear qq) | (with_reducible refine Mine.cutQ (by with_reducible assumption) ?_)); (try dsimp only)) | ((first | (k_unfold; (try dsimp only)) | (k_end; kc_close) | walk1 | (dsimp only; walk1) | (leave1; (try dsimp only)) | fail "no step"); (try ((with_reducible show wpAny _ _ (exec _ _) (fun _ _ => _) _ _); refine Mine.gen_Q ?_; intro QQ9 hQ9)))))
  refine list_copyK (by k_asm) (by k_asm) (News.isList (by k_asm) hf) ?_ (by rw [List.size_toArray, List.length_map, sizeLine_eq]; unfold Par.meas at hws; omega)
  intro D' c' h' F' N' l1; (try k_lt l1); k_sweep
  iterate 12 (focus (first | ((first | ((rename (∀ (f : Flow) (s : Shared), _ → _) => hq); (with_reducible refine Mine.cutQ hq ?_); clear hq; (rename (Flow → Shared → Prop) => qq); clear qq) | (with_reducible refine Mine.cutQ (by with_reducible assumption) ?_)); (try dsimp only)) | ((first | (k_unfold; (try dsimp only)) | (k_end; kc_close) | walk1 | (dsimp only; walk1) | (leave1; (try dsimp only)) | fail "no step"); (try ((with_reducible show wpAny _ _ (exec _ _) (fun _ _ => _) _ _); refine Mine.gen_Q ?_; intro QQ9 hQ9)))))
  rename_i hA tkA T' hB lts hC F2 N2

  refine while_g (PSt.led T' Z) PSt.ps (PSt.Facts T' Z) ["word"] (PSt.inv P en (wds ws) x bits) (fun c => P.meas c.ws.length c.x) ⟨D', c', ws, [], 0, x, t1, bits, t5⟩ F2 ?_ ?_ ?_ ?_ ?_
  · exact N2
  · refine ⟨?_, ?_, ?_, hnm⟩
    · have := lts.1; exact Nat.ne_of_lt this
    · exact allNe_all l1
    · exact allNe_lt lts.2
  · intro q hq
    simp only [PSt.ps, List.mem_cons, List.not_mem_nil, or_false] at hq
    rcases hq with rfl | rfl | rfl <;> rfl
  · refine ⟨by simpa using hws, fun r tk h => h⟩
  · rintro ⟨W, n, ws', zs, tc, x', tx, b', tb⟩ u h tk QB hB hFa hI FF NN
    dsimp only [PSt.ps, PSt.led] at FF NN
    refine letM FF ?_; clear FF; intro M1 FF
    obtain ⟨ne1, hW, hT, hn⟩ := hFa
    obtain ⟨hm, hR⟩ := id hI
    dsimp only at ne1 hW hT hn hm hR
    replace ne1 := neN ne1
    have hzl : zs.length ≤ 100 := by omega
    have hwl : ws'.length ≤ 100 := by unfold Par.meas at hm; omega
    k_sweep
    try k_fold
    iterate 5 (focus (first | ((first | ((rename (∀ (f : Flow) (s : Shared), _ → _) => hq); (with_reducible refine Mine.cutQ hq ?_); clear hq; (rename (Flow → Shared → Prop) => qq); clear qq) | (with_reducible refine Mine.cutQ (by with_reducible assumption) ?_)); (try dsimp only)) | ((first | (k_unfold; (try dsimp only)) | (k_end; kc_close) | walk1 | (dsimp only; walk1) | (leave1; (try dsimp only)) | fail "no step"); (try ((with_reducible show wpAny _ _ (exec _ _) (fun _ _ => _) _ _); refine Mine.gen_Q ?_; intro QQ9 hQ9)))))
    refine ne_empty (by k_asm) (by k_mem) (by k_mem) ?_ (by dsimp only [A9]; ktr_units) ?_
    · intro v hv
      obtain ⟨q, hq, rfl⟩ := List.mem_map.mp hv
      exact name_ok (hn q hq)
    cases hE : ws'.isEmpty with
    | true =>
      dsimp only [Bool.not_true]
      iterate 15 (focus (first | ((first | ((rename (∀ (f : Flow) (s : Shared), _ → _) => hq); (with_reducible refine Mine.cutQ hq ?_); clear hq; (rename (Flow → Shared → Prop) => qq); clear qq) | (with_reducible refine Mine.cutQ (by with_reducible assumption) ?_)); (try dsimp only)) | ((first | (k_unfold; (try dsimp only)) | (k_end; kc_close) | walk1 | (dsimp only; walk1) | (leave1; (try dsimp only)) | fail "no step"); (try ((with_reducible show wpAny _ _ (exec _ _) (fun _ _ => _) _ _); refine Mine.gen_Q ?_; intro QQ9 hQ9)))))
      have hnil : ws' = [] := List.isEmpty_iff.mp hE
      subst hnil
      have hfin := hR x' [] (.nil x' b')
      rw [List.append_nil] at hfin
      refine hret _ _ _ _ ⟨_, 0, T', tc, zs, x', tx, rfl, rfl, hzl, hfin⟩ (by k_asm) (kst_newsOf (by k_asm) ?_)
      intro q hq
      simp only [List.mem_cons] at hq ⊢
      rcases hq with hq | hq | hq
      · exact .inl hq
      · exact .inr (.inr (.inl hq))
      · exact .inr (.inr (.inr (.inr hq)))
    | false =>
      dsimp only [Bool.not_false]
      have hne : ws' ≠ [] := by rintro rfl; cases hE
      have hrl := rot_length b' ws'
      have hbd0 : (rot b' ws').length ≤ 100 := by omega
      obtain ⟨y, rest, hpop, hlen, hmem, hsub⟩ := popW_some en (ws := rot b' ws') (by intro e; rw [e] at hrl; exact hne (List.length_eq_zero_iff.mp hrl.symm))
      have hpop0 := hpop
      have hrest : rest.length ≤ 100 := by omega
      have hmem0 : y ∈ ws' := by
        unfold rot at hmem
        split at hmem
        · rcases List.mem_append.mp hmem with h | h
          · exact List.mem_of_mem_drop h
          · exact List.mem_of_mem_take h
        · exact hmem
      have hrl0 := hrl
      have hsub0 : ∀ v ∈ rest, v ∈ ws' := fun v hv => by
        have := hsub v hv
        unfold rot at this
        split at this
        · rcases List.mem_append.mp this with h | h
          · exact List.mem_of_mem_drop h
          · exact List.mem_of_mem_take h
        · exact this
      iterate 1 (focus (first | ((first | ((rename (∀ (f : Flow) (s : Shared), _ → _) => hq); (with_reducible refine Mine.cutQ hq ?_); clear hq; (rename (Flow → Shared → Prop) => qq); clear qq) | (with_reducible refine Mine.cutQ (by with_reducible assumption) ?_)); (try dsimp only)) | ((first | (k_unfold; (try dsimp only)) | (k_end; kc_close) | walk1 | (dsimp only; walk1) | (leave1; (try dsimp only)) | fail "no step"); (try ((with_reducible show wpAny _ _ (exec _ _) (fun _ _ => _) _ _); refine Mine.gen_Q ?_; intro QQ9 hQ9)))))
      iterate 2 (focus (first | ((first | ((rename (∀ (f : Flow) (s : Shared), _ → _) => hq); (with_reducible refine Mine.cutQ hq ?_); clear hq; (rename (Flow → Shared → Prop) => qq); clear qq) | (with_reducible refine Mine.cutQ (by with_reducible assumption) ?_)); (try dsimp only)) | ((first | (k_unfold; (try dsimp only)) | (k_end; kc_close) | walk1 | (dsimp only; walk1) | (leave1; (try dsimp only)) | fail "no step"); (try ((with_reducible show wpAny _ _ (exec _ _) (fun _ _ => _) _ _); refine Mine.gen_Q ?_; intro QQ9 hQ9)))))
      rename Fr _ _ _ _ => FQ
      refine cutG FQ (fun c : Nat × Nat => (T', listOf (tkRefs zs).toArray tc) :: (c.1, listOf (svs (rot b' ws')).toArray c.2) :: (tkLed zs ++ Z)) (fun c y => if y = Str.ofString "waiting" then some (.ref c.1) else M1 y) (fun c => @Ne Nat c.1 T' ∧ ∀ p ∈ tkLed zs ++ Z, p.1 ≠ c.1) ?_ ?_
      · intro QC hC
        iterate 21 (focus (first | ((first | ((rename (∀ (f : Flow) (s : Shared), _ → _) => hq); (with_reducible refine Mine.cutQ hq ?_); clear hq; (rename (Flow → Shared → Prop) => qq); clear qq) | (with_reducible refine Mine.cutQ (by with_reducible assumption) ?_)); (try dsimp only)) | ((first | (k_unfold; (try dsimp only)) | (k_end; kc_close) | walk1 | (dsimp only; walk1) | (leave1; (try dsimp only)) | fail "no step"); (try ((with_reducible show wpAny _ _ (exec _ _) (fun _ _ => _) _ _); refine Mine.gen_Q ?_; intro QQ9 hQ9)))))
        · refine kmk_slice_lit (zs := svs (ws'.drop 1)) (by k_asm) (by k_asm) (News.isList (by k_asm) (by k_mem)) (.int 1 _) .none (sv_from ws') ?_ (by with_unfolding_all rfl) (by intro _; with_unfolding_all rfl) (by size_fits)
          intro D1 h1 F1 N1 l1; k_lt l1; k_sweep
          iterate 7 (focus (first | ((first | ((rename (∀ (f : Flow) (s : Shared), _ → _) => hq); (with_reducible refine Mine.cutQ hq ?_); clear hq; (rename (Flow → Shared → Prop) => qq); clear qq) | (with_reducible refine Mine.cutQ (by with_reducible assumption) ?_)); (try dsimp only)) | ((first | (k_unfold; (try dsimp only)) | (k_end; kc_close) | walk1 | (dsimp only; walk1) | (leave1; (try dsimp only)) | fail "no step"); (try ((with_reducible show wpAny _ _ (exec _ _) (fun _ _ => _) _ _); refine Mine.gen_Q ?_; intro QQ9 hQ9)))))
          refine kmk_slice_lit (zs := svs (ws'.take 1)) (by k_asm) (by k_asm) (News.isList (by k_asm) (by k_mem)) .none (.int 1 _) (sv_upto ws') ?_ (by with_unfolding_all rfl) (by intro _; with_unfolding_all rfl) (by size_fits)
          intro D2 h2 F2 N2 l2; k_lt l2; k_sweep
          refine kmk_add_lit (zs := svs (ws'.drop 1 ++ ws'.take 1)) (by k_asm) (by k_asm) (News.isList (by k_asm) (by k_mem)) (News.isList (by k_asm) (by k_mem)) (by simp [svs]) ?_ (by size_fits)
          intro D3 h3 F3 N3 l3; k_lt l3; k_sweep
          iterate 5 (focus (first | ((first | ((rename (∀ (f : Flow) (s : Shared), _ → _) => hq); (with_reducible refine Mine.cutQ hq ?_); clear hq; (rename (Flow → Shared → Prop) => qq); clear qq) | (with_reducible refine Mine.cutQ (by with_reducible assumption) ?_)); (try dsimp only)) | ((first | (k_unfold; (try dsimp only)) | (k_end; kc_close) | walk1 | (dsimp only; walk1) | (leave1; (try dsimp only)) | fail "no step"); (try ((with_reducible show wpAny _ _ (exec _ _) (fun _ _ => _) _ _); refine Mine.gen_Q ?_; intro QQ9 hQ9)))))
          rename _ = 1 => hb1
          have hrot : rot b' ws' = ws'.drop 1 ++ ws'.take 1 := by unfold rot; rw [if_pos (by rw [← Int.fmod_eq_emod_of_nonneg _ (by omega)]; exact hb1)]
          rename News _ _ _ _ => NE
          rename Fr _ _ _ _ => FE
          rw [← hrot] at NE
          exact cutEnd (D3, 0) ⟨by k_ne, by k_all⟩ FE NE (fm (by repeat' (first | exact .head _ | apply List.Mem.tail)) (fm (by repeat' (first | exact .head _ | apply List.Mem.tail)) (fun q hq => by repeat' (first | exact hq | apply List.Mem.tail))))
        · iterate 3 (focus (first | ((first | ((rename (∀ (f : Flow) (s : Shared), _ → _) => hq); (with_reducible refine Mine.cutQ hq ?_); clear hq; (rename (Flow → Shared → Prop) => qq); clear qq) | (with_reducible refine Mine.cutQ (by with_reducible assumption) ?_)); (try dsimp only)) | ((first | (k_unfold; (try dsimp only)) | (k_end; kc_close) | walk1 | (dsimp only; walk1) | (leave1; (try dsimp only)) | fail "no step"); (try ((with_reducible show wpAny _ _ (exec _ _) (fun _ _ => _) _ _); refine Mine.gen_Q ?_; intro QQ9 hQ9)))))
          rename _ ≠ 1 => hb1
          have hrot : rot b' ws' = ws' := by unfold rot; rw [if_neg (by rw [← Int.fmod_eq_emod_of_nonneg _ (by omega)]; exact hb1)]
          rename News _ _ _ _ => NE
          rename Fr _ _ _ _ => FE
          refine cutEnd (W, n) ⟨ne1, hW⟩ (fr_put rfl FE) NE ?_
          dsimp only
          rw [hrot]
          exact (fm (by repeat' (first | exact .head _ | apply List.Mem.tail)) (fm (by repeat' (first | exact .head _ | apply List.Mem.tail)) (fun q hq => by repeat' (first | exact hq | apply List.Mem.tail))))
      · clear FQ
        rintro ⟨D3, n3⟩ h3 tk3 ⟨hd1, hd2⟩ F3 N3
        dsimp only at hd1 hd2 F3 N3
        iterate 18 (focus (first | ((first | ((rename (∀ (f : Flow) (s : Shared), _ → _) => hq); (with_reducible refine Mine.cutQ hq ?_); clear hq; (rename (Flow → Shared → Prop) => qq); clear qq) | (with_reducible refine Mine.cutQ (by with_reducible assumption) ?_)); (try dsimp only)) | ((first | (k_unfold; (try dsimp only)) | (k_end; kc_close) | walk1 | (dsimp only; walk1) | (leave1; (try dsimp only)) | fail "no step"); (try ((with_reducible show wpAny _ _ (exec _ _) (fun _ _ => _) _ _); refine Mine.gen_Q ?_; intro QQ9 hQ9)))))
        have hbd := hbd0
        refine pop_K (by k_asm) (by k_asm) hen hpop hbd (by k_upd) ?_
        intro h4 F4 N4; k_sweep
        iterate 41 (focus (first | ((first | ((rename (∀ (f : Flow) (s : Shared), _ → _) => hq); (with_reducible refine Mine.cutQ hq ?_); clear hq; (rename (Flow → Shared → Prop) => qq); clear qq) | (with_reducible refine Mine.cutQ (by with_reducible assumption) ?_)); (try dsimp only)) | ((first | (k_unfold; (try dsimp only)) | (k_end; kc_close) | walk1 | (dsimp only; walk1) | (leave1; (try dsimp only)) | fail "no step"); (try ((with_reducible show wpAny _ _ (exec _ _) (fun _ _ => _) _ _); refine Mine.gen_Q ?_; intro QQ9 hQ9)))))
        · rename P.limit < x' => hx
          obtain ⟨hi2, hm2⟩ := inv_pop (D := D3) (l := _) (n := _) (tc := tc + 1) (k := 0) (t := _) (t' := _) hI hne hpop0 (by rw [hlen]; exact hrl0) hx
          refine' ksw_end ⟨D3, ?_, rest, zs ++ [⟨?_, 0, y.1, y.2, x', tx⟩], tc + 1, x' - P.fee, ?_, b'.fdiv 2, ?_⟩ ?F ?N ?hn ?hf ?hk ?hr ?hp ?hm
          case F => k_asm
          case N => k_asm
          case hk => (dsimp only [PSt.ps, M1]; kst_all)
          case hn => exact led_push _ (by k_mem) (by k_mem) (by k_mem) (by intro q hq; repeat' (first | exact hq | apply List.Mem.tail))
          case hf => exact facts_push _ (by k_ne) (by k_all) (by k_all) (by k_ne) (by k_ne) (fun v hv => hn v (hsub0 v hv))
          case hr => (dsimp only [PSt.ps, M1, kstB]; ksw_same)
          case hp => exact hi2
          case hm => exact hm2
        · rename ¬ P.limit < x' => hx
          obtain ⟨ar, rr, nr, hmr, hwr, hvr⟩ := hrows y.1 (hn y hmem0)
          replace hmr := List.mem_append_right (tkLed zs) hmr
          have hrl13 : rr.length = (P.rows y.1).length := by rw [← hwr]; simp
          have hr13 := hP.rows y.1
          have hrr0 : rr ≠ [] := by rintro rfl; simp at hrl13; omega
          iterate 14 (focus (first | ((first | ((rename (∀ (f : Flow) (s : Shared), _ → _) => hq); (with_reducible refine Mine.cutQ hq ?_); clear hq; (rename (Flow → Shared → Prop) => qq); clear qq) | (with_reducible refine Mine.cutQ (by with_reducible assumption) ?_)); (try dsimp only)) | ((first | (k_unfold; (try dsimp only)) | (k_end; kc_close) | walk1 | (dsimp only; walk1) | (leave1; (try dsimp only)) | fail "no step"); (try ((with_reducible show wpAny _ _ (exec _ _) (fun _ _ => _) _ _); refine Mine.gen_Q ?_; intro QQ9 hQ9)))))
          refine dict_item (by k_asm) (by repeat' (first | exact (List.mem_append_right (tkLed zs) hr) | apply List.Mem.tail)) hod hvr ?_
          iterate 1 (focus (first | ((first | ((rename (∀ (f : Flow) (s : Shared), _ → _) => hq); (with_reducible refine Mine.cutQ hq ?_); clear hq; (rename (Flow → Shared → Prop) => qq); clear qq) | (with_reducible refine Mine.cutQ (by with_reducible assumption) ?_)); (try dsimp only)) | ((first | (k_unfold; (try dsimp only)) | (k_end; kc_close) | walk1 | (dsimp only; walk1) | (leave1; (try dsimp only)) | fail "no step"); (try ((with_reducible show wpAny _ _ (exec _ _) (fun _ _ => _) _ _); refine Mine.gen_Q ?_; intro QQ9 hQ9)))))
          refine lenS (by k_asm) (by k_mem) (by omega) ?_
          iterate 19 (focus (first | ((first | ((rename (∀ (f : Flow) (s : Shared), _ → _) => hq); (with_reducible refine Mine.cutQ hq ?_); clear hq; (rename (Flow → Shared → Prop) => qq); clear qq) | (with_reducible refine Mine.cutQ (by with_reducible assumption) ?_)); (try dsimp only)) | ((first | (k_unfold; (try dsimp only)) | (k_end; kc_close) | walk1 | (dsimp only; walk1) | (leave1; (try dsimp only)) | fail "no step"); (try ((with_reducible show wpAny _ _ (exec _ _) (fun _ _ => _) _ _); refine Mine.gen_Q ?_; intro QQ9 hQ9)))))
          refine dict_item (by k_asm) (by repeat' (first | exact (List.mem_append_right (tkLed zs) hr) | apply List.Mem.tail)) hod hvr ?_
          iterate 1 (focus (first | ((first | ((rename (∀ (f : Flow) (s : Shared), _ → _) => hq); (with_reducible refine Mine.cutQ hq ?_); clear hq; (rename (Flow → Shared → Prop) => qq); clear qq) | (with_reducible refine Mine.cutQ (by with_reducible assumption) ?_)); (try dsimp only)) | ((first | (k_unfold; (try dsimp only)) | (k_end; kc_close) | walk1 | (dsimp only; walk1) | (leave1; (try dsimp only)) | fail "no step"); (try ((with_reducible show wpAny _ _ (exec _ _) (fun _ _ => _) _ _); refine Mine.gen_Q ?_; intro QQ9 hQ9)))))
          refine kl_extend (its := (svs rest).toArray) (its2 := (svs rr).toArray) (l := svs (rest ++ rr)) (n2 := nr) (by k_asm) (by k_asm) (by k_mem) (by simp [svs]) (by simpa using hrr0) (by k_upd) (by intro hh; simp [Builtin.List.listTooLong, sizeLine_eq] at hh; omega) (by size_fits) (by size_fits) ?_
          intro h5 F5 N5; k_sweep
          iterate 7 (focus (first | ((first | ((rename (∀ (f : Flow) (s : Shared), _ → _) => hq); (with_reducible refine Mine.cutQ hq ?_); clear hq; (rename (Flow → Shared → Prop) => qq); clear qq) | (with_reducible refine Mine.cutQ (by with_reducible assumption) ?_)); (try dsimp only)) | ((first | (k_unfold; (try dsimp only)) | (k_end; kc_close) | walk1 | (dsimp only; walk1) | (leave1; (try dsimp only)) | fail "no step"); (try ((with_reducible show wpAny _ _ (exec _ _) (fun _ _ => _) _ _); refine Mine.gen_Q ?_; intro QQ9 hQ9)))))
          obtain ⟨hi2, hm2⟩ := inv_unf hP (D := D3) (l := _) (n := _) (tc := tc + 1) (k := 0) (t := _) (t' := _) hI hne hpop0 (by rw [hlen]; exact hrl0) hx hwr
          refine' ksw_end ⟨D3, ?_, rest ++ rr, zs ++ [⟨?_, 0, y.1, y.2, x', tx⟩], tc + 1, x' + (P.step + ((rr.length : Int) - 1) * P.fee), ?_, b'.fdiv 2, ?_⟩ ?F ?N ?hn ?hf ?hk ?hr ?hp ?hm
          case F => k_asm
          case N => k_asm
          case hk => (dsimp only [PSt.ps, M1]; kst_all)
          case hn => exact led_push _ (by k_mem) (by k_mem) (by k_mem) (by intro q hq; repeat' (first | exact hq | apply List.Mem.tail))
          case hf => exact facts_push _ (by k_ne) (by k_all) (by k_all) (by k_ne) (by k_ne) (fun v hv => (List.mem_append.mp hv).elim (fun h => hn v (hsub0 v h)) fun h => hP.names y.1 v.1 (by rw [← hwr]; exact List.mem_map_of_mem h))
          case hr => (dsimp only [PSt.ps, M1, kstB]; ksw_same)
          case hp => exact hi2
          case hm => exact hm2
end Mine
end
section
open PySem PySem.W PyProof.Rows PyProof.V PySem.Spec PySem.SeqAt
set_option maxRecDepth 100000
namespace Mine
structure PlSt where
  M : Addr
  S : Addr
  px : Str
  pt : Tok
  q : Nat
  e : Nat
  ws : List Str
  pl : Tok
  zs : List Tk
  tc : Nat
  x : Int
  tx : Tok
def PlSt.led (T : Addr) (Z : List (Addr × Obj)) (c : PlSt) : List (Addr × Obj) := (T, listOf (tkRefs c.zs).toArray c.tc) :: (c.M, maObj c.px c.pt c.S) :: (c.S, spObj c.q c.e) :: (tkLed c.zs ++ Z)
def PlSt.ps (hd : List Nat) (c : PlSt) : List (Str × Value) := [("found", if c.ws = [] then .none else .ref c.M), ("pile", .str (pileS hd c.ws) c.pl), ("x", .int c.x c.tx)]
structure PlSt.Facts (hd : List Nat) (T : Addr) (Z : List (Addr × Obj)) (c : PlSt) : Prop where
  M : @Ne Nat c.M T
  S : @Ne Nat c.S T
  hT : ∀ p ∈ tkLed c.zs ++ Z, p.1 ≠ T
  names : ∀ w ∈ c.ws, isName w
  it : ∀ ws v, c.ws = ws ++ [v] → c.px = pileS hd c.ws ∧ c.q = pq hd ws ∧ c.e = pq hd ws + 1 + v.cps.size
def PlSt.inv (P : Par) (ws₀ : List Str) (x₀ : Int) (c : PlSt) : Prop :=
  c.zs.length + P.meas c.ws.length c.x ≤ 100 ∧ ∀ r tk, Runs P (-1) c.ws c.x 0 r tk → Runs P (-1) ws₀ x₀ 0 r (tkDat c.zs ++ tk)
def PilePost (Z : List (Addr × Obj)) (hd : List Nat) (P : Par) (ws₀ : List Str) (x₀ : Int) (v : Value) (news' : List (Addr × Obj)) : Prop :=
  ∃ D c T tc zs x tx t, v = .ref D ∧ news' = (D, listOf [Value.int x tx, Value.ref T, Value.str (pileS hd []) t].toArray c) :: (T, listOf (tkRefs zs).toArray tc) :: (tkLed zs ++ Z) ∧ zs.length ≤ 100 ∧ Runs P (-1) ws₀ x₀ 0 x (tkDat zs)

theorem plFacts_push {hd : List Nat} {T M S : Addr} {px : Str} {pt pl tx : Tok} {q e tc : Nat} {ws : List Str} {x : Int} {Z : List (Addr × Obj)} {zs : List Tk} (k : Tk) (h1 : @Ne Nat M T) (h2 : @Ne Nat S T) (hT : ∀ p ∈ tkLed zs ++ Z, p.1 ≠ T) (hk : @Ne Nat k.a T) (hn : ∀ w ∈ ws, isName w)
    (hi : ∀ ws' v, ws = ws' ++ [v] → px = pileS hd ws ∧ q = pq hd ws' ∧ e = pq hd ws' + 1 + v.cps.size) : PlSt.Facts hd T Z ⟨M, S, px, pt, q, e, ws, pl, zs ++ [k], tc, x, tx⟩ := by
  refine ⟨h1, h2, ?_, hn, hi⟩
  intro p hp
  simp only [tkLed, List.map_append, List.map_cons, List.map_nil, List.append_assoc, List.mem_append, List.mem_cons, List.not_mem_nil, or_false, List.cons_append, List.nil_append] at hp hT
  rcases hp with hp | rfl | hp
  · exact hT p (.inl hp)
  · exact hk
  · exact hT p (.inr hp)
theorem pl_led_push {T M S : Addr} {px : Str} {pt pl tx : Tok} {q e' tc : Nat} {ws : List Str} {x : Int} {Z news : List (Addr × Obj)} {zs : List Tk} (e : Tk) (h1 : (T, listOf ((tkRefs zs).toArray.push (.ref e.a)) tc) ∈ news) (h2 : (M, maObj px pt S) ∈ news) (h5 : (S, spObj q e') ∈ news)
    (h3 : (e.a, listOf [Value.str e.w e.tw, Value.int e.x e.tx].toArray e.c) ∈ news) (h4 : ∀ p ∈ tkLed zs ++ Z, p ∈ news) : ∀ p ∈ PlSt.led T Z ⟨M, S, px, pt, q, e', ws, pl, zs ++ [e], tc, x, tx⟩, p ∈ news := by
  intro p hp
  simp only [PlSt.led, tkLed, List.map_append, List.map_cons, List.map_nil, List.append_assoc, List.mem_append, List.mem_cons, List.not_mem_nil, or_false, List.cons_append, List.nil_append] at hp
  rcases hp with rfl | rfl | rfl | hp | rfl | hp
  · simpa [tkRefs] using h1
  · exact h2
  · exact h5
  · exact h4 p (List.mem_append_left _ hp)
  · exact h3
  · exact h4 p (List.mem_append_right _ hp)
theorem rot0 (ws : List Str) : rot 0 ws = ws := rfl
theorem popLast (ws : List Str) (v : Str) : popW (-1) (ws ++ [v]) = some (v, ws) := by
  unfold popW
  rw [if_neg (by decide)]
  simp
theorem pl_meas_pop (P : Par) (ws : List Str) (v : Str) (x : Int) : P.meas ws.length (x - P.fee) < P.meas (ws ++ [v]).length x := by
  rw [List.length_append]
  exact P.meas_pop _ _
theorem pl_meas_unf {P : Par} (hP : P.Ok) (ws : List Str) (v : Str) {x : Int} (hx : ¬ P.limit < x) : P.meas (ws ++ P.rows v).length (x + (P.step + (((P.rows v).length : Int) - 1) * P.fee)) < P.meas (ws ++ [v]).length x := by
  have h13 := hP.rows v
  rw [List.length_append, List.length_append]
  exact P.meas_unf hP hx h13.1 h13.2
theorem pl_pop {P : Par} {ws₀ : List Str} {x₀ : Int} {ws : List Str} {v : Str} {zs : List Tk} {tc k : Nat} {x : Int} {tx t u : Tok} {M S : Addr} {px : Str} {pt pl : Tok} {q e : Nat} {l : Addr} {M' S' : Addr} {px' : Str} {pt' pl' : Tok} {q' e' tc' : Nat}
    (hI : PlSt.inv P ws₀ x₀ ⟨M, S, px, pt, q, e, ws ++ [v], pl, zs, tc, x, tx⟩) (hx : P.limit < x) :
    PlSt.inv P ws₀ x₀ ⟨M', S', px', pt', q', e', ws, pl', zs ++ [⟨l, k, v, u, x, tx⟩], tc', x - P.fee, t⟩ ∧ P.meas ws.length (x - P.fee) < P.meas (ws ++ [v]).length x := by
  have hm : P.meas ws.length (x - P.fee) < P.meas (ws ++ [v]).length x := by
    rw [List.length_append]
    exact P.meas_pop _ _
  obtain ⟨h1, h2⟩ := hI
  dsimp only at h1 h2
  refine ⟨⟨?_, ?_⟩, hm⟩
  · simp only [List.length_append, List.length_cons, List.length_nil] at h1 hm ⊢
    omega
  · intro r tk h
    have h' := h2 r ((v, x) :: tk) (.pop (by simp) (by rw [rot0]; exact popLast ws v) hx h)
    simpa [tkDat] using h'
theorem pl_unf {P : Par} (hP : P.Ok) {ws₀ : List Str} {x₀ : Int} {ws : List Str} {v : Str} {zs : List Tk} {tc k : Nat} {x : Int} {tx t u : Tok} {M S : Addr} {px : Str} {pt pl : Tok} {q e : Nat} {l : Addr} {M' S' : Addr} {px' : Str} {pt' pl' : Tok} {q' e' tc' : Nat}
    (hI : PlSt.inv P ws₀ x₀ ⟨M, S, px, pt, q, e, ws ++ [v], pl, zs, tc, x, tx⟩) (hx : ¬ P.limit < x) :
    PlSt.inv P ws₀ x₀ ⟨M', S', px', pt', q', e', ws ++ P.rows v, pl', zs ++ [⟨l, k, v, u, x, tx⟩], tc', x + (P.step + (((P.rows v).length : Int) - 1) * P.fee), t⟩ ∧
      P.meas (ws ++ P.rows v).length (x + (P.step + (((P.rows v).length : Int) - 1) * P.fee)) < P.meas (ws ++ [v]).length x := by
  have h13 := hP.rows v
  have hm : P.meas (ws ++ P.rows v).length (x + (P.step + (((P.rows v).length : Int) - 1) * P.fee)) < P.meas (ws ++ [v]).length x := by
    rw [List.length_append, List.length_append]
    exact P.meas_unf hP hx h13.1 h13.2
  obtain ⟨h1, h2⟩ := hI
  dsimp only at h1 h2
  refine ⟨⟨?_, ?_⟩, hm⟩
  · simp only [List.length_append, List.length_cons, List.length_nil] at h1 hm ⊢
    omega
  · intro r tk h
    have h' := h2 r ((v, x) :: tk) (.unf (by simp) (by rw [rot0]; exact popLast ws v) hx h)
    simpa [tkDat] using h'
theorem dots_count {r : List Str} (hr : r ≠ []) (hn : ∀ v ∈ r, isName v) : Txt.count (Txt.join (Str.ofString ".") r) (Str.ofString ".") = (r.length : Int) - 1 := by
  obtain ⟨a, r, rfl⟩ : ∃ a r', r = a :: r' := by cases r with | nil => exact absurd rfl hr | cons a b => exact ⟨a, b, rfl⟩
  rw [show Str.ofString "." = (⟨#[46]⟩ : Str) by decide, count_one, glued_cps, List.count_append]
  have h0 : ∀ v, isName v → v.cps.toList.count 46 = 0 := by
    rintro v (rfl | rfl | rfl) <;> decide +kernel
  rw [h0 a (hn a (.head _))]
  have : ∀ l : List Str, (∀ v ∈ l, isName v) → (l.flatMap fun p => (⟨#[46]⟩ : Str).cps.toList ++ p.cps.toList).count 46 = l.length := by
    intro l
    induction l with
    | nil => intro _; rfl
    | cons b l ih =>
      intro h
      rw [List.flatMap_cons, List.count_append, ih fun v hv => h v (.tail _ hv), List.count_append, h0 b (h b (.head _))]
      simp
      omega
  rw [this r fun v hv => hn v (.tail _ hv)]
  simp

set_option maxHeartbeats 0 in
theorem pileF (w : World) (p : Program) (loose : List Str) (mean : ExcName → Option Value) (mg mb : Str → Option Value)
  (P : Par) (hP : P.Ok) (hd : List Nat) (hhd : HdOk hd) (hhl : hd.length ≤ 100)
  (r : Addr) (x : Int) (t0 t1 t2 t3 t4 : Tok) (od : Obj) (ws : List Str) (Z : List (Addr × Obj)) (hne : ws ≠ [])
  (hws : P.meas ws.length x ≤ 100) (hnm : ∀ w ∈ ws, isName w)
  (kvs : List (Str × Value)) (hr : (r, od) ∈ Z) (hod : od.IsDictOf (strKind PySem.Challenge.rw_xg0056_01.row.prog w) kvs) (hrows : ∀ v, isName v → ∃ t, valueAt kvs v = some (.str (Txt.join (Str.ofString ".") (P.rows v)) t)) :
  Spec w p loose mean mg mb 174 20 [.str (pileS hd ws) t0, .ref r, .int x t1, .int P.limit t2, .int P.step t3, .int P.fee t4] Z (PilePost Z hd P ws x) := by
  unfold Spec
  k_fill
  intro dp un gd cn cs a ccd cl outer A₀ base h₀ L m s Q E B F X N T hk hd' hu hret
  k_dflt cell_enter
  rename Fr _ _ _ (fun _ => _) => F0; refine letM F0 ?_; clear F0; intro M0 F1
  refine letEA ?_; intro e9 A9
  obtain ⟨ws1, v1, rfl⟩ : ∃ a b, ws = a ++ [b] := ⟨ws.dropLast, ws.getLast hne, (List.dropLast_concat_getLast hne).symm⟩
  have hsz0 : (pileS hd (ws1 ++ [v1])).cps.size ≤ 1000 := by
    have h1 := pile_len (hd := hd) hnm
    have h2 : (ws1 ++ [v1]).length ≤ 100 := by unfold Par.meas at hws; omega
    omega
  obtain ⟨hh1, hh2, hh3⟩ := pile_hit (hd := hd) (ws := ws1) (hnm v1 (by simp)) (by omega)
  iterate 12 (focus (first | ((first | ((rename (∀ (f : Flow) (s : Shared), _ → _) => hq); (with_reducible refine Mine.cutQ hq ?_); clear hq; (rename (Flow → Shared → Prop) => qq); clear qq) | (with_reducible refine Mine.cutQ (by with_reducible assumption) ?_)); (try dsimp only)) | ((first | (k_unfold; (try dsimp only)) | (k_end; kc_close) | walk1 | (dsimp only; walk1) | (leave1; (try dsimp only)) | fail "no step"); (try ((with_reducible show wpAny _ _ (exec _ _) (fun _ _ => _) _ _); refine Mine.gen_Q ?_; intro QQ9 hQ9)))))
  refine gm_search (by k_asm) (by k_asm) ?_
  iterate 4 (focus (first | ((first | ((rename (∀ (f : Flow) (s : Shared), _ → _) => hq); (with_reducible refine Mine.cutQ hq ?_); clear hq; (rename (Flow → Shared → Prop) => qq); clear qq) | (with_reducible refine Mine.cutQ (by with_reducible assumption) ?_)); (try dsimp only)) | ((first | (k_unfold; (try dsimp only)) | (k_end; kc_close) | walk1 | (dsimp only; walk1) | (leave1; (try dsimp only)) | fail "no step"); (try ((with_reducible show wpAny _ _ (exec _ _) (fun _ _ => _) _ _); refine Mine.gen_Q ?_; intro QQ9 hQ9)))))
  refine search_someK (by k_asm) (by k_asm) (by k_asm) (by omega) hh1 hh2 ?_
  intro M S h1 F1 N1 l1 l2; (try k_lt l1); (try k_sweep)
  iterate 4 (focus (first | ((first | ((rename (∀ (f : Flow) (s : Shared), _ → _) => hq); (with_reducible refine Mine.cutQ hq ?_); clear hq; (rename (Flow → Shared → Prop) => qq); clear qq) | (with_reducible refine Mine.cutQ (by with_reducible assumption) ?_)); (try dsimp only)) | ((first | (k_unfold; (try dsimp only)) | (k_end; kc_close) | walk1 | (dsimp only; walk1) | (leave1; (try dsimp only)) | fail "no step"); (try ((with_reducible show wpAny _ _ (exec _ _) (fun _ _ => _) _ _); refine Mine.gen_Q ?_; intro QQ9 hQ9)))))
  rename_i T' hA l0 hB tkA hC F2 N2
  have hm1 : @Ne Nat M T' := Ne.symm (Nat.ne_of_lt (Nat.lt_trans l1.1 l2))
  have hs1 : @Ne Nat S T' := Ne.symm (Nat.ne_of_lt l1.1)
  refine while_g (PlSt.led T' Z) (PlSt.ps hd) (PlSt.Facts hd T' Z) ["word"] (PlSt.inv P (ws1 ++ [v1]) x) (fun c => P.meas c.ws.length c.x) ⟨M, S, pileS hd (ws1 ++ [v1]), t0, pq hd ws1, pq hd ws1 + 1 + nDig (pileS hd (ws1 ++ [v1])).cps (pq hd ws1), ws1 ++ [v1], t0, [], 0, x, t1⟩ F2 ?_ ?_ ?_ ?_ ?_
  · refine kst_newsOf N2 ?_
    intro q hq
    simp only [PlSt.led, tkLed, List.map_nil, List.nil_append, List.mem_cons] at hq ⊢
    rcases hq with h | h | h | h <;> simp [h]
  · refine ⟨hm1, hs1, allNe_all l0, hnm, ?_⟩
    intro ws v he
    obtain ⟨rfl, he⟩ := List.append_inj' (show ws1 ++ [v1] = ws ++ [v] from he) rfl
    rename [v1] = [v] => he1
    obtain ⟨rfl, _⟩ := List.cons.inj he1
    exact ⟨rfl, rfl, by dsimp only; rw [hh3]⟩
  · intro q hq
    simp only [PlSt.ps, List.mem_cons, List.not_mem_nil, or_false] at hq
    rcases hq with rfl | rfl | rfl
    · simp
    · rfl
    · rfl
  · exact ⟨by simpa using hws, fun r tk h => h⟩
  · rintro ⟨M', S', px, pt, q, e, ws', pl, zs, tc, x', tx⟩ u h tk QB hB hFa hI FF NN
    obtain ⟨ne1, ne2, hT, hn, hit⟩ := hFa
    dsimp only at ne1 ne2 hT hn hit
    rcases List.eq_nil_or_concat ws' with rfl | ⟨wl, v, rfl⟩
    · dsimp only [PlSt.ps, PlSt.led] at FF NN
      rw [if_pos rfl] at FF
      iterate 21 (focus (first | ((first | ((rename (∀ (f : Flow) (s : Shared), _ → _) => hq); (with_reducible refine Mine.cutQ hq ?_); clear hq; (rename (Flow → Shared → Prop) => qq); clear qq) | (with_reducible refine Mine.cutQ (by with_reducible assumption) ?_)); (try dsimp only)) | ((first | (k_unfold; (try dsimp only)) | (k_end; kc_close) | walk1 | (dsimp only; walk1) | (leave1; (try dsimp only)) | fail "no step"); (try ((with_reducible show wpAny _ _ (exec _ _) (fun _ _ => _) _ _); refine Mine.gen_Q ?_; intro QQ9 hQ9)))))
      have hfin := hI.2 x' [] (.nil x' 0)
      rw [List.append_nil] at hfin
      refine hret _ _ _ _ ⟨_, 0, T', tc, zs, x', tx, pl, rfl, rfl, by have := hI.1; dsimp only at this; omega, hfin⟩ (by k_asm) (kst_newsOf (by k_asm) ?_)
      intro q hq
      simp only [List.mem_cons] at hq ⊢
      rcases hq with hq | hq | hq
      · exact .inl hq
      · exact .inr (.inl hq)
      · exact .inr (.inr (.inr (.inr hq)))
    · rw [List.concat_eq_append] at hn hit hI FF NN hB
      dsimp only [PlSt.ps, PlSt.led] at FF NN
      rw [if_neg (by simp)] at FF
      obtain ⟨rfl, rfl, rfl⟩ := hit wl v rfl
      have hzl : zs.length ≤ 100 := by have := hI.1; dsimp only at this; omega
      have hwl : wl.length + 1 ≤ 100 := by have := hI.1; simp only [Par.meas, List.length_append, List.length_cons, List.length_nil] at this; omega
      have hnv : isName v := hn v (by simp)
      have hnl : ∀ u ∈ wl, isName u := fun u hu => hn u (List.mem_append_left _ hu)
      have hsz : (pileS hd (wl ++ [v])).cps.size ≤ 1000 := by
        have h1 := pile_len (hd := hd) hn
        simp only [List.length_append, List.length_cons, List.length_nil] at h1
        omega
      have hpsz := pile_size hd wl v
      iterate 11 (focus (first | ((first | ((rename (∀ (f : Flow) (s : Shared), _ → _) => hq); (with_reducible refine Mine.cutQ hq ?_); clear hq; (rename (Flow → Shared → Prop) => qq); clear qq) | (with_reducible refine Mine.cutQ (by with_reducible assumption) ?_)); (try dsimp only)) | ((first | (k_unfold; (try dsimp only)) | (k_end; kc_close) | walk1 | (dsimp only; walk1) | (leave1; (try dsimp only)) | fail "no step"); (try ((with_reducible show wpAny _ _ (exec _ _) (fun _ _ => _) _ _); refine Mine.gen_Q ?_; intro QQ9 hQ9)))))
      dsimp only
      refine gm_ma (by k_asm) (by k_mem) slot_group type_group ?_
      iterate 4 (focus (first | ((first | ((rename (∀ (f : Flow) (s : Shared), _ → _) => hq); (with_reducible refine Mine.cutQ hq ?_); clear hq; (rename (Flow → Shared → Prop) => qq); clear qq) | (with_reducible refine Mine.cutQ (by with_reducible assumption) ?_)); (try dsimp only)) | ((first | (k_unfold; (try dsimp only)) | (k_end; kc_close) | walk1 | (dsimp only; walk1) | (leave1; (try dsimp only)) | fail "no step"); (try ((with_reducible show wpAny _ _ (exec _ _) (fun _ _ => _) _ _); refine Mine.gen_Q ?_; intro QQ9 hQ9)))))
      refine group_K (by k_asm) (by k_mem) (by k_mem) (by omega) ?_
      iterate 5 (focus (first | ((first | ((rename (∀ (f : Flow) (s : Shared), _ → _) => hq); (with_reducible refine Mine.cutQ hq ?_); clear hq; (rename (Flow → Shared → Prop) => qq); clear qq) | (with_reducible refine Mine.cutQ (by with_reducible assumption) ?_)); (try dsimp only)) | ((first | (k_unfold; (try dsimp only)) | (k_end; kc_close) | walk1 | (dsimp only; walk1) | (leave1; (try dsimp only)) | fail "no step"); (try ((with_reducible show wpAny _ _ (exec _ _) (fun _ _ => _) _ _); refine Mine.gen_Q ?_; intro QQ9 hQ9)))))
      dsimp only
      refine slice_strN_sn (hsz := ?hsz) (s := ⟨_, _, _, _, _⟩) (by k_asm) (by k_asm) ?_
      case hsz => simp only [Str.length, Array.size_extract, sizeLine_eq]; omega
      intro h3 t3 tk3 F3 N3
      rw [pile_group]
      iterate 12 (focus (first | ((first | ((rename (∀ (f : Flow) (s : Shared), _ → _) => hq); (with_reducible refine Mine.cutQ hq ?_); clear hq; (rename (Flow → Shared → Prop) => qq); clear qq) | (with_reducible refine Mine.cutQ (by with_reducible assumption) ?_)); (try dsimp only)) | ((first | (k_unfold; (try dsimp only)) | (k_end; kc_close) | walk1 | (dsimp only; walk1) | (leave1; (try dsimp only)) | fail "no step"); (try ((with_reducible show wpAny _ _ (exec _ _) (fun _ _ => _) _ _); refine Mine.gen_Q ?_; intro QQ9 hQ9)))))
      refine' Spec.use2 (unm w p loose mean mg mb M' S' _ _ (pq hd wl) (pq hd wl + 1 + v.cps.size) _ ?h1 ?h2 ?h3 ?h4 ?h5) ?B ?F ?X ?N ?T rfl ?d ?u (k1_0 ?_)
      case N => k_asm
      case h1 => k_mem
      case h2 => k_mem
      case h3 => omega
      case h4 => omega
      case h5 => omega
      case B => k_asm
      case F => k_asm
      case X => k_asm
      case T => k_asm
      case d => ktr_room
      case u => ktr_units
      intro t4 h4 tk4 F4 N4; (try k_sweep)
      rw [pile_unm]
      iterate 7 (focus (first | ((first | ((rename (∀ (f : Flow) (s : Shared), _ → _) => hq); (with_reducible refine Mine.cutQ hq ?_); clear hq; (rename (Flow → Shared → Prop) => qq); clear qq) | (with_reducible refine Mine.cutQ (by with_reducible assumption) ?_)); (try dsimp only)) | ((first | (k_unfold; (try dsimp only)) | (k_end; kc_close) | walk1 | (dsimp only; walk1) | (leave1; (try dsimp only)) | fail "no step"); (try ((with_reducible show wpAny _ _ (exec _ _) (fun _ _ => _) _ _); refine Mine.gen_Q ?_; intro QQ9 hQ9)))))
      iterate 35 (focus (first | ((first | ((rename (∀ (f : Flow) (s : Shared), _ → _) => hq); (with_reducible refine Mine.cutQ hq ?_); clear hq; (rename (Flow → Shared → Prop) => qq); clear qq) | (with_reducible refine Mine.cutQ (by with_reducible assumption) ?_)); (try dsimp only)) | ((first | (k_unfold; (try dsimp only)) | (k_end; kc_close) | walk1 | (dsimp only; walk1) | (leave1; (try dsimp only)) | fail "no step"); (try ((with_reducible show wpAny _ _ (exec _ _) (fun _ _ => _) _ _); refine Mine.gen_Q ?_; intro QQ9 hQ9)))))
      · rename P.limit < x' => hx1
        refine gm_search (by k_asm) (by k_asm) ?_
        rcases List.eq_nil_or_concat wl with rfl | ⟨wm, v2, rfl⟩
        · iterate 4 (focus (first | ((first | ((rename (∀ (f : Flow) (s : Shared), _ → _) => hq); (with_reducible refine Mine.cutQ hq ?_); clear hq; (rename (Flow → Shared → Prop) => qq); clear qq) | (with_reducible refine Mine.cutQ (by with_reducible assumption) ?_)); (try dsimp only)) | ((first | (k_unfold; (try dsimp only)) | (k_end; kc_close) | walk1 | (dsimp only; walk1) | (leave1; (try dsimp only)) | fail "no step"); (try ((with_reducible show wpAny _ _ (exec _ _) (fun _ _ => _) _ _); refine Mine.gen_Q ?_; intro QQ9 hQ9)))))
          refine search_noneK (by k_asm) (by k_asm) (by have := pile_len (hd := hd) hnl; simp at this; omega) (pile_miss hhd) ?_
          iterate 6 (focus (first | ((first | ((rename (∀ (f : Flow) (s : Shared), _ → _) => hq); (with_reducible refine Mine.cutQ hq ?_); clear hq; (rename (Flow → Shared → Prop) => qq); clear qq) | (with_reducible refine Mine.cutQ (by with_reducible assumption) ?_)); (try dsimp only)) | ((first | (k_unfold; (try dsimp only)) | (k_end; kc_close) | walk1 | (dsimp only; walk1) | (leave1; (try dsimp only)) | fail "no step"); (try ((with_reducible show wpAny _ _ (exec _ _) (fun _ _ => _) _ _); refine Mine.gen_Q ?_; intro QQ9 hQ9)))))
          refine' ksw_end ⟨M', S', _, _, _, _, [], ?_, zs ++ [⟨?_, 0, v, ?_, x', tx⟩], tc + 1, x' - P.fee, ?_⟩ ?F ?N ?hn ?hf ?hk ?hr ?hp ?hm
          case F => k_asm
          case N => k_asm
          case hk => (dsimp only [PlSt.ps]; rw [if_pos rfl]; kst_all)
          case hn => exact pl_led_push _ (by k_mem) (by k_mem) (by k_mem) (by k_mem) (by intro q hq; repeat' (first | exact hq | apply List.Mem.tail))
          case hf => exact plFacts_push _ ne1 ne2 hT (by k_ne) hnl (by intro ws' v' he; simp at he)
          case hr => (dsimp only [PlSt.ps, kstB]; ksw_same)
          case hp => exact (pl_pop hI hx1).1
          case hm => exact (pl_meas_pop P [] v x')
        · rw [List.concat_eq_append] at *
          iterate 4 (focus (first | ((first | ((rename (∀ (f : Flow) (s : Shared), _ → _) => hq); (with_reducible refine Mine.cutQ hq ?_); clear hq; (rename (Flow → Shared → Prop) => qq); clear qq) | (with_reducible refine Mine.cutQ (by with_reducible assumption) ?_)); (try dsimp only)) | ((first | (k_unfold; (try dsimp only)) | (k_end; kc_close) | walk1 | (dsimp only; walk1) | (leave1; (try dsimp only)) | fail "no step"); (try ((with_reducible show wpAny _ _ (exec _ _) (fun _ _ => _) _ _); refine Mine.gen_Q ?_; intro QQ9 hQ9)))))
          have hszn : (pileS hd (wm ++ [v2])).cps.size ≤ 1000 := by
            have h1 := pile_len (hd := hd) hnl
            simp only [List.length_append, List.length_cons, List.length_nil] at h1 hwl
            omega
          obtain ⟨hg1, hg2, hg3⟩ := pile_hit (hd := hd) (ws := wm) (hnl v2 (by simp)) (by omega)
          refine search_someK (by k_asm) (by k_asm) (by k_asm) (by omega) hg1 hg2 ?_
          intro M2 S2 h6 F6 N6 l6 l7; (try k_lt l6); (try k_sweep)
          iterate 6 (focus (first | ((first | ((rename (∀ (f : Flow) (s : Shared), _ → _) => hq); (with_reducible refine Mine.cutQ hq ?_); clear hq; (rename (Flow → Shared → Prop) => qq); clear qq) | (with_reducible refine Mine.cutQ (by with_reducible assumption) ?_)); (try dsimp only)) | ((first | (k_unfold; (try dsimp only)) | (k_end; kc_close) | walk1 | (dsimp only; walk1) | (leave1; (try dsimp only)) | fail "no step"); (try ((with_reducible show wpAny _ _ (exec _ _) (fun _ _ => _) _ _); refine Mine.gen_Q ?_; intro QQ9 hQ9)))))
          refine' ksw_end ⟨M2, S2, pileS hd (wm ++ [v2]), _, pq hd wm, _, wm ++ [v2], ?_, zs ++ [⟨?_, 0, v, ?_, x', tx⟩], tc + 1, x' - P.fee, ?_⟩ ?F ?N ?hn ?hf ?hk ?hr ?hp ?hm
          case F => k_asm
          case N => k_asm
          case hk => (dsimp only [PlSt.ps]; rw [if_neg (by simp)]; kst_all)
          case hn => exact pl_led_push _ (by k_mem) (by k_mem) (by k_mem) (by k_mem) (by intro q hq; repeat' (first | exact hq | apply List.Mem.tail))
          case hf => exact plFacts_push _ (Ne.symm (Nat.ne_of_lt (Nat.lt_trans l6.2.1 l7))) (Ne.symm (Nat.ne_of_lt l6.2.1)) hT (by k_ne) hnl (by intro ws' v' he; obtain ⟨rfl, h2⟩ := List.append_inj' he rfl; obtain ⟨rfl, _⟩ := List.cons.inj h2; exact ⟨rfl, rfl, by rw [hg3]⟩)
          case hr => (dsimp only [PlSt.ps, kstB]; ksw_same)
          case hp => exact (pl_pop hI hx1).1
          case hm => exact (pl_meas_pop P (wm ++ [v2]) v x')
      · rename ¬ P.limit < x' => hx1
        obtain ⟨tt, htt⟩ := hrows v hnv
        have hr13 := hP.rows v
        have hrr0 : P.rows v ≠ [] := by intro e; rw [e] at hr13; simp at hr13
        have hnr := hP.names v
        have hct := dots_count hrr0 hnr
        iterate 10 (focus (first | ((first | ((rename (∀ (f : Flow) (s : Shared), _ → _) => hq); (with_reducible refine Mine.cutQ hq ?_); clear hq; (rename (Flow → Shared → Prop) => qq); clear qq) | (with_reducible refine Mine.cutQ (by with_reducible assumption) ?_)); (try dsimp only)) | ((first | (k_unfold; (try dsimp only)) | (k_end; kc_close) | walk1 | (dsimp only; walk1) | (leave1; (try dsimp only)) | fail "no step"); (try ((with_reducible show wpAny _ _ (exec _ _) (fun _ _ => _) _ _); refine Mine.gen_Q ?_; intro QQ9 hQ9)))))
        refine dict_item (by k_asm) (by repeat' (first | exact (List.mem_append_right (tkLed zs) hr) | apply List.Mem.tail)) hod htt ?_
        iterate 5 (focus (first | ((first | ((rename (∀ (f : Flow) (s : Shared), _ → _) => hq); (with_reducible refine Mine.cutQ hq ?_); clear hq; (rename (Flow → Shared → Prop) => qq); clear qq) | (with_reducible refine Mine.cutQ (by with_reducible assumption) ?_)); (try dsimp only)) | ((first | (k_unfold; (try dsimp only)) | (k_end; kc_close) | walk1 | (dsimp only; walk1) | (leave1; (try dsimp only)) | fail "no step"); (try ((with_reducible show wpAny _ _ (exec _ _) (fun _ _ => _) _ _); refine Mine.gen_Q ?_; intro QQ9 hQ9)))))
        refine SC.count ?_
        rw [hct]
        have hps : (pileS hd wl).cps.size ≤ 1000 := by
          have h1 := pile_len (hd := hd) hnl
          omega
        have hL1 : (Txt.slice (pileS hd wl) none (some (-1))).length ≤ 1000 := by
          have := PyProof.Txt.length_slice_le (pileS hd wl) none (some (-1))
          unfold Str.length at this ⊢
          omega
        have hL2 : (Txt.join (Str.ofString ".") (P.rows v)).length ≤ 20 := join_len hr13.2 hnr
        have hL3 : (Str.ofString ".").length = 1 := by decide
        have hL4 : (Str.ofString "\n").length = 1 := by decide
        iterate 21 (focus (first | ((first | ((rename (∀ (f : Flow) (s : Shared), _ → _) => hq); (with_reducible refine Mine.cutQ hq ?_); clear hq; (rename (Flow → Shared → Prop) => qq); clear qq) | (with_reducible refine Mine.cutQ (by with_reducible assumption) ?_)); (try dsimp only)) | ((first | (k_unfold; (try dsimp only)) | (k_end; kc_close) | walk1 | (dsimp only; walk1) | (leave1; (try dsimp only)) | fail "no step"); (try ((with_reducible show wpAny _ _ (exec _ _) (fun _ _ => _) _ _); refine Mine.gen_Q ?_; intro QQ9 hQ9)))))
        dsimp only
        refine slice_strN_ns (hsz := ?hsz) (s := ⟨_, _, _, _, _⟩) (by k_asm) (by k_asm) ?_
        case hsz => simp only [Str.length, sizeLine_eq]; omega
        intro h5 t5 tk5 F5 N5
        iterate 1 (focus (first | ((first | ((rename (∀ (f : Flow) (s : Shared), _ → _) => hq); (with_reducible refine Mine.cutQ hq ?_); clear hq; (rename (Flow → Shared → Prop) => qq); clear qq) | (with_reducible refine Mine.cutQ (by with_reducible assumption) ?_)); (try dsimp only)) | ((first | (k_unfold; (try dsimp only)) | (k_end; kc_close) | walk1 | (dsimp only; walk1) | (leave1; (try dsimp only)) | fail "no step"); (try ((with_reducible show wpAny _ _ (exec _ _) (fun _ _ => _) _ _); refine Mine.gen_Q ?_; intro QQ9 hQ9)))))
        refine PyProof.Rows.add_str ?_ (by simp only [Str.length_append, sizeLine_eq]; omega)
        iterate 5 (focus (first | ((first | ((rename (∀ (f : Flow) (s : Shared), _ → _) => hq); (with_reducible refine Mine.cutQ hq ?_); clear hq; (rename (Flow → Shared → Prop) => qq); clear qq) | (with_reducible refine Mine.cutQ (by with_reducible assumption) ?_)); (try dsimp only)) | ((first | (k_unfold; (try dsimp only)) | (k_end; kc_close) | walk1 | (dsimp only; walk1) | (leave1; (try dsimp only)) | fail "no step"); (try ((with_reducible show wpAny _ _ (exec _ _) (fun _ _ => _) _ _); refine Mine.gen_Q ?_; intro QQ9 hQ9)))))
        refine dict_item (by k_asm) (by repeat' (first | exact (List.mem_append_right (tkLed zs) hr) | apply List.Mem.tail)) hod htt ?_
        iterate 2 (focus (first | ((first | ((rename (∀ (f : Flow) (s : Shared), _ → _) => hq); (with_reducible refine Mine.cutQ hq ?_); clear hq; (rename (Flow → Shared → Prop) => qq); clear qq) | (with_reducible refine Mine.cutQ (by with_reducible assumption) ?_)); (try dsimp only)) | ((first | (k_unfold; (try dsimp only)) | (k_end; kc_close) | walk1 | (dsimp only; walk1) | (leave1; (try dsimp only)) | fail "no step"); (try ((with_reducible show wpAny _ _ (exec _ _) (fun _ _ => _) _ _); refine Mine.gen_Q ?_; intro QQ9 hQ9)))))
        refine PyProof.Rows.add_str ?_ (by simp only [Str.length_append, sizeLine_eq]; omega)
        iterate 11 (focus (first | ((first | ((rename (∀ (f : Flow) (s : Shared), _ → _) => hq); (with_reducible refine Mine.cutQ hq ?_); clear hq; (rename (Flow → Shared → Prop) => qq); clear qq) | (with_reducible refine Mine.cutQ (by with_reducible assumption) ?_)); (try dsimp only)) | ((first | (k_unfold; (try dsimp only)) | (k_end; kc_close) | walk1 | (dsimp only; walk1) | (leave1; (try dsimp only)) | fail "no step"); (try ((with_reducible show wpAny _ _ (exec _ _) (fun _ _ => _) _ _); refine Mine.gen_Q ?_; intro QQ9 hQ9)))))
        obtain ⟨rm, v2, hrv⟩ : ∃ a b, P.rows v = a ++ [b] := ⟨(P.rows v).dropLast, (P.rows v).getLast hrr0, (List.dropLast_concat_getLast hrr0).symm⟩
        have hws2 : wl ++ P.rows v = (wl ++ rm) ++ [v2] := by rw [hrv, List.append_assoc]
        have hnl2 : ∀ u ∈ (wl ++ rm) ++ [v2], isName u := by
          intro u hu
          rw [← hws2] at hu
          exact (List.mem_append.mp hu).elim (hnl u) (hnr u)
        rename Fr _ _ _ _ => FP
        rw [pile_put hd wl hrr0, hws2] at FP
        refine gm_search (by k_asm) (by k_asm) ?_
        have hszn : (pileS hd ((wl ++ rm) ++ [v2])).cps.size ≤ 1000 := by
          have h1 := pile_len (hd := hd) hnl2
          have h2 := congrArg List.length hrv
          simp only [List.length_append, List.length_cons, List.length_nil] at h1 h2 hwl
          omega
        obtain ⟨hg1, hg2, hg3⟩ := pile_hit (hd := hd) (ws := (wl ++ rm)) (hnl2 v2 (by simp)) (by omega)
        iterate 4 (focus (first | ((first | ((rename (∀ (f : Flow) (s : Shared), _ → _) => hq); (with_reducible refine Mine.cutQ hq ?_); clear hq; (rename (Flow → Shared → Prop) => qq); clear qq) | (with_reducible refine Mine.cutQ (by with_reducible assumption) ?_)); (try dsimp only)) | ((first | (k_unfold; (try dsimp only)) | (k_end; kc_close) | walk1 | (dsimp only; walk1) | (leave1; (try dsimp only)) | fail "no step"); (try ((with_reducible show wpAny _ _ (exec _ _) (fun _ _ => _) _ _); refine Mine.gen_Q ?_; intro QQ9 hQ9)))))
        refine search_someK (by k_asm) (by k_asm) (by k_asm) (by omega) hg1 hg2 ?_
        intro M2 S2 h6 F6 N6 l6 l7; (try k_lt l6); (try k_sweep)
        iterate 6 (focus (first | ((first | ((rename (∀ (f : Flow) (s : Shared), _ → _) => hq); (with_reducible refine Mine.cutQ hq ?_); clear hq; (rename (Flow → Shared → Prop) => qq); clear qq) | (with_reducible refine Mine.cutQ (by with_reducible assumption) ?_)); (try dsimp only)) | ((first | (k_unfold; (try dsimp only)) | (k_end; kc_close) | walk1 | (dsimp only; walk1) | (leave1; (try dsimp only)) | fail "no step"); (try ((with_reducible show wpAny _ _ (exec _ _) (fun _ _ => _) _ _); refine Mine.gen_Q ?_; intro QQ9 hQ9)))))
        refine' ksw_end ⟨M2, S2, pileS hd ((wl ++ rm) ++ [v2]), _, pq hd (wl ++ rm), _, (wl ++ rm) ++ [v2], ?_, zs ++ [⟨?_, 0, v, ?_, x', tx⟩], tc + 1, x' + (P.step + (((P.rows v).length : Int) - 1) * P.fee), ?_⟩ ?F ?N ?hn ?hf ?hk ?hr ?hp ?hm
        case F => k_asm
        case N => k_asm
        case hk => (dsimp only [PlSt.ps]; rw [if_neg (by simp)]; kst_all)
        case hn => exact pl_led_push _ (by k_mem) (by k_mem) (by k_mem) (by k_mem) (by intro q hq; repeat' (first | exact hq | apply List.Mem.tail))
        case hf => exact plFacts_push _ (Ne.symm (Nat.ne_of_lt (Nat.lt_trans l6.2.1 l7))) (Ne.symm (Nat.ne_of_lt l6.2.1)) hT (by k_ne) hnl2 (by intro ws' v' he; obtain ⟨rfl, h2⟩ := List.append_inj' he rfl; obtain ⟨rfl, _⟩ := List.cons.inj h2; exact ⟨rfl, rfl, by rw [hg3]⟩)
        case hr => (dsimp only [PlSt.ps, kstB]; ksw_same)
        case hp => exact (by rw [← hws2]; exact (pl_unf hP hI hx1).1)
        case hm => exact (by rw [← hws2]; exact pl_meas_unf hP wl v hx1)
end Mine
end
section
open PySem PySem.W PyProof.Rows PyProof.V PySem.Spec PySem.SeqAt
set_option maxRecDepth 100000
namespace Mine

theorem fr_off {h₀ h : Heap} {L : Addr} {m₀ m₁ : Str → Option Value} {x : Str} (F : Fr h₀ L h m₁) (hm : ∀ y, y ≠ x → m₁ y = m₀ y) : Fr h₀ L h (fun y => if y = x then m₁ y else m₀ y) := by
  have e : (fun y => if y = x then m₁ y else m₀ y) = m₁ := by
    funext y
    by_cases h : y = x
    · rw [if_pos h]
    · rw [if_neg h]; exact (hm y h).symm
  rw [e]
  exact F

def LinePost (Z : List (Addr × Obj)) (pb : Addr) (P : Par) (ws₀ : List Str) (x₀ b₀ : Int) (v : Value) (news' : List (Addr × Obj)) : Prop :=
  ∃ D c T tc zs x tx n, v = .ref D ∧ news' = (D, listOf [Value.int x tx, Value.ref T].toArray c) :: (T, listOf (tkRefs zs).toArray tc) :: (pb, listOf (svs []).toArray n) :: (tkLed zs ++ Z) ∧ zs.length ≤ 100 ∧ Runs P 0 ws₀ x₀ b₀ x (tkDat zs)

set_option maxHeartbeats 0 in
theorem line (w : World) (p : Program) (loose : List Str) (mean : ExcName → Option Value) (mg mb : Str → Option Value)
  (P : Par) (hP : P.Ok)
  (lx dx pb hx r f : Addr) (k1 k2 k3 k4 tl tw : Tok) (ln : Int) (wh : Str) (n₀ : Nat)
  (x bits : Int) (t1 t2 t3 t4 t5 : Tok) (od : Obj) (ws : List (Str × Tok)) (nf : Nat) (Z : List (Addr × Obj))
  (hlx : (lx, instObj 130 dx) ∈ Z) (hdx : (dx, lxD w.params k1 k2 k3 k4 ln tl (.ref hx) wh tw pb) ∈ Z) (hpb : ∀ p ∈ Z, p.1 ≠ pb)
  (hws : P.meas ws.length x ≤ 100) (hf : (f, listOf (svs ws).toArray nf) ∈ Z) (hnm : ∀ w ∈ ws, isName w.1)
  (kvs : List (Str × Value)) (hr : (r, od) ∈ Z) (hod : od.IsDictOf (strKind PySem.Challenge.rw_xg0056_01.row.prog w) kvs) (hrows : ∀ v, isName v → ∃ a rr n, (a, listOf (svs rr).toArray n) ∈ Z ∧ wds rr = P.rows v ∧ valueAt kvs v = some (.ref a)) :
  Spec w p loose mean mg mb 181 10 [.ref lx, .ref r, .ref f, .int x t1, .int P.limit t2, .int P.step t3, .int P.fee t4, .int bits t5] ((pb, listOf (svs []).toArray n₀) :: Z) (LinePost Z pb P (wds ws) x bits) := by
  unfold Spec
  k_fill
  intro dp un gd cn cs a ccd cl outer A₀ base h₀ L m s Q E B F X N T hk hd hu hret
  k_dflt cell_enter
  rename Fr _ _ _ (fun _ => _) => F0; refine letM F0 ?_; clear F0; intro M0 F1
  refine letEA ?_; intro e9 A9
  iterate 2 (focus (first | ((first | ((rename (∀ (f : Flow) (s : Shared), _ → _) => hq); (with_reducible refine Mine.cutQ hq ?_); clear hq; (rename (Flow → Shared → Prop) => qq); clear qq) | (with_reducible refine Mine.cutQ (by with_reducible assumption) ?_)); (try dsimp only)) | ((first | (k_unfold; (try dsimp only)) | (k_end; kc_close) | walk1 | (dsimp only; walk1) | (leave1; (try dsimp only)) | fail "no step"); (try ((with_reducible show wpAny _ _ (exec _ _) (fun _ _ => _) _ _); refine Mine.gen_Q ?_; intro QQ9 hQ9)))))
  refine wpAny_For ?_
  iterate 1 (focus (first | ((first | ((rename (∀ (f : Flow) (s : Shared), _ → _) => hq); (with_reducible refine Mine.cutQ hq ?_); clear hq; (rename (Flow → Shared → Prop) => qq); clear qq) | (with_reducible refine Mine.cutQ (by with_reducible assumption) ?_)); (try dsimp only)) | ((first | (k_unfold; (try dsimp only)) | (k_end; kc_close) | walk1 | (dsimp only; walk1) | (leave1; (try dsimp only)) | fail "no step"); (try ((with_reducible show wpAny _ _ (exec _ _) (fun _ _ => _) _ _); refine Mine.gen_Q ?_; intro QQ9 hQ9)))))
  refine iter_list (by k_asm) (by k_asm) (List.Mem.tail _ hf) ?_
  intro I o h1 hI F1 N1 l1; k_lt l1; k_sweep
  have hwl : ws.length ≤ 100 := by unfold Par.meas at hws; omega
  refine For_g (σ := Nat × Obj × Nat) (fun c => (I, c.2.1) :: (pb, listOf (svs (ws.take c.1)).toArray c.2.2) :: Z) (fun _ => []) (fun c => IsIt f c.1 c.2.1) ["word"] (fun c => c.1 ≤ ws.length) (fun c => ws.length - c.1) (0, o, n₀) F1 N1 hI ?_ (Nat.zero_le _) ?_
  · intro q hq; cases hq
  rintro ⟨i, o', n'⟩ u h tk QB hB hF hP' FF NN
  dsimp only [kstB] at FF NN hF hP'
  have hI2 : ∀ p ∈ ((pb, listOf (svs (ws.take i)).toArray n') :: Z), p.1 ≠ I := by
    intro q hq
    rcases List.mem_cons.mp hq with rfl | hq
    · exact Nat.ne_of_lt l1.1
    · exact allNe_lt l1.2 q hq
  rcases Nat.lt_or_ge i ws.length with hlt | hge
  · refine next_list (v := sv ws[i]) FF NN hF hI2 (List.Mem.tail _ hf) (by simp [svs, hlt]) ?_
    intro h2 o2 hI2' F2 N2; k_sweep
    dsimp only
    iterate 12 (focus (first | ((first | ((rename (∀ (f : Flow) (s : Shared), _ → _) => hq); (with_reducible refine Mine.cutQ hq ?_); clear hq; (rename (Flow → Shared → Prop) => qq); clear qq) | (with_reducible refine Mine.cutQ (by with_reducible assumption) ?_)); (try dsimp only)) | ((first | (k_unfold; (try dsimp only)) | (k_end; kc_close) | walk1 | (dsimp only; walk1) | (leave1; (try dsimp only)) | fail "no step"); (try ((with_reducible show wpAny _ _ (exec _ _) (fun _ _ => _) _ _); refine Mine.gen_Q ?_; intro QQ9 hQ9)))))
    refine' Spec.use2 (pushTok w p loose mean mg mb lx dx pb hx k1 k2 k3 k4 tl tw ln wh ws[i] (ws.take i) n' _ _ ?h1 ?h2 ?h3 ?h4 ?U) ?B ?F ?X ?N ?T rfl ?d ?u (k0_0 ?_)
    case N => k_asm
    case h1 => exact .tail _ (.tail _ hlx)
    case h2 => exact .tail _ (.tail _ hdx)
    case h3 => k_mem
    case h4 => (first | omega | (simp; omega))
    case U => k_upd
    case B => k_asm
    case F => k_asm
    case X => k_asm
    case T => k_asm
    case d => ktr_room
    case u => ktr_units
    intro h3 tk3 F3 N3; k_sweep
    iterate 4 (focus (first | ((first | ((rename (∀ (f : Flow) (s : Shared), _ → _) => hq); (with_reducible refine Mine.cutQ hq ?_); clear hq; (rename (Flow → Shared → Prop) => qq); clear qq) | (with_reducible refine Mine.cutQ (by with_reducible assumption) ?_)); (try dsimp only)) | ((first | (k_unfold; (try dsimp only)) | (k_end; kc_close) | walk1 | (dsimp only; walk1) | (leave1; (try dsimp only)) | fail "no step"); (try ((with_reducible show wpAny _ _ (exec _ _) (fun _ _ => _) _ _); refine Mine.gen_Q ?_; intro QQ9 hQ9)))))
    rw [List.take_append_getElem] at N3
    exact ksw_end (i + 1, o2, n' + 1) F3 N3 (fun q hq => hq) hI2' (fun q hq => nomatch hq) (by intro z _ hz; have hz' : z ≠ Str.ofString "word" := (by simpa using hz); rw [if_neg hz', if_neg (by rw [hz]; decide)]; try rfl) hlt (by dsimp only; omega)
  · refine next_list_end rfl FF NN hF hI2 (List.Mem.tail _ hf) (by simp [svs]; omega) ?_
    intro h2 F2 N2; k_sweep
    have hi : i = ws.length := by omega
    subst hi
    rw [List.take_length] at N2
    dsimp only
    iterate 9 (focus (first | ((first | ((rename (∀ (f : Flow) (s : Shared), _ → _) => hq); (with_reducible refine Mine.cutQ hq ?_); clear hq; (rename (Flow → Shared → Prop) => qq); clear qq) | (with_reducible refine Mine.cutQ (by with_reducible assumption) ?_)); (try dsimp only)) | ((first | (k_unfold; (try dsimp only)) | (k_end; kc_close) | walk1 | (dsimp only; walk1) | (leave1; (try dsimp only)) | fail "no step"); (try ((with_reducible show wpAny _ _ (exec _ _) (fun _ _ => _) _ _); refine Mine.gen_Q ?_; intro QQ9 hQ9)))))
    refine lenS (by k_asm) (by k_mem) (by omega) ?_
    iterate 12 (focus (first | ((first | ((rename (∀ (f : Flow) (s : Shared), _ → _) => hq); (with_reducible refine Mine.cutQ hq ?_); clear hq; (rename (Flow → Shared → Prop) => qq); clear qq) | (with_reducible refine Mine.cutQ (by with_reducible assumption) ?_)); (try dsimp only)) | ((first | (k_unfold; (try dsimp only)) | (k_end; kc_close) | walk1 | (dsimp only; walk1) | (leave1; (try dsimp only)) | fail "no step"); (try ((with_reducible show wpAny _ _ (exec _ _) (fun _ _ => _) _ _); refine Mine.gen_Q ?_; intro QQ9 hQ9)))))
    rename Fr _ _ _ _ => FW
    rename News _ _ _ ((_, listOf #[] 0) :: _) => NW
    rename _ < _ ∧ AllLt _ Z => lT
    rename_i T' _ _
    refine' while_g (σ := PSt × Tok) (fun c => PSt.led T' Z c.1) (fun c => [("waits", .int c.1.ws.length c.2), ("x", .int c.1.x c.1.tx), ("bits", .int c.1.b c.1.tb)]) (fun c => c.1.W = pb ∧ PSt.Facts T' Z c.1) ["word", "one"] (fun c => PSt.inv P 0 (wds ws) x bits c.1) (fun c => P.meas c.1.ws.length c.1.x) (⟨pb, n', ws, [], 0, x, t1, bits, t5⟩, ?_) FW ?_ ?_ ?k ?_ ?_
    case k => (dsimp only; kst_all)
    · exact NW
    · refine ⟨rfl, ⟨Nat.ne_of_lt lT.1, hpb, allNe_lt lT.2, hnm⟩⟩
    · refine ⟨by simpa using hws, fun r tk h => h⟩
    · rintro ⟨⟨W, n, ws', zs, tc, x', tx, b', tb⟩, wt⟩ u h tk QB hB ⟨hWp, hFa⟩ hI FF NN
      dsimp only [PSt.led] at FF NN hWp
      subst hWp
      refine letM FF ?_; clear FF; intro M1 FF
      obtain ⟨ne1, hW, hT, hn⟩ := hFa
      obtain ⟨hm, hR⟩ := id hI
      dsimp only at ne1 hW hT hn hm hR
      replace ne1 := neN ne1
      have hlx' := List.mem_append_right (tkLed zs) hlx
      have hdx' := List.mem_append_right (tkLed zs) hdx
      have hr' := List.mem_append_right (tkLed zs) hr
      have hzl : zs.length ≤ 100 := by omega
      have hwl' : ws'.length ≤ 100 := by unfold Par.meas at hm; omega
      k_sweep
      try k_fold
      iterate 5 (focus (first | ((first | ((rename (∀ (f : Flow) (s : Shared), _ → _) => hq); (with_reducible refine Mine.cutQ hq ?_); clear hq; (rename (Flow → Shared → Prop) => qq); clear qq) | (with_reducible refine Mine.cutQ (by with_reducible assumption) ?_)); (try dsimp only)) | ((first | (k_unfold; (try dsimp only)) | (k_end; kc_close) | walk1 | (dsimp only; walk1) | (leave1; (try dsimp only)) | fail "no step"); (try ((with_reducible show wpAny _ _ (exec _ _) (fun _ _ => _) _ _); refine Mine.gen_Q ?_; intro QQ9 hQ9)))))
      iterate 1 (focus (first | ((first | ((rename (∀ (f : Flow) (s : Shared), _ → _) => hq); (with_reducible refine Mine.cutQ hq ?_); clear hq; (rename (Flow → Shared → Prop) => qq); clear qq) | (with_reducible refine Mine.cutQ (by with_reducible assumption) ?_)); (try dsimp only)) | ((first | (k_unfold; (try dsimp only)) | (k_end; kc_close) | walk1 | (dsimp only; walk1) | (leave1; (try dsimp only)) | fail "no step"); (try ((with_reducible show wpAny _ _ (exec _ _) (fun _ _ => _) _ _); refine Mine.gen_Q ?_; intro QQ9 hQ9)))))
      · rename 0 < _ => hpos
        obtain ⟨y, rest, rfl⟩ : ∃ y rest, ws' = y :: rest := by
          cases ws' with
          | nil => simp at hpos
          | cons a b => exact ⟨a, b, rfl⟩
        have hrl := rot_length b' (y :: rest)
        obtain ⟨y2, rest2, hpop, hlen, hmem, hsub⟩ := popW_some 0 (ws := rot b' (y :: rest)) (by intro e; rw [e] at hrl; simp at hrl)
        have hrot : rot b' (y :: rest) = y2 :: rest2 := by
          revert hpop
          generalize rot b' (y :: rest) = l
          intro hpop
          cases l with
          | nil => simp [popW] at hpop
          | cons a b => simp only [popW, if_true, Option.some.injEq, Prod.mk.injEq] at hpop; obtain ⟨rfl, rfl⟩ := hpop; rfl
        have hl2 : rest2.length = rest.length := by simp at hrl hlen; omega
        have hsub0 : ∀ v ∈ y2 :: rest2, v ∈ y :: rest := fun v hv => by
          rw [← hrot] at hv
          unfold rot at hv
          split at hv
          · rcases List.mem_append.mp hv with h | h
            · exact List.mem_of_mem_drop h
            · exact List.mem_of_mem_take h
          · exact hv
        have hwt : ((y :: rest).length : Int) - 1 = (rest2.length : Int) := by simp; omega
        have hrl2 : rest.length ≤ 99 := by simp at hwl'; omega
        iterate 1 (focus (first | ((first | ((rename (∀ (f : Flow) (s : Shared), _ → _) => hq); (with_reducible refine Mine.cutQ hq ?_); clear hq; (rename (Flow → Shared → Prop) => qq); clear qq) | (with_reducible refine Mine.cutQ (by with_reducible assumption) ?_)); (try dsimp only)) | ((first | (k_unfold; (try dsimp only)) | (k_end; kc_close) | walk1 | (dsimp only; walk1) | (leave1; (try dsimp only)) | fail "no step"); (try ((with_reducible show wpAny _ _ (exec _ _) (fun _ _ => _) _ _); refine Mine.gen_Q ?_; intro QQ9 hQ9)))))
        refine cutG FF (fun n => (T', listOf (tkRefs zs).toArray tc) :: (W, listOf (svs (y2 :: rest2)).toArray n) :: (tkLed zs ++ Z)) (fun _ => M1) (fun _ => True) ?_ ?_
        · intro QC hC
          iterate 10 (focus (first | ((first | ((rename (∀ (f : Flow) (s : Shared), _ → _) => hq); (with_reducible refine Mine.cutQ hq ?_); clear hq; (rename (Flow → Shared → Prop) => qq); clear qq) | (with_reducible refine Mine.cutQ (by with_reducible assumption) ?_)); (try dsimp only)) | ((first | (k_unfold; (try dsimp only)) | (k_end; kc_close) | walk1 | (dsimp only; walk1) | (leave1; (try dsimp only)) | fail "no step"); (try ((with_reducible show wpAny _ _ (exec _ _) (fun _ _ => _) _ _); refine Mine.gen_Q ?_; intro QQ9 hQ9)))))
          · rename _ = 1 => hb1
            iterate 12 (focus (first | ((first | ((rename (∀ (f : Flow) (s : Shared), _ → _) => hq); (with_reducible refine Mine.cutQ hq ?_); clear hq; (rename (Flow → Shared → Prop) => qq); clear qq) | (with_reducible refine Mine.cutQ (by with_reducible assumption) ?_)); (try dsimp only)) | ((first | (k_unfold; (try dsimp only)) | (k_end; kc_close) | walk1 | (dsimp only; walk1) | (leave1; (try dsimp only)) | fail "no step"); (try ((with_reducible show wpAny _ _ (exec _ _) (fun _ _ => _) _ _); refine Mine.gen_Q ?_; intro QQ9 hQ9)))))
            refine' Spec.use2 (gtPush w p loose mean mg mb lx dx W hx k1 k2 k3 k4 tl tw ln wh y rest _ _ _ ?h1 ?h2 ?h3 ?h4 ?U) ?B ?F ?X ?N ?T rfl ?d ?u (k0_0 ?_)
            case N => k_asm
            case h1 => (repeat' (first | exact (List.mem_append_right (tkLed zs) hlx) | apply List.Mem.tail))
            case h2 => (repeat' (first | exact (List.mem_append_right (tkLed zs) hdx) | apply List.Mem.tail))
            case h3 => k_mem
            case h4 => (first | omega | (simp; omega))
            case U => k_upd
            case B => k_asm
            case F => k_asm
            case X => k_asm
            case T => k_asm
            case d => ktr_room
            case u => ktr_units
            intro h3 tk3 F3 N3; k_sweep
            iterate 2 (focus (first | ((first | ((rename (∀ (f : Flow) (s : Shared), _ → _) => hq); (with_reducible refine Mine.cutQ hq ?_); clear hq; (rename (Flow → Shared → Prop) => qq); clear qq) | (with_reducible refine Mine.cutQ (by with_reducible assumption) ?_)); (try dsimp only)) | ((first | (k_unfold; (try dsimp only)) | (k_end; kc_close) | walk1 | (dsimp only; walk1) | (leave1; (try dsimp only)) | fail "no step"); (try ((with_reducible show wpAny _ _ (exec _ _) (fun _ _ => _) _ _); refine Mine.gen_Q ?_; intro QQ9 hQ9)))))
            refine' Spec.use2 (pushTok w p loose mean mg mb lx dx W hx k1 k2 k3 k4 tl tw ln wh y rest _ _ _ ?h1 ?h2 ?h3 ?h4 ?U) ?B ?F ?X ?N ?T rfl ?d ?u (k0_0 ?_)
            case N => k_asm
            case h1 => (repeat' (first | exact (List.mem_append_right (tkLed zs) hlx) | apply List.Mem.tail))
            case h2 => (repeat' (first | exact (List.mem_append_right (tkLed zs) hdx) | apply List.Mem.tail))
            case h3 => k_mem
            case h4 => (first | omega | (simp; omega))
            case U => k_upd
            case B => k_asm
            case F => k_asm
            case X => k_asm
            case T => k_asm
            case d => ktr_room
            case u => ktr_units
            intro h4 tk4 F4 N4; k_sweep
            have hrr : rest ++ [y] = y2 :: rest2 := by rw [← hrot]; unfold rot; rw [if_pos (by rw [← Int.fmod_eq_emod_of_nonneg _ (by omega)]; exact hb1)]; simp
            rw [hrr] at N4
            iterate 3 (focus (first | ((first | ((rename (∀ (f : Flow) (s : Shared), _ → _) => hq); (with_reducible refine Mine.cutQ hq ?_); clear hq; (rename (Flow → Shared → Prop) => qq); clear qq) | (with_reducible refine Mine.cutQ (by with_reducible assumption) ?_)); (try dsimp only)) | ((first | (k_unfold; (try dsimp only)) | (k_end; kc_close) | walk1 | (dsimp only; walk1) | (leave1; (try dsimp only)) | fail "no step"); (try ((with_reducible show wpAny _ _ (exec _ _) (fun _ _ => _) _ _); refine Mine.gen_Q ?_; intro QQ9 hQ9)))))
            rename News _ _ _ _ => NE
            rename Fr _ _ _ _ => FE
            exact cutEnd _ trivial FE NE (fm (by repeat' (first | exact .head _ | apply List.Mem.tail)) (fm (by repeat' (first | exact .head _ | apply List.Mem.tail)) (fun q hq => by repeat' (first | exact hq | apply List.Mem.tail))))
          · rename _ ≠ 1 => hb1
            have hrr : y :: rest = y2 :: rest2 := by rw [← hrot]; unfold rot; rw [if_neg (by rw [← Int.fmod_eq_emod_of_nonneg _ (by omega)]; exact hb1)]
            iterate 2 (focus (first | ((first | ((rename (∀ (f : Flow) (s : Shared), _ → _) => hq); (with_reducible refine Mine.cutQ hq ?_); clear hq; (rename (Flow → Shared → Prop) => qq); clear qq) | (with_reducible refine Mine.cutQ (by with_reducible assumption) ?_)); (try dsimp only)) | ((first | (k_unfold; (try dsimp only)) | (k_end; kc_close) | walk1 | (dsimp only; walk1) | (leave1; (try dsimp only)) | fail "no step"); (try ((with_reducible show wpAny _ _ (exec _ _) (fun _ _ => _) _ _); refine Mine.gen_Q ?_; intro QQ9 hQ9)))))
            rename News _ _ _ _ => NE
            rename Fr _ _ _ _ => FE
            rw [hrr] at NE
            exact cutEnd _ trivial FE NE (fm (by repeat' (first | exact .head _ | apply List.Mem.tail)) (fm (by repeat' (first | exact .head _ | apply List.Mem.tail)) (fun q hq => by repeat' (first | exact hq | apply List.Mem.tail))))
        · intro n8 h4 tk4 pt4 F4 N4; clear FF NN
          iterate 15 (focus (first | ((first | ((rename (∀ (f : Flow) (s : Shared), _ → _) => hq); (with_reducible refine Mine.cutQ hq ?_); clear hq; (rename (Flow → Shared → Prop) => qq); clear qq) | (with_reducible refine Mine.cutQ (by with_reducible assumption) ?_)); (try dsimp only)) | ((first | (k_unfold; (try dsimp only)) | (k_end; kc_close) | walk1 | (dsimp only; walk1) | (leave1; (try dsimp only)) | fail "no step"); (try ((with_reducible show wpAny _ _ (exec _ _) (fun _ _ => _) _ _); refine Mine.gen_Q ?_; intro QQ9 hQ9)))))
          refine' Spec.use2 (gtPush w p loose mean mg mb lx dx W hx k1 k2 k3 k4 tl tw ln wh y2 rest2 _ _ _ ?h1 ?h2 ?h3 ?h4 ?U) ?B ?F ?X ?N ?T rfl ?d ?u (k0_0 ?_)
          case N => k_asm
          case h1 => (repeat' (first | exact hlx' | apply List.Mem.tail))
          case h2 => (repeat' (first | exact hdx' | apply List.Mem.tail))
          case h3 => k_mem
          case h4 => (first | omega | (simp; omega))
          case U => k_upd
          case B => k_asm
          case F => k_asm
          case X => k_asm
          case T => k_asm
          case d => ktr_room
          case u => ktr_units
          intro h5 tk5 F5 N5; k_sweep
          iterate 49 (focus (first | ((first | ((rename (∀ (f : Flow) (s : Shared), _ → _) => hq); (with_reducible refine Mine.cutQ hq ?_); clear hq; (rename (Flow → Shared → Prop) => qq); clear qq) | (with_reducible refine Mine.cutQ (by with_reducible assumption) ?_)); (try dsimp only)) | ((first | (k_unfold; (try dsimp only)) | (k_end; kc_close) | walk1 | (dsimp only; walk1) | (leave1; (try dsimp only)) | fail "no step"); (try ((with_reducible show wpAny _ _ (exec _ _) (fun _ _ => _) _ _); refine Mine.gen_Q ?_; intro QQ9 hQ9)))))
          · rename P.limit < x' => hx0
            obtain ⟨hi2, hm2⟩ := inv_pop (D := W) (l := _) (n := _) (tc := tc + 1) (k := 0) (t := _) (t' := _) hI (by simp) hpop (by simp; omega) hx0
            rename Fr _ _ _ _ => FE
            rw [hwt] at FE
            refine' ksw_end (⟨W, ?_, rest2, zs ++ [⟨?_, 0, y2.1, y2.2, x', tx⟩], tc + 1, x' - P.fee, ?_, b'.fdiv 2, ?_⟩, ?_) FE ?N ?hn ?hf ?hk ?hr ?hp ?hm
            case N => k_asm
            case hk => (dsimp only [M1]; kst_all)
            case hn => exact led_push _ (by k_mem) (by k_mem) (by k_mem) (by intro q hq; repeat' (first | exact hq | apply List.Mem.tail))
            case hf => exact ⟨rfl, facts_push _ (by k_ne) (by k_all) (by k_all) (by k_ne) (by k_ne) (fun v hv => hn v (hsub0 v (.tail _ hv)))⟩
            case hr => (dsimp only [M1, kstB]; ksw_same)
            case hp => exact hi2
            case hm => exact hm2
          · rename ¬ P.limit < x' => hx0
            obtain ⟨ar, rr, nr, hmr, hwr, hvr⟩ := hrows y2.1 (hn y2 (hsub0 y2 (.head _)))
            replace hmr := List.mem_append_right (tkLed zs) hmr
            have hrl13 : rr.length = (P.rows y2.1).length := by rw [← hwr]; simp
            have hr13 := hP.rows y2.1
            have hrr0 : rr ≠ [] := by rintro rfl; simp at hrl13; omega
            iterate 14 (focus (first | ((first | ((rename (∀ (f : Flow) (s : Shared), _ → _) => hq); (with_reducible refine Mine.cutQ hq ?_); clear hq; (rename (Flow → Shared → Prop) => qq); clear qq) | (with_reducible refine Mine.cutQ (by with_reducible assumption) ?_)); (try dsimp only)) | ((first | (k_unfold; (try dsimp only)) | (k_end; kc_close) | walk1 | (dsimp only; walk1) | (leave1; (try dsimp only)) | fail "no step"); (try ((with_reducible show wpAny _ _ (exec _ _) (fun _ _ => _) _ _); refine Mine.gen_Q ?_; intro QQ9 hQ9)))))
            refine dict_item (by k_asm) (by repeat' (first | exact hr' | apply List.Mem.tail)) hod hvr ?_
            iterate 1 (focus (first | ((first | ((rename (∀ (f : Flow) (s : Shared), _ → _) => hq); (with_reducible refine Mine.cutQ hq ?_); clear hq; (rename (Flow → Shared → Prop) => qq); clear qq) | (with_reducible refine Mine.cutQ (by with_reducible assumption) ?_)); (try dsimp only)) | ((first | (k_unfold; (try dsimp only)) | (k_end; kc_close) | walk1 | (dsimp only; walk1) | (leave1; (try dsimp only)) | fail "no step"); (try ((with_reducible show wpAny _ _ (exec _ _) (fun _ _ => _) _ _); refine Mine.gen_Q ?_; intro QQ9 hQ9)))))
            refine lenS (by k_asm) (by k_mem) (by omega) ?_
            iterate 10 (focus (first | ((first | ((rename (∀ (f : Flow) (s : Shared), _ → _) => hq); (with_reducible refine Mine.cutQ hq ?_); clear hq; (rename (Flow → Shared → Prop) => qq); clear qq) | (with_reducible refine Mine.cutQ (by with_reducible assumption) ?_)); (try dsimp only)) | ((first | (k_unfold; (try dsimp only)) | (k_end; kc_close) | walk1 | (dsimp only; walk1) | (leave1; (try dsimp only)) | fail "no step"); (try ((with_reducible show wpAny _ _ (exec _ _) (fun _ _ => _) _ _); refine Mine.gen_Q ?_; intro QQ9 hQ9)))))
            refine wpAny_For ?_
            iterate 3 (focus (first | ((first | ((rename (∀ (f : Flow) (s : Shared), _ → _) => hq); (with_reducible refine Mine.cutQ hq ?_); clear hq; (rename (Flow → Shared → Prop) => qq); clear qq) | (with_reducible refine Mine.cutQ (by with_reducible assumption) ?_)); (try dsimp only)) | ((first | (k_unfold; (try dsimp only)) | (k_end; kc_close) | walk1 | (dsimp only; walk1) | (leave1; (try dsimp only)) | fail "no step"); (try ((with_reducible show wpAny _ _ (exec _ _) (fun _ _ => _) _ _); refine Mine.gen_Q ?_; intro QQ9 hQ9)))))
            refine dict_item (by k_asm) (by repeat' (first | exact hr' | apply List.Mem.tail)) hod hvr ?_
            refine iter_list (by k_asm) (by k_asm) (by k_mem) ?_
            intro I2 o2 h6 hI2 F6 N6 l6; k_lt l6; k_sweep
            rename_i lp _ lL _ _ _ _ _ _
            have e0 : rest2 = rest2 ++ rr.take 0 := by simp
            rw [e0] at N6
            refine For_g (σ := Nat × Obj × Nat) (fun c => (I2, c.2.1) :: (lp, listOf #[sv y2, Value.int x' tx] 0) :: (T', listOf ((tkRefs zs).toArray.push (.ref lp)) (tc + 1)) :: (W, listOf (svs (rest2 ++ rr.take c.1)).toArray c.2.2) :: (tkLed zs ++ Z)) (fun _ => []) (fun c => IsIt ar c.1 c.2.1) ["one"] (fun c => c.1 ≤ rr.length) (fun c => rr.length - c.1) (0, o2, _) F6 N6 hI2 (fun q hq => nomatch hq) (Nat.zero_le _) ?_
            rintro ⟨i2, o3, n3⟩ u2 h7 tk7 QB hB hF7 hP7 F7 N7
            dsimp only [kstB] at F7 N7 hF7 hP7
            have hIne : ∀ q ∈ ((lp, listOf #[sv y2, Value.int x' tx] 0) :: (T', listOf ((tkRefs zs).toArray.push (.ref lp)) (tc + 1)) :: (W, listOf (svs (rest2 ++ rr.take i2)).toArray n3) :: (tkLed zs ++ Z)), q.1 ≠ I2 := by k_all
            have hrl3 : rr.length ≤ 3 := by omega
            rcases Nat.lt_or_ge i2 rr.length with hlt | hge
            · refine next_list (v := sv rr[i2]) F7 N7 hF7 hIne (by k_mem) (by simp [svs, hlt]) ?_
              intro h8 o8 hI8 F8 N8; k_sweep
              dsimp only
              iterate 12 (focus (first | ((first | ((rename (∀ (f : Flow) (s : Shared), _ → _) => hq); (with_reducible refine Mine.cutQ hq ?_); clear hq; (rename (Flow → Shared → Prop) => qq); clear qq) | (with_reducible refine Mine.cutQ (by with_reducible assumption) ?_)); (try dsimp only)) | ((first | (k_unfold; (try dsimp only)) | (k_end; kc_close) | walk1 | (dsimp only; walk1) | (leave1; (try dsimp only)) | fail "no step"); (try ((with_reducible show wpAny _ _ (exec _ _) (fun _ _ => _) _ _); refine Mine.gen_Q ?_; intro QQ9 hQ9)))))
              refine' Spec.use2 (pushTok w p loose mean mg mb lx dx W hx k1 k2 k3 k4 tl tw ln wh rr[i2] (rest2 ++ rr.take i2) _ _ _ ?h1 ?h2 ?h3 ?h4 ?U) ?B ?F ?X ?N ?T rfl ?d ?u (k0_0 ?_)
              case N => k_asm
              case h1 => (repeat' (first | exact hlx' | apply List.Mem.tail))
              case h2 => (repeat' (first | exact hdx' | apply List.Mem.tail))
              case h3 => k_mem
              case h4 => (first | omega | (simp; omega))
              case U => k_upd
              case B => k_asm
              case F => k_asm
              case X => k_asm
              case T => k_asm
              case d => ktr_room
              case u => ktr_units
              intro h9 tk9 F9 N9; k_sweep
              iterate 4 (focus (first | ((first | ((rename (∀ (f : Flow) (s : Shared), _ → _) => hq); (with_reducible refine Mine.cutQ hq ?_); clear hq; (rename (Flow → Shared → Prop) => qq); clear qq) | (with_reducible refine Mine.cutQ (by with_reducible assumption) ?_)); (try dsimp only)) | ((first | (k_unfold; (try dsimp only)) | (k_end; kc_close) | walk1 | (dsimp only; walk1) | (leave1; (try dsimp only)) | fail "no step"); (try ((with_reducible show wpAny _ _ (exec _ _) (fun _ _ => _) _ _); refine Mine.gen_Q ?_; intro QQ9 hQ9)))))
              rw [List.append_assoc, List.take_append_getElem] at N9
              exact ksw_end (i2 + 1, o8, n3 + 1) F9 N9 (fun q hq => hq) hI8 (fun q hq => nomatch hq) (by intro z _ hz; have hz' : z ≠ Str.ofString "one" := (by simpa using hz); rw [if_neg hz', if_neg (by rw [hz]; decide)]; try rfl) hlt (by dsimp only; omega)
            · refine next_list_end rfl F7 N7 hF7 hIne (by k_mem) (by simp [svs]; omega) ?_
              intro h8 F8 N8; k_sweep
              have hi2 : i2 = rr.length := by omega
              subst hi2
              rw [List.take_length] at N8
              dsimp only
              iterate 11 (focus (first | ((first | ((rename (∀ (f : Flow) (s : Shared), _ → _) => hq); (with_reducible refine Mine.cutQ hq ?_); clear hq; (rename (Flow → Shared → Prop) => qq); clear qq) | (with_reducible refine Mine.cutQ (by with_reducible assumption) ?_)); (try dsimp only)) | ((first | (k_unfold; (try dsimp only)) | (k_end; kc_close) | walk1 | (dsimp only; walk1) | (leave1; (try dsimp only)) | fail "no step"); (try ((with_reducible show wpAny _ _ (exec _ _) (fun _ _ => _) _ _); refine Mine.gen_Q ?_; intro QQ9 hQ9)))))
              refine dict_item (by k_asm) (by repeat' (first | exact hr' | apply List.Mem.tail)) hod hvr ?_
              iterate 1 (focus (first | ((first | ((rename (∀ (f : Flow) (s : Shared), _ → _) => hq); (with_reducible refine Mine.cutQ hq ?_); clear hq; (rename (Flow → Shared → Prop) => qq); clear qq) | (with_reducible refine Mine.cutQ (by with_reducible assumption) ?_)); (try dsimp only)) | ((first | (k_unfold; (try dsimp only)) | (k_end; kc_close) | walk1 | (dsimp only; walk1) | (leave1; (try dsimp only)) | fail "no step"); (try ((with_reducible show wpAny _ _ (exec _ _) (fun _ _ => _) _ _); refine Mine.gen_Q ?_; intro QQ9 hQ9)))))
              refine lenS (by k_asm) (by k_mem) (by omega) ?_
              iterate 9 (focus (first | ((first | ((rename (∀ (f : Flow) (s : Shared), _ → _) => hq); (with_reducible refine Mine.cutQ hq ?_); clear hq; (rename (Flow → Shared → Prop) => qq); clear qq) | (with_reducible refine Mine.cutQ (by with_reducible assumption) ?_)); (try dsimp only)) | ((first | (k_unfold; (try dsimp only)) | (k_end; kc_close) | walk1 | (dsimp only; walk1) | (leave1; (try dsimp only)) | fail "no step"); (try ((with_reducible show wpAny _ _ (exec _ _) (fun _ _ => _) _ _); refine Mine.gen_Q ?_; intro QQ9 hQ9)))))
              obtain ⟨hi2, hm2⟩ := inv_unf hP (D := W) (l := _) (n := _) (tc := tc + 1) (k := 0) (t := _) (t' := _) hI (by simp) hpop (by simp; omega) hx0 hwr
              rename Fr _ _ _ _ => FE
              have hwt2 : ((y :: rest).length : Int) - 1 + (rr.length : Int) = ((rest2 ++ rr).length : Int) := by simp; omega
              rw [hwt2] at FE
              refine' ksw_end (⟨W, ?_, rest2 ++ rr, zs ++ [⟨?_, 0, y2.1, y2.2, x', tx⟩], tc + 1, x' + (P.step + ((rr.length : Int) - 1) * P.fee), ?_, b'.fdiv 2, ?_⟩, ?_) FE ?N ?hn ?hf ?hk ?hr ?hp ?hm
              case N => k_asm
              case hk => (dsimp only [M1]; kst_all)
              case hn => exact led_push _ (by k_mem) (by k_mem) (by k_mem) (by intro q hq; repeat' (first | exact hq | apply List.Mem.tail))
              case hf => exact ⟨rfl, facts_push _ (by k_ne) (by k_all) (by k_all) (by k_ne) (by k_ne) (fun v hv => (List.mem_append.mp hv).elim (fun h => hn v (hsub0 v (.tail _ h))) fun h => hP.names y2.1 v.1 (by rw [← hwr]; exact List.mem_map_of_mem h))⟩
              case hr => (dsimp only [M1, kstB]; ksw_same)
              case hp => exact hi2
              case hm => exact hm2
      · rename ¬ 0 < _ => hpos
        have hnil : ws' = [] := by
          cases ws' with
          | nil => rfl
          | cons a b => exact absurd (by first | (simp; done) | (simp; omega)) hpos
        subst hnil
        iterate 14 (focus (first | ((first | ((rename (∀ (f : Flow) (s : Shared), _ → _) => hq); (with_reducible refine Mine.cutQ hq ?_); clear hq; (rename (Flow → Shared → Prop) => qq); clear qq) | (with_reducible refine Mine.cutQ (by with_reducible assumption) ?_)); (try dsimp only)) | ((first | (k_unfold; (try dsimp only)) | (k_end; kc_close) | walk1 | (dsimp only; walk1) | (leave1; (try dsimp only)) | fail "no step"); (try ((with_reducible show wpAny _ _ (exec _ _) (fun _ _ => _) _ _); refine Mine.gen_Q ?_; intro QQ9 hQ9)))))
        have hfin := hR x' [] (.nil x' b')
        rw [List.append_nil] at hfin
        refine hret _ _ _ _ ⟨_, 0, T', tc, zs, x', tx, n, rfl, rfl, hzl, hfin⟩ (by k_asm) (by k_asm)
end Mine
end
section
open PySem PySem.W PyProof.Rows PyProof.V PySem.Spec PySem.SeqAt
set_option maxRecDepth 100000
namespace Mine
def parOf (limit step fee : Int) (w0 w1 w2 : List Str) : Par := ⟨fun v => if v = Str.ofString "7" then w0 else if v = Str.ofString "70" then w1 else w2, limit, step, fee⟩
theorem parOf_ok {limit step fee : Int} {w0 w1 w2 : List Str} (hs : 1 ≤ step) (hf : 0 ≤ fee) (h0 : RowOk w0) (h1 : RowOk w1) (h2 : RowOk w2) : (parOf limit step fee w0 w1 w2).Ok := by
  have key : ∀ v, RowOk ((parOf limit step fee w0 w1 w2).rows v) := by
    intro v
    show RowOk (if v = Str.ofString "7" then w0 else if v = Str.ofString "70" then w1 else w2)
    split
    · exact h0
    split
    · exact h1
    · exact h2
  exact ⟨hs, hf, fun v => ⟨(key v).1, (key v).2.1⟩, fun v => (key v).2.2⟩
theorem val_7 (a b c : Value) : valueAt [(Str.ofString "7", a), (Str.ofString "70", b), (Str.ofString "17", c)] (Str.ofString "7") = some a := by with_unfolding_all rfl
theorem val_70 (a b c : Value) : valueAt [(Str.ofString "7", a), (Str.ofString "70", b), (Str.ofString "17", c)] (Str.ofString "70") = some b := by with_unfolding_all rfl
theorem val_17 (a b c : Value) : valueAt [(Str.ofString "7", a), (Str.ofString "70", b), (Str.ofString "17", c)] (Str.ofString "17") = some c := by with_unfolding_all rfl
theorem rows_7 {limit step fee : Int} {w0 w1 w2 : List Str} : (parOf limit step fee w0 w1 w2).rows (Str.ofString "7") = w0 := by
  show (if Str.ofString "7" = Str.ofString "7" then w0 else if Str.ofString "7" = Str.ofString "70" then w1 else w2) = _
  rw [if_pos rfl]
theorem rows_70 {limit step fee : Int} {w0 w1 w2 : List Str} : (parOf limit step fee w0 w1 w2).rows (Str.ofString "70") = w1 := by
  show (if Str.ofString "70" = Str.ofString "7" then w0 else if Str.ofString "70" = Str.ofString "70" then w1 else w2) = _
  rw [if_neg (by decide), if_pos rfl]
theorem rows_17 {limit step fee : Int} {w0 w1 w2 : List Str} : (parOf limit step fee w0 w1 w2).rows (Str.ofString "17") = w2 := by
  show (if Str.ofString "17" = Str.ofString "7" then w0 else if Str.ofString "17" = Str.ofString "70" then w1 else w2) = _
  rw [if_neg (by decide), if_neg (by decide)]
theorem texts_at {limit step fee : Int} {w0 w1 w2 : List Str} {v0 v1 v2 : Str × Tok} (h0 : v0.1 = txOf w0) (h1 : v1.1 = txOf w1) (h2 : v2.1 = txOf w2) :
    ∀ v, isName v → ∃ t, valueAt [(Str.ofString "7", .str v0.1 v0.2), (Str.ofString "70", .str v1.1 v1.2), (Str.ofString "17", .str v2.1 v2.2)] v = some (.str (Txt.join (Str.ofString ".") ((parOf limit step fee w0 w1 w2).rows v)) t) := by
  rintro v (rfl | rfl | rfl)
  · exact ⟨v0.2, by rw [val_7, rows_7, h0]⟩
  · exact ⟨v1.2, by rw [val_70, rows_70, h1]⟩
  · exact ⟨v2.2, by rw [val_17, rows_17, h2]⟩
theorem rows_at {limit step fee : Int} {r0 r1 r2 : Rw} {Z : List (Addr × Obj)} (h : ∀ r ∈ [r0, r1, r2], (r.a, listOf (svs r.ws).toArray r.n) ∈ Z) :
    ∀ v, isName v → ∃ a rr n, (a, listOf (svs rr).toArray n) ∈ Z ∧ wds rr = (parOf limit step fee (wds r0.ws) (wds r1.ws) (wds r2.ws)).rows v ∧ valueAt [(Str.ofString "7", .ref r0.a), (Str.ofString "70", .ref r1.a), (Str.ofString "17", .ref r2.a)] v = some (.ref a) := by
  rintro v (rfl | rfl | rfl)
  · exact ⟨r0.a, r0.ws, r0.n, h _ (by simp), by rw [rows_7], val_7 _ _ _⟩
  · exact ⟨r1.a, r1.ws, r1.n, h _ (by simp), by rw [rows_70], val_70 _ _ _⟩
  · exact ⟨r2.a, r2.ws, r2.n, h _ (by simp), by rw [rows_17], val_17 _ _ _⟩
theorem ln_all {tx : Str} {k : Nat} (h : tx.cps.toList.length ≤ k) : lnAt tx (k + 1) = 1 + Txt.count tx (Str.ofString "\n") := by
  rw [show Str.ofString "\n" = (⟨#[10]⟩ : Str) by decide, count_one]
  unfold lnAt
  rw [List.take_of_length_le (by omega)]
theorem newsNe {h₀ h : Heap} {L : Addr} {Z : List (Addr × Obj)} (N : News h₀ L h Z) {a b : Addr} {o o' : Obj} (h1 : (a, o) ∈ Z) (h2 : (b, o') ∈ Z) (hne : o ≠ o') : a ≠ b := by
  rintro rfl
  have e := (N _ h1).1.symm.trans (N _ h2).1
  exact hne (Option.some.inj e)
theorem listOf_inj {vs ws : Array Value} {n k : Nat} (h : (listOf vs n : Obj) = listOf ws k) : vs = ws := by
  have e : (listOf vs n : Obj).data = (listOf ws k : Obj).data := by rw [h]
  have e2 : Data.seq vs n = Data.seq ws k := e
  injection e2
/-- a list that is not empty and not one int -/
def Apt (o : Obj) : Prop := ∃ vs n, o = listOf vs n ∧ vs ≠ #[] ∧ ∀ k t, vs ≠ #[Value.int k t]
theorem apt_tk (z : Tk) : Apt (listOf [Value.str z.w z.tw, Value.int z.x z.tx].toArray z.c) := ⟨_, _, rfl, by simp, by simp⟩
theorem apt_three (a b c : Value) (n : Nat) : Apt (listOf [a, b, c].toArray n) := ⟨_, _, rfl, by simp, by simp⟩
theorem apt_two (a b : Value) (n : Nat) : Apt (listOf [a, b].toArray n) := ⟨_, _, rfl, by simp, by simp⟩
theorem apt_refs {zs : List Tk} (h : zs ≠ []) (n : Nat) : Apt (listOf (tkRefs zs).toArray n) := by
  refine ⟨_, _, rfl, ?_, ?_⟩
  · cases zs with
    | nil => exact absurd rfl h
    | cons z r => simp [tkRefs]
  · intro k t
    cases zs with
    | nil => exact absurd rfl h
    | cons z r => simp [tkRefs]
theorem apt_ne {h₀ h : Heap} {L : Addr} {Z : List (Addr × Obj)} (N : News h₀ L h Z) {P : Params} {R : Rdr} {wh : Str} {ln k : Int} {tl tk : Tok} {npb npl : Nat} (h1 : (R.dx, R.dxo P wh ln tl) ∈ Z) (h2 : (R.pl, listOf #[.int k tk] npl) ∈ Z) (h3 : (R.pb, listOf (svs []).toArray npb) ∈ Z)
    {q : Addr × Obj} (hq : q ∈ Z) (ha : Apt q.2) : q.1 ≠ R.pb ∧ q.1 ≠ R.dx ∧ q.1 ≠ R.pl := by
  obtain ⟨vs, n, e, g1, g2⟩ := ha
  obtain ⟨a, o⟩ := q
  dsimp only at e
  subst e
  refine ⟨newsNe N hq h3 fun e => g1 (listOf_inj e), newsNe N hq h1 fun e => ?_, newsNe N hq h2 fun e => g2 _ _ (listOf_inj e)⟩
  have e2 : (listOf vs n : Obj).data = (R.dxo P wh ln tl).data := by rw [e]
  have e3 : Data.seq vs n = (R.dxo P wh ln tl).data := e2
  injection e3
theorem Runs.ne {P : Par} {en : Int} {ws : List Str} {x b r : Int} {tk : List (Str × Int)} (h : Runs P en ws x b r tk) (hw : ws ≠ []) : tk ≠ [] := by
  cases h with
  | nil => exact absurd rfl hw
  | pop => simp
  | unf => simp
theorem LB.mono {w : World} {p : Program} {loose : List Str} {mean : ExcName → Option Value} {mg mb : Str → Option Value} {L D n : Nat} {cv : Array Value} {Wr nW : Nat} {wr : List (Str × Tok)} {Dr nD : Nat} {rs : List Rw} {o1 o2 : Obj} {tx : Str} {R : Rdr} {Z Y : List (Addr × Obj)}
    (hb : LB w p loose mean mg mb L D n cv Wr nW wr Dr nD rs o1 o2 tx R Z) (hs : ∀ q ∈ Z, q ∈ Y) (hp : ∀ q ∈ Y, q.1 ≠ R.pb ∧ q.1 ≠ R.dx ∧ q.1 ≠ R.pl) : LB w p loose mean mg mb L D n cv Wr nW wr Dr nD rs o1 o2 tx R Y :=
  ⟨hs _ hb.cells, hs _ hb.c1, hb.c1d, hs _ hb.c2, hb.c2d, hs _ hb.wr, hs _ hb.dr, fun q hq => hs q (hb.rows q hq), fun q hq => hs q (hb.ro q hq), hs _ hb.tab, hs _ hb.t73, hs _ hb.t66, hp, hb.apart, hb.tabc, hb.rd⟩
theorem reads_pair {h : Heap} {D c T n : Nat} {x : Int} {u : Tok} {zs : List Tk} (h1 : h.get? D = some (listOf [Value.int x u, .ref T].toArray c)) (h2 : h.get? T = some (listOf (tkRefs zs).toArray n)) (h3 : ∀ q ∈ tkLed zs, h.get? q.1 = some q.2) :
    ∃ as, Reads h (.ref D) (.list [.int x, .list ((tkDat zs).map tkD)]) as :=
  ⟨_, Reads.list h1 rfl rfl (.cons (.int _ _) (.cons (reads_tks h2 h3) .nil))⟩
theorem reads_triple {h : Heap} {D c T n : Nat} {x : Int} {u t : Tok} {y : Str} {zs : List Tk} (h1 : h.get? D = some (listOf [Value.int x u, .ref T, .str y t].toArray c)) (h2 : h.get? T = some (listOf (tkRefs zs).toArray n)) (h3 : ∀ q ∈ tkLed zs, h.get? q.1 = some q.2) :
    ∃ as, Reads h (.ref D) (.list [.int x, .list ((tkDat zs).map tkD), .str y]) as :=
  ⟨_, Reads.list h1 rfl rfl (.cons (.int _ _) (.cons (reads_tks h2 h3) (.cons (.str _ _) .nil)))⟩
theorem gd_tks {ds : List (Str × Int)} (hz : ∀ z ∈ ds, PyData.strOk z.1 = true) : Gd 2 (.list (ds.map tkD)) := by
  refine gd_list (k := 1) fun d hd => ?_
  obtain ⟨z, hz', rfl⟩ := List.mem_map.mp hd
  refine gd_list (k := 0) fun d hd => ?_
  simp only [List.mem_cons, List.not_mem_nil, or_false] at hd
  rcases hd with rfl | rfl
  · exact gd_str (hz z hz')
  · exact gd_int _
theorem gd_pair {x : Int} {ds : List (Str × Int)} (hz : ∀ z ∈ ds, PyData.strOk z.1 = true) : Gd 3 (.list [.int x, .list (ds.map tkD)]) := by
  refine gd_list (k := 2) fun d hd => ?_
  simp only [List.mem_cons, List.not_mem_nil, or_false] at hd
  rcases hd with rfl | rfl
  · exact (gd_int _).mono (by decide)
  · exact gd_tks hz
theorem gd_triple {x : Int} {ds : List (Str × Int)} {y : Str} (hz : ∀ z ∈ ds, PyData.strOk z.1 = true) (hy : PyData.strOk y = true) : Gd 3 (.list [.int x, .list (ds.map tkD), .str y]) := by
  refine gd_list (k := 2) fun d hd => ?_
  simp only [List.mem_cons, List.not_mem_nil, or_false] at hd
  rcases hd with rfl | rfl | rfl
  · exact (gd_int _).mono (by decide)
  · exact gd_tks hz
  · exact (gd_str hy).mono (by decide)
theorem Runs.names {P : Par} (hP : P.Ok) {en : Int} {ws : List Str} {x b r : Int} {tk : List (Str × Int)} (h : Runs P en ws x b r tk) : (∀ v ∈ ws, isName v) → ∀ z ∈ tk, PyData.strOk z.1 = true := by
  have key : ∀ {b : Int} {ws rest : List Str} {w : Str}, popW en (rot b ws) = some (w, rest) → (∀ v ∈ ws, isName v) → isName w ∧ ∀ v ∈ rest, isName v := by
    intro b ws rest w hp hn
    have hr : ∀ v ∈ rot b ws, v ∈ ws := by
      intro v hv
      unfold rot at hv
      split at hv
      · rcases List.mem_append.mp hv with h | h
        · exact List.mem_of_mem_drop h
        · exact List.mem_of_mem_take h
      · exact hv
    by_cases hz : rot b ws = []
    · rw [hz] at hp
      unfold popW at hp
      split at hp <;> simp at hp
    · obtain ⟨a, r, e1, _, e3, e4⟩ := popW_some en hz
      rw [hp] at e1
      cases e1
      exact ⟨hn _ (hr _ e3), fun v hv => hn _ (hr _ (e4 v hv))⟩
  induction h with
  | nil => intro _ z hz; cases hz
  | pop hne hp hx _ ih =>
    intro hn z hz
    obtain ⟨k1, k2⟩ := key hp hn
    rcases List.mem_cons.mp hz with rfl | hz
    · exact name_ok k1
    · exact ih k2 z hz
  | unf hne hp hx _ ih =>
    intro hn z hz
    obtain ⟨k1, k2⟩ := key hp hn
    rcases List.mem_cons.mp hz with rfl | hz
    · exact name_ok k1
    · exact ih (fun v hv => (List.mem_append.mp hv).elim (k2 v) (hP.names _ v)) z hz
end Mine
end
section
open PySem PySem.W PyProof.Rows PyProof.V PySem.Spec PySem.SeqAt
set_option maxRecDepth 100000
namespace Mine
set_option maxHeartbeats 0 in
theorem lawS7 (w : World) (p : Program) (loose : List Str) (mean : ExcName → Option Value) (mg mb : Str → Option Value) (base h₀ : Heap) (L fa : Addr) (cd : Value) (s : Shared) (m₀ : Str → Option Value) (Q : Flow → Shared → Prop) (E : Value → Shared → Prop)
  (B : Below callerA base [] h₀) (X : (hd.heap_1 w.params).In h₀) (T : Top p loose mean mg mb h₀)
  (P : Par) (hP : P.Ok) (nm : Str) (hnm : HdOk nm.cps.toList) (hnl : nm.cps.size ≤ 3) (x bits mo : Int) (tl ts tf ux un ub ug um : Tok) (dT dR Fi : Addr) (nf : Nat) (oT oR : Obj) (ws : List (Str × Tok)) (kT kR : List (Str × Value))
  (D : Addr) (n : Nat) (o1 o2 : Obj) (cv : Array Value) (Dr nD Wr nW : Nat) (rs : List Rw) (wr : List (Str × Tok)) (tx : Str) (tt : Tok) (kk4 kk5 : Nat) (R : Rdr) (npb npl : Nat) (tl1 tk1 : Tok) (Z2 : List (Addr × Obj))
  (F : Fr h₀ L s.heap (kstB m₀ [("limit", .int P.limit tl), ("step", .int P.step ts), ("fee", .int P.fee tf), ("text", .str tx tt), ("texts", .ref dT), ("rows", .ref dR), ("first", .ref Fi), ("more", .int mo um), ("x", .int x ux), ("name", .str nm un), ("bits", .int bits ub), ("begun", .str (begS nm.cps.toList (wds ws)) ug)]))
  (N : News h₀ L s.heap ((R.dx, R.dxo w.params wsS (lnAt tx kk4) tl1) :: (R.pl, listOf #[.int kk4 tk1] npl) :: (R.pb, listOf (svs []).toArray npb) :: Z2))
  (hb : LB w p loose mean mg mb L D n cv Wr nW wr Dr nD rs o1 o2 tx R Z2) (hx : LexOk tx (wds wr) kk4 kk5)
  (hdT : (dT, oT) ∈ Z2) (hdR : (dR, oR) ∈ Z2) (hfi : (Fi, listOf (svs ws).toArray nf) ∈ Z2) (hro : RowOk (wds ws))
  (hkT : oT.IsDictOf (strKind PySem.Challenge.rw_xg0056_01.row.prog w) kT) (hkR : oR.IsDictOf (strKind PySem.Challenge.rw_xg0056_01.row.prog w) kR)
  (hvT : ∀ v, isName v → ∃ t, valueAt kT v = some (.str (Txt.join (Str.ofString ".") (P.rows v)) t))
  (hvR : ∀ v, isName v → ∃ a rr n, (a, listOf (svs rr).toArray n) ∈ Z2 ∧ wds rr = P.rows v ∧ valueAt kR v = some (.ref a))
  (hm : P.meas ws.length x ≤ 100)
  (next : ∀ (h : Heap) (tk : Nat) (m : Str → Option Value) (Z3 : List (Addr × Obj)) (Dp cp Tp np Dl cl Tl nl : Nat) (zp zl : List Tk) (xp xl : Int) (u1 u2 u3 : Tok),
    Fr h₀ L h (kstB m [("limit", .int P.limit tl), ("step", .int P.step ts), ("fee", .int P.fee tf), ("rows", .ref dR), ("first", .ref Fi), ("more", .int mo um), ("x", .int x ux), ("name", .str nm un), ("bits", .int bits ub), ("begun", .str (begS nm.cps.toList (wds ws)) ug), ("pile", .ref Dp), ("line", .ref Dl)]) →
    News h₀ L h Z3 → (∀ q ∈ Z2, q ∈ Z3) →
    (Dp, listOf [Value.int xp u1, .ref Tp, .str (pileS nm.cps.toList []) u2].toArray cp) ∈ Z3 → (Tp, listOf (tkRefs zp).toArray np) ∈ Z3 → (∀ q ∈ tkLed zp, q ∈ Z3) → zp.length ≤ 100 → Runs P (-1) (wds ws) x 0 xp (tkDat zp) →
    (Dl, listOf [Value.int xl u3, .ref Tl].toArray cl) ∈ Z3 → (Tl, listOf (tkRefs zl).toArray nl) ∈ Z3 → (∀ q ∈ tkLed zl, q ∈ Z3) → zl.length ≤ 100 → Runs P 0 (wds ws) x bits xl (tkDat zl) →
    LGo w L fa cd 22 Q E { s with heap := h, toks := tk }) :
  LGo w L fa cd 19 Q E s := by
  unfold LGo
  dsimp only [lawEnv, lawRec, recOf, List.drop]
  revert X
  k_fill
  intro X
  have b1 := hb.c1
  have b1d := hb.c1d
  have b2 := hb.c2
  have b2d := hb.c2d
  have bx : (R.x, instObj 130 R.dx) ∈ Z2 := hb.ro _ (by simp [Rdr.ro])
  obtain ⟨ha1, ha2, ha3, ha4, ha5, ha6, ha7⟩ := id hb.apart
  have hwk : wsS.cps.toList = wsL := wsS_is
  have hnn : ∀ v ∈ ws, isName v.1 := fun v hv => hro.2.2 v.1 (List.mem_map_of_mem (f := fun q : Str × Tok => q.1) hv)
  have hw3 : ws.length ≤ 3 := by have := hro.2.1; simpa using this
  have hne : wds ws ≠ [] := by intro e; have := hro.1; rw [e] at this; simp at this
  have hbl := beg_len (hd := nm.cps.toList) hro.2.2
  have hbz : (begS nm.cps.toList (wds ws)).length ≤ 12 := by
    simp only [Str.length, Array.length_toList, List.length_map] at hbl ⊢
    omega
  have hml : P.meas (wds ws).length x ≤ 100 := by simpa using hm
  iterate 9 (focus (first | ((first | ((rename (∀ (f : Flow) (s : Shared), _ → _) => hq); (with_reducible refine Mine.cutQ hq ?_); clear hq; (rename (Flow → Shared → Prop) => qq); clear qq) | (with_reducible refine Mine.cutQ (by with_reducible assumption) ?_)); (try dsimp only)) | ((first | (k_unfold; (try dsimp only)) | (k_end; kc_close) | walk1 | (dsimp only; walk1) | (leave1; (try dsimp only)) | fail "no step"); (try ((with_reducible show wpAny _ _ (exec _ _) (fun _ _ => _) _ _); refine Mine.gen_Q ?_; intro QQ9 hQ9)))))
  refine PyProof.Rows.add_str ?_ (by rw [show (Str.ofString "\n").length = 1 by decide, sizeLine_eq]; omega)
  rw [beg_pile]
  iterate 14 (focus (first | ((first | ((rename (∀ (f : Flow) (s : Shared), _ → _) => hq); (with_reducible refine Mine.cutQ hq ?_); clear hq; (rename (Flow → Shared → Prop) => qq); clear qq) | (with_reducible refine Mine.cutQ (by with_reducible assumption) ?_)); (try dsimp only)) | ((first | (k_unfold; (try dsimp only)) | (k_end; kc_close) | walk1 | (dsimp only; walk1) | (leave1; (try dsimp only)) | fail "no step"); (try ((with_reducible show wpAny _ _ (exec _ _) (fun _ _ => _) _ _); refine Mine.gen_Q ?_; intro QQ9 hQ9)))))
  refine' Spec.use2 (pileF w p loose mean mg mb P hP nm.cps.toList hnm ?g1 dT x _ _ _ _ _ oT (wds ws) _ hne hml hro.2.2 kT ?g2 hkT hvT) ?B ?F ?X ?N ?T rfl ?d ?u (k8_2 ?_)
  case g1 => rw [Array.length_toList]; omega
  case N => k_asm
  case g2 => exact .tail _ (.tail _ (.tail _ hdT))
  case B => k_asm
  case F => k_asm
  case X => k_asm
  case T => k_asm
  case d => ktr_room
  case u => ktr_units
  intro Dp cp Tp np zp xp u1 u2 hzp hrp h4 tk4 F4 N4
  have hzpn : zp ≠ [] := by
    rintro rfl
    exact hrp.ne hne rfl
  iterate 2 (focus (first | ((first | ((rename (∀ (f : Flow) (s : Shared), _ → _) => hq); (with_reducible refine Mine.cutQ hq ?_); clear hq; (rename (Flow → Shared → Prop) => qq); clear qq) | (with_reducible refine Mine.cutQ (by with_reducible assumption) ?_)); (try dsimp only)) | ((first | (k_unfold; (try dsimp only)) | (k_end; kc_close) | walk1 | (dsimp only; walk1) | (leave1; (try dsimp only)) | fail "no step"); (try ((with_reducible show wpAny _ _ (exec _ _) (fun _ _ => _) _ _); refine Mine.gen_Q ?_; intro QQ9 hQ9)))))
  rename News _ _ _ _ => N5
  obtain ⟨Z4, hZ4⟩ : ∃ Z4, Z4 = (Dp, listOf [Value.int xp u1, .ref Tp, .str (pileS nm.cps.toList []) u2].toArray cp) :: (Tp, listOf (tkRefs zp).toArray np) :: (tkLed zp ++ Z2) := ⟨_, rfl⟩
  have N6 := kst_newsOf (l' := (R.dx, R.dxo w.params wsS (lnAt tx kk4) tl1) :: (R.pl, listOf #[.int kk4 tk1] npl) :: (R.pb, listOf (svs []).toArray npb) :: Z4) N5 (by
    rw [hZ4]
    refine fm ?_ (fm ?_ (fm ?_ (fm ?_ (fm ?_ fun q hq => ?_))))
    iterate 5 (focus (repeat' (first | exact .head _ | apply List.mem_append_right | apply List.Mem.tail)))
    rcases List.mem_append.mp hq with hq | hq
    · repeat' (first | exact List.mem_append_left _ hq | apply List.Mem.tail)
    · repeat' (first | exact hq | apply List.mem_append_right | apply List.Mem.tail))
  clear N5
  have hp4 : ∀ q ∈ Z4, q.1 ≠ R.pb ∧ q.1 ≠ R.dx ∧ q.1 ≠ R.pl := by
    intro q hq
    have hq0 := hq
    rw [hZ4] at hq
    simp only [List.mem_cons, List.mem_append] at hq
    rcases hq with rfl | rfl | hq | hq
    · exact apt_ne N6 (.head _) (.tail _ (.head _)) (.tail _ (.tail _ (.head _))) (.tail _ (.tail _ (.tail _ hq0))) (apt_three _ _ _ _)
    · exact apt_ne N6 (.head _) (.tail _ (.head _)) (.tail _ (.tail _ (.head _))) (.tail _ (.tail _ (.tail _ hq0))) (apt_refs hzpn _)
    · refine apt_ne N6 (.head _) (.tail _ (.head _)) (.tail _ (.tail _ (.head _))) (.tail _ (.tail _ (.tail _ hq0))) ?_
      obtain ⟨z, hz, rfl⟩ := List.mem_map.mp hq
      exact apt_tk z
    · exact hb.pb q hq
  have hs4 : ∀ q ∈ Z2, q ∈ Z4 := fun q hq => by rw [hZ4]; exact .tail _ (.tail _ (List.mem_append_right _ hq))
  have hb4 := hb.mono hs4 hp4
  have c1 := hb4.c1
  have c2 := hb4.c2
  have cx := hs4 _ bx
  have cR := hs4 _ hdR
  have cF := hs4 _ hfi
  clear b1 b2 bx
  iterate 23 (focus (first | ((first | ((rename (∀ (f : Flow) (s : Shared), _ → _) => hq); (with_reducible refine Mine.cutQ hq ?_); clear hq; (rename (Flow → Shared → Prop) => qq); clear qq) | (with_reducible refine Mine.cutQ (by with_reducible assumption) ?_)); (try dsimp only)) | ((first | (k_unfold; (try dsimp only)) | (k_end; kc_close) | walk1 | (dsimp only; walk1) | (leave1; (try dsimp only)) | fail "no step"); (try ((with_reducible show wpAny _ _ (exec _ _) (fun _ _ => _) _ _); refine Mine.gen_Q ?_; intro QQ9 hQ9)))))
  refine' Spec.use (line w p loose mean mg mb P hP R.x R.dx R.pb R.hx dR Fi R.k1 R.k2 R.k3 R.k4 tl1 R.tw (lnAt tx kk4) wsS npb x bits _ _ _ _ _ oR ws nf ((R.dx, R.dxo w.params wsS (lnAt tx kk4) tl1) :: (R.pl, listOf #[.int kk4 tk1] npl) :: Z4) ?g1 ?g2 ?g3 hm ?g4 hnn kR ?g5 hkR ?g6) ?B ?F ?X ?N ?T rfl ?d ?u ?_
  case N =>
    refine kst_newsOf N6 (fm ?_ (fm ?_ (fm ?_ fun q hq => ?_)))
    iterate 3 (focus (repeat' (first | exact .head _ | apply List.Mem.tail)))
    repeat' (first | exact hq | apply List.Mem.tail)
  case g1 => exact .tail _ (.tail _ cx)
  case g2 => exact .head _
  case g3 =>
    intro q hq
    rcases List.mem_cons.mp hq with rfl | hq
    · exact Ne.symm ha1
    rcases List.mem_cons.mp hq with rfl | hq
    · exact Ne.symm ha2
    · exact (hp4 q hq).1
  case g4 => exact .tail _ (.tail _ cF)
  case g5 => exact .tail _ (.tail _ cR)
  case g6 =>
    intro v hv
    obtain ⟨a, rr, n, e1, e2, e3⟩ := hvR v hv
    exact ⟨a, rr, n, .tail _ (.tail _ (hs4 _ e1)), e2, e3⟩
  case B => k_asm
  case F => k_asm
  case X => k_asm
  case T => k_asm
  case d => ktr_room
  case u => ktr_units
  rintro _ _ h5 tk5 ⟨Dl, cl, Tl, nl, zl, xl, u3, npb2, rfl, rfl, hzl, hrl⟩ F5 N5
  have hzln : zl ≠ [] := by
    rintro rfl
    exact hrl.ne hne rfl
  iterate 2 (focus (first | ((first | ((rename (∀ (f : Flow) (s : Shared), _ → _) => hq); (with_reducible refine Mine.cutQ hq ?_); clear hq; (rename (Flow → Shared → Prop) => qq); clear qq) | (with_reducible refine Mine.cutQ (by with_reducible assumption) ?_)); (try dsimp only)) | ((first | (k_unfold; (try dsimp only)) | (k_end; kc_close) | walk1 | (dsimp only; walk1) | (leave1; (try dsimp only)) | fail "no step"); (try ((with_reducible show wpAny _ _ (exec _ _) (fun _ _ => _) _ _); refine Mine.gen_Q ?_; intro QQ9 hQ9)))))
  rename News _ _ _ _ => N7
  obtain ⟨Z5, hZ5⟩ : ∃ Z5, Z5 = (Dl, listOf [Value.int xl u3, .ref Tl].toArray cl) :: (Tl, listOf (tkRefs zl).toArray nl) :: (tkLed zl ++ Z4) := ⟨_, rfl⟩
  have N8 := kst_newsOf (l' := (R.dx, R.dxo w.params wsS (lnAt tx kk4) tl1) :: (R.pl, listOf #[.int kk4 tk1] npl) :: (R.pb, listOf (svs []).toArray npb2) :: Z5) N7 (by
    rw [hZ5]
    refine fm ?_ (fm ?_ (fm ?_ (fm ?_ (fm ?_ fun q hq => ?_))))
    iterate 5 (focus (repeat' (first | exact .head _ | apply List.mem_append_right | apply List.Mem.tail)))
    rcases List.mem_append.mp hq with hq | hq
    · repeat' (first | exact List.mem_append_left _ hq | apply List.Mem.tail)
    · repeat' (first | exact hq | apply List.mem_append_right | apply List.Mem.tail))
  clear N7
  have hp5 : ∀ q ∈ Z5, q.1 ≠ R.pb ∧ q.1 ≠ R.dx ∧ q.1 ≠ R.pl := by
    intro q hq
    have hq0 := hq
    rw [hZ5] at hq
    simp only [List.mem_cons, List.mem_append] at hq
    rcases hq with rfl | rfl | hq | hq
    · exact apt_ne N8 (.head _) (.tail _ (.head _)) (.tail _ (.tail _ (.head _))) (.tail _ (.tail _ (.tail _ hq0))) (apt_two _ _ _)
    · exact apt_ne N8 (.head _) (.tail _ (.head _)) (.tail _ (.tail _ (.head _))) (.tail _ (.tail _ (.tail _ hq0))) (apt_refs hzln _)
    · refine apt_ne N8 (.head _) (.tail _ (.head _)) (.tail _ (.tail _ (.head _))) (.tail _ (.tail _ (.tail _ hq0))) ?_
      obtain ⟨z, hz, rfl⟩ := List.mem_map.mp hq
      exact apt_tk z
    · exact hp4 q hq
  have hs5 : ∀ q ∈ Z4, q ∈ Z5 := fun q hq => by rw [hZ5]; exact .tail _ (.tail _ (List.mem_append_right _ hq))
  have hb5 := hb4.mono hs5 hp5
  clear c1 c2 cx cR cF
  have c1 := hb5.c1
  have c2 := hb5.c2
  have cx : (R.x, instObj 130 R.dx) ∈ Z5 := hb5.ro _ (by simp [Rdr.ro])
  iterate 9 (focus (first | ((first | ((rename (∀ (f : Flow) (s : Shared), _ → _) => hq); (with_reducible refine Mine.cutQ hq ?_); clear hq; (rename (Flow → Shared → Prop) => qq); clear qq) | (with_reducible refine Mine.cutQ (by with_reducible assumption) ?_)); (try dsimp only)) | ((first | (k_unfold; (try dsimp only)) | (k_end; kc_close) | walk1 | (dsimp only; walk1) | (leave1; (try dsimp only)) | fail "no step"); (try ((with_reducible show wpAny _ _ (exec _ _) (fun _ _ => _) _ _); refine Mine.gen_Q ?_; intro QQ9 hQ9)))))
  refine' Spec.use2 (getTok w p loose mean mg mb tx R hb5.rd wsS tl1 tk1 kk4 npl npb2 ((R.pb, listOf (svs []).toArray npb2) :: Z5) ?g1 ?g2 (Str.ofString "end") kk5 ?g3 hx.e1 hx.len) ?B ?F ?X ?N ?T rfl ?d ?u (k3_0 ?_)
  case g1 =>
    refine hb5.inn (fun q hq => .tail _ hq) fun q hq => ?_
    rcases List.mem_cons.mp hq with rfl | hq
    · exact .inr ⟨ha1, ha2⟩
    · exact .inl hq
  case g2 => exact .head _
  case g3 => rw [hwk]; exact hx.e
  case N => k_asm
  case B => k_asm
  case F => k_asm
  case X => k_asm
  case T => k_asm
  case d => ktr_room
  case u => ktr_units
  intro t6 tl6 tk7 h6 tk6 F6 N6
  clear N8
  iterate 5 (focus (first | ((first | ((rename (∀ (f : Flow) (s : Shared), _ → _) => hq); (with_reducible refine Mine.cutQ hq ?_); clear hq; (rename (Flow → Shared → Prop) => qq); clear qq) | (with_reducible refine Mine.cutQ (by with_reducible assumption) ?_)); (try dsimp only)) | ((first | (k_unfold; (try dsimp only)) | (k_end; kc_close) | walk1 | (dsimp only; walk1) | (leave1; (try dsimp only)) | fail "no step"); (try ((with_reducible show wpAny _ _ (exec _ _) (fun _ _ => _) _ _); refine Mine.gen_Q ?_; intro QQ9 hQ9)))))
  refine' Spec.use2 (getTok w p loose mean mg mb tx R hb5.rd wsS tl6 tk7 kk5 npl npb2 ((R.pb, listOf (svs []).toArray npb2) :: Z5) ?g1 ?g2 emS (kk5 + 1) ?g3 hx.n1 hx.len) ?B ?F ?X ?N ?T rfl ?d ?u (k3_0 ?_)
  case g1 =>
    refine hb5.inn (fun q hq => .tail _ hq) fun q hq => ?_
    rcases List.mem_cons.mp hq with rfl | hq
    · exact .inr ⟨ha1, ha2⟩
    · exact .inl hq
  case g2 => exact .head _
  case g3 => rw [hwk]; exact hx.n
  case N => k_asm
  case B => k_asm
  case F => k_asm
  case X => k_asm
  case T => k_asm
  case d => ktr_room
  case u => ktr_units
  intro t7 tl7 tk9 h7 tk8 F7 N7
  clear N6
  have hln := ln_all hx.all
  iterate 25 (focus (first | ((first | ((rename (∀ (f : Flow) (s : Shared), _ → _) => hq); (with_reducible refine Mine.cutQ hq ?_); clear hq; (rename (Flow → Shared → Prop) => qq); clear qq) | (with_reducible refine Mine.cutQ (by with_reducible assumption) ?_)); (try dsimp only)) | ((first | (k_unfold; (try dsimp only)) | (k_end; kc_close) | walk1 | (dsimp only; walk1) | (leave1; (try dsimp only)) | fail "no step"); (try ((with_reducible show wpAny _ _ (exec _ _) (fun _ _ => _) _ _); refine Mine.gen_Q ?_; intro QQ9 hQ9)))))
  rename News _ _ _ _ => NL
  rw [hln] at NL
  refine ne_self (k := 1) (d := .list [.str (Str.ofString "end"), .str (Str.ofString ""), .int (1 + Txt.count tx (Str.ofString "\n"))]) (gd_list (k := 0) ?_) (by decide)
    (Reads.list (NL _ (.tail _ (.head _))).1 rfl rfl (.cons (.str _ _) (.cons (.str _ _) (.cons (.int _ _) .nil)))) (Reads.list (NL _ (.head _)).1 rfl rfl (.cons (.str _ _) (.cons (.str _ _) (.cons (.int _ _) .nil)))) (by ktr_units) ?_
  · refine fm ?_ (fm ?_ (fm ?_ fm0))
    · exact gd_str (by decide +kernel)
    · exact gd_str (by decide +kernel)
    · exact gd_int _
  iterate 2 (focus (first | ((first | ((rename (∀ (f : Flow) (s : Shared), _ → _) => hq); (with_reducible refine Mine.cutQ hq ?_); clear hq; (rename (Flow → Shared → Prop) => qq); clear qq) | (with_reducible refine Mine.cutQ (by with_reducible assumption) ?_)); (try dsimp only)) | ((first | (k_unfold; (try dsimp only)) | (k_end; kc_close) | walk1 | (dsimp only; walk1) | (leave1; (try dsimp only)) | fail "no step"); (try ((with_reducible show wpAny _ _ (exec _ _) (fun _ _ => _) _ _); refine Mine.gen_Q ?_; intro QQ9 hQ9)))))
  iterate 1 (focus (first | ((first | ((rename (∀ (f : Flow) (s : Shared), _ → _) => hq); (with_reducible refine Mine.cutQ hq ?_); clear hq; (rename (Flow → Shared → Prop) => qq); clear qq) | (with_reducible refine Mine.cutQ (by with_reducible assumption) ?_)); (try dsimp only)) | ((first | (k_unfold; (try dsimp only)) | (k_end; kc_close) | walk1 | (dsimp only; walk1) | (leave1; (try dsimp only)) | fail "no step"); (try ((with_reducible show wpAny _ _ (exec _ _) (fun _ _ => _) _ _); refine Mine.gen_Q ?_; intro QQ9 hQ9)))))
  iterate 2 (focus (first | ((first | ((rename (∀ (f : Flow) (s : Shared), _ → _) => hq); (with_reducible refine Mine.cutQ hq ?_); clear hq; (rename (Flow → Shared → Prop) => qq); clear qq) | (with_reducible refine Mine.cutQ (by with_reducible assumption) ?_)); (try dsimp only)) | ((first | (k_unfold; (try dsimp only)) | (k_end; kc_close) | walk1 | (dsimp only; walk1) | (leave1; (try dsimp only)) | fail "no step"); (try ((with_reducible show wpAny _ _ (exec _ _) (fun _ _ => _) _ _); refine Mine.gen_Q ?_; intro QQ9 hQ9)))))
  rename Fr _ _ _ _ => FE
  refine next _ _ _ Z5 Dp cp Tp np Dl cl Tl nl zp zl xp xl u1 u2 u3 (fr_kst [("limit", .int P.limit tl), ("step", .int P.step ts), ("fee", .int P.fee tf), ("rows", .ref dR), ("first", .ref Fi), ("more", .int mo um), ("x", .int x ux), ("name", .str nm un), ("bits", .int bits ub), ("begun", .str (begS nm.cps.toList (wds ws)) ug), ("pile", .ref Dp), ("line", .ref Dl)] FE ?_)
    (kst_newsOf NL fun q hq => .tail _ (.tail _ (.tail _ (.tail _ (.tail _ hq))))) (fun q hq => hs5 q (hs4 q hq)) (hs5 _ (by rw [hZ4]; exact .head _)) (hs5 _ (by rw [hZ4]; exact .tail _ (.head _))) (fun q hq => hs5 q (by rw [hZ4]; exact .tail _ (.tail _ (List.mem_append_left _ hq)))) hzp hrp
    (by rw [hZ5]; exact .head _) (by rw [hZ5]; exact .tail _ (.head _)) (fun q hq => by rw [hZ5]; exact .tail _ (.tail _ (List.mem_append_left _ hq))) hzl hrl
  exact fm rfl (fm rfl (fm rfl (fm rfl (fm rfl (fm rfl (fm rfl (fm rfl (fm rfl (fm rfl (fm rfl (fm rfl fm0)))))))))))
end Mine
end
section
open PySem PySem.W PyProof.Rows PyProof.V PySem.Spec PySem.SeqAt
set_option maxRecDepth 100000
namespace Mine
set_option maxHeartbeats 0 in
theorem lawS8 (w : World) (p : Program) (loose : List Str) (mean : ExcName → Option Value) (mg mb : Str → Option Value) (base h₀ : Heap) (L fa : Addr) (cd : Value) (s : Shared) (m₀ : Str → Option Value) (Q : Flow → Shared → Prop) (E : Value → Shared → Prop)
  (B : Below callerA base [] h₀) (X : (hd.heap_1 w.params).In h₀) (T : Top p loose mean mg mb h₀)
  (P : Par) (hP : P.Ok) (nm : Str) (hnl : nm.cps.size ≤ 3) (hnk : PyData.strOk (nm ++ Str.ofString "\n") = true) (x bits mo : Int) (tl ts tf ux un ub ug um : Tok) (dR Fi : Addr) (nf : Nat) (oR : Obj) (ws : List (Str × Tok)) (kR : List (Str × Value)) (bg : Str)
  (Z3 : List (Addr × Obj)) (Dp cp Tp np Dl cl Tl nl : Nat) (zp zl : List Tk) (xp xl : Int) (u1 u2 u3 : Tok)
  (F : Fr h₀ L s.heap (kstB m₀ [("limit", .int P.limit tl), ("step", .int P.step ts), ("fee", .int P.fee tf), ("rows", .ref dR), ("first", .ref Fi), ("more", .int mo um), ("x", .int x ux), ("name", .str nm un), ("bits", .int bits ub), ("begun", .str bg ug), ("pile", .ref Dp), ("line", .ref Dl)]))
  (N : News h₀ L s.heap Z3)
  (hdR : (dR, oR) ∈ Z3) (hfi : (Fi, listOf (svs ws).toArray nf) ∈ Z3) (hro : RowOk (wds ws))
  (hkR : oR.IsDictOf (strKind PySem.Challenge.rw_xg0056_01.row.prog w) kR)
  (hvR : ∀ v, isName v → ∃ a rr n, (a, listOf (svs rr).toArray n) ∈ Z3 ∧ wds rr = P.rows v ∧ valueAt kR v = some (.ref a))
  (hm : P.meas ws.length x ≤ 100)
  (g1 : (Dp, listOf [Value.int xp u1, .ref Tp, .str (pileS nm.cps.toList []) u2].toArray cp) ∈ Z3) (g2 : (Tp, listOf (tkRefs zp).toArray np) ∈ Z3) (g3 : ∀ q ∈ tkLed zp, q ∈ Z3) (g4 : Runs P (-1) (wds ws) x 0 xp (tkDat zp))
  (f1 : (Dl, listOf [Value.int xl u3, .ref Tl].toArray cl) ∈ Z3) (f2 : (Tl, listOf (tkRefs zl).toArray nl) ∈ Z3) (f3 : ∀ q ∈ tkLed zl, q ∈ Z3) (f4 : Runs P 0 (wds ws) x bits xl (tkDat zl))
  (next : ∀ (h : Heap) (tk : Nat) (m : Str → Option Value),
    Fr h₀ L h (kstB m [("limit", .int P.limit tl), ("step", .int P.step ts), ("fee", .int P.fee tf), ("more", .int mo um), ("x", .int x ux), ("name", .str nm un), ("begun", .str bg ug), ("pile", .ref Dp), ("line", .ref Dl)]) →
    News h₀ L h Z3 → LGo w L fa cd 24 Q E { s with heap := h, toks := tk }) :
  LGo w L fa cd 22 Q E s := by
  unfold LGo
  dsimp only [lawEnv, lawRec, recOf, List.drop]
  revert X
  k_fill
  intro X
  have hnn : ∀ v ∈ ws, isName v.1 := fun v hv => hro.2.2 v.1 (List.mem_map_of_mem (f := fun q : Str × Tok => q.1) hv)
  iterate 28 (focus (first | ((first | ((rename (∀ (f : Flow) (s : Shared), _ → _) => hq); (with_reducible refine Mine.cutQ hq ?_); clear hq; (rename (Flow → Shared → Prop) => qq); clear qq) | (with_reducible refine Mine.cutQ (by with_reducible assumption) ?_)); (try dsimp only)) | ((first | (k_unfold; (try dsimp only)) | (k_end; kc_close) | walk1 | (dsimp only; walk1) | (leave1; (try dsimp only)) | fail "no step"); (try ((with_reducible show wpAny _ _ (exec _ _) (fun _ _ => _) _ _); refine Mine.gen_Q ?_; intro QQ9 hQ9)))))
  refine' Spec.use2 (plain w p loose mean mg mb P hP dR Fi x 0 (-1) _ _ _ _ _ _ oR ws nf Z3 hm hfi hnn (.inr rfl) kR hdR hkR hvR) ?B ?F ?X ?N ?T rfl ?d ?u (k7_2 ?_)
  case N => k_asm
  case B => k_asm
  case F => k_asm
  case X => k_asm
  case T => k_asm
  case d => ktr_room
  case u => ktr_units
  intro D4 c4 T4 n4 z4 x4 u4 hz4 hr4 h4 tk4 F4 N4
  obtain ⟨hx4, hd4⟩ := hr4.det g4
  have hl1 : (Str.ofString "\n").length = 1 := by decide
  have hl2 : nm.length ≤ 3 := hnl
  iterate 5 (focus (first | ((first | ((rename (∀ (f : Flow) (s : Shared), _ → _) => hq); (with_reducible refine Mine.cutQ hq ?_); clear hq; (rename (Flow → Shared → Prop) => qq); clear qq) | (with_reducible refine Mine.cutQ (by with_reducible assumption) ?_)); (try dsimp only)) | ((first | (k_unfold; (try dsimp only)) | (k_end; kc_close) | walk1 | (dsimp only; walk1) | (leave1; (try dsimp only)) | fail "no step"); (try ((with_reducible show wpAny _ _ (exec _ _) (fun _ _ => _) _ _); refine Mine.gen_Q ?_; intro QQ9 hQ9)))))
  refine PyProof.Rows.add_str ?_ (by rw [hl1, sizeLine_eq]; omega)
  iterate 4 (focus (first | ((first | ((rename (∀ (f : Flow) (s : Shared), _ → _) => hq); (with_reducible refine Mine.cutQ hq ?_); clear hq; (rename (Flow → Shared → Prop) => qq); clear qq) | (with_reducible refine Mine.cutQ (by with_reducible assumption) ?_)); (try dsimp only)) | ((first | (k_unfold; (try dsimp only)) | (k_end; kc_close) | walk1 | (dsimp only; walk1) | (leave1; (try dsimp only)) | fail "no step"); (try ((with_reducible show wpAny _ _ (exec _ _) (fun _ _ => _) _ _); refine Mine.gen_Q ?_; intro QQ9 hQ9)))))
  refine' kmk_add_lit (zs := [Value.int x4 u4, Value.ref T4, Value.str (nm ++ Str.ofString "\n") ?tz]) (by k_asm) (by k_asm) (News.isList (by k_asm) (by k_mem)) (News.isList (by k_asm) (by k_mem)) ?hz ?_ (by simp [sizeLine_eq])
  case hz => rfl
  intro D5 h5 F5 N5 l5
  rename News _ _ _ _ => N6
  have hok := g4.names hP hro.2.2
  have hok2 := f4.names hP hro.2.2
  have N7 : News h₀ L h5 Z3 := kst_newsOf N6 fun q hq => .tail _ (.tail _ (.tail _ (.tail _ (List.mem_append_right (tkLed z4) hq))))
  obtain ⟨as1, e1⟩ := reads_triple (N7 _ g1).1 (N7 _ g2).1 (fun q hq => (N7 q (g3 q hq)).1)
  obtain ⟨as2, e2⟩ := reads_triple (N6 _ (.head _)).1 (N6 _ (.tail _ (.tail _ (.tail _ (.head _))))).1 (fun q hq => (N6 q (.tail _ (.tail _ (.tail _ (.tail _ (List.mem_append_left _ hq)))))).1)
  rw [pile_nil] at e1
  rw [hx4, hd4] at e2
  refine ne_self (gd_triple hok hnk) (by decide) e1 e2 (by ktr_units) ?_
  clear N6 e1 e2
  iterate 2 (focus (first | ((first | ((rename (∀ (f : Flow) (s : Shared), _ → _) => hq); (with_reducible refine Mine.cutQ hq ?_); clear hq; (rename (Flow → Shared → Prop) => qq); clear qq) | (with_reducible refine Mine.cutQ (by with_reducible assumption) ?_)); (try dsimp only)) | ((first | (k_unfold; (try dsimp only)) | (k_end; kc_close) | walk1 | (dsimp only; walk1) | (leave1; (try dsimp only)) | fail "no step"); (try ((with_reducible show wpAny _ _ (exec _ _) (fun _ _ => _) _ _); refine Mine.gen_Q ?_; intro QQ9 hQ9)))))
  iterate 1 (focus (first | ((first | ((rename (∀ (f : Flow) (s : Shared), _ → _) => hq); (with_reducible refine Mine.cutQ hq ?_); clear hq; (rename (Flow → Shared → Prop) => qq); clear qq) | (with_reducible refine Mine.cutQ (by with_reducible assumption) ?_)); (try dsimp only)) | ((first | (k_unfold; (try dsimp only)) | (k_end; kc_close) | walk1 | (dsimp only; walk1) | (leave1; (try dsimp only)) | fail "no step"); (try ((with_reducible show wpAny _ _ (exec _ _) (fun _ _ => _) _ _); refine Mine.gen_Q ?_; intro QQ9 hQ9)))))
  iterate 2 (focus (first | ((first | ((rename (∀ (f : Flow) (s : Shared), _ → _) => hq); (with_reducible refine Mine.cutQ hq ?_); clear hq; (rename (Flow → Shared → Prop) => qq); clear qq) | (with_reducible refine Mine.cutQ (by with_reducible assumption) ?_)); (try dsimp only)) | ((first | (k_unfold; (try dsimp only)) | (k_end; kc_close) | walk1 | (dsimp only; walk1) | (leave1; (try dsimp only)) | fail "no step"); (try ((with_reducible show wpAny _ _ (exec _ _) (fun _ _ => _) _ _); refine Mine.gen_Q ?_; intro QQ9 hQ9)))))
  iterate 25 (focus (first | ((first | ((rename (∀ (f : Flow) (s : Shared), _ → _) => hq); (with_reducible refine Mine.cutQ hq ?_); clear hq; (rename (Flow → Shared → Prop) => qq); clear qq) | (with_reducible refine Mine.cutQ (by with_reducible assumption) ?_)); (try dsimp only)) | ((first | (k_unfold; (try dsimp only)) | (k_end; kc_close) | walk1 | (dsimp only; walk1) | (leave1; (try dsimp only)) | fail "no step"); (try ((with_reducible show wpAny _ _ (exec _ _) (fun _ _ => _) _ _); refine Mine.gen_Q ?_; intro QQ9 hQ9)))))
  refine' Spec.use2 (plain w p loose mean mg mb P hP dR Fi x bits 0 _ _ _ _ _ _ oR ws nf Z3 hm hfi hnn (.inl rfl) kR hdR hkR hvR) ?B ?F ?X ?N ?T rfl ?d ?u (k7_2 ?_)
  case N => k_asm
  case B => k_asm
  case F => k_asm
  case X => k_asm
  case T => k_asm
  case d => ktr_room
  case u => ktr_units
  intro D8 c8 T8 n8 z8 x8 u8 hz8 hr8 h8 tk8 F8 N8
  obtain ⟨hx8, hd8⟩ := hr8.det f4
  have N9 : News h₀ L h8 Z3 := kst_newsOf N8 fun q hq => .tail _ (.tail _ (List.mem_append_right (tkLed z8) hq))
  obtain ⟨as1, e1⟩ := reads_pair (N9 _ f1).1 (N9 _ f2).1 (fun q hq => (N9 q (f3 q hq)).1)
  obtain ⟨as2, e2⟩ := reads_pair (N8 _ (.head _)).1 (N8 _ (.tail _ (.head _))).1 (fun q hq => (N8 q (.tail _ (.tail _ (List.mem_append_left _ hq)))).1)
  rw [hx8, hd8] at e2
  refine ne_self (gd_pair hok2) (by decide) e1 e2 (by ktr_units) ?_
  clear N8 e1 e2
  iterate 2 (focus (first | ((first | ((rename (∀ (f : Flow) (s : Shared), _ → _) => hq); (with_reducible refine Mine.cutQ hq ?_); clear hq; (rename (Flow → Shared → Prop) => qq); clear qq) | (with_reducible refine Mine.cutQ (by with_reducible assumption) ?_)); (try dsimp only)) | ((first | (k_unfold; (try dsimp only)) | (k_end; kc_close) | walk1 | (dsimp only; walk1) | (leave1; (try dsimp only)) | fail "no step"); (try ((with_reducible show wpAny _ _ (exec _ _) (fun _ _ => _) _ _); refine Mine.gen_Q ?_; intro QQ9 hQ9)))))
  iterate 2 (focus (first | ((first | ((rename (∀ (f : Flow) (s : Shared), _ → _) => hq); (with_reducible refine Mine.cutQ hq ?_); clear hq; (rename (Flow → Shared → Prop) => qq); clear qq) | (with_reducible refine Mine.cutQ (by with_reducible assumption) ?_)); (try dsimp only)) | ((first | (k_unfold; (try dsimp only)) | (k_end; kc_close) | walk1 | (dsimp only; walk1) | (leave1; (try dsimp only)) | fail "no step"); (try ((with_reducible show wpAny _ _ (exec _ _) (fun _ _ => _) _ _); refine Mine.gen_Q ?_; intro QQ9 hQ9)))))
  rename Fr _ _ _ _ => FE
  refine next _ _ _ (fr_kst [("limit", .int P.limit tl), ("step", .int P.step ts), ("fee", .int P.fee tf), ("more", .int mo um), ("x", .int x ux), ("name", .str nm un), ("begun", .str bg ug), ("pile", .ref Dp), ("line", .ref Dl)] FE ?_) N9
  exact fm rfl (fm rfl (fm rfl (fm rfl (fm rfl (fm rfl (fm rfl (fm rfl (fm rfl fm0))))))))
end Mine
end
section
open PySem PySem.W PyProof.Rows PyProof.V PySem.Spec PySem.SeqAt
set_option maxRecDepth 100000
namespace Mine
set_option maxHeartbeats 0 in
theorem isHdn (w : World) (p : Program) (loose : List Str) (mean : ExcName → Option Value) (mg mb : Str → Option Value)
  (x : Str) (t : Tok) (Z : List (Addr × Obj)) (hx : x.cps.size ≤ 100000) (hm : ∀ i, hitAt x.cps i = false) (hne : x ≠ Str.ofString "") (h0 : (Txt.item x 0 == Str.ofString ".") = false) (h1 : (Txt.item x (-1) == Str.ofString ".") = false) :
  Spec w p loose mean mg mb 50 6 [.str x t] Z (fun v nw => v = .bool true ∧ nw = Z) := by
  unfold Spec
  k_fill
  intro dp un gd cn cs a ccd cl outer A₀ base h₀ L m s Q E B F X N T hk hd hu hret
  k_dflt cell_enter
  rename Fr _ _ _ (fun _ => _) => F0; refine letM F0 ?_; clear F0; intro M0 F1
  refine letEA ?_; intro e9 A9
  iterate 6 (focus (first | ((first | ((rename (∀ (f : Flow) (s : Shared), _ → _) => hq); (with_reducible refine Mine.cutQ hq ?_); clear hq; (rename (Flow → Shared → Prop) => qq); clear qq) | (with_reducible refine Mine.cutQ (by with_reducible assumption) ?_)); (try dsimp only)) | ((first | (k_unfold; (try dsimp only)) | (k_end; kc_close) | walk1 | (dsimp only; walk1) | (leave1; (try dsimp only)) | fail "no step"); (try ((with_reducible show wpAny _ _ (exec _ _) (fun _ _ => _) _ _); refine Mine.gen_Q ?_; intro QQ9 hQ9)))))
  refine gm_search (by k_asm) (by k_asm) ?_
  iterate 4 (focus (first | ((first | ((rename (∀ (f : Flow) (s : Shared), _ → _) => hq); (with_reducible refine Mine.cutQ hq ?_); clear hq; (rename (Flow → Shared → Prop) => qq); clear qq) | (with_reducible refine Mine.cutQ (by with_reducible assumption) ?_)); (try dsimp only)) | ((first | (k_unfold; (try dsimp only)) | (k_end; kc_close) | walk1 | (dsimp only; walk1) | (leave1; (try dsimp only)) | fail "no step"); (try ((with_reducible show wpAny _ _ (exec _ _) (fun _ _ => _) _ _); refine Mine.gen_Q ?_; intro QQ9 hQ9)))))
  have hxf : (x == Str.ofString "") = false := by simpa using hne
  refine search_noneK (by k_asm) (by k_asm) (by omega) hm ?_
  iterate 9 (focus (first | ((first | ((rename (∀ (f : Flow) (s : Shared), _ → _) => hq); (with_reducible refine Mine.cutQ hq ?_); clear hq; (rename (Flow → Shared → Prop) => qq); clear qq) | (with_reducible refine Mine.cutQ (by with_reducible assumption) ?_)); (try dsimp only)) | ((first | (k_unfold; (try dsimp only)) | (k_end; kc_close) | walk1 | (dsimp only; walk1) | (leave1; (try dsimp only)) | fail "no step"); (try ((with_reducible show wpAny _ _ (exec _ _) (fun _ _ => _) _ _); refine Mine.gen_Q ?_; intro QQ9 hQ9)))))
  iterate 2 (focus (first | ((first | ((rename (∀ (f : Flow) (s : Shared), _ → _) => hq); (with_reducible refine Mine.cutQ hq ?_); clear hq; (rename (Flow → Shared → Prop) => qq); clear qq) | (with_reducible refine Mine.cutQ (by with_reducible assumption) ?_)); (try dsimp only)) | ((first | (k_unfold; (try dsimp only)) | (k_end; kc_close) | walk1 | (dsimp only; walk1) | (leave1; (try dsimp only)) | fail "no step"); (try ((with_reducible show wpAny _ _ (exec _ _) (fun _ _ => _) _ _); refine Mine.gen_Q ?_; intro QQ9 hQ9)))))
  iterate 1 (focus (first | ((first | ((rename (∀ (f : Flow) (s : Shared), _ → _) => hq); (with_reducible refine Mine.cutQ hq ?_); clear hq; (rename (Flow → Shared → Prop) => qq); clear qq) | (with_reducible refine Mine.cutQ (by with_reducible assumption) ?_)); (try dsimp only)) | ((first | (k_unfold; (try dsimp only)) | (k_end; kc_close) | walk1 | (dsimp only; walk1) | (leave1; (try dsimp only)) | fail "no step"); (try ((with_reducible show wpAny _ _ (exec _ _) (fun _ _ => _) _ _); refine Mine.gen_Q ?_; intro QQ9 hQ9)))))
  iterate 12 (focus (first | ((first | ((rename (∀ (f : Flow) (s : Shared), _ → _) => hq); (with_reducible refine Mine.cutQ hq ?_); clear hq; (rename (Flow → Shared → Prop) => qq); clear qq) | (with_reducible refine Mine.cutQ (by with_reducible assumption) ?_)); (try dsimp only)) | ((first | (k_unfold; (try dsimp only)) | (k_end; kc_close) | walk1 | (dsimp only; walk1) | (leave1; (try dsimp only)) | fail "no step"); (try ((with_reducible show wpAny _ _ (exec _ _) (fun _ _ => _) _ _); refine Mine.gen_Q ?_; intro QQ9 hQ9)))))
  iterate 26 (focus (first | ((first | ((rename (∀ (f : Flow) (s : Shared), _ → _) => hq); (with_reducible refine Mine.cutQ hq ?_); clear hq; (rename (Flow → Shared → Prop) => qq); clear qq) | (with_reducible refine Mine.cutQ (by with_reducible assumption) ?_)); (try dsimp only)) | ((first | (k_unfold; (try dsimp only)) | (k_end; kc_close) | walk1 | (dsimp only; walk1) | (leave1; (try dsimp only)) | fail "no step"); (try ((with_reducible show wpAny _ _ (exec _ _) (fun _ _ => _) _ _); refine Mine.gen_Q ?_; intro QQ9 hQ9)))))
  exact hret _ _ _ _ ⟨rfl, rfl⟩ (by k_asm) (by k_asm)

set_option maxHeartbeats 0 in
theorem isHdnF (w : World) (p : Program) (loose : List Str) (mean : ExcName → Option Value) (mg mb : Str → Option Value)
  (x : Str) (t : Tok) (Z : List (Addr × Obj)) (hx : x.cps.size ≤ 100000) (q : Nat) (hq : hitAt x.cps q = true) (hm : ∀ i, i < q → hitAt x.cps i = false) :
  Spec w p loose mean mg mb 50 6 [.str x t] Z (fun v nw => v = .bool false ∧ nw = Z) := by
  unfold Spec
  k_fill
  intro dp un gd cn cs a ccd cl outer A₀ base h₀ L m s Q E B F X N T hk hd hu hret
  k_dflt cell_enter
  rename Fr _ _ _ (fun _ => _) => F0; refine letM F0 ?_; clear F0; intro M0 F1
  refine letEA ?_; intro e9 A9
  iterate 6 (focus (first | ((first | ((rename (∀ (f : Flow) (s : Shared), _ → _) => hq); (with_reducible refine Mine.cutQ hq ?_); clear hq; (rename (Flow → Shared → Prop) => qq); clear qq) | (with_reducible refine Mine.cutQ (by with_reducible assumption) ?_)); (try dsimp only)) | ((first | (k_unfold; (try dsimp only)) | (k_end; kc_close) | walk1 | (dsimp only; walk1) | (leave1; (try dsimp only)) | fail "no step"); (try ((with_reducible show wpAny _ _ (exec _ _) (fun _ _ => _) _ _); refine Mine.gen_Q ?_; intro QQ9 hQ9)))))
  refine gm_search (by k_asm) (by k_asm) ?_
  iterate 4 (focus (first | ((first | ((rename (∀ (f : Flow) (s : Shared), _ → _) => hq); (with_reducible refine Mine.cutQ hq ?_); clear hq; (rename (Flow → Shared → Prop) => qq); clear qq) | (with_reducible refine Mine.cutQ (by with_reducible assumption) ?_)); (try dsimp only)) | ((first | (k_unfold; (try dsimp only)) | (k_end; kc_close) | walk1 | (dsimp only; walk1) | (leave1; (try dsimp only)) | fail "no step"); (try ((with_reducible show wpAny _ _ (exec _ _) (fun _ _ => _) _ _); refine Mine.gen_Q ?_; intro QQ9 hQ9)))))
  refine search_someK (by k_asm) (by k_asm) (by k_asm) (by omega) hq hm ?_
  intro M T1 h1 F1 N1 l1 l2; (try k_lt l1); (try k_sweep)
  skip
  refine truthy_maK (by k_asm) (by k_mem) ?_
  iterate 9 (focus (first | ((first | ((rename (∀ (f : Flow) (s : Shared), _ → _) => hq); (with_reducible refine Mine.cutQ hq ?_); clear hq; (rename (Flow → Shared → Prop) => qq); clear qq) | (with_reducible refine Mine.cutQ (by with_reducible assumption) ?_)); (try dsimp only)) | ((first | (k_unfold; (try dsimp only)) | (k_end; kc_close) | walk1 | (dsimp only; walk1) | (leave1; (try dsimp only)) | fail "no step"); (try ((with_reducible show wpAny _ _ (exec _ _) (fun _ _ => _) _ _); refine Mine.gen_Q ?_; intro QQ9 hQ9)))))
  exact hret _ _ _ _ ⟨rfl, rfl⟩ (by k_asm) (kst_newsOf (by k_asm) fun q hq => .tail _ (.tail _ hq))
end Mine
end
section
open PySem PySem.W PyProof.Rows PyProof.V PySem.Spec PySem.SeqAt
set_option maxRecDepth 100000
namespace Mine
abbrev tupO (q r : Int) (t1 t2 : Tok) : Obj := { cls := .type "tuple", data := .seq #[.int q t1, .int r t2] }
theorem noPy {a b : Int} (h : Builtin.Int.intBits a ≤ 4000) : Builtin.divisionGoesByPylong a b = false := by
  unfold Builtin.divisionGoesByPylong
  rw [Builtin.Int.intBits] at h
  have h1 : (if (a == 0) = true then 0 else a.natAbs.log2 / 30 + 1) ≤ 134 := by
    split
    · omega
    · rename_i hz
      rw [if_neg hz] at h
      omega
  simp only [Bool.and_eq_false_iff, decide_eq_false_iff_not]
  by_cases h2 : 300 < (if (b == 0) = true then 0 else b.natAbs.log2 / 30 + 1)
  · exact .inr (by simp only [gt_iff_lt]; omega)
  · exact .inl (by simpa using h2)
set_option maxHeartbeats 0 in
theorem div2 (w : World) (p : Program) (loose : List Str) (mean : ExcName → Option Value) (mg mb : Str → Option Value)
  (a b n : Int) (t1 t2 t3 : Tok) (Z : List (Addr × Obj)) (ha : 0 ≤ a) (hb : 1 ≤ b) (ha2 : Builtin.Int.intBits a ≤ 4000) (hn : 1 ≤ n) :
  Spec w p loose mean mg mb 57 6 [.int a t1, .int b t2, .int n t3] Z (fun v nw => ∃ D t1 t2, v = .ref D ∧ nw = (D, tupO (a / b) (a % b) t1 t2) :: Z ∧ (∀ p ∈ Z, p.1 ≠ D)) := by
  unfold Spec
  k_fill
  intro dp un gd cn cs aa ccd cl outer A₀ base h₀ L m s Q E B F X N T hk hd hu hret
  k_dflt cell_enter
  rename Fr _ _ _ (fun _ => _) => F0; refine letM F0 ?_; clear F0; intro M0 F1
  refine letEA ?_; intro e9 A9
  iterate 15 (focus (first | ((first | ((rename (∀ (f : Flow) (s : Shared), _ → _) => hq); (with_reducible refine Mine.cutQ hq ?_); clear hq; (rename (Flow → Shared → Prop) => qq); clear qq) | (with_reducible refine Mine.cutQ (by with_reducible assumption) ?_)); (try dsimp only)) | ((first | (k_unfold; (try dsimp only)) | (k_end; kc_close) | walk1 | (dsimp only; walk1) | (leave1; (try dsimp only)) | fail "no step"); (try ((with_reducible show wpAny _ _ (exec _ _) (fun _ _ => _) _ _); refine Mine.gen_Q ?_; intro QQ9 hQ9)))))
  iterate 1 (focus (first | ((first | ((rename (∀ (f : Flow) (s : Shared), _ → _) => hq); (with_reducible refine Mine.cutQ hq ?_); clear hq; (rename (Flow → Shared → Prop) => qq); clear qq) | (with_reducible refine Mine.cutQ (by with_reducible assumption) ?_)); (try dsimp only)) | ((first | (k_unfold; (try dsimp only)) | (k_end; kc_close) | walk1 | (dsimp only; walk1) | (leave1; (try dsimp only)) | fail "no step"); (try ((with_reducible show wpAny _ _ (exec _ _) (fun _ _ => _) _ _); refine Mine.gen_Q ?_; intro QQ9 hQ9)))))
  iterate 11 (focus (first | ((first | ((rename (∀ (f : Flow) (s : Shared), _ → _) => hq); (with_reducible refine Mine.cutQ hq ?_); clear hq; (rename (Flow → Shared → Prop) => qq); clear qq) | (with_reducible refine Mine.cutQ (by with_reducible assumption) ?_)); (try dsimp only)) | ((first | (k_unfold; (try dsimp only)) | (k_end; kc_close) | walk1 | (dsimp only; walk1) | (leave1; (try dsimp only)) | fail "no step"); (try ((with_reducible show wpAny _ _ (exec _ _) (fun _ _ => _) _ _); refine Mine.gen_Q ?_; intro QQ9 hQ9)))))
  rename Fr _ _ _ _ => FZ
  rename News _ _ _ _ => NZ
  refine divmod_N (by k_asm) (by k_asm) (by omega) ?_ (by left; exact noPy ha2)
  intro h1 F1 N1
  have hlt : ∀ q ∈ Z, q.1 ≠ _ := fun q hq => Nat.ne_of_lt (Heap.lt_size (NZ q hq).1)
  (try k_sweep)
  iterate 4 (focus (first | ((first | ((rename (∀ (f : Flow) (s : Shared), _ → _) => hq); (with_reducible refine Mine.cutQ hq ?_); clear hq; (rename (Flow → Shared → Prop) => qq); clear qq) | (with_reducible refine Mine.cutQ (by with_reducible assumption) ?_)); (try dsimp only)) | ((first | (k_unfold; (try dsimp only)) | (k_end; kc_close) | walk1 | (dsimp only; walk1) | (leave1; (try dsimp only)) | fail "no step"); (try ((with_reducible show wpAny _ _ (exec _ _) (fun _ _ => _) _ _); refine Mine.gen_Q ?_; intro QQ9 hQ9)))))
  rename News h₀ _ _ _ => NR
  rw [Int.fdiv_eq_ediv_of_nonneg _ (by omega), Int.fmod_eq_emod_of_nonneg _ (by omega)] at NR
  refine hret _ _ _ _ ⟨_, _, _, rfl, rfl, ?_⟩ (by k_asm) NR
  exact hlt
end Mine
end
section
open PySem PySem.W PyProof.Rows PyProof.V PySem.Spec PySem.SeqAt
set_option maxRecDepth 100000
namespace Mine
theorem bxor_low (n : Nat) : ∀ x : Int, Builtin.bitAnd x (x / 2 ^ n * 2 ^ n) = x / 2 ^ n * 2 ^ n := by
  induction n with
  | zero =>
    intro x
    have h1 := bitXor_and x x
    rw [bitXor_self] at h1
    simp
    omega
  | succ n ih =>
    intro x
    rw [kbt_halves]
    have e1 : x / 2 ^ (n + 1) = x / 2 / 2 ^ n := by rw [Int.pow_succ, Int.mul_comm, Int.ediv_ediv_of_nonneg (by decide)]
    have e2 : x / 2 ^ (n + 1) * 2 ^ (n + 1) = x / 2 / 2 ^ n * 2 ^ n * 2 := by rw [e1, Int.pow_succ, Int.mul_assoc]
    rw [e2, Int.mul_ediv_cancel _ (by decide), ih]
    rw [if_neg (by omega)]
    omega
def digOf (k : Nat) (a n : Int) : List Int := match k with
  | 0 => []
  | 1 => [a]
  | _ => [a % 2 ^ n.toNat, a / 2 ^ n.toNat]
theorem xor_low {a n : Int} : Builtin.bitXor a (a.fdiv (2 ^ n.toNat) * 2 ^ n.toNat) = a % 2 ^ n.toNat := by
  rw [Int.fdiv_eq_ediv_of_nonneg _ (Int.le_of_lt (kbt_pos _)), bitXor_and, bxor_low]
  have := Int.emod_add_mul_ediv a (2 ^ n.toNat)
  rw [Int.mul_comm] at this
  omega
theorem i2d_fin {h₀ h' : Heap} {L D : Addr} {m : Str → Option Value} {s : Shared} {Q : Value → Shared → Prop} {Z news : List (Addr × Obj)} {k tk : Nat} {a n : Int} {ps : Array Value} (ds : List (Int × Tok))
    (hret : ∀ v news' h' tk', (∃ D c ds ps, v = .ref D ∧ news' = (D, listOf (ivs ds).toArray c) :: (66, tabObj ps) :: Z ∧ (∀ p ∈ Z, p.1 ≠ D) ∧ @Ne Nat 66 D ∧ ds.map (·.1) = digOf k a n) → Fr h₀ L h' m → News h₀ L h' news' → Q v { s with heap := h', toks := tk' })
    (N : News h₀ L h' news) (F : Fr h₀ L h' m) (hm : (D, listOf (ivs ds).toArray 0) ∈ news) (hz : ∀ q ∈ Z, q ∈ news) (hne : ∀ p ∈ Z, p.1 ≠ D) (ht : (66, tabObj ps) ∈ news) (h6 : @Ne Nat 66 D) (hd : ds.map (·.1) = digOf k a n) : Q (.ref D) { s with heap := h', toks := tk } := by
  refine hret _ _ _ _ ⟨D, 0, ds, ps, rfl, rfl, hne, h6, hd⟩ F (kst_newsOf N fun q hq => ?_)
  rcases List.mem_cons.mp hq with rfl | hq
  · exact hm
  rcases List.mem_cons.mp hq with rfl | hq
  · exact ht
  · exact hz q hq
set_option maxHeartbeats 0 in
theorem i2d (w : World) (p : Program) (loose : List Str) (mean : ExcName → Option Value) (mg mb : Str → Option Value)
  (a n : Int) (t1 t2 : Tok) (Z : List (Addr × Obj)) (h66 : ∀ p ∈ Z, p.1 ≠ 66) (ha : 0 ≤ a) (ha2 : Builtin.Int.intBits a ≤ 4000) (hn : 1 ≤ n) (hn2 : n ≤ 4000) (k : Nat) (hkd : ((Builtin.Int.intBits a : Int) + n - 1).fdiv n = k) (hk2 : k ≤ 2) :
  Spec w p loose mean mg mb 71 10 [.int a t1, .int n t2] ((66, tabObj #[]) :: Z) (fun v nw => ∃ D c ds ps, v = .ref D ∧ nw = (D, listOf (ivs ds).toArray c) :: (66, tabObj ps) :: Z ∧ (∀ p ∈ Z, p.1 ≠ D) ∧ @Ne Nat 66 D ∧ ds.map (·.1) = digOf k a n) := by
  unfold Spec
  k_fill
  intro dp un gd cn cs aa ccd cl outer A₀ base h₀ L m s Q E B F X N T hk hd hu hret
  refine' code_defC ?k1 ?k2 ?k3 ?k4 ?k5 ?kA ?kF ?kK ?k6 ?k7 ?k8 ?k9 ?kB ?kD ?_ ?c2 ?c3 ?c4; (case kA => exact rfl); (case kF => exact rfl); (case kK => assumption); (case k1 => k_asm); (case k2 => k_asm); (case k3 => k_asm); (case k4 => k_asm); (case k5 => k_asm); (case k6 => k_is); (case k7 => k_is); (case k8 => ktr_room); (case k9 => exact BindsTo.of_eq rfl); (case kB => exact rfl); (case kD => decide +kernel); (case c2 => exact rfl); (case c3 => exact rfl); (case c4 => exact rfl); k_whole; intro g' L' h' tk' cells' FG' F' N' Y' B' X' T' l1; (try k_lt l1); k_cells Y'; (try simp only [List.cons_append, List.nil_append] at N'); (try dsimp only); (try k_lift B'); (try k_fold)
  rename Fr _ _ _ (fun _ => _) => F0; refine letM F0 ?_; clear F0; intro M0 F1
  refine letEA ?_; intro e9 A9
  have hcH : CodeHd g' 70 66 := codeHd_of_K X' (hd70 _)
  have hL1 : ∀ p ∈ Z, p.1 ≠ L' + 1 := allNe_le l1.2 (by omega)
  have hL2 : ∀ p ∈ Z, p.1 ≠ L' + 1 + 1 := allNe_le l1.2 (by omega)
  have hL3 : ∀ p ∈ Z, p.1 ≠ L' + 1 + 1 + 1 := allNe_le l1.2 (by omega)
  iterate 21 (focus (first | ((first | ((rename (∀ (f : Flow) (s : Shared), _ → _) => hq); (with_reducible refine Mine.cutQ hq ?_); clear hq; (rename (Flow → Shared → Prop) => qq); clear qq) | (with_reducible refine Mine.cutQ (by with_reducible assumption) ?_)); (try dsimp only)) | ((first | (k_unfold; (try dsimp only)) | (k_end; kc_close) | walk1 | (dsimp only; walk1) | (leave1; (try dsimp only)) | fail "no step"); (try ((with_reducible show wpAny _ _ (exec _ _) (fun _ _ => _) _ _); refine Mine.gen_Q ?_; intro QQ9 hQ9)))))
  refine PySem.AutoIntOps.floordiv_1 (by simp; omega) (by rw [noPy (Nat.le_trans ((intBits_le_iff (m := 13)).mpr (by omega)) (by decide))]; decide) ?_
  unfold Made.post
  dsimp only
  rw [hkd]
  have hk3 : k = 0 ∨ k = 1 ∨ k = 2 := by omega
  rcases hk3 with rfl | rfl | rfl
  · have ha0 : a = 0 := by
      apply Classical.byContradiction
      intro h0
      have h1 : 1 ≤ Builtin.Int.intBits a := by unfold Builtin.Int.intBits; rw [if_neg (by simpa using h0)]; omega
      rw [Int.fdiv_eq_ediv_of_nonneg _ (by omega)] at hkd
      have h2 : 1 ≤ ((Builtin.Int.intBits a : Int) + n - 1) / n := (Int.le_ediv_iff_mul_le (by omega)).mpr (by omega)
      omega
    subst ha0
    iterate 21 (focus (first | ((first | ((rename (∀ (f : Flow) (s : Shared), _ → _) => hq); (with_reducible refine Mine.cutQ hq ?_); clear hq; (rename (Flow → Shared → Prop) => qq); clear qq) | (with_reducible refine Mine.cutQ (by with_reducible assumption) ?_)); (try dsimp only)) | ((first | (k_unfold; (try dsimp only)) | (k_end; kc_close) | walk1 | (dsimp only; walk1) | (leave1; (try dsimp only)) | fail "no step"); (try ((with_reducible show wpAny _ _ (exec _ _) (fun _ _ => _) _ _); refine Mine.gen_Q ?_; intro QQ9 hQ9)))))
    rename News h₀ _ _ _ => NR
    refine i2d_fin [] hret NR (by k_asm) (by repeat' (first | exact .head _ | apply List.Mem.tail)) (by intro q hq; repeat' (first | exact hq | apply List.Mem.tail)) (by k_all) (by repeat' (first | exact .head _ | apply List.Mem.tail)) (by k_ne) rfl
  · have ha0 : a ≠ 0 := by
      rintro rfl
      rw [show Builtin.Int.intBits 0 = 0 from rfl, Int.fdiv_eq_ediv_of_nonneg _ (by omega), Int.ediv_eq_zero_of_lt (by omega) (by omega)] at hkd
      omega
    iterate 69 (focus (first | ((first | ((rename (∀ (f : Flow) (s : Shared), _ → _) => hq); (with_reducible refine Mine.cutQ hq ?_); clear hq; (rename (Flow → Shared → Prop) => qq); clear qq) | (with_reducible refine Mine.cutQ (by with_reducible assumption) ?_)); (try dsimp only)) | ((first | (k_unfold; (try dsimp only)) | (k_end; kc_close) | walk1 | (dsimp only; walk1) | (leave1; (try dsimp only)) | fail "no step"); (try ((with_reducible show wpAny _ _ (exec _ _) (fun _ _ => _) _ _); refine Mine.gen_Q ?_; intro QQ9 hQ9)))))
    · rename News h₀ _ _ _ => NR
      refine i2d_fin [(a, t1)] hret NR (by k_asm) (by repeat' (first | exact .head _ | apply List.Mem.tail)) (by intro q hq; repeat' (first | exact hq | apply List.Mem.tail)) (by k_all) (by repeat' (first | exact .head _ | apply List.Mem.tail)) (by k_ne) rfl
    all_goals (exfalso; omega)
  · have ha0 : a ≠ 0 := by
      rintro rfl
      rw [show Builtin.Int.intBits 0 = 0 from rfl, Int.fdiv_eq_ediv_of_nonneg _ (by omega), Int.ediv_eq_zero_of_lt (by omega) (by omega)] at hkd
      omega
    have hsh : (((0:Int) + 2).fdiv (2 ^ Int.toNat 1) - 0) * n = n := by
      rw [show (((0:Int) + 2).fdiv (2 ^ Int.toNat 1) - 0) = 1 by decide, Int.one_mul]
    have hsh0 : ¬ (((0:Int) + 2).fdiv (2 ^ Int.toNat 1) - 0) * n < 0 := by omega
    have hbl : Builtin.Int.intBits (a.fdiv (2 ^ n.toNat)) ≤ 4000 := intBits_fdiv_le ha2
    iterate 90 (focus (first | ((first | ((rename (∀ (f : Flow) (s : Shared), _ → _) => hq); (with_reducible refine Mine.cutQ hq ?_); clear hq; (rename (Flow → Shared → Prop) => qq); clear qq) | (with_reducible refine Mine.cutQ (by with_reducible assumption) ?_)); (try dsimp only)) | ((first | (k_unfold; (try dsimp only)) | (k_end; kc_close) | walk1 | (dsimp only; walk1) | (leave1; (try dsimp only)) | fail "no step"); (try ((with_reducible show wpAny _ _ (exec _ _) (fun _ _ => _) _ _); refine Mine.gen_Q ?_; intro QQ9 hQ9)))))
    · rw [hsh]
      refine lshift_int (by omega) (by omega) ?_
      iterate 99 (focus (first | ((first | ((rename (∀ (f : Flow) (s : Shared), _ → _) => hq); (with_reducible refine Mine.cutQ hq ?_); clear hq; (rename (Flow → Shared → Prop) => qq); clear qq) | (with_reducible refine Mine.cutQ (by with_reducible assumption) ?_)); (try dsimp only)) | ((first | (k_unfold; (try dsimp only)) | (k_end; kc_close) | walk1 | (dsimp only; walk1) | (leave1; (try dsimp only)) | fail "no step"); (try ((with_reducible show wpAny _ _ (exec _ _) (fun _ _ => _) _ _); refine Mine.gen_Q ?_; intro QQ9 hQ9)))))
      rename News h₀ _ _ _ => NR
      refine i2d_fin [(Builtin.bitXor a (a.fdiv (2 ^ n.toNat) * 2 ^ n.toNat), _), (a.fdiv (2 ^ ((((0:Int) + 2).fdiv (2 ^ Int.toNat 1) - 0) * n).toNat), _)] hret NR (by k_asm) (by repeat' (first | exact .head _ | apply List.Mem.tail)) (by intro q hq; repeat' (first | exact hq | apply List.Mem.tail)) (by k_all) (by repeat' (first | exact .head _ | apply List.Mem.tail)) (by k_ne) ?_
      rw [hsh, xor_low]
      simp only [digOf, List.map_cons, List.map_nil]
      rw [Int.fdiv_eq_ediv_of_nonneg _ (Int.le_of_lt (kbt_pos _))]
    all_goals (exfalso; omega)
end Mine
end
section
open PySem PySem.W PyProof.Rows PyProof.V PySem.Spec PySem.SeqAt
set_option maxRecDepth 100000
namespace Mine
theorem d2i_fin {h₀ h' : Heap} {L : Addr} {m : Str → Option Value} {s : Shared} {Q : Value → Shared → Prop} {Z news : List (Addr × Obj)} {tk : Nat} {x : Int} {u : Tok} {ps : Array Value}
    (hret : ∀ v news' h' tk', (∃ t ps, v = .int x t ∧ news' = (73, tabObj ps) :: Z) → Fr h₀ L h' m → News h₀ L h' news' → Q v { s with heap := h', toks := tk' })
    (N : News h₀ L h' news) (F : Fr h₀ L h' m) (ht : (73, tabObj ps) ∈ news) (hz : ∀ q ∈ Z, q ∈ news) : Q (.int x u) { s with heap := h', toks := tk } := by
  refine hret _ _ _ _ ⟨u, ps, rfl, rfl⟩ F (kst_newsOf N fun q hq => ?_)
  rcases List.mem_cons.mp hq with rfl | hq
  · exact ht
  · exact hz q hq
set_option maxHeartbeats 0 in
theorem d2i0 (w : World) (p : Program) (loose : List Str) (mean : ExcName → Option Value) (mg mb : Str → Option Value)
  (D : Addr) (c : Nat) (n : Int) (t2 : Tok) (Z : List (Addr × Obj)) (h73 : ∀ p ∈ Z, p.1 ≠ 73) (hD : (D, listOf #[] c) ∈ Z) (hn : 1 ≤ n) (hn2 : n ≤ 4000) :
  Spec w p loose mean mg mb 78 10 [.ref D, .int n t2] ((73, tabObj #[]) :: Z) (fun v nw => ∃ t ps, v = .int 0 t ∧ nw = (73, tabObj ps) :: Z) := by
  unfold Spec
  k_fill
  intro dp un gd cn cs aa ccd cl outer A₀ base h₀ L m s Q E B F X N T hk hd hu hret
  refine' code_defC ?k1 ?k2 ?k3 ?k4 ?k5 ?kA ?kF ?kK ?k6 ?k7 ?k8 ?k9 ?kB ?kD ?_ ?c2 ?c3 ?c4; (case kA => exact rfl); (case kF => exact rfl); (case kK => assumption); (case k1 => k_asm); (case k2 => k_asm); (case k3 => k_asm); (case k4 => k_asm); (case k5 => k_asm); (case k6 => k_is); (case k7 => k_is); (case k8 => ktr_room); (case k9 => exact BindsTo.of_eq rfl); (case kB => exact rfl); (case kD => decide +kernel); (case c2 => exact rfl); (case c3 => exact rfl); (case c4 => exact rfl); k_whole; intro g' L' h' tk' cells' FG' F' N' Y' B' X' T' l1; (try k_lt l1); k_cells Y'; (try simp only [List.cons_append, List.nil_append] at N'); (try dsimp only); (try k_lift B'); (try k_fold)
  rename Fr _ _ _ (fun _ => _) => F0; refine letM F0 ?_; clear F0; intro M0 F1
  refine letEA ?_; intro e9 A9
  have hcH : CodeHd g' 77 73 := codeHd_of_K X' (hd77 _)
  have hL1 : ∀ p ∈ Z, p.1 ≠ L' + 1 := allNe_le l1.2 (by omega)
  have hL2 : ∀ p ∈ Z, p.1 ≠ L' + 1 + 1 := allNe_le l1.2 (by omega)
  have hL3 : ∀ p ∈ Z, p.1 ≠ L' + 1 + 1 + 1 := allNe_le l1.2 (by omega)
  iterate 9 (focus (first | ((first | ((rename (∀ (f : Flow) (s : Shared), _ → _) => hq); (with_reducible refine Mine.cutQ hq ?_); clear hq; (rename (Flow → Shared → Prop) => qq); clear qq) | (with_reducible refine Mine.cutQ (by with_reducible assumption) ?_)); (try dsimp only)) | ((first | (k_unfold; (try dsimp only)) | (k_end; kc_close) | walk1 | (dsimp only; walk1) | (leave1; (try dsimp only)) | fail "no step"); (try ((with_reducible show wpAny _ _ (exec _ _) (fun _ _ => _) _ _); refine Mine.gen_Q ?_; intro QQ9 hQ9)))))
  refine wpAny_truthy_list (News.isList (by k_asm) (by repeat' (first | exact hD | apply List.Mem.tail))) (by simp) ?_
  iterate 4 (focus (first | ((first | ((rename (∀ (f : Flow) (s : Shared), _ → _) => hq); (with_reducible refine Mine.cutQ hq ?_); clear hq; (rename (Flow → Shared → Prop) => qq); clear qq) | (with_reducible refine Mine.cutQ (by with_reducible assumption) ?_)); (try dsimp only)) | ((first | (k_unfold; (try dsimp only)) | (k_end; kc_close) | walk1 | (dsimp only; walk1) | (leave1; (try dsimp only)) | fail "no step"); (try ((with_reducible show wpAny _ _ (exec _ _) (fun _ _ => _) _ _); refine Mine.gen_Q ?_; intro QQ9 hQ9)))))
  skip
  rename News h₀ _ _ _ => NR
  exact d2i_fin hret NR (by k_asm) (by repeat' (first | exact .head _ | apply List.Mem.tail)) (by intro q hq; repeat' (first | exact hq | apply List.Mem.tail))
set_option maxHeartbeats 0 in
theorem d2i1 (w : World) (p : Program) (loose : List Str) (mean : ExcName → Option Value) (mg mb : Str → Option Value)
  (D : Addr) (c : Nat) (q0 n : Int) (u0 t2 : Tok) (Z : List (Addr × Obj)) (h73 : ∀ p ∈ Z, p.1 ≠ 73) (hD : (D, listOf [Value.int q0 u0].toArray c) ∈ Z) (hn : 1 ≤ n) (hn2 : n ≤ 4000) :
  Spec w p loose mean mg mb 78 10 [.ref D, .int n t2] ((73, tabObj #[]) :: Z) (fun v nw => ∃ t ps, v = .int q0 t ∧ nw = (73, tabObj ps) :: Z) := by
  unfold Spec
  k_fill
  intro dp un gd cn cs aa ccd cl outer A₀ base h₀ L m s Q E B F X N T hk hd hu hret
  refine' code_defC ?k1 ?k2 ?k3 ?k4 ?k5 ?kA ?kF ?kK ?k6 ?k7 ?k8 ?k9 ?kB ?kD ?_ ?c2 ?c3 ?c4; (case kA => exact rfl); (case kF => exact rfl); (case kK => assumption); (case k1 => k_asm); (case k2 => k_asm); (case k3 => k_asm); (case k4 => k_asm); (case k5 => k_asm); (case k6 => k_is); (case k7 => k_is); (case k8 => ktr_room); (case k9 => exact BindsTo.of_eq rfl); (case kB => exact rfl); (case kD => decide +kernel); (case c2 => exact rfl); (case c3 => exact rfl); (case c4 => exact rfl); k_whole; intro g' L' h' tk' cells' FG' F' N' Y' B' X' T' l1; (try k_lt l1); k_cells Y'; (try simp only [List.cons_append, List.nil_append] at N'); (try dsimp only); (try k_lift B'); (try k_fold)
  rename Fr _ _ _ (fun _ => _) => F0; refine letM F0 ?_; clear F0; intro M0 F1
  refine letEA ?_; intro e9 A9
  have hcH : CodeHd g' 77 73 := codeHd_of_K X' (hd77 _)
  have hL1 : ∀ p ∈ Z, p.1 ≠ L' + 1 := allNe_le l1.2 (by omega)
  have hL2 : ∀ p ∈ Z, p.1 ≠ L' + 1 + 1 := allNe_le l1.2 (by omega)
  have hL3 : ∀ p ∈ Z, p.1 ≠ L' + 1 + 1 + 1 := allNe_le l1.2 (by omega)
  iterate 9 (focus (first | ((first | ((rename (∀ (f : Flow) (s : Shared), _ → _) => hq); (with_reducible refine Mine.cutQ hq ?_); clear hq; (rename (Flow → Shared → Prop) => qq); clear qq) | (with_reducible refine Mine.cutQ (by with_reducible assumption) ?_)); (try dsimp only)) | ((first | (k_unfold; (try dsimp only)) | (k_end; kc_close) | walk1 | (dsimp only; walk1) | (leave1; (try dsimp only)) | fail "no step"); (try ((with_reducible show wpAny _ _ (exec _ _) (fun _ _ => _) _ _); refine Mine.gen_Q ?_; intro QQ9 hQ9)))))
  refine wpAny_truthy_list (News.isList (by k_asm) (by repeat' (first | exact hD | apply List.Mem.tail))) (by simp) ?_
  iterate 1 (focus (first | ((first | ((rename (∀ (f : Flow) (s : Shared), _ → _) => hq); (with_reducible refine Mine.cutQ hq ?_); clear hq; (rename (Flow → Shared → Prop) => qq); clear qq) | (with_reducible refine Mine.cutQ (by with_reducible assumption) ?_)); (try dsimp only)) | ((first | (k_unfold; (try dsimp only)) | (k_end; kc_close) | walk1 | (dsimp only; walk1) | (leave1; (try dsimp only)) | fail "no step"); (try ((with_reducible show wpAny _ _ (exec _ _) (fun _ _ => _) _ _); refine Mine.gen_Q ?_; intro QQ9 hQ9)))))
  iterate 1 (focus (first | ((first | ((rename (∀ (f : Flow) (s : Shared), _ → _) => hq); (with_reducible refine Mine.cutQ hq ?_); clear hq; (rename (Flow → Shared → Prop) => qq); clear qq) | (with_reducible refine Mine.cutQ (by with_reducible assumption) ?_)); (try dsimp only)) | ((first | (k_unfold; (try dsimp only)) | (k_end; kc_close) | walk1 | (dsimp only; walk1) | (leave1; (try dsimp only)) | fail "no step"); (try ((with_reducible show wpAny _ _ (exec _ _) (fun _ _ => _) _ _); refine Mine.gen_Q ?_; intro QQ9 hQ9)))))
  · exfalso
    rename_i hh
    simp at hh
  iterate 35 (focus (first | ((first | ((rename (∀ (f : Flow) (s : Shared), _ → _) => hq); (with_reducible refine Mine.cutQ hq ?_); clear hq; (rename (Flow → Shared → Prop) => qq); clear qq) | (with_reducible refine Mine.cutQ (by with_reducible assumption) ?_)); (try dsimp only)) | ((first | (k_unfold; (try dsimp only)) | (k_end; kc_close) | walk1 | (dsimp only; walk1) | (leave1; (try dsimp only)) | fail "no step"); (try ((with_reducible show wpAny _ _ (exec _ _) (fun _ _ => _) _ _); refine Mine.gen_Q ?_; intro QQ9 hQ9)))))
  refine item_litK (News.isList (by k_asm) (by repeat' (first | exact hD | apply List.Mem.tail))) (by decide) (by decide) rfl ?_ (by with_unfolding_all rfl)
  iterate 6 (focus (first | ((first | ((rename (∀ (f : Flow) (s : Shared), _ → _) => hq); (with_reducible refine Mine.cutQ hq ?_); clear hq; (rename (Flow → Shared → Prop) => qq); clear qq) | (with_reducible refine Mine.cutQ (by with_reducible assumption) ?_)); (try dsimp only)) | ((first | (k_unfold; (try dsimp only)) | (k_end; kc_close) | walk1 | (dsimp only; walk1) | (leave1; (try dsimp only)) | fail "no step"); (try ((with_reducible show wpAny _ _ (exec _ _) (fun _ _ => _) _ _); refine Mine.gen_Q ?_; intro QQ9 hQ9)))))
  rename News h₀ _ _ _ => NR
  exact d2i_fin hret NR (by k_asm) (by repeat' (first | exact .head _ | apply List.Mem.tail)) (by intro q hq; repeat' (first | exact hq | apply List.Mem.tail))
set_option maxHeartbeats 0 in
theorem d2i2 (w : World) (p : Program) (loose : List Str) (mean : ExcName → Option Value) (mg mb : Str → Option Value)
  (D : Addr) (c : Nat) (q0 q1 n : Int) (u0 u1 t2 : Tok) (Z : List (Addr × Obj)) (h73 : ∀ p ∈ Z, p.1 ≠ 73) (hD : (D, listOf [Value.int q0 u0, Value.int q1 u1].toArray c) ∈ Z) (hb2 : Builtin.Int.intBits q1 ≤ 4000) (hn : 1 ≤ n) (hn2 : n ≤ 4000) :
  Spec w p loose mean mg mb 78 10 [.ref D, .int n t2] ((73, tabObj #[]) :: Z) (fun v nw => ∃ t ps, v = .int (q1 * 2 ^ n.toNat + q0) t ∧ nw = (73, tabObj ps) :: Z) := by
  unfold Spec
  k_fill
  intro dp un gd cn cs aa ccd cl outer A₀ base h₀ L m s Q E B F X N T hk hd hu hret
  refine' code_defC ?k1 ?k2 ?k3 ?k4 ?k5 ?kA ?kF ?kK ?k6 ?k7 ?k8 ?k9 ?kB ?kD ?_ ?c2 ?c3 ?c4; (case kA => exact rfl); (case kF => exact rfl); (case kK => assumption); (case k1 => k_asm); (case k2 => k_asm); (case k3 => k_asm); (case k4 => k_asm); (case k5 => k_asm); (case k6 => k_is); (case k7 => k_is); (case k8 => ktr_room); (case k9 => exact BindsTo.of_eq rfl); (case kB => exact rfl); (case kD => decide +kernel); (case c2 => exact rfl); (case c3 => exact rfl); (case c4 => exact rfl); k_whole; intro g' L' h' tk' cells' FG' F' N' Y' B' X' T' l1; (try k_lt l1); k_cells Y'; (try simp only [List.cons_append, List.nil_append] at N'); (try dsimp only); (try k_lift B'); (try k_fold)
  rename Fr _ _ _ (fun _ => _) => F0; refine letM F0 ?_; clear F0; intro M0 F1
  refine letEA ?_; intro e9 A9
  have hcH : CodeHd g' 77 73 := codeHd_of_K X' (hd77 _)
  have hL1 : ∀ p ∈ Z, p.1 ≠ L' + 1 := allNe_le l1.2 (by omega)
  have hL2 : ∀ p ∈ Z, p.1 ≠ L' + 1 + 1 := allNe_le l1.2 (by omega)
  have hL3 : ∀ p ∈ Z, p.1 ≠ L' + 1 + 1 + 1 := allNe_le l1.2 (by omega)
  have hsh : (((0:Int) + 2).fdiv (2 ^ Int.toNat 1) - 0) * n = n := by
    rw [show (((0:Int) + 2).fdiv (2 ^ Int.toNat 1) - 0) = 1 by decide, Int.one_mul]
  have hsh0 : ¬ (((0:Int) + 2).fdiv (2 ^ Int.toNat 1) - 0) * n < 0 := by omega
  iterate 9 (focus (first | ((first | ((rename (∀ (f : Flow) (s : Shared), _ → _) => hq); (with_reducible refine Mine.cutQ hq ?_); clear hq; (rename (Flow → Shared → Prop) => qq); clear qq) | (with_reducible refine Mine.cutQ (by with_reducible assumption) ?_)); (try dsimp only)) | ((first | (k_unfold; (try dsimp only)) | (k_end; kc_close) | walk1 | (dsimp only; walk1) | (leave1; (try dsimp only)) | fail "no step"); (try ((with_reducible show wpAny _ _ (exec _ _) (fun _ _ => _) _ _); refine Mine.gen_Q ?_; intro QQ9 hQ9)))))
  refine wpAny_truthy_list (News.isList (by k_asm) (by repeat' (first | exact hD | apply List.Mem.tail))) (by simp) ?_
  iterate 1 (focus (first | ((first | ((rename (∀ (f : Flow) (s : Shared), _ → _) => hq); (with_reducible refine Mine.cutQ hq ?_); clear hq; (rename (Flow → Shared → Prop) => qq); clear qq) | (with_reducible refine Mine.cutQ (by with_reducible assumption) ?_)); (try dsimp only)) | ((first | (k_unfold; (try dsimp only)) | (k_end; kc_close) | walk1 | (dsimp only; walk1) | (leave1; (try dsimp only)) | fail "no step"); (try ((with_reducible show wpAny _ _ (exec _ _) (fun _ _ => _) _ _); refine Mine.gen_Q ?_; intro QQ9 hQ9)))))
  iterate 1 (focus (first | ((first | ((rename (∀ (f : Flow) (s : Shared), _ → _) => hq); (with_reducible refine Mine.cutQ hq ?_); clear hq; (rename (Flow → Shared → Prop) => qq); clear qq) | (with_reducible refine Mine.cutQ (by with_reducible assumption) ?_)); (try dsimp only)) | ((first | (k_unfold; (try dsimp only)) | (k_end; kc_close) | walk1 | (dsimp only; walk1) | (leave1; (try dsimp only)) | fail "no step"); (try ((with_reducible show wpAny _ _ (exec _ _) (fun _ _ => _) _ _); refine Mine.gen_Q ?_; intro QQ9 hQ9)))))
  · exfalso
    rename_i hh
    simp at hh
  iterate 89 (focus (first | ((first | ((rename (∀ (f : Flow) (s : Shared), _ → _) => hq); (with_reducible refine Mine.cutQ hq ?_); clear hq; (rename (Flow → Shared → Prop) => qq); clear qq) | (with_reducible refine Mine.cutQ (by with_reducible assumption) ?_)); (try dsimp only)) | ((first | (k_unfold; (try dsimp only)) | (k_end; kc_close) | walk1 | (dsimp only; walk1) | (leave1; (try dsimp only)) | fail "no step"); (try ((with_reducible show wpAny _ _ (exec _ _) (fun _ _ => _) _ _); refine Mine.gen_Q ?_; intro QQ9 hQ9)))))
  refine item_litK (News.isList (by k_asm) (by repeat' (first | exact hD | apply List.Mem.tail))) (by decide) (by decide) rfl ?_ (by with_unfolding_all rfl)
  iterate 5 (focus (first | ((first | ((rename (∀ (f : Flow) (s : Shared), _ → _) => hq); (with_reducible refine Mine.cutQ hq ?_); clear hq; (rename (Flow → Shared → Prop) => qq); clear qq) | (with_reducible refine Mine.cutQ (by with_reducible assumption) ?_)); (try dsimp only)) | ((first | (k_unfold; (try dsimp only)) | (k_end; kc_close) | walk1 | (dsimp only; walk1) | (leave1; (try dsimp only)) | fail "no step"); (try ((with_reducible show wpAny _ _ (exec _ _) (fun _ _ => _) _ _); refine Mine.gen_Q ?_; intro QQ9 hQ9)))))
  rw [hsh]
  refine lshift_int (by omega) (by omega) ?_
  iterate 29 (focus (first | ((first | ((rename (∀ (f : Flow) (s : Shared), _ → _) => hq); (with_reducible refine Mine.cutQ hq ?_); clear hq; (rename (Flow → Shared → Prop) => qq); clear qq) | (with_reducible refine Mine.cutQ (by with_reducible assumption) ?_)); (try dsimp only)) | ((first | (k_unfold; (try dsimp only)) | (k_end; kc_close) | walk1 | (dsimp only; walk1) | (leave1; (try dsimp only)) | fail "no step"); (try ((with_reducible show wpAny _ _ (exec _ _) (fun _ _ => _) _ _); refine Mine.gen_Q ?_; intro QQ9 hQ9)))))
  refine item_litK (News.isList (by k_asm) (by repeat' (first | exact hD | apply List.Mem.tail))) (by decide) (by decide) rfl ?_ (by with_unfolding_all rfl)
  iterate 10 (focus (first | ((first | ((rename (∀ (f : Flow) (s : Shared), _ → _) => hq); (with_reducible refine Mine.cutQ hq ?_); clear hq; (rename (Flow → Shared → Prop) => qq); clear qq) | (with_reducible refine Mine.cutQ (by with_reducible assumption) ?_)); (try dsimp only)) | ((first | (k_unfold; (try dsimp only)) | (k_end; kc_close) | walk1 | (dsimp only; walk1) | (leave1; (try dsimp only)) | fail "no step"); (try ((with_reducible show wpAny _ _ (exec _ _) (fun _ _ => _) _ _); refine Mine.gen_Q ?_; intro QQ9 hQ9)))))
  rename News h₀ _ _ _ => NR
  exact d2i_fin hret NR (by k_asm) (by repeat' (first | exact .head _ | apply List.Mem.tail)) (by intro q hq; repeat' (first | exact hq | apply List.Mem.tail))
end Mine
end
section
open PySem PySem.W PyProof.Rows PyProof.V PySem.Spec PySem.SeqAt
set_option maxRecDepth 100000
namespace Mine
def IsRv (l : Addr) (i : Int) (o : Obj) : Prop := o.cls = .type "list_reverseiterator" ∧ o.data = .fields #[.ref l, .int i 0]
section
variable {prog : Program} {w : World} {A : Around} {E : Value → Shared → Prop} {s : Shared} {h₀ : Heap} {L : Addr} {m : Str → Option Value} {news : List (Addr × Obj)}
theorem isRv0 (l : Addr) (i : Int) : IsRv l i (revObj l i) := ⟨rfl, rfl⟩
theorem iter_rev {l I : Addr} {i : Int} {o : Obj} {Q : Value → Shared → Prop} (N : News h₀ L s.heap news) (hm : (I, o) ∈ news) (hI : IsRv l i o) (h : Q (.ref I) s) : wpAny (model prog w) A (pyIter (.ref I)) Q E s :=
  wpAny_pyIter_revIter ⟨_, (N _ hm).1, hI.1, hI.2⟩ h
theorem next_rev {l I : Addr} {i n : Nat} {o : Obj} {items : Array Value} {v : Value} {Q : Option Value → Shared → Prop} (F : Fr h₀ L s.heap m) (N : News h₀ L s.heap ((I, o) :: news)) (hI : IsRv l i o) (hne : ∀ p ∈ news, p.1 ≠ I)
    (hl : (l, listOf items n) ∈ news) (hx : items[i]? = some v) (h : ∀ h' o', IsRv l ((i : Int) - 1) o' → Fr h₀ L h' m → News h₀ L h' ((I, o') :: news) → Q (some v) { s with heap := h' }) :
    wpAny (model prog w) A (pyNext (.ref I)) Q E s := by
  have z := N _ (.head _)
  refine wpAny_pyNext_rev_item (l := l) (i := i) ⟨o, z.1, hI.1, hI.2⟩ (News.isList (fun p hp => N p (.tail _ hp)) hl) hx fun h' hit hs => ?_
  obtain ⟨o', e1, e2, e3⟩ := hit
  exact h h' o' ⟨e2, e3⟩ (F.change hs z.2.1 z.2.2) (News.setHead N hne hs e1)
theorem next_rev_end {l I : Addr} {o : Obj} {Q : Option Value → Shared → Prop} (hh : A.handled = none) (F : Fr h₀ L s.heap m) (N : News h₀ L s.heap ((I, o) :: news)) (hI : IsRv l (-1) o) (hne : ∀ p ∈ news, p.1 ≠ I)
    (h : ∀ h', Fr h₀ L h' m → News h₀ L h' news → Q none { s with heap := h' }) : wpAny (model prog w) A (pyNext (.ref I)) Q E s := by
  have z := N _ (.head _)
  exact wpAny_pyNext_rev_end hh ⟨o, z.1, hI.1, hI.2⟩ fun h' hs => h h' (ext_keep F N hne hs).1 (ext_keep F N hne hs).2
end
end Mine
end
section
open PySem PySem.W PyProof.Rows PyProof.V PySem.Spec PySem.SeqAt
set_option maxRecDepth 100000
namespace Mine
def dv (n : Nat) (b : Int) (l : List Int) : List Int × Int := l.foldl (fun p d => (p.1 ++ [(p.2 * 2 ^ n + d) / b], (p.2 * 2 ^ n + d) % b)) ([], 0)
theorem dv_snoc (n : Nat) (b : Int) (l : List Int) (d99 : Int) : dv n b (l ++ [d99]) = ((dv n b l).1 ++ [((dv n b l).2 * 2 ^ n + d99) / b], ((dv n b l).2 * 2 ^ n + d99) % b) := by simp [dv]
structure DSt where
  i : Int
  o : Obj
  qs : List (Int × Tok)
  n : Nat
  r : Int
  tr : Tok
theorem dmp_fin {h₀ h' : Heap} {L D : Addr} {m : Str → Option Value} {s : Shared} {Q : Value → Shared → Prop} {Z news : List (Addr × Obj)} {tk : Nat} {a b x r : Int} {u1 u2 : Tok} {ps : Array Value}
    (hret : ∀ v news' h' tk', (∃ D t1 t2 ps, v = .ref D ∧ news' = (D, tupO (a / b) (a % b) t1 t2) :: (73, tabObj ps) :: Z ∧ (∀ p ∈ Z, p.1 ≠ D)) → Fr h₀ L h' m → News h₀ L h' news' → Q v { s with heap := h', toks := tk' })
    (N : News h₀ L h' news) (F : Fr h₀ L h' m) (hm : (D, tupO x r u1 u2) ∈ news) (ht : (73, tabObj ps) ∈ news) (hz : ∀ q ∈ Z, q ∈ news) (hne : ∀ p ∈ Z, p.1 ≠ D) (h1 : a / b = x) (h2 : a % b = r) : Q (.ref D) { s with heap := h', toks := tk } := by
  subst h1 h2
  refine hret _ _ _ _ ⟨D, u1, u2, ps, rfl, rfl, hne⟩ F (kst_newsOf N fun q hq => ?_)
  rcases List.mem_cons.mp hq with rfl | hq
  · exact hm
  rcases List.mem_cons.mp hq with rfl | hq
  · exact ht
  · exact hz q hq
theorem two_of {qs : List (Int × Tok)} {v w : Int} (h : qs.map (fun p => p.1) = [v, w]) : ∃ t u, qs = [(v, t), (w, u)] := by
  match qs, h with
  | [(x, t), (y, u)], h => simp at h; exact ⟨t, u, by rw [h.1, h.2]⟩
theorem dm_two {a b n : Int} (hb : 0 < b) (hn : 0 < n) : a / b = a / n / b * n + (a / n % b * n + a % n) / b ∧ a % b = (a / n % b * n + a % n) % b := by
  have h1 : a = b * (a / n / b * n) + (a / n % b * n + a % n) := by
    have e1 := Int.emod_add_mul_ediv a n
    have e2 := Int.emod_add_mul_ediv (a / n) b
    have e3 : n * (a / n) = n * (a / n % b) + n * (b * (a / n / b)) := by rw [← Int.mul_add, e2]
    have e4 : b * (a / n / b * n) = n * (b * (a / n / b)) := by rw [Int.mul_comm (a / n / b) n, ← Int.mul_assoc, ← Int.mul_assoc, Int.mul_comm b n]
    have e5 : a / n % b * n = n * (a / n % b) := Int.mul_comm _ _
    omega
  constructor
  · conv => lhs; rw [h1]
    rw [Int.add_comm, Int.add_mul_ediv_left _ _ (by omega), Int.add_comm]
  · conv => lhs; rw [h1]
    rw [Int.add_comm, Int.add_mul_emod_self_left]
set_option maxHeartbeats 0 in
theorem dmpos (w : World) (p : Program) (loose : List Str) (mean : ExcName → Option Value) (mg mb : Str → Option Value)
  (a b : Int) (t1 t2 : Tok) (Z : List (Addr × Obj)) (h66 : ∀ p ∈ Z, p.1 ≠ 66) (h73 : ∀ p ∈ Z, p.1 ≠ 73) (ha : 0 ≤ a) (hb : 1 ≤ b) (hab : a < 4 * b) (hb2 : b ≤ 10 ^ 40) :
  Spec w p loose mean mg mb 85 12 [.int a t1, .int b t2] ((66, tabObj #[]) :: (73, tabObj #[]) :: Z) (fun v nw => ∃ D t1 t2 ps ps', v = .ref D ∧ nw = (D, tupO (a / b) (a % b) t1 t2) :: (66, tabObj ps) :: (73, tabObj ps') :: Z ∧ (∀ p ∈ Z, p.1 ≠ D)) := by
  unfold Spec
  k_fill
  intro dp un gd cn cs aa ccd cl outer A₀ base h₀ L m s Q E B F X N T hk hd hu hret
  k_dflt cell_enter
  rename Fr _ _ _ (fun _ => _) => F0; refine letM F0 ?_; clear F0; intro M0 F1
  refine letEA ?_; intro e9 A9
  obtain ⟨n, hn⟩ : ∃ n, n = Builtin.Int.intBits b := ⟨_, rfl⟩
  have hbn : b.natAbs < 2 ^ n := intBits_le_iff.mp (Nat.le_of_eq hn.symm)
  have hn1 : 1 ≤ n := by
    rcases Nat.eq_zero_or_pos n with h | h
    · rw [h] at hbn; simp at hbn; omega
    · exact h
  have hn133 : n ≤ 133 := by
    rw [hn]
    exact intBits_le_iff.mpr (Nat.lt_of_le_of_lt (by omega : b.natAbs ≤ 10 ^ 40) (by decide))
  have habits : Builtin.Int.intBits a ≤ n + 2 := intBits_le_iff.mpr (by rw [Nat.pow_succ, Nat.pow_succ]; omega)
  have habits2 : n = 1 → Builtin.Int.intBits a ≤ 2 := by
    rintro rfl
    exact intBits_le_iff.mpr (by omega)
  obtain ⟨k, hkd⟩ : ∃ k : Nat, ((Builtin.Int.intBits a : Int) + (n : Int) - 1).fdiv (n : Int) = k := by
    refine ⟨(((Builtin.Int.intBits a : Int) + (n : Int) - 1).fdiv (n : Int)).toNat, ?_⟩
    have : 0 ≤ ((Builtin.Int.intBits a : Int) + (n : Int) - 1).fdiv (n : Int) := by
      rw [Int.fdiv_eq_ediv_of_nonneg _ (by omega)]
      exact Int.ediv_nonneg (by omega) (by omega)
    exact (Int.toNat_of_nonneg this).symm
  have hk2 : k ≤ 2 := by
    have h1 : ((Builtin.Int.intBits a : Int) + (n : Int) - 1).fdiv (n : Int) < 3 := by
      rw [Int.fdiv_eq_ediv_of_nonneg _ (by omega)]
      refine Int.ediv_lt_of_lt_mul (by omega) ?_
      rcases Nat.lt_or_ge 1 n with h | h
      · omega
      · have := habits2 (by omega)
        omega
    omega
  iterate 21 (focus (first | ((first | ((rename (∀ (f : Flow) (s : Shared), _ → _) => hq); (with_reducible refine Mine.cutQ hq ?_); clear hq; (rename (Flow → Shared → Prop) => qq); clear qq) | (with_reducible refine Mine.cutQ (by with_reducible assumption) ?_)); (try dsimp only)) | ((first | (k_unfold; (try dsimp only)) | (k_end; kc_close) | walk1 | (dsimp only; walk1) | (leave1; (try dsimp only)) | fail "no step"); (try ((with_reducible show wpAny _ _ (exec _ _) (fun _ _ => _) _ _); refine Mine.gen_Q ?_; intro QQ9 hQ9)))))
  rw [← hn] at *
  refine' Spec.use2 (i2d w p loose mean mg mb a n _ _ ((73, tabObj #[]) :: Z) ?h66 ha (by omega) (by omega) (by omega) k hkd hk2) ?B ?F ?X ?N ?T rfl ?d ?u (k4_3 ?_)
  case h66 => intro q hq; rcases List.mem_cons.mp hq with rfl | hq; (decide); (exact h66 q hq)
  case N => k_asm
  case B => k_asm
  case F => k_asm
  case X => k_asm
  case T => k_asm
  case d => ktr_room
  case u => ktr_units
  intro D c9 ds ps66 hne0 h66D hds h3 tk3 F3 N3
  obtain ⟨Zt, hZt⟩ : ∃ Zt, Zt = (66, tabObj ps66) :: Z := ⟨_, rfl⟩
  have hne : ∀ q ∈ (73, tabObj #[]) :: Zt, q.1 ≠ D := by
    intro q hq
    rcases List.mem_cons.mp hq with rfl | hq
    · exact hne0 _ (.head _)
    rw [hZt] at hq
    rcases List.mem_cons.mp hq with rfl | hq
    · exact h66D
    · exact hne0 _ (.tail _ hq)
  have h73t : ∀ q ∈ Zt, q.1 ≠ 73 := by
    rw [hZt]
    intro q hq
    rcases List.mem_cons.mp hq with rfl | hq
    · exact (show (66 : Nat) ≠ 73 by decide)
    · exact h73 q hq
  have N4 := kst_newsOf (l' := (D, listOf (ivs ds).toArray c9) :: (73, tabObj #[]) :: Zt) N3 (by
    rw [hZt]
    intro q hq
    simp only [List.mem_cons] at hq ⊢
    rcases hq with h | h | h | h
    · exact .inl h
    · exact .inr (.inr (.inl h))
    · exact .inr (.inl h)
    · exact .inr (.inr (.inr h)))
  clear N3
  replace hret : ∀ v news' h' tk', (∃ D t1 t2 ps, v = .ref D ∧ news' = (D, tupO (a / b) (a % b) t1 t2) :: (73, tabObj ps) :: Zt ∧ (∀ p ∈ Zt, p.1 ≠ D)) → Fr h₀ L h' m → News h₀ L h' news' → Q v { s with heap := h', toks := tk' } := by
    rintro v _ h' tk' ⟨D, t1, t2, ps, rfl, rfl, hn⟩ F N
    rw [hZt] at N hn
    refine hret _ _ _ _ ⟨D, t1, t2, ps66, ps, rfl, rfl, fun q hq => hn q (.tail _ hq)⟩ F (kst_newsOf N fun q hq => ?_)
    simp only [List.mem_cons] at hq ⊢
    rcases hq with h | h | h | h
    · exact .inl h
    · exact .inr (.inr (.inl h))
    · exact .inr (.inl h)
    · exact .inr (.inr (.inr h))
  clear hne0
  iterate 18 (focus (first | ((first | ((rename (∀ (f : Flow) (s : Shared), _ → _) => hq); (with_reducible refine Mine.cutQ hq ?_); clear hq; (rename (Flow → Shared → Prop) => qq); clear qq) | (with_reducible refine Mine.cutQ (by with_reducible assumption) ?_)); (try dsimp only)) | ((first | (k_unfold; (try dsimp only)) | (k_end; kc_close) | walk1 | (dsimp only; walk1) | (leave1; (try dsimp only)) | fail "no step"); (try ((with_reducible show wpAny _ _ (exec _ _) (fun _ _ => _) _ _); refine Mine.gen_Q ?_; intro QQ9 hQ9)))))
  have hdl : ds.length = k := by
    have := congrArg List.length hds
    rw [List.length_map] at this
    rw [this]
    rcases (by omega : k = 0 ∨ k = 1 ∨ k = 2) with rfl | rfl | rfl <;> rfl
  have hpw : (0 : Int) < 2 ^ n := kbt_pos n
  have hdb : ∀ d ∈ ds.map (·.1), 0 ≤ d ∧ d ≤ a := by
    rw [hds]
    intro d hd
    rcases (by omega : k = 0 ∨ k = 1 ∨ k = 2) with rfl | rfl | rfl
    · simp [digOf] at hd
    · simp [digOf] at hd; subst hd; exact ⟨ha, Int.le_refl _⟩
    · simp only [digOf, List.mem_cons, List.not_mem_nil, or_false, Int.toNat_natCast] at hd
      rcases hd with rfl | rfl
      · refine ⟨Int.emod_nonneg _ (by omega), ?_⟩
        have h1 := Int.mul_nonneg (Int.le_of_lt hpw) (Int.ediv_nonneg ha (Int.le_of_lt hpw))
        have h2 := Int.emod_add_mul_ediv a (2 ^ n)
        omega
      · exact ⟨Int.ediv_nonneg ha (by omega), Int.ediv_le_self _ ha⟩
  rename News _ _ _ ((_, listOf #[] 0) :: _) => NW
  rename Fr _ _ _ _ => FW
  rename _ < _ ∧ _ < _ ∧ AllLt _ Zt => lW
  rename_i Qd _ _
  refine wpAny_For ?_
  iterate 6 (focus (first | ((first | ((rename (∀ (f : Flow) (s : Shared), _ → _) => hq); (with_reducible refine Mine.cutQ hq ?_); clear hq; (rename (Flow → Shared → Prop) => qq); clear qq) | (with_reducible refine Mine.cutQ (by with_reducible assumption) ?_)); (try dsimp only)) | ((first | (k_unfold; (try dsimp only)) | (k_end; kc_close) | walk1 | (dsimp only; walk1) | (leave1; (try dsimp only)) | fail "no step"); (try ((with_reducible show wpAny _ _ (exec _ _) (fun _ _ => _) _ _); refine Mine.gen_Q ?_; intro QQ9 hQ9)))))
  iterate 1 (focus (first | ((first | ((rename (∀ (f : Flow) (s : Shared), _ → _) => hq); (with_reducible refine Mine.cutQ hq ?_); clear hq; (rename (Flow → Shared → Prop) => qq); clear qq) | (with_reducible refine Mine.cutQ (by with_reducible assumption) ?_)); (try dsimp only)) | ((first | (k_unfold; (try dsimp only)) | (k_end; kc_close) | walk1 | (dsimp only; walk1) | (leave1; (try dsimp only)) | fail "no step"); (try ((with_reducible show wpAny _ _ (exec _ _) (fun _ _ => _) _ _); refine Mine.gen_Q ?_; intro QQ9 hQ9)))))
  rename _ < _ ∧ _ < _ ∧ _ < _ ∧ AllLt _ Zt => lI
  rename_i I _ _ _
  rename News _ _ _ ((_, revObj _ _) :: _) => NI
  rename Fr _ _ _ _ => FI
  refine iter_rev NI (.head _) (isRv0 _ _) ?_
  have hpow : (2 : Int) ^ n ≤ 2 ^ 133 := by
    have := Nat.pow_le_pow_right (n := 2) (by decide) hn133
    exact_mod_cast this
  refine' For_g (σ := DSt) (fun c => (I, c.o) :: (Qd, listOf (ivs c.qs).toArray c.n) :: (D, listOf (ivs ds).toArray c9) :: (73, tabObj #[]) :: Zt) (fun c => [("r", .int c.r c.tr)]) (fun c => 0 ≤ c.r ∧ c.r < b) ["a_digit", "q_digit"]
    (fun q => ∃ j : Nat, q.i = (k : Int) - 1 - j ∧ j ≤ k ∧ (q.qs.map (·.1), q.r) = dv n b ((ds.map (·.1)).reverse.take j) ∧ IsRv D q.i q.o ∧ q.qs.length = j) (fun q => (q.i + 1).toNat) ⟨(k : Int) - 1, revObj D ((ivs ds).length - 1), [], 0, 0, ?_⟩ FI ?_ ?_ ?kMap ?_ ?_
  case kMap => (dsimp only; kst_all)
  · exact NI
  · dsimp only; omega
  · refine ⟨0, by dsimp only; omega, Nat.zero_le _, rfl, ?_, rfl⟩
    dsimp only
    rw [show (((ivs ds).length : Nat) : Int) = k by simp [ivs, hdl]]
    exact isRv0 _ _
  rintro ⟨i, o, qs, nq, r, tr⟩ u h tk QB hB ⟨hr0, hrb⟩ ⟨j, hi, hjk, hdv, hIo, hql⟩ FF NN
  dsimp only at hr0 hrb hi hdv hIo hql FF NN
  have hneI : ∀ p ∈ (Qd, listOf (ivs qs).toArray nq) :: (D, listOf (ivs ds).toArray c9) :: (73, tabObj #[]) :: Zt, p.1 ≠ I := allNe_lt (d := I) ⟨lI.1, lI.2.1, lI.2.2.1, lI.2.2.2⟩
  by_cases hj : j < k
  · obtain ⟨ii, hii⟩ : ∃ ii : Nat, i = (ii : Int) := ⟨i.toNat, (Int.toNat_of_nonneg (by omega)).symm⟩
    subst hii
    have hiil : ii < ds.length := by omega
    refine next_rev FF NN hIo hneI (.tail _ (.head _)) (v := .int ds[ii].1 ds[ii].2) (by simp [ivs, hiil]) ?_
    intro h2 o2 hI2 F2 N2; (try k_sweep)
    dsimp only
    have hd9 := hdb ds[ii].1 (List.mem_map_of_mem (List.getElem_mem hiil))
    have hrp : 0 ≤ r * 2 ^ n ∧ r * 2 ^ n ≤ 10 ^ 40 * 2 ^ 133 := ⟨Int.mul_nonneg hr0 (Int.le_of_lt hpw), Int.mul_le_mul (by omega) hpow (Int.le_of_lt hpw) (by decide)⟩
    iterate 12 (focus (first | ((first | ((rename (∀ (f : Flow) (s : Shared), _ → _) => hq); (with_reducible refine Mine.cutQ hq ?_); clear hq; (rename (Flow → Shared → Prop) => qq); clear qq) | (with_reducible refine Mine.cutQ (by with_reducible assumption) ?_)); (try dsimp only)) | ((first | (k_unfold; (try dsimp only)) | (k_end; kc_close) | walk1 | (dsimp only; walk1) | (leave1; (try dsimp only)) | fail "no step"); (try ((with_reducible show wpAny _ _ (exec _ _) (fun _ _ => _) _ _); refine Mine.gen_Q ?_; intro QQ9 hQ9)))))
    refine lshift_int (by omega) (by
      have : Builtin.Int.intBits r ≤ 133 := intBits_le_iff.mpr (Nat.lt_of_le_of_lt (by omega : r.natAbs ≤ 10 ^ 40) (by decide))
      omega) ?_
    rw [Int.toNat_natCast]
    iterate 8 (focus (first | ((first | ((rename (∀ (f : Flow) (s : Shared), _ → _) => hq); (with_reducible refine Mine.cutQ hq ?_); clear hq; (rename (Flow → Shared → Prop) => qq); clear qq) | (with_reducible refine Mine.cutQ (by with_reducible assumption) ?_)); (try dsimp only)) | ((first | (k_unfold; (try dsimp only)) | (k_end; kc_close) | walk1 | (dsimp only; walk1) | (leave1; (try dsimp only)) | fail "no step"); (try ((with_reducible show wpAny _ _ (exec _ _) (fun _ _ => _) _ _); refine Mine.gen_Q ?_; intro QQ9 hQ9)))))
    obtain ⟨V, hV⟩ : ∃ V, V = r * 2 ^ n + ds[ii].1 := ⟨_, rfl⟩
    rw [← hV]
    have hV0 : 0 ≤ V := by omega
    have hVb : Builtin.Int.intBits V ≤ 4000 := intBits_le_iff.mpr (Nat.lt_of_le_of_lt (by omega : V.natAbs ≤ 10 ^ 85) (by decide +kernel))
    refine' Spec.use2 (div2 w p loose mean mg mb V b n _ _ _ ((I, o2) :: (Qd, listOf (ivs qs).toArray nq) :: (D, listOf (ivs ds).toArray c9) :: (73, tabObj #[]) :: Zt) hV0 hb hVb (by omega)) ?B ?F ?X ?N ?T rfl ?d ?u (k3_1 ?_)
    case N => k_asm
    case B => k_asm
    case F => k_asm
    case X => k_asm
    case T => k_asm
    case d => ktr_room
    case u => ktr_units
    intro D2 t6 t7 hne2 h6 tk7 F6 N6; (try k_sweep)
    have hq2 : @Ne Nat Qd D2 := hne2 _ (.tail _ (.head _))
    iterate 19 (focus (first | ((first | ((rename (∀ (f : Flow) (s : Shared), _ → _) => hq); (with_reducible refine Mine.cutQ hq ?_); clear hq; (rename (Flow → Shared → Prop) => qq); clear qq) | (with_reducible refine Mine.cutQ (by with_reducible assumption) ?_)); (try dsimp only)) | ((first | (k_unfold; (try dsimp only)) | (k_end; kc_close) | walk1 | (dsimp only; walk1) | (leave1; (try dsimp only)) | fail "no step"); (try ((with_reducible show wpAny _ _ (exec _ _) (fun _ _ => _) _ _); refine Mine.gen_Q ?_; intro QQ9 hQ9)))))
    refine append_K (its := (ivs qs).toArray) (n := nq) (by k_asm) (by k_asm) (by k_upd) ?_ (by rw [List.size_toArray, List.length_map, hql, sizeLine_eq]; exact Nat.le_trans (Nat.le_of_lt (Nat.lt_of_lt_of_le hj hk2)) (by decide))
    intro h7 F7 N7; (try k_sweep)
    iterate 4 (focus (first | ((first | ((rename (∀ (f : Flow) (s : Shared), _ → _) => hq); (with_reducible refine Mine.cutQ hq ?_); clear hq; (rename (Flow → Shared → Prop) => qq); clear qq) | (with_reducible refine Mine.cutQ (by with_reducible assumption) ?_)); (try dsimp only)) | ((first | (k_unfold; (try dsimp only)) | (k_end; kc_close) | walk1 | (dsimp only; walk1) | (leave1; (try dsimp only)) | fail "no step"); (try ((with_reducible show wpAny _ _ (exec _ _) (fun _ _ => _) _ _); refine Mine.gen_Q ?_; intro QQ9 hQ9)))))
    have hrev : (ds.map (·.1)).reverse.take (j + 1) = (ds.map (·.1)).reverse.take j ++ [ds[ii].1] := by
      have hlt : j < (ds.map (·.1)).reverse.length := by simp; omega
      rw [← List.take_append_getElem hlt, List.getElem_reverse]
      simp only [List.getElem_map, List.length_map]
      have e9 : ds.length - 1 - j = ii := by omega
      simp only [e9]
    refine' ksw_end ⟨(ii : Int) - 1, o2, qs ++ [(V / b, t6)], nq + 1, V % b, t7⟩ ?F ?N ?hn ?hf ?hk ?hr ?hp ?hm
    case F => k_asm
    case N => k_asm
    case hk => (dsimp only; kst_all)
    case hn =>
      dsimp only
      rw [show (ivs (qs ++ [(V / b, t6)])).toArray = (ivs qs).toArray.push (.int (V / b) t6) by simp [ivs]]
      exact fun q hq => .tail _ hq
    case hf => exact ⟨Int.emod_nonneg _ (by omega), Int.emod_lt_of_pos _ (by omega)⟩
    case hr => (dsimp only [kstB]; ksw_same)
    case hp =>
      refine ⟨j + 1, by dsimp only; omega, by omega, ?_, hI2, by simp [hql]⟩
      dsimp only
      rw [hrev, dv_snoc, ← hdv, List.map_append, List.map_cons, List.map_nil, hV]
    case hm => dsimp only; omega
  · have hjk2 : j = k := by omega
    subst hjk2
    obtain rfl : i = -1 := by omega
    rw [List.take_of_length_le (by simp; omega)] at hdv
    refine next_rev_end rfl FF NN hIo hneI ?_
    intro h2 F2 N2; (try k_sweep)
    dsimp only
    iterate 7 (focus (first | ((first | ((rename (∀ (f : Flow) (s : Shared), _ → _) => hq); (with_reducible refine Mine.cutQ hq ?_); clear hq; (rename (Flow → Shared → Prop) => qq); clear qq) | (with_reducible refine Mine.cutQ (by with_reducible assumption) ?_)); (try dsimp only)) | ((first | (k_unfold; (try dsimp only)) | (k_end; kc_close) | walk1 | (dsimp only; walk1) | (leave1; (try dsimp only)) | fail "no step"); (try ((with_reducible show wpAny _ _ (exec _ _) (fun _ _ => _) _ _); refine Mine.gen_Q ?_; intro QQ9 hQ9)))))
    refine kl_reverse (its := (ivs qs).toArray) (n := nq) (l := ivs qs.reverse) (by k_asm) (by k_asm) (by simp [ivs]) (by k_upd) (by rw [sizeLine_eq]; simp [ivs]; omega) ?_
    intro h7 F7 N7; (try k_sweep)
    iterate 12 (focus (first | ((first | ((rename (∀ (f : Flow) (s : Shared), _ → _) => hq); (with_reducible refine Mine.cutQ hq ?_); clear hq; (rename (Flow → Shared → Prop) => qq); clear qq) | (with_reducible refine Mine.cutQ (by with_reducible assumption) ?_)); (try dsimp only)) | ((first | (k_unfold; (try dsimp only)) | (k_end; kc_close) | walk1 | (dsimp only; walk1) | (leave1; (try dsimp only)) | fail "no step"); (try ((with_reducible show wpAny _ _ (exec _ _) (fun _ _ => _) _ _); refine Mine.gen_Q ?_; intro QQ9 hQ9)))))
    have hk3 : j = 0 ∨ j = 1 ∨ j = 2 := by omega
    have hn4 : (n : Int) ≤ 4000 := by omega
    have hn0 : (1 : Int) ≤ (n : Int) := by omega
    have hz73 : ∀ (x : Obj), ∀ q ∈ (Qd, x) :: (D, listOf (ivs ds).toArray c9) :: Zt, @Ne Nat q.1 73 := by
      intro x q hq
      rcases List.mem_cons.mp hq with rfl | hq
      · exact Ne.symm (Nat.ne_of_lt lW.2.1)
      · rcases List.mem_cons.mp hq with rfl | hq
        · exact Ne.symm (hne _ (.head _))
        · exact h73t q hq
    have perm73 : ∀ (x : Obj), ∀ q ∈ (73, tabObj #[]) :: (Qd, x) :: (D, listOf (ivs ds).toArray c9) :: Zt, q ∈ (Qd, x) :: (D, listOf (ivs ds).toArray c9) :: (73, tabObj #[]) :: Zt := by
      intro x q hq
      rcases List.mem_cons.mp hq with rfl | hq
      · exact .tail _ (.tail _ (.head _))
      · rcases List.mem_cons.mp hq with rfl | hq
        · exact .head _
        · rcases List.mem_cons.mp hq with rfl | hq
          · exact .tail _ (.head _)
          · exact .tail _ (.tail _ (.tail _ hq))
    rcases hk3 with rfl | rfl | rfl
    · obtain rfl := List.eq_nil_of_length_eq_zero hql
      have hds0 : ds.map (·.1) = [] := hds
      rw [hds0] at hdv
      simp [dv] at hdv
      subst hdv
      have ha0 : a = 0 := by
        apply Classical.byContradiction
        intro h0
        have h1 : 1 ≤ Builtin.Int.intBits a := by unfold Builtin.Int.intBits; rw [if_neg (by simpa using h0)]; omega
        rw [Int.fdiv_eq_ediv_of_nonneg _ (by omega)] at hkd
        have h2 : 1 ≤ ((Builtin.Int.intBits a : Int) + (n : Int) - 1) / n := (Int.le_ediv_iff_mul_le (by omega)).mpr (by omega)
        omega
      refine' Spec.use2 (d2i0 w p loose mean mg mb Qd nq n _ ((Qd, listOf #[] nq) :: (D, listOf (ivs ds).toArray c9) :: Zt) ?h73 (.head _) hn0 hn4) ?B ?F ?X ?N ?T rfl ?d ?u (k2_0 ?_)
      case h73 => exact hz73 _
      case N => exact kst_newsOf N7 (perm73 _)
      case B => k_asm
      case F => k_asm
      case X => k_asm
      case T => k_asm
      case d => ktr_room
      case u => ktr_units
      intro t8 ps8 h8 tk8 F8 N8; (try k_sweep)
      iterate 15 (focus (first | ((first | ((rename (∀ (f : Flow) (s : Shared), _ → _) => hq); (with_reducible refine Mine.cutQ hq ?_); clear hq; (rename (Flow → Shared → Prop) => qq); clear qq) | (with_reducible refine Mine.cutQ (by with_reducible assumption) ?_)); (try dsimp only)) | ((first | (k_unfold; (try dsimp only)) | (k_end; kc_close) | walk1 | (dsimp only; walk1) | (leave1; (try dsimp only)) | fail "no step"); (try ((with_reducible show wpAny _ _ (exec _ _) (fun _ _ => _) _ _); refine Mine.gen_Q ?_; intro QQ9 hQ9)))))
      rename News h₀ _ _ _ => NR
      refine dmp_fin hret NR (by k_asm) (.head _) (by repeat' (first | exact .head _ | apply List.Mem.tail)) (by intro q hq; repeat' (first | exact hq | apply List.Mem.tail)) (by k_all) ?_ ?_
      · rw [ha0]; simp
      · rw [ha0]; simp
    · have hds0 : ds.map (·.1) = [a] := hds
      rw [hds0] at hdv
      simp [dv] at hdv
      obtain ⟨hq1, rfl⟩ := hdv
      obtain ⟨tq, rfl⟩ : ∃ tq, qs = [(a / b, tq)] := hq1
      refine' Spec.use2 (d2i1 w p loose mean mg mb Qd nq (a / b) n _ _ ((Qd, listOf (ivs [(a / b, tq)].reverse).toArray nq) :: (D, listOf (ivs ds).toArray c9) :: Zt) ?h73 (.head _) hn0 hn4) ?B ?F ?X ?N ?T rfl ?d ?u (k2_0 ?_)
      case h73 => exact hz73 _
      case N => exact kst_newsOf N7 (perm73 _)
      case B => k_asm
      case F => k_asm
      case X => k_asm
      case T => k_asm
      case d => ktr_room
      case u => ktr_units
      intro t8 ps8 h8 tk8 F8 N8; (try k_sweep)
      iterate 15 (focus (first | ((first | ((rename (∀ (f : Flow) (s : Shared), _ → _) => hq); (with_reducible refine Mine.cutQ hq ?_); clear hq; (rename (Flow → Shared → Prop) => qq); clear qq) | (with_reducible refine Mine.cutQ (by with_reducible assumption) ?_)); (try dsimp only)) | ((first | (k_unfold; (try dsimp only)) | (k_end; kc_close) | walk1 | (dsimp only; walk1) | (leave1; (try dsimp only)) | fail "no step"); (try ((with_reducible show wpAny _ _ (exec _ _) (fun _ _ => _) _ _); refine Mine.gen_Q ?_; intro QQ9 hQ9)))))
      rename News h₀ _ _ _ => NR
      refine dmp_fin hret NR (by k_asm) (.head _) (by repeat' (first | exact .head _ | apply List.Mem.tail)) (by intro q hq; repeat' (first | exact hq | apply List.Mem.tail)) (by k_all) ?_ ?_
      · rfl
      · rfl
    · have hds0 : ds.map (·.1) = [a % 2 ^ n, a / 2 ^ n] := hds
      rw [hds0] at hdv
      simp [dv] at hdv
      obtain ⟨hq1, rfl⟩ := hdv
      obtain ⟨tq1, tq0, rfl⟩ : ∃ tq1 tq0, qs = [(a / 2 ^ n / b, tq1), ((a / 2 ^ n % b * 2 ^ n + a % 2 ^ n) / b, tq0)] := two_of hq1
      have hb1 : Builtin.Int.intBits (a / 2 ^ n / b) ≤ 4000 := by
        rw [← Int.fdiv_eq_ediv_of_nonneg _ (by omega), ← Int.fdiv_eq_ediv_of_nonneg _ (Int.le_of_lt hpw)]
        exact intBits_fdiv_le (intBits_fdiv_le (by omega))
      refine' Spec.use2 (d2i2 w p loose mean mg mb Qd nq _ (a / 2 ^ n / b) n _ _ _ ((Qd, listOf (ivs [(a / 2 ^ n / b, tq1), ((a / 2 ^ n % b * 2 ^ n + a % 2 ^ n) / b, tq0)].reverse).toArray nq) :: (D, listOf (ivs ds).toArray c9) :: Zt) ?h73 (.head _) hb1 hn0 hn4) ?B ?F ?X ?N ?T rfl ?d ?u (k2_0 ?_)
      case h73 => exact hz73 _
      case N => exact kst_newsOf N7 (perm73 _)
      case B => k_asm
      case F => k_asm
      case X => k_asm
      case T => k_asm
      case d => ktr_room
      case u => ktr_units
      intro t8 ps8 h8 tk8 F8 N8; (try k_sweep)
      iterate 15 (focus (first | ((first | ((rename (∀ (f : Flow) (s : Shared), _ → _) => hq); (with_reducible refine Mine.cutQ hq ?_); clear hq; (rename (Flow → Shared → Prop) => qq); clear qq) | (with_reducible refine Mine.cutQ (by with_reducible assumption) ?_)); (try dsimp only)) | ((first | (k_unfold; (try dsimp only)) | (k_end; kc_close) | walk1 | (dsimp only; walk1) | (leave1; (try dsimp only)) | fail "no step"); (try ((with_reducible show wpAny _ _ (exec _ _) (fun _ _ => _) _ _); refine Mine.gen_Q ?_; intro QQ9 hQ9)))))
      rename News h₀ _ _ _ => NR
      refine dmp_fin hret NR (by k_asm) (.head _) (by repeat' (first | exact .head _ | apply List.Mem.tail)) (by intro q hq; repeat' (first | exact hq | apply List.Mem.tail)) (by k_all) ?_ ?_
      · exact (dm_two (by omega) hpw).1
      · exact (dm_two (by omega) hpw).2
end Mine
end
section
open PySem PySem.W PyProof.Rows PyProof.V PySem.Spec PySem.SeqAt
set_option maxRecDepth 100000
namespace Mine
set_option maxHeartbeats 0 in
theorem idmPos (w : World) (p : Program) (loose : List Str) (mean : ExcName → Option Value) (mg mb : Str → Option Value)
  (a b : Int) (t1 t2 : Tok) (Z : List (Addr × Obj)) (h66 : ∀ p ∈ Z, p.1 ≠ 66) (h73 : ∀ p ∈ Z, p.1 ≠ 73) (ha : 0 ≤ a) (hb : 1 ≤ b) (hab : a < 4 * b) (hb2 : b ≤ 10 ^ 40) :
  Spec w p loose mean mg mb 92 16 [.int a t1, .int b t2] ((66, tabObj #[]) :: (73, tabObj #[]) :: Z) (fun v nw => ∃ D t1 t2 ps ps', v = .ref D ∧ nw = (D, tupO (a / b) (a % b) t1 t2) :: (66, tabObj ps) :: (73, tabObj ps') :: Z ∧ (∀ p ∈ Z, p.1 ≠ D)) := by
  unfold Spec
  k_fill
  intro dp un gd cn cs aa ccd cl outer A₀ base h₀ L m s Q E B F X N T hk hd hu hret
  k_dflt cell_enter
  rename Fr _ _ _ (fun _ => _) => F0; refine letM F0 ?_; clear F0; intro M0 F1
  refine letEA ?_; intro e9 A9
  have hb0 : b ≠ 0 := by omega
  iterate 7 (focus (first | ((first | ((rename (∀ (f : Flow) (s : Shared), _ → _) => hq); (with_reducible refine Mine.cutQ hq ?_); clear hq; (rename (Flow → Shared → Prop) => qq); clear qq) | (with_reducible refine Mine.cutQ (by with_reducible assumption) ?_)); (try dsimp only)) | ((first | (k_unfold; (try dsimp only)) | (k_end; kc_close) | walk1 | (dsimp only; walk1) | (leave1; (try dsimp only)) | fail "no step"); (try ((with_reducible show wpAny _ _ (exec _ _) (fun _ _ => _) _ _); refine Mine.gen_Q ?_; intro QQ9 hQ9)))))
  iterate 1 (focus (first | ((first | ((rename (∀ (f : Flow) (s : Shared), _ → _) => hq); (with_reducible refine Mine.cutQ hq ?_); clear hq; (rename (Flow → Shared → Prop) => qq); clear qq) | (with_reducible refine Mine.cutQ (by with_reducible assumption) ?_)); (try dsimp only)) | ((first | (k_unfold; (try dsimp only)) | (k_end; kc_close) | walk1 | (dsimp only; walk1) | (leave1; (try dsimp only)) | fail "no step"); (try ((with_reducible show wpAny _ _ (exec _ _) (fun _ _ => _) _ _); refine Mine.gen_Q ?_; intro QQ9 hQ9)))))
  iterate 30 (focus (first | ((first | ((rename (∀ (f : Flow) (s : Shared), _ → _) => hq); (with_reducible refine Mine.cutQ hq ?_); clear hq; (rename (Flow → Shared → Prop) => qq); clear qq) | (with_reducible refine Mine.cutQ (by with_reducible assumption) ?_)); (try dsimp only)) | ((first | (k_unfold; (try dsimp only)) | (k_end; kc_close) | walk1 | (dsimp only; walk1) | (leave1; (try dsimp only)) | fail "no step"); (try ((with_reducible show wpAny _ _ (exec _ _) (fun _ _ => _) _ _); refine Mine.gen_Q ?_; intro QQ9 hQ9)))))
  refine' Spec.use2 (dmpos w p loose mean mg mb a b _ _ Z h66 h73 ha hb hab hb2) ?B ?F ?X ?N ?T rfl ?d ?u (k5_1 ?_)
  case N => k_asm
  case B => k_asm
  case F => k_asm
  case X => k_asm
  case T => k_asm
  case d => ktr_room
  case u => ktr_units
  intro D u1 u2 ps1 ps2 hne h3 tk3 F3 N3; (try k_sweep)
  iterate 6 (focus (first | ((first | ((rename (∀ (f : Flow) (s : Shared), _ → _) => hq); (with_reducible refine Mine.cutQ hq ?_); clear hq; (rename (Flow → Shared → Prop) => qq); clear qq) | (with_reducible refine Mine.cutQ (by with_reducible assumption) ?_)); (try dsimp only)) | ((first | (k_unfold; (try dsimp only)) | (k_end; kc_close) | walk1 | (dsimp only; walk1) | (leave1; (try dsimp only)) | fail "no step"); (try ((with_reducible show wpAny _ _ (exec _ _) (fun _ _ => _) _ _); refine Mine.gen_Q ?_; intro QQ9 hQ9)))))
  rename News h₀ _ _ _ => NR
  exact hret _ _ _ _ ⟨D, u1, u2, ps1, ps2, rfl, rfl, hne⟩ (by k_asm) NR
set_option maxHeartbeats 0 in
theorem idmNeg (w : World) (p : Program) (loose : List Str) (mean : ExcName → Option Value) (mg mb : Str → Option Value)
  (a b : Int) (t1 t2 : Tok) (Z : List (Addr × Obj)) (h66 : ∀ p ∈ Z, p.1 ≠ 66) (h73 : ∀ p ∈ Z, p.1 ≠ 73) (ha : a < 0) (hb : 1 ≤ b) (hab : -b ≤ a) (hb2 : b ≤ 10 ^ 40) :
  Spec w p loose mean mg mb 92 20 [.int a t1, .int b t2] ((66, tabObj #[]) :: (73, tabObj #[]) :: Z) (fun v nw => ∃ D t1 t2 ps ps', v = .ref D ∧ nw = (D, tupO (a / b) (a % b) t1 t2) :: (66, tabObj ps) :: (73, tabObj ps') :: Z ∧ (∀ p ∈ Z, p.1 ≠ D)) := by
  unfold Spec
  k_fill
  intro dp un gd cn cs aa ccd cl outer A₀ base h₀ L m s Q E B F X N T hk hd hu hret
  k_dflt cell_enter
  rename Fr _ _ _ (fun _ => _) => F0; refine letM F0 ?_; clear F0; intro M0 F1
  refine letEA ?_; intro e9 A9
  have hb0 : b ≠ 0 := by omega
  iterate 7 (focus (first | ((first | ((rename (∀ (f : Flow) (s : Shared), _ → _) => hq); (with_reducible refine Mine.cutQ hq ?_); clear hq; (rename (Flow → Shared → Prop) => qq); clear qq) | (with_reducible refine Mine.cutQ (by with_reducible assumption) ?_)); (try dsimp only)) | ((first | (k_unfold; (try dsimp only)) | (k_end; kc_close) | walk1 | (dsimp only; walk1) | (leave1; (try dsimp only)) | fail "no step"); (try ((with_reducible show wpAny _ _ (exec _ _) (fun _ _ => _) _ _); refine Mine.gen_Q ?_; intro QQ9 hQ9)))))
  iterate 1 (focus (first | ((first | ((rename (∀ (f : Flow) (s : Shared), _ → _) => hq); (with_reducible refine Mine.cutQ hq ?_); clear hq; (rename (Flow → Shared → Prop) => qq); clear qq) | (with_reducible refine Mine.cutQ (by with_reducible assumption) ?_)); (try dsimp only)) | ((first | (k_unfold; (try dsimp only)) | (k_end; kc_close) | walk1 | (dsimp only; walk1) | (leave1; (try dsimp only)) | fail "no step"); (try ((with_reducible show wpAny _ _ (exec _ _) (fun _ _ => _) _ _); refine Mine.gen_Q ?_; intro QQ9 hQ9)))))
  iterate 32 (focus (first | ((first | ((rename (∀ (f : Flow) (s : Shared), _ → _) => hq); (with_reducible refine Mine.cutQ hq ?_); clear hq; (rename (Flow → Shared → Prop) => qq); clear qq) | (with_reducible refine Mine.cutQ (by with_reducible assumption) ?_)); (try dsimp only)) | ((first | (k_unfold; (try dsimp only)) | (k_end; kc_close) | walk1 | (dsimp only; walk1) | (leave1; (try dsimp only)) | fail "no step"); (try ((with_reducible show wpAny _ _ (exec _ _) (fun _ _ => _) _ _); refine Mine.gen_Q ?_; intro QQ9 hQ9)))))
  refine' Spec.use2 (idmPos w p loose mean mg mb (-a - 1) b _ _ Z h66 h73 (by omega) hb (by omega) hb2) ?B ?F ?X ?N ?T rfl ?d ?u (k5_1 ?_)
  case N => k_asm
  case B => k_asm
  case F => k_asm
  case X => k_asm
  case T => k_asm
  case d => ktr_room
  case u => ktr_units
  intro D u1 u2 ps1 ps2 hne h3 tk3 F3 N3; (try k_sweep)
  iterate 32 (focus (first | ((first | ((rename (∀ (f : Flow) (s : Shared), _ → _) => hq); (with_reducible refine Mine.cutQ hq ?_); clear hq; (rename (Flow → Shared → Prop) => qq); clear qq) | (with_reducible refine Mine.cutQ (by with_reducible assumption) ?_)); (try dsimp only)) | ((first | (k_unfold; (try dsimp only)) | (k_end; kc_close) | walk1 | (dsimp only; walk1) | (leave1; (try dsimp only)) | fail "no step"); (try ((with_reducible show wpAny _ _ (exec _ _) (fun _ _ => _) _ _); refine Mine.gen_Q ?_; intro QQ9 hQ9)))))
  rename News h₀ _ _ _ => NR
  have e := kbt_below a (u := b) (by omega)
  have hret2 : ∀ v news' h' tk', (∃ D t1 t2 ps, v = .ref D ∧ news' = (D, tupO (a / b) (a % b) t1 t2) :: (73, tabObj ps) :: (66, tabObj ps1) :: Z ∧ (∀ p ∈ (66, tabObj ps1) :: Z, p.1 ≠ D)) → Fr h₀ L h' m → News h₀ L h' news' → Q v { s with heap := h', toks := tk' } := by
    rintro v _ h' tk' ⟨D, t1, t2, ps, rfl, rfl, hn⟩ F N
    refine hret _ _ _ _ ⟨D, t1, t2, ps1, ps, rfl, rfl, fun q hq => hn q (.tail _ hq)⟩ F (kst_newsOf N fun q hq => ?_)
    simp only [List.mem_cons] at hq ⊢
    rcases hq with h | h | h | h
    · exact .inl h
    · exact .inr (.inr (.inl h))
    · exact .inr (.inl h)
    · exact .inr (.inr (.inr h))
  refine dmp_fin hret2 NR (by k_asm) (.head _) (by repeat' (first | exact .head _ | apply List.Mem.tail)) (by
    intro q hq
    rcases List.mem_cons.mp hq with rfl | hq
    · repeat' (first | exact .head _ | apply List.Mem.tail)
    · repeat' (first | exact hq | apply List.Mem.tail)) (by
    intro q hq
    rcases List.mem_cons.mp hq with rfl | hq
    · k_ne
    · exact (show ∀ q ∈ Z, q.1 ≠ _ by k_all) q hq) ?_ ?_
  · rw [e.1]; unfold Builtin.bitNot; omega
  · rw [e.2]; unfold Builtin.bitNot; omega
end Mine
end
section
open PySem PySem.W PyProof.Rows PyProof.V PySem.Spec PySem.SeqAt
set_option maxRecDepth 100000
namespace Mine
theorem Spec.mono {w : World} {p : Program} {loose : List Str} {mean : ExcName → Option Value} {mg mb : Str → Option Value} {f : Addr} {k l : Nat} {vs : List Value} {news : List (Addr × Obj)} {post : Value → List (Addr × Obj) → Prop}
    (S : Spec w p loose mean mg mb f k vs news post) (hk : k ≤ l) : Spec w p loose mean mg mb f l vs news post :=
  fun dp un gd cn cs a ccd cl outer A₀ base h₀ L m s Q E B F X N T hf hd hu h => S dp un gd cn cs a ccd cl outer A₀ base h₀ L m s Q E B F X N T hf (by omega) (by omega) h
theorem idm (w : World) (p : Program) (loose : List Str) (mean : ExcName → Option Value) (mg mb : Str → Option Value)
  (a b : Int) (t1 t2 : Tok) (Z : List (Addr × Obj)) (h66 : ∀ p ∈ Z, p.1 ≠ 66) (h73 : ∀ p ∈ Z, p.1 ≠ 73) (hb : 1 ≤ b) (ha1 : -b ≤ a) (hab : a < 4 * b) (hb2 : b ≤ 10 ^ 40) :
  Spec w p loose mean mg mb 92 20 [.int a t1, .int b t2] ((66, tabObj #[]) :: (73, tabObj #[]) :: Z) (fun v nw => ∃ D t1 t2 ps ps', v = .ref D ∧ nw = (D, tupO (a / b) (a % b) t1 t2) :: (66, tabObj ps) :: (73, tabObj ps') :: Z ∧ (∀ p ∈ Z, p.1 ≠ D)) := by
  rcases (show a < 0 ∨ 0 ≤ a by omega) with h | h
  · exact idmNeg w p loose mean mg mb a b t1 t2 Z h66 h73 h hb ha1 hb2
  · exact (idmPos w p loose mean mg mb a b t1 t2 Z h66 h73 h hb hab hb2).mono (by decide)
end Mine
end
section
open PySem PySem.W PyProof.Rows PyProof.V PySem.Spec PySem.SeqAt
set_option maxRecDepth 100000
namespace Mine
set_option maxHeartbeats 0 in
theorem unfd (w : World) (p : Program) (loose : List Str) (mean : ExcName → Option Value) (mg mb : Str → Option Value)
  (lim : Int) (Ta : Addr) (tc : Nat) (zs : List Tk) (t1 : Tok) (Z : List (Addr × Obj)) (hT : (Ta, listOf (tkRefs zs).toArray tc) ∈ Z) (hz : ∀ p ∈ tkLed zs, p ∈ Z) (hl : zs.length ≤ 1000) :
  Spec w p loose mean mg mb 193 6 [.ref Ta, .int lim t1] Z (fun v nw => ∃ t', v = .int (zs.filter fun z => z.x ≤ lim).length t' ∧ nw = Z) := by
  unfold Spec
  k_fill
  intro dp un gd cn cs a ccd cl outer A₀ base h₀ L m s Q E B F X N T hk hd hu hret
  refine' code_defC ?k1 ?k2 ?k3 ?k4 ?k5 ?kA ?kF ?kK ?k6 ?k7 ?k8 ?k9 ?kB ?kD ?_ ?c2 ?c3 ?c4; (case kA => exact rfl); (case kF => exact rfl); (case kK => assumption); (case k1 => k_asm); (case k2 => k_asm); (case k3 => k_asm); (case k4 => k_asm); (case k5 => k_asm); (case k6 => k_is); (case k7 => k_is); (case k8 => ktr_room); (case k9 => exact BindsTo.of_eq rfl); (case kB => exact rfl); (case kD => decide +kernel); (case c2 => exact rfl); (case c3 => exact rfl); (case c4 => exact rfl); k_whole; intro g' L' h' tk' cells' FG' F' N' Y' B' X' T' l1; (try k_lt l1); k_cells Y'; (try simp only [List.cons_append, List.nil_append] at N'); (try dsimp only); (try k_lift B'); (try k_fold)
  rename Fr _ _ _ (fun _ => _) => F0; refine letM F0 ?_; clear F0; intro M0 F'
  refine letEA ?_; intro e9 A9
  rename Obj => oc'
  iterate 6 (focus (first | ((first | ((rename (∀ (f : Flow) (s : Shared), _ → _) => hq); (with_reducible refine Mine.cutQ hq ?_); clear hq; (rename (Flow → Shared → Prop) => qq); clear qq) | (with_reducible refine Mine.cutQ (by with_reducible assumption) ?_)); (try dsimp only)) | ((first | (k_unfold; (try dsimp only)) | (k_end; kc_close) | walk1 | (dsimp only; walk1) | (leave1; (try dsimp only)) | fail "no step"); (try ((with_reducible show wpAny _ _ (exec _ _) (fun _ _ => _) _ _); refine Mine.gen_Q ?_; intro QQ9 hQ9)))))
  refine' ListComp_G F' ?hclos ?hcell ?hkind ?hnames ?hx ?_ ?hs
  case hclos => with_unfolding_all rfl
  case hcell => decide
  case hkind => with_unfolding_all rfl
  case hnames => decide
  case hx => with_unfolding_all rfl
  case hs => intro _; with_unfolding_all rfl
  iterate 1 (focus (first | ((first | ((rename (∀ (f : Flow) (s : Shared), _ → _) => hq); (with_reducible refine Mine.cutQ hq ?_); clear hq; (rename (Flow → Shared → Prop) => qq); clear qq) | (with_reducible refine Mine.cutQ (by with_reducible assumption) ?_)); (try dsimp only)) | ((first | (k_unfold; (try dsimp only)) | (k_end; kc_close) | walk1 | (dsimp only; walk1) | (leave1; (try dsimp only)) | fail "no step"); (try ((with_reducible show wpAny _ _ (exec _ _) (fun _ _ => _) _ _); refine Mine.gen_Q ?_; intro QQ9 hQ9)))))
  refine iter_list (by k_asm) (by k_asm) (.tail _ hT) ?_
  intro I oI h1 hI F1 N1 l2; (try k_lt l2)
  refine ⟨Obj × Nat, fun c => (I, c.1) :: (L' + 1, oc') :: Z, fun c items => IsIt Ta c.2 c.1 ∧ c.2 ≤ zs.length ∧ items.length = ((zs.take c.2).filter fun z => z.x ≤ lim).length, fun c => zs.length + 1 - c.2, (oI, 0), F1, N1, ⟨hI, Nat.zero_le _, rfl⟩, ?_, ?_⟩
  · intro h tk Q E' F N hq
    have z := N _ (.head _)
    exact wpAny_pyIter_listiter ⟨_, z.1, hI.1, hI.2⟩ hq
  rintro D C oC n ⟨o, i⟩ items h tk ⟨hI1, hi, hlen⟩ FF NN hne hDC
  dsimp only at hI1 hi hlen FF NN hne ⊢
  have hfl : items.length ≤ i := by
    rw [hlen]
    refine Nat.le_trans (List.length_filter_le _ _) ?_
    rw [List.length_take]
    omega
  refine ⟨by omega, ?_⟩
  have hneI : ∀ p ∈ (L' + 1, oc') :: (C, oC) :: (D, listOf items.toArray n) :: Z, p.1 ≠ I := by
    intro q hq
    rcases List.mem_cons.mp hq with rfl | hq
    · exact Nat.ne_of_lt l2.1
    · rcases List.mem_cons.mp hq with rfl | hq
      · exact Ne.symm (hne _ (.head _)).1
      · rcases List.mem_cons.mp hq with rfl | hq
        · exact Ne.symm (hne _ (.head _)).2
        · exact allNe_lt l2.2 q hq
  have hTm : (Ta, listOf (tkRefs zs).toArray tc) ∈ (L' + 1, oc') :: (C, oC) :: (D, listOf items.toArray n) :: Z := .tail _ (.tail _ (.tail _ hT))
  by_cases hil : i < zs.length
  · have hz1 : (tkRefs zs).toArray[i]? = some (.ref (zs[i]).a) := by simp [tkRefs, hil]
    refine next_list FF (newsRot NN) hI1 hneI hTm hz1 ?_
    intro h2 o2 hI2 F2 N2
    refine ⟨(I, o2) :: (L' + 1, oc') :: Z, h2, _, rfl, F2, newsRot N2, fun q hq => ?_, ?_⟩
    · rcases List.mem_cons.mp hq with rfl | hq
      · exact hne (I, o) (.head _)
      · exact hne _ (.tail _ hq)
    intro oC2 mC h3 tk3 hO hmx hNs FF3 NN3
    refine wpAny_tests_one ?_
    have hzm : (zs[i].a, listOf [Value.str zs[i].w zs[i].tw, Value.int zs[i].x zs[i].tx].toArray zs[i].c) ∈ Z := hz _ (List.mem_map_of_mem (f := fun z => (z.a, listOf [Value.str z.w z.tw, Value.int z.x z.tx].toArray z.c)) (List.getElem_mem hil))
    clear F2 N2 FF NN F1 N1 F' N'
    iterate 4 (focus (first | ((first | ((rename (∀ (f : Flow) (s : Shared), _ → _) => hq); (with_reducible refine Mine.cutQ hq ?_); clear hq; (rename (Flow → Shared → Prop) => qq); clear qq) | (with_reducible refine Mine.cutQ (by with_reducible assumption) ?_)); (try dsimp only)) | ((first | (k_unfold; (try dsimp only)) | (k_end; kc_close) | walk1 | (dsimp only; walk1) | (leave1; (try dsimp only)) | fail "no step"); (try ((with_reducible show wpAny _ _ (exec _ _) (fun _ _ => _) _ _); refine Mine.gen_Q ?_; intro QQ9 hQ9)))))
    refine item_litK (News.isList NN3 (.tail _ (.tail _ (.tail _ (.tail _ hzm))))) (by decide) (by decide) rfl ?_ (by with_unfolding_all rfl)
    iterate 3 (focus (first | ((first | ((rename (∀ (f : Flow) (s : Shared), _ → _) => hq); (with_reducible refine Mine.cutQ hq ?_); clear hq; (rename (Flow → Shared → Prop) => qq); clear qq) | (with_reducible refine Mine.cutQ (by with_reducible assumption) ?_)); (try dsimp only)) | ((first | (k_unfold; (try dsimp only)) | (k_end; kc_close) | walk1 | (dsimp only; walk1) | (leave1; (try dsimp only)) | fail "no step"); (try ((with_reducible show wpAny _ _ (exec _ _) (fun _ _ => _) _ _); refine Mine.gen_Q ?_; intro QQ9 hQ9)))))
    iterate 2 (focus (first | ((first | ((rename (∀ (f : Flow) (s : Shared), _ → _) => hq); (with_reducible refine Mine.cutQ hq ?_); clear hq; (rename (Flow → Shared → Prop) => qq); clear qq) | (with_reducible refine Mine.cutQ (by with_reducible assumption) ?_)); (try dsimp only)) | ((first | (k_unfold; (try dsimp only)) | (k_end; kc_close) | walk1 | (dsimp only; walk1) | (leave1; (try dsimp only)) | fail "no step"); (try ((with_reducible show wpAny _ _ (exec _ _) (fun _ _ => _) _ _); refine Mine.gen_Q ?_; intro QQ9 hQ9)))))
    have hne3 : ∀ p ∈ (I, o2) :: (L' + 1, oc') :: Z, p.1 ≠ C ∧ p.1 ≠ D := by
      intro q hq
      rcases List.mem_cons.mp hq with rfl | hq
      · exact hne (I, o) (.head _)
      · exact hne _ (.tail _ hq)
    have hti : zs.take (i + 1) = zs.take i ++ [zs[i]] := by rw [List.take_append_getElem]
    · rename zs[i].x ≤ lim => hx
      refine cEnd (o2, i + 1) FF3 NN3 hne3 ⟨hI2, by dsimp only; omega, ?_⟩ (by dsimp only; omega)
      dsimp only
      rw [hti, List.filter_append, List.length_append, List.length_append, hlen]
      simp [hx]
    · rename ¬ zs[i].x ≤ lim => hx
      have hti : zs.take (i + 1) = zs.take i ++ [zs[i]] := by rw [List.take_append_getElem]
      refine cEnd (o2, i + 1) FF3 NN3 ?_ ⟨hI2, by dsimp only; omega, ?_⟩ (by dsimp only; omega)
      · intro q hq
        rcases List.mem_cons.mp hq with rfl | hq
        · exact hne (I, o) (.head _)
        · exact hne _ (.tail _ hq)
      dsimp only
      rw [hti, List.filter_append, List.length_append, hlen]
      simp [hx]
  · refine next_list_end rfl FF (newsRot NN) hI1 hneI hTm (by simp [tkRefs]; omega) ?_
    intro h2 F2 N2
    have hii : i = zs.length := by omega
    subst hii
    rw [List.take_length] at hlen
    refine ⟨(L' + 1, oc') :: Z, h2, _, rfl, F2, kst_newsOf N2 ?_, ?_, ?_⟩
    · intro q hq
      rcases List.mem_cons.mp hq with rfl | hq
      · exact .tail _ (.head _)
      · rcases List.mem_cons.mp hq with rfl | hq
        · exact .tail _ (.tail _ (.head _))
        · rcases List.mem_cons.mp hq with rfl | hq
          · exact .head _
          · exact .tail _ (.tail _ (.tail _ hq))
    · intro q hq
      exact hne _ (.tail _ hq)
    intro h5 tk5 F5 N5
    clear F2 N2 FF NN F1 N1 F' N'
    (try k_sweep)
    iterate 1 (focus (first | ((first | ((rename (∀ (f : Flow) (s : Shared), _ → _) => hq); (with_reducible refine Mine.cutQ hq ?_); clear hq; (rename (Flow → Shared → Prop) => qq); clear qq) | (with_reducible refine Mine.cutQ (by with_reducible assumption) ?_)); (try dsimp only)) | ((first | (k_unfold; (try dsimp only)) | (k_end; kc_close) | walk1 | (dsimp only; walk1) | (leave1; (try dsimp only)) | fail "no step"); (try ((with_reducible show wpAny _ _ (exec _ _) (fun _ _ => _) _ _); refine Mine.gen_Q ?_; intro QQ9 hQ9)))))
    refine PyProof.Rows.len_list (News.isList N5 (.head _)) (by simp; omega) ?_
    iterate 2 (focus (first | ((first | ((rename (∀ (f : Flow) (s : Shared), _ → _) => hq); (with_reducible refine Mine.cutQ hq ?_); clear hq; (rename (Flow → Shared → Prop) => qq); clear qq) | (with_reducible refine Mine.cutQ (by with_reducible assumption) ?_)); (try dsimp only)) | ((first | (k_unfold; (try dsimp only)) | (k_end; kc_close) | walk1 | (dsimp only; walk1) | (leave1; (try dsimp only)) | fail "no step"); (try ((with_reducible show wpAny _ _ (exec _ _) (fun _ _ => _) _ _); refine Mine.gen_Q ?_; intro QQ9 hQ9)))))
    rename News h₀ _ _ _ => NR
    refine hret _ _ _ _ ⟨tk5 + 1, (by rw [← hlen]; simp), rfl⟩ (by k_asm) (kst_newsOf NR ?_)
    · intro q hq
      exact .tail _ (.tail _ hq)
end Mine
end
section
open PySem PySem.W PyProof.Rows PyProof.V PySem.Spec PySem.SeqAt
set_option maxRecDepth 100000
namespace Mine
set_option maxHeartbeats 0 in
theorem lawS9 (w : World) (p : Program) (loose : List Str) (mean : ExcName → Option Value) (mg mb : Str → Option Value) (base h₀ : Heap) (L fa : Addr) (cd : Value) (s : Shared) (m₀ : Str → Option Value) (Q : Flow → Shared → Prop) (E : Value → Shared → Prop)
  (B : Below callerA base [] h₀) (X : (hd.heap_1 w.params).In h₀) (T : Top p loose mean mg mb h₀)
  (P : Par) (hP : P.Ok) (hPs : P.step ≤ 10 ^ 40) (k q x mo : Int) (tl ts tf ux un ug um : Tok) (ws : List Str)
  (Z3 : List (Addr × Obj)) (Dp cp Tp np Dl cl Tl : Nat) (zp : List Tk) (xp xl : Int) (u1 u2 u3 : Tok) (y : Str)
  (F : Fr h₀ L s.heap (kstB m₀ [("limit", .int P.limit tl), ("step", .int P.step ts), ("fee", .int P.fee tf), ("more", .int mo um), ("x", .int x ux), ("name", .str (nmOf k) un), ("begun", .str (begS (nmOf k).cps.toList ws) ug), ("pile", .ref Dp), ("line", .ref Dl)]))
  (N : News h₀ L s.heap Z3) (pt : Array Value) (t143 : (143, tabObj pt) ∈ Z3) (t73 : (73, tabObj #[]) ∈ Z3) (t66 : (66, tabObj #[]) ∈ Z3)
  (hro : RowOk ws) (hq0 : 0 ≤ q) (hq5 : q < 5 * P.step) (hx : x = P.x0 ws.length q) (hmo : mo = ((ws.length : Int) - 1) * P.fee)
  (g1 : (Dp, listOf [Value.int xp u1, .ref Tp, .str y u2].toArray cp) ∈ Z3) (g2 : (Tp, listOf (tkRefs zp).toArray np) ∈ Z3) (g3 : ∀ q ∈ tkLed zp, q ∈ Z3) (gl : zp.length ≤ 100) (g4 : Runs P (-1) ws x 0 xp (tkDat zp))
  (f1 : (Dl, listOf [Value.int xl u3, .ref Tl].toArray cl) ∈ Z3) (b : Int) (dl : List (Str × Int)) (f4 : Runs P 0 ws x b xl dl)
  (fin : ∀ (h : Heap) (tk : Nat) (m : Str → Option Value) (Z : List (Addr × Obj)), Fr h₀ L h m → News h₀ L h Z → (∃ ps, (143, tabObj ps) ∈ Z) → (∃ ps, (73, tabObj ps) ∈ Z) → (∃ ps, (66, tabObj ps) ∈ Z) → Q (.ret (.bool true)) { s with heap := h, toks := tk }) :
  LGo w L fa cd 24 Q E s := by
  unfold LGo
  dsimp only [lawEnv, lawRec, recOf, List.drop]
  revert X
  k_fill
  intro X
  obtain ⟨n1, n2, n3, n4, n5, n6, n7⟩ := nm_facts k
  have hne : ws ≠ [] := by intro e; have := hro.1; rw [e] at this; simp at this
  obtain ⟨wm, v, hwv⟩ : ∃ a b, ws = a ++ [b] := ⟨ws.dropLast, ws.getLast hne, (List.dropLast_concat_getLast hne).symm⟩
  have hv : isName v := hro.2.2 v (by rw [hwv]; simp)
  have hbl := beg_len (hd := (nmOf k).cps.toList) hro.2.2
  have hbs : (begS (nmOf k).cps.toList ws).cps.size ≤ 100 := by
    have := hro.2.1
    rw [Array.length_toList] at hbl
    omega
  obtain ⟨e1, e2⟩ := beg_hit (hd := (nmOf k).cps.toList) (ws := wm) hv (by rw [← hwv]; omega)
  rw [← hwv] at e1 e2
  iterate 16 (focus (first | ((first | ((rename (∀ (f : Flow) (s : Shared), _ → _) => hq); (with_reducible refine Mine.cutQ hq ?_); clear hq; (rename (Flow → Shared → Prop) => qq); clear qq) | (with_reducible refine Mine.cutQ (by with_reducible assumption) ?_)); (try dsimp only)) | ((first | (k_unfold; (try dsimp only)) | (k_end; kc_close) | walk1 | (dsimp only; walk1) | (leave1; (try dsimp only)) | fail "no step"); (try ((with_reducible show wpAny _ _ (exec _ _) (fun _ _ => _) _ _); refine Mine.gen_Q ?_; intro QQ9 hQ9)))))
  refine' Spec.use2 (isHdnF w p loose mean mg mb _ _ Z3 (by omega) _ e1 e2) ?B ?F ?X ?N ?T rfl ?d ?u (k0_0 ?_)
  case N => k_asm
  case B => k_asm
  case F => k_asm
  case X => k_asm
  case T => k_asm
  case d => ktr_room
  case u => ktr_units
  intro h4 tk4 F4 N4


  iterate 14 (focus (first | ((first | ((rename (∀ (f : Flow) (s : Shared), _ → _) => hq); (with_reducible refine Mine.cutQ hq ?_); clear hq; (rename (Flow → Shared → Prop) => qq); clear qq) | (with_reducible refine Mine.cutQ (by with_reducible assumption) ?_)); (try dsimp only)) | ((first | (k_unfold; (try dsimp only)) | (k_end; kc_close) | walk1 | (dsimp only; walk1) | (leave1; (try dsimp only)) | fail "no step"); (try ((with_reducible show wpAny _ _ (exec _ _) (fun _ _ => _) _ _); refine Mine.gen_Q ?_; intro QQ9 hQ9)))))
  refine' Spec.use2 (isHdn w p loose mean mg mb _ _ _ (by omega) n2 n3 n4 n5) ?B ?F ?X ?N ?T rfl ?d ?u (k0_0 ?_)
  case N => k_asm
  case B => k_asm
  case F => k_asm
  case X => k_asm
  case T => k_asm
  case d => ktr_room
  case u => ktr_units
  intro h5 tk5 F5 N5


  iterate 11 (focus (first | ((first | ((rename (∀ (f : Flow) (s : Shared), _ → _) => hq); (with_reducible refine Mine.cutQ hq ?_); clear hq; (rename (Flow → Shared → Prop) => qq); clear qq) | (with_reducible refine Mine.cutQ (by with_reducible assumption) ?_)); (try dsimp only)) | ((first | (k_unfold; (try dsimp only)) | (k_end; kc_close) | walk1 | (dsimp only; walk1) | (leave1; (try dsimp only)) | fail "no step"); (try ((with_reducible show wpAny _ _ (exec _ _) (fun _ _ => _) _ _); refine Mine.gen_Q ?_; intro QQ9 hQ9)))))
  rename News _ _ _ _ => N6
  simp only [Bool.false_eq_true, if_true, if_false] at N6
  refine ne_self (k := 1) (d := .list [.str (Str.ofString "False"), .str (Str.ofString "True")]) (gd_list (k := 0) ?_) (by decide)
    (Reads.list (N6 _ (.tail _ (.head _))).1 rfl rfl (.cons (.str _ _) (.cons (.str _ _) .nil))) (Reads.list (N6 _ (.head _)).1 rfl rfl (.cons (.str _ _) (.cons (.str _ _) .nil))) (by ktr_units) ?_
  · exact fm (gd_str (by decide +kernel)) (fm (gd_str (by decide +kernel)) fm0)
  have N7 := kst_newsOf (l' := (66, tabObj #[]) :: (73, tabObj #[]) :: (143, tabObj pt) :: (Dp, listOf [Value.int xp u1, .ref Tp, .str y u2].toArray cp) :: (Dl, listOf [Value.int xl u3, .ref Tl].toArray cl) :: (Tp, listOf (tkRefs zp).toArray np) :: tkLed zp) N6 (by
    exact fm (.tail _ (.tail _ t66)) (fm (.tail _ (.tail _ t73)) (fm (.tail _ (.tail _ t143)) (fm (.tail _ (.tail _ g1)) (fm (.tail _ (.tail _ f1)) (fm (.tail _ (.tail _ g2)) fun q hq => .tail _ (.tail _ (g3 q hq))))))))
  clear N6
  iterate 2 (focus (first | ((first | ((rename (∀ (f : Flow) (s : Shared), _ → _) => hq); (with_reducible refine Mine.cutQ hq ?_); clear hq; (rename (Flow → Shared → Prop) => qq); clear qq) | (with_reducible refine Mine.cutQ (by with_reducible assumption) ?_)); (try dsimp only)) | ((first | (k_unfold; (try dsimp only)) | (k_end; kc_close) | walk1 | (dsimp only; walk1) | (leave1; (try dsimp only)) | fail "no step"); (try ((with_reducible show wpAny _ _ (exec _ _) (fun _ _ => _) _ _); refine Mine.gen_Q ?_; intro QQ9 hQ9)))))
  iterate 1 (focus (first | ((first | ((rename (∀ (f : Flow) (s : Shared), _ → _) => hq); (with_reducible refine Mine.cutQ hq ?_); clear hq; (rename (Flow → Shared → Prop) => qq); clear qq) | (with_reducible refine Mine.cutQ (by with_reducible assumption) ?_)); (try dsimp only)) | ((first | (k_unfold; (try dsimp only)) | (k_end; kc_close) | walk1 | (dsimp only; walk1) | (leave1; (try dsimp only)) | fail "no step"); (try ((with_reducible show wpAny _ _ (exec _ _) (fun _ _ => _) _ _); refine Mine.gen_Q ?_; intro QQ9 hQ9)))))
  iterate 2 (focus (first | ((first | ((rename (∀ (f : Flow) (s : Shared), _ → _) => hq); (with_reducible refine Mine.cutQ hq ?_); clear hq; (rename (Flow → Shared → Prop) => qq); clear qq) | (with_reducible refine Mine.cutQ (by with_reducible assumption) ?_)); (try dsimp only)) | ((first | (k_unfold; (try dsimp only)) | (k_end; kc_close) | walk1 | (dsimp only; walk1) | (leave1; (try dsimp only)) | fail "no step"); (try ((with_reducible show wpAny _ _ (exec _ _) (fun _ _ => _) _ _); refine Mine.gen_Q ?_; intro QQ9 hQ9)))))
  have hap : ∀ (A : Addr), (A = 66 ∨ A = 73) → ∀ q ∈ (143, tabObj pt) :: (Dp, listOf [Value.int xp u1, .ref Tp, .str y u2].toArray cp) :: (Dl, listOf [Value.int xl u3, .ref Tl].toArray cl) :: (Tp, listOf (tkRefs zp).toArray np) :: tkLed zp, q.1 ≠ A := by
    intro A hA q hq
    rcases List.mem_cons.mp hq with rfl | hq
    · rcases hA with rfl | rfl
      · exact (show (143 : Nat) ≠ 66 by decide)
      · exact (show (143 : Nat) ≠ 73 by decide)
    have hl : ∃ vs n, q.2 = listOf vs n := by
      simp only [List.mem_cons] at hq
      rcases hq with rfl | rfl | rfl | hq
      · exact ⟨_, _, rfl⟩
      · exact ⟨_, _, rfl⟩
      · exact ⟨_, _, rfl⟩
      · obtain ⟨z, hz, rfl⟩ := List.mem_map.mp hq
        exact ⟨_, _, rfl⟩
    obtain ⟨vs, n, hvs⟩ := hl
    have hm : (A, (tabObj #[] : Obj)) ∈ (66, (tabObj #[] : Obj)) :: (73, (tabObj #[] : Obj)) :: (143, tabObj pt) :: (Dp, listOf [Value.int xp u1, .ref Tp, .str y u2].toArray cp) :: (Dl, listOf [Value.int xl u3, .ref Tl].toArray cl) :: (Tp, listOf (tkRefs zp).toArray np) :: tkLed zp := by
      rcases hA with rfl | rfl
      · exact .head _
      · exact .tail _ (.head _)
    refine newsNe N7 (show (q.1, q.2) ∈ _ from .tail _ (.tail _ (.tail _ hq))) hm fun e => ?_
    rw [hvs] at e
    have e2 : (listOf vs n : Obj).data = (tabObj #[] : Obj).data := by rw [e]
    have e3 : Data.seq vs n = Data.fields #[] := e2
    injection e3
  have ha : P.limit - x + mo = q - P.step := by
    rw [hx, hmo]
    unfold Par.x0
    omega
  have hs1 := hP.step
  iterate 17 (focus (first | ((first | ((rename (∀ (f : Flow) (s : Shared), _ → _) => hq); (with_reducible refine Mine.cutQ hq ?_); clear hq; (rename (Flow → Shared → Prop) => qq); clear qq) | (with_reducible refine Mine.cutQ (by with_reducible assumption) ?_)); (try dsimp only)) | ((first | (k_unfold; (try dsimp only)) | (k_end; kc_close) | walk1 | (dsimp only; walk1) | (leave1; (try dsimp only)) | fail "no step"); (try ((with_reducible show wpAny _ _ (exec _ _) (fun _ _ => _) _ _); refine Mine.gen_Q ?_; intro QQ9 hQ9)))))
  refine' Spec.use2 (idm w p loose mean mg mb (P.limit - x + mo) P.step _ _ _ (hap 66 (.inl rfl)) (hap 73 (.inr rfl)) hs1 (by rw [ha]; omega) (by rw [ha]; omega) hPs) ?B ?F ?X ?N ?T rfl ?d ?u (k5_1 ?_)
  case N => exact N7
  case B => k_asm
  case F => k_asm
  case X => k_asm
  case T => k_asm
  case d => ktr_room
  case u => ktr_units
  intro D8 s1 s2 ps1 ps2 hD8 h8 tk8 F8 N8
  rw [ha] at N8
  clear N7
  iterate 9 (focus (first | ((first | ((rename (∀ (f : Flow) (s : Shared), _ → _) => hq); (with_reducible refine Mine.cutQ hq ?_); clear hq; (rename (Flow → Shared → Prop) => qq); clear qq) | (with_reducible refine Mine.cutQ (by with_reducible assumption) ?_)); (try dsimp only)) | ((first | (k_unfold; (try dsimp only)) | (k_end; kc_close) | walk1 | (dsimp only; walk1) | (leave1; (try dsimp only)) | fail "no step"); (try ((with_reducible show wpAny _ _ (exec _ _) (fun _ _ => _) _ _); refine Mine.gen_Q ?_; intro QQ9 hQ9)))))
  rw [hx] at g4 f4
  obtain ⟨p1, p2⟩ := g4.fin hP hq0 hne
  obtain ⟨l1', l2'⟩ := f4.fin hP hq0 hne
  have hcnt : (zp.filter fun z => z.x ≤ P.limit).length = ((tkDat zp).filter fun z => z.2 ≤ P.limit).length := by
    show _ = (((zp.map fun z => (z.w, z.x))).filter _).length
    rw [List.filter_map, List.length_map]
    rfl
  iterate 17 (focus (first | ((first | ((rename (∀ (f : Flow) (s : Shared), _ → _) => hq); (with_reducible refine Mine.cutQ hq ?_); clear hq; (rename (Flow → Shared → Prop) => qq); clear qq) | (with_reducible refine Mine.cutQ (by with_reducible assumption) ?_)); (try dsimp only)) | ((first | (k_unfold; (try dsimp only)) | (k_end; kc_close) | walk1 | (dsimp only; walk1) | (leave1; (try dsimp only)) | fail "no step"); (try ((with_reducible show wpAny _ _ (exec _ _) (fun _ _ => _) _ _); refine Mine.gen_Q ?_; intro QQ9 hQ9)))))
  refine' Spec.use2 (unfd w p loose mean mg mb P.limit Tp np zp tl _ ?g1 ?g2 (by omega)) ?B ?F ?X ?N ?T rfl ?d ?u (k1_0 ?_)
  case N => k_asm
  case g1 => exact .tail _ (.tail _ (.tail _ (.tail _ (.tail _ (.tail _ (.head _))))))
  case g2 => exact fun q hq => .tail _ (.tail _ (.tail _ (.tail _ (.tail _ (.tail _ (.tail _ hq))))))
  case B => k_asm
  case F => k_asm
  case X => k_asm
  case T => k_asm
  case d => ktr_room
  case u => ktr_units
  intro t9 h9 tk9 F9 N9


  rw [hcnt, p1]
  iterate 26 (focus (first | ((first | ((rename (∀ (f : Flow) (s : Shared), _ → _) => hq); (with_reducible refine Mine.cutQ hq ?_); clear hq; (rename (Flow → Shared → Prop) => qq); clear qq) | (with_reducible refine Mine.cutQ (by with_reducible assumption) ?_)); (try dsimp only)) | ((first | (k_unfold; (try dsimp only)) | (k_end; kc_close) | walk1 | (dsimp only; walk1) | (leave1; (try dsimp only)) | fail "no step"); (try ((with_reducible show wpAny _ _ (exec _ _) (fun _ _ => _) _ _); refine Mine.gen_Q ?_; intro QQ9 hQ9)))))
  rename News _ _ _ _ => NE
  rw [l2'] at NE
  refine eq_self (k := 1) (d := .list [.int ((q - P.step) / P.step + 1), .int (P.limit + P.step - P.fee - (q - P.step) % P.step)]) (gd_list (k := 0) ?_) (by decide)
    (Reads.list (NE _ (.tail _ (.head _))).1 rfl rfl (.cons (.int _ _) (.cons (.int _ _) .nil))) (Reads.list (NE _ (.head _)).1 rfl rfl (.cons (.int _ _) (.cons (.int _ _) .nil))) (by ktr_units) ?_
  · exact fm (gd_int _) (fm (gd_int _) fm0)
  iterate 1 (focus (first | ((first | ((rename (∀ (f : Flow) (s : Shared), _ → _) => hq); (with_reducible refine Mine.cutQ hq ?_); clear hq; (rename (Flow → Shared → Prop) => qq); clear qq) | (with_reducible refine Mine.cutQ (by with_reducible assumption) ?_)); (try dsimp only)) | ((first | (k_unfold; (try dsimp only)) | (k_end; kc_close) | walk1 | (dsimp only; walk1) | (leave1; (try dsimp only)) | fail "no step"); (try ((with_reducible show wpAny _ _ (exec _ _) (fun _ _ => _) _ _); refine Mine.gen_Q ?_; intro QQ9 hQ9)))))
  exact fin _ _ _ _ (by assumption) NE ⟨_, .tail _ (.tail _ (.tail _ (.tail _ (.tail _ (.head _)))))⟩ ⟨_, .tail _ (.tail _ (.tail _ (.tail _ (.head _))))⟩ ⟨_, .tail _ (.tail _ (.tail _ (.head _)))⟩
end Mine
end
section
open PySem PySem.W PyProof.Rows PyProof.V PySem.Spec PySem.SeqAt
set_option maxRecDepth 100000
namespace Mine
theorem nm_nl (k : Int) : PyData.strOk (nmOf k ++ Str.ofString "\n") = true := by
  rcases nm_cases k with h | h | h | h <;> rw [h] <;> decide +kernel
theorem newsDrop23 {h₀ h : Heap} {L : Addr} {a b c : Addr × Obj} {Z : List (Addr × Obj)} (N : News h₀ L h (a :: b :: c :: Z)) : News h₀ L h (a :: Z) := kst_newsOf N fun q hq => by
  rcases List.mem_cons.mp hq with rfl | hq
  · exact .head _
  · exact .tail _ (.tail _ (.tail _ hq))
set_option maxHeartbeats 0 in
theorem lawAll (w : World) (p : Program) (loose : List Str) (mean : ExcName → Option Value) (mg mb : Str → Option Value) (base h₀ : Heap) (L fa : Addr) (cd : Value) (s : Shared) (m₀ : Str → Option Value) (Q : Flow → Shared → Prop) (E : Value → Shared → Prop)
  (B : Below callerA base [] h₀) (X : (hd.heap_1 w.params).In h₀) (T : Top p loose mean mg mb h₀)
  (D : Addr) (n : Nat) (o1 o2 : Obj) (k0 k1 k2 k3 k4 k5 k6 k7 k8 k9 : Int) (t0 t1 t2 t3 t4 t5 t6 t7 t8 t9 : Tok)
  (F : Fr h₀ L s.heap m₀) (N : News h₀ L s.heap [(D, listOf #[Value.int k0 t0, .int k1 t1, .int k2 t2, .int k3 t3, .int k4 t4, .int k5 t5, .int k6 t6, .int k7 t7, .int k8 t8, .int k9 t9] n), (L + 1 + 1, o2), (L + 1, o1), (143, tabObj #[]), (73, tabObj #[]), (66, tabObj #[])])
  (hL : @LT.lt Nat _ 143 L) (d1 : @Ne Nat D (L + 1)) (d2 : @Ne Nat D (L + 1 + 1)) (d3 : @Ne Nat D 143) (d4 : @Ne Nat D 73) (d5 : @Ne Nat D 66)
  (h1 : o1.data = .cell (some (.ref D))) (h2 : o2.data = .cell none)
  (hk : ∀ k ∈ [k0, k1, k2, k3, k4, k5, k6, k7, k8, k9], -10 ^ 32 ≤ k ∧ k ≤ 10 ^ 32)
  (fin : ∀ (h : Heap) (tk : Nat) (m : Str → Option Value) (Z : List (Addr × Obj)), Fr h₀ L h m → News h₀ L h Z → (∃ ps, (143, tabObj ps) ∈ Z) → (∃ ps, (73, tabObj ps) ∈ Z) → (∃ ps, (66, tabObj ps) ∈ Z) → Q (.ret (.bool true)) { s with heap := h, toks := tk }) :
  LGo w L fa cd 1 Q E s := by
  have b0 := hk k0 (by simp)
  have b1 := hk k1 (by simp)
  have b2 := hk k2 (by simp)
  have b3 := hk k3 (by simp)
  have b9 := hk k9 (by simp)
  refine lawS2 w p loose mean mg mb base h₀ L fa cd s m₀ Q E B X T D n o1 o2 k0 k1 k2 k3 k4 k5 k6 k7 k8 k9 t0 t1 t2 t3 t4 t5 t6 t7 t8 t9 _ rfl F N hL d1 d2 d3 d4 d5 h1 ?_
  intro h tk m Dr nD Wr nW rs wr tl ts tf F2 N2 hZn hrw hwd
  have hrk := rows_ok hrw
  have hr4 : rs.length = 4 := by have := congrArg List.length hrw; simpa [rwW] using this
  have hw4 : wr.length = 4 := by have := congrArg List.length hwd; simpa using this
  have hw : wds wr = (rwW rs).map txOf := by rw [hwd, hrw]; rfl
  refine lawS3 w p loose mean mg mb base h₀ L fa cd _ m Q E B X T D n o1 o2 k0 k1 k2 k3 k4 k5 k6 k7 k8 k9 t0 t1 t2 t3 t4 t5 t6 t7 t8 t9 _ _ _ tl ts tf Dr nD Wr nW rs wr _ rfl F2 N2 hZn hw hrk hr4 hL d1 d2 d3 d4 d5 h1 h2 ?_
  intro h tk m tx tt kk4 kk5 R npb npl o2' tl1 tk1 Z1 F3 N3 hb hx
  refine lawS4 w p loose mean mg mb base h₀ L fa cd _ m Q E B X T D n o1 o2' _ _ _ _ tl ts tf Dr nD Wr nW rs wr tx tt kk4 kk5 R npb npl tl1 tk1 Z1 F3 N3 hb hx hr4 hw4 ?_
  intro h tk m To nT told tl2 tk2 F4 N4 hto1 hdx hpl hpb htold
  refine lawS5 w p loose mean mg mb base h₀ L fa cd _ m Q E B X T _ _ _ tl ts tf Dr nD Wr nW To nT rs wr told tx tt R.c R.oc _ F4 N4 (.head _) (.tail _ (.tail _ (.tail _ (.tail _ hb.wr)))) (.tail _ (.tail _ (.tail _ (.tail _ hb.dr)))) (fun q hq => .tail _ (.tail _ (.tail _ (.tail _ (hb.rows q hq))))) (.tail _ (.tail _ (.tail _ (.tail _ hb.tab))))
    (.tail _ (.tail _ (.tail _ (.tail _ (hb.ro _ (by simp [Rdr.ro])))))) hb.tabc hr4 hrk hw htold ?_
  intro h tk m Rr nR rr F5 N5 hYr hrr
  have hrr4 : rr.length = 4 := by have := congrArg List.length (hrr.trans hrw); simpa [rwW] using this
  have ht4 : told.length = 4 := by have := congrArg List.length htold; simpa [hw4] using this
  obtain ⟨r0, r1, r2, r3, rfl⟩ := four hrr4
  obtain ⟨v0, v1, v2, v3, rfl⟩ := four ht4
  have hrr2 := hrr.trans hrw
  have hrok := rows_ok hrr2
  have e0 : wds r0.ws = rowOf k4 := by simp only [rwW, List.map_cons, List.map_nil, List.cons.injEq] at hrr2; exact hrr2.1
  have e1 : wds r1.ws = rowOf k5 := by simp only [rwW, List.map_cons, List.map_nil, List.cons.injEq] at hrr2; exact hrr2.2.1
  have e2 : wds r2.ws = rowOf k6 := by simp only [rwW, List.map_cons, List.map_nil, List.cons.injEq] at hrr2; exact hrr2.2.2.1
  have e3 : wds r3.ws = rowOf k7 := by simp only [rwW, List.map_cons, List.map_nil, List.cons.injEq] at hrr2; exact hrr2.2.2.2.1
  have htv := htold.trans hwd
  simp only [wds, List.map_cons, List.map_nil, List.cons.injEq, and_true] at htv
  obtain ⟨q0, q1, q2, q3⟩ := htv
  rw [← e0] at q0
  rw [← e1] at q1
  rw [← e2] at q2
  rw [← e3] at q3
  have ho0 := hrok r0 (by simp)
  have ho1 := hrok r1 (by simp)
  have ho2 := hrok r2 (by simp)
  have ho3 := hrok r3 (by simp)
  refine lawS6 w p loose mean mg mb base h₀ L fa cd _ m Q E B X T _ _ _ tl ts tf D n o1 k0 k1 k2 k3 k4 k5 k6 k7 k8 k9 t0 t1 t2 t3 t4 t5 t6 t7 t8 t9 To nT Rr nR v0 v1 v2 v3 r0 r1 r2 r3 tx tt _ F5 N5 (.tail _ (.head _)) (.head _)
    (.tail _ (List.mem_append_right _ (.tail _ (.tail _ (.tail _ (.head _)))))) (.tail _ (List.mem_append_left _ (.tail _ (.tail _ (.tail _ (.tail _ hb.c1)))))) h1 (.tail _ (List.mem_append_left _ (.tail _ (.tail _ (.tail _ (.tail _ hb.cells)))))) b0 ?s1 ?s2 b3 b9 ho3 q3 ?_
  case s1 => split <;> omega
  case s2 => split <;> omega
  intro h tk m dT dR oT oR ux un ub ug um F6 N6 hdn hoT hoR
  have hstep : 1 ≤ 1 + (if k1 < 0 then -k1 else k1) ∧ 1 + (if k1 < 0 then -k1 else k1) ≤ 10 ^ 40 := by split <;> omega
  have hfee : 0 ≤ (if k2 < 0 then -k2 else k2) := by split <;> omega
  have hP : (parOf k0 (1 + (if k1 < 0 then -k1 else k1)) (if k2 < 0 then -k2 else k2) (wds r0.ws) (wds r1.ws) (wds r2.ws)).Ok := parOf_ok hstep.1 hfee ho0 ho1 ho2
  obtain ⟨st, hst⟩ : ∃ st, st = 1 + (if k1 < 0 then -k1 else k1) := ⟨_, rfl⟩
  obtain ⟨fe, hfe⟩ : ∃ fe, fe = (if k2 < 0 then -k2 else k2) := ⟨_, rfl⟩
  rw [← hst, ← hfe] at hP F6
  rw [← hst] at hstep
  have hq0 := Int.fmod_nonneg_of_pos k3 (show (0 : Int) < 5 * st by omega)
  have hq5 := Int.fmod_lt_of_pos k3 (show (0 : Int) < 5 * st by omega)
  generalize k3.fmod (5 * st) = q at hq0 hq5 F6
  have hne3 : wds r3.ws ≠ [] := by intro e; have := ho3.1; rw [e] at this; simp at this
  rw [q3, beg_is _ hne3] at F6
  have hnf := nm_facts (k9.fmod 4)
  have hl3 : r3.ws.length ≤ 3 := by have := ho3.2.1; simpa using this
  have hme := Par.meas0 hP hl3 hq0 hq5
  have N7 := kst_newsOf (l' := (R.dx, R.dxo w.params wsS (lnAt tx kk4) tl2) :: (R.pl, listOf #[.int kk4 tk2] npl) :: (R.pb, listOf (svs []).toArray npb) :: ((dR, oR) :: (dT, oT) :: (Rr, listOf (rwRefs [r0, r1, r2, r3]).toArray nR) :: (To, listOf (svs [v0, v1, v2, v3]).toArray nT) :: (Z1 ++ rwLed [r0, r1, r2, r3]))) N6 (by
    refine fm ?_ (fm ?_ (fm ?_ (fm ?_ (fm ?_ (fm ?_ (fm ?_ fun q hq => ?_))))))
    iterate 7 (focus (repeat' (first | exact .head _ | apply List.Mem.tail)))
    repeat' (first | exact hq | apply List.Mem.tail))
  have mpb : (R.pb, listOf (svs []).toArray npb) ∈ (To, listOf (svs [v0, v1, v2, v3]).toArray nT) :: (R.dx, R.dxo w.params wsS (lnAt tx kk4) tl2) :: (R.pl, listOf #[.int kk4 tk2] npl) :: (R.pb, listOf (svs []).toArray npb) :: Z1 := .tail _ (.tail _ (.tail _ (.head _)))
  have mdx : (R.dx, R.dxo w.params wsS (lnAt tx kk4) tl2) ∈ (To, listOf (svs [v0, v1, v2, v3]).toArray nT) :: (R.dx, R.dxo w.params wsS (lnAt tx kk4) tl2) :: (R.pl, listOf #[.int kk4 tk2] npl) :: (R.pb, listOf (svs []).toArray npb) :: Z1 := .tail _ (.head _)
  have mpl : (R.pl, listOf #[.int kk4 tk2] npl) ∈ (To, listOf (svs [v0, v1, v2, v3]).toArray nT) :: (R.dx, R.dxo w.params wsS (lnAt tx kk4) tl2) :: (R.pl, listOf #[.int kk4 tk2] npl) :: (R.pb, listOf (svs []).toArray npb) :: Z1 := .tail _ (.tail _ (.head _))
  have y1 := hYr _ mpb
  have y2 := hYr _ mdx
  have y3 := hYr _ mpl
  have y4 := hdn _ (.tail _ (List.mem_append_left _ mpb))
  have y5 := hdn _ (.tail _ (List.mem_append_left _ mdx))
  have y6 := hdn _ (.tail _ (List.mem_append_left _ mpl))
  have hb2 := hb.mono (Y := (dR, oR) :: (dT, oT) :: (Rr, listOf (rwRefs [r0, r1, r2, r3]).toArray nR) :: (To, listOf (svs [v0, v1, v2, v3]).toArray nT) :: (Z1 ++ rwLed [r0, r1, r2, r3])) (fun q hq => .tail _ (.tail _ (.tail _ (.tail _ (List.mem_append_left _ hq))))) (by
    intro q hq
    rcases List.mem_cons.mp hq with rfl | hq
    · exact ⟨Ne.symm y4.2, Ne.symm y5.2, Ne.symm y6.2⟩
    rcases List.mem_cons.mp hq with rfl | hq
    · exact ⟨Ne.symm y4.1, Ne.symm y5.1, Ne.symm y6.1⟩
    rcases List.mem_cons.mp hq with rfl | hq
    · exact ⟨Ne.symm y1.1, Ne.symm y2.1, Ne.symm y3.1⟩
    rcases List.mem_cons.mp hq with rfl | hq
    · exact ⟨Ne.symm hpb, Ne.symm hdx, Ne.symm hpl⟩
    rcases List.mem_append.mp hq with hq | hq
    · exact hb.pb q hq
    · obtain ⟨r, hr, rfl⟩ := List.mem_map.mp hq
      exact ⟨Ne.symm (y1.2 r hr), Ne.symm (y2.2 r hr), Ne.symm (y3.2 r hr)⟩)
  have mrow : ∀ r ∈ [r0, r1, r2, r3], (r.a, listOf (svs r.ws).toArray r.n) ∈ (dR, oR) :: (dT, oT) :: (Rr, listOf (rwRefs [r0, r1, r2, r3]).toArray nR) :: (To, listOf (svs [v0, v1, v2, v3]).toArray nT) :: (Z1 ++ rwLed [r0, r1, r2, r3]) :=
    fun r hr => .tail _ (.tail _ (.tail _ (.tail _ (List.mem_append_right _ (List.mem_map_of_mem (f := fun r : Rw => (r.a, listOf (svs r.ws).toArray r.n)) hr)))))
  have hvR := rows_at (limit := k0) (step := st) (fee := fe) (r0 := r0) (r1 := r1) (r2 := r2) (fun r hr => mrow r (by
    repeat' (first | exact (fm (p := fun r => r ∈ [r0, r1, r2, r3]) (.head _) (fm (.tail _ (.head _)) (fm (.tail _ (.tail _ (.head _))) fm0))) r hr)))
  refine lawS7 w p loose mean mg mb base h₀ L fa cd _ m Q E B X T (parOf k0 st fe (wds r0.ws) (wds r1.ws) (wds r2.ws)) hP (nmOf (k9.fmod 4)) hnf.1 hnf.2.2.2.2.2.1 _ _ _ tl ts tf ux un ub ug um dT dR r3.a r3.n oT oR r3.ws _ _ D n o1 o2' _ Dr nD Wr nW rs wr tx tt kk4 kk5 R npb npl tl2 tk2 _ F6 N7 hb2 hx
    (.tail _ (.head _)) (.head _) (mrow r3 (by simp)) ho3 hoT hoR (texts_at q0 q1 q2) hvR hme ?_
  intro h tk m Z3 Dp cp Tp np Dl cl Tl nl zp zl xp xl u1 u2 u3 F7 N7 hs g1 g2 g3 g4 gr f1 f2 f3 f4 fr
  refine lawS8 w p loose mean mg mb base h₀ L fa cd _ m Q E B X T (parOf k0 st fe (wds r0.ws) (wds r1.ws) (wds r2.ws)) hP (nmOf (k9.fmod 4)) hnf.2.2.2.2.2.1 (nm_nl _) _ _ _ tl ts tf ux un ub ug um dR r3.a r3.n oR r3.ws _ _ Z3 Dp cp Tp np Dl cl Tl nl zp zl xp xl u1 u2 u3 F7 N7
    (hs _ (.head _)) (hs _ (mrow r3 (by simp))) ho3 hoR (fun v hv => let ⟨a, rr, n, e1, e2, e3⟩ := hvR v hv; ⟨a, rr, n, hs _ e1, e2, e3⟩) hme g1 g2 g3 gr f1 f2 f3 fr ?_
  intro h tk m F8 N8
  exact lawS9 w p loose mean mg mb base h₀ L fa cd _ m Q E B X T (parOf k0 st fe (wds r0.ws) (wds r1.ws) (wds r2.ws)) hP hstep.2 (k9.fmod 4) q _ _ tl ts tf ux un ug um (wds r3.ws) Z3 Dp cp Tp np Dl cl Tl zp xp xl u1 u2 u3 _ F8 N8
    _ (hs _ hb2.tab) (hs _ hb2.t73) (hs _ hb2.t66) ho3 hq0 hq5 (by rw [List.length_map]; rfl) (by rw [List.length_map]; rfl) g1 g2 g3 g4 gr f1 _ _ fr (fun h tk m Z F N e1 e2 e3 => fin h tk m Z F N e1 e2 e3)
end Mine
end
section
open PySem PySem.W PyProof.Rows
set_option maxRecDepth 100000
set_option maxHeartbeats 0
namespace Mine
theorem said_of (h : PySem.Challenge.rw_xg0056_01.row.wellSaid = true) : PySem.Challenge.rw_xg0056_01.wellSaid = true := by
  unfold OpenLaw.wellSaid
  iterate 18 (refine look_both ?_ (by decide +kernel))
  exact h
theorem law_of (h : PySem.Challenge.rw_xg0056_01.row.Holds) : PySem.Challenge.rw_xg0056_01.Holds := ⟨said_of h.1, h⟩
end Mine
end
section
open PySem PySem.W PyProof.Rows PyProof.V PySem.Spec PySem.SeqAt
set_option maxRecDepth 100000
namespace Mine
set_option maxHeartbeats 0 in
theorem lawT : PySem.Challenge.rw_xg0056_01.Holds := law_of (hd (by
  k_go0
  all_goals try k_fold
  iterate 40 (focus (first | ((first | ((rename (∀ (f : Flow) (s : Shared), _ → _) => hq); (with_reducible refine Mine.cutQ hq ?_); clear hq; (rename (Flow → Shared → Prop) => qq); clear qq) | (with_reducible refine Mine.cutQ (by with_reducible assumption) ?_)); (try dsimp only)) | ((first | (k_unfold; (try dsimp only)) | (k_end; kc_close) | walk1 | (dsimp only; walk1) | (leave1; (try dsimp only)) | fail "no step"); (try ((with_reducible show wpAny _ _ (exec _ _) (fun _ _ => _) _ _); refine Mine.gen_Q ?_; intro QQ9 hQ9)))))
  refine' Spec.use2 (cellsS _ _ _ _ _ _ _ _ _ _ _ [100, 6, 10, 25, 4, 35, 0, 4, 5520, 20] _ _ _ ?h1 ?h2 ?h3 ?h4 ?h5 ?h6 ?h7) ?B ?F ?X ?N ?T rfl ?d ?u (k4_4 ?_)
  case N => k_asm
  case h1 => k_mem
  case h2 => k_mem
  case h3 => assumption
  case h4 => repeat' constructor
  case h5 => rw [List.length_take]; omega
  case h6 => rfl
  case h7 => decide
  case B => k_asm
  case F => k_asm
  case X => k_asm
  case T => k_asm
  case d => ktr_room
  case u => ktr_units
  intro D n cs ks hD hcs hks hkb h4 tk4 F4 N4
  have hDA := neAll_of hD
  dsimp only [NeAll] at hDA
  obtain ⟨ps, rfl, hps⟩ := ivs_of hcs
  have hp10 : ps.length = 10 := by rw [← hps] at hks; simpa using hks
  obtain ⟨c0, c1, c2, c3, c4, c5, c6, c7, c8, c9, rfl⟩ := ten hp10
  iterate 2 (focus (first | ((first | ((rename (∀ (f : Flow) (s : Shared), _ → _) => hq); (with_reducible refine Mine.cutQ hq ?_); clear hq; (rename (Flow → Shared → Prop) => qq); clear qq) | (with_reducible refine Mine.cutQ (by with_reducible assumption) ?_)); (try dsimp only)) | ((first | (k_unfold; (try dsimp only)) | (k_end; kc_close) | walk1 | (dsimp only; walk1) | (leave1; (try dsimp only)) | fail "no step"); (try ((with_reducible show wpAny _ _ (exec _ _) (fun _ _ => _) _ _); refine Mine.gen_Q ?_; intro QQ9 hQ9)))))
  rename Fr _ _ _ _ => FE
  rename News _ _ _ _ => NE
  refine' lawAll _ _ _ _ _ _ _ _ _ _ _ _ _ _ _ ?B ?X ?T D n _ _ c0.1 c1.1 c2.1 c3.1 c4.1 c5.1 c6.1 c7.1 c8.1 c9.1 c0.2 c1.2 c2.2 c3.2 c4.2 c5.2 c6.2 c7.2 c8.2 c9.2 FE (newsDrop23 NE) ?hL ?d1 ?d2 ?d3 ?d4 ?d5 (by assumption) ?h2 ?hk ?fin
  case B => k_asm
  case X => k_asm
  case T => k_asm
  case hL => omega
  case d1 => omega
  case d2 => omega
  case d3 => omega
  case d4 => omega
  case d5 => omega
  case h2 => with_unfolding_all assumption
  case hk =>
    intro k hk
    exact hkb k (by rw [← hps]; exact hk)
  case fin =>
    rintro h tk m Z FF NN ⟨p1, m1⟩ ⟨p2, m2⟩ ⟨p3, m3⟩
    dsimp only
    iterate 3 (focus (first | ((first | ((rename (∀ (f : Flow) (s : Shared), _ → _) => hq); (with_reducible refine Mine.cutQ hq ?_); clear hq; (rename (Flow → Shared → Prop) => qq); clear qq) | (with_reducible refine Mine.cutQ (by with_reducible assumption) ?_)); (try dsimp only)) | ((first | (k_unfold; (try dsimp only)) | (k_end; kc_close) | walk1 | (dsimp only; walk1) | (leave1; (try dsimp only)) | fail "no step"); (try ((with_reducible show wpAny _ _ (exec _ _) (fun _ _ => _) _ _); refine Mine.gen_Q ?_; intro QQ9 hQ9)))))))
end Mine
end
theorem PySem.Challenge.cw_xg0056_01_holds : PySem.Challenge.rw_xg0056_01.Holds :=
  Mine.lawT
