import PyProof.Rows.All
import Wide.All
import OpenK.AllK
import Wide.FinOn
import PySem.Challenge.RW_md0003_01
set_option Elab.async false
set_option maxRecDepth 100000
set_option linter.unusedVariables false

section
open PySem PySem.W PyProof.Rows PySem.Calls
set_option maxRecDepth 100000
namespace Mine
open Sem (wp)
/-- codes that hold a bytearray exported while they run -/
def dirtyIds : List String := Builtin.Bytes.decodersThatHold ++ ["bytearray.__contains__", "bytearray.__mod__", "bytearray.__rmod__", "_struct.pack_into.held", "bytearray.find.held"]
def dirty : Code → Bool
  | .builtin id _ => dirtyIds.contains id
  | _ => false
def CleanB (Γ : PySem.Ctx) : Prop := ∀ x ∈ Γ.below, dirty x.1 = false
def Clean (Γ : PySem.Ctx) : Prop := dirty Γ.code = false ∧ CleanB Γ
/-- the tree ends well, and raises nothing, in every context within A whose stack holds no exporter -/
def wpR {α : Type} (M : Model) (A : Around) (t : Sem α) (Q : α → Shared → Prop) (s : Shared) : Prop :=
  ∀ Γ p, Γ.In A → Clean Γ → wp M Γ t (fun a _ s' => Q a s') (fun _ _ _ => False) p s
section
variable {α β : Type} {M : Model} {A : Around} {s : Shared}
theorem R_any {t : Sem α} {Q : α → Shared → Prop} (h : wpAny M A t Q (fun _ _ => False) s) : wpR M A t Q s := fun Γ p hΓ _ => h Γ p hΓ
theorem R_pure {a : α} {Q : α → Shared → Prop} (h : Q a s) : wpR M A (pure a) Q s := fun _ _ _ _ => h
theorem R_mono {t : Sem α} {Q Q' : α → Shared → Prop} (h : wpR M A t Q s) (hQ : ∀ a s, Q a s → Q' a s) : wpR M A t Q' s :=
  fun Γ p hΓ hc => Sem.wp_mono M Γ t (fun a _ s => hQ a s) (fun _ _ _ h => h) p s (h Γ p hΓ hc)
theorem R_bind {m : Sem α} {f : α → Sem β} {Q : β → Shared → Prop} (h : wpR M A m (fun a s' => wpR M A (f a) Q s') s) : wpR M A (m >>= f) Q s := fun Γ p hΓ hc => by
  rw [Sem.wp_bind']
  exact Sem.wp_mono M Γ m (fun a p' s' h' => h' Γ p' hΓ hc) (fun _ _ _ h' => h') p s (h Γ p hΓ hc)
theorem R_bindA {m : Sem α} {f : α → Sem β} {Q : β → Shared → Prop} (h : wpAny M A m (fun a s' => wpR M A (f a) Q s') (fun _ _ => False) s) : wpR M A (m >>= f) Q s := R_bind (R_any h)
theorem R_wp_done {t : Sem Fin} {R : Result → Shared → Prop} (h : wpR M callerA t (fun fin s' => ∃ f, fin = .done f ∧ R (.ok f) s') s) (p : Pos) :
    wp M ⟨.builtin "claim.caller" {}, none, none, [], none⟩ t (Sem.finPost M ⟨.builtin "claim.caller" {}, none, none, [], none⟩ R) (fun e _ s' => R (.error e) s') p s := by
  refine Sem.wp_mono M _ t (fun fin p' s' h' => ?_) (fun _ _ _ h' => h'.elim) p s (h _ p caller_in ⟨by decide +kernel, fun x hx => (nomatch hx)⟩)
  obtain ⟨f, rfl, hf⟩ := h'
  exact hf
end
theorem thread_endsR {prog : Program} {w : World} {t : Sem Fin} {s : Shared} {R : Result → Shared → Prop} (hreg : s.asleep)
    (h : wpR (model prog w) callerA t (fun fin s' => ∃ f, fin = .done f ∧ (R (.ok f) s' ∧ leftWithCleanup s'.gens = false)) s) :
    ∃ n r s' s'', runN (denote table) prog w n s ⟨t, .builtin "claim.caller" {}, default, []⟩ = .halted (outcomeOf r) s' ∧
      schedN (denote table) prog w n (.single s ⟨t, .builtin "claim.caller" {}, default, []⟩) = .halted (outcomeOf r) s' ∧ s'.forget = s''.forget ∧ R r s'' := by
  obtain ⟨n, r, s₁, s₂, hs, hn, hfo, hR⟩ := wp_halts_full (M := model prog w) (R := R) hreg (R_wp_done (R := fun r s' => R r s' ∧ leftWithCleanup s'.gens = false) h default)
  exact ⟨n, r, s₂, s₁, hn, hs, hfo, hR⟩
theorem callFrom_of_specR {c : ClaimW} {tree : List Value → Sem Fin} {w : World} {s : Shared} {free : Addr → Prop} {gens : Prop} {kept : Heap → Prop} (hz : s.asleep) (hgens : s.gens = #[])
    (hspec : ∀ args, c.pre args = true → WData.layableAll args = true →
      ∀ ord : List DictEntry → List DictEntry, (∀ l, (ord l).Perm l) →
      ∃ vs s₁, layAllW c.records (classAt s.heap) w.params ord args s = some (vs, s₁) ∧
        wpR (model c.prog w) callerA (tree vs) (fun fin s' => ∃ f, fin = .done f ∧ (c.Ends s args vs s₁ (.ok f) s' ∧ s'.os = s.os ∧ AllBare s'.gens ∧ kept s'.heap)) s₁) :
    c.CallFrom (fun vs => ⟨tree vs, .builtin "claim.caller" {}, default, []⟩) w free gens kept s := by
  intro args hpre hlay ord hord
  obtain ⟨vs, s₁, hlaid, hcode⟩ := hspec args hpre hlay ord hord
  have hal := layAllW_rest _ _ _ hlaid
  obtain ⟨k, r, s', s'', hrun, hsched, hfo, hcase, hos, hkp⟩ := thread_endsR (prog := c.prog) (w := w) (t := tree vs) (s := s₁)
    (R := fun r s' => c.Ends s args vs s₁ r s' ∧ s'.os = s.os ∧ kept s'.heap)
    (Shared.asleep_of_life hal.2.2.2 hz)
    (R_mono hcode (by
      rintro fin s' ⟨f, e, h1, h2, h3, h4⟩
      exact ⟨f, e, ⟨h1, h2, h4⟩, leftWithCleanup_false_of_bare h3⟩))
  obtain ⟨eh, _, _, eo, _⟩ := Shared.forget_eq hfo
  have hcase := hcase.congr eh
  have hkp : kept s'.heap := by rw [eh]; exact hkp
  rw [← eo] at hos
  have hlife : s'.heap.life = s.heap.life := (runN_life _ _ _ hrun).trans hal.2.2.2
  refine ⟨vs, s₁, hlaid, k, _, s', hsched, ?_, (fun _ i x hx => by rw [hgens] at hx; simp at hx), hkp, by rw [hlife], Shared.rest_eq hos⟩
  rcases hcase with ⟨v, rfl, d1, d2, d3, d4, d5⟩ | ⟨e, ob, cls, rfl, d1, d2, d3, d4, d5⟩
  · exact .inl ⟨v, rfl, d1, d2, d3, fun b o y _ => d4 b o y, d5⟩
  · exact .inr ⟨e, ob, cls, rfl, d1, d2, d3, d4, fun b o y _ => d5 b o y⟩
/-- what is left of a law behind its head: the call, over clean contexts -/
abbrev WalkR (q : Program) (loose : List Str) (XP : (Str → Option Value) → Heap → Prop) (YP : World → Heap → Prop) (r : RowW) (d : DefRec) (kwd : List (Str × Expr)) : Prop :=
  ∀ (w : World) (s₀ s₁ : Shared) (mg mb : Str → Option Value), Ground q loose r.records XP w s₀ mg mb s₁.heap → YP w s₁.heap → ∀ (a : Addr) (o : Obj) (pm cd doc dV kV : Value), s₁.heap.get? a = some o →
    o.data = .func { docDef d.name d.params d.body d.scope pm cd doc with defaults := dV, kwdefaults := kV } → s₁.heap.CodeRec cd d.name → Dflts mg s₁.heap d.params kwd dV kV → mg d.name = some (.ref a) → s₁.gens = #[] →
    ∀ (args : List WData) (vals : List Value) (as : List Addr), r.claim.pre args = true → WData.layableAll args = true → ReadsAllW r.records (classAt s₀.heap) s₁.heap vals args as → WellAll w.params s₁.heap vals args → (∀ a ∈ as, (a == sysModules) = false) →
      wpR (model r.prog w) callerA (PySem.call (.ref a) vals) (fun v s' => GoodWG r.claim (classAt s₀.heap) (ExcName.means s₀.heap) args s₁ (.ok (.ret v)) s') s₁
theorem holdsR {r : OpenRow} {q : Program} {loose : List Str} {Xt : Shared → Bool} {XP : (Str → Option Value) → Heap → Prop} {α : Type} {Yf : Shared → α} {Ya : World → α} {YP : World → Heap → Prop} {d : DefRec} {kwd : List (Str × Expr)} {N : Nat}
    (left : LeftO r.prog q loose Xt Yf Ya N) (hY : ∀ w s, Yf s = Ya w → YP w s.heap) (hYk : ∀ w h h', YP w h → (∀ b o, h.get? b = some o → h'.get? b = some o) → YP w h')
    (hX : ∀ s, Xt s = true → XP (s.heap.nsMap mainGlobals) s.heap) (hXk : ∀ mg h h', XP mg h → (∀ b o, h.get? b = some o → h'.get? b = some o) → XP mg h')
    (hdef : defOf q r.name = some (d, kwd)) (hp : r.prog.theDef r.name = some (d.params, d.body, d.scope)) (hk : kwWritten? d.params.kwonlyargs d.params.kw_defaults = some kwd) (hRf : ∀ s, Xt s = true → RecFacts r.records s.heap) (hwr : (!r.writes || r.records.isEmpty) = true)
    (k1 : r.wellSaid = true) (ok : (chainsOk q && opensWell r.prog && (frees r.toRowW && r.within.isEmpty)) = true) (hb : r.prog.bare) (hw : r.toRowW.promised)
    (call : WalkR q loose XP YP r.toRowW d kwd) : r.Holds := by
  refine ⟨k1, hw, ?_⟩
  obtain ⟨ok, k5⟩ := Bool.and_eq_true_iff.mp ok
  obtain ⟨hch, o1⟩ := Bool.and_eq_true_iff.mp ok
  obtain ⟨k5, k6⟩ := Bool.and_eq_true_iff.mp k5
  obtain ⟨hsame, hu, ha, hap, hm⟩ := frees_parts k5
  refine ⟨⟨hb, o1, by show r.makers.map _ = []; rw [hm]; rfl⟩, hw.witness, fun w => ⟨(left.behind hX hch w).1, fun s' hs' => ?_⟩⟩
  obtain ⟨s₀, hf, hg0, s, hT, hz, hgens, hg, G00, y⟩ := (left.behind (XP := fun mg h => XP mg h ∧ RecFacts r.records h) (fun s hs => ⟨hX s hs, hRf s hs⟩) hch w).2 s' hs'
  have G0 : Ground q loose [] XP w s (s.heap.nsMap mainGlobals) (s.heap.nsMap builtinsNs) s.heap := ⟨G00.T, G00.B, G00.D, G00.TE, G00.TD, G00.W, G00.X.1, G00.cls, G00.has, G00.apart, G00.once, G00.K⟩
  have RF := G00.X.2
  have hT' := hT
  refine ⟨s₀, hf, hg0, s, hT, (fun n hn => by
    obtain rfl : n = r.name := by split at hn <;> simp_all
    exact pinned_of_view hg G0 hdef hp hk), RF.1, RF.2.1, ?_⟩
  have hgens : s.gens = #[] := Array.eq_empty_of_size_eq_zero (beq_iff_eq.mp hgens)
  have G : Ground q loose r.records XP w s _ _ s.heap := RF.ground G0
  refine callFrom_of_specR (c := r.claim) hz hgens fun args hpre hlay ord hord => ?_
  obtain ⟨⟨vs, s₁⟩, hlaid⟩ := Option.isSome_iff_exists.mp (layAllW_isSome (P := w.params) (ord := ord) G.has args r.args s (pre_splitW hpre).1)
  have keeps := layAllW_keeps _ _ _ hlaid
  have hal := layAllW_rest _ _ _ hlaid
  obtain ⟨as, hrd, hin, hold⟩ := reads_layAllW hord _ _ _ hlaid hlay s₁.heap (fun _ _ e => e)
  have L : Laid r.records w s s₁ args vs as := ⟨⟨ord, hord, hlaid⟩, hrd, hin, hold, keeps, hal.1.trans hgens, hal.2.2.1⟩
  have G₁ := G.keeps hXk keeps
  obtain ⟨a, o, pm, cd, doc, dV, kV, h1, h2, h3, h4, h5⟩ := G₁.fn hdef
  have h := call w s s₁ _ _ G₁ (hYk _ _ _ (hY w s y) keeps) a o pm cd doc dV kV h2 h3 h4 h5 (defOf_name hdef ▸ h1) L.gens args vs as hpre hlay L.reads L.well (L.low G.low)
  have hi := ident_freeW hu ha hap
  have hwi : r.claim.within = [] := List.isEmpty_iff.mp k6
  refine ⟨vs, s₁, hlaid, ?_⟩
  refine R_bindA (wpAny_nsGet G₁.T.g ?_)
  rw [h1]
  refine R_bind (R_mono h (fun v s' g => R_pure ⟨_, rfl, have z := g.laid (c := r.claim) hsame hwi hi L; ⟨z.1, z.2.1, z.2.2, fun q => ⟨namesKept_of hT' hg _ keeps g.2.1.old, noTable hwr q⟩⟩⟩))
end Mine
end

section
open PySem PySem.W PyProof.Rows
set_option maxRecDepth 100000
set_option maxHeartbeats 8000000
namespace MineHead.PySem.W
theorem holds_open {r : OpenRow} {q : Program} {loose : List Str} {Xt : Shared → Bool} {XP : (Str → Option Value) → Heap → Prop} {α : Type} {Yf : Shared → α} {Ya : World → α} {YP : World → Heap → Prop} {d : DefRec} {kwd : List (Str × Expr)} {N : Nat}
    (left : LeftO r.prog q loose Xt Yf Ya N) (hY : ∀ w s, Yf s = Ya w → YP w s.heap) (hYk : ∀ w h h', YP w h → (∀ b o, h.get? b = some o → h'.get? b = some o) → YP w h')
    (hX : ∀ s, Xt s = true → XP (s.heap.nsMap mainGlobals) s.heap) (hXk : ∀ mg h h', XP mg h → (∀ b o, h.get? b = some o → h'.get? b = some o) → XP mg h')
    (hdef : defOf q r.name = some (d, kwd)) (hp : r.prog.theDef r.name = some (d.params, d.body, d.scope)) (hk : kwWritten? d.params.kwonlyargs d.params.kw_defaults = some kwd) (hRf : ∀ s, Xt s = true → RecFacts r.records s.heap) (hwr : (!r.writes || r.records.isEmpty) = true)
    (k1 : r.wellSaid = true) (ok : (chainsOk q && opensWell r.prog && (frees r.toRowW && r.within.isEmpty)) = true) (hb : r.prog.bare) (hw : r.toRowW.promised)
    (call : Mine.WalkR q loose XP YP r.toRowW d kwd) : r.Holds :=
  Mine.holdsR left hY hYk hX hXk hdef hp hk hRf hwr k1 ok hb hw call
end MineHead.PySem.W
namespace MineHead
open_top hd for PySem.Challenge.rw_md0003_01
end MineHead
end

section
namespace Mine
/-- the octets that one number of the script lays -/
def runOf (n : Int) : List Int := if n.fmod 4 = 0 then [0] else List.replicate (if n.fmod 5 = 0 then (n.fdiv 4).fmod 300 + 1 else 1).toNat ((n.fdiv 4).fmod 255 + 1)
def Oct (ks : List Int) : Prop := ∀ k ∈ ks, 0 ≤ k ∧ k < 256
def Pos1 (ks : List Int) : Prop := ∀ k ∈ ks, 0 < k ∧ k < 256
theorem Oct.append {a b : List Int} (ha : Oct a) (hb : Oct b) : Oct (a ++ b) := fun k hk => (List.mem_append.mp hk).elim (ha k) (hb k)
theorem Pos1.append {a b : List Int} (ha : Pos1 a) (hb : Pos1 b) : Pos1 (a ++ b) := fun k hk => (List.mem_append.mp hk).elim (ha k) (hb k)
theorem Pos1.oct {a : List Int} (h : Pos1 a) : Oct a := fun k hk => ⟨by have := h k hk; omega, (h k hk).2⟩
theorem Pos1.nil : Pos1 [] := fun _ h => nomatch h
theorem Oct.nil : Oct [] := fun _ h => nomatch h
theorem Pos1.one {k : Int} (h0 : 0 < k) (h1 : k < 256) : Pos1 [k] := fun x hx => by rw [List.mem_singleton.mp hx]; exact ⟨h0, h1⟩
theorem fmod_bounds (a b : Int) (hb : 0 < b) : 0 ≤ a.fmod b ∧ a.fmod b < b := ⟨Int.fmod_nonneg_of_pos a hb, Int.fmod_lt_of_pos a hb⟩
theorem runOf_oct (n : Int) : Oct (runOf n) := by
  unfold runOf
  split
  · intro k hk; rw [List.mem_singleton.mp hk]; omega
  · intro k hk
    rw [List.eq_of_mem_replicate hk]
    have := fmod_bounds (n.fdiv 4) 255 (by omega)
    omega
theorem runOf_len (n : Int) : (runOf n).length ≤ 300 := by
  unfold runOf
  split
  · simp
  · rw [List.length_replicate]
    have := fmod_bounds (n.fdiv 4) 300 (by omega)
    split <;> omega
theorem row_oct (ns : List Int) : Oct (ns.flatMap runOf) := fun k hk => by
  obtain ⟨n, _, h⟩ := List.mem_flatMap.mp hk
  exact runOf_oct n k h
theorem row_len (ns : List Int) : (ns.flatMap runOf).length ≤ 300 * ns.length := by
  induction ns with
  | nil => simp
  | cons n r ih =>
    have := runOf_len n
    rw [List.flatMap_cons, List.length_append, List.length_cons]
    omega
/-- the stretches between noughts: those that are closed, and the last -/
def splitStep (st : List (List Int) × List Int) (c : Int) : List (List Int) × List Int := if c = 0 then (st.1 ++ [st.2], []) else (st.1, st.2 ++ [c])
def splitZ (row : List Int) : List (List Int) × List Int := row.foldl splitStep ([], [])
theorem splitZ_snoc (r : List Int) (c : Int) : splitZ (r ++ [c]) = splitStep (splitZ r) c := by simp [splitZ, List.foldl_append]
/-- a stretch cut into parts of 254, each behind its size and one -/
def cutN (p : List Int) : List Int := if _h : 254 ≤ p.length then 255 :: (p.take 254 ++ cutN (p.drop 254)) else ((p.length : Int) + 1) :: p
termination_by p.length
decreasing_by rw [List.length_drop]; omega
theorem cutN_small {p : List Int} (h : p.length < 254) : cutN p = ((p.length : Int) + 1) :: p := by
  rw [cutN, dif_neg (by omega)]
theorem cutN_big {p q : List Int} (h : p.length = 254) : cutN (p ++ q) = 255 :: (p ++ cutN q) := by
  rw [cutN, dif_pos (by rw [List.length_append]; omega), List.take_left' h, List.drop_left' h]
def blk (b : List Int) : List Int := ((b.length : Int) + 1) :: b
def zed (b : List Int) : List Int := b ++ if b.length < 254 then [0] else []
/-- what encode keeps between the octets: the blocks written, the open one, the flag -/
def encStep (st : List (List Int) × List Int × Bool) (c : Int) : List (List Int) × List Int × Bool :=
  if c = 0 then (st.1 ++ [st.2.1], [], true) else if st.2.1.length = 253 then (st.1 ++ [st.2.1 ++ [c]], [], false) else (st.1, st.2.1 ++ [c], st.2.2)
def enc (row : List Int) : List (List Int) × List Int × Bool := row.foldl encStep ([], [], true)
theorem enc_snoc (r : List Int) (c : Int) : enc (r ++ [c]) = encStep (enc r) c := by simp [enc, List.foldl_append]
structure EncOk (pre : List Int) (bs : List (List Int)) (cur : List Int) (fz : Bool) : Prop where
  dec : bs.flatMap zed ++ cur = pre
  blocks : ∀ b ∈ bs, b.length ≤ 254 ∧ Pos1 b
  small : cur.length ≤ 253
  pos : Pos1 cur
  flag : fz = false → ∃ bs' b, bs = bs' ++ [b] ∧ b.length = 254
  cut : ∀ t, bs.flatMap blk ++ cutN (cur ++ t) = (splitZ pre).1.flatMap cutN ++ cutN ((splitZ pre).2 ++ t)
  last : (splitZ pre).2.length < 254 → cur = (splitZ pre).2 ∧ fz = true
  len : (bs.flatMap blk).length + cur.length ≤ 2 * pre.length
theorem snoc_ind {α : Type} {P : List α → Prop} (h0 : P []) (h1 : ∀ l a, P l → P (l ++ [a])) (l : List α) : P l := by
  have h : ∀ l : List α, P l.reverse := fun l => by
    induction l with
    | nil => exact h0
    | cons a l ih => rw [List.reverse_cons]; exact h1 _ _ ih
  have := h l.reverse
  rwa [List.reverse_reverse] at this
theorem encOk (row : List Int) : Oct row → EncOk row (enc row).1 (enc row).2.1 (enc row).2.2 := by
  induction row using snoc_ind with
  | h0 => exact fun _ => ⟨rfl, (fun _ h => nomatch h), by decide, Pos1.nil, (fun h => nomatch h), fun t => rfl, fun _ => ⟨rfl, rfl⟩, Nat.le_refl _⟩
  | h1 l c ih =>
    intro ho
    have ih := ih fun k hk => ho k (List.mem_append_left _ hk)
    have hc := ho c (List.mem_append_right _ (.head _))
    rw [enc_snoc]
    generalize enc l = st at ih ⊢
    obtain ⟨bs, cur, fz⟩ := st
    dsimp only at ih
    unfold encStep
    dsimp only
    by_cases h0 : c = 0
    · subst h0
      rw [if_pos rfl]
      dsimp only
      have e2 : splitZ (l ++ [0]) = ((splitZ l).1 ++ [(splitZ l).2], []) := by rw [splitZ_snoc]; rfl
      have h2 := ih.small
      have hz : zed cur = cur ++ [0] := by unfold zed; rw [if_pos (by omega)]
      have hcut := ih.cut []
      rw [List.append_nil, List.append_nil, cutN_small (by omega : cur.length < 254)] at hcut
      refine ⟨?_, ?_, by decide, Pos1.nil, (fun h => nomatch h), fun t => ?_, ?_, ?_⟩
      · rw [List.flatMap_append, List.flatMap_singleton, hz, List.append_nil, ← List.append_assoc, ih.dec]
      · intro b hb
        rcases List.mem_append.mp hb with hb | hb
        · exact ih.blocks b hb
        · rw [List.mem_singleton.mp hb]; exact ⟨by omega, ih.pos⟩
      · rw [e2]
        dsimp only
        rw [List.flatMap_append, List.flatMap_append, List.flatMap_singleton, List.flatMap_singleton, List.nil_append]
        show _ ++ ((cur.length : Int) + 1) :: cur ++ _ = _
        rw [hcut]
      · rw [e2]; exact fun _ => ⟨rfl, rfl⟩
      · have := ih.len
        rw [List.flatMap_append, List.flatMap_singleton, List.length_append, List.length_append]
        show _ + (cur.length + 1) + 0 ≤ _
        simp only [List.length_cons, List.length_nil]
        omega
    · rw [if_neg h0]
      have hp : Pos1 [c] := Pos1.one (by omega) hc.2
      have e2 : splitZ (l ++ [c]) = ((splitZ l).1, (splitZ l).2 ++ [c]) := by rw [splitZ_snoc]; unfold splitStep; rw [if_neg h0]
      by_cases h3 : cur.length = 253
      · rw [if_pos h3]
        dsimp only
        have hl4 : (cur ++ [c]).length = 254 := by rw [List.length_append, List.length_singleton]; omega
        have hz : zed (cur ++ [c]) = cur ++ [c] := by unfold zed; rw [if_neg (by omega), List.append_nil]
        refine ⟨?_, ?_, by decide, Pos1.nil, fun _ => ⟨_, _, rfl, hl4⟩, fun t => ?_, ?_, ?_⟩
        · rw [List.flatMap_append, List.flatMap_singleton, hz, List.append_nil, ← List.append_assoc, ih.dec]
        · intro b hb
          rcases List.mem_append.mp hb with hb | hb
          · exact ih.blocks b hb
          · rw [List.mem_singleton.mp hb]; exact ⟨by omega, ih.pos.append hp⟩
        · have hcut := ih.cut ([c] ++ t)
          rw [← List.append_assoc, ← List.append_assoc, cutN_big hl4] at hcut
          rw [e2]
          dsimp only
          rw [List.flatMap_append, List.flatMap_singleton, List.nil_append, ← hcut, List.append_assoc]
          have e : blk (cur ++ [c]) = 255 :: (cur ++ [c]) := by unfold blk; rw [hl4]; rfl
          rw [e]
          rfl
        · rw [e2]
          dsimp only
          intro hlt
          rw [List.length_append, List.length_singleton] at hlt
          obtain ⟨e, _⟩ := ih.last (by omega)
          rw [e] at h3
          omega
        · have := ih.len
          rw [List.flatMap_append, List.flatMap_singleton, List.length_append, List.length_append]
          show _ + ((cur ++ [c]).length + 1) + 0 ≤ _
          simp only [List.length_cons, List.length_nil]
          omega
      · rw [if_neg h3]
        dsimp only
        have h2 := ih.small
        refine ⟨?_, ih.blocks, by rw [List.length_append, List.length_singleton]; omega, ih.pos.append hp, ih.flag, fun t => ?_, ?_, ?_⟩
        · rw [← List.append_assoc, ih.dec]
        · have hcut := ih.cut ([c] ++ t)
          rw [← List.append_assoc, ← List.append_assoc] at hcut
          rw [e2]
          exact hcut
        · rw [e2]
          dsimp only
          intro hlt
          rw [List.length_append, List.length_singleton] at hlt
          obtain ⟨e, f⟩ := ih.last (by omega)
          exact ⟨by rw [e], f⟩
        · have := ih.len
          simp only [List.length_append, List.length_cons, List.length_nil] at this ⊢
          omega
/-- the blocks that are written in the end -/
def fin (row : List Int) : List (List Int) := if (enc row).2.1 ≠ [] ∨ (enc row).2.2 = true then (enc row).1 ++ [(enc row).2.1] else (enc row).1
def decB : List (List Int) → List Int
  | [] => []
  | [b] => b
  | b :: c :: r => zed b ++ decB (c :: r)
theorem decB_snoc (bs : List (List Int)) (c : List Int) : decB (bs ++ [c]) = bs.flatMap zed ++ c := by
  induction bs with
  | nil => rfl
  | cons b r ih =>
    cases r with
    | nil => simp [decB]
    | cons d r =>
      rw [List.cons_append, List.cons_append, decB, ← List.cons_append, ih]
      simp only [List.flatMap_cons, List.append_assoc]
structure FinOk (row : List Int) (BS : List (List Int)) : Prop where
  dec : decB BS = row
  blocks : ∀ b ∈ BS, b.length ≤ 254 ∧ Pos1 b
  some : BS ≠ []
  due : (splitZ row).2.length < 254 → BS.flatMap blk = (splitZ row).1.flatMap cutN ++ cutN (splitZ row).2
  len : (BS.flatMap blk).length ≤ 2 * row.length + 1
theorem finOk {row : List Int} (ho : Oct row) : FinOk row (fin row) := by
  have E := encOk row ho
  unfold fin
  generalize enc row = st at E ⊢
  obtain ⟨bs, cur, fz⟩ := st
  dsimp only at E ⊢
  have h2 := E.small
  split
  · refine ⟨by rw [decB_snoc, E.dec], ?_, by simp, fun hl => ?_, ?_⟩
    · intro b hb
      rcases List.mem_append.mp hb with hb | hb
      · exact E.blocks b hb
      · rw [List.mem_singleton.mp hb]; exact ⟨by omega, E.pos⟩
    · have hcut := E.cut []
      rw [List.append_nil, List.append_nil, cutN_small (by omega : cur.length < 254)] at hcut
      rw [List.flatMap_append, List.flatMap_singleton]
      exact hcut
    · have := E.len
      rw [List.flatMap_append, List.flatMap_singleton, List.length_append]
      show _ + (cur.length + 1) ≤ _
      omega
  · rename_i hn
    rw [not_or] at hn
    have hcur : cur = [] := Classical.not_not.mp hn.1
    have hfz : fz = false := by cases fz; rfl; exact absurd rfl hn.2
    obtain ⟨bs', b, rfl, hb⟩ := E.flag hfz
    subst hcur
    have hd := E.dec
    rw [List.append_nil, List.flatMap_append, List.flatMap_singleton] at hd
    have hz : zed b = b := by unfold zed; rw [if_neg (by omega), List.append_nil]
    rw [hz] at hd
    refine ⟨by rw [decB_snoc, hd], E.blocks, by simp, fun hl => ?_, ?_⟩
    · obtain ⟨_, e⟩ := E.last hl
      rw [e] at hfz; cases hfz
    · have := E.len
      rw [List.length_nil] at this
      omega
theorem blk_pos {b : List Int} (h : b.length ≤ 254 ∧ Pos1 b) : Pos1 (blk b) := fun k hk => by
  rcases List.mem_cons.mp hk with rfl | hk
  · have := h.1; omega
  · exact h.2 k hk
theorem blks_pos {bs : List (List Int)} (h : ∀ b ∈ bs, b.length ≤ 254 ∧ Pos1 b) : Pos1 (bs.flatMap blk) := fun k hk => by
  obtain ⟨b, hb, hk⟩ := List.mem_flatMap.mp hk
  exact blk_pos (h b hb) k hk
def tot (ps : List (List Int)) : Nat := (ps.map fun p => 2 * p.length + 1).sum
theorem tot_snoc (ps : List (List Int)) (p : List Int) : tot (ps ++ [p]) = tot ps + (2 * p.length + 1) := by simp [tot]
theorem split_tot (row : List Int) : tot ((splitZ row).1 ++ [(splitZ row).2]) ≤ 2 * row.length + 1 := by
  induction row using snoc_ind with
  | h0 => decide
  | h1 l c ih =>
    rw [splitZ_snoc]
    unfold splitStep
    split
    · dsimp only
      rw [tot_snoc]
      simp only [List.length_append, List.length_cons, List.length_nil]
      omega
    · dsimp only
      rw [tot_snoc] at ih ⊢
      simp only [List.length_append, List.length_cons, List.length_nil]
      omega
theorem split_oct (row : List Int) : Oct row → (∀ p ∈ (splitZ row).1, Oct p) ∧ Oct (splitZ row).2 := by
  induction row using snoc_ind with
  | h0 => exact fun _ => ⟨(fun _ h => nomatch h), Oct.nil⟩
  | h1 l c ih =>
    intro ho
    obtain ⟨h1, h2⟩ := ih fun k hk => ho k (List.mem_append_left _ hk)
    have hc := ho c (List.mem_append_right _ (.head _))
    rw [splitZ_snoc]
    unfold splitStep
    split
    · refine ⟨fun p hp => ?_, Oct.nil⟩
      rcases List.mem_append.mp hp with hp | hp
      · exact h1 p hp
      · rw [List.mem_singleton.mp hp]; exact h2
    · exact ⟨h1, h2.append fun x hx => by rw [List.mem_singleton.mp hx]; exact hc⟩
end Mine
end

section
open PySem PySem.W PyProof.Rows PySem.Calls
set_option maxRecDepth 100000
namespace Mine
open Sem (wp)
/-- a code ends well, raising nothing, over every clean stack -/
def codeR (M : Model) (A : Around) (c : Code) (R : Flow → Shared → Prop) (s : Shared) : Prop :=
  ∀ Γ p, Γ.code = c → Γ.Below A → CleanB Γ → wpCode M Γ (fun r s' => ∃ f, r = .ok f ∧ R f s') p s
section
variable {α β : Type} {M : Model} {A : Around} {s : Shared}
theorem R_holding {vs : List Value} {m : Sem α} {Q : α → Shared → Prop} (h : wpR M A m Q s) : wpR M A (holding vs m) Q s :=
  fun Γ p hΓ hc => by rw [Sem.wp_holding]; exact h Γ p hΓ hc
theorem R_keep {vs : List Value} {m : Sem α} {Q : α → Shared → Prop} (h : wpR M A m Q s) : wpR M A (m.keep vs) Q s :=
  fun Γ p hΓ hc => by rw [Sem.wp_keep]; exact h Γ p hΓ hc
theorem R_onRaise {m : Sem α} {k : Value → Sem Unit} {Q : α → Shared → Prop} (h : wpR M A m Q s) : wpR M A (m.onRaise k) Q s := fun Γ p hΓ hc => by
  rw [Sem.wp_onRaise]
  exact Sem.wp_mono M Γ m (fun _ _ _ h' => h') (fun _ _ _ h' => h'.elim) p s (h Γ p hΓ hc)
theorem R_standAt {pos : Pos} {Q : Unit → Shared → Prop} (h : Q () s) : wpR M A (standAt pos) Q s := R_any (wpAny_standAt h)
theorem R_point {Q : Unit → Shared → Prop} (h : Q () s) : wpR M A point Q s := R_any (wpAny_point h)
theorem R_eq {t : Sem α} {a : α} {Q : α → Shared → Prop} (e : t = pure a) (h : Q a s) : wpR M A t Q s := R_any (wpAny_of_eq e h)
theorem R_run {c : Code} {Q : Flow → Shared → Prop} (hc : codeR M A c Q s) : wpR M A (run c none) Q s := fun Γ p hΓ hcl => by
  rw [Sem.wp_run]
  have hb : CleanB (Γ.enter c none p) := fun x hx => by
    rcases List.mem_cons.mp hx with rfl | hx
    · exact hcl.1
    · exact hcl.2 x hx
  refine wpCode_mono ?_ (hc (Γ.enter c none p) p rfl (hΓ.enter c none p (by intro x; cases x)) hb)
  rintro r s' ⟨f, rfl, hf⟩
  exact hf
theorem R_runOwn {c : Code} {env : Env} {Q : Flow → Shared → Prop} (hc : codeR M A c Q s) : wpR M A (runOwn c env) Q s := by
  unfold runOwn
  exact R_onRaise (R_run hc)
theorem R_call {f : Value} {pos : List Value} {kw : List (Str × Value)} {Q : Value → Shared → Prop}
    (hc : codeR M A (.call f ⟨pos, kw⟩) (fun fl s' => ∃ v, fl = .ret v ∧ Q v s') s) : wpR M A (call f pos kw) Q s := by
  show wpR M A (runValue _) Q s
  unfold runValue
  refine R_bind (R_run (fun Γ p a b c => wpCode_mono ?_ (hc Γ p a b c)))
  rintro r s' ⟨fl, rfl, v, rfl, hv⟩
  exact ⟨_, rfl, R_pure hv⟩
theorem codeR_mono {c : Code} {R R' : Flow → Shared → Prop} (h : codeR M A c R s) (hR : ∀ f s, R f s → R' f s) : codeR M A c R' s :=
  fun Γ p a b d => wpCode_mono (fun r s' ⟨f, e, hf⟩ => ⟨f, e, hR f s' hf⟩) (h Γ p a b d)
theorem codeR_of_tree {c : Code} {R : Flow → Shared → Prop} (hd : dirty c = false)
    (h : wpR M (A.under c) (M.den c) (fun fin s' => match fin with | .done f => R f s' | .again c' => c'.quiet = true ∧ codeR M A c' R s') s) : codeR M A c R s := fun Γ p hc hΓ hcl => by
  rw [wpCode_iff_wp, hc]
  refine Sem.wp_mono M Γ _ (fun fin p' s' h' => ?_) (fun _ _ _ h' => h'.elim) p s (h Γ p (hc ▸ hΓ.in) ⟨hc ▸ hd, hcl⟩)
  cases fin with
  | done f => exact ⟨f, rfl, h'⟩
  | again c' => exact ⟨h'.1, h'.2 (Γ.goto c') p' rfl (hΓ.goto c') hcl⟩
theorem codeR_of_any {c : Code} {R : Flow → Shared → Prop} (h : codeAny M A c (fun r s' => ∃ f, r = .ok f ∧ R f s') s) : codeR M A c R s := fun Γ p a b _ => h Γ p a b
theorem codeR_loop {c : Code} {R : Flow → Shared → Prop} (hd : dirty c = false) (hq : c.quiet = true) (I : Nat → Shared → Prop)
    (turn : ∀ n s, I n s → wpR M (A.under c) (M.den c) (fun fin s' => match fin with
        | .done f => R f s'
        | .again c' => (c' = c ∧ ∃ m, m < n ∧ I m s') ∨ (c'.quiet = true ∧ codeR M A c' R s')) s)
    (n : Nat) (h : I n s) : codeR M A c R s := by
  induction n using Nat.strongRecOn generalizing s with
  | ind n ih =>
    refine codeR_of_tree hd (R_mono (turn n s h) (fun fin s' hf => ?_))
    cases fin with
    | done f => exact hf
    | again c' =>
      rcases hf with ⟨rfl, m, hm, hI⟩ | hf
      · exact ⟨hq, ih m hm hI⟩
      · exact hf
end
section
variable {M : Model} {A : Around} {s : Shared} {env : Env}
theorem R_execs_cons {st rest} {Q : Flow → Shared → Prop} (h : wpR M A (exec st env) (fun f s' => match f with | .next => wpR M A (execs rest env) Q s' | f => Q f s') s) : wpR M A (execs (st :: rest) env) Q s := by
  rw [execs_cons]
  refine R_bind (R_mono h (fun f s' h' => ?_))
  cases f <;> first | exact h' | exact R_pure h'
theorem R_execs_consA {st rest} {Q : Flow → Shared → Prop} (h : wpAny M A (exec st env) (fun f s' => match f with | .next => wpR M A (execs rest env) Q s' | f => Q f s') (fun _ _ => False) s) : wpR M A (execs (st :: rest) env) Q s :=
  R_execs_cons (R_any h)
theorem R_execs_nil {Q : Flow → Shared → Prop} (h : Q .next s) : wpR M A (execs [] env) Q s := R_pure h
theorem R_Expr {e pos} {Q : Flow → Shared → Prop} (h : wpR M A (eval e env) (fun v s' => v = .none ∧ Q .next s') s)
    (hi : interactive env = false := by rfl) (hs : swapsWith e none pos.line env = pure false := by rfl) : wpR M A (exec (.Expr e pos) env) Q s := by
  rw [exec_Expr env e pos hi hs]
  refine R_bind (R_standAt (R_bind (R_mono h (fun v s' h' => ?_))))
  obtain ⟨rfl, h'⟩ := h'
  rw [dropValue_plain (fun a => by intro x; cases x)]
  exact R_pure h'
theorem R_Assign_Name {x pos' value pos} {Q : Flow → Shared → Prop}
    (h : wpR M A (eval value env) (fun v s₁ => wpAny M A (storeName env x v) (fun _ => Q .next) (fun _ _ => False) s₁) s)
    (hs : swapsWith value (some (.Name x pos')) pos.line env = pure false := by rfl) : wpR M A (exec (.Assign [.Name x pos'] value pos) env) Q s := by
  rw [exec_Assign_Name env x pos' value pos hs]
  exact R_bind (R_standAt (R_bind (R_mono h fun v s₁ h₁ => R_bind (R_standAt (R_bindA (wpAny_bindName (wpAny_mono h₁ (fun _ _ q => R_pure q) fun _ _ e => e)))))))
theorem R_operate {vs : List Value} {m : Sem Value} {Q : Value → Shared → Prop} (h : wpR M A m Q s) : wpR M A (operate vs m) Q s := fun Γ p hΓ hc => by
  rw [Sem.wp_operate]; exact h Γ p hΓ hc
theorem R_AugAssign_Name {x pos' op value pos} {Q : Flow → Shared → Prop}
    (h : wpAny M A (loadName env x) (fun old s₁ => wpAny M A (eval value env) (fun v s₂ => wpR M A (inplaceOp op old v)
      (fun r s₃ => wpAny M A (storeName env x r) (fun _ => Q .next) (fun _ _ => False) s₃) s₂) (fun _ _ => False) s₁) (fun _ _ => False) s) :
    wpR M A (exec (.AugAssign (.Name x pos') op value pos) env) Q s := by
  rw [exec_AugAssign_Name]
  refine R_bind (R_standAt (R_bindA (wpAny_mono h (fun old s₁ h₁ => ?_) fun _ _ e => e)))
  refine R_bindA (wpAny_holding (wpAny_mono h₁ (fun v s₂ h₂ => ?_) fun _ _ e => e))
  refine R_bind (R_standAt (R_bind (R_operate (R_mono h₂ fun r s₃ h₃ => ?_))))
  exact R_bind (R_standAt (R_bindA (wpAny_bindName (wpAny_mono h₃ (fun _ _ q => R_pure q) fun _ _ e => e))))
theorem R_If {test body orelse pos} {Q : Flow → Shared → Prop}
    (h : wpAny M A (isTrue test env (eval test env)) (fun b s₂ => if b then wpR M A (execs body env) Q s₂ else wpR M A (execs orelse env) Q s₂) (fun _ _ => False) s) :
    wpR M A (exec (.If test body orelse pos) env) Q s := by
  rw [exec_If]
  refine R_bind (R_standAt (R_bindA (wpAny_mono h (fun b s₂ h₂ => ?_) fun _ _ e => e)))
  cases b <;> exact h₂
theorem R_Return {e pos} {Q : Flow → Shared → Prop} (h : wpR M A (eval e env) (fun v => Q (.ret v)) s) : wpR M A (exec (.Return (some e) pos) env) Q s := by
  rw [exec_Return_some]
  exact R_bind (R_standAt (R_bind (R_mono h fun v s' h' => R_pure h')))
end
section
variable {prog : Program} {w : World} {A : Around} {s : Shared} {env : Env}
theorem codeR_while {test body} {R : Flow → Shared → Prop} (I : Nat → Shared → Prop)
    (turn : ∀ n s, I n s → wpAny (model prog w) A (isTrue test env (eval test env)) (fun b s₂ =>
        if b then wpR (model prog w) A (execs body env) (fun f s₃ => match f with
            | .next | .cont => ∃ m, m < n ∧ I m s₃
            | .brk => R .next s₃
            | .ret v => R (.ret v) s₃) s₂
        else R .next s₂) (fun _ _ => False) s)
    (n : Nat) (h : I n s) : codeR (model prog w) A (.whileLoop test body [] env) R s := by
  refine codeR_loop rfl rfl I (fun n s hI => ?_) n h
  show wpR _ A ((whileTurn test body [] env).onRaise (fun x => do noteFrame x env; theTreesLotGoes x)) _ s
  refine R_onRaise ?_
  simp only [whileTurn]
  refine R_bindA (wpAny_mono (turn n s hI) (fun b s₂ h₂ => ?_) fun _ _ e => e)
  cases b with
  | false =>
    simp only [Bool.false_eq_true, if_false] at h₂ ⊢
    exact R_bind (R_execs_nil (R_pure h₂))
  | true =>
    simp only [if_true] at h₂ ⊢
    refine R_bind (R_mono h₂ (fun f s₃ h₃ => ?_))
    cases f with
    | next => exact R_pure (.inl ⟨rfl, h₃⟩)
    | cont => exact R_pure (.inl ⟨rfl, h₃⟩)
    | brk => exact R_pure h₃
    | ret v => exact R_pure h₃
theorem R_While {test body pos} {Q : Flow → Shared → Prop} (I : Nat → Shared → Prop)
    (turn : ∀ n s, I n s → wpAny (model prog w) A (isTrue test env (eval test env)) (fun b s₂ =>
        if b then wpR (model prog w) A (execs body env) (fun f s₃ => match f with
            | .next | .cont => ∃ m, m < n ∧ I m s₃
            | .brk => Q .next s₃
            | .ret v => Q (.ret v) s₃) s₂
        else Q .next s₂) (fun _ _ => False) s)
    (n : Nat) (h : I n s) : wpR (model prog w) A (exec (.While test body [] pos) env) Q s := by
  rw [exec_While]
  exact R_bind (R_standAt (R_runOwn (codeR_while I turn n h)))
theorem codeR_for {R : Flow → Shared → Prop} {x : Str} {px : Pos} {it : Value} {body} (I : Nat → Shared → Prop)
    (turn : ∀ n s, I n s → wpAny (model prog w) A (pyNext it) (fun r s₁ => match r with
      | none => R .next s₁
      | some v => wpAny (model prog w) A (storeName env x v) (fun _ s₂ => wpR (model prog w) A (execs body env) (fun f s₃ => match f with
          | .next | .cont => ∃ m, m < n ∧ I m s₃
          | .brk => R .next s₃
          | .ret v => R (.ret v) s₃) s₂) (fun _ _ => False) s₁) (fun _ _ => False) s)
    (n : Nat) (h : I n s) : codeR (model prog w) A (.forLoop (.Name x px) it body [] env) R s := by
  refine codeR_loop rfl rfl I (fun n s hI => ?_) n h
  show wpR _ _ ((forTurn (.Name x px) it body [] env).onRaise (fun x => do noteFrame x env; theTreesLotGoes x)) _ s
  refine R_onRaise ?_
  simp only [forTurn]
  refine R_bind (R_standAt (R_bind (R_onRaise (R_any (wpAny_mono (turn n s hI) (fun r s₁ h₁ => ?_) fun _ _ e => e)))))
  cases r with
  | none =>
    refine R_pure (.inr ⟨rfl, codeR_of_tree rfl ?_⟩)
    show wpR _ _ (do return Fin.done (← (execs [] env).onRaise (fun x => do noteFrame x env; theTreesLotGoes x))) _ _
    exact R_bind (R_onRaise (R_execs_nil (R_pure h₁)))
  | some v =>
    refine R_bind (R_eq (a := ()) rfl ?_)
    refine R_bindA (wpAny_assign_Name (wpAny_mono h₁ (fun _ s₂ h₂ => R_bind (R_mono h₂ (fun f s₃ h₃ => ?_))) fun _ _ e => e))
    cases f with
    | next => exact R_pure (.inl ⟨rfl, h₃⟩)
    | cont => exact R_pure (.inl ⟨rfl, h₃⟩)
    | brk => exact R_pure h₃
    | ret v => exact R_pure h₃
theorem R_For {x : Str} {px pos : Pos} {iter : Expr} {body} {Q : Flow → Shared → Prop}
    (h : wpAny (model prog w) A (eval iter env) (fun xv s₁ => wpAny (model prog w) A (pyIter xv) (fun it s₂ =>
      codeR (model prog w) A (.forLoop (.Name x px) it body [] env) Q s₂) (fun _ _ => False) s₁) (fun _ _ => False) s)
    (hs : ∀ x, foldedSetIterable iter env x = pure x := by intro _; rfl) : wpR (model prog w) A (exec (.For (.Name x px) iter body [] pos) env) Q s := by
  rw [exec_For]
  refine R_bind (R_standAt (R_bindA (wpAny_mono h (fun xv s₁ h₁ => R_bind (R_eq (hs xv) (R_bind (R_standAt (R_bindA (wpAny_holding (wpAny_mono h₁ (fun it s₂ h₂ => ?_) fun _ _ e => e))))))) fun _ _ e => e)))
  exact R_runOwn h₂
theorem codeR_func {body} {R : Flow → Shared → Prop} (h : wpR (model prog w) (A.deeper env) (execs body env) (fun f s' => R (.ret (match f with | .ret v => v | _ => .none)) s') s) : codeR (model prog w) A (.func body env) R s := by
  refine codeR_of_tree rfl ?_
  show wpR _ (A.deeper env) (do point; match ← (execs body env).onRaise (leaving env) with | .ret v => ret v | _ => ret .none) _ s
  refine R_bind (R_point (R_bind (R_onRaise (R_mono h fun f s' h' => ?_))))
  cases f <;> exact R_pure h'
theorem codeR_call_function {R : Flow → Shared → Prop} {a : Addr} {args : Args} {o : Obj} {fd : FuncData} {body : List Stmt} (hroom : A.depth < recursionLimit)
    (ho : s.heap.get? a = some o)
    (hd' : o.data = .func fd) (hco : fd.scope.isCoroutine = false) (hgen : fd.scope.isGenerator = false) (hbody : fd.body = .stmts body) (hcd : s.heap.CodeRec fd.code fd.qualname)
    (h : wpAny (model prog w) A.in1 (bindArgs fd args) (fun binds s₁ =>
      wpAny (model prog w) A.in1 (newFunctionEnv fd.scope fd.globals fd.closure binds (fd.qualname ++ ".<locals>.") (some a) fd.code none fd.builtins)
        (fun env s₂ => s₂.heap.NoLimit ∧ codeR (model prog w) A (.func body env) R s₂) (fun _ _ => False) s₁) (fun _ _ => False) s) :
    codeR (model prog w) A (.call (.ref a) args) R s := by
  refine codeR_of_tree rfl ?_
  show wpR _ A.in1 (callAny (.ref a) args) _ s
  refine R_any ?_
  simp only [callAny]
  refine wpAny_bind (wpAny_load ho ?_)
  obtain ⟨c, oc, vs, tq, hc, hoc, hdc, hq⟩ := hcd
  simp only [hd', callFunction, hco, hgen, hbody, hc]
  rw [hc] at h
  refine wpAny_bind (m := field (.ref c) 1) (wpAny_field hoc hdc hq (wpAny_bind (wpAny_pure ?_)))
  exact wpAny_bind (wpAny_mono h (fun binds s₁ h₁ => wpAny_bind (wpAny_mono h₁ (fun env s₂ h₂ => wpAny_bind (wpAny_enterFrame h₂.1 hroom
    (wpAny_pure (And.intro rfl h₂.2)))) fun _ _ h' => h')) fun _ _ h' => h')
theorem codeR_call_def {R : Flow → Shared → Prop} {a : Addr} {o : Obj} {fd : FuncData} {body : List Stmt} {args : Args} {binds : List (Str × Value)}
    (hroom : A.depth < recursionLimit) (ho : s.heap.get? a = some o) (hdata : o.data = .func fd) (hlim : s.heap.NoLimit) (hcd : s.heap.CodeRec fd.code fd.qualname)
    (hbody : fd.body = .stmts body) (hbind : BindsTo s fd args binds)
    (hcell : ∀ x ∈ fd.scope.names, x.2 ≠ .cell) (hloc : ∀ x ∈ binds, fd.scope.names.lookup x.1 = some .local)
    (h : ∀ h₀, h₀.Ns s.heap.objs.size (fun x => binds.reverse.lookup x) → (∀ b o, s.heap.get? b = some o → h₀.get? b = some o) →
      wpR (model prog w) (A.deeper (callEnv fd s.heap.objs.size a)) (execs body (callEnv fd s.heap.objs.size a)) (fun f s' => R (.ret (match f with | .ret v => v | _ => .none)) s')
        { s with heap := h₀, toks := s.toks + binds.length })
    (hco : fd.scope.isCoroutine = false := by rfl) (hgen : fd.scope.isGenerator = false := by rfl) (hk : fd.scope.kind = .function := by rfl) :
    codeR (model prog w) A (.call (.ref a) args) R s := by
  refine codeR_call_function hroom ho hdata hco hgen hbody hcd (hbind _ _ _ _ ?_)
  refine wpAny_newFunctionEnv hcell hloc (fun h₀ hns₀ hsb₀ => ⟨hlim.fresh _ hsb₀, codeR_func (h h₀ hns₀ fun b o e => ?_)⟩) hk
  exact hsb₀.extBut b o (Nat.ne_of_lt (Heap.lt_size e)) (Heap.get?_push_of_some _ e)
end
/-- the law's own call -/
theorem callR_full {prog : Program} {w : World} {A : Around} {Q : Value → Shared → Prop} {s : Shared} {name : Str} {params : Arguments} {body : List Stmt} {scope : Scope}
    {dV kV pm cd doc : Value} {a : Addr} {o : Obj} {args : List Value} {binds : List (Str × Value)}
    (hroom : A.depth < recursionLimit) (ho : s.heap.get? a = some o) (hdata : o.data = .func { docDef name params body scope pm cd doc with defaults := dV, kwdefaults := kV }) (hlim : s.heap.NoLimit) (hcd : s.heap.CodeRec cd name)
    (hbind : BindsTo s { docDef name params body scope pm cd doc with defaults := dV, kwdefaults := kV } ⟨args, []⟩ binds)
    (hloc : ∀ x ∈ binds, scope.names.lookup x.1 = some .local)
    (h : ∀ h₁, Fr s.heap s.heap.objs.size h₁ (fun x => binds.reverse.lookup x) →
      wpR (model prog w) (A.deeper (envOf name scope s.heap.objs.size a cd)) (execs body (envOf name scope s.heap.objs.size a cd))
        (fun f s' => Q (match f with | .ret v => v | _ => .none) s')
        { s with heap := h₁, toks := s.toks + binds.length })
    (hco : scope.isCoroutine = false := by rfl) (hgen : scope.isGenerator = false := by rfl) (hk : scope.kind = .function := by rfl)
    (hcell : ∀ x ∈ scope.names, x.2 ≠ .cell := by decide) :
    wpR (model prog w) A (PySem.call (.ref a) args) Q s :=
  R_call (codeR_call_def hroom ho hdata hlim hcd rfl hbind hcell hloc (fun h₁ hns hkeep => R_mono (h h₁ ⟨hns, hkeep, Nat.le_refl _⟩) fun f s' q => ⟨_, rfl, q⟩) hco hgen hk)
section
variable {prog : Program} {w : World} {A₀ A : Around} {s : Shared} {base h₀ : Heap} {outer : List Env} {L : Addr} {m : Str → Option Value} {env : Env} {news : List (Addr × Obj)} {K : Frag}
  {Q : Value → Shared → Prop} {name qual : Str} {params : Arguments} {body : List Stmt} {scope : Scope} {dV kV doc pm cdv ct oc : Value} {an od : Option Addr} {osl : Array (Option Value)} {f : Addr} {args : List Value} {binds : List (Str × Value)}
  {p : Program} {loose : List Str} {mean : ExcName → Option Value} {mg mb : Str → Option Value}
/-- a call of a def of the text, from a frame -/
theorem callR_def
    (B : Below A₀ base outer h₀) (F : Fr h₀ L s.heap m) (X₀ : K.In h₀) (N : News h₀ L s.heap news) (T : Top p loose mean mg mb h₀) (hA : A.frames = some (env :: outer)) (hf : env.frame = some L) (hke : env.scope.kind = .function)
    (ho : K.lookup f = some ⟨oc, od, .func (fnOf name qual params body scope dV kV doc pm an cdv ct), osl⟩) (hcd : codeIn K cdv qual = true) (hroom : A.depth < recursionLimit)
    (hbind : BindsTo s (fnOf name qual params body scope dV kV doc pm an cdv ct) ⟨args, []⟩ binds) (hloc : ∀ y ∈ binds, scope.names.lookup y.1 = some .local)
    (h : ∀ g L' h₁, Fr h₀ L g m → Fr g L' h₁ (fun y => binds.reverse.lookup y) → News g L' h₁ news → Below A base (env :: outer) g → K.In g → Top p loose mean mg mb g → (∀ p ∈ news, p.1 < L') →
      wpR (model prog w) (A.deeper (envOf qual scope L' f cdv)) (execs body (envOf qual scope L' f cdv))
        (fun fl s' => LeaveK h₀ L m g (fun r s' => ∃ v, r = .ok (.ret v) ∧ Q v s') (match fl with | .ret v => v | _ => .none) s')
        { s with heap := h₁, toks := s.toks + binds.length })
    (hco : scope.isCoroutine = false) (hgen : scope.isGenerator = false) (hk : scope.kind = .function)
    (hcell : ∀ x ∈ scope.names, x.2 ≠ .cell) : wpR (model prog w) A (PySem.call (.ref f) args) Q s := by
  obtain ⟨FG, BG, st, lv⟩ := groundX (R := fun r s' => ∃ v, r = .ok (.ret v) ∧ Q v s') B F N hA hf hke
  refine R_call (codeR_call_def (fd := fnOf name qual params body scope dV kV doc pm an cdv ct) (body := body) (binds := binds) hroom ((X₀.keeps F.keep) _ _ ho) rfl (T.nolimit.keeps F.keep) (codeRec_of (X₀.keeps F.keep) hcd) rfl hbind hcell hloc (fun h₁ hns hk₁ => ?_) hco hgen hk)
  refine R_mono (h _ s.heap.objs.size h₁ FG ⟨hns, fun b o e => hk₁ b o (of_hideAll _ e), Nat.le_of_eq (hideAll_size _ _)⟩
    (fun p hp => ⟨hk₁ _ _ (N p hp).1, Nat.ne_of_lt (Heap.lt_size (N p hp).1), hideAll_none _ (List.mem_map_of_mem hp)⟩) BG (X₀.keeps st) (T.keeps st) (fun p hp => Heap.lt_size (N p hp).1)) (fun fl s' hl => ?_)
  obtain ⟨v, e, q⟩ := lv _ _ hl
  exact ⟨v, by cases e; rfl, q⟩
end
end Mine
end

section
open PySem PySem.W PyProof.Rows PySem.Calls
set_option maxRecDepth 100000
namespace Mine
open Sem (wp)
section
variable {prog : Program} {w : World} {M : Model} {A : Around} {s : Shared}
theorem codeR_builtin {id : String} {args : Args} {b : Builtin} {R : Flow → Shared → Prop} (hq : plainId id = true) (hnd : dirtyIds.contains id = false) (hb : entryFor table id = some b)
    (h : wpR (model prog w) A.in1 (b args) (fun fin s' => match fin with | .done f => R f s' | .again c' => c'.quiet = true ∧ codeR (model prog w) A c' R s') s) :
    codeR (model prog w) A (.builtin id args) R s := by
  refine codeR_of_tree hnd ?_
  rw [Around.under_plainId hq args]
  show wpR _ _ (match entryFor table id with | some b => b args | none => unsupported ((withoutEnding? id "#data").getD id)) _ s
  rw [hb]; exact h
theorem codeR_call_builtin {id : String} {args : Args} {b : Builtin} {R : Flow → Shared → Prop} (hq : plainId id = true) (hnd : dirtyIds.contains id = false) (hb : entryFor table id = some b)
    (h : wpAny (model prog w) A.in1 (checkBuiltinCall id args) (fun _ s₁ => wpR (model prog w) A.in1 (b args)
      (fun fin s' => match fin with | .done f => R f s' | .again c' => c'.quiet = true ∧ codeR (model prog w) A c' R s') s₁) (fun _ _ => False) s) :
    codeR (model prog w) A (.call (.builtin id) args) R s := by
  refine codeR_of_tree rfl ?_
  show wpR _ A.in1 (do checkBuiltinCall id args; again (.builtin id args)) _ s
  exact R_bindA (wpAny_mono h (fun _ s₁ h₁ => R_pure ⟨plainId_quiet hq args, codeR_builtin hq hnd hb h₁⟩) fun _ _ e => e)
theorem any_clean {f : Code × Pos → Bool} (hf : ∀ c p, dirty c = false → f (c, p) = false) {Γ : PySem.Ctx} {p : Pos} (hc : Clean Γ) : ((Γ.code, p) :: Γ.below).any f = false := by
  rw [List.any_eq_false]
  rintro ⟨c, q⟩ hx hb
  have hd : dirty c = false := by
    rcases List.mem_cons.mp hx with e | hx
    · cases e; exact hc.1
    · exact hc.2 _ hx
  rw [hf c q hd] at hb
  cases hb
theorem R_stackAny {f : Code × Pos → Bool} {Q : Bool → Shared → Prop} (hf : ∀ c p, dirty c = false → f (c, p) = false) (h : Q false s) : wpR M A (do return (← stack).any f) Q s := fun Γ p hΓ hc => by
  show Q (((Γ.code, p) :: Γ.below).any f) s
  rw [any_clean hf hc]
  exact h
theorem R_exported {self : Value} {Q : Bool → Shared → Prop} (h : Q false s) : wpR M A (Builtin.Bytes.exported self) Q s := by
  unfold Builtin.Bytes.exported
  refine R_stackAny (fun c p hd => ?_) h
  split
  all_goals first
    | rfl
    | (exfalso; revert hd; decide +kernel)
    | (exfalso; simp [dirty, dirtyIds] at hd; done)
    | (rename_i e; cases e; simp [dirty, dirtyIds] at hd; done)
    | (rename_i e; cases e; simp only [dirty, dirtyIds, List.contains_append, Bool.or_eq_false_iff] at hd; rw [hd.1, Bool.and_false])
/-- a bytearray of the model -/
abbrev baObj (b : Array UInt8) : Obj := { cls := .type "bytearray", data := .bytearray b }
theorem R_checkResize {a : Addr} {b : Array UInt8} {Q : Unit → Shared → Prop} (ho : s.heap.get? a = some (baObj b)) (h : Q () s) : wpR M A (Builtin.Bytes.checkResize (.ref a)) Q s := by
  unfold Builtin.Bytes.checkResize
  refine R_bind (R_bind (R_exported ?_))
  show wpR M A (Builtin.Bytes.exportsOf (.ref a) >>= _) _ s
  refine R_bindA ?_
  unfold Builtin.Bytes.exportsOf
  refine wpAny_bind (wpAny_load ho (wpAny_pure ?_))
  exact R_pure (R_pure h)
theorem any_payload {a : Addr} {b : Array UInt8} {E : Value → Shared → Prop} {Q : Array UInt8 → Shared → Prop} (ho : s.heap.get? a = some (baObj b)) (h : Q b s) : wpAny M A (Builtin.Bytes.payload (.ref a)) Q E s := by
  unfold Builtin.Bytes.payload Builtin.Bytes.payload?
  refine wpAny_bind (wpAny_bind (wpAny_load ho ?_))
  exact wpAny_pure (wpAny_pure h)
theorem any_write {a : Addr} {b : Array UInt8} {f : Array UInt8 → Array UInt8} {E : Value → Shared → Prop} {Q : Unit → Shared → Prop} (ho : s.heap.get? a = some (baObj b)) (hz : (f b).size ≤ 16777216)
    (h : (s.heap.update a (Obj.mapBytearray f)).get? a = some (baObj (f b)) → Q () { s with heap := s.heap.update a (Obj.mapBytearray f) }) : wpAny M A (Builtin.Bytes.write (.ref a) f) Q E s := by
  have hg : (s.heap.update a (Obj.mapBytearray f)).get? a = some (baObj (f b)) := Heap.get?_update_self (Obj.mapBytearray f) ho rfl
  show wpAny M A (updateBytearray a f) Q E s
  unfold updateBytearray
  refine wpAny_bind (wpAny_load ho ?_)
  show wpAny M A (update a (Obj.mapBytearray f) >>= fun _ => lookBehind a) _ _ _
  refine wpAny_bind (wpAny_update ho ?_)
  refine wpAny_lookBehind hg ?_ (h hg)
  show (if (f b).size > sizeLine then some "bytearray:memory" else none) = none
  rw [if_neg (by rw [sizeLine_eq]; omega)]
end
namespace FA
theorem plainAttrs_ba : PlainAttrs "bytearray" :=
  ⟨⟨"bytearray.__getattribute__", by rw [typeLookup_type, builtinLookup_eq_fast]; kernel_rfl, by decide +kernel⟩, by rw [typeLookup_type, builtinLookup_eq_fast]; kernel_rfl⟩
theorem slot_append : Slot "bytearray" "append" "bytearray.append" :=
  .of (owner := "bytearray") (n := "append") (by rw [typeLookup_type, builtinLookup_eq_fast]; kernel_rfl) (by decide +kernel) (by decide +kernel) (by decide +kernel)
    (by first | exact .inl (by decide +kernel) | exact .inr (by decide +kernel)) (by rw [isSubtype_type]; kernel_rfl)
theorem type_append : typeOf (.builtin "bytearray.append") = pure (.type "method_descriptor") := by show builtinType _ = _; rw [builtinType_eq_fast]; kernel_rfl
theorem entry_append : entryFor table "bytearray.append" = some Builtin.«bytearray.append» := entryFor_of_tree (by kernel_rfl)
theorem args_append (a b : Value) : argsOk "bytearray.append" ⟨[a, b], []⟩ := by unfold argsOk; kernel_rfl
theorem slot_iadd : Slot "bytearray" (dunderI "add") "bytearray.__iadd__" :=
  .of (owner := "bytearray") (n := "__iadd__") (by rw [typeLookup_type, builtinLookup_eq_fast]; kernel_rfl) (by decide +kernel) (by decide +kernel) (by decide +kernel)
    (by first | exact .inl (by decide +kernel) | exact .inr (by decide +kernel)) (by rw [isSubtype_type]; kernel_rfl)
theorem entry_iadd : entryFor table "bytearray.__iadd__" = some Builtin.«bytearray.__iadd__» := entryFor_of_tree (by kernel_rfl)
theorem args_iadd (a b : Value) : argsOk "bytearray.__iadd__" ⟨[a, b], []⟩ := by unfold argsOk; kernel_rfl
theorem look_add : typeLookup (.type "bytearray") (dunder "add") = pure (some (.builtin "bytearray.__add__")) := by rw [typeLookup_type, builtinLookup_eq_fast]; kernel_rfl
theorem look_radd : typeLookup (.type "bytearray") (dunderR "add") = pure none := by rw [typeLookup_type, builtinLookup_eq_fast]; kernel_rfl
theorem fills_add : fillsNumberSlot (.type "bytearray") "add" = pure false := PySem.fillsNumberSlot_seq (id := "bytearray.__add__") (r := none) look_add (by decide +kernel) look_radd rfl
theorem seq_iadd : seqSlot? (.type "bytearray") (dunderI "add") = pure (some (.builtin "bytearray.__iadd__")) := PySem.seqSlot_of slot_iadd.lookup (by decide +kernel)
theorem fills_iadd : fillsInplaceSlot (.type "bytearray") "add" (Operator.Add == .Add) = pure false := by
  unfold fillsInplaceSlot
  show (typeLookup (.type "bytearray") (dunderI "add") >>= fun fi => pure (fi.isSome && !isSeqSlot fi)) = pure false
  rw [slot_iadd.lookup]; rfl
theorem mro_ba : mroOf (.type "bytearray") = pure [.type "bytearray", .type "object"] := by rw [mroOf_type]; kernel_rfl
theorem look_new : typeLookup (.type "bytearray") "__new__" = pure (some (.builtin "bytearray.__new__")) := by rw [typeLookup_type, builtinLookup_eq_fast]; kernel_rfl
theorem slot_init : Slot "bytearray" "__init__" "bytearray.__init__" :=
  .of (owner := "bytearray") (n := "__init__") (by rw [typeLookup_type, builtinLookup_eq_fast]; kernel_rfl) (by decide +kernel) (by decide +kernel) (by decide +kernel)
    (by first | exact .inl (by decide +kernel) | exact .inr (by decide +kernel)) (by rw [isSubtype_type]; kernel_rfl)
theorem entry_init : entryFor table "bytearray.__init__" = some Builtin.«bytearray.__init__» := entryFor_of_tree (by kernel_rfl)
theorem args_init (a : Value) : argsOk "bytearray.__init__" ⟨[a], []⟩ := by unfold argsOk; kernel_rfl
theorem sub_self : isSubtype (.type "bytearray") (.type "bytearray") = pure true := by rw [isSubtype_type]; kernel_rfl
theorem called : TypeCalled "bytearray" "bytearray.__new__" "bytearray.__init__" :=
  ⟨by decide +kernel, by decide +kernel, ⟨_, _, mro_ba⟩, madeBy_type mro_ba look_new (by decide +kernel), by decide +kernel, sub_self, slot_init⟩
theorem typeCall : checkTypeCall "bytearray" ⟨[], []⟩ = pure () := by kernel_rfl
theorem newCall : checkBuiltinCall "bytearray.__new__" ⟨[.type "bytearray"], []⟩ = pure () := by kernel_rfl
theorem entry_new : entryFor table "bytearray.__new__" = some Builtin.«list.__new__» := entryFor_alias (id' := "list.__new__") (by kernel_rfl) rfl (by decide +kernel) (by kernel_rfl)
theorem plain_new : plainId "bytearray.__new__" = true := by decide +kernel
theorem look_buffer : typeLookup (.type "bytearray") "__buffer__" = pure (some (.builtin "bytearray.__buffer__")) := by rw [typeLookup_type, builtinLookup_eq_fast]; kernel_rfl
theorem look_release : typeLookup (.type "bytearray") "__release_buffer__" = pure (some (.builtin "bytearray.__release_buffer__")) := by rw [typeLookup_type, builtinLookup_eq_fast]; kernel_rfl
theorem ba_no_bytes : typeLookup (.type "bytearray") "__bytes__" = pure none := by rw [typeLookup_type, builtinLookup_eq_fast]; kernel_rfl
theorem ba_no_index : typeLookup (.type "bytearray") "__index__" = pure none := by rw [typeLookup_type, builtinLookup_eq_fast]; kernel_rfl
theorem bind_init : Builtin.Bytes.bindOptional "bytearray.__init__" "bytearray" ["source", "encoding", "errors"] [] [] = pure [none, none, none] := by kernel_rfl
end FA
end Mine
end

section
open PySem PySem.W PyProof.Rows PySem.Calls
set_option maxRecDepth 100000
namespace Mine
open Sem (wp)
section
variable {prog : Program} {w : World} {M : Model} {A : Around} {s : Shared}
theorem ba_typeIs {a : Addr} {b : Array UInt8} (ho : s.heap.get? a = some (baObj b)) : s.TypeIs (.ref a) "bytearray" := ⟨_, ho, rfl⟩
theorem R_append {a : Addr} {b : Array UInt8} {i : Int} {t : Tok} {Q : Value → Shared → Prop} (ho : s.heap.get? a = some (baObj b)) (h0 : 0 ≤ i) (h1 : i < 256) (hz : b.size + 1 ≤ 16777216)
    (h : (s.heap.update a (Obj.mapBytearray (·.push i.toNat.toUInt8))).get? a = some (baObj (b.push i.toNat.toUInt8)) → Q .none { s with heap := s.heap.update a (Obj.mapBytearray (·.push i.toNat.toUInt8)) }) :
    wpR (model prog w) A (call (.builtin "bytearray.append") [.ref a, .int i t]) Q s := by
  refine R_call (codeR_call_builtin FA.slot_append.plain (by decide +kernel) FA.entry_append (FA.slot_append.check _ _ _ _ _ _ _ _ (ba_typeIs ho) (FA.args_append _ _) ?_))
  unfold Builtin.«bytearray.append»
  refine R_bind (R_eq (a := ((.ref a : Value), (.int i t : Value))) rfl ?_)
  show wpR _ _ (Builtin.Bytes.byteValue (.int i t) >>= _) _ _
  refine R_bindA ?_
  unfold Builtin.Bytes.byteValue
  refine wpAny_bind (wpAny_of_eq (a := i) rfl ?_)
  refine bm_if_false (by simp only [Bool.or_eq_false_iff, decide_eq_false_iff_not]; omega) ?_
  refine wpAny_pure ?_
  refine R_bind (R_checkResize ho ?_)
  refine R_bindA (any_write ho (by simp only [Array.size_push]; omega) fun hg => ?_)
  exact R_pure ⟨_, rfl, h hg⟩
theorem take_bytes {id : String} {b : Array UInt8} {t : Tok} : Builtin.Bytes.takeBufferQuiet? id (.bytes b t) 0 = pure (some (b, none)) := by
  unfold Builtin.Bytes.takeBufferQuiet? Builtin.Bytes.takeBuffer?
  rw [KBy.special_eq KBy.look_buffer, KBy.own_buffer]
  have e : ((0 : Int) == Builtin.Bytes.fullReadOnly) = false := by decide
  rw [e, KBy.buffer_eq]
  rfl
theorem R_iadd_call {a : Addr} {b c : Array UInt8} {t : Tok} {Q : Value → Shared → Prop} (ho : s.heap.get? a = some (baObj b)) (hz : b.size + c.size ≤ 16777216)
    (h : (s.heap.update a (Obj.mapBytearray (· ++ c))).get? a = some (baObj (b ++ c)) → Q (.ref a) { s with heap := s.heap.update a (Obj.mapBytearray (· ++ c)) }) :
    wpR (model prog w) A (call (.builtin "bytearray.__iadd__") [.ref a, .bytes c t]) Q s := by
  refine R_call (codeR_call_builtin FA.slot_iadd.plain (by decide +kernel) FA.entry_iadd (FA.slot_iadd.check _ _ _ _ _ _ _ _ (ba_typeIs ho) (FA.args_iadd _ _) ?_))
  unfold Builtin.«bytearray.__iadd__»
  refine R_bind (R_eq (a := ((.ref a : Value), [(.bytes c t : Value)])) rfl ?_)
  show wpR _ _ (Builtin.Bytes.takeBufferQuiet? "bytearray.__iadd__" (.bytes c t) 0 >>= _) _ _
  refine R_bind (R_eq take_bytes ?_)
  have last : wpR (model prog w) A.in1 (do
      if Builtin.Bytes.tooLong ((← Builtin.Bytes.payload (.ref a)).size + c.size) then unsupported "bytearray.__iadd__:memory"
      Builtin.Bytes.write (.ref a) (· ++ c)
      ret (.ref a)) (fun fin s' => match fin with | .done f => (∃ v, f = .ret v ∧ Q v s') | .again c' => c'.quiet = true ∧ codeR (model prog w) A c' (fun fl s' => ∃ v, fl = .ret v ∧ Q v s') s') s := by
    refine R_bindA (any_payload ho ?_)
    rw [KBy.tooLong_not hz]
    refine R_bindA (any_write ho (by simp only [Array.size_append]; exact hz) fun hg => ?_)
    exact R_pure ⟨_, rfl, h hg⟩
  show wpR _ _ (if (!c.isEmpty) = true then _ else _) _ _
  split
  · show wpR _ _ (if Builtin.Bytes.sameRef (.ref a) (.bytes c t) = true then _ else _) _ _
    rw [if_neg (by intro x; cases x)]
    exact R_bind (R_checkResize ho last)
  · exact last
theorem R_iadd {a : Addr} {b c : Array UInt8} {t : Tok} {Q : Value → Shared → Prop} (ho : s.heap.get? a = some (baObj b)) (hz : b.size + c.size ≤ 16777216)
    (h : (s.heap.update a (Obj.mapBytearray (· ++ c))).get? a = some (baObj (b ++ c)) → Q (.ref a) { s with heap := s.heap.update a (Obj.mapBytearray (· ++ c)) }) :
    wpR (model prog w) A (inplaceOp .Add (.ref a) (.bytes c t)) Q s := by
  unfold inplaceOp
  refine R_holding ?_
  refine R_bindA (wpAny_typeOf (ba_typeIs ho) ?_)
  refine R_bind (R_eq FA.fills_iadd ?_)
  show wpR _ _ (if false = true then _ else _) Q s
  rw [if_neg Bool.false_ne_true]
  have hb : ∀ {E : Value → Shared → Prop} {Q' : Option Value → Shared → Prop}, Q' none s → wpAny (model prog w) A (binaryOp1 "add" (.ref a) (.bytes c t)) Q' E s := fun hq => by
    simp only [binaryOp1]
    refine wpAny_bind (wpAny_typeOf (ba_typeIs ho) (wpAny_bind (wpAny_typeOf (typeIs_bytes s c t) (wpAny_bind (wpAny_of_eq FA.fills_add ?_)))))
    simp only [show (Value.type "bytearray" == Value.type "bytes") = false from by decide, Bool.false_eq_true, if_false]
    refine wpAny_bind (wpAny_of_eq KBy.noFill_bytes_add ?_)
    simp only [pure_bind, Bool.false_and, Bool.false_eq_true, if_false]
    exact wpAny_pure hq
  refine R_bindA (hb ?_)
  refine R_bind (R_eq FA.seq_iadd ?_)
  exact R_bindA (wpAny_rule (R_iadd_call ho hz h))
end
end Mine
end

section
open PySem PySem.W PyProof.Rows PySem.Calls
set_option maxRecDepth 100000
namespace Mine
open Sem (wp)
theorem owner_ba_new : ("bytearray.__new__".splitOn ".__new__").headD "" = "bytearray" := by simp +decide [String.splitOn, String.splitOnAux]
section
variable {prog : Program} {w : World} {M : Model} {A : Around} {E : Value → Shared → Prop} {s : Shared}
theorem code_ba_new {Q₁ : Value → Shared → Prop}
    (h : Q₁ (.ref s.heap.objs.size) { s with heap := s.heap.push (baObj #[]) }) :
    codeAny (model prog w) A (.call (.builtin "bytearray.__new__") ⟨[.type "bytearray"], []⟩) (wants Q₁ E) s := by
  refine codeAny_of_tree ?_
  show wpAny _ A.in1 (do checkBuiltinCall "bytearray.__new__" ⟨[.type "bytearray"], []⟩; again (.builtin "bytearray.__new__" ⟨[.type "bytearray"], []⟩)) _ _ s
  refine wpAny_bind (wpAny_of_eq FA.newCall (wpAny_pure ⟨plainId_quiet FA.plain_new _, codeAny_builtin_stack FA.entry_new rfl fun p st => ?_⟩))
  rw [Around.under_plainId FA.plain_new _]
  have hsub := FA.sub_self
  have hown := owner_ba_new
  obtain ⟨hp, g, d, tk, os⟩ := s
  simp only [hown]
  wp_walk
  exact h
theorem ba_release {a : Addr} {b : Array UInt8} {Q : Bool → Shared → Prop} (ho : s.heap.get? a = some (baObj b)) (h : Q false s) : wpAny M A (Builtin.Bytes.ownRelease (.ref a)) Q E s := by
  have hT := ba_typeIs ho
  unfold Builtin.Bytes.ownRelease Builtin.Bytes.slotIsOwn
  refine wpAny_bind (wpAny_bind (wpAny_specialOf hT FA.look_release ?_))
  dsimp only
  refine bm_if_false (by decide +kernel) ?_
  have e : ("bytearray.__release_buffer__".dropRight ("__release_buffer__".length + 1)) = "bytearray" := by decide +kernel
  rw [e]
  exact wpAny_isInstance hT FA.sub_self (wpAny_pure h)
theorem R_ba_init {a : Addr} {Q : Value → Shared → Prop} (ho : s.heap.get? a = some (baObj #[]))
    (h : (s.heap.update a (Obj.mapBytearray fun _ => #[])).get? a = some (baObj #[]) → Q .none { s with heap := s.heap.update a (Obj.mapBytearray fun _ => #[]) }) :
    wpR (model prog w) A (Builtin.«bytearray.__init__» ⟨[.ref a], []⟩) (fun fin s' => ∃ v, fin = .done (.ret v) ∧ Q v s') s := by
  unfold Builtin.«bytearray.__init__»
  refine R_bindA (ba_release ho ?_)
  refine R_bind (R_eq FA.bind_init ?_)
  refine R_bind (R_eq (a := ()) rfl ?_)
  refine R_bind (R_eq (a := ()) rfl ?_)
  refine R_bind (R_bind (R_exported ?_))
  show wpR _ A ((do return decide ((← Builtin.Bytes.exportsOf (.ref a)) > 0)) : Sem Bool) _ s
  refine R_bindA ?_
  unfold Builtin.Bytes.exportsOf
  refine wpAny_bind (wpAny_load ho (wpAny_pure ?_))
  refine R_pure ?_
  show wpR _ A (if (decide (0 > 0)) = true then _ else _) _ s
  rw [if_neg (by decide)]
  refine R_bindA (any_write ho (by decide) fun hg => ?_)
  exact R_bind (R_pure (R_pure ⟨_, rfl, h hg⟩))
end
end Mine
end

section
open PySem PySem.W PyProof.Rows PySem.Calls
set_option maxRecDepth 100000
namespace Mine
open Sem (wp)
section
variable {prog : Program} {w : World} {M : Model} {A : Around} {E : Value → Shared → Prop} {s : Shared}
theorem codeR_builtin_at {id : String} {args : Args} {b : Builtin} {R : Flow → Shared → Prop} (hnd : dirtyIds.contains id = false) (hb : entryFor table id = some b)
    (h : wpR (model prog w) (A.under (.builtin id args)) (b args) (fun fin s' => match fin with | .done f => R f s' | .again c' => c'.quiet = true ∧ codeR (model prog w) A c' R s') s) :
    codeR (model prog w) A (.builtin id args) R s := by
  refine codeR_of_tree hnd ?_
  show wpR _ _ (match entryFor table id with | some b => b args | none => unsupported ((withoutEnding? id "#data").getD id)) _ s
  rw [hb]; exact h
theorem R_if_false {α : Type} {c : Bool} {a b : Sem α} {Q : α → Shared → Prop} (hc : c = false) (h : wpR M A b Q s) : wpR M A (if c = true then a else b) Q s := by
  subst hc
  exact h
theorem R_if_true {α : Type} {c : Bool} {a b : Sem α} {Q : α → Shared → Prop} (hc : c = true) (h : wpR M A a Q s) : wpR M A (if c = true then a else b) Q s := by
  subst hc
  exact h
theorem R_callSpecial {self : Value} {T : String} {name : Str} {id : String} {args : List Value} {kw : List (Str × Value)}
    {Q : Option Value → Shared → Prop} (hT : s.TypeIs self T) (h : Slot T name id)
    (hc : wpR M A (call (.builtin id) (self :: args) kw) (fun v => Q (some v)) s) : wpR M A (callSpecial? self name args kw) Q s := by
  simp only [callSpecial?]
  refine R_bindA (wpAny_specialOf hT h.lookup ?_)
  simp only [h.bind]
  exact R_holding (R_bind (R_pure (R_bind (R_mono hc (fun v s' h' => R_pure h')))))
theorem R_bytearray {Q : Value → Shared → Prop}
    (h : ((s.heap.push (baObj #[])).update s.heap.objs.size (Obj.mapBytearray fun _ => #[])).get? s.heap.objs.size = some (baObj #[]) → Q (.ref s.heap.objs.size) { s with heap := (s.heap.push (baObj #[])).update s.heap.objs.size (Obj.mapBytearray fun _ => #[]) }) :
    wpR (model prog w) A (call (.type "bytearray") []) Q s := by
  refine R_call (codeR_of_tree rfl ?_)
  show wpR _ _ (callAny (.type "bytearray") _) _ _
  refine R_pure ⟨Code.quiet_builtin _ (by decide +kernel), codeR_builtin_at (by decide +kernel) F.entry_type_call ?_⟩
  rw [Around.under_plain (weight_type_call_type "bytearray" [] []) rfl]
  unfold Builtin.«type.__call__»
  dsimp only
  refine R_if_false (by decide) ?_
  refine R_if_false FA.called.canCreate ?_
  refine R_bind (R_eq FA.typeCall ?_)
  refine R_bind (R_eq FA.mro_ba ?_)
  refine R_if_false rfl ?_
  refine R_bind (R_eq FA.called.made ?_)
  dsimp only
  refine R_bind (R_pure ?_)
  refine R_bindA (wpAny_holding (wpAny_call (codeAny_mono (code_ba_new (E := fun _ _ => False) (Q₁ := fun v s' => v = .ref s.heap.objs.size ∧ s' = { s with heap := s.heap.push (baObj #[]) }) ⟨rfl, rfl⟩) fun r s₁ hr => ?_)))
  cases r with
  | error e => exact hr.elim
  | ok fl =>
    cases fl with
    | ret obj =>
      obtain ⟨rfl, rfl⟩ := hr
      have ho : ({ s with heap := s.heap.push (baObj #[]) } : Shared).heap.get? s.heap.objs.size = some (baObj #[]) := Heap.get?_push_size _ rfl
      dsimp only
      refine R_bindA (wpAny_isInstance (ba_typeIs ho) FA.sub_self ?_)
      refine R_if_false rfl ?_
      refine R_bind (R_holding (R_callSpecial (ba_typeIs ho) FA.slot_init (R_call (codeR_call_builtin FA.slot_init.plain (by decide +kernel) FA.entry_init (FA.slot_init.check _ _ _ _ _ _ _ _ (ba_typeIs ho) (FA.args_init _) ?_)))))
      refine R_mono (R_ba_init (Q := fun v s' => v = .none ∧ Q (.ref s.heap.objs.size) s') ho fun hg => ⟨rfl, h hg⟩) ?_
      rintro fin s' ⟨v, rfl, rfl, hq⟩
      refine ⟨_, rfl, ?_⟩
      dsimp only
      refine R_if_false (by decide) ?_
      exact R_pure ⟨_, rfl, hq⟩
    | _ => exact hr.elim
end
end Mine
end

section
open PySem PySem.W PyProof.Rows PySem.Calls
set_option maxRecDepth 100000
namespace Mine
open Sem (wp)
theorem ints_push {b : Array UInt8} {ks : List Int} {i : Int} (hb : KBw.bInts b = ks) (h0 : 0 ≤ i) (h1 : i < 256) : KBw.bInts (b.push i.toNat.toUInt8) = ks ++ [i] := by
  subst hb
  have e : ((i.toNat.toUInt8).toNat : Int) = i := by
    rw [Nat.toUInt8_eq, UInt8.toNat_ofNat']
    omega
  show (b.push _).toList.map _ = b.toList.map _ ++ [i]
  rw [Array.toList_push, List.map_append, List.map_cons, List.map_nil, e]
section
variable {prog : Program} {w : World} {M : Model} {A : Around} {E : Value → Shared → Prop} {s : Shared} {h₀ : Heap} {L D : Addr} {m : Str → Option Value} {news news' : List (Addr × Obj)} {b c : Array UInt8} {ks ls : List Int}
theorem RK_new {Q : Value → Shared → Prop} (F : Fr h₀ L s.heap m) (N : News h₀ L s.heap news)
    (h : ∀ a h', Fr h₀ L h' m → News h₀ L h' ((a, baObj #[]) :: news) → (∀ p ∈ news, p.1 < a) → Q (.ref a) { s with heap := h' }) : wpR (model prog w) A (call (.type "bytearray") []) Q s := by
  refine R_bytearray fun hg => ?_
  have F₁ := F.push (baObj #[])
  have N₁ := N.push F (baObj #[])
  have z := N₁ (s.heap.objs.size, baObj #[]) (.head _)
  have hs : Heap.SameBut s.heap.objs.size (s.heap.push (baObj #[])) ((s.heap.push (baObj #[])).update s.heap.objs.size (Obj.mapBytearray fun _ => #[])) := Heap.SameBut.update ..
  refine h s.heap.objs.size _ (F₁.change hs z.2.1 z.2.2) ?_ fun p hp => Heap.lt_size (N p hp).1
  exact news_set (pre := []) N₁ (fun _ hp => (nomatch hp)) (fun p hp => Nat.ne_of_lt (Heap.lt_size (N p hp).1)) hs hg
theorem RK_append {i : Int} {t : Tok} {Q : Value → Shared → Prop} (g : Obj → List (Addr × Obj)) (F : Fr h₀ L s.heap m) (N : News h₀ L s.heap news) (hb : KBw.bInts b = ks) (U : UpdF D (baObj b) news g) (h0 : 0 ≤ i) (h1 : i < 256) (hz : ks.length + 1 ≤ 16777216)
    (h : ∀ b' h', KBw.bInts b' = ks ++ [i] → Fr h₀ L h' m → News h₀ L h' (g (baObj b')) → Q .none { s with heap := h' }) :
    wpR (model prog w) A (call (.builtin "bytearray.append") [.ref D, .int i t]) Q s := by
  obtain ⟨pre, post, e1, e2, a1, a2⟩ := U.split
  have z := N (D, baObj b) (by rw [e1]; exact List.mem_append.mpr (.inr (.head _)))
  refine R_append z.1 h0 h1 (by rw [← KBw.ints_length b, hb]; exact hz) fun hg => ?_
  refine h _ _ (ints_push hb h0 h1) (F.change (Heap.SameBut.update ..) z.2.1 z.2.2) ?_
  rw [e2]
  rw [e1] at N
  exact news_set N a1 a2 (Heap.SameBut.update ..) hg
theorem RK_iadd {t : Tok} {Q : Value → Shared → Prop} (g : Obj → List (Addr × Obj)) (F : Fr h₀ L s.heap m) (N : News h₀ L s.heap news) (hb : KBw.bInts b = ks) (hc : KBw.bInts c = ls) (U : UpdF D (baObj b) news g) (hz : ks.length + ls.length ≤ 16777216)
    (h : ∀ b' h', KBw.bInts b' = ks ++ ls → Fr h₀ L h' m → News h₀ L h' (g (baObj b')) → Q (.ref D) { s with heap := h' }) :
    wpR (model prog w) A (inplaceOp .Add (.ref D) (.bytes c t)) Q s := by
  obtain ⟨pre, post, e1, e2, a1, a2⟩ := U.split
  have z := N (D, baObj b) (by rw [e1]; exact List.mem_append.mpr (.inr (.head _)))
  refine R_iadd z.1 (by rw [← KBw.ints_length b, ← KBw.ints_length c, hb, hc]; exact hz) fun hg => ?_
  refine h _ _ (KBw.ints_app hb hc) (F.change (Heap.SameBut.update ..) z.2.1 z.2.2) ?_
  rw [e2]
  rw [e1] at N
  exact news_set N a1 a2 (Heap.SameBut.update ..) hg
end
section
variable {prog : Program} {w : World} {M : Model} {A : Around} {s : Shared} {env : Env}
theorem R_callWith_type0 {pos : Pos} {T : String} {Q : Value → Shared → Prop} (h : wpR M A (call (.type T) []) Q s) : wpR M A (callWith pos (.type T) [] [] []) Q s := by
  unfold callWith
  refine R_bindA (wpAny_holding (PySem.evalArgs_none ?_))
  refine R_bind (R_standAt ?_)
  refine R_bind (R_pure ?_)
  exact R_bind (R_mono h fun r s₂ hr => R_bindA (wpAny_holding (wpAny_point (R_pure hr))))
theorem R_callWith_builtin1 {pos : Pos} {id : String} {ov : Value} {t : Sem Value} {Q : Value → Shared → Prop} (h : wpAny M A t (fun v s₁ => wpR M A (call (.builtin id) [ov, v]) Q s₁) (fun _ _ => False) s) :
    wpR M A (callWith pos (.builtin id) [ov] [(false, t)] []) Q s := by
  unfold callWith
  refine R_bindA (wpAny_holding (Calls.evalArgs_plain (Calls.spliced_cons (wpAny_mono h (fun v s₁ h₁ => Calls.spliced_nil ?_) fun _ _ e => e))))
  refine R_bind (R_standAt ?_)
  refine R_bind (R_pure ?_)
  exact R_bind (R_mono h₁ fun r s₂ hr => R_bindA (wpAny_holding (wpAny_point (R_pure hr))))
theorem R_callWith_fn1 {pos : Pos} {a : Addr} {t : Sem Value} {Q : Value → Shared → Prop}
    (h : wpAny M A t (fun v s₁ => (∃ o fd, s₁.heap.get? a = some o ∧ o.data = .func fd) ∧ wpR M A (call (.ref a) [v]) Q s₁) (fun _ _ => False) s) :
    wpR M A (callWith pos (.ref a) [] [(false, t)] []) Q s := by
  unfold callWith
  refine R_bindA (wpAny_holding (Calls.evalArgs_plain (Calls.spliced_cons (wpAny_mono h (fun v s₁ h₁ => Calls.spliced_nil ?_) fun _ _ e => e))))
  obtain ⟨⟨o, fd, ho, hd⟩, h₁⟩ := h₁
  refine R_bind (R_standAt ?_)
  refine R_bindA ?_
  unfold keeperOf
  refine wpAny_bind (wpAny_load ho ?_)
  rw [hd]
  refine wpAny_pure ?_
  dsimp only
  rw [if_neg (by simp)]
  unfold callMarked
  exact R_bind (R_keep (R_mono h₁ fun r s₂ hr => R_bindA (wpAny_holding (wpAny_point (R_pure hr)))))
theorem R_Call_Name0 {x : Str} {p pos : Pos} {Q : Value → Shared → Prop}
    (h : wpAny M A (eval (.Name x p) env) (fun f s₁ => wpR M A (callWith pos f [] [] []) Q s₁) (fun _ _ => False) s) :
    wpR M A (eval (.Call (.Name x p) [] [] pos) env) Q s := by
  rw [arm_eval_Call_Name']
  exact R_bindA h
theorem R_Call_Name1 {x : Str} {p pos : Pos} {e : Expr} {Q : Value → Shared → Prop}
    (h : wpAny M A (eval (.Name x p) env) (fun f s₁ => wpR M A (callWith pos f [] [(false, eval e env)] []) Q s₁) (fun _ _ => False) s)
    (hs : starEach [e] env = [(false, eval e env)] := by rfl) :
    wpR M A (eval (.Call (.Name x p) [e] [] pos) env) Q s := by
  rw [arm_eval_Call_Name', hs]
  exact R_bindA h
theorem R_method1 {o e : Expr} {name : Str} {apos pos : Pos} {T id : String} {Q : Value → Shared → Prop}
    (pa : PlainAttrs T) (slot : Slot T name id) (hty : typeOf (.builtin id) = pure (.type "method_descriptor"))
    (h : wpAny (model prog w) A (eval o env) (fun ov s₁ => s₁.TypeIs ov T ∧ (∀ a, ov = .ref a → ∃ ob, s₁.heap.get? a = some ob ∧ ob.dict = none) ∧
      wpAny (model prog w) A (eval e env) (fun v s₂ => wpR (model prog w) A (call (.builtin id) [ov, v]) Q s₂) (fun _ _ => False) s₁) (fun _ _ => False) s)
    (hbase : attributeBase o name env (eval o env) = eval o env := by rfl)
    (hs : starEach [e] env = [(false, eval e env)] := by rfl)
    (hline : (apos.endLine == pos.line) = true := by rfl) :
    wpR (model prog w) A (eval (.Call (.Attribute o name apos) [e] [] pos) env) Q s := by
  rw [arm_eval_Call, hbase, hs]
  refine R_bindA (wpAny_mono h (fun ov s₁ h₁ => ?_) fun _ _ e => e)
  obtain ⟨hT, hd, hc⟩ := h₁
  refine R_bind (R_standAt ?_)
  have hform : methodCallForm ([e].length + ([] : List Keyword).length) (backTo pos [(false, eval e env)]) (backToKw pos (keywordEach [] env)) = true := rfl
  have hpos : methodCallPos true o env apos pos = pure pos := by unfold methodCallPos; simp [hline]
  unfold methodCall
  rw [hform]
  refine R_bindA (wpAny_holding (getMethod_builtin hT pa slot hty hd ?_))
  refine R_bindA (wpAny_of_eq hpos ?_)
  exact R_callWith_builtin1 hc
end
end Mine
end

section
open PySem PySem.W PyProof.Rows PySem.Calls
set_option maxRecDepth 100000
namespace Mine
open Sem (wp)
namespace FA
theorem slot_list_iadd : Slot "list" (dunderI "add") "list.__iadd__" :=
  .of (owner := "list") (n := "__iadd__") (by rw [typeLookup_type, builtinLookup_eq_fast]; kernel_rfl) (by decide +kernel) (by decide +kernel) (by decide +kernel)
    (by first | exact .inl (by decide +kernel) | exact .inr (by decide +kernel)) (by rw [isSubtype_type]; kernel_rfl)
theorem args_list_iadd (a b : Value) : argsOk "list.__iadd__" ⟨[a, b], []⟩ := by unfold argsOk; kernel_rfl
theorem seq_list_iadd : seqSlot? (.type "list") (dunderI "add") = pure (some (.builtin "list.__iadd__")) := PySem.seqSlot_of slot_list_iadd.lookup (by decide +kernel)
theorem fills_list_iadd : fillsInplaceSlot (.type "list") "add" (Operator.Add == .Add) = pure false := by
  unfold fillsInplaceSlot
  show (typeLookup (.type "list") (dunderI "add") >>= fun fi => pure (fi.isSome && !isSeqSlot fi)) = pure false
  rw [slot_list_iadd.lookup]; rfl
end FA
section
variable {prog : Program} {w : World} {M : Model} {A : Around} {E : Value → Shared → Prop} {s : Shared} {h₀ : Heap} {L D B : Addr} {m : Str → Option Value} {news news' : List (Addr × Obj)} {b c : Array UInt8} {ks ls : List Int}
theorem AK_iadd {vs ws : List Value} {n n2 : Nat} {Q : Value → Shared → Prop} (g : Obj → List (Addr × Obj)) (F : Fr h₀ L s.heap m) (N : News h₀ L s.heap news) (hB : (B, listOf ws.toArray n2) ∈ news) (U : UpdF D (listOf vs.toArray n) news g)
    (hz : vs.length + ws.length ≤ 16777216)
    (h : ∀ n' h', Fr h₀ L h' m → News h₀ L h' (g (listOf (vs ++ ws).toArray n')) → Q (.ref D) { s with heap := h' }) : wpAny (model prog w) A (inplaceOp .Add (.ref D) (.ref B)) Q E s := by
  obtain ⟨pre, post, e1, e2, a1, a2⟩ := U.split
  have z := N (D, listOf vs.toArray n) (by rw [e1]; exact List.mem_append.mpr (.inr (.head _)))
  have zB := N _ hB
  have hT : s.TypeIs (.ref D) "list" := ⟨_, z.1, rfl⟩
  have hTB : s.TypeIs (.ref B) "list" := ⟨_, zB.1, rfl⟩
  unfold inplaceOp
  refine wpAny_holding ?_
  refine wpAny_bind (wpAny_typeOf hT (wpAny_bind (wpAny_of_eq FA.fills_list_iadd ?_)))
  show wpAny _ A (if false = true then _ else _) Q E s
  rw [if_neg Bool.false_ne_true]
  refine wpAny_bind (wpAny_binaryOp1_none (nm := "add") hT hTB noFill_list_add ?_)
  refine wpAny_bind (wpAny_of_eq FA.seq_list_iadd ?_)
  refine wpAny_bind (wpAny_rule ?_)
  refine call_meets FA.slot_list_iadd hT PySem.F.entry_list_iadd (FA.args_list_iadd _ _) (PySem.AutoSeq1.list___iadd___list_list_0 D vs.toArray n B ws.toArray n2 ?_ ?_ ?_) ⟨z.1, zB.1, ?_⟩
  · simp only [Builtin.List.listTooLong, sizeLine_eq, List.size_toArray]
    simp only [Bool.and_eq_true, decide_eq_true_eq]
    omega
  · rw [List.size_toArray, sizeLine_eq]; omega
  · rw [List.size_toArray, List.size_toArray, sizeLine_eq]; omega
  · have q := PySem.IsL.update z.1 (fun x => x ++ ws.toArray)
    refine h (if ((vs ++ ws).toArray.size == vs.toArray.size) = true then n else n + 1) _ (F.change (Heap.SameBut.update ..) z.2.1 z.2.2) ?_
    rw [e2]
    rw [e1] at N
    refine news_set N a1 a2 (Heap.SameBut.update ..) ?_
    simpa using q
theorem contains_ints {i : Int} (hb : KBw.bInts b = ks) (h0 : 0 ≤ i) (h1 : i < 256) : b.contains i.toNat.toUInt8 = decide (i ∈ ks) := by
  subst hb
  rw [Bool.eq_iff_iff, decide_eq_true_iff, Array.contains_iff_mem]
  have e : ((i.toNat.toUInt8).toNat : Int) = i := by
    rw [Nat.toUInt8_eq, UInt8.toNat_ofNat']
    omega
  constructor
  · intro hm
    rw [← e]
    exact List.mem_map.mpr ⟨_, Array.mem_toList_iff.mpr hm, rfl⟩
  · intro hm
    obtain ⟨c, hc, hce⟩ := List.mem_map.mp hm
    have : c = i.toNat.toUInt8 := by
      apply UInt8.toNat_inj.mp
      have := e.trans hce.symm
      omega
    rw [← this]
    exact Array.mem_toList_iff.mp hc
theorem call_contains {i : Int} {t u : Tok} {Q : Value → Shared → Prop} (hb : KBw.bInts b = ks) (h0 : 0 ≤ i) (h1 : i < 256) (h : Q (.bool (decide (i ∈ ks))) s) :
    wpAny (model prog w) A (call (.builtin "bytes.__contains__") [.bytes b t, .int i u]) Q E s := by
  refine wpAny_call (codeAny_call_builtin FB.slot_bytes_contains.plain FB.entry_bytes_contains (FB.slot_bytes_contains.check _ _ _ _ _ _ _ _ (typeIs_bytes s b t) (FB.args_bytes_contains_2 _ _) ?_))
  unfold Builtin.«bytes.__contains__»
  refine wpAny_bind (wpAny_of_eq (a := ((.bytes b t : Value), [(.int i u : Value)])) rfl ?_)
  show wpAny _ _ (Builtin.Bytes.containsIn "bytes.__contains__" (.bytes b t) (.int i u) >>= _) _ _ _
  refine wpAny_bind ?_
  unfold Builtin.Bytes.containsIn
  refine wpAny_bind (wpAny_of_eq (a := Except.ok i) rfl ?_)
  refine wpAny_bind (wpAny_of_eq KBy.buffer_eq ?_)
  dsimp only
  refine bm_if_false (by simp only [Bool.or_eq_false_iff, decide_eq_false_iff_not]; omega) ?_
  refine wpAny_pure ?_
  rw [contains_ints hb h0 h1]
  exact wpAny_pure h
theorem AK_in {i : Int} {t u : Tok} {Q : Value → Shared → Prop} (hb : KBw.bInts b = ks) (h0 : 0 ≤ i) (h1 : i < 256) (h : Q (.bool (decide (i ∈ ks))) s) : wpAny (model prog w) A (compareOp .In (.int i u) (.bytes b t)) Q E s :=
  In_slot (typeIs_bytes s b t) FB.slot_bytes_contains (call_contains hb h0 h1 (wpAny_truthy_bool h))
theorem AK_notIn {i : Int} {t u : Tok} {Q : Value → Shared → Prop} (hb : KBw.bInts b = ks) (h0 : 0 ≤ i) (h1 : i < 256) (h : Q (.bool (!decide (i ∈ ks))) s) : wpAny (model prog w) A (compareOp .NotIn (.int i u) (.bytes b t)) Q E s :=
  NotIn_slot (typeIs_bytes s b t) FB.slot_bytes_contains (call_contains hb h0 h1 (wpAny_truthy_bool h))
theorem ba_own_buffer {a : Addr} {Q : Bool → Shared → Prop} (ho : s.heap.get? a = some (baObj b)) (h : Q true s) : wpAny M A (Builtin.Bytes.slotIsOwn (.ref a) "__buffer__") Q E s := by
  have hT := ba_typeIs ho
  unfold Builtin.Bytes.slotIsOwn
  refine wpAny_bind (wpAny_specialOf hT FA.look_buffer ?_)
  dsimp only
  refine bm_if_false (by decide +kernel) ?_
  have e : ("bytearray.__buffer__".dropRight ("__buffer__".length + 1)) = "bytearray" := by decide +kernel
  rw [e]
  exact wpAny_isInstance hT FA.sub_self h
theorem ba_buffer {a : Addr} {id : String} {full : Bool} {Q : Option (Array UInt8) → Shared → Prop} (ho : s.heap.get? a = some (baObj b)) (h : Q (some b) s) : wpAny M A (Builtin.Bytes.buffer? id (.ref a) full) Q E s := by
  have hT := ba_typeIs ho
  unfold Builtin.Bytes.buffer?
  refine wpAny_bind (wpAny_specialOf hT FA.look_buffer ?_)
  refine wpAny_bind (ba_own_buffer ho ?_)
  refine bm_if_false rfl ?_
  refine wpAny_bind (wpAny_specialOf hT FA.look_buffer ?_)
  refine wpAny_bind (ba_release ho ?_)
  refine bm_if_false rfl ?_
  exact wpAny_bind (any_payload ho (wpAny_pure h))
theorem ba_bytes_new {a : Addr} {Q : Value → Shared → Prop} (ho : s.heap.get? a = some (baObj b)) (hz : b.size ≤ sizeLine) (h : ∀ t k, Q (.bytes b t) { s with toks := k }) :
    codeAny (model prog w) A (.call (.builtin "bytes.__new__") ⟨[.type "bytes", .ref a], []⟩) (wants Q E) s := by
  refine codeAny_of_tree ?_
  show wpAny _ A.in1 (do checkBuiltinCall "bytes.__new__" ⟨[.type "bytes", .ref a], []⟩; again (.builtin "bytes.__new__" ⟨[.type "bytes", .ref a], []⟩)) _ _ s
  refine wpAny_bind (wpAny_of_eq (F.bm_newCall _) (wpAny_pure ⟨plainId_quiet F.bm_plain _, codeAny_builtin F.bm_entry ?_⟩))
  rw [Around.under_plainId F.bm_plain _]
  have hT := ba_typeIs ho
  unfold Builtin.«bytes.__new__»
  refine wpAny_bind (wpAny_of_eq (a := true) rfl ?_)
  refine bm_if_false rfl ?_
  refine wpAny_bind (wpAny_of_eq F.bm_sub ?_)
  refine bm_if_false rfl ?_
  refine wpAny_bind (wpAny_of_eq (F.bm_bind _) ?_)
  refine wpAny_bind (wpAny_of_eq (a := ()) rfl ?_)
  refine wpAny_bind (wpAny_of_eq (a := ()) rfl ?_)
  refine bm_if_false rfl ?_
  refine wpAny_bind (wpAny_specialOf hT FA.ba_no_bytes ?_)
  refine wpAny_bind (wpAny_bind ?_)
  show wpAny _ _ (load a >>= _) _ _ _
  refine wpAny_bind (wpAny_load ho ?_)
  refine wpAny_pure (wpAny_pure ?_)
  refine bm_if_false rfl ?_
  refine wpAny_bind (wpAny_specialOf hT FA.ba_no_index ?_)
  refine bm_if_true rfl ?_
  first
    | show wpAny _ _ (Builtin.Bytes.buffer? "bytes.__new__" (.ref a) true >>= _) _ _ _
    | (refine wpAny_bind ?_; show wpAny _ _ (Builtin.Bytes.buffer? "bytes.__new__" (.ref a) true >>= _) _ _ _)
  refine wpAny_bind (ba_buffer ho ?_)
  dsimp only
  refine wpAny_bind (wpAny_rule ?_)
  refine wpAny_bind (wpAny_mkBytes ?_ hz)
  show wpAny _ _ (if (Value.type "bytes" == Value.type "bytes") = true then _ else _) _ _ _
  refine bm_if_true (by decide) ?_
  first
    | exact wpAny_pure (h _ _)
    | exact wpAny_bind (wpAny_pure (wpAny_pure (h _ _)))
theorem AK_bytes_ba {a : Addr} {Q : Value → Shared → Prop} (ho : s.heap.get? a = some (baObj b)) (hz : b.size ≤ 16777216) (h : ∀ t k, Q (.bytes b t) { s with toks := k }) : wpAny (model prog w) A (call (.type "bytes") [.ref a]) Q E s := by
  refine callType_codes (Q₁ := fun obj s₁ => s₁.TypeIs obj "bytes" ∧ Q obj s₁) F.bm_called (F.bm_typeCall _) F.entry_object_init
    (ba_bytes_new ho (by rw [sizeLine_eq]; exact hz) fun t k => ⟨PySem.W.typeIs_bytes _ _ _, h t k⟩) fun obj s₁ h₁ => ?_
  exact ⟨h₁.1, F.args_object_init_2 obj _, object_init_meets F.bm_called.init.lookup F.bm_called.made (by decide) prog w A.in1 _ s₁ ⟨h₁.1, rfl, h₁.2⟩⟩
end
end Mine
end

section
open PySem PySem.W PyProof.Rows PySem.Calls
set_option maxRecDepth 100000
namespace Mine
open Sem (wp)
/-- a place where the walk is to stop -/
def Blk (p : Prop) : Prop := p
theorem Blk.go {p : Prop} (h : p) : Blk p := h
section
variable {prog : Program} {w : World} {A : Around} {E : Value → Shared → Prop} {s : Shared} {env : Env} {h₀ : Heap} {x : Str} {body : List Stmt} {Q : Flow → Shared → Prop}
/-- how a turn of a loop ends, the ledger open -/
def TurnEnd (h₀ : Heap) (L I : Addr) (fix : List (Addr × Obj)) (s : Shared) (J : (Str → Option Value) → List (Addr × Obj) → Prop) (Q : Flow → Shared → Prop) (f : Flow) (s₂ : Shared) : Prop :=
  match f with
  | .ret v => Q (.ret v) s₂
  | .brk => Q .next s₂
  | _ => ∃ h' tk' m' news', s₂ = { s with heap := h', toks := tk' } ∧ Fr h₀ L h' m' ∧ News h₀ L h' (fix ++ news') ∧ (∀ p ∈ news', p.1 ≠ I) ∧ J m' news'
theorem TurnEnd.of {L I : Addr} {fix : List (Addr × Obj)} {J : (Str → Option Value) → List (Addr × Obj) → Prop} {h' : Heap} {tk tk' : Nat} {hh : Heap} {m' : Str → Option Value} (news' : List (Addr × Obj)) (F : Fr h₀ L h' m') (N : News h₀ L h' (fix ++ news'))
    (hI : ∀ p ∈ news', p.1 ≠ I) (hJ : J m' news') : TurnEnd h₀ L I fix { s with heap := hh, toks := tk } J Q .next { s with heap := h', toks := tk' } := ⟨h', tk', m', news', rfl, F, N, hI, hJ⟩
theorem For_blk {px pos : Pos} {iter : Expr} (h₀ : Heap)
    (h : wpAny (model prog w) A (eval iter env) (fun xv s₁ => Blk (wpAny (model prog w) A (pyIter xv) (fun it s₂ => LoopAtV prog w A h₀ env x body Q (fun _ _ => False) it s₂) (fun _ _ => False) s₁)) (fun _ _ => False) s)
    (hx : env.kindOf x = some .local := by rfl)
    (hp : (env.scope.kind == .class || (env.scope.kind == .module && env.locals != env.globals)) = false := by rfl)
    (hs : ∀ x, foldedSetIterable iter env x = pure x := by intro _; rfl) :
    wpAny (model prog w) A (exec (.For (.Name x px) iter body [] pos) env) Q (fun _ _ => False) s := For_invV h₀ hx hp h hs PassesOwn.never
theorem iter_list {l : Addr} {vs : List Value} {nn : Nat} {m₀ : Str → Option Value} {news : List (Addr × Obj)} (J : Nat → (Str → Option Value) → List (Addr × Obj) → Prop)
    (hh : A.handled = none) (F : Fr h₀ env.locals s.heap m₀) (N : News h₀ env.locals s.heap ((l, listOf vs.toArray nn) :: news)) (hj : J 0 m₀ news)
    (turn : ∀ i v m₁ news₁ h tk I oI, vs[i]? = some v → J i m₁ news₁ → (∀ p ∈ (l, listOf vs.toArray nn) :: news, p.1 < I) → (∀ p ∈ news₁, p.1 ≠ I) → Fr h₀ env.locals h (fun y => if y = x then some v else m₁ y) →
      News h₀ env.locals h ((I, oI) :: (l, listOf vs.toArray nn) :: news₁) →
      wpAny (model prog w) A (execs body env) (TurnEnd h₀ env.locals I [(I, oI), (l, listOf vs.toArray nn)] { s with heap := h, toks := tk } (J (i + 1)) Q) E { s with heap := h, toks := tk })
    (done : ∀ m₁ news₁ h tk, J vs.length m₁ news₁ → Fr h₀ env.locals h m₁ → News h₀ env.locals h ((l, listOf vs.toArray nn) :: news₁) → Q .next { s with heap := h, toks := tk }) :
    wpAny (model prog w) A (pyIter (.ref l)) (fun it s₂ => LoopAtV prog w A h₀ env x body Q E it s₂) E s := by
  have z := N (l, listOf vs.toArray nn) (.head _)
  have hls : s.heap.IsList l vs.toArray := ⟨_, z.1, rfl, _, rfl⟩
  have hlt : l < s.heap.objs.size := Heap.lt_size z.1
  refine wpAny_pyIter_list hls ?_
  have W := Walks.list (prog := prog) (w := w) hh s.heap.objs.size l (Nat.ne_of_lt hlt) vs.toArray
  rw [List.size_toArray] at W
  let J' : Nat → (Str → Option Value) → List (Addr × Obj) → Prop := fun i m₁ news₁ => ∃ rest, news₁ = (l, listOf vs.toArray nn) :: rest ∧ J i m₁ rest
  refine ⟨_, _, _, vs.length, _, _, m₀, (l, listOf vs.toArray nn) :: news, J', rfl, W, ?_, ?_, ?_, ⟨⟨_, Heap.get?_push_size _ rfl, rfl, rfl⟩, hls.at fun o e => Heap.get?_push_of_some _ e⟩, F.push _, (fun p hp => ⟨Heap.get?_push_of_some _ (N p hp).1, (N p hp).2⟩), ⟨_, rfl, hj⟩, ?_, ?_⟩
  · intro hm
    rcases List.mem_cons.mp hm with e | hm
    · exact absurd F.ns.lt (e ▸ Nat.lt_irrefl _)
    · exact z.2.1 (List.mem_singleton.mp hm).symm
  · intro b hb
    rw [List.mem_singleton.mp hb]
    exact next_is_new F
  · intro p hp hI
    exact absurd (Heap.lt_size (N p hp).1) ((List.mem_singleton.mp hI) ▸ Nat.lt_irrefl _)
  · rintro i v m₁ news₁ s₂ own ⟨hh', tk', rfl⟩ hin hP ⟨rest, rfl, hJ⟩ hoff hown hownAt hall _ F₁ N₁
    have hx : vs[i]? = some v := by simpa using hP
    -- the iterator's object
    have hl' : hh'.get? l = some (listOf vs.toArray nn) := (N₁ (l, listOf vs.toArray nn) (List.mem_append_right _ (.head _))).1
    have hIn : h₀.get? s.heap.objs.size = none := next_is_new F
    obtain ⟨oI, hoI⟩ : ∃ oI, hh'.get? s.heap.objs.size = some oI := by
      rename_i st
      obtain ⟨⟨o, ho, _⟩, _⟩ := st
      exact ⟨o, ho⟩
    have hmem : (s.heap.objs.size, oI) ∈ own := hall _ (.head _) hIn _ hoI
    have hLI : (s.heap.objs.size : Addr) ≠ env.locals := Nat.ne_of_gt F.ns.lt
    have hrest : ∀ p ∈ rest, p.1 ≠ s.heap.objs.size := fun p hp q => hoff p (.tail _ hp) (by rw [q]; exact .head _)
    have N₂ : News h₀ env.locals hh' ((s.heap.objs.size, oI) :: (l, listOf vs.toArray nn) :: rest) := fun p hp => by
      rcases List.mem_cons.mp hp with rfl | hp
      · exact ⟨hoI, hLI, hIn⟩
      · exact N₁ p (List.mem_append_right _ hp)
    refine wpAny_mono (turn i v m₁ rest hh' tk' s.heap.objs.size oI hx hJ (fun p hp => Heap.lt_size (N p hp).1) hrest F₁ N₂) (fun f s₃ p => ?_) fun _ _ e => e
    have fin : (∃ h' tk'' m' news', s₃ = { s with heap := h', toks := tk'' } ∧ Fr h₀ env.locals h' m' ∧ News h₀ env.locals h' ([(s.heap.objs.size, oI), (l, listOf vs.toArray nn)] ++ news') ∧ (∀ p ∈ news', p.1 ≠ s.heap.objs.size) ∧ J (i + 1) m' news') →
        LoopStepU h₀ env.locals [s.heap.objs.size] own (J' (i + 1)) { s with heap := hh', toks := tk' } .next s₃ := by
      rintro ⟨h', tk'', m', news', rfl, F', N', hI', hJ'⟩
      refine ⟨rfl, h', tk'', m', (l, listOf vs.toArray nn) :: news', rfl, F', fun p hp => ?_, fun p hp hq => ?_, ⟨_, rfl, hJ'⟩⟩
      · rcases List.mem_append.mp hp with hp | hp
        · have hfp := hown p hp
          rcases List.mem_cons.mp hfp with e | e
          · have : p.2 = oI := by
              have h1 := hownAt p hp
              rw [e] at h1
              exact Option.some.inj (h1.symm.trans hoI)
            have := N' (s.heap.objs.size, oI) (.head _)
            rename_i e2
            rw [show p = (s.heap.objs.size, oI) from Prod.ext e e2]
            exact this
          · have e' := List.mem_singleton.mp e
            have : p.2 = listOf vs.toArray nn := by
              have h1 := hownAt p hp
              rw [e'] at h1
              exact Option.some.inj (h1.symm.trans hl')
            rw [show p = (l, listOf vs.toArray nn) from Prod.ext e' this]
            exact N' _ (.tail _ (.head _))
        · exact N' p (.tail _ hp)
      · have hq' := List.mem_singleton.mp hq
        rcases List.mem_cons.mp hp with rfl | hp
        · exact Nat.ne_of_lt hlt hq'
        · exact hI' p hp hq'
    cases f with
    | ret v => exact .ret p
    | brk => exact .brk p
    | next => exact .next (fin p)
    | cont => exact .cont (fin p)
  · rintro h' tk m' news' F' N' _ ⟨rest, rfl, hJ⟩
    exact done m' rest h' tk hJ F' N'
end
end Mine
end

section
open PySem PySem.W PyProof.Rows PySem.Calls
set_option maxRecDepth 100000
namespace Mine
open Sem (wp)
section
variable {prog : Program} {w : World} {A : Around} {s : Shared} {env : Env} {h₀ : Heap} {x : Str} {px : Pos} {body : List Stmt} {Q : Flow → Shared → Prop} {b : Array UInt8} {tb : Tok} {ks : List Int}
theorem R_For_blk {pos : Pos} {iter : Expr}
    (h : wpAny (model prog w) A (eval iter env) (fun xv s₁ => Blk (wpAny (model prog w) A (pyIter xv) (fun it s₂ => codeR (model prog w) A (.forLoop (.Name x px) it body [] env) Q s₂) (fun _ _ => False) s₁)) (fun _ _ => False) s)
    (hs : ∀ x, foldedSetIterable iter env x = pure x := by intro _; rfl) : wpR (model prog w) A (exec (.For (.Name x px) iter body [] pos) env) Q s := R_For h hs
theorem R_iterBytes {m₀ : Str → Option Value} {news : List (Addr × Obj)} (J : Nat → (Str → Option Value) → List (Addr × Obj) → Prop)
    (hk : KBw.bInts b = ks) (hh : A.handled = none) (F : Fr h₀ env.locals s.heap m₀) (N : News h₀ env.locals s.heap news) (hj : J 0 m₀ news)
    (turn : ∀ i k t m₁ news₁ h tk I oI, ks[i]? = some k → J i m₁ news₁ → (∀ p ∈ news, p.1 < I) → (∀ p ∈ news₁, p.1 ≠ I) → Fr h₀ env.locals h (fun y => if y = x then some (.int k t) else m₁ y) →
      News h₀ env.locals h ((I, oI) :: news₁) →
      wpR (model prog w) A (execs body env) (TurnEnd h₀ env.locals I [(I, oI)] { s with heap := h, toks := tk } (J (i + 1)) Q) { s with heap := h, toks := tk })
    (done : ∀ m₁ news₁ h tk, J ks.length m₁ news₁ → Fr h₀ env.locals h m₁ → News h₀ env.locals h news₁ → Q .next { s with heap := h, toks := tk })
    (hx : env.kindOf x = some .local := by rfl)
    (hp : (env.scope.kind == .class || (env.scope.kind == .module && env.locals != env.globals)) = false := by rfl) :
    wpAny (model prog w) A (pyIter (.bytes b tb)) (fun it s₂ => codeR (model prog w) A (.forLoop (.Name x px) it body [] env) Q s₂) (fun _ _ => False) s := by
  subst hk
  refine KBw.pyIter_bytes ?_
  generalize hI : s.heap.objs.size = I
  have W := KBw.walks (prog := prog) (w := w) hh I b tb
  have hIL : I ≠ env.locals := hI ▸ Nat.ne_of_gt F.ns.lt
  have hIn : h₀.get? I = none := hI ▸ next_is_new F
  have hlt : ∀ p ∈ news, p.1 < I := fun p hp => hI ▸ Heap.lt_size (N p hp).1
  have old : ∀ b o, h₀.get? b = some o → b ∉ [I] := fun b o e hb => by rw [List.mem_singleton.mp hb, hIn] at e; cases e
  refine codeR_for (fun k s' => ∃ h' tk m' news' i, s' = { s with heap := h', toks := tk } ∧ KBw.IsBytesIter h' I b tb i ∧ Fr h₀ env.locals h' m' ∧ News h₀ env.locals h' news' ∧ (∀ p ∈ news', p.1 ≠ I) ∧ J i m' news' ∧ i ≤ b.size ∧ k = b.size + 1 - i) ?_ (b.size + 1)
    ⟨_, _, m₀, news, 0, rfl, ⟨_, hI ▸ Heap.get?_push_size _ rfl, rfl, rfl⟩, F.push _, (fun p hp => ⟨Heap.get?_push_of_some _ (N p hp).1, (N p hp).2⟩), (fun p hp => Nat.ne_of_lt (hlt p hp)), hj, Nat.zero_le _, rfl⟩
  rintro k s' ⟨h', tk, m', news', i, rfl, hst', F', N', hnw', hJ, hi, rfl⟩
  have next : ∀ h₁ : Heap, (∀ b o, b ∉ [I] → h'.get? b = some o → h₁.get? b = some o) → Fr h₀ env.locals h₁ m' ∧ News h₀ env.locals h₁ news' := fun h₁ hk₁ =>
    ⟨⟨F'.ns.at' fun o e => hk₁ _ o (fun q => hIL (List.mem_singleton.mp q).symm) e, fun b o e => hk₁ b o (old b o e) (F'.keep b o e), F'.above⟩, fun p hp => ⟨hk₁ _ _ (fun q => hnw' p hp (List.mem_singleton.mp q)) (N' p hp).1, (N' p hp).2⟩⟩
  by_cases hlt' : i < b.size
  · refine W.item i _ _ _ hlt' hst' fun v h₁ tk₁ hP hst₁ hk₁ => ?_
    obtain ⟨F₁, N₁⟩ := next h₁ hk₁
    obtain ⟨c, u, hc, rfl⟩ := hP
    refine wpAny_storeName_local hx F₁.ns (fun h₂ hn₂ hs₂ => ?_) hp
    have F₂ := F₁.set hn₂ hs₂
    obtain ⟨oI, hoI, hoc, hod⟩ := hst₁
    have hoI₂ : h₂.get? I = some oI := (hs₂.2 I hIL).trans hoI
    have N₂ : News h₀ env.locals h₂ ((I, oI) :: news') := fun p hp => by
      rcases List.mem_cons.mp hp with rfl | hp
      · exact ⟨hoI₂, hIL, hIn⟩
      · exact (N₁.set hs₂) p hp
    have e := KBw.ints_get hc
    refine R_mono (turn i _ u m' news' h₂ _ I oI e hJ hlt hnw' F₂ N₂) (fun f s₃ h₃ => ?_)
    have fin : (∃ h' tk'' m' news', s₃ = { s with heap := h', toks := tk'' } ∧ Fr h₀ env.locals h' m' ∧ News h₀ env.locals h' ([(I, oI)] ++ news') ∧ (∀ p ∈ news', p.1 ≠ I) ∧ J (i + 1) m' news') →
        ∃ m, m < b.size + 1 - i ∧ ∃ h' tk m' news' i, s₃ = { s with heap := h', toks := tk } ∧ KBw.IsBytesIter h' I b tb i ∧ Fr h₀ env.locals h' m' ∧ News h₀ env.locals h' news' ∧ (∀ p ∈ news', p.1 ≠ I) ∧ J i m' news' ∧ i ≤ b.size ∧ m = b.size + 1 - i := by
      rintro ⟨h3, tk3, m3, news3, rfl, F3, N3, hI3, hJ3⟩
      exact ⟨b.size + 1 - (i + 1), by omega, h3, tk3, m3, news3, i + 1, rfl, ⟨oI, (N3 (I, oI) (.head _)).1, hoc, hod⟩, F3, fun p hp => N3 p (.tail _ hp), hI3, hJ3, hlt', rfl⟩
    cases f with
    | ret v => exact h₃
    | brk => exact h₃
    | next => exact fin h₃
    | cont => exact fin h₃
  · have hin : i = b.size := by omega
    subst hin
    refine W.done _ _ _ hst' fun h₁ tk₁ hk₁ => ?_
    obtain ⟨F₁, N₁⟩ := next h₁ hk₁
    rw [KBw.ints_length] at done
    exact done m' news' h₁ tk₁ hJ F₁ N₁
end
end Mine
end

section
open PySem PySem.W PyProof.Rows PySem.Calls
set_option maxRecDepth 100000
namespace Mine
open Sem (wp)
theorem fr_name {h₀ h : Heap} {L : Addr} {m : Str → Option Value} {y : Str} {v : Value} (F : Fr h₀ L h m) (hm : m y = some v) : Fr h₀ L h (fun z => if z = y then some v else m z) := by
  have e : (fun z => if z = y then some v else m z) = m := by
    funext z
    by_cases h : z = y
    · rw [if_pos h, h, hm]
    · rw [if_neg h]
  rw [e]; exact F
/-- under a loop's own name -/
theorem fr_under {h₀ h : Heap} {L : Addr} {m : Str → Option Value} {x y : Str} {v u : Value} (F : Fr h₀ L h (fun z => if z = x then some u else m z)) (hm : m y = some v) :
    Fr h₀ L h (fun z => if z = x then some u else if z = y then some v else m z) := by
  have e : (fun z => if z = x then some u else if z = y then some v else m z) = fun z => if z = x then some u else m z := by
    funext z
    by_cases h : z = x
    · rw [if_pos h, if_pos h]
    · rw [if_neg h, if_neg h]
      by_cases h : z = y
      · rw [if_pos h, h, hm]
      · rw [if_neg h]
  rw [e]; exact F
section
variable {prog : Program} {w : World} {A : Around} {E : Value → Shared → Prop} {s : Shared} {h₀ : Heap} {L : Addr} {m : Str → Option Value} {news : List (Addr × Obj)}
theorem AK_mul1 {l : Addr} {v : Value} {n : Nat} {x : Int} {u : Tok} {Q : Value → Shared → Prop} (F : Fr h₀ L s.heap m) (N : News h₀ L s.heap news) (hl : (l, listOf #[v] n) ∈ news) (h0 : 0 ≤ x) (h1 : x ≤ 16777216)
    (h : ∀ D h', Fr h₀ L h' m → News h₀ L h' ((D, listOf (List.replicate x.toNat v).toArray 0) :: news) → (∀ p ∈ news, p.1 < D) → Q (.ref D) { s with heap := h' }) :
    wpAny (model prog w) A (binaryOp .Mult (.ref l) (.int x u)) Q E s := by
  refine mul_list F N (N _ hl).1 (by omega) (by omega) (by simp; omega) fun h' F' N' => ?_
  rw [listMul_foldl_if, show (#[v] : Array Value).toList = [v] from rfl, lm_rep_flat_one] at N'
  exact h _ h' F' N' fun p hp => Heap.lt_size (N p hp).1
end
theorem intsAre_rep {v : Int} {t : Tok} : ∀ k : Nat, IntsAre (List.replicate k (Value.int v t)) (List.replicate k v)
  | 0 => .nil
  | k + 1 => .cons _ _ (intsAre_rep k)
end Mine
end

section
open PySem PySem.W PyProof.Rows PySem.Calls
set_option maxRecDepth 100000
namespace Mine
theorem news_sub {h₀ h : Heap} {L : Addr} {news news' : List (Addr × Obj)} (N : News h₀ L h news) (hs : ∀ p ∈ news', p ∈ news) : News h₀ L h news' := fun p hp => N p (hs p hp)
theorem row_zero {k : Int} {us : List Value} {a : List Int} {u : Tok} (h : k.fmod 4 = 0) (hus : IntsAre us (a.flatMap runOf)) : IntsAre (us ++ [.int 0 u]) ((a ++ [k]).flatMap runOf) := by
  rw [List.flatMap_append, List.flatMap_singleton]
  have e : runOf k = [0] := by unfold runOf; rw [if_pos h]
  rw [e]
  exact hus.append (.cons _ _ .nil)
theorem row_many {k : Int} {us ws : List Value} {a : List Int} (h : k.fmod 4 ≠ 0) (h5 : k.fmod 5 = 0) (hus : IntsAre us (a.flatMap runOf))
    (hw : IntsAre ws (List.replicate ((k.fdiv 4).fmod 300 + 1).toNat [(k.fdiv 4).fmod 255 + 1]).flatten) : IntsAre (us ++ ws) ((a ++ [k]).flatMap runOf) := by
  rw [List.flatMap_append, List.flatMap_singleton]
  have e : runOf k = List.replicate ((k.fdiv 4).fmod 300 + 1).toNat ((k.fdiv 4).fmod 255 + 1) := by unfold runOf; rw [if_neg h, if_pos h5]
  rw [List.flatten_replicate_singleton] at hw
  rw [e]
  exact hus.append hw
theorem row_one {k : Int} {us ws : List Value} {a : List Int} (h : k.fmod 4 ≠ 0) (h5 : k.fmod 5 ≠ 0) (hus : IntsAre us (a.flatMap runOf))
    (hw : IntsAre ws (List.replicate (Int.toNat 1) [(k.fdiv 4).fmod 255 + 1]).flatten) : IntsAre (us ++ ws) ((a ++ [k]).flatMap runOf) := by
  rw [List.flatMap_append, List.flatMap_singleton]
  have e : runOf k = List.replicate (Int.toNat 1) ((k.fdiv 4).fmod 255 + 1) := by unfold runOf; rw [if_neg h, if_neg h5]
  rw [List.flatten_replicate_singleton] at hw
  rw [e]
  exact hus.append hw
end Mine
end

section
open PySem PySem.W PyProof.Rows PySem.Calls
set_option maxRecDepth 100000
namespace Mine
section
variable {prog : Program} {w : World} {A : Around} {s : Shared} {env : Env} {h₀ : Heap} {x : Str} {px : Pos} {body : List Stmt} {Q : Flow → Shared → Prop}
theorem R_iterList {l : Addr} {vs : List Value} {nn : Nat} {m₀ : Str → Option Value} {news : List (Addr × Obj)} (J : Nat → (Str → Option Value) → List (Addr × Obj) → Prop)
    (hh : A.handled = none) (F : Fr h₀ env.locals s.heap m₀) (N : News h₀ env.locals s.heap ((l, listOf vs.toArray nn) :: news)) (hj : J 0 m₀ news)
    (turn : ∀ i v m₁ news₁ h tk I oI, vs[i]? = some v → J i m₁ news₁ → (∀ p ∈ (l, listOf vs.toArray nn) :: news, p.1 < I) → (∀ p ∈ news₁, p.1 ≠ I) → Fr h₀ env.locals h (fun y => if y = x then some v else m₁ y) →
      News h₀ env.locals h ((I, oI) :: (l, listOf vs.toArray nn) :: news₁) →
      wpR (model prog w) A (execs body env) (TurnEnd h₀ env.locals I [(I, oI), (l, listOf vs.toArray nn)] { s with heap := h, toks := tk } (J (i + 1)) Q) { s with heap := h, toks := tk })
    (done : ∀ m₁ news₁ h tk, J vs.length m₁ news₁ → Fr h₀ env.locals h m₁ → News h₀ env.locals h ((l, listOf vs.toArray nn) :: news₁) → Q .next { s with heap := h, toks := tk })
    (hx : env.kindOf x = some .local := by rfl)
    (hp : (env.scope.kind == .class || (env.scope.kind == .module && env.locals != env.globals)) = false := by rfl) :
    wpAny (model prog w) A (pyIter (.ref l)) (fun it s₂ => codeR (model prog w) A (.forLoop (.Name x px) it body [] env) Q s₂) (fun _ _ => False) s := by
  have z := N (l, listOf vs.toArray nn) (.head _)
  have hls : s.heap.IsList l vs.toArray := ⟨_, z.1, rfl, _, rfl⟩
  have hlt : l < s.heap.objs.size := Heap.lt_size z.1
  refine wpAny_pyIter_list hls ?_
  generalize hI : s.heap.objs.size = I
  rw [hI] at hlt
  have W := Walks.list (prog := prog) (w := w) hh I l (Nat.ne_of_lt hlt) vs.toArray
  rw [List.size_toArray] at W
  have hIL : I ≠ env.locals := hI ▸ Nat.ne_of_gt F.ns.lt
  have hIn : h₀.get? I = none := hI ▸ next_is_new F
  have hltN : ∀ p ∈ (l, listOf vs.toArray nn) :: news, p.1 < I := fun p hp => hI ▸ Heap.lt_size (N p hp).1
  have old : ∀ b o, h₀.get? b = some o → b ∉ [I] := fun b o e hb => by rw [List.mem_singleton.mp hb, hIn] at e; cases e
  refine codeR_for (fun k s' => ∃ h' tk m' news' i, s' = { s with heap := h', toks := tk } ∧ (h'.IsListIter I l i ∧ h'.IsList l vs.toArray) ∧ Fr h₀ env.locals h' m' ∧ News h₀ env.locals h' ((l, listOf vs.toArray nn) :: news') ∧ (∀ p ∈ news', p.1 ≠ I) ∧ J i m' news' ∧ i ≤ vs.length ∧ k = vs.length + 1 - i) ?_ (vs.length + 1)
    ⟨_, _, m₀, news, 0, rfl, ⟨⟨_, hI ▸ Heap.get?_push_size _ rfl, rfl, rfl⟩, hls.at fun o e => Heap.get?_push_of_some _ e⟩, F.push _, (fun p hp => ⟨Heap.get?_push_of_some _ (N p hp).1, (N p hp).2⟩), (fun p hp => Nat.ne_of_lt (hltN p (.tail _ hp))), hj, Nat.zero_le _, rfl⟩
  rintro k s' ⟨h', tk, m', news', i, rfl, hst', F', N', hnw', hJ, hi, rfl⟩
  have hnw2 : ∀ p ∈ (l, listOf vs.toArray nn) :: news', p.1 ≠ I := fun p hp => by
    rcases List.mem_cons.mp hp with rfl | hp
    · exact Nat.ne_of_lt hlt
    · exact hnw' p hp
  have next : ∀ h₁ : Heap, (∀ b o, b ∉ [I] → h'.get? b = some o → h₁.get? b = some o) → Fr h₀ env.locals h₁ m' ∧ News h₀ env.locals h₁ ((l, listOf vs.toArray nn) :: news') := fun h₁ hk₁ =>
    ⟨⟨F'.ns.at' fun o e => hk₁ _ o (fun q => hIL (List.mem_singleton.mp q).symm) e, fun b o e => hk₁ b o (old b o e) (F'.keep b o e), F'.above⟩, fun p hp => ⟨hk₁ _ _ (fun q => hnw2 p hp (List.mem_singleton.mp q)) (N' p hp).1, (N' p hp).2⟩⟩
  by_cases hlt' : i < vs.length
  · refine W.item i _ _ _ hlt' hst' fun v h₁ tk₁ hP hst₁ hk₁ => ?_
    obtain ⟨F₁, N₁⟩ := next h₁ hk₁
    have e : vs[i]? = some v := by simpa using hP
    refine wpAny_storeName_local hx F₁.ns (fun h₂ hn₂ hs₂ => ?_) hp
    have F₂ := F₁.set hn₂ hs₂
    obtain ⟨oI, hoI, hoc, hod⟩ := hst₁.1
    have hoI₂ : h₂.get? I = some oI := (hs₂.2 I hIL).trans hoI
    have N₂ : News h₀ env.locals h₂ ((I, oI) :: (l, listOf vs.toArray nn) :: news') := fun p hp => by
      rcases List.mem_cons.mp hp with rfl | hp
      · exact ⟨hoI₂, hIL, hIn⟩
      · exact (N₁.set hs₂) p hp
    refine R_mono (turn i _ m' news' h₂ _ I oI e hJ hltN hnw' F₂ N₂) (fun f s₃ h₃ => ?_)
    have fin : (∃ h' tk'' m' news', s₃ = { s with heap := h', toks := tk'' } ∧ Fr h₀ env.locals h' m' ∧ News h₀ env.locals h' ([(I, oI), (l, listOf vs.toArray nn)] ++ news') ∧ (∀ p ∈ news', p.1 ≠ I) ∧ J (i + 1) m' news') →
        ∃ m, m < vs.length + 1 - i ∧ ∃ h' tk m' news' i, s₃ = { s with heap := h', toks := tk } ∧ (h'.IsListIter I l i ∧ h'.IsList l vs.toArray) ∧ Fr h₀ env.locals h' m' ∧ News h₀ env.locals h' ((l, listOf vs.toArray nn) :: news') ∧ (∀ p ∈ news', p.1 ≠ I) ∧ J i m' news' ∧ i ≤ vs.length ∧ m = vs.length + 1 - i := by
      rintro ⟨h3, tk3, m3, news3, rfl, F3, N3, hI3, hJ3⟩
      exact ⟨vs.length + 1 - (i + 1), by omega, h3, tk3, m3, news3, i + 1, rfl, ⟨⟨oI, (N3 (I, oI) (.head _)).1, hoc, hod⟩, ⟨_, (N3 (l, listOf vs.toArray nn) (.tail _ (.head _))).1, rfl, _, rfl⟩⟩, F3, fun p hp => N3 p (.tail _ hp), hI3, hJ3, hlt', rfl⟩
    cases f with
    | ret v => exact h₃
    | brk => exact h₃
    | next => exact fin h₃
    | cont => exact fin h₃
  · have hin : i = vs.length := by omega
    subst hin
    refine W.done _ _ _ hst' fun h₁ tk₁ hk₁ => ?_
    obtain ⟨F₁, N₁⟩ := next h₁ hk₁
    exact done m' news' h₁ tk₁ hJ F₁ N₁
end
section
variable {prog : Program} {w : World} {A : Around} {E : Value → Shared → Prop} {s : Shared} {h₀ : Heap} {L : Addr} {news : List (Addr × Obj)}
theorem AK_last {value slice : PySem.Expr} {l : Addr} {vs : List Value} {n : Nat} {u : Tok} {v : Value} {Q : Value → Shared → Prop} (N : News h₀ L s.heap news) (hl : (l, listOf (vs ++ [v]).toArray n) ∈ news) (h : Q v s)
    (hs : subscripted slice false (.ref l) (.int (-1) u) = operate [.ref l, .int (-1) u] (getItem (.ref l) (.int (-1) u)) := by with_unfolding_all rfl) :
    wpAny (model prog w) A (subscriptTail value slice (.ref l) (.int (-1) u)) Q E s := by
  have hls := News.isList N hl
  have hj : seqIndex? (-1) (vs ++ [v]).length = some vs.length := by
    unfold seqIndex?
    rw [List.length_append, List.length_singleton]
    have e : ((-1 : Int) + ((vs.length + 1 : Nat) : Int)) = (vs.length : Int) := by omega
    rw [if_pos (by decide : (-1 : Int) < 0), e]
    dsimp only
    rw [if_pos (by rw [Bool.and_eq_true, decide_eq_true_iff, decide_eq_true_iff]; omega)]
    rfl
  have hx : (vs ++ [v])[vs.length]? = some v := by simp
  exact kde_neg (j := vs.length) hls (by omega) (by omega) hj hx h hs
end
/-- the ledger's part of the closed stretches -/
inductive PartsAre : List (Addr × Obj) → List (List Int) → Prop
  | nil : PartsAre [] []
  | cons {a : Addr} {us : List Value} {n : Nat} {p : List Int} {r : List (Addr × Obj)} {ps : List (List Int)} : IntsAre us p → PartsAre r ps → PartsAre ((a, listOf us.toArray n) :: r) (p :: ps)
theorem PartsAre.snoc {a : Addr} {us : List Value} {n : Nat} {p : List Int} (hu : IntsAre us p) : ∀ {r : List (Addr × Obj)} {ps : List (List Int)}, PartsAre r ps → PartsAre (r ++ [(a, listOf us.toArray n)]) (ps ++ [p])
  | _, _, .nil => .cons hu .nil
  | _, _, .cons h r => .cons h (r.snoc hu)
theorem PartsAre.length : ∀ {r : List (Addr × Obj)} {ps : List (List Int)}, PartsAre r ps → r.length = ps.length
  | _, _, .nil => rfl
  | _, _, .cons _ r => congrArg (· + 1) r.length
theorem PartsAre.at : ∀ {r : List (Addr × Obj)} {ps : List (List Int)}, PartsAre r ps → ∀ (i : Nat) (q : Addr × Obj), r[i]? = some q → ∃ us n p, q.2 = listOf us.toArray n ∧ IntsAre us p ∧ ps[i]? = some p
  | _, _, .nil, _, _, e => nomatch e
  | _, _, .cons (us := us) (n := n) (p := p) h _, 0, q, e => by
    rw [List.getElem?_cons_zero] at e
    exact ⟨us, n, p, by rw [← Option.some.inj e], h, rfl⟩
  | _, _, .cons _ r, i + 1, q, e => by
    rw [List.getElem?_cons_succ] at e ⊢
    exact r.at i q e
end Mine
end

section
open PySem PySem.W PyProof.Rows PySem.Calls
set_option maxRecDepth 100000
namespace Mine
def refs (objs : List (Addr × Obj)) : List Value := objs.map fun p => Value.ref p.1
theorem refs_snoc (objs : List (Addr × Obj)) (a : Addr) (o : Obj) : refs (objs ++ [(a, o)]) = refs objs ++ [Value.ref a] := by simp [refs]
/-- between the turns of the second loop -/
def J2 (rw0 P : Addr) (row : List Int) (i : Nat) (m : Str → Option Value) (news : List (Addr × Obj)) : Prop :=
  ∃ (objs : List (Addr × Obj)) (cl : Addr) (us : List Value) (n np : Nat), m (Str.ofString "row") = some (.ref rw0) ∧ m (Str.ofString "parts") = some (.ref P) ∧ news = (cl, listOf us.toArray n) :: (P, listOf (refs objs ++ [Value.ref cl]).toArray np) :: objs ∧
    PartsAre objs (splitZ (row.take i)).1 ∧ IntsAre us (splitZ (row.take i)).2 ∧ @Ne Nat P cl ∧ @Ne Nat rw0 cl ∧ @Ne Nat rw0 P ∧ (∀ p ∈ objs, p.1 ≠ cl) ∧ (∀ p ∈ objs, p.1 ≠ P) ∧ (∀ p ∈ objs, p.1 ≠ rw0)
theorem split_len (row : List Int) : (splitZ row).2.length ≤ row.length ∧ (splitZ row).1.length ≤ row.length := by
  induction row using snoc_ind with
  | h0 => exact ⟨Nat.le_refl _, Nat.le_refl _⟩
  | h1 l c ih =>
    rw [splitZ_snoc]
    unfold splitStep
    split
    · dsimp only
      simp only [List.length_append, List.length_cons, List.length_nil]
      omega
    · dsimp only
      simp only [List.length_append, List.length_cons, List.length_nil]
      omega
theorem allLt_ne {d : Nat} : ∀ {l : List (Addr × Obj)}, AllLt d l → ∀ p ∈ l, p.1 ≠ d
  | [], _, _, hp => nomatch hp
  | _ :: _, h, p, hp => by
    rcases List.mem_cons.mp hp with rfl | hp
    · exact Nat.ne_of_lt h.1
    · exact allLt_ne h.2 p hp
section
variable {h₀ h' : Heap} {L : Addr} {l' I rw0 cl P : Addr} {oI orow : Obj} {us2 : List Value} {n2 np i : Nat} {objs : List (Addr × Obj)} {row : List Int} {m : Str → Option Value} {k : Int} {t : Tok}
theorem end2a (N : News h₀ L h' ((l', listOf #[] 0) :: (I, oI) :: (rw0, orow) :: (cl, listOf us2.toArray n2) :: (P, listOf ((refs objs ++ [Value.ref cl]).toArray.push (Value.ref l')) (np + 1)) :: objs)) :
    News h₀ L h' ([(I, oI), (rw0, orow)] ++ ((l', listOf ([] : List Value).toArray 0) :: (P, listOf (refs (objs ++ [(cl, listOf us2.toArray n2)]) ++ [Value.ref l']).toArray (np + 1)) :: (objs ++ [(cl, listOf us2.toArray n2)]))) := by
  rw [List.push_toArray] at N
  rw [refs_snoc]
  refine news_sub N (fun p hp => ?_)
  simp only [List.mem_append, List.mem_cons, List.not_mem_nil, or_false] at hp ⊢
  rcases hp with (rfl | rfl) | rfl | rfl | hp | rfl
  · simp
  · simp
  · simp
  · simp
  · simp [hp]
  · simp
theorem ne2a (d1 : @Ne Nat P cl) (e1 : @Ne Nat cl I) (e2 : @Ne Nat P I) (e3 : ∀ p ∈ objs, p.1 ≠ I) (l1 : I < l') {o1 o2 o3 : Obj} : ∀ p ∈ (l', o1) :: (P, o2) :: (objs ++ [(cl, o3)]), p.1 ≠ I := by
  intro p hp
  simp only [List.mem_append, List.mem_cons, List.not_mem_nil, or_false] at hp
  rcases hp with rfl | rfl | hp | rfl
  · exact Nat.ne_of_gt l1
  · exact e2
  · exact e3 p hp
  · exact e1
theorem j2a (hrow : m (Str.ofString "row") = some (.ref rw0)) (hparts : m (Str.ofString "parts") = some (.ref P)) (hsnoc : row.take (i + 1) = row.take i ++ [k]) (h0 : k = 0)
    (hpa : PartsAre objs (splitZ (row.take i)).1) (hus : IntsAre us2 (splitZ (row.take i)).2) (d1 : @Ne Nat P cl) (d2 : @Ne Nat rw0 cl) (d3 : @Ne Nat rw0 P) (d4 : ∀ p ∈ objs, p.1 ≠ cl) (d5 : ∀ p ∈ objs, p.1 ≠ P) (d6 : ∀ p ∈ objs, p.1 ≠ rw0)
    (l1 : I < l' ∧ rw0 < l' ∧ cl < l' ∧ P < l' ∧ AllLt l' objs) :
    J2 rw0 P row (i + 1) m ((l', listOf ([] : List Value).toArray 0) :: (P, listOf (refs (objs ++ [(cl, listOf us2.toArray n2)]) ++ [Value.ref l']).toArray (np + 1)) :: (objs ++ [(cl, listOf us2.toArray n2)])) := by
  have e2 : splitZ (row.take (i + 1)) = ((splitZ (row.take i)).1 ++ [(splitZ (row.take i)).2], []) := by rw [hsnoc, splitZ_snoc, h0]; rfl
  obtain ⟨a1, a2, a3, a4, a5⟩ := l1
  have a5 := allLt_ne a5
  refine ⟨objs ++ [(cl, listOf us2.toArray n2)], l', [], 0, np + 1, hrow, hparts, rfl, by rw [e2]; exact hpa.snoc hus, by rw [e2]; exact .nil, Nat.ne_of_lt a4, Nat.ne_of_lt a2, d3, ?_, ?_, ?_⟩
  · intro p hp
    rcases List.mem_append.mp hp with hp | hp
    · exact a5 p hp
    · rw [List.mem_singleton.mp hp]; exact Nat.ne_of_lt a3
  · intro p hp
    rcases List.mem_append.mp hp with hp | hp
    · exact d5 p hp
    · rw [List.mem_singleton.mp hp]; exact d1.symm
  · intro p hp
    rcases List.mem_append.mp hp with hp | hp
    · exact d6 p hp
    · rw [List.mem_singleton.mp hp]; exact d2.symm
theorem j2b (hrow : m (Str.ofString "row") = some (.ref rw0)) (hparts : m (Str.ofString "parts") = some (.ref P)) (hsnoc : row.take (i + 1) = row.take i ++ [k]) (h0 : k ≠ 0)
    (hpa : PartsAre objs (splitZ (row.take i)).1) (hus : IntsAre us2 (splitZ (row.take i)).2) (d1 : @Ne Nat P cl) (d2 : @Ne Nat rw0 cl) (d3 : @Ne Nat rw0 P) (d4 : ∀ p ∈ objs, p.1 ≠ cl) (d5 : ∀ p ∈ objs, p.1 ≠ P) (d6 : ∀ p ∈ objs, p.1 ≠ rw0) :
    J2 rw0 P row (i + 1) m ((cl, listOf (us2.toArray.push (Value.int k t)) (n2 + 1)) :: (P, listOf (refs objs ++ [Value.ref cl]).toArray np) :: objs) := by
  have e2 : splitZ (row.take (i + 1)) = ((splitZ (row.take i)).1, (splitZ (row.take i)).2 ++ [k]) := by rw [hsnoc, splitZ_snoc]; unfold splitStep; rw [if_neg h0]
  exact ⟨objs, cl, us2 ++ [.int k t], n2 + 1, np, hrow, hparts, by rw [List.push_toArray], by rw [e2]; exact hpa, by rw [e2]; exact hus.append (.cons _ _ .nil), d1, d2, d3, d4, d5, d6⟩
end
end Mine
end

section
open PySem PySem.W PyProof.Rows PySem.Calls
set_option maxRecDepth 100000
set_option linter.unusedVariables false
namespace Mine
theorem refs_at : ∀ {objs : List (Addr × Obj)} {i : Nat} {v : Value}, (refs objs)[i]? = some v → ∃ q, objs[i]? = some q ∧ v = .ref q.1
  | objs, i, v, h => by
    unfold refs at h
    rw [List.getElem?_map] at h
    cases e : objs[i]? with
    | none => rw [e] at h; cases h
    | some q => rw [e] at h; exact ⟨q, rfl, (Option.some.inj h).symm⟩
theorem part_at {objs : List (Addr × Obj)} {cl : Addr} {us2 : List Value} {n2 : Nat} {cs : List (List Int)} {last : List Int} (hpa : PartsAre objs cs) (hus2 : IntsAre us2 last) (d4 : ∀ p ∈ objs, p.1 ≠ cl) {i : Nat} {v : Value}
    (hv : (refs objs ++ [Value.ref cl])[i]? = some v) : ∃ pa ps pn p, v = .ref pa ∧ (pa, listOf ps.toArray pn) ∈ (cl, listOf us2.toArray n2) :: objs ∧ IntsAre ps p ∧ (cs ++ [last])[i]? = some p ∧ (pa = cl → i = cs.length ∧ p = last) := by
  have hl : (refs objs).length = cs.length := by rw [← hpa.length]; simp [refs]
  by_cases h : i < (refs objs).length
  · rw [List.getElem?_append_left h] at hv
    obtain ⟨q, hq, rfl⟩ := refs_at hv
    obtain ⟨ps, pn, p, e, hi, hc⟩ := hpa.at i q hq
    have hm : q ∈ objs := List.mem_of_getElem? hq
    refine ⟨q.1, ps, pn, p, rfl, .tail _ ?_, hi, ?_, fun e => absurd e (d4 q hm)⟩
    · rw [← e]; exact hm
    · rw [List.getElem?_append_left (by omega)]; exact hc
  · rw [List.getElem?_append_right (by omega)] at hv
    have hz : i - (refs objs).length = 0 := by
      rcases Nat.eq_zero_or_pos (i - (refs objs).length) with h | h
      · exact h
      · rw [List.getElem?_eq_none (by rw [List.length_singleton]; omega)] at hv; cases hv
    rw [hz] at hv
    have hi : i = cs.length := by omega
    refine ⟨cl, us2, n2, last, (Option.some.inj hv).symm, .head _, hus2, ?_, fun _ => ⟨hi, rfl⟩⟩
    rw [List.getElem?_append_right (by omega), hi, Nat.sub_self]
    rfl
/-- what is due behind i parts -/
structure D3 (cs : List (List Int)) (last : List Int) (i : Nat) (ds : List Int) : Prop where
  oct : Oct ds
  len : ds.length ≤ tot ((cs ++ [last]).take i)
  eq : (i ≤ cs.length ∨ last.length < 254) → ds = ((cs ++ [last]).take i).flatMap cutN
/-- what is due within part p, q of it left -/
structure W3 (cs : List (List Int)) (last : List Int) (i : Nat) (p ds q : List Int) : Prop where
  oct : Oct ds
  octq : Oct q
  len : ds.length + 2 * q.length ≤ tot ((cs ++ [last]).take i) + 2 * p.length
  eq : (i < cs.length ∨ last.length < 254) → ds ++ cutN q = ((cs ++ [last]).take i).flatMap cutN ++ cutN p
theorem W3.start {cs : List (List Int)} {last : List Int} {i : Nat} {ds p : List Int} (D : D3 cs last i ds) (hp : Oct p) : W3 cs last i p ds p :=
  ⟨D.oct, hp, by have := D.len; omega, fun h => by rw [D.eq (h.imp Nat.le_of_lt id)]⟩
theorem W3.cut {cs : List (List Int)} {last : List Int} {i : Nat} {ds p q : List Int} (W : W3 cs last i p ds q) (h : 254 ≤ q.length) : W3 cs last i p (ds ++ ([255] ++ q.take 254)) (q.drop 254) := by
  refine ⟨W.oct.append (Oct.append (fun k hk => by rw [List.mem_singleton.mp hk]; omega) fun k hk => W.octq k (List.mem_of_mem_take hk)), fun k hk => W.octq k (List.mem_of_mem_drop hk), ?_, fun hc => ?_⟩
  · have := W.len
    simp only [List.length_append, List.length_cons, List.length_nil, List.length_take, List.length_drop]
    omega
  · rw [← W.eq hc, List.append_assoc, cutN.eq_1 q, dif_pos h]
    simp
theorem W3.out {cs : List (List Int)} {last : List Int} {i : Nat} {ds p q : List Int} (W : W3 cs last i p ds q) (hi : (cs ++ [last])[i]? = some p) (h : q.length ≤ 254) (h4 : q.length = 254 → i = cs.length ∧ q = last) :
    D3 cs last (i + 1) (ds ++ ([(q.length : Int) + 1] ++ q)) := by
  have hs : (cs ++ [last]).take (i + 1) = (cs ++ [last]).take i ++ [p] := by rw [List.take_add_one, hi]; rfl
  refine ⟨W.oct.append (Oct.append (fun k hk => by rw [List.mem_singleton.mp hk]; omega) W.octq), ?_, fun hc => ?_⟩
  · rw [hs, tot_snoc]
    have := W.len
    simp only [List.length_append, List.length_cons, List.length_nil]
    omega
  · rw [hs, List.flatMap_append, List.flatMap_singleton]
    have hlt : q.length < 254 := by
      rcases Nat.lt_or_ge q.length 254 with h | h'
      · exact h
      · obtain ⟨e1, e2⟩ := h4 (by omega)
        subst e2
        omega
    rw [← W.eq (by omega), cutN_small hlt]
    rfl
theorem D3.zero (cs : List (List Int)) (last : List Int) : D3 cs last 0 [] := ⟨Oct.nil, Nat.zero_le _, fun _ => rfl⟩
theorem tot_take (ps : List (List Int)) (i : Nat) : tot (ps.take i) ≤ tot ps := by
  have h : tot (ps.take i) + tot (ps.drop i) = tot ps := by
    rw [tot, tot, tot, ← List.sum_append, ← List.map_append, List.take_append_drop]
  omega
end Mine
end

section
open PySem PySem.W PyProof.Rows PySem.Calls
set_option maxRecDepth 100000
set_option linter.unusedVariables false
namespace Mine
def J3 (rw0 P du cl : Addr) (orow ocl : Obj) (objs : List (Addr × Obj)) (cs : List (List Int)) (last : List Int) (i : Nat) (m : Str → Option Value) (news : List (Addr × Obj)) : Prop :=
  ∃ (vs : List Value) (n : Nat) (ds : List Int), m (Str.ofString "row") = some (.ref rw0) ∧ m (Str.ofString "parts") = some (.ref P) ∧ m (Str.ofString "due") = some (.ref du) ∧
    news = (du, listOf vs.toArray n) :: (rw0, orow) :: (cl, ocl) :: objs ∧ IntsAre vs ds ∧ D3 cs last i ds
def WI3 (h₀ : Heap) (L I : Addr) (oI oP : Obj) (rw0 P du cl : Addr) (orow ocl : Obj) (objs : List (Addr × Obj)) (cs : List (List Int)) (last : List Int) (i : Nat) (p : List Int) (s : Shared) (n : Nat) (s' : Shared) : Prop :=
  ∃ (h' : Heap) (tk : Nat) (m' : Str → Option Value) (qa : Addr) (qs : List Value) (qn : Nat) (q : List Int) (vs : List Value) (nd : Nat) (ds : List Int), s' = { s with heap := h', toks := tk } ∧ Fr h₀ L h' m' ∧
    News h₀ L h' ((I, oI) :: (P, oP) :: (qa, listOf qs.toArray qn) :: (du, listOf vs.toArray nd) :: (rw0, orow) :: (cl, ocl) :: objs) ∧
    m' (Str.ofString "row") = some (.ref rw0) ∧ m' (Str.ofString "parts") = some (.ref P) ∧ m' (Str.ofString "due") = some (.ref du) ∧ m' (Str.ofString "part") = some (.ref qa) ∧
    IntsAre qs q ∧ IntsAre vs ds ∧ W3 cs last i p ds q ∧ (qa = cl → i = cs.length ∧ q = last) ∧ @Ne Nat qa du ∧ n = q.length
theorem AK_isNot {M : Model} {A : Around} {E : Value → Shared → Prop} {s : Shared} {x y : Addr} {ox oy : Obj} {Q : Value → Shared → Prop} (hx : s.heap.get? x = some ox) (hy : s.heap.get? y = some oy) (hb : ox.cls ≠ Value.type "tuple")
    (h1 : x = y → Q (.bool false) s) (h2 : x ≠ y → Q (.bool true) s) : wpAny M A (compareOp .IsNot (.ref x) (.ref y)) Q E s := by
  by_cases h : x = y
  · have q := h1 h
    clear h1 h2
    subst h
    exact isnot_ref_same q
  · exact kto_isnot hx hy h hb (h2 h)
section
variable {h₀ h : Heap} {L : Addr} {a b c d i p q x y z : Addr × Obj} {r : List (Addr × Obj)}
theorem sub3 (N : News h₀ L h (a :: b :: c :: d :: i :: p :: q :: r)) : News h₀ L h (i :: p :: a :: r) := by
  refine news_sub N fun x hx => ?_
  simp only [List.mem_cons] at hx ⊢
  rcases hx with rfl | rfl | rfl | hx
  · simp
  · simp
  · simp
  · simp [hx]
theorem sub3b (N : News h₀ L h (a :: b :: i :: p :: q :: r)) : News h₀ L h (i :: p :: r) := by
  refine news_sub N fun x hx => ?_
  simp only [List.mem_cons] at hx ⊢
  rcases hx with rfl | rfl | hx
  · simp
  · simp
  · simp [hx]
theorem sub3c (N : News h₀ L h (i :: p :: x :: y :: r)) (hq : q ∈ r) : News h₀ L h (i :: p :: q :: x :: y :: r) := by
  refine news_sub N fun z hz => ?_
  simp only [List.mem_cons] at hz ⊢
  rcases hz with rfl | rfl | rfl | rfl | rfl | hz
  · simp
  · simp
  · simp [hq]
  · simp
  · simp
  · simp [hz]
end
end Mine
end

section
open PySem PySem.W PyProof.Rows PySem.Calls
set_option maxRecDepth 100000
set_option linter.unusedVariables false
namespace Mine
section
variable {M : Model} {A : Around} {s : Shared}
theorem R_callWith_fn1B {pos : Pos} {a : Addr} {t : Sem Value} {Q : Value → Shared → Prop}
    (h : wpAny M A t (fun v s₁ => Blk ((∃ o fd, s₁.heap.get? a = some o ∧ o.data = .func fd) ∧ wpR M A (call (.ref a) [v]) Q s₁)) (fun _ _ => False) s) :
    wpR M A (callWith pos (.ref a) [] [(false, t)] []) Q s := R_callWith_fn1 h
theorem fn_there {K : Frag} {h : Heap} {f : Addr} {oc : Value} {od : Option Addr} {fd : FuncData} {osl : Array (Option Value)} (X : K.In h) (hl : K.lookup f = some ⟨oc, od, .func fd, osl⟩) : ∃ o fd, h.get? f = some o ∧ o.data = .func fd := ⟨_, _, X _ _ hl, rfl⟩
end
theorem D3.all {cs : List (List Int)} {last ds : List Int} (D : D3 cs last (cs.length + 1) ds) : Oct ds ∧ ds.length ≤ tot (cs ++ [last]) ∧ (last.length < 254 → ds = cs.flatMap cutN ++ cutN last) := by
  have e : (cs ++ [last]).take (cs.length + 1) = cs ++ [last] := List.take_of_length_le (by simp)
  obtain ⟨h1, h2, h3⟩ := D
  rw [e] at h2 h3
  exact ⟨h1, h2, fun h => by rw [h3 (.inr h)]; simp⟩
end Mine
end

section
open PySem PySem.W PyProof.Rows PySem.Calls
set_option maxRecDepth 100000
set_option linter.unusedVariables false
namespace Mine
section
variable {prog : Program} {w : World} {A : Around} {s : Shared} {env : Env}
theorem R_method1B {o e : Expr} {name : Str} {apos pos : Pos} {T id : String} {Q : Value → Shared → Prop}
    (pa : PlainAttrs T) (slot : Slot T name id) (hty : typeOf (.builtin id) = pure (.type "method_descriptor"))
    (h : wpAny (model prog w) A (eval o env) (fun ov s₁ => Blk (s₁.TypeIs ov T ∧ (∀ a, ov = .ref a → ∃ ob, s₁.heap.get? a = some ob ∧ ob.dict = none) ∧
      wpAny (model prog w) A (eval e env) (fun v s₂ => wpR (model prog w) A (call (.builtin id) [ov, v]) Q s₂) (fun _ _ => False) s₁)) (fun _ _ => False) s)
    (hbase : attributeBase o name env (eval o env) = eval o env := by rfl)
    (hs : starEach [e] env = [(false, eval e env)] := by rfl)
    (hline : (apos.endLine == pos.line) = true := by rfl) :
    wpR (model prog w) A (eval (.Call (.Attribute o name apos) [e] [] pos) env) Q s := R_method1 pa slot hty h hbase hs hline
theorem ba_nodict {h : Heap} {a : Addr} {b : Array UInt8} (ho : h.get? a = some (baObj b)) : ∀ x, Value.ref a = .ref x → ∃ ob, h.get? x = some ob ∧ ob.dict = none := by
  intro x e
  cases e
  exact ⟨_, ho, rfl⟩
end
/-- between the turns of encode's loop -/
def JE (BA : Addr) (bin : Value) (rest : List (Addr × Obj)) (row : List Int) (i : Nat) (m : Str → Option Value) (news : List (Addr × Obj)) : Prop :=
  ∃ (b : Array UInt8) (ti ts : Tok) (bs : List (List Int)) (cur : List Int) (fz : Bool), m (Str.ofString "in_bytes_mv") = some bin ∧ m (Str.ofString "out_bytes") = some (.ref BA) ∧ m (Str.ofString "final_zero") = some (.bool fz) ∧
    m (Str.ofString "idx") = some (.int i ti) ∧ m (Str.ofString "search_start_idx") = some (.int ((i : Int) - (cur.length : Int)) ts) ∧ news = (BA, baObj b) :: rest ∧ KBw.bInts b = bs.flatMap blk ∧ enc (row.take i) = (bs, cur, fz)
theorem EncOk.at {row : List Int} (ho : Oct row) {i : Nat} {bs : List (List Int)} {cur : List Int} {fz : Bool} (h : enc (row.take i) = (bs, cur, fz)) : EncOk (row.take i) bs cur fz := by
  have E := encOk (row.take i) fun k hk => ho k (List.mem_of_mem_take hk)
  rw [h] at E
  exact E
theorem EncOk.le {pre : List Int} {bs : List (List Int)} {cur : List Int} {fz : Bool} (E : EncOk pre bs cur fz) : cur.length ≤ pre.length := by
  rw [← E.dec, List.length_append]; omega
theorem EncOk.tail {pre : List Int} {bs : List (List Int)} {cur : List Int} {fz : Bool} (E : EncOk pre bs cur fz) : pre.drop (pre.length - cur.length) = cur := by
  have e : pre.length - cur.length = (bs.flatMap zed).length := by rw [← E.dec, List.length_append]; omega
  rw [e]
  conv => lhs; rw [← E.dec]
  rw [List.drop_left]
theorem cutA {row : List Int} {i : Nat} {bs : List (List Int)} {cur : List Int} {fz : Bool} (E : EncOk (row.take i) bs cur fz) (hi : i ≤ row.length) : (row.drop (i - cur.length)).take cur.length = cur := by
  have h1 := E.le
  have h2 := E.tail
  rw [List.length_take, Nat.min_eq_left hi] at h1 h2
  rw [List.drop_take, show i - (i - cur.length) = cur.length by omega] at h2
  exact h2
theorem cutB {row : List Int} {i : Nat} {bs : List (List Int)} {cur : List Int} {fz : Bool} {k : Int} (E : EncOk (row.take i) bs cur fz) (hk : row[i]? = some k) : (row.drop (i - cur.length)).take (cur.length + 1) = cur ++ [k] := by
  have hi : i < row.length := by
    rcases Nat.lt_or_ge i row.length with h | h
    · exact h
    · rw [List.getElem?_eq_none h] at hk; cases hk
  have h1 := E.le
  rw [List.length_take] at h1
  rw [List.take_add_one, cutA E (Nat.le_of_lt hi), List.getElem?_drop, show i - cur.length + cur.length = i by omega, hk]
  rfl
theorem cut_to {row cur : List Int} {a n x y : Nat} (hx : x = a) (hy : y = a + n) (h : (row.drop a).take n = cur) : (row.drop x).take (y - x) = cur := by
  subst hx hy
  rw [Nat.add_sub_cancel_left]
  exact h
theorem clip_to {n a : Nat} {x : Int} (h : x = (a : Int)) (hn : a ≤ n) : clipAt n x = a := by
  subst h
  rw [clipAt_nat]
  omega
theorem je_zero {row : List Int} {i : Nat} {bs : List (List Int)} {cur : List Int} {fz : Bool} {k : Int} (h : enc (row.take i) = (bs, cur, fz)) (hk : row[i]? = some k) (h0 : k = 0) : enc (row.take (i + 1)) = (bs ++ [cur], [], true) := by
  rw [List.take_add_one, hk, Option.toList_some, enc_snoc, h, encStep, if_pos h0]
theorem je_full {row : List Int} {i : Nat} {bs : List (List Int)} {cur : List Int} {fz : Bool} {k : Int} (h : enc (row.take i) = (bs, cur, fz)) (hk : row[i]? = some k) (h0 : k ≠ 0) (h1 : cur.length = 253) : enc (row.take (i + 1)) = (bs ++ [cur ++ [k]], [], false) := by
  rw [List.take_add_one, hk, Option.toList_some, enc_snoc, h, encStep, if_neg h0]
  exact if_pos h1
theorem je_more {row : List Int} {i : Nat} {bs : List (List Int)} {cur : List Int} {fz : Bool} {k : Int} (h : enc (row.take i) = (bs, cur, fz)) (hk : row[i]? = some k) (h0 : k ≠ 0) (h1 : cur.length ≠ 253) : enc (row.take (i + 1)) = (bs, cur ++ [k], fz) := by
  rw [List.take_add_one, hk, Option.toList_some, enc_snoc, h, encStep, if_neg h0]
  exact if_neg h1
theorem blk_snoc (bs : List (List Int)) (c : List Int) : (bs ++ [c]).flatMap blk = bs.flatMap blk ++ [(c.length : Int) + 1] ++ c := by
  rw [List.flatMap_append, List.flatMap_singleton, List.append_assoc]
  rfl
end Mine
end

section
open PySem PySem.W PyProof.Rows PySem.Calls
set_option maxRecDepth 100000
set_option linter.unusedVariables false
namespace Mine
section
variable {prog : Program} {w : World} {A : Around} {E : Value → Shared → Prop} {s : Shared} {h₀ : Heap} {L : Addr} {news : List (Addr × Obj)} {b : Array UInt8} {ks : List Int}
theorem AK_ofBa {a : Addr} {Q : Value → Shared → Prop} (N : News h₀ L s.heap news) (hm : (a, baObj b) ∈ news) (hb : KBw.bInts b = ks) (hz : ks.length ≤ 16777216) (h : ∀ t k, Q (.bytes b t) { s with toks := k }) : wpAny (model prog w) A (call (.type "bytes") [.ref a]) Q E s :=
  AK_bytes_ba (N _ hm).1 (by rw [← KBw.ints_length b, hb]; exact hz) h
end
end Mine
end

section
open PySem PySem.W PyProof.Rows PySem.Calls
set_option maxRecDepth 100000
set_option linter.unusedVariables false
namespace Mine
section
variable {M : Model} {A : Around} {s : Shared} {env : Env}
theorem R_BoolOp_and {e₁ e₂ rest pos} {Q : Value → Shared → Prop}
    (h : wpR M A (eval e₁ env) (fun v s₁ => wpAny M A (truthy v) (fun c s₂ => if c then wpR M A (eval (.BoolOp .And (e₂ :: rest) pos) env) Q s₂ else Q v s₂) (fun _ _ => False) s₁) s) :
    wpR M A (eval (.BoolOp .And (e₁ :: e₂ :: rest) pos) env) Q s := by
  show wpR M A (do
    let v ← eval e₁ env
    standAt pos
    let c ← holding [v] (truthy v)
    match BoolOp.And, c with
    | .And, false | .Or, true => pure v
    | _, _ => boolOp pos .And (eval e₂ env :: evalEach rest env)) Q s
  refine R_bind (R_mono h (fun v s₁ h₁ => R_bind (R_standAt (R_bindA (wpAny_holding (wpAny_mono h₁ (fun c s₂ h₂ => ?_) fun _ _ x => x))))))
  cases c with
  | false => exact R_pure h₂
  | true => exact h₂
theorem R_Compare1 {l op r pos} {Q : Value → Shared → Prop}
    (h : wpR M A (eval l env) (fun a s₁ => wpAny M A (eval r env) (fun b s₂ => wpAny M A (compareOp op a b) Q (fun _ _ => False) s₂) (fun _ _ => False) s₁) s) (hm : behindInMarks op r = false := by rfl) :
    wpR M A (eval (.Compare l [op] [r] pos) env) Q s := by
  rw [eval_Compare1, markedBehindIn_of_false hm]
  refine R_bind (R_mono h (fun a s₁ h₁ => R_bindA (wpAny_holding (wpAny_mono h₁ (fun b s₂ h₂ => R_bind (R_standAt (R_operate (R_any h₂)))) fun _ _ x => x))))
end
section
variable {prog : Program} {w : World} {A : Around} {E : Value → Shared → Prop} {s : Shared} {b : Array UInt8} {ks : List Int}
theorem AK_notInT {i : Int} {t u : Tok} {Q : Value → Shared → Prop} (hb : KBw.bInts b = ks) (h0 : 0 ≤ i) (h1 : i < 256) (hn : i ∉ ks) (h : Q (.bool true) s) : wpAny (model prog w) A (compareOp .NotIn (.int i u) (.bytes b t)) Q E s :=
  AK_notIn hb h0 h1 (by rw [decide_eq_false hn]; exact h)
theorem AK_inF {i : Int} {t u : Tok} {Q : Value → Shared → Prop} (hb : KBw.bInts b = ks) (h0 : 0 ≤ i) (h1 : i < 256) (hn : i ∉ ks) (h : Q (.bool false) s) : wpAny (model prog w) A (compareOp .In (.int i u) (.bytes b t)) Q E s :=
  AK_in hb h0 h1 (by rw [decide_eq_false hn]; exact h)
end
/-- between the turns of decode's loop -/
def WD (g : Heap) (L BA : Addr) (bin : Value) (rest : List (Addr × Obj)) (BS : List (List Int)) (s : Shared) (n : Nat) (s' : Shared) : Prop :=
  ∃ (h : Heap) (tk : Nat) (m : Str → Option Value) (b : Array UInt8) (ti : Tok) (ds : List (List Int)) (c : List Int) (more : List (List Int)), s' = { s with heap := h, toks := tk } ∧ BS = ds ++ c :: more ∧ n = more.length ∧
    m (Str.ofString "in_bytes_mv") = some bin ∧ m (Str.ofString "out_bytes") = some (.ref BA) ∧ m (Str.ofString "idx") = some (.int (((ds.flatMap blk).length : Nat) : Int) ti) ∧ Fr g L h m ∧ News g L h ((BA, baObj b) :: rest) ∧ KBw.bInts b = ds.flatMap zed
section
variable {BS ds more : List (List Int)} {c : List Int}
theorem dec_split (h : BS = ds ++ c :: more) : BS.flatMap blk = ds.flatMap blk ++ (((c.length : Int) + 1) :: (c ++ more.flatMap blk)) := by
  rw [h, List.flatMap_append, List.flatMap_cons]
  rfl
theorem dec_len (h : BS = ds ++ c :: more) : (BS.flatMap blk).length = (ds.flatMap blk).length + 1 + c.length + (more.flatMap blk).length := by
  rw [dec_split h]
  simp only [List.length_append, List.length_cons]
  omega
theorem dec_get (h : BS = ds ++ c :: more) : (BS.flatMap blk).getD (ds.flatMap blk).length 0 = (c.length : Int) + 1 := by
  rw [dec_split h, List.getD_eq_getElem?_getD, List.getElem?_append_right (Nat.le_refl _), Nat.sub_self]
  rfl
theorem dec_cut (h : BS = ds ++ c :: more) : ((BS.flatMap blk).drop ((ds.flatMap blk).length + 1)).take c.length = c := by
  rw [dec_split h, ← List.drop_drop, List.drop_left, List.drop_succ_cons, List.drop_zero, List.take_left]
theorem dec_next (h : BS = ds ++ c :: more) : ((ds ++ [c]).flatMap blk).length = (ds.flatMap blk).length + 1 + c.length := by
  rw [List.flatMap_append, List.flatMap_singleton, List.length_append]
  show _ + (c.length + 1) = _
  omega
theorem more_pos {d : List Int} : 1 ≤ ((d :: more).flatMap blk).length := by
  rw [List.flatMap_cons, List.length_append]
  show 1 ≤ (d.length + 1) + _
  omega
theorem dec_last (h : BS = ds ++ [c]) : ds.flatMap zed ++ c = decB BS := by rw [h, decB_snoc]
theorem zed_small (h : c.length < 254) : (ds ++ [c]).flatMap zed = ds.flatMap zed ++ c ++ [0] := by
  rw [List.flatMap_append, List.flatMap_singleton, zed, if_pos h, List.append_assoc]
theorem zed_big (h : ¬ c.length < 254) : (ds ++ [c]).flatMap zed = ds.flatMap zed ++ c := by
  rw [List.flatMap_append, List.flatMap_singleton, zed, if_neg h, List.append_nil]
theorem zed_len (h : ∀ b ∈ ds, b.length ≤ 254 ∧ Pos1 b) : (ds.flatMap zed).length ≤ (ds.flatMap blk).length := by
  induction ds with
  | nil => exact Nat.le_refl _
  | cons b r ih =>
    have := ih fun x hx => h x (.tail _ hx)
    rw [List.flatMap_cons, List.flatMap_cons, List.length_append, List.length_append]
    have e : (zed b).length ≤ (blk b).length := by
      unfold zed blk
      rw [List.length_append, List.length_cons]
      split <;> simp
    omega
end
theorem ints_inj {b c : Array UInt8} (h : KBw.bInts b = KBw.bInts c) : b = c := by
  have inj : ∀ (l r : List UInt8), l.map (fun c => ((c.toNat : Nat) : Int)) = r.map (fun c => ((c.toNat : Nat) : Int)) → l = r := by
    intro l
    induction l with
    | nil => intro r h; cases r with
      | nil => rfl
      | cons _ _ => cases h
    | cons a l ih => intro r h; cases r with
      | nil => cases h
      | cons x r =>
        rw [List.map_cons, List.map_cons] at h
        have h1 := (List.cons.inj h).1
        have h2 := ih r (List.cons.inj h).2
        have : a = x := UInt8.toNat_inj.mp (by omega)
        rw [this, h2]
  have := inj b.toList c.toList h
  exact Array.toList_inj.mp this
end Mine
end

section
open PySem PySem.W PyProof.Rows PySem.Calls Mine
local macro_rules | `(tactic| size_fits) => `(tactic| ((try simp only [List.size_toArray]); (try rw [PySem.sizeLine_eq]); omega))
local macro_rules | `(tactic| walk_at "call builtin:list.append") => `(tactic| ((fail_if_success with_reducible show wpAny _ _ (call (Value.builtin _) [Value.ref _, _]) _ _ _); (show wpAny _ _ (call (Value.builtin _) [Value.ref _, _]) _ _ _); walk_at "call builtin:list.append"))
local macro_rules | `(tactic| walk_at "inplaceOp Add ref ref") => `(tactic| (k_here; k_dflt (refine' Mine.AK_iadd _ ?kF ?kN ?kb ?kU ?kz ?_; (case kF => k_asm); (case kN => k_asm); (case kU => k_updF); (case kb => k_mem); (case kz => (first | size_fits | fail "iadd: size")); k_whole); intro n' h' F' N'; (try k_sweep)))
local macro_rules | `(tactic| k_all) => `(tactic| (with_reducible assumption))
local macro_rules | `(tactic| walk_at "subscriptTail Name UnaryOp ref int") => `(tactic| (k_here; (with_reducible show wpAny _ _ (subscriptTail _ _ (Value.ref _) (Value.int _ _)) _ _ _); (with_unfolding_all refine' Mine.AK_last ?k1 ?k2 ?_ ?k6; (case k1 => k_asm); (case k2 => k_mem); (case k6 => with_unfolding_all rfl); k_whole)))
local macro_rules | `(tactic| walk_at "call type:bytes") => `(tactic| (k_here; (with_reducible show wpAny _ _ (call (Value.type "bytes") [Value.ref _]) _ _ _); k_dflt (refine' Mine.AK_ofBa ?k1 ?k2 ?k3 ?k4 ?_; (case k1 => k_asm); (case k2 => k_mem); (case k3 => k_asm); (case k4 => kba_size); k_whole); intro t' k'))
set_option maxRecDepth 100000 in
set_option maxHeartbeats 8000000 in
theorem Mine.whole : PySem.Challenge.rw_md0003_01.Holds := by
  refine MineHead.hd ?_
  k_fill
  intro w s₀ s₁ mg mb G Y fa o pm cd doc dV kV ho hd hcd hD hmg hg args vals as hpre hlay hrd hwl hlo
  have KX := kIn_of Y
  have X := (Ground.X G).1
  have V := (Ground.X G).2
  try w_nolog (first | (have GL := glob_more (Ground.glob G (by first | k_qdec | decide +kernel) (by first | k_qdec | decide +kernel)) V) | (have GL := glob_more (Ground.glob G (by decide +kernel)) V))
  refine Ground.open G ?_
  intro T B D TE TW
  try (refine guard_noD D (by decide +kernel) ?_; clear D)
  obtain ⟨_, _, M⟩ := bmod_of_top T
  have TA := at_of_top T
  try (obtain ⟨_, _, he, B0⟩ := based_of_top T rfl hmg ho hd; have he' : cd = _ := he; subst he'; clear he)
  clear hmg
  wrow_args hpre hlay hrd hwl hlo
  w_top on
  have K0 := below_caller (Top.heap T)
  have he := Dflts.none hD rfl; subst he
  refine R_mono (Q := fun v s' => GoodW _ _ _ _ _ (.ok (.ret v)) s') (callR_full (by decide) ho hd (Top.nolimit T) hcd (BindsTo.of_eq rfl) (locs rfl) fun h₁ F => ?_) (fun v s' g => GoodW.toG g)
  w_binds F
  have N0 := (News.nil : News _ _ _ []).at F
  clear hd TA
  k_drop
  dsimp only
  refine R_execs_consA ?_
  k_steps
  dsimp only
  refine R_execs_consA (For_blk s₁.heap ?_)
  k_steps
  refine Blk.go ?_
  rename_i rw0 _ _ _ D0 ws _ F1 N1 hI1 hC1 hL1 hlt1
  rename List Int => ns
  have h20 : (ns.take 20).length ≤ 20 := by rw [List.length_take]; omega
  refine iter_list (fun i m news => ∃ us n, m (Str.ofString "row") = some (.ref rw0) ∧ news = [(rw0, listOf us.toArray n)] ∧ IntsAre us (((ns.take 20).take i).flatMap runOf)) rfl F1 N1 ⟨[], 0, rfl, rfl, .nil⟩ ?_ ?_
  · rintro i v m₁ _ h tk I oI hv ⟨us, n, hrow, rfl, hus⟩ hI hne F2 N2
    obtain ⟨k, t, rfl, hk⟩ := IntsAre.at hI1 i v hv
    replace F2 := fr_under F2 hrow
    clear F1 N1
    k_lt hI
    have hul : us.length ≤ 6000 := by
      rw [hus.length]
      have a := row_len ((ns.take 20).take i)
      have b : ((ns.take 20).take i).length ≤ 20 := by rw [List.length_take]; omega
      omega
    have hsnoc : (ns.take 20).take (i + 1) = (ns.take 20).take i ++ [k] := by
      rw [List.take_add_one, hk]; rfl
    k_steps
    · exact ⟨_, _, _, [(rw0, _)], rfl, by assumption, by assumption, List.forall_mem_singleton.mpr (neN (by omega)), us ++ [_], _, rfl, by rw [List.push_toArray], by rw [hsnoc]; exact row_zero (by assumption) hus⟩
    · exact ⟨_, _, _, [(rw0, _)], rfl, by assumption, news_sub (by assumption) (fun p hp => .tail _ (.tail _ hp)), List.forall_mem_singleton.mpr (neN (by omega)), _, _, rfl, rfl, by rw [hsnoc]; exact row_many (by assumption) (by assumption) hus (by assumption)⟩
    · exact ⟨_, _, _, [(rw0, _)], rfl, by assumption, news_sub (by assumption) (fun p hp => .tail _ (.tail _ hp)), List.forall_mem_singleton.mpr (neN (by omega)), _, _, rfl, rfl, by rw [hsnoc]; exact row_one (by assumption) (by assumption) hus (by assumption)⟩
  · rintro m1 _ h2 tk2 ⟨us, nr, hrow, rfl, hus⟩ F2 N2
    replace F2 := fr_name F2 hrow
    replace N2 := news_sub N2 (news' := [(rw0, listOf us.toArray nr)]) (fun p hp => .tail _ hp)
    rw [hI1.length, List.take_length] at hus
    clear F1 N1 hrow
    have hro : Oct ((ns.take 20).flatMap runOf) := row_oct _
    have hrl : ((ns.take 20).flatMap runOf).length ≤ 6000 := by
      have a := row_len (ns.take 20)
      omega
    generalize (ns.take 20).flatMap runOf = row at hus hro hrl
    have hul : us.length ≤ 6000 := by rw [hus.length]; exact hrl
    dsimp only
    refine R_execs_consA ?_
    k_steps
    dsimp only
    refine R_execs_consA (For_blk s₁.heap ?_)
    k_steps
    refine Blk.go ?_
    rename_i cl0 _ l2 P _ _ _ l3 h3 F3 N3
    replace N3 := news_sub N3 (news' := [(rw0, listOf us.toArray nr), (cl0, listOf ([] : List Value).toArray 0), (P, listOf (refs [] ++ [Value.ref cl0]).toArray 0)]) (by intro p hp; simp [refs] at hp ⊢; rcases hp with rfl | rfl | rfl <;> simp)
    refine iter_list (J2 rw0 P row) rfl F3 N3 ⟨[], cl0, [], 0, 0, rfl, rfl, rfl, .nil, .nil, neN (by omega), neN (by omega), neN (by omega), (fun _ h => nomatch h), (fun _ h => nomatch h), (fun _ h => nomatch h)⟩ ?_ ?_
    · rintro i v m₁ _ h tk I oI hv ⟨objs, cl, us2, n2, np, hrow, hparts, rfl, hpa, hus2, d1, d2, d3, d4, d5, d6⟩ hI hne F4 N4
      obtain ⟨k, t, rfl, hk⟩ := IntsAre.at hus i v hv
      replace F4 := fr_under F4 hparts
      clear F3 N3
      have e1 : @Ne Nat cl I := hne _ (.head _)
      have e2 : @Ne Nat P I := hne _ (.tail _ (.head _))
      have e3 : ∀ p ∈ objs, p.1 ≠ I := fun p hp => hne p (.tail _ (.tail _ hp))
      k_lt hI
      have hul2 : us2.length ≤ 6000 := by
        rw [hus2.length]
        have a := (split_len (row.take i)).1
        rw [List.length_take] at a
        omega
      have hol : (refs objs ++ [Value.ref cl]).length ≤ 6001 := by
        have a := (split_len (row.take i)).2
        have b := hpa.length
        rw [List.length_take] at a
        simp only [refs, List.length_append, List.length_map, List.length_cons, List.length_nil]
        omega
      have hsnoc : row.take (i + 1) = row.take i ++ [k] := by
        rw [List.take_add_one, hk]; rfl
      k_steps
      · rename_i Fx Nx
        exact ⟨_, _, _, _, rfl, Fx, end2a Nx, ne2a d1 e1 e2 e3 (ltN (by omega)), j2a hrow rfl hsnoc (by assumption) hpa hus2 d1 d2 d3 d4 d5 d6 (by assumption)⟩
      · rename_i Fx Nx
        exact ⟨_, _, _, _, rfl, Fx, Nx, by intro p hp; rcases List.mem_cons.mp hp with rfl | hp; exact e1; exact hne p (.tail _ hp), j2b hrow rfl hsnoc (by assumption) hpa hus2 d1 d2 d3 d4 d5 d6⟩
    · rintro m1 _ h2 tk2 ⟨objs, cl, us2, n2, np, hrow, hparts, rfl, hpa, hus2, d1, d2, d3, d4, d5, d6⟩ F4 N4
      rw [hus.length, List.take_length] at hpa hus2
      clear F3 N3
      replace F4 := fr_name (fr_name F4 hrow) (y := Str.ofString "parts") hparts
      dsimp only
      refine R_execs_consA ?_
      k_steps
      rename_i du _ _ _ l5 h5 F5 N5
      have l6 := allLt_ne l5.2.2.2
      replace N5 := news_sub N5 (news' := (P, listOf (refs objs ++ [Value.ref cl]).toArray np) :: (du, listOf ([] : List Value).toArray 0) :: (rw0, listOf us.toArray nr) :: (cl, listOf us2.toArray n2) :: objs) (by intro p hp; simp only [List.mem_cons] at hp ⊢; rcases hp with rfl | rfl | rfl | rfl | hp <;> simp_all)
      have htot := split_tot row
      have hoct := split_oct row hro
      generalize hcs : (splitZ row).1 = cs at hpa hus2 htot hoct
      generalize hla : (splitZ row).2 = last at hpa hus2 htot hoct
      dsimp only
      refine R_execs_cons (R_For_blk ?_)
      k_steps
      refine Blk.go ?_
      refine R_iterList (J3 rw0 P du cl (listOf us.toArray nr) (listOf us2.toArray n2) objs cs last) rfl F5 N5 ⟨[], 0, [], rfl, rfl, rfl, rfl, .nil, D3.zero _ _⟩ ?_ ?_
      · rintro i v m₁ _ h tk I oI hv ⟨vs, nd, ds, hrow, hparts, hdue, rfl, hvs, hD⟩ hI hne F6 N6
        obtain ⟨pa, ps, pn, p, rfl, hmem, hps, hi, hlast⟩ := part_at (n2 := n2) hpa hus2 d4 hv
        clear F5 N5
        have hpo : Oct p := by
          have a := List.mem_of_getElem? hi
          rcases List.mem_append.mp a with a | a
          · exact hoct.1 p a
          · rw [List.mem_singleton.mp a]; exact hoct.2
        have hpd : @Ne Nat pa du := by
          rcases List.mem_cons.mp hmem with e | e
          · cases e; exact neN (by omega)
          · exact l6 _ e
        have e1 : @Ne Nat du I := hne _ (.head _)
        have e2 : @Ne Nat rw0 I := hne _ (.tail _ (.head _))
        have e3 : @Ne Nat cl I := hne _ (.tail _ (.tail _ (.head _)))
        have e4 : ∀ p ∈ objs, p.1 ≠ I := fun p hp => hne p (.tail _ (.tail _ (.tail _ hp)))
        k_lt hI
        have hti := tot_take (cs ++ [last]) i
        have hpl : p.length ≤ 12001 := by
          have a := tot_take (cs ++ [last]) (i + 1)
          rw [List.take_add_one, hi, Option.toList_some, tot_snoc] at a
          omega
        refine R_execs_cons (R_While (WI3 s₁.heap s₁.heap.objs.size I oI (listOf (refs objs ++ [Value.ref cl]).toArray np) rw0 P du cl (listOf us.toArray nr) (listOf us2.toArray n2) objs cs last i p s₁) ?_ p.length
          ⟨h, tk, _, pa, ps, pn, p, vs, nd, ds, rfl, F6, ?_, hrow, hparts, hdue, rfl, hps, hvs, W3.start hD hpo, hlast, hpd, rfl⟩)
        · rintro n _ ⟨h7, tk7, m7, qa, qs, qn, q, vs7, nd7, ds7, rfl, F7, N7, b1, b2, b3, b4, hqs, hvs7, hW, hql, hqd, rfl⟩
          clear F6 N6
          replace F7 := fr_name (fr_name (fr_name F7 b2) (y := Str.ofString "due") b3) (y := Str.ofString "part") b4
          have hqlen := hqs.length
          have hvlen := hvs7.length
          have hlen := hW.len
          refine wpAny_mono (Q := fun b s₂ => (∃ tk, s₂ = { s₁ with heap := h7, toks := tk }) ∧ (b = true ↔ (254 < q.length ∨ (q.length = 254 ∧ qa ≠ cl)))) ?_ ?_ (fun _ _ e => e)
          · k_steps
            · exact ⟨fun _ => .inl (by omega), fun _ => trivial⟩
            · refine AK_isNot (N7 _ (.tail _ (.tail _ (.head _)))).1 (N7 _ (.tail _ (.tail _ (.tail _ (.tail _ (.tail _ (.head _))))))).1 (by intro z; exact absurd (Value.type.inj z) (by decide)) (fun hc => ?_) (fun hc => ?_)
              · k_steps
                exact ⟨fun h => (nomatch h), fun h => by rcases h with h | h; omega; exact absurd hc h.2⟩
              · k_steps
                exact ⟨fun _ => .inr ⟨by omega, hc⟩, fun _ => trivial⟩
            · exact ⟨fun h => (nomatch h), fun h => by omega⟩
          · rintro b _ ⟨⟨tk8, rfl⟩, hb⟩
            cases b with
            | true =>
              have hq4 : 254 ≤ q.length := by
                have := hb.mp rfl
                omega
              refine (if_pos rfl).mpr ?_
              refine R_any ?_
              k_steps
              rename_i D2 ws2 h8 F8 N8 hI8 l8
              have hw2 : ws2.length ≤ 255 := by
                rw [hI8.length, List.length_append, List.length_take, List.length_singleton]
                omega
              k_steps
              rotate_left 2
              exact (q.drop 254).length
              · rw [List.length_drop]; omega
              · rename_i D9 ws9 _ hI9 _ _ l9 h9 F9 N9
                exact ⟨h9, _, _, D9, ws9, 0, q.drop 254, vs7 ++ ws2, _, ds7 ++ ([255] ++ q.take 254), rfl, F9, sub3 N9, b1, rfl, rfl, rfl, hI9, hvs7.append hI8, hW.cut hq4, (fun e => absurd e (neN (by omega))), neN (by omega), rfl⟩
            | false =>
              have hb' : ¬ (254 < q.length ∨ (q.length = 254 ∧ qa ≠ cl)) := fun h => absurd (hb.mpr h) (by decide)
              refine (if_neg (by decide)).mpr ?_
              dsimp only
              refine R_any ?_
              k_steps
              rename_i D2 ws2 h8 F8 N8 hI8 l8
              have hw2 : ws2.length ≤ 255 := by
                rw [hI8.length, List.length_append, List.length_singleton]
                omega
              k_steps
              rename_i F9 N9
              exact ⟨_, _, _, _, rfl, F9, sub3b N9, (by intro p hp; rcases List.mem_cons.mp hp with rfl | hp; exact e1; exact hne p (.tail _ hp)), vs7 ++ ws2, _, ds7 ++ ([(q.length : Int) + 1] ++ q), b1, rfl, rfl, rfl, hvs7.append hI8, hW.out hi (by omega) (fun h4 => hql (Classical.byContradiction fun hn => hb' (.inr ⟨h4, hn⟩)))⟩
        · exact sub3c N6 hmem
      · rintro m1 _ h6 tk6 ⟨vs, nd, ds, hrow, hparts, hdue, rfl, hvs, hD⟩ F6 N6
        clear F5 N5
        replace F6 := fr_name (fr_name (fr_name F6 hrow) (y := Str.ofString "parts") hparts) (y := Str.ofString "due") hdue
        replace N6 := news_sub N6 (news' := [(P, listOf (refs objs ++ [Value.ref cl]).toArray np), (du, listOf vs.toArray nd), (rw0, listOf us.toArray nr), (cl, listOf us2.toArray n2)]) (by intro p hp; simp only [List.mem_cons, List.not_mem_nil, or_false] at hp ⊢; rcases hp with rfl | rfl | rfl | rfl <;> simp)
        have hDl : (refs objs ++ [Value.ref cl]).length = cs.length + 1 := by rw [List.length_append, List.length_singleton, refs, List.length_map, hpa.length]
        rw [hDl] at hD
        obtain ⟨hdo, hdl, hde⟩ := hD.all
        clear hD d4 d5 d6 l6
        have hri : KBa.In row := hro
        dsimp only
        refine R_execs_cons (R_Assign_Name (R_Call_Name1 ?_))
        k_steps
        refine R_callWith_fn1B ?_
        k_steps
        refine Blk.go ?_
        rename_i h7 t7 k7 F7 N7 _ _
        refine ⟨fn_there (Frag.In.keeps KX (Fr.keep F7)) (by k_is), ?_⟩
        refine R_mono (Q := fun v s' => ∃ bw tw h' tk', v = Value.bytes bw tw ∧ KBw.bInts bw = (Mine.fin row).flatMap blk ∧ s' = { s₁ with heap := h', toks := tk' } ∧
          Fr s₁.heap s₁.heap.objs.size h' (fun z => if z = Str.ofString "due" then some (Value.ref du) else if z = Str.ofString "parts" then some (Value.ref P) else if z = Str.ofString "row" then some (Value.ref rw0) else m1 z) ∧
          News s₁.heap s₁.heap.objs.size h' [(P, listOf (refs objs ++ [Value.ref cl]).toArray np), (du, listOf vs.toArray nd), (rw0, listOf us.toArray nr), (cl, listOf us2.toArray n2)]) ?_ ?_
        · refine' callR_def ?k1 ?k2 ?k3 ?k4 ?k5 ?kA ?kF ?kK ?k6 ?k7 ?k8 ?k9 ?kB ?_ ?c2 ?c3 ?c4 ?c5
          case kA => exact rfl
          case kF => exact rfl
          case kK => exact rfl
          case k1 => k_asm
          case k2 => k_asm
          case k3 => k_asm
          case k4 => k_asm
          case k5 => k_asm
          case k6 => k_is
          case k7 => k_is
          case k8 => k_room
          case k9 => exact BindsTo.of_eq rfl
          case c5 => decide
          case kB => exact locs rfl
          case c2 => exact rfl
          case c3 => exact rfl
          case c4 => exact rfl
          intro g' L' h8 FG' F8 N8 B' X' T' lN
          k_lt lN
          have hB : KBw.bInts (byteArr row) = row := KBa.ints_make hri
          dsimp only
          refine R_execs_consA ?_
          k_steps
          dsimp only
          refine R_execs_consA ?_
          k_steps
          dsimp only
          refine R_execs_consA ?_
          k_steps
          dsimp only
          refine R_execs_cons (R_Assign_Name (R_Call_Name0 ?_))
          k_steps
          refine R_callWith_type0 (RK_new (by k_asm) (by k_asm) fun BA h9 F9 N9 l9 => ?_)
          k_lt l9
          k_steps
          dsimp only
          refine R_execs_consA ?_
          k_steps
          dsimp only
          refine R_execs_consA ?_
          k_steps
          dsimp only
          refine R_execs_cons (R_For_blk ?_)
          k_steps
          refine Blk.go ?_
          rename_i h10 F10 N10
          refine R_iterBytes (JE BA (Value.bytes (byteArr row) t7) [(P, listOf (refs objs ++ [Value.ref cl]).toArray np), (du, listOf vs.toArray nd), (rw0, listOf us.toArray nr), (cl, listOf us2.toArray n2)] row) hB rfl F10 N10 ⟨#[], _, _, [], [], true, rfl, rfl, rfl, rfl, rfl, rfl, rfl, rfl⟩ ?_ ?_
          · rintro i k t m₁ _ h tk I oI hk ⟨b, ti, ts, bs, cur, fz, c1, c2, c3, c4, c5, rfl, hb, hst⟩ hI hne F11 N11
            have hE := EncOk.at hro hst
            have hi : i < row.length := by
              rcases Nat.lt_or_ge i row.length with h | h
              · exact h
              · rw [List.getElem?_eq_none h] at hk; cases hk
            have hcle := hE.le
            have hbl := hE.len
            rw [List.length_take, Nat.min_eq_left (Nat.le_of_lt hi)] at hcle hbl
            have hsm := hE.small
            replace F11 := fr_under (fr_under (fr_under (fr_under (fr_under F11 c1) (y := Str.ofString "out_bytes") c2) (y := Str.ofString "final_zero") c3) (y := Str.ofString "idx") c4) (y := Str.ofString "search_start_idx") c5
            clear F10 N10
            have e1 : @Ne Nat BA I := hne _ (.head _)
            k_lt hI
            refine R_execs_cons (R_If ?_)
            k_steps
            · rename_i hk0
              refine R_execs_consA ?_
              k_steps
              dsimp only
              refine R_execs_cons (R_Expr (R_method1B FA.plainAttrs_ba FA.slot_append FA.type_append ?_))
              k_steps
              refine Blk.go ?_
              rename_i F12 N12
              refine ⟨ba_typeIs (N12 _ (.tail _ (.head _))).1, ba_nodict (N12 _ (.tail _ (.head _))).1, ?_⟩
              k_steps
              refine' RK_append _ F12 N12 hb ?kU (by omega) (by omega) (by omega) ?_
              case kU => k_updF
              intro b2 h13 hb2 F13 N13
              refine ⟨rfl, ?_⟩
              clear F12 N12 F11 N11
              dsimp only
              refine R_execs_cons (R_AugAssign_Name ?_)
              k_steps
              rename_i F14 N14 kbcK
              have hc := kbcK.trans (cut_to (a := i - cur.length) (n := cur.length) (cur := cur) (by first | exact clip_to (by omega) (by omega) | omega) (by first | exact clip_to (by omega) (by omega) | omega) (cutA hE (Nat.le_of_lt hi)))
              refine' RK_iadd _ F14 N14 hb2 hc ?kU (by simp only [List.length_append, List.length_cons, List.length_nil]; omega) ?_
              case kU => k_updF
              intro b3 h15 hb3 F15 N15
              clear F14 N14
              k_steps
              dsimp only
              refine R_execs_consA ?_
              k_steps
              dsimp only
              refine R_execs_nil ?_
              dsimp only
              refine R_any ?_
              k_steps
              rename_i F16 N16
              exact ⟨_, _, _, _, rfl, F16, N16, (by intro p hp; rcases List.mem_cons.mp hp with rfl | hp; exact e1; exact hne p (.tail _ hp)), b3, _, _, bs ++ [cur], [], true, rfl, rfl, rfl, rfl, rfl, rfl, (by rw [hb3, blk_snoc, show (i : Int) - (i - cur.length) + 1 = (cur.length : Int) + 1 by omega]), je_zero hst hk hk0⟩
            · rename_i hk0
              refine R_execs_cons (R_If ?_)
              k_steps
              · rename_i h253
                have h53 : cur.length = 253 := by omega
                refine R_execs_consA ?_
                k_steps
                dsimp only
                refine R_execs_cons (R_Expr (R_method1B FA.plainAttrs_ba FA.slot_append FA.type_append ?_))
                k_steps
                refine Blk.go ?_
                rename_i F12 N12
                refine ⟨ba_typeIs (N12 _ (.tail _ (.head _))).1, ba_nodict (N12 _ (.tail _ (.head _))).1, ?_⟩
                k_steps
                refine' RK_append _ F12 N12 hb ?kU (by omega) (by omega) (by omega) ?_
                case kU => k_updF
                intro b2 h13 hb2 F13 N13
                refine ⟨rfl, ?_⟩
                clear F12 N12 F11 N11
                dsimp only
                refine R_execs_cons (R_AugAssign_Name ?_)
                k_steps
                rename_i F14 N14 kbcK
                have hc := kbcK.trans (cut_to (a := i - cur.length) (n := cur.length + 1) (cur := cur ++ [k]) (by first | exact clip_to (by omega) (by omega) | omega) (by first | exact clip_to (by omega) (by omega) | omega) (cutB hE hk))
                refine' RK_iadd _ F14 N14 hb2 hc ?kU (by simp only [List.length_append, List.length_cons, List.length_nil]; omega) ?_
                case kU => k_updF
                intro b3 h15 hb3 F15 N15
                clear F14 N14
                k_steps
                dsimp only
                refine R_execs_consA ?_
                k_steps
                dsimp only
                refine R_execs_nil ?_
                dsimp only
                refine R_execs_nil ?_
                dsimp only
                refine R_any ?_
                k_steps
                rename_i F16 N16
                exact ⟨_, _, _, _, rfl, F16, N16, (by intro p hp; rcases List.mem_cons.mp hp with rfl | hp; exact e1; exact hne p (.tail _ hp)), b3, _, _, bs ++ [cur ++ [k]], [], false, rfl, rfl, rfl, rfl, rfl, rfl, (by rw [hb3, blk_snoc, List.length_append, List.length_singleton, h53]; rfl), je_full hst hk hk0 h53⟩
              · rename_i h253
                have h53 : cur.length ≠ 253 := by omega
                refine R_execs_nil ?_
                dsimp only
                refine R_execs_nil ?_
                dsimp only
                refine R_any ?_
                k_steps
                rename_i F16 N16
                exact ⟨_, _, _, _, rfl, F16, N16, (by intro p hp; rcases List.mem_cons.mp hp with rfl | hp; exact e1; exact hne p (.tail _ hp)), b, _, _, bs, cur ++ [k], fz, rfl, rfl, rfl, rfl, (by show some (Value.int ((i : Int) - (cur.length : Int)) ts) = _; rw [show (((i + 1 : Nat) : Int) - ((cur ++ [k]).length : Int)) = (i : Int) - (cur.length : Int) by rw [List.length_append, List.length_singleton]; omega]), rfl, hb, je_more hst hk hk0 h53⟩
          · rintro m₁ _ h tk ⟨b, ti, ts, bs, cur, fz, c1, c2, c3, c4, c5, rfl, hb, hst⟩ F11 N11
            have hE := EncOk.at hro hst
            rw [List.take_length] at hst
            have hcle := hE.le
            have hbl := hE.len
            rw [List.take_length] at hcle hbl
            have hsm := hE.small
            replace F11 := fr_name (fr_name (fr_name (fr_name (fr_name F11 c1) (y := Str.ofString "out_bytes") c2) (y := Str.ofString "final_zero") c3) (y := Str.ofString "idx") c4) (y := Str.ofString "search_start_idx") c5
            clear F10 N10
            have hfin : Mine.fin row = if cur ≠ [] ∨ fz = true then bs ++ [cur] else bs := by unfold Mine.fin; rw [hst]
            dsimp only
            refine R_execs_cons (R_mono (Q := fun f s' => f = Flow.next ∧ ∃ b' h' tk' m', s' = { s₁ with heap := h', toks := tk' } ∧ KBw.bInts b' = (Mine.fin row).flatMap blk ∧ m' (Str.ofString "out_bytes") = some (Value.ref BA) ∧ Fr g' L' h' m' ∧
              News g' L' h' [(BA, baObj b'), (P, listOf (refs objs ++ [Value.ref cl]).toArray np), (du, listOf vs.toArray nd), (rw0, listOf us.toArray nr), (cl, listOf us2.toArray n2)]) (R_If (wpAny_mono (Q := fun b s₂ => (∃ tk, s₂ = { s₁ with heap := h, toks := tk }) ∧ (b = true ↔ (cur.length ≠ 0 ∨ fz = true))) ?_ ?_ (fun _ _ e => e))) ?_)
            · k_steps
              · exact ⟨fun _ => .inl (by omega), fun _ => rfl⟩
              · rename_i hz
                exact ⟨fun _ => .inr hz, fun _ => rfl⟩
              · rename_i hn hz
                exact ⟨fun h => (nomatch h), fun h => by rcases h with h | h; omega; rw [hz] at h; exact h⟩
            · rintro bb _ ⟨⟨tk2, rfl⟩, hbb⟩
              cases bb with
              | true =>
                have hcond : cur ≠ [] ∨ fz = true := (hbb.mp rfl).imp (fun h e => h (by rw [e]; rfl)) id
                rw [if_pos hcond] at hfin
                refine (if_pos rfl).mpr ?_
                refine R_execs_cons (R_Expr (R_method1B FA.plainAttrs_ba FA.slot_append FA.type_append ?_))
                k_steps
                refine Blk.go ?_
                refine ⟨ba_typeIs (N11 _ (.head _)).1, ba_nodict (N11 _ (.head _)).1, ?_⟩
                k_steps
                refine' RK_append _ F11 N11 hb ?kU (by omega) (by omega) (by omega) ?_
                case kU => k_updF
                intro b2 h13 hb2 F13 N13
                refine ⟨rfl, ?_⟩
                clear F11 N11
                dsimp only
                refine R_execs_cons (R_AugAssign_Name ?_)
                k_steps
                rename_i F14 N14 kbcK
                have hc := kbcK.trans (cut_to (a := row.length - cur.length) (n := cur.length) (cur := cur) (by first | exact clip_to (by omega) (by omega) | omega) (by first | exact clip_to (by omega) (by omega) | omega) (cutA hE (Nat.le_refl _)))
                refine' RK_iadd _ F14 N14 hb2 hc ?kU (by simp only [List.length_append, List.length_cons, List.length_nil]; omega) ?_
                case kU => k_updF
                intro b3 h15 hb3 F15 N15
                clear F14 N14
                k_steps
                dsimp only
                refine R_execs_nil ?_
                rename_i F16 N16
                exact ⟨rfl, b3, _, _, _, rfl, (by rw [hb3, hfin, blk_snoc, show (row.length : Int) - (row.length - cur.length) + 1 = (cur.length : Int) + 1 by omega]), rfl, F16, N16⟩
              | false =>
                have hcond : ¬ (cur ≠ [] ∨ fz = true) := fun h => absurd (hbb.mpr (h.imp (fun h e => h (List.length_eq_zero_iff.mp e)) id)) (by decide)
                rw [if_neg hcond] at hfin
                refine (if_neg (by decide)).mpr ?_
                refine R_execs_nil ?_
                exact ⟨rfl, b, _, _, _, rfl, (by rw [hb, hfin]), rfl, F11, N11⟩
            · rintro f _ ⟨rfl, b', h', tk', m', rfl, hb', hout, F', N'⟩
              replace F' := fr_name F' hout
              clear F11 N11
              have hfl := (finOk hro).len
              dsimp only
              refine R_execs_cons (R_Return (R_any ?_))
              k_steps
              · rename_i kF kN _ _
                exact kF
              · rename_i kF kN _ _
                exact news_sub kN (fun p hp => .tail _ hp)
        · rintro _ _ ⟨bw, tw, h8, tk8, rfl, hbw, rfl, F8, N8⟩
          clear F7 N7
          have hF := finOk hro
          have hfl := hF.len
          k_steps
          dsimp only
          have hpos := blks_pos hF.blocks
          have hz0 : (0 : Int) ∉ (Mine.fin row).flatMap blk := fun hm => absurd (hpos 0 hm).1 (by omega)
          refine R_execs_cons (R_Return (R_BoolOp_and (R_any ?_)))
          k_steps
          refine AK_notInT hbw (by omega) (by omega) hz0 ?_
          k_steps
          refine R_BoolOp_and (R_Compare1 (R_Call_Name1 ?_))
          k_steps
          refine R_callWith_fn1B ?_
          k_steps
          refine Blk.go ?_
          rename_i h9 F9 N9
          refine ⟨fn_there (Frag.In.keeps KX (Fr.keep F9)) (by k_is), ?_⟩
          refine R_mono (Q := fun v s' => ∃ bd td h' tk', v = Value.bytes bd td ∧ KBw.bInts bd = row ∧ s' = { s₁ with heap := h', toks := tk' } ∧
            Fr s₁.heap s₁.heap.objs.size h' (fun y => if y = Str.ofString "written" then some (Value.bytes bw tw) else if y = Str.ofString "due" then some (Value.ref du) else if y = Str.ofString "parts" then some (Value.ref P) else if y = Str.ofString "row" then some (Value.ref rw0) else m1 y) ∧
            News s₁.heap s₁.heap.objs.size h' [(P, listOf (refs objs ++ [Value.ref cl]).toArray np), (du, listOf vs.toArray nd), (rw0, listOf us.toArray nr), (cl, listOf us2.toArray n2)]) ?_ ?_
          · refine' callR_def ?k1 ?k2 ?k3 ?k4 ?k5 ?kA ?kF ?kK ?k6 ?k7 ?k8 ?k9 ?kB ?_ ?c2 ?c3 ?c4 ?c5
            case kA => exact rfl
            case kF => exact rfl
            case kK => exact rfl
            case k1 => k_asm
            case k2 => k_asm
            case k3 => k_asm
            case k4 => k_asm
            case k5 => k_asm
            case k6 => k_is
            case k7 => k_is
            case k8 => k_room
            case k9 => exact BindsTo.of_eq rfl
            case c5 => decide
            case kB => exact locs rfl
            case c2 => exact rfl
            case c3 => exact rfl
            case c4 => exact rfl
            intro g' L' h10 FG' F10 N10 B' X' T' lN
            k_lt lN
            have hdec := hF.dec
            have hblk := hF.blocks
            have hsome := hF.some
            clear hF hde
            generalize Mine.fin row = BS at hbw hfl hpos hz0 hdec hblk hsome
            generalize hks : BS.flatMap blk = ks at hbw hfl hpos hz0
            dsimp only
            refine R_execs_consA ?_
            k_steps
            dsimp only
            refine R_execs_consA ?_
            k_steps
            dsimp only
            refine R_execs_cons (R_Assign_Name (R_Call_Name0 ?_))
            k_steps
            refine R_callWith_type0 (RK_new (by k_asm) (by k_asm) fun BA h11 F11 N11 l11 => ?_)
            k_lt l11
            k_steps
            dsimp only
            refine R_execs_consA ?_
            k_steps
            have hkl : 0 < ks.length := by
              cases BS with
              | nil => exact absurd rfl hsome
              | cons c0 more => rw [← hks]; exact more_pos
            have hkz : ks.length ≤ 12001 := by omega
            dsimp only
            refine R_execs_cons (R_If ?_)
            k_steps
            rename_i h12 F12 N12
            refine R_execs_cons (R_While (WD g' L' BA (Value.bytes bw tw) [(P, listOf (refs objs ++ [Value.ref cl]).toArray np), (du, listOf vs.toArray nd), (rw0, listOf us.toArray nr), (cl, listOf us2.toArray n2)] BS s₁) ?_ (BS.length - 1) ?_)
            · rintro _ _ ⟨h13, tk13, m13, b, ti, ds, c, more, rfl, hBS, rfl, c1, c2, c3, F13, N13, hb⟩
              clear F12 N12
              have hlen := dec_len hBS
              have hget := dec_get hBS
              have hcut := dec_cut hBS
              have hnext := dec_next hBS
              have hcb := hblk c (by rw [hBS]; exact List.mem_append_right _ (.head _))
              have hzl := zed_len (ds := ds) fun x hx => hblk x (by rw [hBS]; exact List.mem_append_left _ hx)
              generalize hn : (ds.flatMap blk).length = n at hlen hget hcut hnext c3 hzl
              rw [hks] at hlen hget hcut
              replace F13 := fr_name (fr_name (fr_name F13 c1) (y := Str.ofString "out_bytes") c2) (y := Str.ofString "idx") c3
              k_steps
              refine R_execs_consA ?_
              k_steps
              rename_i kLo kHi h14 F14 N14
              rw [Int.toNat_natCast, hget] at F14
              clear kLo kHi
              dsimp only
              refine R_execs_cons (R_If ?_)
              k_steps
              · exfalso
                omega
              refine R_execs_nil ?_
              dsimp only
              refine R_execs_consA ?_
              k_steps
              dsimp only
              refine R_execs_consA ?_
              k_steps
              dsimp only
              refine R_execs_consA ?_
              k_steps
              rename_i kbcK h15 F15 N15
              have hc := kbcK.trans (cut_to (a := n + 1) (n := c.length) (cur := c) (by first | exact clip_to (by omega) (by omega) | omega) (by first | exact clip_to (by omega) (by omega) | omega) hcut)
              have hc0 : (0 : Int) ∉ c := fun hm => absurd (hcb.2 0 hm).1 (by omega)
              dsimp only
              refine R_execs_cons (R_If ?_)
              k_steps
              refine AK_inF hc (by omega) (by omega) hc0 ?_
              k_steps
              refine R_execs_nil ?_
              dsimp only
              refine R_execs_cons (R_AugAssign_Name ?_)
              k_steps
              refine' RK_iadd _ F15 N15 hb hc ?kU (by omega) ?_
              case kU => k_updF
              intro b2 h16 hb2 F16 N16
              clear F15 N15
              k_steps
              dsimp only
              refine R_execs_consA ?_
              k_steps
              dsimp only
              refine R_execs_cons (R_If ?_)
              k_steps
              refine R_execs_nil ?_
              dsimp only
              rename_i F17 N17
              have eidx : ((n : Int) + 1 + ((c.length : Int) + 1) - 1) = ((((ds ++ [c]).flatMap blk).length : Nat) : Int) := by rw [hnext]; omega
              rw [eidx] at F17
              refine R_execs_cons (R_If ?_)
              k_steps
              · rename_i hlt
                obtain ⟨d, more', rfl⟩ : ∃ d more', more = d :: more' := by
                  cases more with
                  | nil =>
                    exfalso
                    rw [List.flatMap_nil, List.length_nil] at hlen
                    omega
                  | cons d r => exact ⟨d, r, rfl⟩
                refine R_execs_cons (R_If ?_)
                k_steps
                · rename_i h255
                  have hc4 : c.length < 254 := by omega
                  refine R_execs_cons (R_Expr (R_method1B FA.plainAttrs_ba FA.slot_append FA.type_append ?_))
                  k_steps
                  refine Blk.go ?_
                  refine ⟨ba_typeIs (N17 _ (.head _)).1, ba_nodict (N17 _ (.head _)).1, ?_⟩
                  k_steps
                  refine' RK_append _ F17 N17 hb2 ?kU (by omega) (by omega) (by rw [List.length_append]; omega) ?_
                  case kU => k_updF
                  intro b3 h18 hb3 F18 N18
                  refine ⟨rfl, ?_⟩
                  dsimp only
                  refine R_execs_nil ?_
                  dsimp only
                  refine R_execs_nil ?_
                  dsimp only
                  refine R_execs_nil ?_
                  exact ⟨more'.length, Nat.lt_succ_self _, _, _, _, b3, _, ds ++ [c], d, more', rfl, (by rw [hBS, List.append_assoc]; rfl), rfl, rfl, rfl, rfl, F18, N18, (by rw [hb3, zed_small hc4])⟩
                · rename_i h255
                  have hc4 : ¬ c.length < 254 := by omega
                  refine R_execs_nil ?_
                  dsimp only
                  refine R_execs_nil ?_
                  dsimp only
                  refine R_execs_nil ?_
                  exact ⟨more'.length, Nat.lt_succ_self _, _, _, _, b2, _, ds ++ [c], d, more', rfl, (by rw [hBS, List.append_assoc]; rfl), rfl, rfl, rfl, rfl, F17, N17, (by rw [hb2, zed_big hc4])⟩
              · rename_i hlt
                have hm : more = [] := by
                  cases more with
                  | nil => rfl
                  | cons d r =>
                    exfalso
                    have := more_pos (d := d) (more := r)
                    omega
                subst hm
                have hrow2 : KBw.bInts b2 = row := by rw [hb2, dec_last hBS, hdec]
                refine R_execs_cons (R_any ?_)
                k_steps
                dsimp only
                refine R_execs_nil ?_
                dsimp only
                refine R_execs_cons (R_Return (R_any ?_))
                k_steps
                · rename_i kF kN _ _
                  exact kF
                · rename_i kF kN _ _
                  exact news_sub kN (fun p hp => .tail _ hp)
            · obtain ⟨c0, more0, hBS0⟩ : ∃ c0 more0, BS = c0 :: more0 := by
                cases BS with
                | nil => exact absurd rfl hsome
                | cons c r => exact ⟨c, r, rfl⟩
              exact ⟨h12, _, _, #[], _, [], c0, more0, rfl, hBS0, (by rw [hBS0]; rfl), rfl, rfl, rfl, F12, N12, rfl⟩
          · rintro _ _ ⟨bd, td, h10, tk10, rfl, hbd, rfl, F10, N10⟩
            clear F9 N9
            have hdi : KBa.In ds := hdo
            obtain rfl : bd = byteArr row := ints_inj (hbd.trans (KBa.ints_make hri).symm)
            k_steps
            · refine R_any ?_
              have hul2 := hus2.length
              have hll : last.length ≤ 6000 := by
                rw [tot_snoc] at htot
                omega
              by_cases hl : last.length < 254
              · have hbe : bw = byteArr ds := ints_inj (by rw [hbw, KBa.ints_make hdi, hde hl, hF.due (by rw [hla]; exact hl), hcs, hla])
                k_steps
              · k_steps
end

theorem PySem.Challenge.cw_md0003_01_holds : PySem.Challenge.rw_md0003_01.Holds :=
  Mine.whole
