import PyProof.Rows.All
import Wide.All
import OpenK.AllK
import Wide.FinOn
import PySem.Challenge.RW_nq0066_01
open PySem PySem.W PyProof.Rows PySem.Calls
set_option Elab.async false
set_option maxRecDepth 100000
set_option maxHeartbeats 8000000
set_option linter.all false
set_option rowWalk.seconds 0
namespace Mine
section
abbrev R0 : OpenRow := PySem.Challenge.rw_nq0066_01.row
/-- the top's defs and classes that keep their names -/
def vw : Program := view R0.prog [1, 2, 3, 5, 6, 9, 10, 11, 13, 14, 15, 16, 17, 18, 19, 20, 21, 22, 23]
/-- the top's run, begun behind the boot -/
theorem left_of_boot {p q : Program} {loose : List Str} {Xt : Shared → Bool} {α : Type} {Yf : Shared → α} {Ya : World → α} {N : Nat} {g0 : Bool} (e : opening p = plainProg p.main.scope.names) (hN : Nat.ble 600 N = true) (f : ∀ s, fenceModules? p s = some s)
    (h : ∀ w : World, (fun os => (topFrom treeTable p w N ⟨boot_heap w.params, Array.mk [], boot_drawn, boot_toks, os⟩).map (fun s => (openSeen q loose (importedModules p.main.body) Xt g0 s, Yf s))) = fun _ => some (openGood q loose, Ya w)) : LeftO p q loose Xt Yf Ya N g0 := fun w => by
  obtain ⟨⟨h', gs, d, k, os⟩, e1, e2⟩ := Option.map_eq_some_iff.mp (boot_open e hN f w)
  obtain ⟨rfl, rfl, rfl, rfl⟩ : h' = boot_heap w.params ∧ gs = Array.mk [] ∧ d = boot_drawn ∧ k = boot_toks := by simpa using e2
  unfold openEnds
  rw [e1]
  exact congrFun (h w) os
theorem bo1 : opening R0.prog = plainProg R0.prog.main.scope.names := by kernel_rfl
theorem bo2 : ∀ s, fenceModules? R0.prog s = some s := fun s => by kernel_rfl
theorem sd1 : sreFenced R0.prog.main = true := by
  rw [PySem.W.Fast.te11788848310118352699]; kernel_rfl
theorem sd2 : ((moduleNames R0.prog.main.body).isEmpty || lookedIntoSs (moduleNames R0.prog.main.body) R0.prog.main.body) = true := by kernel_rfl
theorem sd3 : namesResolve R0.prog = true := by
  rw [PySem.W.Fast.te8377067652309620493]; kernel_rfl
theorem sd4 : R0.prog.boundNames.all (fun n => !worldNames.contains n) = true := by
  rw [PySem.W.Fast.te18344453789297297638, PySem.W.Fast.te14412699480532031325]; kernel_rfl
theorem sd5 : noRoadLSs { strict := !(importedModules R0.prog.main.body).all cThrough.contains, foot := none, bare := (["vars", "dir", "locals"] : List Str).filter (readsOut R0.prog R0.prog.main.body) } R0.prog.main.body = true := by
  rw [PySem.W.Fast.te8326940854005059898, PySem.W.Fast.te5923862056798008813, PySem.W.Fast.te13343964577679436407]; kernel_rfl
theorem sd6 : (namesMeet R0.prog R0.prog.main.body fun _ n => attrL n) = true := by
  rw [PySem.W.Fast.te17119622794617984870, PySem.W.Fast.te17868728402115742887]; kernel_rfl
theorem looks0 : looksOpen R0.prog = true := by
  unfold looksOpen
  rw [sd1, sd2, sd3, sd4, sd5, sd6]; rfl
theorem part0 : R0.partSaid = true := by
  unfold OpenRow.partSaid
  rw [looks0]
  kernel_rfl
theorem row0 : R0.wellSaid = true := by
  unfold OpenRow.wellSaid
  rw [part0]
  kernel_rfl
theorem lawClass : noClassBlock PySem.Challenge.rw_nq0066_01.prog PySem.Challenge.rw_nq0066_01.footing = true := by kernel_rfl
theorem lawRoad : noRoadLSs { strict := true, foot := some PySem.Challenge.rw_nq0066_01.bound', writes := PySem.Challenge.rw_nq0066_01.writes, may := PySem.Challenge.rw_nq0066_01.may } PySem.Challenge.rw_nq0066_01.footing = true := by
  rw [PySem.W.Fast.te8326940854005059898]; kernel_rfl
theorem said : PySem.Challenge.rw_nq0066_01.wellSaid = true := by
  unfold OpenLaw.wellSaid
  rw [row0, lawClass, lawRoad]
  kernel_rfl
theorem head_of {H : Hook} {d : DefRec} {kwd : List (Str × Expr)}
    (left : LeftO R0.prog vw [Str.ofString "_initial_missing", Str.ofString "reduce"] (fun s => xlAt vw [] s && recOk (RowW.records R0.toRowW) s) H.obs H.val 2076) (k1 : R0.wellSaid = true)
    (hdef : defOf vw R0.name = some (d, kwd)) (hp : R0.prog.theDef R0.name = some (d.params, d.body, d.scope)) (hk : kwWritten? d.params.kwonlyargs d.params.kw_defaults = some kwd)
    (hw : R0.toRowW.promised) (hc : WalkO vw [Str.ofString "_initial_missing", Str.ofString "reduce"] (XL vw []) H.says R0.toRowW d kwd fun f vs => PySem.call f vs) : R0.Holds :=
  holds_open left H.of H.keeps (fun s e => xl_of s (Bool.and_eq_true_iff.mp e).1) XL.keeps hdef hp hk (fun s e => recFacts_of (Bool.and_eq_true_iff.mp e).2) (by rfl) k1 (by decide +kernel) ⟨rfl, rfl, rfl, rfl, rfl, by decide +kernel⟩ hw hc
end
-- the head in one check of the kernel (in pieces it costs 11.5 MB of the compiled file: the twins of the row's constants)
local macro_rules | `(tactic| o_law) => `(tactic| refine holds_law said fun said => ?_)
local macro_rules | `(tactic| o_head $H) => `(tactic| (have X := head_of (H := $H) (left_of_boot bo1 (by rfl) bo2 (by intro w; unfold topFrom; rw [PySem.W.Fast.te14082659384304107361, PySem.W.Fast.te14364793385576792824, PySem.W.Fast.te4187177175401517315]; kernel_rfl)) (by assumption) (by rfl) (by rfl) (by rfl); apply X))
open_top hd for PySem.Challenge.rw_nq0066_01
abbrev P0 : Program := PySem.Challenge.rw_nq0066_01.row.prog
/-- a call that leaves the ledger as it stood, with what it hands back (tl) on top -/
def Ctr (w : World) (f : Addr) (need : Nat) (vs : List Value) (news : List (Addr × Obj)) (Out : List (Addr × Obj) → Value → Prop) : Prop :=
  ∀ (dp un : Nat) (gd : Option (List Code)) (cn : Str) (cs : Scope) (a : Addr) (ccd : Value) (cl : List (Str × Addr)) (outer : List Env) (A₀ : Around) (base h₀ : Heap) (L : Addr) (m : Str → Option Value) (s : Shared) (Q E : Value → Shared → Prop)
   (p : Program) (loose : List Str) (mean : ExcName → Option Value) (mg mb : Str → Option Value),
    Below A₀ base outer h₀ → Fr h₀ L s.heap m → (hd.heap_1 w.params).In h₀ → News h₀ L s.heap news → Top p loose mean mg mb h₀ → cs.kind = .function → dp + need < recursionLimit → un + 8 * need < cLine →
    (∀ r tl h' tk', Fr h₀ L h' m → News h₀ L h' (tl ++ news) → (∀ q ∈ news, ∀ p ∈ tl, q.1 ≠ p.1) → Out tl r → Q r { s with heap := h', toks := tk' }) →
    wpAny (model P0 w) (ktrTop dp un gd cn cs L a ccd cl outer) (call (.ref f) vs) Q E s
theorem Ctr.use {w : World} {f : Addr} {need : Nat} {vs : List Value} {news : List (Addr × Obj)} {Out : List (Addr × Obj) → Value → Prop}
   {dp un : Nat} {gd : Option (List Code)} {cn : Str} {cs : Scope} {a : Addr} {ccd : Value} {cl : List (Str × Addr)} {outer : List Env} {A₀ : Around} {base h₀ : Heap} {L : Addr} {m : Str → Option Value} {s : Shared} {Q E : Value → Shared → Prop}
   {p : Program} {loose : List Str} {mean : ExcName → Option Value} {mg mb : Str → Option Value} (C : Ctr w f need vs news Out)
    (B : Below A₀ base outer h₀) (F : Fr h₀ L s.heap m) (X : (hd.heap_1 w.params).In h₀) (N : News h₀ L s.heap news) (T : Top p loose mean mg mb h₀) (hk : cs.kind = .function) (hd : dp + need < recursionLimit) (hu : un + 8 * need < cLine)
    (ret : ∀ r tl h' tk', Fr h₀ L h' m → News h₀ L h' (tl ++ news) → (∀ q ∈ news, ∀ p ∈ tl, q.1 ≠ p.1) → Out tl r → Q r { s with heap := h', toks := tk' }) :
    wpAny (model P0 w) (ktrTop dp un gd cn cs L a ccd cl outer) (call (.ref f) vs) Q E s := C _ _ _ _ _ _ _ _ _ _ _ _ _ _ _ _ _ _ _ _ _ _ B F X N T hk hd hu ret
/-- a text by its signs -/
abbrev S (l : List Nat) : Str := ⟨l.toArray⟩
theorem S_append (a b : List Nat) : S a ++ S b = S (a ++ b) := by
  refine PySem.Str.ext' (Array.toList_inj.mp ?_)
  rw [PySem.Str.cps_append, Array.toList_append]
theorem S_len (a : List Nat) : (S a).length = a.length := by simp [PySem.Str.length]
theorem S_inj {a b : List Nat} : S a = S b ↔ a = b := by
  constructor
  · intro h; have := congrArg (fun x : Str => x.cps.toList) h; simpa using this
  · intro h; rw [h]
/-- a list of texts, by their signs, stands in the ledger -/
abbrev Are (vs : List Value) (xs : List (List Nat)) : Prop := StrsAre vs (xs.map S)
theorem lst_append {a b : List Value} {xs ys : List (List Nat)} (ha : Are a xs) (hb : Are b ys) : Are (a ++ b) (xs ++ ys) := by
  unfold Are; rw [List.map_append]; exact ha.append' hb
theorem Are.len {vs : List Value} {xs : List (List Nat)} (h : Are vs xs) : vs.length = xs.length := by
  have := h.len_eq; simpa using this
section
variable {prog : Program} {w : World} {A : Around} {h₀ : Heap} {L : Addr} {m : Str → Option Value} {env : Env} {elt : Expr} {x : Str} {scope : Scope} {cl : List (Str × Addr)} {s : Shared} {St : List (Addr × Obj) → Prop} {Fin : List Value → List (Addr × Obj) → Prop} {news : List (Addr × Obj)}
/-- a comprehension over a list of texts whose element is a text, what stood stands -/
theorem comp_strs {vs : List Value} {xs : List (List Nat)} (f : List Nat → List Nat) (hv : Are vs xs) (hS : St news)
    (turn : ∀ y t I oI C oC D m₂ ys h tk (E' : Value → Shared → Prop), y ∈ xs → LCg.NsObj oC m₂ → m₂ x = some (.str (S y) t) → Fr h₀ L h m → News h₀ L h ((I, oI) :: (C, oC) :: (D, LCg.lst ys) :: news) → LCg.Off3 I C D news → ((@Ne Nat I C) ∧ (@Ne Nat I D) ∧ (@Ne Nat C D)) →
      wpAny (model prog w) A (eval elt (compEnvC scope cl C env)) (fun z s₂ => ∃ h' tk' t', s₂ = { s with heap := h', toks := tk' } ∧ z = .str (S (f y)) t' ∧ Fr h₀ L h' m ∧ News h₀ L h' ((I, oI) :: (C, oC) :: (D, LCg.lst ys) :: news)) E' { s with heap := h, toks := tk })
    (fin : ∀ ys, Are ys (xs.map f) → Fin ys news) : LCg.CompRest prog w A h₀ L m env elt x scope cl s St (fun i v => vs.toArray[i]? = some v) Fin vs.toArray.size 0 [] news := by
  have hn : vs.toArray.size = xs.length := by rw [List.size_toArray, hv.len]
  rw [hn]
  have key : ∀ (j i : Nat) (ys : List Value), i + j = xs.length → Are ys ((xs.take i).map f) → LCg.CompRest prog w A h₀ L m env elt x scope cl s St (fun i v => vs.toArray[i]? = some v) Fin j i ys news := by
    intro j
    induction j with
    | zero =>
      intro i ys hi hy
      have e : i = xs.length := by lia
      subst e
      rw [List.take_length] at hy
      exact LCg.CompRest.zero (fin ys hy)
    | succ j ih =>
      intro i ys hi hy
      refine LCg.CompRest.succ ?_
      intro v I oI C oC D m₂ h tk E' hP hC hx F N off ne
      have hi' : i < xs.length := by lia
      obtain ⟨t, ht⟩ := StrsAre.at hv (j := i) (y := S xs[i]) (by simp [hi'])
      have hP' : vs[i]? = some v := by simpa using hP
      rw [ht] at hP'
      cases hP'
      refine wpAny_mono (turn xs[i] t I oI C oC D m₂ ys h tk E' (List.getElem_mem hi') hC hx F N off ne) (fun z s₂ hq => ?_) fun _ _ e => e
      obtain ⟨h', tk', t', e, hz, F', N'⟩ := hq
      subst hz
      refine ⟨h', tk', news, e, F', N', off, hS, ?_⟩
      refine ih (i + 1) _ (by lia) ?_
      rw [List.take_add_one, List.getElem?_eq_getElem hi']
      simp only [Option.toList, List.map_append, List.map_cons, List.map_nil]
      exact lst_append hy (.cons _ _ .nil)
  exact key xs.length 0 [] (by lia) (by simp only [List.take_zero, List.map_nil]; exact .nil)
end
theorem itemS {x : Str} {i : Nat} (h : i < x.length) : ∃ c, Txt.item x (i : Int) = S [c] ∧ x.cps.toList.drop i = c :: x.cps.toList.drop (i + 1) := by
  have hi : i < x.cps.toList.length := by simpa [PySem.Str.length] using h
  refine ⟨x.cps.toList[i], ?_, List.drop_eq_getElem_cons hi⟩
  unfold Txt.item Txt.charAt
  have h2 : i < x.cps.size := h
  have e : seqIndex? (i : Int) x.length = some i := by
    unfold seqIndex?
    have h0 : ¬ ((i : Int) < 0) := by lia
    have h1 : ((i : Int) < (x.length : Int)) := by lia
    simp [h0, h1]
  rw [e]
  simp [h2]
theorem slice_to {l : List Nat} {k : Nat} (h : k ≤ l.length) : Txt.slice (S l) none (some (k : Int)) = S (l.take k) := by
  have := eq_of_beq (slice_closes_to (x := S l) (j := (k : Int)) ⟨by lia, by simpa using h⟩)
  rw [this]; simp
theorem slice_of {l : List Nat} {a b : Nat} (h : a ≤ b) (h2 : b ≤ l.length) : Txt.slice (S l) (some (a : Int)) (some (b : Int)) = S ((l.drop a).take (b - a)) := by
  have := eq_of_beq (slice_closes (x := S l) (i := (a : Int)) (j := (b : Int)) ⟨by lia, by lia, by simpa using h2⟩)
  rw [this]
  have e : ((b : Int) - (a : Int)).toNat = b - a := by lia
  simp [e]
theorem slice_from {l : List Nat} {a : Nat} (h : a ≤ l.length) : Txt.slice (S l) (some (a : Int)) none = S (l.drop a) := by
  rw [slice_from_eq (x := S l) (i := (a : Int)) (b := (l.length : Int)) (by lia) (by rw [S_len]; lia) (by rw [S_len])]
  have e : ((l.length : Int) - (a : Int)).toNat = l.length - a := by lia
  show S ((l.drop ((a : Int).toNat)).take _) = _
  rw [e, List.take_of_length_le (by simp)]
  rfl
theorem quoteS : Str.ofString "\"" = S [34] := by decide +kernel
theorem isq {x : Str} {c : Nat} (hc : x = S [c]) (q : (x == Str.ofString "\"") = true) : c = 34 := by
  have := eq_of_beq q
  rw [hc, quoteS, S_inj] at this
  simpa using this
theorem nq {x : Str} {c : Nat} (hc : x = S [c]) (q : (x == Str.ofString "\"") = false) : c ≠ 34 := by
  rintro rfl
  rw [hc, quoteS] at q
  simp at q
theorem emptyS : Str.ofString "" = S [] := by decide +kernel
theorem openS : Str.ofString "257 \"" = S [50, 53, 55, 32, 34] := by decide +kernel
theorem foldl_app (l : List (Array Nat)) (a : Array Nat) : (l.foldl (· ++ ·) a).toList = a.toList ++ (l.map Array.toList).flatten := by
  induction l generalizing a with
  | nil => simp
  | cons x l ih => simp [ih]
theorem mulQ (q : Nat) : Txt.mul (Str.ofString "\"") (q : Int) = S (List.replicate q 34) := by
  rw [quoteS]
  unfold Txt.mul
  split
  · have : q = 0 := by lia
    subst this; rfl
  · split
    · rename_i h1 h2
      have : q = 1 := by
        simp only [Bool.or_eq_true, beq_iff_eq, S_len, List.length_cons, List.length_nil] at h2
        lia
      subst this; rfl
    · refine PySem.Str.ext' (Array.toList_inj.mp ?_)
      simp only [Int.toNat_natCast]
      rw [foldl_app]
      simp only [List.map_replicate, List.nil_append]
      induction q with
      | zero => rfl
      | succ q ih => simp [List.replicate_succ] at *
theorem mulQ' (q : Nat) : Txt.mul (S [34]) (q : Int) = S (List.replicate q 34) := by rw [← quoteS]; exact mulQ q
section
variable {h₀ h : Heap} {L a : Addr} {o : Obj} {mid news : List (Addr × Obj)}
/-- of a ledger only the first entry and what stood before is kept -/
theorem keep1 (N : News h₀ L h ((a, o) :: (mid ++ news))) : News h₀ L h ([(a, o)] ++ news) := fun p hp => N p (by
  rcases List.mem_cons.mp hp with rfl | hp
  · exact .head _
  · exact .tail _ (List.mem_append.mpr (.inr hp)))
theorem keep0 (N : News h₀ L h (mid ++ news)) : News h₀ L h ([] ++ news) := fun p hp => N p (List.mem_append.mpr (.inr hp))
theorem off_of_lt (h : AllLt a news) : ∀ q ∈ news, ∀ p ∈ [(a, o)], q.1 ≠ p.1 := fun q hq p hp => by
  rw [List.mem_singleton.mp hp]; exact Nat.ne_of_lt (ktn_ltOf h q hq)
theorem off_of_lt' (h : ∀ p ∈ news, p.1 < a) : ∀ q ∈ news, ∀ p ∈ [(a, o)], q.1 ≠ p.1 := fun q hq p hp => by
  rw [List.mem_singleton.mp hp]; exact Nat.ne_of_lt (h q hq)
theorem off_of_1 : ∀ {news : List (Addr × Obj)}, LCg.Off1 a news → ∀ q ∈ news, ∀ p ∈ [(a, o)], q.1 ≠ p.1
  | [], _, _, hq, _, _ => nomatch hq
  | r :: l, x, q, hq, p, hp => by
    rcases List.mem_cons.mp hq with rfl | hq
    · rw [List.mem_singleton.mp hp]; exact x.1
    · exact off_of_1 x.2 q hq p hp
theorem off_lt1 (h : ∀ p ∈ news, p.1 < a) : ∀ p ∈ news, p.1 ≠ a + 1 := fun p hp => Nat.ne_of_lt (Nat.lt_succ_of_lt (h p hp))
theorem off_lt2 (h : ∀ p ∈ news, p.1 < a) : ∀ p ∈ news, p.1 ≠ a + 1 + 1 := fun p hp => Nat.ne_of_lt (Nat.lt_succ_of_lt (Nat.lt_succ_of_lt (h p hp)))
theorem off_nil : ∀ q ∈ news, ∀ p ∈ ([] : List (Addr × Obj)), q.1 ≠ p.1 := fun _ _ _ h => nomatch h
end
section
variable {h₀ h : Heap} {L : Addr} {p : Addr × Obj} {news rest : List (Addr × Obj)} {m : Str → Option Value}
theorem ntl (N : News h₀ L h (p :: news)) : News h₀ L h news := fun q hq => N q (.tail _ hq)
theorem ncons (hp : h.get? p.1 = some p.2 ∧ p.1 ≠ L ∧ h₀.get? p.1 = none) (R : News h₀ L h rest) : News h₀ L h (p :: rest) := fun q hq => by
  rcases List.mem_cons.mp hq with rfl | hq
  · exact hp
  · exact R q hq
theorem bcons {P : Addr × Obj → Prop} (h : P p) (k : ∀ q ∈ rest, P q) : ∀ q ∈ p :: rest, P q := fun q hq => by
  rcases List.mem_cons.mp hq with rfl | hq
  · exact h
  · exact k q hq
theorem bnil {P : Addr × Obj → Prop} : ∀ q ∈ ([] : List (Addr × Obj)), P q := fun _ h => nomatch h
/-- a ledger, its text out of sight -/
theorem with_nw {P : Prop} (N : News h₀ L h news) (k : ∀ nw, News h₀ L h nw → (∀ q, q ∈ news → q ∈ nw) → P) : P := k news N fun _ x => x
/-- a frame's names, their text out of sight -/
theorem with_m {P : Prop} (F : Fr h₀ L h m) (k : ∀ m', Fr h₀ L h m' → (∀ x v, m x = v → m' x = v) → P) : P := k m F fun _ _ x => x
end
/-- a list of texts comes back, made new -/
abbrev OutL (xs : List (List Nat)) (tl : List (Addr × Obj)) (r : Value) : Prop := ∃ a vs n, tl = [(a, listOf (List.toArray vs) n)] ∧ r = .ref a ∧ Are vs xs
abbrev OutS (x : List Nat) (tl : List (Addr × Obj)) (r : Value) : Prop := tl = [] ∧ ∃ y t, r = .str y t ∧ y = S x
abbrev OutI (x : Int) (tl : List (Addr × Obj)) (r : Value) : Prop := tl = [] ∧ ∃ y t, r = .int y t ∧ y = x
theorem Ctr.useL {xs : List (List Nat)} {w : World} {f : Addr} {need : Nat} {vs : List Value} {news : List (Addr × Obj)}
   {dp un : Nat} {gd : Option (List Code)} {cn : Str} {cs : Scope} {a : Addr} {ccd : Value} {cl : List (Str × Addr)} {outer : List Env} {A₀ : Around} {base h₀ : Heap} {L : Addr} {m : Str → Option Value} {s : Shared} {Q E : Value → Shared → Prop}
   {p : Program} {loose : List Str} {mean : ExcName → Option Value} {mg mb : Str → Option Value} (C : Ctr w f need vs news (OutL xs))
    (B : Below A₀ base outer h₀) (F : Fr h₀ L s.heap m) (X : (hd.heap_1 w.params).In h₀) (N : News h₀ L s.heap news) (T : Top p loose mean mg mb h₀) (hk : cs.kind = .function) (hd : dp + need < recursionLimit) (hu : un + 8 * need < cLine)
    (ret : ∀ b ws n h' tk', Fr h₀ L h' m → News h₀ L h' ((b, listOf (List.toArray ws) n) :: news) → (∀ q ∈ news, ∀ p ∈ [(b, listOf (List.toArray ws) n)], q.1 ≠ p.1) → Are ws xs → Q (.ref b) { s with heap := h', toks := tk' }) :
    wpAny (model P0 w) (ktrTop dp un gd cn cs L a ccd cl outer) (call (.ref f) vs) Q E s := C.use B F X N T hk hd hu (by
  rintro r tl h' tk' F' N' off ⟨b, ws, n, rfl, rfl, hA⟩
  exact ret b ws n h' tk' F' N' off hA)
theorem Ctr.useI {x : Int} {w : World} {f : Addr} {need : Nat} {vs : List Value} {news : List (Addr × Obj)}
   {dp un : Nat} {gd : Option (List Code)} {cn : Str} {cs : Scope} {a : Addr} {ccd : Value} {cl : List (Str × Addr)} {outer : List Env} {A₀ : Around} {base h₀ : Heap} {L : Addr} {m : Str → Option Value} {s : Shared} {Q E : Value → Shared → Prop}
   {p : Program} {loose : List Str} {mean : ExcName → Option Value} {mg mb : Str → Option Value} (C : Ctr w f need vs news (OutI x))
    (B : Below A₀ base outer h₀) (F : Fr h₀ L s.heap m) (X : (hd.heap_1 w.params).In h₀) (N : News h₀ L s.heap news) (T : Top p loose mean mg mb h₀) (hk : cs.kind = .function) (hd : dp + need < recursionLimit) (hu : un + 8 * need < cLine)
    (ret : ∀ t h' tk', Fr h₀ L h' m → News h₀ L h' news → Q (.int x t) { s with heap := h', toks := tk' }) :
    wpAny (model P0 w) (ktrTop dp un gd cn cs L a ccd cl outer) (call (.ref f) vs) Q E s := C.use B F X N T hk hd hu (by
  rintro r tl h' tk' F' N' off ⟨rfl, _, t, rfl, rfl⟩
  exact ret t h' tk' F' N')
theorem Ctr.useS {x : List Nat} {w : World} {f : Addr} {need : Nat} {vs : List Value} {news : List (Addr × Obj)}
   {dp un : Nat} {gd : Option (List Code)} {cn : Str} {cs : Scope} {a : Addr} {ccd : Value} {cl : List (Str × Addr)} {outer : List Env} {A₀ : Around} {base h₀ : Heap} {L : Addr} {m : Str → Option Value} {s : Shared} {Q E : Value → Shared → Prop}
   {p : Program} {loose : List Str} {mean : ExcName → Option Value} {mg mb : Str → Option Value} (C : Ctr w f need vs news (OutS x))
    (B : Below A₀ base outer h₀) (F : Fr h₀ L s.heap m) (X : (hd.heap_1 w.params).In h₀) (N : News h₀ L s.heap news) (T : Top p loose mean mg mb h₀) (hk : cs.kind = .function) (hd : dp + need < recursionLimit) (hu : un + 8 * need < cLine)
    (ret : ∀ t h' tk', Fr h₀ L h' m → News h₀ L h' news → Q (.str (S x) t) { s with heap := h', toks := tk' }) :
    wpAny (model P0 w) (ktrTop dp un gd cn cs L a ccd cl outer) (call (.ref f) vs) Q E s := C.use B F X N T hk hd hu (by
  rintro r tl h' tk' F' N' off ⟨rfl, _, t, rfl, rfl⟩
  exact ret t h' tk' F' N')
/-- a text comes back of which G holds -/
abbrev OutH (G : List Nat → Prop) (tl : List (Addr × Obj)) (r : Value) : Prop := tl = [] ∧ ∃ x t, r = .str (S x) t ∧ G x
theorem Ctr.useH {G : List Nat → Prop} {w : World} {f : Addr} {need : Nat} {vs : List Value} {news : List (Addr × Obj)}
   {dp un : Nat} {gd : Option (List Code)} {cn : Str} {cs : Scope} {a : Addr} {ccd : Value} {cl : List (Str × Addr)} {outer : List Env} {A₀ : Around} {base h₀ : Heap} {L : Addr} {m : Str → Option Value} {s : Shared} {Q E : Value → Shared → Prop}
   {p : Program} {loose : List Str} {mean : ExcName → Option Value} {mg mb : Str → Option Value} (C : Ctr w f need vs news (OutH G))
    (B : Below A₀ base outer h₀) (F : Fr h₀ L s.heap m) (X : (hd.heap_1 w.params).In h₀) (N : News h₀ L s.heap news) (T : Top p loose mean mg mb h₀) (hk : cs.kind = .function) (hd : dp + need < recursionLimit) (hu : un + 8 * need < cLine)
    (ret : ∀ x t h' tk', Fr h₀ L h' m → News h₀ L h' news → G x → Q (.str (S x) t) { s with heap := h', toks := tk' }) :
    wpAny (model P0 w) (ktrTop dp un gd cn cs L a ccd cl outer) (call (.ref f) vs) Q E s := C.use B F X N T hk hd hu (by
  rintro r tl h' tk' F' N' off ⟨rfl, x, t, rfl, hG⟩
  exact ret x t h' tk' F' N' hG)
theorem item0 (c : Nat) (l : List Nat) : Txt.item (S (c :: l)) 0 = S [c] := by
  obtain ⟨d, h1, h2⟩ := itemS (x := S (c :: l)) (i := 0) (by rw [S_len]; simp)
  have : c = d := by simpa using h2
  rw [← this] at h1; exact h1
section
variable {prog : Program} {w : World} {A : Around} {E : Value → Shared → Prop} {s : Shared} {h₀ : Heap} {L a b : Addr} {m : Str → Option Value} {news : List (Addr × Obj)} {vs ws : List Value} {xs ys : List (List Nat)} {n k : Nat} {Q : Value → Shared → Prop}
/-- two lists of texts put together -/
theorem add_L (F : Fr h₀ L s.heap m) (N : News h₀ L s.heap news) (ha : (a, listOf (List.toArray vs) n) ∈ news) (hb : (b, listOf (List.toArray ws) k) ∈ news) (hA : Are vs xs) (hB : Are ws ys) (hz : xs.length + ys.length ≤ sizeLine)
    (h : ∀ D zs h', Fr h₀ L h' m → News h₀ L h' ((D, listOf (List.toArray zs) 0) :: news) → (∀ p ∈ news, p.1 < D) → Are zs (xs ++ ys) → Q (.ref D) { s with heap := h' }) :
    wpAny (model prog w) A (binaryOp .Add (.ref a) (.ref b)) Q E s :=
  kmk_add_lit (its := vs.toArray) (its2 := ws.toArray) F N ⟨_, N.get ha, rfl, _, rfl⟩ ⟨_, N.get hb, rfl, _, rfl⟩ rfl (fun D h' F' N' l => h D _ h' F' N' l (lst_append hA hB)) (by rw [hA.len, hB.len]; exact hz)
end
theorem lenS {prog : Program} {w : World} {A : Around} {E : Value → Shared → Prop} {s : Shared} {t : Tok} {l : List Nat} {Q : Value → Shared → Prop} (hl : (S l).length ≤ sizeLine) (h : Q (.int (l.length : Int) (s.toks + 1)) { s with toks := s.toks + 1 + 1 }) :
    wpAny (model prog w) A (call (.builtin "len") [.str (S l) t]) Q E s := by
  refine P.len_str ?_ ?_
  · rw [S_len, sizeLine_eq] at *; lia
  · rw [S_len]; exact h
/-- behind a loop's turn -/
def RStep (h₀ : Heap) (L : Addr) (s : Shared) (Q : Flow → Shared → Prop) (I : Addr) (oI : Obj) (J : (Str → Option Value) → List (Addr × Obj) → Prop) (f : Flow) (s₂ : Shared) : Prop :=
  match f with
  | .ret v => Q (.ret v) s₂
  | .brk => Q .next s₂
  | _ => ∃ h' tk m' news', s₂ = { s with heap := h', toks := tk } ∧ Fr h₀ L h' m' ∧ News h₀ L h' ((I, oI) :: news') ∧ (∀ p ∈ news', p.1 ≠ I) ∧ J m' news'
section
variable {prog : Program} {w : World} {A : Around} {E : Value → Shared → Prop} {s : Shared} {env : Env} {h₀ : Heap} {x : Str} {body : List Stmt} {Q : Flow → Shared → Prop}
/-- a loop over a range, by what holds between its turns -/
theorem range_loop {r : Addr} {a₀ b₀ : Int} {t₀ u₀ v₀ : Tok} {n : Nat} {m₀ : Str → Option Value} {news : List (Addr × Obj)} (J : Nat → (Str → Option Value) → List (Addr × Obj) → Prop)
    (hh : A.handled = none) (hr : IsRange s.heap r a₀ b₀ 1 t₀ u₀ v₀) (hsmall : Builtin.Range.small a₀ b₀ 1 = true) (hn : Builtin.Range.rangeSize a₀ b₀ 1 = (n : Int)) (F : Fr h₀ env.locals s.heap m₀) (N : News h₀ env.locals s.heap news) (hj : J 0 m₀ news)
    (turn : ∀ i t m₁ news₁ I oI h tk, i < n → J i m₁ news₁ → (∀ p ∈ news₁, p.1 ≠ I) → Fr h₀ env.locals h (fun y => if y = x then some (.int (a₀ + ((i : Nat) : Int)) t) else m₁ y) → News h₀ env.locals h ((I, oI) :: news₁) →
      wpAny (model prog w) A (execs body env) (RStep h₀ env.locals s Q I oI (J (i + 1))) E { s with heap := h, toks := tk })
    (done : ∀ m₁ news₁ h tk, J n m₁ news₁ → Fr h₀ env.locals h m₁ → News h₀ env.locals h news₁ → Q .next { s with heap := h, toks := tk }) :
    wpAny (model prog w) A (pyIter (.ref r)) (fun it s₂ => LoopAtV prog w A h₀ env x body Q E it s₂) E s := by
  refine wpAny_pyIter_range hr hsmall ?_
  have W : Walks prog w A s.heap.objs.size [s.heap.objs.size] [s.heap.objs.size] n (fun i v => i < n ∧ ∃ t, v = .int (a₀ + i * 1) t)
      (fun i h => IsRangeIter h s.heap.objs.size (a₀ + (i : Nat) * 1) ((n : Int) - (i : Nat)) 1) := (Walks.range hh _ a₀ 1 n).bound
  refine ⟨s.heap.objs.size, _, _, n, _, _, m₀, news, J, rfl, W, ?_, ?_, ?_, (by show IsRangeIter _ _ _ _ _; rw [hn]; simpa using Heap.get?_push_size _ rfl), F.push _, (fun p hp => ⟨Heap.get?_push_of_some _ (N p hp).1, (N p hp).2⟩), hj, ?_, ?_⟩
  · intro hm
    exact absurd F.ns.lt ((List.mem_singleton.mp hm) ▸ Nat.lt_irrefl _)
  · intro b hb
    rw [List.mem_singleton.mp hb]
    exact next_is_new F
  · intro p hp hI
    exact absurd (Heap.lt_size (N p hp).1) ((List.mem_singleton.mp hI) ▸ Nat.lt_irrefl _)
  · rintro i v m₁ news₁ s₁ own ⟨hh', tk', rfl⟩ hin ⟨_, t, rfl⟩ hJ hoff hown hget hall hSt F₁ N₁
    obtain ⟨oI, e⟩ : ∃ oI, hh'.get? s.heap.objs.size = some oI := ⟨_, hSt⟩
    have hI := hall s.heap.objs.size (.head _) (next_is_new F) _ e
    have off' : ∀ p ∈ news₁, p.1 ≠ s.heap.objs.size := fun p hp q => hoff p hp (by rw [q]; exact .head _)
    have one : ∀ p ∈ own, p = (s.heap.objs.size, oI) := fun p hp => by
      have h1 : p.1 = s.heap.objs.size := List.mem_singleton.mp (hown p hp)
      have h2 : hh'.get? p.1 = some p.2 := hget p hp
      rw [h1, e] at h2
      exact Prod.ext h1 (Option.some.inj h2).symm
    have N₂ : News h₀ env.locals hh' ((s.heap.objs.size, oI) :: news₁) := fun p hp => by
      rcases List.mem_cons.mp hp with rfl | hp
      · exact N₁ _ (List.mem_append_left _ hI)
      · exact N₁ p (List.mem_append_right _ hp)
    rw [Int.mul_one] at F₁
    refine wpAny_mono (turn i t m₁ news₁ _ _ hh' tk' hin hJ off' F₁ N₂) (fun f s₂ p => ?_) fun _ _ e => e
    have fin : RStep h₀ env.locals s Q s.heap.objs.size oI (J (i + 1)) .next s₂ → LoopStepU h₀ env.locals [s.heap.objs.size] own (J (i + 1)) { s with heap := hh', toks := tk' } .next s₂ := by
      rintro ⟨h', tk, m', news', e', F', N', ho, hm⟩
      refine ⟨rfl, h', tk, m', news', e', F', fun p hp => ?_, fun p hp hq => ho p hp (List.mem_singleton.mp hq), hm⟩
      rcases List.mem_append.mp hp with hp | hp
      · rw [one p hp]; exact N' _ (.head _)
      · exact N' p (.tail _ hp)
    cases f with
    | ret v => exact .ret p
    | brk => exact .brk p
    | next => exact .next (fin p)
    | cont => exact .cont (fin p)
  · rintro h' tk m' news' F' N' _ hJ
    exact done m' news' h' tk hJ F' N'
end
theorem range_size (n : Nat) : Builtin.Range.rangeSize 0 (n : Int) 1 = (n : Int) := by
  rw [rangeSize_nat]; lia
theorem range_small {n : Nat} (h : n ≤ 1000) : Builtin.Range.small 0 (n : Int) 1 = true := small_one (by lia) (by lia) (by lia) (by lia)
def rep {α : Type} (xs : List α) (n : Nat) : List α := (List.replicate n xs).flatten
theorem rep_succ {α : Type} (xs : List α) (n : Nat) : rep xs (n + 1) = xs ++ rep xs n := by simp [rep, List.replicate_succ]
theorem rep_len {α : Type} (xs : List α) (n : Nat) : (rep xs n).length = n * xs.length := by
  induction n with
  | zero => simp [rep]
  | succ n ih => rw [rep_succ, List.length_append, ih, Nat.succ_mul]; lia
theorem rep_mem {α : Type} {xs : List α} {n : Nat} {y : α} (h : y ∈ rep xs n) : y ∈ xs := by
  induction n with
  | zero => simp [rep] at h
  | succ n ih => rw [rep_succ] at h; exact (List.mem_append.mp h).elim id ih
theorem are_rep {vs : List Value} {xs : List (List Nat)} (h : Are vs xs) (n : Nat) : Are (rep vs n) (rep xs n) := by
  induction n with
  | zero => exact .nil
  | succ n ih => rw [rep_succ, rep_succ]; exact lst_append h ih
section
variable {prog : Program} {w : World} {A : Around} {E : Value → Shared → Prop} {s : Shared} {h₀ : Heap} {L a b : Addr} {m : Str → Option Value} {news : List (Addr × Obj)} {vs ws : List Value} {xs ys : List (List Nat)} {n k : Nat} {x : Int} {u : Tok} {Q : Value → Shared → Prop}
/-- a list of texts so many times -/
theorem mul_L (F : Fr h₀ L s.heap m) (N : News h₀ L s.heap news) (ha : (a, listOf (List.toArray vs) n) ∈ news) (hA : Are vs xs) (hx : x = (k : Int)) (hk : k ≤ 1000000) (hz : xs.length * k ≤ 2 ^ 24)
    (h : ∀ D zs h', Fr h₀ L h' m → News h₀ L h' ((D, listOf (List.toArray zs) 0) :: news) → (∀ p ∈ news, p.1 < D) → Are zs (rep xs k) → Q (.ref D) { s with heap := h' }) :
    wpAny (model prog w) A (binaryOp .Mult (.ref a) (.int x u)) Q E s := by
  subst hx
  refine mul_list F N (N.get ha) (by lia) (by lia) (by rw [List.size_toArray, hA.len, Int.toNat_natCast]; exact hz) fun h' F' N' => ?_
  rw [listMul_foldl_if, Int.toNat_natCast] at N'
  exact h _ _ h' F' N' (fun p hp => Heap.lt_size (N p hp).1) (are_rep hA k)
end
section
variable {prog : Program} {w : World} {A : Around} {E : Value → Shared → Prop} {s : Shared} {h₀ : Heap} {L a : Addr} {news : List (Addr × Obj)} {its : Array Value} {n : Nat}
theorem meth_L {name : Str} {id : String} {pl : Sem Bool} {Q : Value × List Value → Shared → Prop} (slot : Slot "list" name id) (hty : typeOf (.builtin id) = pure (.type "method_descriptor")) (N : News h₀ L s.heap news) (ha : (a, listOf its n) ∈ news)
    (h : Q (.builtin id, [.ref a]) s) : wpAny (model prog w) A (getMethod (.ref a) name pl) Q E s :=
  getMethod_list_of slot hty ⟨_, N.get ha, rfl, _, rfl⟩ ⟨_, N.get ha, rfl⟩ h
end
local macro_rules | `(tactic| k_mem) => `(tactic| first | exact List.Mem.head _ | assumption | (refine List.mem_cons_of_mem _ ?_; k_mem))
/-- a text's size -/
local macro_rules | `(tactic| ktn_open) => `(tactic| first
  | (simp only [mulQ, mulQ', quoteS, emptyS, openS, S_append, S_len, PySem.sizeLine_eq, List.length_cons, List.length_nil, List.length_replicate, List.length_append]; lia)
  | (simp only [mulQ, mulQ', quoteS, emptyS, openS, S_append, S_len, PySem.sizeLine_eq, List.length_cons, List.length_nil, List.length_replicate, List.length_append] at *; lia))
/-- my own words (WORDS, laid by mk.py where a proof says k_with_none) are asked first -/
local macro_rules | `(tactic| walk_at $s:str) => `(tactic| k_extra $s)
/-- the walk, as far as a call of the text's, a loop, a comprehension's source, an end (the word "stop") -/
local macro_rules | `(tactic| tb_rel) => `(tactic| repeat' ((fail_if_success k_extra "stop"); first | (k_unfold; (try dsimp only)) | walk1 | (dsimp only; walk1) | (leave1; try dsimp only)))
local macro_rules | `(tactic| k_all) => `(tactic| first | exact off_lt1 (by assumption) | exact off_lt2 (by assumption))
theorem fill_all (w : World) : PySem.Challenge.rw_nq0066_01.prog = PySem.Challenge.rw_nq0066_01.prog ∧ hd.heap_1 w.params = hd.heap_1 w.params := by
  k_fill
  exact ⟨rfl, rfl⟩
theorem off_B1 : True := by
  w_top off
  trivial
/-- what parse257 tells of what stands behind the opening -/
def parseT : List Nat → List Nat
  | [] => []
  | [c] => if c = 34 then [] else [c]
  | c :: d :: r => if c = 34 then (if d = 34 then 34 :: parseT r else []) else c :: parseT (d :: r)
theorem parseT_quote (r : List Nat) : parseT (34 :: 34 :: r) = 34 :: parseT r := by simp [parseT]
theorem parseT_end : parseT [34] = [] := by simp [parseT]
theorem parseT_end2 {d : Nat} {r : List Nat} (h : d ≠ 34) : parseT (34 :: d :: r) = [] := by simp [parseT, h]
theorem parseT_sign {c : Nat} {r : List Nat} (h : c ≠ 34) : parseT (c :: r) = c :: parseT r := by
  cases r <;> simp [parseT, h]
theorem sl1 (b : List Nat) : Txt.slice (S (50 :: 53 :: 55 :: 32 :: 34 :: b)) none (some 3) = Str.ofString "257" := by
  have := slice_to (l := 50 :: 53 :: 55 :: 32 :: 34 :: b) (k := 3) (by simp)
  exact this.trans (by show S [50, 53, 55] = _; decide +kernel)
theorem sl2 (b : List Nat) : Txt.slice (S (50 :: 53 :: 55 :: 32 :: 34 :: b)) (some 3) (some 5) = Str.ofString " \"" := by
  have := slice_of (l := 50 :: 53 :: 55 :: 32 :: 34 :: b) (a := 3) (b := 5) (by lia) (by simp)
  exact this.trans (by show S [32, 34] = _; decide +kernel)
inductive J257 (x : Str) (t : Tok) (b : List Nat) (news : List (Addr × Obj)) (n : Nat) (m : Str → Option Value) : List (Addr × Obj) → Prop
  | mk (hr : m (Str.ofString "resp") = some (.str x t)) (tn : Tok) (hn : m (Str.ofString "n") = some (.int (x.length : Int) tn)) (i : Nat) (acc : List Nat) (ti : Tok) (hi : m (Str.ofString "i") = some (.int ((i : Nat) : Int) ti))
    (y : Str) (ta : Tok) (hdn : m (Str.ofString "dirname") = some (.str y ta)) (hy : y = S acc) (hni : n + i = x.length) (h5 : 5 ≤ i) (hal : acc.length ≤ i) (hacc : acc ++ parseT (x.cps.toList.drop i) = parseT b) : J257 x t b news n m news
theorem t257 (w : World) (b : List Nat) (x : Str) (t : Tok) (news) (hx0 : x = S (50 :: 53 :: 55 :: 32 :: 34 :: b)) (hb : b.length ≤ 1000) : Ctr w 46 1 [.str x t] news (OutS (parseT b)) := by
  subst hx0
  unfold Ctr
  intro dp un gd cn cs a ccd cl outer A₀ base h₀ L m s Q E p loose mean mg mb B F X N T hk hd hu hret
  refine wpAny_call ?_
  have e1 := sl1 b
  have e2 := sl2 b
  have hl : (S (50 :: 53 :: 55 :: 32 :: 34 :: b)).length ≤ 1005 := by rw [S_len]; simp; lia
  have hl2 : (S (50 :: 53 :: 55 :: 32 :: 34 :: b)).length = b.length + 5 := by rw [S_len]; simp
  have hx2 : (S (50 :: 53 :: 55 :: 32 :: 34 :: b)).cps.toList.drop 5 = b := rfl
  generalize hx : S (50 :: 53 :: 55 :: 32 :: 34 :: b) = x at *
  k_dflt ktr_enter
  refine wpAny_mono (E := fun _ _ => False) ?_ (fun _ _ h => h) (fun _ _ h => h.elim)
  k_with_none
  k_with "WhileStep2 brk" => dsimp only [WhileStep2]
  k_with "binaryOp Add str str" => ((refine PyProof.Rows.add_str ?_ (hsz := by ktn_open)); intro _ _)
  k_with "subscriptTail Name Slice str ref" => ((with_reducible show wpAny _ _ (subscriptTail _ (Expr.Slice none (some _) none _) _ _) _ _ _); (refine slice_strN_ns (hsz := by ktn_open) (s := ⟨_, _, _, _, _⟩) (by k_asm) (by k_asm) ?_); intro _ _ _ _ _)
  k_with "subscriptTail Name Slice str ref" => ((with_reducible show wpAny _ _ (subscriptTail _ (Expr.Slice (some _) none none _) _ _) _ _ _); (refine slice_strN_sn (hsz := by ktn_open) (s := ⟨_, _, _, _, _⟩) (by k_asm) (by k_asm) ?_); intro _ _ _ _ _)
  k_with "call builtin:len" => ((with_reducible show wpAny _ _ (call (Value.builtin "len") [Value.str (S _) _]) _ _ _); refine lenS (by ktn_open) ?_)
  k_with "eval ListComp" => (k_here; (with_reducible show wpAny _ _ (eval (Expr.ListComp _ [⟨_, _, [], _⟩] _ _) _) _ _ _); k_dflt (refine LCg.ListComp_U (F₀ := by k_asm) (by with_unfolding_all rfl) (by decide) (by rfl) (by decide) (by rfl) ?_))
  k_with "eval ListComp" => (k_here; (with_reducible show wpAny _ _ (eval (Expr.ListComp _ [⟨_, _, [_], _⟩] _ _) _) _ _ _); k_dflt (refine LCt.ListComp_T (F₀ := by k_asm) (by with_unfolding_all rfl) (by decide) (by rfl) (by decide) (by rfl) ?_))
  k_with "exec Assign cons ListComp" => (k_here; k_dflt (refine LCg.Assign_ListComp_U (F₀ := by k_asm) (by rfl) (by with_unfolding_all rfl) (by with_unfolding_all rfl) (by decide) (by rfl) (by decide) (by rfl) (by rfl) (by rfl) ?_))
  k_with "getMethod ref" => k_dflt (first | refine meth_L PySem.F.slot_list_count PySem.F.type_list_count (by k_asm) (by k_mem) ?_ | refine meth_L PySem.F.slot_list_append PySem.F.type_list_append (by k_asm) (by k_mem) ?_ | refine meth_L PySem.F.slot_list_pop PySem.F.type_list_pop (by k_asm) (by k_mem) ?_ | refine meth_L PySem.F.slot_list_remove PySem.F.type_list_remove (by k_asm) (by k_mem) ?_ | refine meth_L PySem.F.slot_list_extend PySem.F.type_list_extend (by k_asm) (by k_mem) ?_)
  k_with "stop" => with_reducible first | show wpAny _ _ (PySem.call (Value.ref _) _ _) _ _ _ | show wpAny _ _ (exec (Stmt.While _ _ _ _) _) _ _ _ | show wpAny _ _ (exec (Stmt.For _ _ _ _ _) _) _ _ _ | show wpAny _ _ (exec (Stmt.Try _ _ _ _ _) _) _ _ _ | show wpAny _ _ (pyIter _) _ _ _ | show wpAny _ _ (binaryOp Operator.Mult (Value.ref _) (Value.int _ _)) _ _ _ | show LCg.CompSrc _ _ _ _ _ _ _ _ _ _ _ _ _ _ | show wpAny _ _ (binaryOp Operator.Add (Value.ref _) (Value.ref _)) _ _ _ | show wpAny _ _ (PySem.call (Value.builtin "sorted") _ _) _ _ _ | show wpAny _ _ (PySem.call (Value.builtin "list.count") _ _) _ _ _ | show wpAny _ _ (PySem.call (Value.builtin "list.extend") _ _) _ _ _ | show wpAny _ _ (PySem.call (Value.builtin "list.append") _ _) _ _ _ | show wpAny _ _ (PySem.call (Value.builtin "len") [Value.ref _] _) _ _ _ | show wpAny _ _ (subscriptTail _ _ (Value.ref _) _) _ _ _ | show LCt.CompSrcT _ _ _ _ _ _ _ _ _ _ _ _ _ _ _ | show Exists _ | show wpAny _ _ (compareOp CmpOp.NotEq (Value.ref _) (Value.ref _)) _ _ _ | show wpAny _ _ (compareOp CmpOp.Eq (Value.ref _) (Value.ref _)) _ _ _
  k_with "ite" => (refine ite_neg (by simp [e1, e2]) ?_)
  k_with "eval Name" => (k_here; k_dflt (refine ld (by k_asm) (by assumption) ?_); k_whole)
  tb_rel
  refine While_inv2 (J257 x t b news) (n₀ := x.length - 5) (by k_asm) (by k_asm) ⟨rfl, _, rfl, 5, [], _, rfl, _, _, rfl, rfl, by lia, by lia, by simp, by simp [hx2]⟩ ?_
  intro n1 m1 news1 h1 tk1 F1 N1 J1
  obtain ⟨hr, tn, hn, i, acc, ti, hi, _, ta, hdn, rfl, hni, h5, hal, hacc⟩ := J1
  dsimp only
  tb_rel
  · obtain ⟨c, hc, hdr⟩ := itemS (x := x) (i := i) (by lia)
    rename (Txt.item x (i : Int) == _) = true => q
    have hd0 : x.cps.toList.drop (i + 1) = [] := List.drop_eq_nil_of_le (by simp only [PySem.Str.length] at *; simp; lia)
    rw [hdr, hd0, isq hc q, parseT_end, List.append_nil] at hacc
    exact hret _ [] _ _ (by k_asm) (by k_asm) (fun _ _ _ h => nomatch h) ⟨rfl, _, _, rfl, by rw [hacc]⟩
  · obtain ⟨c, hc, hdr⟩ := itemS (x := x) (i := i) (by lia)
    obtain ⟨d, hd', hdr'⟩ := itemS (x := x) (i := i + 1) (by lia)
    rename (Txt.item x (i : Int) == _) = true => q
    rename (Txt.item x ((i : Int) + 1) != _) = true => q'
    rw [hdr, hdr', isq hc q, parseT_end2 (nq hd' (by simpa [bne] using q')), List.append_nil] at hacc
    exact hret _ [] _ _ (by k_asm) (by k_asm) (fun _ _ _ h => nomatch h) ⟨rfl, _, _, rfl, by rw [hacc]⟩
  · obtain ⟨c, hc, hdr⟩ := itemS (x := x) (i := i) (by lia)
    obtain ⟨d, hd', hdr'⟩ := itemS (x := x) (i := i + 1) (by lia)
    rename (Txt.item x (i : Int) == _) = true => q
    rename (Txt.item x ((i : Int) + 1) != _) = false => q'
    rw [hdr, hdr', isq hc q, isq hd' (by simpa [bne] using q'), parseT_quote] at hacc
    refine ⟨_, _, _, _, n1 - 2, rfl, by k_asm, by k_asm, by lia, ?_⟩
    refine ⟨hr, _, hn, i + 2, acc ++ [34], _, rfl, _, _, rfl, by rw [hc, S_append, isq hc q], by lia, by lia, by simp; lia, by simpa using hacc⟩
  · obtain ⟨c, hc, hdr⟩ := itemS (x := x) (i := i) (by lia)
    rename (Txt.item x (i : Int) == _) = false => q
    rw [hdr, parseT_sign (nq hc q)] at hacc
    refine ⟨_, _, _, _, n1 - 1, rfl, by k_asm, by k_asm, by lia, ?_⟩
    refine ⟨hr, _, hn, i + 1, acc ++ [c], _, rfl, _, _, rfl, by rw [hc, S_append], by lia, by lia, by simp; lia, by simpa using hacc⟩
  · have hd0 : x.cps.toList.drop i = [] := List.drop_eq_nil_of_le (by simp only [PySem.Str.length] at *; simp; lia)
    rw [hd0, parseT, List.append_nil] at hacc
    exact hret _ [] _ _ (by k_asm) (by k_asm) (fun _ _ _ h => nomatch h) ⟨rfl, _, _, rfl, by rw [hacc]⟩
theorem off_B2 : True := by
  w_top off
  trivial
def orders : List Nat → Nat → List (List Nat)
  | l, 0 => [l]
  | [], q + 1 => [List.replicate (q + 1) 34]
  | c :: l, q + 1 => (orders (c :: l) q).map (34 :: ·) ++ (orders l (q + 1)).map (c :: ·)
termination_by l q => l.length + q
theorem orders_len : ∀ (l : List Nat) (q : Nat), ∀ y ∈ orders l q, y.length = l.length + q
  | l, 0 => by simp [orders]
  | [], q + 1 => by simp [orders]
  | c :: l, q + 1 => by
    intro y hy
    rw [orders] at hy
    rcases List.mem_append.mp hy with h | h
    · obtain ⟨z, hz, rfl⟩ := List.mem_map.mp h
      have := orders_len (c :: l) q z hz
      simp only [List.length_cons] at *; lia
    · obtain ⟨z, hz, rfl⟩ := List.mem_map.mp h
      have := orders_len l (q + 1) z hz
      simp only [List.length_cons] at *; lia
termination_by l q => l.length + q
theorem orders_size : ∀ (l : List Nat) (q : Nat), (orders l q).length ≤ 2 ^ (l.length + q)
  | l, 0 => by rw [orders]; exact Nat.one_le_two_pow
  | [], q + 1 => by rw [orders]; exact Nat.one_le_two_pow
  | c :: l, q + 1 => by
    have h1 := orders_size (c :: l) q
    have h2 := orders_size l (q + 1)
    rw [orders]
    simp only [List.length_append, List.length_map, List.length_cons] at *
    have : 2 ^ (l.length + 1 + (q + 1)) = 2 ^ (l.length + 1 + q) + 2 ^ (l.length + (q + 1)) := by
      rw [show l.length + 1 + (q + 1) = (l.length + 1 + q) + 1 by lia, show l.length + (q + 1) = l.length + 1 + q by lia, Nat.pow_succ]; lia
    lia
termination_by l q => l.length + q
theorem orders_fit {l : List Nat} {q : Nat} (h : l.length ≤ 3) (h2 : q ≤ 4) : (orders l q).length ≤ 128 :=
  Nat.le_trans (orders_size l q) (Nat.le_trans (Nat.pow_le_pow_right (by lia) (show l.length + q ≤ 7 by lia)) (by decide))
theorem t_orders (w : World) : ∀ (k : Nat) (l : List Nat) (q : Nat) (x : Str) (i : Int) (t u : Tok) (news : List (Addr × Obj)), l.length + q = k → l.length ≤ 3 → q ≤ 4 → x = S l → i = (q : Int) → Ctr w 100 (k + 1) [.str x t, .int i u] news (OutL (orders l q)) := by
  intro k
  induction k using Nat.strongRecOn with
  | ind k IH =>
  intro l q x i t u news hk0 hl3 hq4 hx hi
  subst hx hi
  unfold Ctr
  intro dp un gd cn cs a ccd cl outer A₀ base h₀ L m s Q E p loose mean mg mb B F X N T hk hd hu hret
  refine wpAny_call ?_
  k_dflt (refine' code_defC ?k1 ?k2 ?k3 ?k4 ?k5 ?kA ?kF ?kK ?k6 ?k7 ?k8 ?k9 ?kB ?kD ?_ ?c2 ?c3 ?c4; (case kA => exact rfl); (case kF => exact rfl); (case kK => assumption); (case k1 => k_asm); (case k2 => k_asm); (case k3 => k_asm); (case k4 => k_asm); (case k5 => k_asm); (case k6 => k_is); (case k7 => k_is); (case k8 => ktr_room); (case k9 => exact BindsTo.of_eq rfl); (case kB => exact rfl); (case kD => decide +kernel); (case c2 => exact rfl); (case c3 => exact rfl); (case c4 => exact rfl); k_whole; intro g' L' h' tk' cells' FG' F' N' Y' B' X' T' l1; k_cells Y'; (try simp only [List.cons_append, List.nil_append] at N'); (try dsimp only); (try k_fold))
  refine wpAny_mono (E := fun _ _ => False) ?_ (fun _ _ h => h) (fun _ _ h => h.elim)
  k_with_none
  k_with "WhileStep2 brk" => dsimp only [WhileStep2]
  k_with "binaryOp Add str str" => ((refine PyProof.Rows.add_str ?_ (hsz := by ktn_open)); intro _ _)
  k_with "subscriptTail Name Slice str ref" => ((with_reducible show wpAny _ _ (subscriptTail _ (Expr.Slice none (some _) none _) _ _) _ _ _); (refine slice_strN_ns (hsz := by ktn_open) (s := ⟨_, _, _, _, _⟩) (by k_asm) (by k_asm) ?_); intro _ _ _ _ _)
  k_with "subscriptTail Name Slice str ref" => ((with_reducible show wpAny _ _ (subscriptTail _ (Expr.Slice (some _) none none _) _ _) _ _ _); (refine slice_strN_sn (hsz := by ktn_open) (s := ⟨_, _, _, _, _⟩) (by k_asm) (by k_asm) ?_); intro _ _ _ _ _)
  k_with "call builtin:len" => ((with_reducible show wpAny _ _ (call (Value.builtin "len") [Value.str (S _) _]) _ _ _); refine lenS (by ktn_open) ?_)
  k_with "eval ListComp" => (k_here; (with_reducible show wpAny _ _ (eval (Expr.ListComp _ [⟨_, _, [], _⟩] _ _) _) _ _ _); k_dflt (refine LCg.ListComp_U (F₀ := by k_asm) (by with_unfolding_all rfl) (by decide) (by rfl) (by decide) (by rfl) ?_))
  k_with "eval ListComp" => (k_here; (with_reducible show wpAny _ _ (eval (Expr.ListComp _ [⟨_, _, [_], _⟩] _ _) _) _ _ _); k_dflt (refine LCt.ListComp_T (F₀ := by k_asm) (by with_unfolding_all rfl) (by decide) (by rfl) (by decide) (by rfl) ?_))
  k_with "exec Assign cons ListComp" => (k_here; k_dflt (refine LCg.Assign_ListComp_U (F₀ := by k_asm) (by rfl) (by with_unfolding_all rfl) (by with_unfolding_all rfl) (by decide) (by rfl) (by decide) (by rfl) (by rfl) (by rfl) ?_))
  k_with "getMethod ref" => k_dflt (first | refine meth_L PySem.F.slot_list_count PySem.F.type_list_count (by k_asm) (by k_mem) ?_ | refine meth_L PySem.F.slot_list_append PySem.F.type_list_append (by k_asm) (by k_mem) ?_ | refine meth_L PySem.F.slot_list_pop PySem.F.type_list_pop (by k_asm) (by k_mem) ?_ | refine meth_L PySem.F.slot_list_remove PySem.F.type_list_remove (by k_asm) (by k_mem) ?_ | refine meth_L PySem.F.slot_list_extend PySem.F.type_list_extend (by k_asm) (by k_mem) ?_)
  k_with "stop" => with_reducible first | show wpAny _ _ (PySem.call (Value.ref _) _ _) _ _ _ | show wpAny _ _ (exec (Stmt.While _ _ _ _) _) _ _ _ | show wpAny _ _ (exec (Stmt.For _ _ _ _ _) _) _ _ _ | show wpAny _ _ (exec (Stmt.Try _ _ _ _ _) _) _ _ _ | show wpAny _ _ (pyIter _) _ _ _ | show wpAny _ _ (binaryOp Operator.Mult (Value.ref _) (Value.int _ _)) _ _ _ | show LCg.CompSrc _ _ _ _ _ _ _ _ _ _ _ _ _ _ | show wpAny _ _ (binaryOp Operator.Add (Value.ref _) (Value.ref _)) _ _ _ | show wpAny _ _ (PySem.call (Value.builtin "sorted") _ _) _ _ _ | show wpAny _ _ (PySem.call (Value.builtin "list.count") _ _) _ _ _ | show wpAny _ _ (PySem.call (Value.builtin "list.extend") _ _) _ _ _ | show wpAny _ _ (PySem.call (Value.builtin "list.append") _ _) _ _ _ | show wpAny _ _ (PySem.call (Value.builtin "len") [Value.ref _] _) _ _ _ | show wpAny _ _ (subscriptTail _ _ (Value.ref _) _) _ _ _ | show LCt.CompSrcT _ _ _ _ _ _ _ _ _ _ _ _ _ _ _ | show Exists _ | show wpAny _ _ (compareOp CmpOp.NotEq (Value.ref _) (Value.ref _)) _ _ _ | show wpAny _ _ (compareOp CmpOp.Eq (Value.ref _) (Value.ref _)) _ _ _
  rcases q with _ | q
  · tb_rel
    · rename (_ ∧ AllLt _ news) => hlt
      refine hret _ [_] _ _ (by k_asm) (keep1 (mid := [_]) (by k_asm)) (off_of_lt hlt.2) ⟨_, [_], _, rfl, rfl, ?_⟩
      rw [orders, emptyS, S_append, List.append_nil]
      exact .cons _ _ .nil
    · rename (_ ∧ AllLt _ news) => hlt
      refine hret _ [_] _ _ (by k_asm) (keep1 (mid := [_]) (by k_asm)) (off_of_lt hlt.2) ⟨_, [_], _, rfl, rfl, ?_⟩
      rw [orders, emptyS, S_append, List.append_nil]
      exact .cons _ _ .nil
  rcases l with _ | ⟨c, l⟩
  · tb_rel
    rename (_ ∧ AllLt _ news) => hlt
    refine hret _ [_] _ _ (by k_asm) (keep1 (mid := [_]) (by k_asm)) (off_of_lt hlt.2) ⟨_, [_], _, rfl, rfl, ?_⟩
    rw [orders, mulQ, S_append, List.nil_append]
    exact .cons _ _ .nil
  k_with "ite" => (refine ite_neg (by rw [emptyS]; simp) ?_)
  k_with "ite" => (refine ite_neg (by simp; lia) ?_)
  tb_rel
  k_dflt (refine Ctr.useL (IH (k - 1) (by lia) (c :: l) q _ _ _ _ _ (by simp only [List.length_cons] at *; lia) hl3 (by lia) rfl (by lia)) (by k_asm) (by k_asm) (by k_asm) (by k_asm) (by k_asm) rfl (by ktr_room) (by ktr_units) ?_)
  intro a1 vs1 n1 h1 tk1 F1 N1 off1 hA1
  dsimp only
  refine LCg.CompSrc.ledger rfl (by k_asm) (by k_asm) (List.Mem.head _) (by rw [List.size_toArray, hA1.len, sizeLine_eq]; have := orders_fit hl3 (q := q) (by lia); lia) ?_
  intro g1
  dsimp only
  refine comp_strs (fun y => 34 :: y) hA1 (.inr ⟨_, List.Mem.head _, rfl, _, rfl⟩) ?_ ?_
  · intro y t1 I1 oI1 C1 oC1 D1 m2 ys1 h2 tk2 E2 hy hC hm2 F2 N2 off2 ne2
    have hyl := orders_len _ _ y hy
    dsimp only
    tb_rel
    exact ⟨_, _, _, rfl, by rw [quoteS, S_append]; rfl, by k_asm, by k_asm⟩
  intro ys1 hys1
  tb_rel
  have hl2 : l.length ≤ 3 := by simp only [List.length_cons] at hl3; lia
  k_dflt (refine Ctr.useL (IH (k - 1) (by lia) l (q + 1) _ _ _ _ _ (by simp only [List.length_cons] at *; lia) hl2 hq4 (slice_from (l := c :: l) (a := 1) (by simp)) rfl) (by k_asm) (by k_asm) (by k_asm) (by k_asm) (by k_asm) rfl (by ktr_room) (by ktr_units) ?_)
  intro a2 vs2 n2 h2 tk2 F2 N2 off2 hA2
  dsimp only
  refine LCg.CompSrc.ledger rfl (by k_asm) (by k_asm) (List.Mem.head _) (by rw [List.size_toArray, hA2.len, sizeLine_eq]; have := orders_fit hl2 hq4; lia) ?_
  intro g2
  dsimp only
  refine comp_strs (fun y => c :: y) hA2 (.inr ⟨_, List.Mem.head _, rfl, _, rfl⟩) ?_ ?_
  · intro y t1 I1 oI1 C1 oC1 D1 m2 ys1 h2 tk2 E2 hy hC hm2 F2 N2 off2 ne2
    have hyl := orders_len _ _ y hy
    dsimp only
    tb_rel
    exact ⟨_, _, _, rfl, by rw [item0, S_append]; rfl, by k_asm, by k_asm⟩
  intro ys2 hys2
  tb_rel
  refine add_L (by k_asm) (by k_asm) (by k_mem) (by k_mem) hys1 hys2 (by rw [List.length_map, List.length_map, sizeLine_eq]; have := orders_fit hl3 (q := q) (by lia); have := orders_fit hl2 hq4; lia) ?_
  intro D3 zs3 h3 F3 N3 lt3 hA3
  dsimp only
  tb_rel
  refine hret _ [_] _ _ (by k_asm) (keep1 (mid := [_, _, _, _, _]) (by k_asm)) (off_of_lt' fun p hp => lt3 p ?_) ⟨_, _, _, rfl, rfl, ?_⟩
  · exact List.mem_append_right [_, _, _, _, _] hp
  · rw [orders]; exact hA3
theorem off_B3 : True := by
  w_top off
  trivial
/-- -1, 0, 1 as the one stands to the other -/
def cmpI (a b : Bool) : Int := (if a = true then 1 else 0) - (if b = true then 1 else 0)
abbrev cmpS (x y : List Nat) : Int := cmpI (decide (y < x)) (decide (x < y))
abbrev cmpN (x y : Int) : Int := cmpI (decide (y < x)) (decide (x < y))
theorem t_cmpS (w : World) (x y : Str) (t u : Tok) (news) : Ctr w 83 1 [.str x t, .str y u] news (OutI (cmpS x.cps.toList y.cps.toList)) := by
  unfold Ctr
  intro dp un gd cn cs a ccd cl outer A₀ base h₀ L m s Q E p loose mean mg mb B F X N T hk hd hu hret
  refine wpAny_call ?_
  k_with_none
  k_with "WhileStep2 brk" => dsimp only [WhileStep2]
  k_with "binaryOp Add str str" => ((refine PyProof.Rows.add_str ?_ (hsz := by ktn_open)); intro _ _)
  k_with "subscriptTail Name Slice str ref" => ((with_reducible show wpAny _ _ (subscriptTail _ (Expr.Slice none (some _) none _) _ _) _ _ _); (refine slice_strN_ns (hsz := by ktn_open) (s := ⟨_, _, _, _, _⟩) (by k_asm) (by k_asm) ?_); intro _ _ _ _ _)
  k_with "subscriptTail Name Slice str ref" => ((with_reducible show wpAny _ _ (subscriptTail _ (Expr.Slice (some _) none none _) _ _) _ _ _); (refine slice_strN_sn (hsz := by ktn_open) (s := ⟨_, _, _, _, _⟩) (by k_asm) (by k_asm) ?_); intro _ _ _ _ _)
  k_with "call builtin:len" => ((with_reducible show wpAny _ _ (call (Value.builtin "len") [Value.str (S _) _]) _ _ _); refine lenS (by ktn_open) ?_)
  k_with "eval ListComp" => (k_here; (with_reducible show wpAny _ _ (eval (Expr.ListComp _ [⟨_, _, [], _⟩] _ _) _) _ _ _); k_dflt (refine LCg.ListComp_U (F₀ := by k_asm) (by with_unfolding_all rfl) (by decide) (by rfl) (by decide) (by rfl) ?_))
  k_with "eval ListComp" => (k_here; (with_reducible show wpAny _ _ (eval (Expr.ListComp _ [⟨_, _, [_], _⟩] _ _) _) _ _ _); k_dflt (refine LCt.ListComp_T (F₀ := by k_asm) (by with_unfolding_all rfl) (by decide) (by rfl) (by decide) (by rfl) ?_))
  k_with "exec Assign cons ListComp" => (k_here; k_dflt (refine LCg.Assign_ListComp_U (F₀ := by k_asm) (by rfl) (by with_unfolding_all rfl) (by with_unfolding_all rfl) (by decide) (by rfl) (by decide) (by rfl) (by rfl) (by rfl) ?_))
  k_with "getMethod ref" => k_dflt (first | refine meth_L PySem.F.slot_list_count PySem.F.type_list_count (by k_asm) (by k_mem) ?_ | refine meth_L PySem.F.slot_list_append PySem.F.type_list_append (by k_asm) (by k_mem) ?_ | refine meth_L PySem.F.slot_list_pop PySem.F.type_list_pop (by k_asm) (by k_mem) ?_ | refine meth_L PySem.F.slot_list_remove PySem.F.type_list_remove (by k_asm) (by k_mem) ?_ | refine meth_L PySem.F.slot_list_extend PySem.F.type_list_extend (by k_asm) (by k_mem) ?_)
  k_with "stop" => with_reducible first | show wpAny _ _ (PySem.call (Value.ref _) _ _) _ _ _ | show wpAny _ _ (exec (Stmt.While _ _ _ _) _) _ _ _ | show wpAny _ _ (exec (Stmt.For _ _ _ _ _) _) _ _ _ | show wpAny _ _ (exec (Stmt.Try _ _ _ _ _) _) _ _ _ | show wpAny _ _ (pyIter _) _ _ _ | show wpAny _ _ (binaryOp Operator.Mult (Value.ref _) (Value.int _ _)) _ _ _ | show LCg.CompSrc _ _ _ _ _ _ _ _ _ _ _ _ _ _ | show wpAny _ _ (binaryOp Operator.Add (Value.ref _) (Value.ref _)) _ _ _ | show wpAny _ _ (PySem.call (Value.builtin "sorted") _ _) _ _ _ | show wpAny _ _ (PySem.call (Value.builtin "list.count") _ _) _ _ _ | show wpAny _ _ (PySem.call (Value.builtin "list.extend") _ _) _ _ _ | show wpAny _ _ (PySem.call (Value.builtin "list.append") _ _) _ _ _ | show wpAny _ _ (PySem.call (Value.builtin "len") [Value.ref _] _) _ _ _ | show wpAny _ _ (subscriptTail _ _ (Value.ref _) _) _ _ _ | show LCt.CompSrcT _ _ _ _ _ _ _ _ _ _ _ _ _ _ _ | show Exists _ | show wpAny _ _ (compareOp CmpOp.NotEq (Value.ref _) (Value.ref _)) _ _ _ | show wpAny _ _ (compareOp CmpOp.Eq (Value.ref _) (Value.ref _)) _ _ _
  k_dflt ktr_enter
  refine wpAny_mono (E := fun _ _ => False) ?_ (fun _ _ h => h) (fun _ _ h => h.elim)
  tb_rel
  exact hret _ [] _ _ (by k_asm) (by k_asm) off_nil ⟨rfl, _, _, rfl, rfl⟩
theorem t_cmpN (w : World) (x y : Int) (t u : Tok) (news) : Ctr w 83 1 [.int x t, .int y u] news (OutI (cmpN x y)) := by
  unfold Ctr
  intro dp un gd cn cs a ccd cl outer A₀ base h₀ L m s Q E p loose mean mg mb B F X N T hk hd hu hret
  refine wpAny_call ?_
  k_with_none
  k_with "WhileStep2 brk" => dsimp only [WhileStep2]
  k_with "binaryOp Add str str" => ((refine PyProof.Rows.add_str ?_ (hsz := by ktn_open)); intro _ _)
  k_with "subscriptTail Name Slice str ref" => ((with_reducible show wpAny _ _ (subscriptTail _ (Expr.Slice none (some _) none _) _ _) _ _ _); (refine slice_strN_ns (hsz := by ktn_open) (s := ⟨_, _, _, _, _⟩) (by k_asm) (by k_asm) ?_); intro _ _ _ _ _)
  k_with "subscriptTail Name Slice str ref" => ((with_reducible show wpAny _ _ (subscriptTail _ (Expr.Slice (some _) none none _) _ _) _ _ _); (refine slice_strN_sn (hsz := by ktn_open) (s := ⟨_, _, _, _, _⟩) (by k_asm) (by k_asm) ?_); intro _ _ _ _ _)
  k_with "call builtin:len" => ((with_reducible show wpAny _ _ (call (Value.builtin "len") [Value.str (S _) _]) _ _ _); refine lenS (by ktn_open) ?_)
  k_with "eval ListComp" => (k_here; (with_reducible show wpAny _ _ (eval (Expr.ListComp _ [⟨_, _, [], _⟩] _ _) _) _ _ _); k_dflt (refine LCg.ListComp_U (F₀ := by k_asm) (by with_unfolding_all rfl) (by decide) (by rfl) (by decide) (by rfl) ?_))
  k_with "eval ListComp" => (k_here; (with_reducible show wpAny _ _ (eval (Expr.ListComp _ [⟨_, _, [_], _⟩] _ _) _) _ _ _); k_dflt (refine LCt.ListComp_T (F₀ := by k_asm) (by with_unfolding_all rfl) (by decide) (by rfl) (by decide) (by rfl) ?_))
  k_with "exec Assign cons ListComp" => (k_here; k_dflt (refine LCg.Assign_ListComp_U (F₀ := by k_asm) (by rfl) (by with_unfolding_all rfl) (by with_unfolding_all rfl) (by decide) (by rfl) (by decide) (by rfl) (by rfl) (by rfl) ?_))
  k_with "getMethod ref" => k_dflt (first | refine meth_L PySem.F.slot_list_count PySem.F.type_list_count (by k_asm) (by k_mem) ?_ | refine meth_L PySem.F.slot_list_append PySem.F.type_list_append (by k_asm) (by k_mem) ?_ | refine meth_L PySem.F.slot_list_pop PySem.F.type_list_pop (by k_asm) (by k_mem) ?_ | refine meth_L PySem.F.slot_list_remove PySem.F.type_list_remove (by k_asm) (by k_mem) ?_ | refine meth_L PySem.F.slot_list_extend PySem.F.type_list_extend (by k_asm) (by k_mem) ?_)
  k_with "stop" => with_reducible first | show wpAny _ _ (PySem.call (Value.ref _) _ _) _ _ _ | show wpAny _ _ (exec (Stmt.While _ _ _ _) _) _ _ _ | show wpAny _ _ (exec (Stmt.For _ _ _ _ _) _) _ _ _ | show wpAny _ _ (exec (Stmt.Try _ _ _ _ _) _) _ _ _ | show wpAny _ _ (pyIter _) _ _ _ | show wpAny _ _ (binaryOp Operator.Mult (Value.ref _) (Value.int _ _)) _ _ _ | show LCg.CompSrc _ _ _ _ _ _ _ _ _ _ _ _ _ _ | show wpAny _ _ (binaryOp Operator.Add (Value.ref _) (Value.ref _)) _ _ _ | show wpAny _ _ (PySem.call (Value.builtin "sorted") _ _) _ _ _ | show wpAny _ _ (PySem.call (Value.builtin "list.count") _ _) _ _ _ | show wpAny _ _ (PySem.call (Value.builtin "list.extend") _ _) _ _ _ | show wpAny _ _ (PySem.call (Value.builtin "list.append") _ _) _ _ _ | show wpAny _ _ (PySem.call (Value.builtin "len") [Value.ref _] _) _ _ _ | show wpAny _ _ (subscriptTail _ _ (Value.ref _) _) _ _ _ | show LCt.CompSrcT _ _ _ _ _ _ _ _ _ _ _ _ _ _ _ | show Exists _ | show wpAny _ _ (compareOp CmpOp.NotEq (Value.ref _) (Value.ref _)) _ _ _ | show wpAny _ _ (compareOp CmpOp.Eq (Value.ref _) (Value.ref _)) _ _ _
  k_dflt ktr_enter
  refine wpAny_mono (E := fun _ _ => False) ?_ (fun _ _ h => h) (fun _ _ h => h.elim)
  tb_rel
  exact hret _ [] _ _ (by k_asm) (by k_asm) off_nil ⟨rfl, _, _, rfl, rfl⟩
/-- the law's own order of words: by their lengths, then by themselves -/
def cmpL (x y : List Nat) : Int := if cmpN x.length y.length = 0 then cmpS x y else cmpN x.length y.length
theorem t_byLength (w : World) (x y : List Nat) (t u : Tok) (news) (hx : x.length ≤ 1000) (hy : y.length ≤ 1000) : Ctr w 129 2 [.str (S x) t, .str (S y) u] news (OutI (cmpL x y)) := by
  unfold Ctr
  intro dp un gd cn cs a ccd cl outer A₀ base h₀ L m s Q E p loose mean mg mb B F X N T hk hd hu hret
  refine wpAny_call ?_
  k_with_none
  k_with "WhileStep2 brk" => dsimp only [WhileStep2]
  k_with "binaryOp Add str str" => ((refine PyProof.Rows.add_str ?_ (hsz := by ktn_open)); intro _ _)
  k_with "subscriptTail Name Slice str ref" => ((with_reducible show wpAny _ _ (subscriptTail _ (Expr.Slice none (some _) none _) _ _) _ _ _); (refine slice_strN_ns (hsz := by ktn_open) (s := ⟨_, _, _, _, _⟩) (by k_asm) (by k_asm) ?_); intro _ _ _ _ _)
  k_with "subscriptTail Name Slice str ref" => ((with_reducible show wpAny _ _ (subscriptTail _ (Expr.Slice (some _) none none _) _ _) _ _ _); (refine slice_strN_sn (hsz := by ktn_open) (s := ⟨_, _, _, _, _⟩) (by k_asm) (by k_asm) ?_); intro _ _ _ _ _)
  k_with "call builtin:len" => ((with_reducible show wpAny _ _ (call (Value.builtin "len") [Value.str (S _) _]) _ _ _); refine lenS (by ktn_open) ?_)
  k_with "eval ListComp" => (k_here; (with_reducible show wpAny _ _ (eval (Expr.ListComp _ [⟨_, _, [], _⟩] _ _) _) _ _ _); k_dflt (refine LCg.ListComp_U (F₀ := by k_asm) (by with_unfolding_all rfl) (by decide) (by rfl) (by decide) (by rfl) ?_))
  k_with "eval ListComp" => (k_here; (with_reducible show wpAny _ _ (eval (Expr.ListComp _ [⟨_, _, [_], _⟩] _ _) _) _ _ _); k_dflt (refine LCt.ListComp_T (F₀ := by k_asm) (by with_unfolding_all rfl) (by decide) (by rfl) (by decide) (by rfl) ?_))
  k_with "exec Assign cons ListComp" => (k_here; k_dflt (refine LCg.Assign_ListComp_U (F₀ := by k_asm) (by rfl) (by with_unfolding_all rfl) (by with_unfolding_all rfl) (by decide) (by rfl) (by decide) (by rfl) (by rfl) (by rfl) ?_))
  k_with "getMethod ref" => k_dflt (first | refine meth_L PySem.F.slot_list_count PySem.F.type_list_count (by k_asm) (by k_mem) ?_ | refine meth_L PySem.F.slot_list_append PySem.F.type_list_append (by k_asm) (by k_mem) ?_ | refine meth_L PySem.F.slot_list_pop PySem.F.type_list_pop (by k_asm) (by k_mem) ?_ | refine meth_L PySem.F.slot_list_remove PySem.F.type_list_remove (by k_asm) (by k_mem) ?_ | refine meth_L PySem.F.slot_list_extend PySem.F.type_list_extend (by k_asm) (by k_mem) ?_)
  k_with "stop" => with_reducible first | show wpAny _ _ (PySem.call (Value.ref _) _ _) _ _ _ | show wpAny _ _ (exec (Stmt.While _ _ _ _) _) _ _ _ | show wpAny _ _ (exec (Stmt.For _ _ _ _ _) _) _ _ _ | show wpAny _ _ (exec (Stmt.Try _ _ _ _ _) _) _ _ _ | show wpAny _ _ (pyIter _) _ _ _ | show wpAny _ _ (binaryOp Operator.Mult (Value.ref _) (Value.int _ _)) _ _ _ | show LCg.CompSrc _ _ _ _ _ _ _ _ _ _ _ _ _ _ | show wpAny _ _ (binaryOp Operator.Add (Value.ref _) (Value.ref _)) _ _ _ | show wpAny _ _ (PySem.call (Value.builtin "sorted") _ _) _ _ _ | show wpAny _ _ (PySem.call (Value.builtin "list.count") _ _) _ _ _ | show wpAny _ _ (PySem.call (Value.builtin "list.extend") _ _) _ _ _ | show wpAny _ _ (PySem.call (Value.builtin "list.append") _ _) _ _ _ | show wpAny _ _ (PySem.call (Value.builtin "len") [Value.ref _] _) _ _ _ | show wpAny _ _ (subscriptTail _ _ (Value.ref _) _) _ _ _ | show LCt.CompSrcT _ _ _ _ _ _ _ _ _ _ _ _ _ _ _ | show Exists _ | show wpAny _ _ (compareOp CmpOp.NotEq (Value.ref _) (Value.ref _)) _ _ _ | show wpAny _ _ (compareOp CmpOp.Eq (Value.ref _) (Value.ref _)) _ _ _
  k_dflt ktr_enter
  refine wpAny_mono (E := fun _ _ => False) ?_ (fun _ _ h => h) (fun _ _ h => h.elim)
  tb_rel
  k_dflt (refine Ctr.useI (t_cmpN w _ _ _ _ _) (by k_asm) (by k_asm) (by k_asm) (by k_asm) (by k_asm) rfl (by ktr_room) (by ktr_units) ?_)
  intro t1 h1 tk1 F1 N1
  dsimp only
  tb_rel
  · refine hret _ [] _ _ (by k_asm) (by k_asm) off_nil ⟨rfl, _, _, rfl, ?_⟩
    rw [cmpL, if_neg (by assumption)]
  · k_dflt (refine Ctr.useI (t_cmpS w _ _ _ _ _) (by k_asm) (by k_asm) (by k_asm) (by k_asm) (by k_asm) rfl (by ktr_room) (by ktr_units) ?_)
    intro t2 h2 tk2 F2 N2
    dsimp only
    tb_rel
    refine hret _ [] _ _ (by k_asm) (by k_asm) off_nil ⟨rfl, _, _, rfl, ?_⟩
    rw [cmpL, if_pos (by assumption)]
def choose : Nat → Nat → Nat
  | 0, _ => 1
  | n + 1, r => if r = 0 ∨ r = n + 1 then 1 else choose n (r - 1) + choose n r
theorem t_choose (w : World) : ∀ (n r : Nat) (i j : Int) (t u : Tok) (news : List (Addr × Obj)), r ≤ n → i = (n : Int) → j = (r : Int) → Ctr w 107 (n + 1) [.int i t, .int j u] news (OutI (choose n r)) := by
  intro n
  induction n with
  | zero =>
    intro r i j t u news hr hi hj
    obtain rfl : r = 0 := by lia
    subst hi hj
    unfold Ctr
    intro dp un gd cn cs a ccd cl outer A₀ base h₀ L m s Q E p loose mean mg mb B F X N T hk hd hu hret
    refine wpAny_call ?_
    k_with_none
    k_with "WhileStep2 brk" => dsimp only [WhileStep2]
    k_with "binaryOp Add str str" => ((refine PyProof.Rows.add_str ?_ (hsz := by ktn_open)); intro _ _)
    k_with "subscriptTail Name Slice str ref" => ((with_reducible show wpAny _ _ (subscriptTail _ (Expr.Slice none (some _) none _) _ _) _ _ _); (refine slice_strN_ns (hsz := by ktn_open) (s := ⟨_, _, _, _, _⟩) (by k_asm) (by k_asm) ?_); intro _ _ _ _ _)
    k_with "subscriptTail Name Slice str ref" => ((with_reducible show wpAny _ _ (subscriptTail _ (Expr.Slice (some _) none none _) _ _) _ _ _); (refine slice_strN_sn (hsz := by ktn_open) (s := ⟨_, _, _, _, _⟩) (by k_asm) (by k_asm) ?_); intro _ _ _ _ _)
    k_with "call builtin:len" => ((with_reducible show wpAny _ _ (call (Value.builtin "len") [Value.str (S _) _]) _ _ _); refine lenS (by ktn_open) ?_)
    k_with "eval ListComp" => (k_here; (with_reducible show wpAny _ _ (eval (Expr.ListComp _ [⟨_, _, [], _⟩] _ _) _) _ _ _); k_dflt (refine LCg.ListComp_U (F₀ := by k_asm) (by with_unfolding_all rfl) (by decide) (by rfl) (by decide) (by rfl) ?_))
    k_with "eval ListComp" => (k_here; (with_reducible show wpAny _ _ (eval (Expr.ListComp _ [⟨_, _, [_], _⟩] _ _) _) _ _ _); k_dflt (refine LCt.ListComp_T (F₀ := by k_asm) (by with_unfolding_all rfl) (by decide) (by rfl) (by decide) (by rfl) ?_))
    k_with "exec Assign cons ListComp" => (k_here; k_dflt (refine LCg.Assign_ListComp_U (F₀ := by k_asm) (by rfl) (by with_unfolding_all rfl) (by with_unfolding_all rfl) (by decide) (by rfl) (by decide) (by rfl) (by rfl) (by rfl) ?_))
    k_with "getMethod ref" => k_dflt (first | refine meth_L PySem.F.slot_list_count PySem.F.type_list_count (by k_asm) (by k_mem) ?_ | refine meth_L PySem.F.slot_list_append PySem.F.type_list_append (by k_asm) (by k_mem) ?_ | refine meth_L PySem.F.slot_list_pop PySem.F.type_list_pop (by k_asm) (by k_mem) ?_ | refine meth_L PySem.F.slot_list_remove PySem.F.type_list_remove (by k_asm) (by k_mem) ?_ | refine meth_L PySem.F.slot_list_extend PySem.F.type_list_extend (by k_asm) (by k_mem) ?_)
    k_with "stop" => with_reducible first | show wpAny _ _ (PySem.call (Value.ref _) _ _) _ _ _ | show wpAny _ _ (exec (Stmt.While _ _ _ _) _) _ _ _ | show wpAny _ _ (exec (Stmt.For _ _ _ _ _) _) _ _ _ | show wpAny _ _ (exec (Stmt.Try _ _ _ _ _) _) _ _ _ | show wpAny _ _ (pyIter _) _ _ _ | show wpAny _ _ (binaryOp Operator.Mult (Value.ref _) (Value.int _ _)) _ _ _ | show LCg.CompSrc _ _ _ _ _ _ _ _ _ _ _ _ _ _ | show wpAny _ _ (binaryOp Operator.Add (Value.ref _) (Value.ref _)) _ _ _ | show wpAny _ _ (PySem.call (Value.builtin "sorted") _ _) _ _ _ | show wpAny _ _ (PySem.call (Value.builtin "list.count") _ _) _ _ _ | show wpAny _ _ (PySem.call (Value.builtin "list.extend") _ _) _ _ _ | show wpAny _ _ (PySem.call (Value.builtin "list.append") _ _) _ _ _ | show wpAny _ _ (PySem.call (Value.builtin "len") [Value.ref _] _) _ _ _ | show wpAny _ _ (subscriptTail _ _ (Value.ref _) _) _ _ _ | show LCt.CompSrcT _ _ _ _ _ _ _ _ _ _ _ _ _ _ _ | show Exists _ | show wpAny _ _ (compareOp CmpOp.NotEq (Value.ref _) (Value.ref _)) _ _ _ | show wpAny _ _ (compareOp CmpOp.Eq (Value.ref _) (Value.ref _)) _ _ _
    k_dflt ktr_enter
    refine wpAny_mono (E := fun _ _ => False) ?_ (fun _ _ h => h) (fun _ _ h => h.elim)
    tb_rel
    exact hret _ [] _ _ (by k_asm) (by k_asm) off_nil ⟨rfl, _, _, rfl, rfl⟩
  | succ n IH =>
    intro r i j t u news hr hi hj
    subst hi hj
    unfold Ctr
    intro dp un gd cn cs a ccd cl outer A₀ base h₀ L m s Q E p loose mean mg mb B F X N T hk hd hu hret
    refine wpAny_call ?_
    k_with_none
    k_with "WhileStep2 brk" => dsimp only [WhileStep2]
    k_with "binaryOp Add str str" => ((refine PyProof.Rows.add_str ?_ (hsz := by ktn_open)); intro _ _)
    k_with "subscriptTail Name Slice str ref" => ((with_reducible show wpAny _ _ (subscriptTail _ (Expr.Slice none (some _) none _) _ _) _ _ _); (refine slice_strN_ns (hsz := by ktn_open) (s := ⟨_, _, _, _, _⟩) (by k_asm) (by k_asm) ?_); intro _ _ _ _ _)
    k_with "subscriptTail Name Slice str ref" => ((with_reducible show wpAny _ _ (subscriptTail _ (Expr.Slice (some _) none none _) _ _) _ _ _); (refine slice_strN_sn (hsz := by ktn_open) (s := ⟨_, _, _, _, _⟩) (by k_asm) (by k_asm) ?_); intro _ _ _ _ _)
    k_with "call builtin:len" => ((with_reducible show wpAny _ _ (call (Value.builtin "len") [Value.str (S _) _]) _ _ _); refine lenS (by ktn_open) ?_)
    k_with "eval ListComp" => (k_here; (with_reducible show wpAny _ _ (eval (Expr.ListComp _ [⟨_, _, [], _⟩] _ _) _) _ _ _); k_dflt (refine LCg.ListComp_U (F₀ := by k_asm) (by with_unfolding_all rfl) (by decide) (by rfl) (by decide) (by rfl) ?_))
    k_with "eval ListComp" => (k_here; (with_reducible show wpAny _ _ (eval (Expr.ListComp _ [⟨_, _, [_], _⟩] _ _) _) _ _ _); k_dflt (refine LCt.ListComp_T (F₀ := by k_asm) (by with_unfolding_all rfl) (by decide) (by rfl) (by decide) (by rfl) ?_))
    k_with "exec Assign cons ListComp" => (k_here; k_dflt (refine LCg.Assign_ListComp_U (F₀ := by k_asm) (by rfl) (by with_unfolding_all rfl) (by with_unfolding_all rfl) (by decide) (by rfl) (by decide) (by rfl) (by rfl) (by rfl) ?_))
    k_with "getMethod ref" => k_dflt (first | refine meth_L PySem.F.slot_list_count PySem.F.type_list_count (by k_asm) (by k_mem) ?_ | refine meth_L PySem.F.slot_list_append PySem.F.type_list_append (by k_asm) (by k_mem) ?_ | refine meth_L PySem.F.slot_list_pop PySem.F.type_list_pop (by k_asm) (by k_mem) ?_ | refine meth_L PySem.F.slot_list_remove PySem.F.type_list_remove (by k_asm) (by k_mem) ?_ | refine meth_L PySem.F.slot_list_extend PySem.F.type_list_extend (by k_asm) (by k_mem) ?_)
    k_with "stop" => with_reducible first | show wpAny _ _ (PySem.call (Value.ref _) _ _) _ _ _ | show wpAny _ _ (exec (Stmt.While _ _ _ _) _) _ _ _ | show wpAny _ _ (exec (Stmt.For _ _ _ _ _) _) _ _ _ | show wpAny _ _ (exec (Stmt.Try _ _ _ _ _) _) _ _ _ | show wpAny _ _ (pyIter _) _ _ _ | show wpAny _ _ (binaryOp Operator.Mult (Value.ref _) (Value.int _ _)) _ _ _ | show LCg.CompSrc _ _ _ _ _ _ _ _ _ _ _ _ _ _ | show wpAny _ _ (binaryOp Operator.Add (Value.ref _) (Value.ref _)) _ _ _ | show wpAny _ _ (PySem.call (Value.builtin "sorted") _ _) _ _ _ | show wpAny _ _ (PySem.call (Value.builtin "list.count") _ _) _ _ _ | show wpAny _ _ (PySem.call (Value.builtin "list.extend") _ _) _ _ _ | show wpAny _ _ (PySem.call (Value.builtin "list.append") _ _) _ _ _ | show wpAny _ _ (PySem.call (Value.builtin "len") [Value.ref _] _) _ _ _ | show wpAny _ _ (subscriptTail _ _ (Value.ref _) _) _ _ _ | show LCt.CompSrcT _ _ _ _ _ _ _ _ _ _ _ _ _ _ _ | show Exists _ | show wpAny _ _ (compareOp CmpOp.NotEq (Value.ref _) (Value.ref _)) _ _ _ | show wpAny _ _ (compareOp CmpOp.Eq (Value.ref _) (Value.ref _)) _ _ _
    k_dflt ktr_enter
    refine wpAny_mono (E := fun _ _ => False) ?_ (fun _ _ h => h) (fun _ _ h => h.elim)
    tb_rel
    · refine hret _ [] _ _ (by k_asm) (by k_asm) off_nil ⟨rfl, _, _, rfl, ?_⟩
      rw [choose, if_pos (.inl (by lia))]; rfl
    · refine hret _ [] _ _ (by k_asm) (by k_asm) off_nil ⟨rfl, _, _, rfl, ?_⟩
      rw [choose, if_pos (.inr (by lia))]; rfl
    · k_dflt (refine Ctr.useI (IH (r - 1) _ _ _ _ _ (by lia) (by lia) (by lia)) (by k_asm) (by k_asm) (by k_asm) (by k_asm) (by k_asm) rfl (by ktr_room) (by ktr_units) ?_)
      intro t1 h1 tk1 F1 N1
      dsimp only
      tb_rel
      k_dflt (refine Ctr.useI (IH r _ _ _ _ _ (by lia) (by lia) (by lia)) (by k_asm) (by k_asm) (by k_asm) (by k_asm) (by k_asm) rfl (by ktr_room) (by ktr_units) ?_)
      intro t2 h2 tk2 F2 N2
      dsimp only
      tb_rel
      refine hret _ [] _ _ (by k_asm) (by k_asm) off_nil ⟨rfl, _, _, rfl, ?_⟩
      rw [choose, if_neg (by lia)]; rfl
theorem off_B4 : True := by
  w_top off
  trivial
/-- a name's quotes doubled -/
def dbl : List Nat → List Nat
  | [] => []
  | c :: r => if c = 34 then 34 :: 34 :: dbl r else c :: dbl r
theorem parseT_dbl : ∀ (h o : List Nat), parseT (dbl h ++ o) = h ++ parseT o
  | [], o => rfl
  | c :: r, o => by
    unfold dbl
    split
    · rename_i e; subst e
      rw [List.cons_append, List.cons_append, parseT_quote, parseT_dbl r o]; rfl
    · rename_i e
      rw [List.cons_append, parseT_sign e, parseT_dbl r o]; rfl
theorem dbl_len : ∀ h : List Nat, (dbl h).length ≤ 2 * h.length
  | [] => Nat.le_refl _
  | c :: r => by
    have := dbl_len r
    unfold dbl
    split <;> simp only [List.length_cons] <;> lia
theorem dbl_replace (h : List Nat) : Txt.replace (S h) (Str.ofString "\"") (Str.ofString "\"\"") = S (dbl h) := by
  have e : ∀ l, dbl l = StrLaws.dbl 34 l := by
    intro l
    induction l with
    | nil => rfl
    | cons c r ih =>
      unfold dbl StrLaws.dbl
      split
      · rename_i q; rw [ih, q]
      · rw [ih]
  refine PySem.Str.ext' (Array.toList_inj.mp ?_)
  rw [e, show Str.ofString "\"" = ⟨#[34]⟩ from by decide +kernel, show Str.ofString "\"\"" = ⟨#[34, 34]⟩ from by decide +kernel, StrLaws.replace_double]
def told (h l : List Nat) (k : Nat) : List (List Nat) := (orders l k).map fun o => h ++ parseT o
theorem parseT_len : ∀ (n : Nat) (l : List Nat), l.length ≤ n → (parseT l).length ≤ l.length := by
  intro n
  induction n with
  | zero => intro l hl; obtain rfl : l = [] := List.length_eq_zero_iff.mp (by lia); exact Nat.le_refl _
  | succ n ih =>
    intro l hl
    match l with
    | [] => exact Nat.le_refl _
    | [c] => unfold parseT; split <;> simp
    | c :: d :: r =>
      unfold parseT
      have h1 := ih r (by simp only [List.length_cons] at hl; lia)
      have h2 := ih (d :: r) (by simp only [List.length_cons] at hl ⊢; lia)
      split
      · split <;> simp only [List.length_cons, List.length_nil] at * <;> lia
      · simp only [List.length_cons] at *; lia
theorem t_told (w : World) (h l : List Nat) (k : Nat) (i : Int) (t u v : Tok) (news) (hh : h.length ≤ 2) (hl : l.length ≤ 3) (hk4 : k ≤ 4) (hi : i = (k : Int)) : Ctr w 122 9 [.str (S h) t, .str (S l) u, .int i v] news (OutL (told h l k)) := by
  subst hi
  unfold Ctr
  intro dp un gd cn cs a ccd cl outer A₀ base h₀ L m s Q E p loose mean mg mb B F X N T hk hd hu hret
  refine wpAny_call ?_
  k_with_none
  k_with "WhileStep2 brk" => dsimp only [WhileStep2]
  k_with "binaryOp Add str str" => ((refine PyProof.Rows.add_str ?_ (hsz := by ktn_open)); intro _ _)
  k_with "subscriptTail Name Slice str ref" => ((with_reducible show wpAny _ _ (subscriptTail _ (Expr.Slice none (some _) none _) _ _) _ _ _); (refine slice_strN_ns (hsz := by ktn_open) (s := ⟨_, _, _, _, _⟩) (by k_asm) (by k_asm) ?_); intro _ _ _ _ _)
  k_with "subscriptTail Name Slice str ref" => ((with_reducible show wpAny _ _ (subscriptTail _ (Expr.Slice (some _) none none _) _ _) _ _ _); (refine slice_strN_sn (hsz := by ktn_open) (s := ⟨_, _, _, _, _⟩) (by k_asm) (by k_asm) ?_); intro _ _ _ _ _)
  k_with "call builtin:len" => ((with_reducible show wpAny _ _ (call (Value.builtin "len") [Value.str (S _) _]) _ _ _); refine lenS (by ktn_open) ?_)
  k_with "eval ListComp" => (k_here; (with_reducible show wpAny _ _ (eval (Expr.ListComp _ [⟨_, _, [], _⟩] _ _) _) _ _ _); k_dflt (refine LCg.ListComp_U (F₀ := by k_asm) (by with_unfolding_all rfl) (by decide) (by rfl) (by decide) (by rfl) ?_))
  k_with "eval ListComp" => (k_here; (with_reducible show wpAny _ _ (eval (Expr.ListComp _ [⟨_, _, [_], _⟩] _ _) _) _ _ _); k_dflt (refine LCt.ListComp_T (F₀ := by k_asm) (by with_unfolding_all rfl) (by decide) (by rfl) (by decide) (by rfl) ?_))
  k_with "exec Assign cons ListComp" => (k_here; k_dflt (refine LCg.Assign_ListComp_U (F₀ := by k_asm) (by rfl) (by with_unfolding_all rfl) (by with_unfolding_all rfl) (by decide) (by rfl) (by decide) (by rfl) (by rfl) (by rfl) ?_))
  k_with "getMethod ref" => k_dflt (first | refine meth_L PySem.F.slot_list_count PySem.F.type_list_count (by k_asm) (by k_mem) ?_ | refine meth_L PySem.F.slot_list_append PySem.F.type_list_append (by k_asm) (by k_mem) ?_ | refine meth_L PySem.F.slot_list_pop PySem.F.type_list_pop (by k_asm) (by k_mem) ?_ | refine meth_L PySem.F.slot_list_remove PySem.F.type_list_remove (by k_asm) (by k_mem) ?_ | refine meth_L PySem.F.slot_list_extend PySem.F.type_list_extend (by k_asm) (by k_mem) ?_)
  k_with "stop" => with_reducible first | show wpAny _ _ (PySem.call (Value.ref _) _ _) _ _ _ | show wpAny _ _ (exec (Stmt.While _ _ _ _) _) _ _ _ | show wpAny _ _ (exec (Stmt.For _ _ _ _ _) _) _ _ _ | show wpAny _ _ (exec (Stmt.Try _ _ _ _ _) _) _ _ _ | show wpAny _ _ (pyIter _) _ _ _ | show wpAny _ _ (binaryOp Operator.Mult (Value.ref _) (Value.int _ _)) _ _ _ | show LCg.CompSrc _ _ _ _ _ _ _ _ _ _ _ _ _ _ | show wpAny _ _ (binaryOp Operator.Add (Value.ref _) (Value.ref _)) _ _ _ | show wpAny _ _ (PySem.call (Value.builtin "sorted") _ _) _ _ _ | show wpAny _ _ (PySem.call (Value.builtin "list.count") _ _) _ _ _ | show wpAny _ _ (PySem.call (Value.builtin "list.extend") _ _) _ _ _ | show wpAny _ _ (PySem.call (Value.builtin "list.append") _ _) _ _ _ | show wpAny _ _ (PySem.call (Value.builtin "len") [Value.ref _] _) _ _ _ | show wpAny _ _ (subscriptTail _ _ (Value.ref _) _) _ _ _ | show LCt.CompSrcT _ _ _ _ _ _ _ _ _ _ _ _ _ _ _ | show Exists _ | show wpAny _ _ (compareOp CmpOp.NotEq (Value.ref _) (Value.ref _)) _ _ _ | show wpAny _ _ (compareOp CmpOp.Eq (Value.ref _) (Value.ref _)) _ _ _
  k_dflt (refine' code_defC ?k1 ?k2 ?k3 ?k4 ?k5 ?kA ?kF ?kK ?k6 ?k7 ?k8 ?k9 ?kB ?kD ?_ ?c2 ?c3 ?c4; (case kA => exact rfl); (case kF => exact rfl); (case kK => assumption); (case k1 => k_asm); (case k2 => k_asm); (case k3 => k_asm); (case k4 => k_asm); (case k5 => k_asm); (case k6 => k_is); (case k7 => k_is); (case k8 => ktr_room); (case k9 => exact BindsTo.of_eq rfl); (case kB => exact rfl); (case kD => decide +kernel); (case c2 => exact rfl); (case c3 => exact rfl); (case c4 => exact rfl); k_whole; intro g' L' h' tk' cells' FG' F' N' Y' B' X' T' l1; k_cells Y'; (try simp only [List.cons_append, List.nil_append] at N'); (try dsimp only); (try k_fold))
  refine wpAny_mono (E := fun _ _ => False) ?_ (fun _ _ h => h) (fun _ _ h => h.elim)
  tb_rel
  refine SC.replaceW (Nat.succ_ne_zero _) (Nat.succ_ne_zero _) (Nat.ne_of_lt (Nat.lt_succ_self _)) (by decide +kernel) (by rw [S_len]; lia) (by decide +kernel) ?_
  intro t1 k1
  rw [dbl_replace]
  have hd1 := dbl_len h
  dsimp only
  tb_rel
  k_dflt (refine Ctr.useL (t_orders w (l.length + k) l k _ _ _ _ _ rfl hl hk4 rfl rfl) (by k_asm) (by k_asm) (by k_asm) (by k_asm) (by k_asm) rfl (by ktr_room) (by ktr_units) ?_)
  intro a1 vs1 n1 h1 tk1 F1 N1 off1 hA1
  dsimp only
  refine LCg.CompSrc.ledger rfl (by k_asm) (by k_asm) (List.Mem.head _) (by rw [List.size_toArray, hA1.len, sizeLine_eq]; have := orders_fit hl hk4; lia) ?_
  intro g1
  dsimp only
  refine comp_strs (fun o => h ++ parseT o) hA1 (.inr ⟨_, List.Mem.head _, rfl, _, rfl⟩) ?_ ?_
  · intro y t2 I1 oI1 C1 oC1 D1 m2 ys1 h2 tk2 E2 hy hC hm2 F2 N2 off2 ne2
    have hyl := orders_len _ _ y hy
    dsimp only
    tb_rel
    have hdy : (dbl h ++ y).length ≤ 1000 := by rw [List.length_append]; lia
    k_dflt (refine Ctr.useS (t257 w (dbl h ++ y) _ _ _ (by rw [openS, S_append, S_append]; rfl) hdy) (by k_asm) (by k_asm) (by k_asm) (by k_asm) (by k_asm) rfl (by ktr_room) (by ktr_units) ?_)
    intro t3 h3 tk3 F3 N3
    exact ⟨_, _, _, rfl, by rw [parseT_dbl], by k_asm, by k_asm⟩
  intro ys1 hys1
  tb_rel
  rename (_ ∧ _ ∧ LCg.Off1 _ news) => ho
  exact hret _ [_] _ _ (by k_asm) (keep1 (mid := [_, _]) (by k_asm)) (off_of_1 ho.2.2) ⟨_, _, _, rfl, rfl, hys1⟩
theorem off_B5 : True := by
  w_top off
  trivial
def bagQ (l : List Nat) (k i : Nat) (bag : List (List Nat)) (q : Nat) : List (List Nat) := bag ++ rep (orders (l.take i) q) (choose (l.length - i - 1 + k - 2 * q - 1) (l.length - i - 1))
def bagI (l : List Nat) (k : Nat) (bag : List (List Nat)) (i : Nat) : List (List Nat) := (List.range ((k + 1) / 2)).foldl (bagQ l k i) bag
def bagW (l : List Nat) (k : Nat) : List (List Nat) := (List.range l.length).foldl (bagI l k) (orders l (k / 2))
def bag (h l : List Nat) (k : Nat) : List (List Nat) := (bagW l k).map (h ++ ·)
theorem fdiv2 (k : Nat) : Int.fdiv (k : Int) 2 = ((k / 2 : Nat) : Int) := by
  rw [Int.fdiv_eq_ediv_of_nonneg _ (by lia)]; lia
theorem fdiv2' (k : Nat) : Int.fdiv ((k : Int) + 1) 2 = (((k + 1) / 2 : Nat) : Int) := by
  rw [Int.fdiv_eq_ediv_of_nonneg _ (by lia)]; lia
theorem choose_le : ∀ n r : Nat, choose n r ≤ 2 ^ n
  | 0, _ => by simp [choose]
  | n + 1, r => by
    have h1 := choose_le n (r - 1)
    have h2 := choose_le n r
    unfold choose
    split
    · exact Nat.one_le_two_pow
    · rw [Nat.pow_succ]; lia
theorem choose_le32 {n : Nat} (r : Nat) (h : n ≤ 5) : choose n r ≤ 32 := Nat.le_trans (choose_le n r) (Nat.pow_le_pow_right (by lia) h)
inductive JBag (L' : Addr) (o' : Obj) (l : List Nat) (k : Nat) (news : List (Addr × Obj)) (B : List (List Nat)) (top : Nat) (m : Str → Option Value) : List (Addr × Obj) → Prop
  | mk (t : Tok) (hlet : m (Str.ofString "letters") = some (.str (S l) t)) (u : Tok) (hkk : m (Str.ofString "k") = some (.int (k : Int) u)) (v : Tok) (hmm : m (Str.ofString "m") = some (.int (l.length : Int) v))
    (a : Addr) (vs : List Value) (n : Nat) (hbag : m (Str.ofString "bag") = some (.ref a)) (hA : Are vs B) (hlen : B.length ≤ top) (hw : ∀ y ∈ B, y.length ≤ 7) : JBag L' o' l k news B top m ((a, listOf (List.toArray vs) n) :: (L' + 1, o') :: news)
inductive JBagI (i : Nat) (I1 : Addr) (oI1 : Obj) (L' : Addr) (o' : Obj) (l : List Nat) (k : Nat) (news : List (Addr × Obj)) (B : List (List Nat)) (top : Nat) (m : Str → Option Value) : List (Addr × Obj) → Prop
  | mk (w : Tok) (hii : m (Str.ofString "i") = some (.int (0 + (i : Int)) w)) (t : Tok) (hlet : m (Str.ofString "letters") = some (.str (S l) t)) (u : Tok) (hkk : m (Str.ofString "k") = some (.int (k : Int) u)) (v : Tok) (hmm : m (Str.ofString "m") = some (.int (l.length : Int) v))
    (a : Addr) (vs : List Value) (n : Nat) (off : ∀ p ∈ (a, listOf (List.toArray vs) n) :: (L' + 1, o') :: news, p.1 ≠ I1) (hbag : m (Str.ofString "bag") = some (.ref a)) (hA : Are vs B) (hlen : B.length ≤ top) (hw : ∀ y ∈ B, y.length ≤ 7) : JBagI i I1 oI1 L' o' l k news B top m ((I1, oI1) :: (a, listOf (List.toArray vs) n) :: (L' + 1, o') :: news)
theorem t_bag (w : World) (h l : List Nat) (k : Nat) (i : Int) (t u v : Tok) (news) (hh : h.length ≤ 2) (hl : l.length ≤ 3) (hk4 : k ≤ 4) (hi : i = (k : Int)) : Ctr w 112 9 [.str (S h) t, .str (S l) u, .int i v] news (OutL (bag h l k)) := by
  subst hi
  unfold Ctr
  intro dp un gd cn cs a ccd cl outer A₀ base h₀ L m s Q E p loose mean mg mb B F X N T hk hd hu hret
  refine wpAny_call ?_
  k_with_none
  k_with "WhileStep2 brk" => dsimp only [WhileStep2]
  k_with "binaryOp Add str str" => ((refine PyProof.Rows.add_str ?_ (hsz := by ktn_open)); intro _ _)
  k_with "subscriptTail Name Slice str ref" => ((with_reducible show wpAny _ _ (subscriptTail _ (Expr.Slice none (some _) none _) _ _) _ _ _); (refine slice_strN_ns (hsz := by ktn_open) (s := ⟨_, _, _, _, _⟩) (by k_asm) (by k_asm) ?_); intro _ _ _ _ _)
  k_with "subscriptTail Name Slice str ref" => ((with_reducible show wpAny _ _ (subscriptTail _ (Expr.Slice (some _) none none _) _ _) _ _ _); (refine slice_strN_sn (hsz := by ktn_open) (s := ⟨_, _, _, _, _⟩) (by k_asm) (by k_asm) ?_); intro _ _ _ _ _)
  k_with "call builtin:len" => ((with_reducible show wpAny _ _ (call (Value.builtin "len") [Value.str (S _) _]) _ _ _); refine lenS (by ktn_open) ?_)
  k_with "eval ListComp" => (k_here; (with_reducible show wpAny _ _ (eval (Expr.ListComp _ [⟨_, _, [], _⟩] _ _) _) _ _ _); k_dflt (refine LCg.ListComp_U (F₀ := by k_asm) (by with_unfolding_all rfl) (by decide) (by rfl) (by decide) (by rfl) ?_))
  k_with "eval ListComp" => (k_here; (with_reducible show wpAny _ _ (eval (Expr.ListComp _ [⟨_, _, [_], _⟩] _ _) _) _ _ _); k_dflt (refine LCt.ListComp_T (F₀ := by k_asm) (by with_unfolding_all rfl) (by decide) (by rfl) (by decide) (by rfl) ?_))
  k_with "exec Assign cons ListComp" => (k_here; k_dflt (refine LCg.Assign_ListComp_U (F₀ := by k_asm) (by rfl) (by with_unfolding_all rfl) (by with_unfolding_all rfl) (by decide) (by rfl) (by decide) (by rfl) (by rfl) (by rfl) ?_))
  k_with "getMethod ref" => k_dflt (first | refine meth_L PySem.F.slot_list_count PySem.F.type_list_count (by k_asm) (by k_mem) ?_ | refine meth_L PySem.F.slot_list_append PySem.F.type_list_append (by k_asm) (by k_mem) ?_ | refine meth_L PySem.F.slot_list_pop PySem.F.type_list_pop (by k_asm) (by k_mem) ?_ | refine meth_L PySem.F.slot_list_remove PySem.F.type_list_remove (by k_asm) (by k_mem) ?_ | refine meth_L PySem.F.slot_list_extend PySem.F.type_list_extend (by k_asm) (by k_mem) ?_)
  k_with "stop" => with_reducible first | show wpAny _ _ (PySem.call (Value.ref _) _ _) _ _ _ | show wpAny _ _ (exec (Stmt.While _ _ _ _) _) _ _ _ | show wpAny _ _ (exec (Stmt.For _ _ _ _ _) _) _ _ _ | show wpAny _ _ (exec (Stmt.Try _ _ _ _ _) _) _ _ _ | show wpAny _ _ (pyIter _) _ _ _ | show wpAny _ _ (binaryOp Operator.Mult (Value.ref _) (Value.int _ _)) _ _ _ | show LCg.CompSrc _ _ _ _ _ _ _ _ _ _ _ _ _ _ | show wpAny _ _ (binaryOp Operator.Add (Value.ref _) (Value.ref _)) _ _ _ | show wpAny _ _ (PySem.call (Value.builtin "sorted") _ _) _ _ _ | show wpAny _ _ (PySem.call (Value.builtin "list.count") _ _) _ _ _ | show wpAny _ _ (PySem.call (Value.builtin "list.extend") _ _) _ _ _ | show wpAny _ _ (PySem.call (Value.builtin "list.append") _ _) _ _ _ | show wpAny _ _ (PySem.call (Value.builtin "len") [Value.ref _] _) _ _ _ | show wpAny _ _ (subscriptTail _ _ (Value.ref _) _) _ _ _ | show LCt.CompSrcT _ _ _ _ _ _ _ _ _ _ _ _ _ _ _ | show Exists _ | show wpAny _ _ (compareOp CmpOp.NotEq (Value.ref _) (Value.ref _)) _ _ _ | show wpAny _ _ (compareOp CmpOp.Eq (Value.ref _) (Value.ref _)) _ _ _
  k_dflt (refine' code_defC ?k1 ?k2 ?k3 ?k4 ?k5 ?kA ?kF ?kK ?k6 ?k7 ?k8 ?k9 ?kB ?kD ?_ ?c2 ?c3 ?c4; (case kA => exact rfl); (case kF => exact rfl); (case kK => assumption); (case k1 => k_asm); (case k2 => k_asm); (case k3 => k_asm); (case k4 => k_asm); (case k5 => k_asm); (case k6 => k_is); (case k7 => k_is); (case k8 => ktr_room); (case k9 => exact BindsTo.of_eq rfl); (case kB => exact rfl); (case kD => decide +kernel); (case c2 => exact rfl); (case c3 => exact rfl); (case c4 => exact rfl); k_whole; intro g0 L0 hp0 tk0 cells' FG0 F0 N0 Y' B0 X0 T0 lt0; k_cells Y'; (try simp only [List.cons_append, List.nil_append] at N0); (try dsimp only); (try k_fold))
  rename_i o0 d0
  refine wpAny_mono (E := fun _ _ => False) ?_ (fun _ _ h => h) (fun _ _ h => h.elim)
  tb_rel
  k_dflt (refine Ctr.useL (t_orders w (l.length + k / 2) l (k / 2) _ _ _ _ _ rfl hl (by lia) rfl (fdiv2 k)) (by k_asm) (by k_asm) (by k_asm) (by k_asm) (by k_asm) rfl (by ktr_room) (by ktr_units) ?_)
  intro a1 vs1 n1 h1 tk1 F1 N1 off1 hA1
  dsimp only
  tb_rel
  refine For_invVF (by k_asm) rfl rfl ?_
  tb_rel
  dsimp only
  k_with "eval Name" => (k_here; k_dflt (refine nameX_L (by k_asm) (by assumption) ?_ (by rfl) (by rfl)); k_whole)
  refine range_loop (n := l.length) (fun i => JBag L0 o0 l k news ((List.range i).foldl (bagI l k) (orders l (k / 2))) (128 + 40000 * i)) rfl (by assumption) (range_small (by lia)) (range_size _) (by k_asm) (by k_asm) ⟨_, by rfl, _, by rfl, _, by rfl, _, _, _, by rfl, hA1, orders_fit hl (by lia), fun y hy => by have := orders_len _ _ y hy; lia⟩ ?_ ?_
  · intro i t1 m1 news1 I1 oI1 h1 tk1 hi J1 off1 F1 N1
    obtain ⟨t2, hlet, t3, hkk, t4, hmm, a2, vs2, n2, hbag, hA2, hlen2, hw2⟩ := J1
    dsimp only
    tb_rel
    refine For_invVF (by k_asm) rfl rfl ?_
    tb_rel
    dsimp only
    refine range_loop (n := (k + 1) / 2) (fun q => JBagI i I1 oI1 L0 o0 l k news ((List.range q).foldl (bagQ l k i) ((List.range i).foldl (bagI l k) (orders l (k / 2)))) (128 + 40000 * i + 20000 * q)) rfl (by assumption) (by rw [fdiv2']; exact range_small (by lia)) (by rw [fdiv2']; exact range_size _) (by k_asm) (by k_asm) ?_ ?_ ?_
    · exact ⟨_, by rfl, _, by exact hlet, _, by exact hkk, _, by exact hmm, _, _, _, off1, by exact hbag, hA2, hlen2, hw2⟩
    · intro q t5 m2 news2 I2 oI2 h2 tk2 hq J2 off2 F2 N2
      obtain ⟨t6, hii, t7, hlet2, t8, hkk2, t9, hmm2, a3, vs3, n3, off3, hbag2, hA3, hlen3, hw3⟩ := J2
      dsimp only
      tb_rel
      obtain ⟨n, hn⟩ : ∃ n, n = l.length - i - 1 + k - 2 * q - 1 := ⟨_, rfl⟩
      obtain ⟨r, hr⟩ : ∃ r, r = l.length - i - 1 := ⟨_, rfl⟩
      k_dflt (refine Ctr.useI (t_choose w n r _ _ _ _ _ (by lia) (by lia) (by lia)) (by k_asm) (by k_asm) (by k_asm) (by k_asm) (by k_asm) rfl (by ktr_room) (by ktr_units) ?_)
      intro t10 h4 tk4 F4 N4
      dsimp only
      tb_rel
      have hti : (l.take i).length ≤ 3 := by rw [List.length_take]; lia
      k_dflt (refine Ctr.useL (t_orders w ((l.take i).length + q) (l.take i) q _ _ _ _ _ rfl hti (by lia) ((congrArg (fun z => Txt.slice (S l) none (some z)) (by lia)).trans (slice_to (l := l) (k := i) (by lia))) (by lia)) (by k_asm) (by k_asm) (by k_asm) (by k_asm) (by k_asm) rfl (by ktr_room) (by ktr_units) ?_)
      intro a5 vs5 n5 h5 tk5 F5 N5 off5 hA5
      dsimp only
      tb_rel
      have hc32 := choose_le32 r (n := n) (by lia)
      have ho128 := orders_fit hti (q := q) (by lia)
      have hprod : (orders (l.take i) q).length * choose n r ≤ 128 * 32 := Nat.mul_le_mul ho128 hc32
      refine mul_L (by k_asm) (by k_asm) (by k_mem) hA5 rfl (by lia) (by lia) ?_
      intro D6 zs6 h6 F6 N6 lt6 hA6
      dsimp only
      have hrl : (rep (orders (l.take i) q) (choose n r)).length ≤ 128 * 32 := by rw [rep_len, Nat.mul_comm]; exact hprod
      refine add_L (by k_asm) (by k_asm) (by k_mem) (by k_mem) hA3 hA6 (by rw [sizeLine_eq]; lia) ?_
      intro D7 zs7 h7 F7 N7 lt7 hA7
      dsimp only
      tb_rel
      rename News g0 L0 _ ((D7, _) :: _) => N8
      rename Fr g0 L0 _ _ => F8
      have l1 : I1 < D7 := lt7 (I1, oI1) (.tail _ (.tail _ (.tail _ (.head _))))
      have l2 : I2 < D7 := lt7 (I2, oI2) (.tail _ (.tail _ (.head _)))
      refine ⟨_, _, _, (I1, oI1) :: (D7, listOf (List.toArray zs7) 0) :: (L0 + 1, o0) :: news, rfl, F8, ?_, ?_, _, by exact hii, _, by exact hlet2, _, by exact hkk2, _, by exact hmm2, D7, zs7, 0, ?_, by rfl, ?_, ?_, ?_⟩
      · exact ncons (N8 _ (.tail _ (.tail _ (.tail _ (.head _))))) (ncons (N8 _ (.tail _ (.tail _ (.tail _ (.tail _ (.head _)))))) (ncons (N8 _ (.head _)) (ntl (ntl (ntl (ntl (ntl (ntl N8))))))))
      · exact bcons (off2 _ (.head _)) (bcons (Nat.ne_of_gt l2) fun p hp => off2 p (.tail _ (.tail _ hp)))
      · exact bcons (Nat.ne_of_gt l1) fun p hp => off3 p (.tail _ hp)
      · rw [List.range_succ, List.foldl_append]
        show Are zs7 (bagQ l k i _ q)
        rw [bagQ, ← hr, show r + k - 2 * q - 1 = n by lia]
        exact hA7
      · rw [List.range_succ, List.foldl_append]
        show (bagQ l k i _ q).length ≤ _
        rw [bagQ, ← hr, show r + k - 2 * q - 1 = n by lia, List.length_append]
        lia
      · rw [List.range_succ, List.foldl_append]
        show ∀ y ∈ bagQ l k i _ q, _
        rw [bagQ, ← hr, show r + k - 2 * q - 1 = n by lia]
        intro y hy
        rcases List.mem_append.mp hy with hy | hy
        · exact hw3 y hy
        · have := orders_len _ _ y (rep_mem hy); lia
    · intro m2 news2 h2 tk2 J2 F2 N2
      obtain ⟨t6, hii, t7, hlet2, t8, hkk2, t9, hmm2, a3, vs3, n3, off3, hbag2, hA3, hlen3, hw3⟩ := J2
      dsimp only
      tb_rel
      refine ⟨_, _, _, _, rfl, by k_asm, by k_asm, off3, _, by exact hlet2, _, by exact hkk2, _, by exact hmm2, _, _, _, by exact hbag2, ?_, ?_, ?_⟩
      · rw [List.range_succ, List.foldl_append]; exact hA3
      · rw [List.range_succ, List.foldl_append]; exact Nat.le_trans hlen3 (by lia)
      · rw [List.range_succ, List.foldl_append]; exact hw3
  · intro m1 news1 h1 tk1 J1 F1 N1
    obtain ⟨t2, hlet, t3, hkk, t4, hmm, a2, vs2, n2, hbag, hA2, hlen2, hw2⟩ := J1
    dsimp only
    tb_rel
    refine LCg.CompSrc.ledger rfl (by k_asm) (by k_asm) (List.Mem.head _) (by rw [List.size_toArray, hA2.len, sizeLine_eq]; lia) ?_
    intro g1
    dsimp only
    refine comp_strs (fun y => h ++ y) hA2 (.inr ⟨_, List.Mem.head _, rfl, _, rfl⟩) ?_ ?_
    · intro y t2 I1 oI1 C1 oC1 D1 m2 ys1 h2 tk2 E2 hy hC hm2 F2 N2 off2 ne2
      have hyl := hw2 y hy
      dsimp only
      tb_rel
      exact ⟨_, _, _, rfl, by rw [S_append], by k_asm, by k_asm⟩
    intro ys1 hys1
    tb_rel
    rename (_ ∧ _ ∧ LCg.Off1 _ news) => ho
    exact hret _ [_] _ _ (by k_asm) (keep1 (mid := [_, _]) (by k_asm)) (off_of_1 ho.2.2) ⟨_, _, _, rfl, rfl, hys1⟩
theorem off_B6 : True := by
  w_top off
  trivial
/-- a word stands ahead of another -/
def ltW : List Nat → List Nat → Bool
  | _, [] => false
  | [], _ :: _ => true
  | a :: as, b :: bs => Nat.blt a b || (Nat.beq a b && ltW as bs)
theorem ltW_iff : ∀ a b : List Nat, ltW a b = true ↔ a < b
  | a, [] => by cases a <;> simp [ltW]
  | [], b :: bs => by simp [ltW]
  | a :: as, b :: bs => by
    have ih := ltW_iff as bs
    have h1 : Nat.blt a b = true ↔ a < b := ⟨fun h => Nat.le_of_ble_eq_true h, fun h => Nat.ble_eq_true_of_le h⟩
    have h2 : Nat.beq a b = true ↔ a = b := ⟨Nat.eq_of_beq_eq_true, fun h => h ▸ Nat.beq_refl a⟩
    simp only [ltW, Bool.or_eq_true, Bool.and_eq_true, h1, h2, ih, List.cons_lt_cons_iff]
theorem ltW_eq (a b : List Nat) : ltW a b = decide (a < b) := by
  rw [Bool.eq_iff_iff, ltW_iff]; simp
def insB {α : Type} (lt : α → α → Bool) (x : α) : List α → List α
  | [] => [x]
  | y :: r => if lt y x = true then y :: insB lt x r else x :: y :: r
def isort {α : Type} (lt : α → α → Bool) : List α → List α
  | [] => []
  | x :: r => insB lt x (isort lt r)
theorem insB_perm {α : Type} (lt : α → α → Bool) (x : α) : ∀ l : List α, (insB lt x l).Perm (x :: l)
  | [] => .refl _
  | y :: r => by
    unfold insB
    split
    · exact ((insB_perm lt x r).cons y).trans (.swap x y r)
    · exact .refl _
theorem isort_perm {α : Type} (lt : α → α → Bool) : ∀ l : List α, (isort lt l).Perm l
  | [] => .refl _
  | x :: r => (insB_perm lt x _).trans ((isort_perm lt r).cons x)
theorem insB_sorted (O : KeyOrd) (x : O.α) : ∀ l : List O.α, l.Pairwise O.kle → (insB O.blt x l).Pairwise O.kle
  | [], _ => List.pairwise_singleton _ _
  | y :: r, h => by
    have h' := List.pairwise_cons.mp h
    unfold insB
    split
    · rename_i hlt
      refine List.pairwise_cons.mpr ⟨fun z hz => ?_, insB_sorted O x r h'.2⟩
      rcases List.mem_cons.mp ((insB_perm O.blt x r).mem_iff.mp hz) with rfl | hz
      · exact KeyOrd.kle_of_klt hlt
      · exact h'.1 z hz
    · rename_i hlt
      have hxy : O.kle x y := by unfold KeyOrd.kle; simpa using hlt
      refine List.pairwise_cons.mpr ⟨fun z hz => ?_, h⟩
      rcases List.mem_cons.mp hz with rfl | hz
      · exact hxy
      · exact KeyOrd.kle_trans hxy (h'.1 z hz)
theorem isort_sorted (O : KeyOrd) : ∀ l : List O.α, (isort O.blt l).Pairwise O.kle
  | [] => .nil
  | x :: r => insB_sorted O x _ (isort_sorted O r)
theorem sorted_unique (O : KeyOrd) : ∀ {a b : List O.α}, a.Perm b → a.Pairwise O.kle → b.Pairwise O.kle → a = b
  | [], b, hp, _, _ => (List.Perm.eq_nil hp.symm).symm
  | x :: a, [], hp, _, _ => by simpa using hp.eq_nil
  | x :: a, y :: b, hp, ha, hb => by
    have ha' := List.pairwise_cons.mp ha
    have hb' := List.pairwise_cons.mp hb
    have e : x = y := by
      have h1 : O.kle x y := by
        rcases List.mem_cons.mp (hp.mem_iff.mpr (.head _)) with h | h
        · rw [h]; exact KeyOrd.kle_refl _
        · exact ha'.1 y h
      have h2 : O.kle y x := by
        rcases List.mem_cons.mp (hp.mem_iff.mp (.head _)) with h | h
        · rw [h]; exact KeyOrd.kle_refl _
        · exact hb'.1 x h
      exact KeyOrd.kle_antisymm h1 h2
    subst e
    rw [sorted_unique O (hp.cons_inv) ha'.2 hb'.2]
theorem isort_unique (O : KeyOrd) {a b : List O.α} (hp : a.Perm b) (ha : a.Pairwise O.kle) : a = isort O.blt b :=
  sorted_unique O (hp.trans (isort_perm O.blt b).symm) ha (isort_sorted O b)
/-- the order of words -/
def ordW : KeyOrd := { strKind.toKeyOrd with
  α := List Nat
  blt := ltW
  irrefl := fun a => by rw [ltW_eq]; exact strKind.irrefl a
  trans := fun a b c => by simp only [ltW_eq]; exact strKind.trans a b c
  negTrans := fun a b c => by simp only [ltW_eq]; exact strKind.negTrans a b c
  total := fun a b => by simp only [ltW_eq]; exact strKind.total a b }
def sortW (xs : List (List Nat)) : List (List Nat) := isort ltW xs
theorem rising_pairwise : ∀ (l : List (List Nat)) (p : List Nat), risingS (S p) (l.map S) = true → (p :: l).Pairwise ordW.kle
  | [], p, _ => List.pairwise_singleton _ _
  | x :: r, p, h => by
    have h' : (!PySem.Spec.ltCps x p && risingS (S x) (r.map S)) = true := h
    simp only [Bool.and_eq_true, Bool.not_eq_true'] at h'
    have ih := rising_pairwise r x h'.2
    have hpx : ordW.kle p x := by
      show ltW x p = false
      rw [ltW_eq, ← ltCps_eq]; exact h'.1
    refine List.pairwise_cons.mpr ⟨fun z hz => ?_, ih⟩
    rcases List.mem_cons.mp hz with rfl | hz
    · exact hpx
    · exact KeyOrd.kle_trans hpx ((List.pairwise_cons.mp ih).1 z hz)
theorem sortedS_is {xs ys : List (List Nat)} (hp : (ys.map S).Perm (xs.map S)) (hs : sortedS (ys.map S) = true) : ys = sortW xs := by
  have hp' : ys.Perm xs := by
    have := hp.map (fun x : Str => x.cps.toList)
    simpa [List.map_map, Function.comp_def] using this
  refine isort_unique ordW hp' ?_
  cases ys with
  | nil => exact .nil
  | cons y r => exact rising_pairwise r y hs
theorem map_S_of : ∀ {vs : List Value} {ss : List Str}, StrsAre vs ss → Are vs (ss.map fun x => x.cps.toList) := by
  intro vs ss h
  unfold Are
  rw [List.map_map]
  have : (S ∘ fun x : Str => x.cps.toList) = id := by funext x; rfl
  rw [this, List.map_id]; exact h
section
variable {prog : Program} {w : World} {A : Around} {E : Value → Shared → Prop} {s : Shared} {h₀ : Heap} {L a : Addr} {m : Str → Option Value} {news : List (Addr × Obj)} {vs : List Value} {xs : List (List Nat)} {n : Nat} {Q : Value → Shared → Prop}
/-- sorted of a list of texts -/
theorem sort_L (F : Fr h₀ L s.heap m) (N : News h₀ L s.heap news) (ha : (a, listOf (List.toArray vs) n) ∈ news) (hA : Are vs xs) (hz : xs.length < 64)
    (h : ∀ D zs e h', Fr h₀ L h' m → News h₀ L h' ((D, listOf (List.toArray zs) e) :: news) → (∀ p ∈ news, p.1 < D) → Are zs (sortW xs) → Q (.ref D) { s with heap := h' }) :
    wpAny (model prog w) A (call (.builtin "sorted") [.ref a]) Q E s := by
  refine sorted_N_str F N ⟨_, N.get ha, rfl, _, rfl⟩ hA (by rw [hA.len]; exact hz) fun h' vs' ss' e F' N' hS hp hs => ?_
  have e1 : ss' = (ss'.map fun x => x.cps.toList).map S := by
    rw [List.map_map]
    have : (S ∘ fun x : Str => x.cps.toList) = id := by funext x; rfl
    rw [this, List.map_id]
  refine h _ vs' e h' F' N' (fun p hp => Nat.lt_succ_of_lt (Heap.lt_size (N p hp).1)) ?_
  rw [← sortedS_is (ys := ss'.map fun x => x.cps.toList) (by rw [← e1]; exact hp) (by rw [← e1]; exact hs)]
  exact map_S_of hS
end
theorem off_B7 : True := by
  w_top off
  trivial
theorem are_take {vs : List Value} {xs : List (List Nat)} (h : Are vs xs) (k : Nat) : Are (vs.take k) (xs.take k) := by
  unfold Are; rw [List.map_take]; exact StrsAre.take' h k
theorem are_drop {vs : List Value} {xs : List (List Nat)} (h : Are vs xs) (k : Nat) : Are (vs.drop k) (xs.drop k) := by
  unfold Are; rw [List.map_drop]; exact StrsAre.drop' h k
theorem are_at {vs : List Value} {xs : List (List Nat)} (h : Are vs xs) {i : Nat} (hi : i < xs.length) : ∃ t, vs[i]? = some (.str (S xs[i]) t) :=
  StrsAre.at h (j := i) (y := S xs[i]) (by simp [hi])
theorem S_beq (a b : List Nat) : (S a == S b) = (a == b) := by
  rw [Bool.eq_iff_iff, beq_iff_eq, beq_iff_eq, S_inj]
theorem countP_isStrOf (y : List Nat) : ∀ {vs : List Value} {xs : List (List Nat)}, Are vs xs → vs.countP (isStrOf (S y)) = xs.count y := by
  intro vs xs h
  induction xs generalizing vs with
  | nil => cases h; rfl
  | cons x xs ih =>
    obtain ⟨t, vs', rfl, h'⟩ := StrsAre.cons_inv h
    rw [List.countP_cons, List.count_cons, ih h']
    show _ + (if (S x == S y) = true then 1 else 0) = _
    rw [S_beq]
section
variable {prog : Program} {w : World} {A : Around} {E : Value → Shared → Prop} {s : Shared} {h₀ : Heap} {L a : Addr} {m : Str → Option Value} {news : List (Addr × Obj)} {vs : List Value} {xs : List (List Nat)} {n : Nat} {value slice : PySem.Expr} {Q : Value → Shared → Prop}
theorem slice_upto_L {y : Int} {u : Tok} (k : Nat) (F : Fr h₀ L s.heap m) (N : News h₀ L s.heap news) (ha : (a, listOf (List.toArray vs) n) ∈ news) (hA : Are vs xs) (hy : y = (k : Int)) (hk : k ≤ xs.length) (hz : xs.length ≤ 100000)
    (h : ∀ D zs h', Fr h₀ L h' m → News h₀ L h' ((D, listOf (List.toArray zs) 0) :: news) → (∀ p ∈ news, p.1 < D) → Are zs (xs.take k) → Q (.ref D) { s with heap := h' })
    (hs : subscripted slice false (.ref a) (.ref s.heap.objs.size) = operate [.ref s.heap.objs.size, .ref a] (getItem (.ref a) (.ref s.heap.objs.size)) := by with_unfolding_all rfl) (ht : ∀ r, letTemporaryGo value (.ref a) r = pure () := by intro _; with_unfolding_all rfl) :
    wpAny (model prog w) A (subscriptTail value slice (.ref a) (.ref s.heap.objs.size)) Q E { s with heap := s.heap.push { cls := .type "slice", data := .fields #[.none, .int y u, .none] } } := by
  subst hy
  refine kmk_slice_lit F N ⟨_, N.get ha, rfl, _, rfl⟩ IsPart.none (IsPart.int _ _) (zs := vs.take k) ?_ (fun D h' F' N' l => h D _ h' F' N' l (are_take hA k)) hs ht (by rw [List.size_toArray, hA.len, sizeLine_eq]; lia)
  rw [slicePick_upto _ _ (by rw [List.size_toArray, hA.len]; exact hk)]
theorem slice_from_L {y : Int} {u : Tok} (k : Nat) (F : Fr h₀ L s.heap m) (N : News h₀ L s.heap news) (ha : (a, listOf (List.toArray vs) n) ∈ news) (hA : Are vs xs) (hy : y = (k : Int)) (hk : k ≤ xs.length) (hz : xs.length ≤ 100000)
    (h : ∀ D zs h', Fr h₀ L h' m → News h₀ L h' ((D, listOf (List.toArray zs) 0) :: news) → (∀ p ∈ news, p.1 < D) → Are zs (xs.drop k) → Q (.ref D) { s with heap := h' })
    (hs : subscripted slice false (.ref a) (.ref s.heap.objs.size) = operate [.ref s.heap.objs.size, .ref a] (getItem (.ref a) (.ref s.heap.objs.size)) := by with_unfolding_all rfl) (ht : ∀ r, letTemporaryGo value (.ref a) r = pure () := by intro _; with_unfolding_all rfl) :
    wpAny (model prog w) A (subscriptTail value slice (.ref a) (.ref s.heap.objs.size)) Q E { s with heap := s.heap.push { cls := .type "slice", data := .fields #[.int y u, .none, .none] } } := by
  subst hy
  refine kmk_slice_lit F N ⟨_, N.get ha, rfl, _, rfl⟩ (IsPart.int _ _) IsPart.none (zs := vs.drop k) ?_ (fun D h' F' N' l => h D _ h' F' N' l (are_drop hA k)) hs ht (by rw [List.size_toArray, hA.len, sizeLine_eq]; lia)
  rw [slicePick_from _ _ (by rw [List.size_toArray, hA.len]; exact hk)]
theorem slice_all_L (F : Fr h₀ L s.heap m) (N : News h₀ L s.heap news) (ha : (a, listOf (List.toArray vs) n) ∈ news) (hA : Are vs xs) (hz : xs.length ≤ 100000)
    (h : ∀ D h', Fr h₀ L h' m → News h₀ L h' ((D, listOf (List.toArray vs) 0) :: news) → (∀ p ∈ news, p.1 < D) → Q (.ref D) { s with heap := h' })
    (hs : subscripted slice false (.ref a) (.ref s.heap.objs.size) = operate [.ref s.heap.objs.size, .ref a] (getItem (.ref a) (.ref s.heap.objs.size)) := by with_unfolding_all rfl) (ht : ∀ r, letTemporaryGo value (.ref a) r = pure () := by intro _; with_unfolding_all rfl) :
    wpAny (model prog w) A (subscriptTail value slice (.ref a) (.ref s.heap.objs.size)) Q E { s with heap := s.heap.push { cls := .type "slice", data := .fields #[.none, .none, .none] } } := by
  refine kmk_slice_lit F N ⟨_, N.get ha, rfl, _, rfl⟩ IsPart.none IsPart.none (zs := vs) ?_ h hs ht (by rw [List.size_toArray, hA.len, sizeLine_eq]; lia)
  rw [slicePick_all]
/-- an item of a list of texts -/
theorem item_L {i : Int} {u : Tok} (k : Nat) (N : News h₀ L s.heap news) (ha : (a, listOf (List.toArray vs) n) ∈ news) (hA : Are vs xs) (hi : i = (k : Int)) (hk : k < xs.length) (hz : xs.length ≤ 100000)
    (h : ∀ t, Q (.str (S (xs.getD k [])) t) s)
    (hs : subscripted slice false (.ref a) (.int i u) = operate [.ref a, .int i u] (getItem (.ref a) (.int i u)) := by with_unfolding_all rfl) :
    wpAny (model prog w) A (subscriptTail value slice (.ref a) (.int i u)) Q E s := by
  subst hi
  obtain ⟨t, ht⟩ := are_at hA hk
  rw [show xs[k] = xs.getD k [] by simp [hk]] at ht
  have hl : s.heap.IsList a vs.toArray := ⟨_, N.get ha, rfl, _, rfl⟩
  exact tail_any hl.typeIs slot_list_getitem.lookup (wpAny_getItem_list hl (by lia) (by lia) (by simpa using ht) (h t)) hs
theorem count_L {y : List Nat} {t : Tok} (N : News h₀ L s.heap news) (ha : (a, listOf (List.toArray vs) n) ∈ news) (hA : Are vs xs)
    (h : Q (.int (xs.count y : Nat) s.toks) { s with toks := s.toks + 1 }) : wpAny (model prog w) A (call (.builtin "list.count") [.ref a, .str (S y) t]) Q E s := by
  refine call_meets PySem.F.slot_list_count ⟨_, N.get ha, rfl⟩ PySem.F.entry_list_count (PySem.F.args_list_count_2 _ _) (MeetsSeq.list_count a vs.toArray n (.str (S y) t) (isStrOf (S y)) fun z hz => eq_isStrOf (S y) t hA z (by simpa using hz)) ⟨N.get ha, ?_⟩
  rw [show vs.toArray.toList = vs from rfl, countP_isStrOf y hA]
  exact h
theorem len_L (N : News h₀ L s.heap news) (ha : (a, listOf (List.toArray vs) n) ∈ news) (hA : Are vs xs) (hz : xs.length ≤ 100000)
    (h : Q (.int (xs.length : Int) (s.toks + 1)) { s with toks := s.toks + 1 + 1 }) : wpAny (model prog w) A (call (.builtin "len") [.ref a]) Q E s :=
  len_strsA ⟨_, N.get ha, rfl, _, rfl⟩ hA (by rw [List.length_map]; lia) (by rw [List.length_map]; exact h)
end
section
variable {prog : Program} {w : World} {A : Around} {h₀ : Heap} {L : Addr} {m : Str → Option Value} {env : Env} {ct elt : Expr} {x : Str} {scope : Scope} {cl : List (Str × Addr)} {s : Shared} {St : List (Addr × Obj) → Prop} {P : Nat → Value → Prop} {Fin : List Value → List (Addr × Obj) → Prop} {news : List (Addr × Obj)}
/-- a comprehension over a range, with a test, whose element is a text -/
theorem comp_test {n : Nat} (c : Nat → Bool) (f : Nat → List Nat) (hS : St news)
    (turn : ∀ i t I oI C oC D m₂ ys h tk (E' : Value → Shared → Prop), i < n → LCg.NsObj oC m₂ → m₂ x = some (.int (0 + (i : Int)) t) → Fr h₀ L h m → News h₀ L h ((I, oI) :: (C, oC) :: (D, LCg.lst ys) :: news) → LCg.Off3 I C D news → ((@Ne Nat I C) ∧ (@Ne Nat I D) ∧ (@Ne Nat C D)) →
      wpAny (model prog w) A (isTrue ct (compEnvC scope cl C env) (eval ct (compEnvC scope cl C env))) (fun b s' => b = c i ∧ (if b = true then
          wpAny (model prog w) A (eval elt (compEnvC scope cl C env)) (fun z s₂ => ∃ h' tk' t', s₂ = { s with heap := h', toks := tk' } ∧ z = .str (S (f i)) t' ∧ Fr h₀ L h' m ∧ News h₀ L h' ((I, oI) :: (C, oC) :: (D, LCg.lst ys) :: news)) E' s'
        else ∃ h' tk', s' = { s with heap := h', toks := tk' } ∧ Fr h₀ L h' m ∧ News h₀ L h' ((I, oI) :: (C, oC) :: (D, LCg.lst ys) :: news))) E' { s with heap := h, toks := tk })
    (fin : ∀ ys, Are ys (((List.range n).filter c).map f) → Fin ys news) : LCt.CompRestT prog w A h₀ L m env ct elt x scope cl s St (fun i v => ∃ t, v = .int (0 + (i : Int)) t) Fin n 0 [] news := by
  have key : ∀ (j i : Nat) (ys : List Value), i + j = n → Are ys (((List.range i).filter c).map f) → LCt.CompRestT prog w A h₀ L m env ct elt x scope cl s St (fun i v => ∃ t, v = .int (0 + (i : Int)) t) Fin j i ys news := by
    intro j
    induction j with
    | zero =>
      intro i ys hi hy
      have e : i = n := by lia
      subst e
      exact LCt.CompRestT.zero (fin ys hy)
    | succ j ih =>
      intro i ys hi hy
      refine LCt.CompRestT.succ ?_
      intro v I oI C oC D m₂ h tk E' hv hC hx F N off ne
      obtain ⟨t, rfl⟩ := hv
      refine wpAny_mono (turn i t I oI C oC D m₂ ys h tk E' (by lia) hC hx F N off ne) (fun b s₂ hq => ?_) fun _ _ e => e
      obtain ⟨hb, hq⟩ := hq
      cases b with
      | true =>
        simp only [if_true] at hq ⊢
        refine wpAny_mono hq (fun z s₃ hr => ?_) fun _ _ e => e
        obtain ⟨h', tk', t', e, hz, F', N'⟩ := hr
        subst hz
        refine ⟨h', tk', news, e, F', N', off, hS, ?_⟩
        refine ih (i + 1) _ (by lia) ?_
        rw [List.range_succ, List.filter_append, List.map_append]
        refine lst_append hy ?_
        simp only [List.filter_cons, ← hb, if_true, List.filter_nil, List.map_cons, List.map_nil]
        exact .cons _ _ .nil
      | false =>
        simp only [Bool.false_eq_true, if_false] at hq ⊢
        obtain ⟨h', tk', e, F', N'⟩ := hq
        refine ⟨h', tk', news, e, F', N', off, hS, ?_⟩
        refine ih (i + 1) _ (by lia) ?_
        rw [List.range_succ, List.filter_append, List.map_append]
        simp only [List.filter_cons, ← hb, Bool.false_eq_true, if_false, List.filter_nil, List.map_nil, List.append_nil]
        exact hy
  exact key n 0 [] (by lia) .nil
end
def extra (mine yours : List (List Nat)) : List (List Nat) :=
  ((List.range (sortW mine).length).filter fun k => decide (yours.count ((sortW mine).getD k []) < ((sortW mine).take (k + 1)).count ((sortW mine).getD k []))).map fun k => (sortW mine).getD k []
theorem sortW_len (xs : List (List Nat)) : (sortW xs).length = xs.length := (isort_perm ltW xs).length_eq
theorem off_B8 : True := by
  w_top off
  trivial
theorem t_extra (w : World) {a1 a2 : Addr} {vs1 vs2 : List Value} {n1 n2 : Nat} {xs ys : List (List Nat)} (news : List (Addr × Obj)) (h1 : (a1, listOf (List.toArray vs1) n1) ∈ news) (h2 : (a2, listOf (List.toArray vs2) n2) ∈ news) (hA1 : Are vs1 xs) (hA2 : Are vs2 ys) (hx : xs.length < 64) (hy : ys.length < 64) :
    Ctr w 141 1 [.ref a1, .ref a2] news (OutL (extra xs ys)) := by
  unfold Ctr
  intro dp un gd cn cs a ccd cl outer A₀ base h₀ L m s Q E p loose mean mg mb B F X N T hk hd hu hret
  refine wpAny_call ?_
  k_with_none
  k_with "WhileStep2 brk" => dsimp only [WhileStep2]
  k_with "binaryOp Add str str" => ((refine PyProof.Rows.add_str ?_ (hsz := by ktn_open)); intro _ _)
  k_with "subscriptTail Name Slice str ref" => ((with_reducible show wpAny _ _ (subscriptTail _ (Expr.Slice none (some _) none _) _ _) _ _ _); (refine slice_strN_ns (hsz := by ktn_open) (s := ⟨_, _, _, _, _⟩) (by k_asm) (by k_asm) ?_); intro _ _ _ _ _)
  k_with "subscriptTail Name Slice str ref" => ((with_reducible show wpAny _ _ (subscriptTail _ (Expr.Slice (some _) none none _) _ _) _ _ _); (refine slice_strN_sn (hsz := by ktn_open) (s := ⟨_, _, _, _, _⟩) (by k_asm) (by k_asm) ?_); intro _ _ _ _ _)
  k_with "call builtin:len" => ((with_reducible show wpAny _ _ (call (Value.builtin "len") [Value.str (S _) _]) _ _ _); refine lenS (by ktn_open) ?_)
  k_with "eval ListComp" => (k_here; (with_reducible show wpAny _ _ (eval (Expr.ListComp _ [⟨_, _, [], _⟩] _ _) _) _ _ _); k_dflt (refine LCg.ListComp_U (F₀ := by k_asm) (by with_unfolding_all rfl) (by decide) (by rfl) (by decide) (by rfl) ?_))
  k_with "eval ListComp" => (k_here; (with_reducible show wpAny _ _ (eval (Expr.ListComp _ [⟨_, _, [_], _⟩] _ _) _) _ _ _); k_dflt (refine LCt.ListComp_T (F₀ := by k_asm) (by with_unfolding_all rfl) (by decide) (by rfl) (by decide) (by rfl) ?_))
  k_with "exec Assign cons ListComp" => (k_here; k_dflt (refine LCg.Assign_ListComp_U (F₀ := by k_asm) (by rfl) (by with_unfolding_all rfl) (by with_unfolding_all rfl) (by decide) (by rfl) (by decide) (by rfl) (by rfl) (by rfl) ?_))
  k_with "getMethod ref" => k_dflt (first | refine meth_L PySem.F.slot_list_count PySem.F.type_list_count (by k_asm) (by k_mem) ?_ | refine meth_L PySem.F.slot_list_append PySem.F.type_list_append (by k_asm) (by k_mem) ?_ | refine meth_L PySem.F.slot_list_pop PySem.F.type_list_pop (by k_asm) (by k_mem) ?_ | refine meth_L PySem.F.slot_list_remove PySem.F.type_list_remove (by k_asm) (by k_mem) ?_ | refine meth_L PySem.F.slot_list_extend PySem.F.type_list_extend (by k_asm) (by k_mem) ?_)
  k_with "stop" => with_reducible first | show wpAny _ _ (PySem.call (Value.ref _) _ _) _ _ _ | show wpAny _ _ (exec (Stmt.While _ _ _ _) _) _ _ _ | show wpAny _ _ (exec (Stmt.For _ _ _ _ _) _) _ _ _ | show wpAny _ _ (exec (Stmt.Try _ _ _ _ _) _) _ _ _ | show wpAny _ _ (pyIter _) _ _ _ | show wpAny _ _ (binaryOp Operator.Mult (Value.ref _) (Value.int _ _)) _ _ _ | show LCg.CompSrc _ _ _ _ _ _ _ _ _ _ _ _ _ _ | show wpAny _ _ (binaryOp Operator.Add (Value.ref _) (Value.ref _)) _ _ _ | show wpAny _ _ (PySem.call (Value.builtin "sorted") _ _) _ _ _ | show wpAny _ _ (PySem.call (Value.builtin "list.count") _ _) _ _ _ | show wpAny _ _ (PySem.call (Value.builtin "list.extend") _ _) _ _ _ | show wpAny _ _ (PySem.call (Value.builtin "list.append") _ _) _ _ _ | show wpAny _ _ (PySem.call (Value.builtin "len") [Value.ref _] _) _ _ _ | show wpAny _ _ (subscriptTail _ _ (Value.ref _) _) _ _ _ | show LCt.CompSrcT _ _ _ _ _ _ _ _ _ _ _ _ _ _ _ | show Exists _ | show wpAny _ _ (compareOp CmpOp.NotEq (Value.ref _) (Value.ref _)) _ _ _ | show wpAny _ _ (compareOp CmpOp.Eq (Value.ref _) (Value.ref _)) _ _ _
  k_dflt (refine' code_defC ?k1 ?k2 ?k3 ?k4 ?k5 ?kA ?kF ?kK ?k6 ?k7 ?k8 ?k9 ?kB ?kD ?_ ?c2 ?c3 ?c4; (case kA => exact rfl); (case kF => exact rfl); (case kK => assumption); (case k1 => k_asm); (case k2 => k_asm); (case k3 => k_asm); (case k4 => k_asm); (case k5 => k_asm); (case k6 => k_is); (case k7 => k_is); (case k8 => ktr_room); (case k9 => exact BindsTo.of_eq rfl); (case kB => exact rfl); (case kD => decide +kernel); (case c2 => exact rfl); (case c3 => exact rfl); (case c4 => exact rfl); k_whole; intro g' L' h' tk' cells' FG' F' N' Y' B' X' T' l1; k_cells Y'; (try simp only [List.cons_append, List.nil_append] at N'); (try dsimp only); (try k_fold))
  refine wpAny_mono (E := fun _ _ => False) ?_ (fun _ _ h => h) (fun _ _ h => h.elim)
  tb_rel
  refine sort_L (by k_asm) (by k_asm) (.tail _ (.tail _ h1)) hA1 hx ?_
  intro D3 zs3 e3 h3 F3 N3 lt3 hA3
  k_lt lt3
  dsimp only
  tb_rel
  have hsl := sortW_len xs
  refine len_L (by k_asm) (.head _) hA3 (by lia) ?_
  dsimp only
  tb_rel
  refine LCt.CompSrcT.range rfl (by k_asm) (by k_asm) (by assumption) (range_small (by lia)) (range_size _) (by rw [sizeLine_eq]; lia) ?_
  intro g4
  dsimp only
  refine comp_test (fun k => decide (ys.count ((sortW xs).getD k []) < ((sortW xs).take (k + 1)).count ((sortW xs).getD k []))) (fun k => (sortW xs).getD k []) trivial ?_ ?_
  · intro i t5 I5 oI5 C5 oC5 D5 m5 zs5 h5 tk5 E5 hi5 hC5 hm5 F5 N5 off5 ne5
    dsimp only
    tb_rel
    refine slice_upto_L (s := ⟨_, _, _, _, _⟩) (i + 1) (by k_asm) (by k_asm) (by k_mem) hA3 (by lia) (by lia) (by lia) ?_
    intro D6 zs6 h6 F6 N6 lt6 hA6
    dsimp only
    tb_rel
    refine item_L i (by k_asm) (by k_mem) hA3 (by lia) (by lia) (by lia) ?_
    intro t7
    dsimp only
    tb_rel
    refine count_L (by k_asm) (by k_mem) hA6 ?_
    dsimp only
    tb_rel
    refine item_L i (by k_asm) (by k_mem) hA3 (by lia) (by lia) (by lia) ?_
    intro t8
    dsimp only
    tb_rel
    refine count_L (by k_asm) (by k_mem) hA2 ?_
    dsimp only
    tb_rel
    · simp only [Int.ofNat_lt]
    · refine item_L i (by k_asm) (by k_mem) hA3 (by lia) (by lia) (by lia) ?_
      intro t9
      exact ⟨_, _, _, rfl, rfl, F6, fun p hp => N6 p (.tail _ hp)⟩
    · exact ⟨_, _, rfl, F6, fun p hp => N6 p (.tail _ hp)⟩
  · intro zs5 hz5
    tb_rel
    rename (_ ∧ _ ∧ _ ∧ LCg.Off1 _ news) => ho
    exact hret _ [_] _ _ (by k_asm) (keep1 (mid := [_, _, _]) (by k_asm)) (off_of_1 ho.2.2.2) ⟨_, _, _, rfl, rfl, hz5⟩
theorem off_B9 : True := by
  w_top off
  trivial
def changeG (l : List Nat) (k : Nat) : List (List Nat) := if k % 2 = 0 then [] else orders l (k / 2)
def changeC (l : List Nat) (k : Nat) : List (List Nat) := if k % 2 = 0 then (List.range l.length).foldl (fun c i => c ++ orders (l.take i) (k / 2)) [] else orders l (k / 2 + 1)
abbrev tup2 (a b : Addr) (e : Nat) : Obj := { cls := .type "tuple", data := .seq #[.ref a, .ref b] e }
abbrev Out2 (xs ys : List (List Nat)) (tl : List (Addr × Obj)) (r : Value) : Prop := ∃ T a b vs ws n k e, tl = [(T, tup2 a b e), (a, listOf (List.toArray vs) n), (b, listOf (List.toArray ws) k)] ∧ r = .ref T ∧ Are vs xs ∧ Are ws ys
theorem fmod2 (k : Nat) : Int.fmod (k : Int) 2 = ((k % 2 : Nat) : Int) := by
  rw [Int.fmod_eq_emod_of_nonneg _ (by lia)]; lia
inductive JChg (L0 : Addr) (o0 : Obj) (l : List Nat) (k : Nat) (news : List (Addr × Obj)) (C : List (List Nat)) (top : Nat) (m : Str → Option Value) : List (Addr × Obj) → Prop
  | mk (t : Tok) (hlet : m (Str.ofString "letters") = some (.str (S l) t)) (u : Tok) (hkk : m (Str.ofString "k") = some (.int (k : Int) u))
    (ag ac : Addr) (vs : List Value) (n : Nat) (hcome : m (Str.ofString "come") = some (.ref ac)) (hgone : m (Str.ofString "gone") = some (.ref ag)) (hA : Are vs C) (hlen : C.length ≤ top) (hw : ∀ y ∈ C, y.length ≤ 7) : JChg L0 o0 l k news C top m ((ac, listOf (List.toArray vs) n) :: (ag, listOf (List.toArray []) 0) :: (L0 + 1, o0) :: news)
theorem t_change (w : World) (h l : List Nat) (k : Nat) (i : Int) (t u v : Tok) (news) (hh : h.length ≤ 2) (hl : l.length ≤ 3) (hk4 : k ≤ 3) (hsz : (changeG l k).length < 64 ∧ (changeC l k).length < 64) (hi : i = (k : Int)) :
    Ctr w 117 9 [.str (S h) t, .str (S l) u, .int i v] news (Out2 (sortW ((changeG l k).map (h ++ ·))) (sortW ((changeC l k).map (h ++ ·)))) := by
  subst hi
  unfold Ctr
  intro dp un gd cn cs a ccd cl outer A₀ base h₀ L m s Q E p loose mean mg mb B F X N T hk hd hu hret
  refine wpAny_call ?_
  k_with_none
  k_with "WhileStep2 brk" => dsimp only [WhileStep2]
  k_with "binaryOp Add str str" => ((refine PyProof.Rows.add_str ?_ (hsz := by ktn_open)); intro _ _)
  k_with "subscriptTail Name Slice str ref" => ((with_reducible show wpAny _ _ (subscriptTail _ (Expr.Slice none (some _) none _) _ _) _ _ _); (refine slice_strN_ns (hsz := by ktn_open) (s := ⟨_, _, _, _, _⟩) (by k_asm) (by k_asm) ?_); intro _ _ _ _ _)
  k_with "subscriptTail Name Slice str ref" => ((with_reducible show wpAny _ _ (subscriptTail _ (Expr.Slice (some _) none none _) _ _) _ _ _); (refine slice_strN_sn (hsz := by ktn_open) (s := ⟨_, _, _, _, _⟩) (by k_asm) (by k_asm) ?_); intro _ _ _ _ _)
  k_with "call builtin:len" => ((with_reducible show wpAny _ _ (call (Value.builtin "len") [Value.str (S _) _]) _ _ _); refine lenS (by ktn_open) ?_)
  k_with "eval ListComp" => (k_here; (with_reducible show wpAny _ _ (eval (Expr.ListComp _ [⟨_, _, [], _⟩] _ _) _) _ _ _); k_dflt (refine LCg.ListComp_U (F₀ := by k_asm) (by with_unfolding_all rfl) (by decide) (by rfl) (by decide) (by rfl) ?_))
  k_with "eval ListComp" => (k_here; (with_reducible show wpAny _ _ (eval (Expr.ListComp _ [⟨_, _, [_], _⟩] _ _) _) _ _ _); k_dflt (refine LCt.ListComp_T (F₀ := by k_asm) (by with_unfolding_all rfl) (by decide) (by rfl) (by decide) (by rfl) ?_))
  k_with "exec Assign cons ListComp" => (k_here; k_dflt (refine LCg.Assign_ListComp_U (F₀ := by k_asm) (by rfl) (by with_unfolding_all rfl) (by with_unfolding_all rfl) (by decide) (by rfl) (by decide) (by rfl) (by rfl) (by rfl) ?_))
  k_with "getMethod ref" => k_dflt (first | refine meth_L PySem.F.slot_list_count PySem.F.type_list_count (by k_asm) (by k_mem) ?_ | refine meth_L PySem.F.slot_list_append PySem.F.type_list_append (by k_asm) (by k_mem) ?_ | refine meth_L PySem.F.slot_list_pop PySem.F.type_list_pop (by k_asm) (by k_mem) ?_ | refine meth_L PySem.F.slot_list_remove PySem.F.type_list_remove (by k_asm) (by k_mem) ?_ | refine meth_L PySem.F.slot_list_extend PySem.F.type_list_extend (by k_asm) (by k_mem) ?_)
  k_with "stop" => with_reducible first | show wpAny _ _ (PySem.call (Value.ref _) _ _) _ _ _ | show wpAny _ _ (exec (Stmt.While _ _ _ _) _) _ _ _ | show wpAny _ _ (exec (Stmt.For _ _ _ _ _) _) _ _ _ | show wpAny _ _ (exec (Stmt.Try _ _ _ _ _) _) _ _ _ | show wpAny _ _ (pyIter _) _ _ _ | show wpAny _ _ (binaryOp Operator.Mult (Value.ref _) (Value.int _ _)) _ _ _ | show LCg.CompSrc _ _ _ _ _ _ _ _ _ _ _ _ _ _ | show wpAny _ _ (binaryOp Operator.Add (Value.ref _) (Value.ref _)) _ _ _ | show wpAny _ _ (PySem.call (Value.builtin "sorted") _ _) _ _ _ | show wpAny _ _ (PySem.call (Value.builtin "list.count") _ _) _ _ _ | show wpAny _ _ (PySem.call (Value.builtin "list.extend") _ _) _ _ _ | show wpAny _ _ (PySem.call (Value.builtin "list.append") _ _) _ _ _ | show wpAny _ _ (PySem.call (Value.builtin "len") [Value.ref _] _) _ _ _ | show wpAny _ _ (subscriptTail _ _ (Value.ref _) _) _ _ _ | show LCt.CompSrcT _ _ _ _ _ _ _ _ _ _ _ _ _ _ _ | show Exists _ | show wpAny _ _ (compareOp CmpOp.NotEq (Value.ref _) (Value.ref _)) _ _ _ | show wpAny _ _ (compareOp CmpOp.Eq (Value.ref _) (Value.ref _)) _ _ _
  k_dflt (refine' code_defC ?k1 ?k2 ?k3 ?k4 ?k5 ?kA ?kF ?kK ?k6 ?k7 ?k8 ?k9 ?kB ?kD ?_ ?c2 ?c3 ?c4; (case kA => exact rfl); (case kF => exact rfl); (case kK => assumption); (case k1 => k_asm); (case k2 => k_asm); (case k3 => k_asm); (case k4 => k_asm); (case k5 => k_asm); (case k6 => k_is); (case k7 => k_is); (case k8 => ktr_room); (case k9 => exact BindsTo.of_eq rfl); (case kB => exact rfl); (case kD => decide +kernel); (case c2 => exact rfl); (case c3 => exact rfl); (case c4 => exact rfl); k_whole; intro g0 L0 hp0 tk0 cells' FG0 F0 N0 Y' B0 X0 T0 lt0; k_cells Y'; (try simp only [List.cons_append, List.nil_append] at N0); (try dsimp only); (try k_fold))
  rename_i o0 d0
  refine wpAny_mono (E := fun _ _ => False) ?_ (fun _ _ h => h) (fun _ _ h => h.elim)
  have hm := fmod2 k
  rcases Nat.mod_two_eq_zero_or_one k with hk2 | hk2
  · have hG : changeG l k = [] := by rw [changeG, if_pos hk2]
    have hC : changeC l k = (List.range l.length).foldl (fun c i => c ++ orders (l.take i) (k / 2)) [] := by rw [changeC, if_pos hk2]
    rw [hG, hC] at hsz
    rw [hG, hC] at hret
    k_with "ite" => (refine ite_pos (by simp [hm, hk2]) ?_)
    tb_rel
    refine For_invVF (by k_asm) rfl rfl ?_
    tb_rel
    try dsimp only
    k_with "eval Name" => (k_here; k_dflt (refine nameX_L (by k_asm) (by assumption) ?_ (by rfl) (by rfl)); k_whole)
    refine range_loop (n := l.length) (fun i => JChg L0 o0 l k news ((List.range i).foldl (fun c i => c ++ orders (l.take i) (k / 2)) []) (128 * i)) rfl (by assumption) (range_small (by lia)) (range_size _) (by k_asm) (by k_asm) ⟨_, by rfl, _, by rfl, _, _, [], _, by rfl, by rfl, .nil, Nat.le_refl _, fun y hy => nomatch hy⟩ ?_ ?_
    · intro i t1 m1 news1 I1 oI1 h1 tk1 hi J1 off1 F1 N1
      obtain ⟨t2, hlet, t3, hkk, ag, ac, vs2, n2, hcome, hgone, hA2, hlen2, hw2⟩ := J1
      try dsimp only
      tb_rel
      have hti : (l.take i).length ≤ 3 := by rw [List.length_take]; lia
      k_dflt (refine Ctr.useL (t_orders w ((l.take i).length + k / 2) (l.take i) (k / 2) _ _ _ _ _ rfl hti (by lia) ((congrArg (fun z => Txt.slice (S l) none (some z)) (by lia)).trans (slice_to (l := l) (k := i) (by lia))) (fdiv2 k)) (by k_asm) (by k_asm) (by k_asm) (by k_asm) (by k_asm) rfl (by ktr_room) (by ktr_units) ?_)
      intro a5 vs5 n5 h5 tk5 F5 N5 off5 hA5
      try dsimp only
      have ho128 := orders_fit hti (q := k / 2) (by lia)
      refine add_L (by k_asm) (by k_asm) (by k_mem) (by k_mem) hA2 hA5 (by rw [sizeLine_eq]; lia) ?_
      intro D7 zs7 h7 F7 N7 lt7 hA7
      try dsimp only
      tb_rel
      rename News g0 L0 _ ((D7, _) :: _) => N8
      rename Fr g0 L0 _ _ => F8
      have l1 : I1 < D7 := lt7 (I1, oI1) (.tail _ (.head _))
      refine ⟨_, _, _, (D7, listOf (List.toArray zs7) 0) :: (ag, listOf (List.toArray []) 0) :: (L0 + 1, o0) :: news, rfl, F8, ?_, ?_, _, by exact hlet, _, by exact hkk, ag, D7, zs7, 0, by rfl, by exact hgone, ?_, ?_, ?_⟩
      · exact ncons (N8 _ (.tail _ (.tail _ (.head _)))) (ncons (N8 _ (.head _)) (ntl (ntl (ntl (ntl N8)))))
      · exact bcons (Nat.ne_of_gt l1) fun p hp => off1 p (.tail _ hp)
      · rw [List.range_succ, List.foldl_append]
        exact hA7
      · rw [List.range_succ, List.foldl_append]
        simp only [List.foldl_cons, List.foldl_nil, List.length_append]
        lia
      · rw [List.range_succ, List.foldl_append]
        simp only [List.foldl_cons, List.foldl_nil]
        intro y hy
        rcases List.mem_append.mp hy with hy | hy
        · exact hw2 y hy
        · have := orders_len _ _ y hy; lia
    · intro m1 news1 h1 tk1 J1 F1 N1
      obtain ⟨t2, hlet, t3, hkk, ag, ac, vs2, n2, hcome, hgone, HC, hlen2, WC⟩ := J1
      have HG : Are [] [] := .nil
      have WG : ∀ y ∈ ([] : List (List Nat)), y.length ≤ 7 := fun y hy => nomatch hy
      try dsimp only
      tb_rel
      refine LCg.CompSrc.ledger rfl (by k_asm) (by k_asm) (by k_mem) (by rw [List.size_toArray, HG.len, sizeLine_eq]; lia) ?_
      intro g5
      try dsimp only
      refine comp_strs (fun y => h ++ y) HG (.inr ⟨_, by k_mem, rfl, _, rfl⟩) ?_ ?_
      · intro y t5 I5 oI5 C5 oC5 D5 m5 ys5 h5 tk5 E5 hy hC5 hm5 F5 N5 off5 ne5
        have hyl := WG y hy
        try dsimp only
        tb_rel
        exact ⟨_, _, _, rfl, by rw [S_append], by k_asm, by k_asm⟩
      intro ys5 hys5
      tb_rel
      try dsimp only
      refine sort_L (by k_asm) (by k_asm) (by k_mem) hys5 (by rw [List.length_map]; lia) ?_
      intro D6 zs6 e6 h6 F6 N6 lt6 hA6
      try dsimp only
      tb_rel
      refine LCg.CompSrc.ledger rfl (by k_asm) (by k_asm) (by k_mem) (by rw [List.size_toArray, HC.len, sizeLine_eq]; lia) ?_
      intro g7
      try dsimp only
      refine comp_strs (fun y => h ++ y) HC (.inr ⟨_, by k_mem, rfl, _, rfl⟩) ?_ ?_
      · intro y t5 I5 oI5 C5 oC5 D5 m5 ys5 h5 tk5 E5 hy hC5 hm5 F5 N5 off5 ne5
        have hyl := WC y hy
        try dsimp only
        tb_rel
        exact ⟨_, _, _, rfl, by rw [S_append], by k_asm, by k_asm⟩
      intro ys7 hys7
      tb_rel
      try dsimp only
      refine sort_L (by k_asm) (by k_asm) (by k_mem) hys7 (by rw [List.length_map]; lia) ?_
      intro D8 zs8 e8 h8 F8 N8 lt8 hA8
      try dsimp only
      tb_rel
      rename News h₀ L _ ((_, tup2 _ _ _) :: _) => N9
      rename (_ ∧ _ ∧ _ ∧ _ ∧ _) => lt9
      refine hret _ [(_, tup2 D6 D8 0), (D6, listOf (List.toArray zs6) e6), (D8, listOf (List.toArray zs8) e8)] _ _ (by k_asm) (ncons (N9 _ (.head _)) (ncons (N9 _ (.tail _ (.tail _ (.tail _ (.head _))))) (ncons (N9 _ (.tail _ (.head _))) (ntl (ntl (ntl (ntl (ntl (ntl (ntl (ntl N9))))))))))) ?_ ⟨_, _, _, _, _, _, _, _, rfl, rfl, hA6, hA8⟩
      · exact fun q hq => bcons (Nat.ne_of_lt (Nat.lt_trans (lt8 q (.tail _ (.tail _ (.tail _ (.tail _ (.tail _ (.tail _ hq))))))) lt9.1)) (bcons (Nat.ne_of_lt (lt6 q (.tail _ (.tail _ (.tail _ (.tail _ hq)))))) (bcons (Nat.ne_of_lt (lt8 q (.tail _ (.tail _ (.tail _ (.tail _ (.tail _ (.tail _ hq)))))))) bnil))
  · have hG : changeG l k = orders l (k / 2) := by rw [changeG, if_neg (by lia)]
    have hC : changeC l k = orders l (k / 2 + 1) := by rw [changeC, if_neg (by lia)]
    rw [hG, hC] at hsz
    rw [hG, hC] at hret
    k_with "ite" => (refine ite_neg (by simp [hm, hk2]) ?_)
    tb_rel
    k_dflt (refine Ctr.useL (t_orders w (l.length + k / 2) l (k / 2) _ _ _ _ _ rfl hl (by lia) rfl (fdiv2 k)) (by k_asm) (by k_asm) (by k_asm) (by k_asm) (by k_asm) rfl (by ktr_room) (by ktr_units) ?_)
    intro a1 vs1 n1 h1 tk1 F1 N1 off1 HG
    try dsimp only
    tb_rel
    k_dflt (refine Ctr.useL (t_orders w (l.length + (k / 2 + 1)) l (k / 2 + 1) _ _ _ _ _ rfl hl (by lia) rfl (by rw [fdiv2]; rfl)) (by k_asm) (by k_asm) (by k_asm) (by k_asm) (by k_asm) rfl (by ktr_room) (by ktr_units) ?_)
    intro a2 vs2 n2 h2 tk2 F2 N2 off2 HC
    have WG : ∀ y ∈ orders l (k / 2), y.length ≤ 7 := fun y hy => by have := orders_len _ _ y hy; lia
    have WC : ∀ y ∈ orders l (k / 2 + 1), y.length ≤ 7 := fun y hy => by have := orders_len _ _ y hy; lia
    try dsimp only
    tb_rel
    refine LCg.CompSrc.ledger rfl (by k_asm) (by k_asm) (by k_mem) (by rw [List.size_toArray, HG.len, sizeLine_eq]; lia) ?_
    intro g5
    try dsimp only
    refine comp_strs (fun y => h ++ y) HG (.inr ⟨_, by k_mem, rfl, _, rfl⟩) ?_ ?_
    · intro y t5 I5 oI5 C5 oC5 D5 m5 ys5 h5 tk5 E5 hy hC5 hm5 F5 N5 off5 ne5
      have hyl := WG y hy
      try dsimp only
      tb_rel
      exact ⟨_, _, _, rfl, by rw [S_append], by k_asm, by k_asm⟩
    intro ys5 hys5
    tb_rel
    try dsimp only
    refine sort_L (by k_asm) (by k_asm) (by k_mem) hys5 (by rw [List.length_map]; lia) ?_
    intro D6 zs6 e6 h6 F6 N6 lt6 hA6
    try dsimp only
    tb_rel
    refine LCg.CompSrc.ledger rfl (by k_asm) (by k_asm) (by k_mem) (by rw [List.size_toArray, HC.len, sizeLine_eq]; lia) ?_
    intro g7
    try dsimp only
    refine comp_strs (fun y => h ++ y) HC (.inr ⟨_, by k_mem, rfl, _, rfl⟩) ?_ ?_
    · intro y t5 I5 oI5 C5 oC5 D5 m5 ys5 h5 tk5 E5 hy hC5 hm5 F5 N5 off5 ne5
      have hyl := WC y hy
      try dsimp only
      tb_rel
      exact ⟨_, _, _, rfl, by rw [S_append], by k_asm, by k_asm⟩
    intro ys7 hys7
    tb_rel
    try dsimp only
    refine sort_L (by k_asm) (by k_asm) (by k_mem) hys7 (by rw [List.length_map]; lia) ?_
    intro D8 zs8 e8 h8 F8 N8 lt8 hA8
    try dsimp only
    tb_rel
    rename News h₀ L _ ((_, tup2 _ _ _) :: _) => N9
    rename (_ ∧ _ ∧ _ ∧ _ ∧ _) => lt9
    refine hret _ [(_, tup2 D6 D8 0), (D6, listOf (List.toArray zs6) e6), (D8, listOf (List.toArray zs8) e8)] _ _ (by k_asm) (ncons (N9 _ (.head _)) (ncons (N9 _ (.tail _ (.tail _ (.tail _ (.head _))))) (ncons (N9 _ (.tail _ (.head _))) (ntl (ntl (ntl (ntl (ntl (ntl (ntl (ntl (ntl (ntl N9))))))))))))) ?_ ⟨_, _, _, _, _, _, _, _, rfl, rfl, hA6, hA8⟩
    · exact fun q hq => bcons (Nat.ne_of_lt (Nat.lt_trans (lt8 q (.tail _ (.tail _ (.tail _ (.tail _ (.tail _ (.tail _ (.tail _ (.tail _ hq))))))))) lt9.1)) (bcons (Nat.ne_of_lt (lt6 q (.tail _ (.tail _ (.tail _ (.tail _ (.tail _ (.tail _ hq)))))))) (bcons (Nat.ne_of_lt (lt8 q (.tail _ (.tail _ (.tail _ (.tail _ (.tail _ (.tail _ (.tail _ (.tail _ hq)))))))))) bnil))
theorem off_C0 : True := by
  w_top off
  trivial
theorem are_snoc {vs : List Value} {xs : List (List Nat)} {y : List Nat} (h : Are vs (xs ++ [y])) : ∃ vs' t, vs = vs' ++ [.str (S y) t] ∧ Are vs' xs := by
  have hl := h.len
  rw [List.length_append] at hl
  obtain ⟨t, ht⟩ := are_at h (i := xs.length) (by simp)
  have h1 := are_take h xs.length
  rw [List.take_left'] at h1
  · refine ⟨vs.take xs.length, t, ?_, h1⟩
    have e : vs.drop xs.length = [.str (S y) t] := by
      have hlt : xs.length < vs.length := by simp at hl; lia
      rw [List.drop_eq_getElem_cons hlt]
      rw [List.getElem?_eq_getElem hlt] at ht
      rw [Option.some.inj ht, List.drop_of_length_le (by simp at hl; lia)]
      simp
    rw [← e, List.take_append_drop]
  · rfl
theorem last_snoc (l : List Value) (y : Value) : kl_last (l ++ [y]) = some (l, y) := by
  induction l with
  | nil => rfl
  | cons x l ih => simp only [List.cons_append, kl_last, ih]
theorem are_find {vs : List Value} {xs : List (List Nat)} (h : Are vs xs) {y : List Nat} (hy : y ∈ xs) : ∃ j, ∃ hj : j < vs.length, isStrOf (S y) vs[j] = true ∧ (∀ i (hi : i < vs.length), i < j → isStrOf (S y) vs[i] = false) ∧ Are (vs.eraseIdx j) (xs.erase y) := by
  induction xs generalizing vs with
  | nil => cases hy
  | cons x xs ih =>
    obtain ⟨t, vs', rfl, h'⟩ := StrsAre.cons_inv h
    by_cases e : x = y
    · subst e
      refine ⟨0, by simp, by simp [isStrOf], fun i _ h => absurd h (by lia), ?_⟩
      rw [List.erase_cons_head]
      exact h'
    · have hy' : y ∈ xs := by rcases List.mem_cons.mp hy with q | q; exact absurd q.symm e; exact q
      obtain ⟨j, hj, h1, h2, h3⟩ := ih h' hy'
      refine ⟨j + 1, by simpa using hj, by simpa using h1, ?_, ?_⟩
      · intro i hi hij
        cases i with
        | zero => show (S x == S y) = false; rw [S_beq]; simpa using e
        | succ i => exact h2 i (by simpa using hi) (by lia)
      · rw [List.erase_cons_tail (by simpa using e)]
        exact StrsAre.cons _ _ h3
theorem are_none {vs : List Value} {xs : List (List Nat)} (h : Are vs xs) {y : List Nat} (hy : y ∉ xs) : ∀ i (hi : i < vs.length), isStrOf (S y) vs[i] = false := by
  intro i hi
  have hi' : i < xs.length := by rw [← h.len]; exact hi
  obtain ⟨t, ht⟩ := are_at h hi'
  rw [List.getElem?_eq_getElem hi] at ht
  rw [Option.some.inj ht]
  show (S xs[i] == S y) = false
  rw [S_beq]
  have : xs[i] ≠ y := fun e => hy (e ▸ List.getElem_mem hi')
  simpa using this
section
variable {prog : Program} {w : World} {A : Around} {E : Value → Shared → Prop} {s : Shared} {h₀ : Heap} {L a : Addr} {m : Str → Option Value} {news : List (Addr × Obj)} {vs : List Value} {xs : List (List Nat)} {n : Nat} {Q : Value → Shared → Prop}
theorem truthy_L {Q : Bool → Shared → Prop} (N : News h₀ L s.heap news) (ha : (a, listOf (List.toArray vs) n) ∈ news) (hA : Are vs xs) (hz : xs.length ≤ 100000) (h : Q (decide (0 < xs.length)) { s with toks := s.toks + 1 + 1 }) :
    wpAny (model prog w) A (truthy (.ref a)) Q E s := by
  refine wpAny_truthy_list ⟨_, N.get ha, rfl, _, rfl⟩ (by rw [List.size_toArray, hA.len]; lia) ?_
  have e : (!(vs.toArray.isEmpty)) = decide (0 < xs.length) := by
    have := hA.len
    cases vs with
    | nil => have e : xs.length = 0 := by simpa using this.symm
             rw [e]; rfl
    | cons v vs => have e : 0 < xs.length := by rw [← this]; simp
                   simp [e]
  rw [e]; exact h
theorem pop_L {v : Value} {news' : List (Addr × Obj)} (F : Fr h₀ L s.heap m) (N : News h₀ L s.heap news) (U : Upd a (listOf (List.toArray (vs ++ [v])) n) (listOf (List.toArray vs) (n + 1)) news news') (hz : vs.length ≤ 100000)
    (h : ∀ h', Fr h₀ L h' m → News h₀ L h' news' → Q v { s with heap := h' }) : wpAny (model prog w) A (call (.builtin "list.pop") [.ref a]) Q E s :=
  kl_pop F N (last_snoc vs v) U (by rw [List.length_append, sizeLine_eq]; simp; lia) h
theorem remove_L {y : List Nat} {t : Tok} {news' : List Value → List (Addr × Obj)} (F : Fr h₀ L s.heap m) (N : News h₀ L s.heap news) (hA : Are vs xs) (hy : y ∈ xs) (U : ∀ zs, Upd a (listOf (List.toArray vs) n) (listOf (List.toArray zs) (n + 1)) news (news' zs)) (hz : xs.length ≤ 100000)
    (h : ∀ zs h', Fr h₀ L h' m → News h₀ L h' (news' zs) → Are zs (xs.erase y) → Q .none { s with heap := h' }) : wpAny (model prog w) A (call (.builtin "list.remove") [.ref a, .str (S y) t]) Q E s := by
  obtain ⟨j, hj, h1, h2, h3⟩ := are_find hA hy
  obtain ⟨pre, post, e1, e2, a', b'⟩ := (U (vs.eraseIdx j)).split
  subst e1
  have z := N (a, listOf (List.toArray vs) n) (List.mem_append.mpr (.inr (.head _)))
  have hz' : vs.toArray.size ≤ sizeLine := by rw [List.size_toArray, hA.len, sizeLine_eq]; lia
  refine call_meets PySem.F.slot_list_remove ⟨_, z.1, rfl⟩ PySem.F.entry_list_remove (PySem.F.args_list_remove_2 _ _)
    (MeetsSeq.list_remove a vs.toArray n (.str (S y) t) (isStrOf (S y)) (fun z hz => eq_isStrOf (S y) t hA z (by simpa using hz)) j (by simpa using hj) (by simpa using h1) (fun i hi hlt => by simpa using h2 i (by simpa using hi) hlt) hz')
    ⟨z.1, h (vs.eraseIdx j) _ (F.change (Heap.SameBut.update ..) z.2.1 z.2.2) ?_ h3⟩
  rw [e2]
  refine ki_turn _ N a' b' ?_ ?_
  · apply Array.toList_inj.mp
    simp [Array.toList_eraseIdxIfInBounds]
  · have hq : (vs.eraseIdx j).toArray.size ≠ vs.toArray.size := by
      rw [List.size_toArray, List.size_toArray, List.length_eraseIdx, if_pos hj]; lia
    rw [if_neg (by simpa using hq)]
theorem remove_none_L {y : List Nat} {t : Tok} (hh : A.handled = none) (N : News h₀ L s.heap news) (ha : (a, listOf (List.toArray vs) n) ∈ news) (hA : Are vs xs) (hy : y ∉ xs)
    (h : ∀ h' tk e, Heap.NewExc s.heap h' e "ValueError" → E (.ref e) { s with heap := h', toks := tk }) : wpAny (model prog w) A (call (.builtin "list.remove") [.ref a, .str (S y) t]) Q E s :=
  call_meets PySem.F.slot_list_remove ⟨_, N.get ha, rfl⟩ PySem.F.entry_list_remove (PySem.F.args_list_remove_2 _ _)
    (MeetsSeq.list_remove_none a vs.toArray n (.str (S y) t) (isStrOf (S y)) (fun z hz => eq_isStrOf (S y) t hA z (by simpa using hz)) (fun i hi => by simpa using are_none hA hy i (by simpa using hi)))
    ⟨N.get ha, hh, h⟩
theorem append_L {y : List Nat} {t : Tok} {news' : List (Addr × Obj)} (F : Fr h₀ L s.heap m) (N : News h₀ L s.heap news) (U : Upd a (listOf (List.toArray vs) n) (listOf (List.toArray (vs ++ [.str (S y) t])) (n + 1)) news news') (hz : vs.length ≤ 100000)
    (h : ∀ h', Fr h₀ L h' m → News h₀ L h' news' → Q .none { s with heap := h' }) : wpAny (model prog w) A (call (.builtin "list.append") [.ref a, .str (S y) t]) Q E s :=
  append_K (its := vs.toArray) F N (by simpa using U) h (by rw [List.size_toArray, sizeLine_eq]; lia)
end
section
variable {prog : Program} {w : World} {A : Around} {E : Value → Shared → Prop} {s' : Shared} {h₀ h : Heap} {L e : Addr} {m : Str → Option Value} {env : Env} {news : List (Addr × Obj)}
  {b₀ : Stmt} {suite : List Stmt} {pos : Pos} {rest : List ExceptHandler} {Q : Flow → Shared → Prop} {X T : String} {t : Expr}
/-- the handler's clause takes it; its class's name is loaded by the walk -/
theorem clause_hitW {fl : Value} (H : TT.HeldNA h₀ L s'.heap m e X news fl) (ev : ∀ (Q' E' : Value → Shared → Prop), Q' (.type T) s' → wpAny (model prog w) (A.mark (some (.ref e))) (eval t env) Q' E' s')
    (k : ∀ h', Fr h₀ L h' m → News h₀ L h' news → wpAny (model prog w) (A.mark (some (.ref e))) (execs (b₀ :: suite) env) Q E { s' with heap := h' })
    (h3 : subB X (.type T) = some true := by decide +kernel) (h1 : subB T (.type "BaseException") = some true := by decide +kernel)
    (h2 : subB ((Manifest.find? T).elim "type" fun y => y.metatype) (.type "tuple") = some false := by decide +kernel)
    (hE : PassesOwnAt (model prog w) (A.mark (some (.ref e))) A env E := by passes_own) :
    wpAny (model prog w) A (handleBy (.ref e) env (.ExceptHandler (some t) none (b₀ :: suite) pos :: rest)) Q E s' := by
  refine wpAny_handleBy_builtin (X := X) (T := T) (b := true) (isSubtype_of_subB h1) (isSubtype_of_subB h2) (isSubtype_of_subB h3) (wpAny_passesOwnAt hE (ev _ _ ⟨rfl, H.isA, ?_⟩))
  rw [if_pos rfl]
  exact H.lands fun h' F' N' => wpAny_passesOwnAt hE (k h' F' N')
theorem allNe_mem {L : Addr} : ∀ {l : List (Addr × Obj)}, (∀ p ∈ l, p.1 ≠ L) → TLg.AllNe L l
  | [], _ => trivial
  | _ :: _, h => ⟨h _ List.mem_cons_self, allNe_mem fun p hp => h p (List.mem_cons_of_mem _ hp)⟩
end
/-- unorderable_list_difference: what is missing, what is left -/
def uldStep (st : List (List Nat) × List (List Nat)) (y : List Nat) : List (List Nat) × List (List Nat) := if y ∈ st.2 then (st.1, st.2.erase y) else (st.1 ++ [y], st.2)
def uld (es as : List (List Nat)) : List (List Nat) × List (List Nat) := es.reverse.foldl uldStep ([], as)
theorem off_C1 : True := by
  w_top off
  trivial
/-- between the turns of unorderable_list_difference's loop -/
inductive JUld (fe : List Env) (L : Addr) (oL : Obj) (aa ae am : Addr) (es as : List (List Nat)) (rest : List (Addr × Obj)) (n : Nat) (m : Str → Option Value) : List (Addr × Obj) → Prop
  | mk (k1 : m (Str.ofString "expected") = some (.ref ae)) (k2 : m (Str.ofString "actual") = some (.ref aa)) (k3 : m (Str.ofString "missing") = some (.ref am)) (kn : n ≤ es.length)
    (vm : List Value) (nm : Nat) (vE : List Value) (nE : Nat) (va : List Value) (na : Nat) (sl : Array (Option Value)) (st : List (List Nat) × List (List Nat)) (Fs : TI.Frs fe [(L, { oL with slots := sl })])
    (hE : Are vE (es.take n)) (hst : st = (es.drop n).reverse.foldl uldStep ([], as)) (hm : Are vm st.1) (ha : Are va st.2) (hlm : st.1.length + n ≤ es.length) (hla : st.2.length ≤ as.length) :
    JUld fe L oL aa ae am es as rest n m ((am, listOf (List.toArray vm) nm) :: (aa, listOf (List.toArray va) na) :: (ae, listOf (List.toArray vE) nE) :: (rest ++ [(L, { oL with slots := sl })]))
theorem t_uld0 (w : World) {aa ae : Addr} {va ve : List Value} {na ne : Nat} {as es : List (List Nat)} (rest : List (Addr × Obj)) (hA : Are va as) (hE : Are ve es) (hal : as.length < 1000) (hel : es.length < 1000) (hne : aa ≠ ae) (hra : ∀ p ∈ rest, p.1 ≠ aa) (hre : ∀ p ∈ rest, p.1 ≠ ae)
    {cn : Str} {cs : Scope} {L a : Addr} {ccd : Value} {m : Str → Option Value} {h₀ : Heap} {s : Shared} {Q E : Value → Shared → Prop} {p : Program} {loose : List Str} {mean : ExcName → Option Value} {mg mb : Str → Option Value}
    (F : Fr h₀ L s.heap m) (N : News h₀ L s.heap ((aa, listOf (List.toArray va) na) :: (ae, listOf (List.toArray ve) ne) :: rest)) (X : (hd.heap_1 w.params).In h₀) (T : Top p loose mean mg mb h₀) (hck : cs.kind = .function)
    (ret : ∀ T' am vm va' nm na' h' tk', Fr h₀ L h' m → News h₀ L h' ((T', tup2 am aa 0) :: (am, listOf (List.toArray vm) nm) :: (aa, listOf (List.toArray va') na') :: rest) → (∀ p ∈ rest, p.1 < am) → am < T' → aa < am → Are vm (uld es as).1 → Are va' (uld es as).2 → Q (.ref T') { s with heap := h', toks := tk' }) :
    wpAny (model P0 w) (callerA.deeper (envOf cn cs L a ccd)) (call (.ref 76) [.ref ae, .ref aa]) Q E s := by
  k_with_none
  k_with "WhileStep2 brk" => dsimp only [WhileStep2]
  k_with "binaryOp Add str str" => ((refine PyProof.Rows.add_str ?_ (hsz := by ktn_open)); intro _ _)
  k_with "subscriptTail Name Slice str ref" => ((with_reducible show wpAny _ _ (subscriptTail _ (Expr.Slice none (some _) none _) _ _) _ _ _); (refine slice_strN_ns (hsz := by ktn_open) (s := ⟨_, _, _, _, _⟩) (by k_asm) (by k_asm) ?_); intro _ _ _ _ _)
  k_with "subscriptTail Name Slice str ref" => ((with_reducible show wpAny _ _ (subscriptTail _ (Expr.Slice (some _) none none _) _ _) _ _ _); (refine slice_strN_sn (hsz := by ktn_open) (s := ⟨_, _, _, _, _⟩) (by k_asm) (by k_asm) ?_); intro _ _ _ _ _)
  k_with "call builtin:len" => ((with_reducible show wpAny _ _ (call (Value.builtin "len") [Value.str (S _) _]) _ _ _); refine lenS (by ktn_open) ?_)
  k_with "eval ListComp" => (k_here; (with_reducible show wpAny _ _ (eval (Expr.ListComp _ [⟨_, _, [], _⟩] _ _) _) _ _ _); k_dflt (refine LCg.ListComp_U (F₀ := by k_asm) (by with_unfolding_all rfl) (by decide) (by rfl) (by decide) (by rfl) ?_))
  k_with "eval ListComp" => (k_here; (with_reducible show wpAny _ _ (eval (Expr.ListComp _ [⟨_, _, [_], _⟩] _ _) _) _ _ _); k_dflt (refine LCt.ListComp_T (F₀ := by k_asm) (by with_unfolding_all rfl) (by decide) (by rfl) (by decide) (by rfl) ?_))
  k_with "exec Assign cons ListComp" => (k_here; k_dflt (refine LCg.Assign_ListComp_U (F₀ := by k_asm) (by rfl) (by with_unfolding_all rfl) (by with_unfolding_all rfl) (by decide) (by rfl) (by decide) (by rfl) (by rfl) (by rfl) ?_))
  k_with "getMethod ref" => k_dflt (first | refine meth_L PySem.F.slot_list_count PySem.F.type_list_count (by k_asm) (by k_mem) ?_ | refine meth_L PySem.F.slot_list_append PySem.F.type_list_append (by k_asm) (by k_mem) ?_ | refine meth_L PySem.F.slot_list_pop PySem.F.type_list_pop (by k_asm) (by k_mem) ?_ | refine meth_L PySem.F.slot_list_remove PySem.F.type_list_remove (by k_asm) (by k_mem) ?_ | refine meth_L PySem.F.slot_list_extend PySem.F.type_list_extend (by k_asm) (by k_mem) ?_)
  k_with "stop" => with_reducible first | show wpAny _ _ (PySem.call (Value.ref _) _ _) _ _ _ | show wpAny _ _ (exec (Stmt.While _ _ _ _) _) _ _ _ | show wpAny _ _ (exec (Stmt.For _ _ _ _ _) _) _ _ _ | show wpAny _ _ (exec (Stmt.Try _ _ _ _ _) _) _ _ _ | show wpAny _ _ (pyIter _) _ _ _ | show wpAny _ _ (binaryOp Operator.Mult (Value.ref _) (Value.int _ _)) _ _ _ | show LCg.CompSrc _ _ _ _ _ _ _ _ _ _ _ _ _ _ | show wpAny _ _ (binaryOp Operator.Add (Value.ref _) (Value.ref _)) _ _ _ | show wpAny _ _ (PySem.call (Value.builtin "sorted") _ _) _ _ _ | show wpAny _ _ (PySem.call (Value.builtin "list.count") _ _) _ _ _ | show wpAny _ _ (PySem.call (Value.builtin "list.extend") _ _) _ _ _ | show wpAny _ _ (PySem.call (Value.builtin "list.append") _ _) _ _ _ | show wpAny _ _ (PySem.call (Value.builtin "len") [Value.ref _] _) _ _ _ | show wpAny _ _ (subscriptTail _ _ (Value.ref _) _) _ _ _ | show LCt.CompSrcT _ _ _ _ _ _ _ _ _ _ _ _ _ _ _ | show Exists _ | show wpAny _ _ (compareOp CmpOp.NotEq (Value.ref _) (Value.ref _)) _ _ _ | show wpAny _ _ (compareOp CmpOp.Eq (Value.ref _) (Value.ref _)) _ _ _
  refine TI.call_inI (binds := [(Str.ofString "expected", .ref ae), (Str.ofString "actual", .ref aa)]) F N (X _ _ (by k_is)) rfl (codeRec_of X (by k_is)) T.nolimit (by simp only [depth_deeper, depth_caller]; decide) rfl (locs rfl) ?_ hck
  intro oL h1 C1 Fs1 F1 N1
  refine wpAny_mono (E := fun _ _ => False) ?_ (fun _ _ h => h) (fun _ _ h => h.elim)
  have hL0 : L < s.heap.objs.size := Heap.lt_size F.ns.choose_spec.choose_spec.choose_spec.1
  generalize s.heap.objs.size = L1 at *
  tb_rel
  rename_i am hx2 lt2 h2 F2 N2
  have ea : aa < am := lt2 (aa, _) (.head _)
  have ee : ae < am := lt2 (ae, _) (.tail _ (.head _))
  have er : ∀ p ∈ rest, p.1 < am := fun p hp => lt2 p (by simp [hp])
  have eL : L < am := lt2 (L, oL) (by simp)
  have hLa : aa ≠ L := (N (aa, _) (.head _)).2.1
  have hLe : ae ≠ L := (N (ae, _) (.tail _ (.head _))).2.1
  have hLr : ∀ p ∈ rest, p.1 ≠ L := fun p hp => (N p (by simp [hp])).2.1
  refine While_inv2 (n₀ := es.length) (JUld _ L oL aa ae am es as rest) (by k_asm) (by k_asm) ⟨rfl, rfl, rfl, Nat.le_refl _, [], 0, _, _, _, _, oL.slots, _, Fs1, by rw [List.take_length]; exact hE, rfl, by rw [List.drop_length]; exact .nil, by rw [List.drop_length]; exact hA, by rw [List.drop_length]; simp, by rw [List.drop_length]; exact Nat.le_refl _⟩ ?_
  intro n m3 nw3 h3 tk3 F3 N3 J3
  obtain ⟨k1, k2, k3, kn, vm3, nm3, vE3, nE3, va3, na3, sl3, st3, Fs3, hE3, hst, hm3, ha3, hlm, hla⟩ := J3
  k_with "eval Name" => (k_here; k_dflt (refine ld (by k_asm) (by assumption) ?_); k_whole)
  tb_rel
  try dsimp only
  have ht := List.length_take_of_le kn
  refine truthy_L (by k_asm) (by k_mem) hE3 (by lia) ?_
  try dsimp only
  cases n with
  | zero =>
    rw [ht, decide_eq_false (by lia), if_neg (by decide)]
    tb_rel
    rename News h₀ L1 _ ((_, tup2 _ _ _) :: _) => N9
    rename Fr h₀ L1 _ _ => F9
    refine TLg.leave_back (new := (_, tup2 am aa 0) :: (am, listOf (List.toArray vm3) nm3) :: (aa, listOf (List.toArray va3) na3) :: (ae, listOf (List.toArray vE3) nE3) :: rest) C1 F9 N9 ?_ ?_
    · refine allNe_mem fun p hp => ?_
      rename (_ ∧ _ ∧ _ ∧ _) => l9
      simp only [List.mem_cons] at hp
      rcases hp with rfl | rfl | rfl | rfl | hp
      · exact Nat.ne_of_gt (Nat.lt_trans eL l9.1)
      · exact Nat.ne_of_gt eL
      · exact hLa
      · exact hLe
      · exact hLr p hp
    · intro F10 N10
      refine ret _ am vm3 va3 nm3 na3 _ _ F10 (fun p hp => N10 p ?_) er (by rename (_ ∧ _ ∧ _ ∧ _) => l9; exact l9.1) ea ?_ ?_
      · simp only [List.mem_cons] at hp ⊢
        rcases hp with h | h | h | h <;> simp [h]
      · rw [hst] at hm3; exact hm3
      · rw [hst] at ha3; exact ha3
  | succ j =>
    rw [ht, decide_eq_true (by lia), if_pos rfl]
    rw [List.take_add_one, List.getElem?_eq_getElem (by lia)] at hE3
    obtain ⟨vE4, t4, rfl, hE4⟩ := are_snoc hE3
    have offE : ∀ p ∈ rest ++ [(L, ({ oL with slots := sl3 } : Obj))], p.1 ≠ ae := by
      intro p hp
      rcases List.mem_append.mp hp with hp | hp
      · exact hre p hp
      · rw [List.mem_singleton.mp hp]; exact hLe.symm
    have offA : ∀ o, ∀ p ∈ (ae, o) :: (rest ++ [(L, ({ oL with slots := sl3 } : Obj))]), p.1 ≠ aa := by
      intro o p hp
      rcases List.mem_cons.mp hp with rfl | hp
      · exact hne.symm
      rcases List.mem_append.mp hp with hp | hp
      · exact hra p hp
      · rw [List.mem_singleton.mp hp]; exact hLa.symm
    tb_rel
    try dsimp only
    refine pop_L (by k_asm) (by k_asm) (.tail (Nat.ne_of_gt ee) (.tail hne (.head offE))) (by rw [hE4.len, List.length_take]; lia) ?_
    intro h5 F5 N5
    try dsimp only
    tb_rel
    refine wpAny_Try_except ?_
    tb_rel
    have hfold : (es.drop j).reverse.foldl uldStep ([], as) = uldStep st3 es[j] := by
      rw [List.drop_eq_getElem_cons (by lia), List.reverse_cons, List.foldl_append, ← hst]; rfl
    by_cases hmem : es[j] ∈ st3.2
    · have hstep : uldStep st3 es[j] = (st3.1, st3.2.erase es[j]) := if_pos hmem
      refine remove_L (by k_asm) (by k_asm) ha3 hmem (fun zs => .tail (Nat.ne_of_gt ea) (.head (offA _))) (by lia) ?_
      intro zs6 h6 F6 N6 hA6
      try dsimp only
      tb_rel
      rename Fr h₀ L1 _ _ => F7
      refine ⟨_, _, _, _, j, rfl, F7, by k_asm, Nat.lt_succ_self j, by exact k1, by exact k2, by exact k3, by lia, _, _, _, _, _, _, _, _, Fs3, hE4, hfold.symm, ?_, ?_, ?_, ?_⟩
      · rw [hstep]; exact hm3
      · rw [hstep]; exact hA6
      · rw [hstep]; dsimp only; lia
      · rw [hstep]; dsimp only; rw [List.length_erase_of_mem hmem]; lia
    · have hstep : uldStep st3 es[j] = (st3.1 ++ [es[j]], st3.2) := if_neg hmem
      refine remove_none_L rfl (by k_asm) (by k_mem) ha3 hmem ?_
      intro h6 tk6 e6 X6
      try dsimp only
      rename News h₀ L1 _ ((am, _) :: (aa, _) :: (ae, _) :: _) => N7
      rename Fr h₀ L1 _ _ => F7
      refine TLg.noted_new1 (new := (am, listOf (List.toArray vm3) nm3) :: (aa, listOf (List.toArray va3) na3) :: (ae, listOf (List.toArray vE4) (nE3 + 1)) :: rest) (by rfl) Fs3 X6 F7 N7 ?_ ?_
      · refine allNe_mem fun p hp => ?_
        simp only [List.mem_cons] at hp
        rcases hp with rfl | rfl | rfl | hp
        · exact Nat.ne_of_gt eL
        · exact hLa
        · exact hLe
        · exact hLr p hp
      intro h8 sl8 Fs8 H8
      try dsimp only
      refine TT.HeldNA.land H8 ?_
      intro h9 H9
      try dsimp only
      have F9 := H9.held.fr
      refine clause_hitW (T := "ValueError") H9 ?_ ?_
      · intro Q' E' hq
        k_with_none
        k_with "WhileStep2 brk" => dsimp only [WhileStep2]
        k_with "binaryOp Add str str" => ((refine PyProof.Rows.add_str ?_ (hsz := by ktn_open)); intro _ _)
        k_with "subscriptTail Name Slice str ref" => ((with_reducible show wpAny _ _ (subscriptTail _ (Expr.Slice none (some _) none _) _ _) _ _ _); (refine slice_strN_ns (hsz := by ktn_open) (s := ⟨_, _, _, _, _⟩) (by k_asm) (by k_asm) ?_); intro _ _ _ _ _)
        k_with "subscriptTail Name Slice str ref" => ((with_reducible show wpAny _ _ (subscriptTail _ (Expr.Slice (some _) none none _) _ _) _ _ _); (refine slice_strN_sn (hsz := by ktn_open) (s := ⟨_, _, _, _, _⟩) (by k_asm) (by k_asm) ?_); intro _ _ _ _ _)
        k_with "call builtin:len" => ((with_reducible show wpAny _ _ (call (Value.builtin "len") [Value.str (S _) _]) _ _ _); refine lenS (by ktn_open) ?_)
        k_with "eval ListComp" => (k_here; (with_reducible show wpAny _ _ (eval (Expr.ListComp _ [⟨_, _, [], _⟩] _ _) _) _ _ _); k_dflt (refine LCg.ListComp_U (F₀ := by k_asm) (by with_unfolding_all rfl) (by decide) (by rfl) (by decide) (by rfl) ?_))
        k_with "eval ListComp" => (k_here; (with_reducible show wpAny _ _ (eval (Expr.ListComp _ [⟨_, _, [_], _⟩] _ _) _) _ _ _); k_dflt (refine LCt.ListComp_T (F₀ := by k_asm) (by with_unfolding_all rfl) (by decide) (by rfl) (by decide) (by rfl) ?_))
        k_with "exec Assign cons ListComp" => (k_here; k_dflt (refine LCg.Assign_ListComp_U (F₀ := by k_asm) (by rfl) (by with_unfolding_all rfl) (by with_unfolding_all rfl) (by decide) (by rfl) (by decide) (by rfl) (by rfl) (by rfl) ?_))
        k_with "getMethod ref" => k_dflt (first | refine meth_L PySem.F.slot_list_count PySem.F.type_list_count (by k_asm) (by k_mem) ?_ | refine meth_L PySem.F.slot_list_append PySem.F.type_list_append (by k_asm) (by k_mem) ?_ | refine meth_L PySem.F.slot_list_pop PySem.F.type_list_pop (by k_asm) (by k_mem) ?_ | refine meth_L PySem.F.slot_list_remove PySem.F.type_list_remove (by k_asm) (by k_mem) ?_ | refine meth_L PySem.F.slot_list_extend PySem.F.type_list_extend (by k_asm) (by k_mem) ?_)
        k_with "stop" => with_reducible first | show wpAny _ _ (PySem.call (Value.ref _) _ _) _ _ _ | show wpAny _ _ (exec (Stmt.While _ _ _ _) _) _ _ _ | show wpAny _ _ (exec (Stmt.For _ _ _ _ _) _) _ _ _ | show wpAny _ _ (exec (Stmt.Try _ _ _ _ _) _) _ _ _ | show wpAny _ _ (pyIter _) _ _ _ | show wpAny _ _ (binaryOp Operator.Mult (Value.ref _) (Value.int _ _)) _ _ _ | show LCg.CompSrc _ _ _ _ _ _ _ _ _ _ _ _ _ _ | show wpAny _ _ (binaryOp Operator.Add (Value.ref _) (Value.ref _)) _ _ _ | show wpAny _ _ (PySem.call (Value.builtin "sorted") _ _) _ _ _ | show wpAny _ _ (PySem.call (Value.builtin "list.count") _ _) _ _ _ | show wpAny _ _ (PySem.call (Value.builtin "list.extend") _ _) _ _ _ | show wpAny _ _ (PySem.call (Value.builtin "list.append") _ _) _ _ _ | show wpAny _ _ (PySem.call (Value.builtin "len") [Value.ref _] _) _ _ _ | show wpAny _ _ (subscriptTail _ _ (Value.ref _) _) _ _ _ | show LCt.CompSrcT _ _ _ _ _ _ _ _ _ _ _ _ _ _ _ | show Exists _ | show wpAny _ _ (compareOp CmpOp.NotEq (Value.ref _) (Value.ref _)) _ _ _ | show wpAny _ _ (compareOp CmpOp.Eq (Value.ref _) (Value.ref _)) _ _ _
        tb_rel
        exact hq
      intro h10 F10 N10
      try dsimp only
      have Fs10 : TI.Frs _ [(L, ({ oL with slots := sl8 } : Obj))] := Fs8
      replace N10 : News h₀ L1 h10 ((am, listOf (List.toArray vm3) nm3) :: (aa, listOf (List.toArray va3) na3) :: (ae, listOf (List.toArray vE4) (nE3 + 1)) :: (rest ++ [(L, ({ oL with slots := sl8 } : Obj))])) := N10
      clear H9 H8 Fs8 X6 F9 F7 N7
      k_with "eval Name" => (k_here; k_dflt (refine ld (by k_asm) (by assumption) ?_); k_whole)
      tb_rel
      try dsimp only
      refine append_L (s := ⟨_, _, _, _, _⟩) F10 N10 (.head ?_) (by rw [hm3.len]; lia) ?_
      · intro p hp
        simp only [List.mem_cons, List.mem_append, List.not_mem_nil, or_false] at hp
        rcases hp with rfl | rfl | hp | rfl
        · exact Nat.ne_of_lt ea
        · exact Nat.ne_of_lt ee
        · exact Nat.ne_of_lt (er p hp)
        · exact Nat.ne_of_lt eL
      intro h11 F11 N11
      try dsimp only
      tb_rel
      refine ⟨_, _, _, _, j, rfl, F11, N11, Nat.lt_succ_self j, by exact k1, by exact k2, by exact k3, by lia, _, _, _, _, _, _, _, _, Fs10, hE4, hfold.symm, ?_, ?_, ?_, ?_⟩
      · rw [hstep]; exact lst_append hm3 (.cons _ _ .nil)
      · rw [hstep]; exact ha3
      · rw [hstep]; simp only [List.length_append, List.length_cons, List.length_nil]; lia
      · rw [hstep]; exact hla
theorem off_D1 : True := by
  w_top off
  trivial
section
variable {prog : Program} {w : World} {A₀ : Around} {E : Value → Shared → Prop} {s' : Shared} {h₀ h : Heap} {L L' a e : Addr} {m : Str → Option Value} {oL : Obj} {news new : List (Addr × Obj)} {name : Str} {scope : Scope} {cd : Value} {env0 : Env}
  {b₀ : Stmt} {suite : List Stmt} {pos : Pos} {rest : List ExceptHandler} {Q : Flow → Shared → Prop} {X T : String} {t : Expr}
/-- an exception just raised, and the clause that takes it -/
theorem caughtW (hfr : A₀.frames = some [env0]) (Fs : TI.Frs [env0] [(L, oL)]) (hx : Heap.NewExc h s'.heap e X) (F : Fr h₀ L' h m) (N : News h₀ L' h (new ++ [(L, oL)])) (hne : TLg.AllNe L new)
    (ev : ∀ h' (Q' E' : Value → Shared → Prop), Fr h₀ L' h' m → Q' (.type T) { s' with heap := h' } → wpAny (model prog w) ((A₀.deeper (envOf name scope L' a cd)).mark (some (.ref e))) (eval t (envOf name scope L' a cd)) Q' E' { s' with heap := h' })
    (k : ∀ h' sl, TI.Frs [env0] [(L, { oL with slots := sl })] → Fr h₀ L' h' m → News h₀ L' h' (new ++ [(L, { oL with slots := sl })]) →
      wpAny (model prog w) ((A₀.deeper (envOf name scope L' a cd)).mark (some (.ref e))) (execs (b₀ :: suite) (envOf name scope L' a cd)) Q E { s' with heap := h' })
    (hE : PassesOwnAt (model prog w) ((A₀.deeper (envOf name scope L' a cd)).mark (some (.ref e))) (A₀.deeper (envOf name scope L' a cd)) (envOf name scope L' a cd) E)
    (h3 : subB X (.type T) = some true := by decide +kernel) (h1 : subB T (.type "BaseException") = some true := by decide +kernel)
    (h2 : subB ((Manifest.find? T).elim "type" fun y => y.metatype) (.type "tuple") = some false := by decide +kernel) (hk : scope.kind = .function := by rfl) :
    wpAny (model prog w) (A₀.deeper (envOf name scope L' a cd)) (noteFrame (.ref e) (envOf name scope L' a cd)) (fun _ s₂ => wpAny (model prog w) (A₀.deeper (envOf name scope L' a cd)) (setFlight (.ref e) none)
      (fun _ s₃ => wpAny (model prog w) (A₀.deeper (envOf name scope L' a cd)) (handleBy (.ref e) (envOf name scope L' a cd) (.ExceptHandler (some t) none (b₀ :: suite) pos :: rest)) Q E s₃) E s₂) E s' := by
  refine TLg.noted_new1 (new := new) hfr Fs hx F N hne (fun h8 sl8 Fs8 H8 => ?_) hk
  refine TT.HeldNA.land H8 fun h9 H9 => ?_
  refine clause_hitW (T := T) H9 (fun Q' E' hq => ev h9 Q' E' H9.held.fr hq) (fun h10 F10 N10 => k h10 sl8 Fs8 F10 N10) h3 h1 h2 hE
end
section
variable {prog : Program} {w : World} {A : Around} {E : Value → Shared → Prop} {s : Shared} {h₀ : Heap} {L a b : Addr} {m : Str → Option Value} {news : List (Addr × Obj)} {vs ws : List Value} {n k : Nat} {Q : Value → Shared → Prop}
theorem extend_L {news' : Nat → List (Addr × Obj)} (F : Fr h₀ L s.heap m) (N : News h₀ L s.heap news) (hb : (b, listOf (List.toArray ws) k) ∈ news) (U : ∀ n', Upd a (listOf (List.toArray vs) n) (listOf (List.toArray (vs ++ ws)) n') news (news' n')) (hz : vs.length + ws.length ≤ 100000)
    (h : ∀ n' h', Fr h₀ L h' m → News h₀ L h' (news' n') → Q .none { s with heap := h' }) : wpAny (model prog w) A (call (.builtin "list.extend") [.ref a, .ref b]) Q E s := by
  have hd : ¬(!vs.toArray.isEmpty && Builtin.List.listTooLong (vs.toArray.size + ws.toArray.size)) = true := extend_door (by rw [List.size_toArray, List.size_toArray, sizeLine_eq]; lia)
  cases ws with
  | nil => exact kxn_extend F N hb rfl (by simpa using U n) hd (by rw [sizeLine_eq]; simp at hz ⊢; lia) (by rw [sizeLine_eq]; simp at hz ⊢; lia) (fun h' => h n h')
  | cons v ws => exact kl_extend F N hb rfl (by simp) (U (n + 1)) hd (by rw [sizeLine_eq]; simp at hz ⊢; lia) (by rw [sizeLine_eq]; simp at hz ⊢; lia) (fun h' => h (n + 1) h')
end
section
variable {prog : Program} {w : World} {A : Around} {E : Value → Shared → Prop} {s : Shared} {h₀ : Heap} {L a : Addr} {news : List (Addr × Obj)} {vs : List Value} {xs : List (List Nat)} {n : Nat} {value slice : PySem.Expr} {Q : Value → Shared → Prop}
theorem item_out_L {i : Int} {u : Tok} (k : Nat) (hh : A.handled = none) (N : News h₀ L s.heap news) (ha : (a, listOf (List.toArray vs) n) ∈ news) (hA : Are vs xs) (hi : i = (k : Int)) (hk : xs.length ≤ k) (hz : k ≤ 100000)
    (hE : ∀ h' tk e, Heap.NewExc s.heap h' e "IndexError" → E (.ref e) { s with heap := h', toks := tk })
    (hs : subscripted slice false (.ref a) (.int i u) = operate [.ref a, .int i u] (getItem (.ref a) (.int i u)) := by with_unfolding_all rfl) :
    wpAny (model prog w) A (subscriptTail value slice (.ref a) (.int i u)) Q E s := by
  subst hi
  exact item_outK (items := vs.toArray) hh ⟨_, N.get ha, rfl, _, rfl⟩ (.inr (by rw [List.size_toArray, hA.len]; lia)) (by lia) (by lia) hE hs
end
/-- what is raised below is put into a form of one's own -/
theorem with_E {α : Type} {M : Model} {A : Around} {t : Sem α} {Q : α → Shared → Prop} {Eb : Value → Shared → Prop} {s : Shared} (Ex : Value → Shared → Prop) (key : ∀ e s, Ex e s → Eb e s) (h : (∀ e s, Ex e s → Eb e s) → wpAny M A t Q Eb s) : wpAny M A t Q Eb s := h key
/-- sorted_list_difference on what is left of both lists -/
def sldP : Nat → List (List Nat) → List (List Nat) → List (List Nat) × List (List Nat)
  | 0, es, as => (es, as)
  | _ + 1, [], as => ([], as)
  | _ + 1, es, [] => (es, [])
  | n + 1, e :: es, a :: as =>
    if ltW e a = true then let r := sldP n (es.dropWhile (· == e)) (a :: as); (e :: r.1, r.2)
    else if ltW a e = true then let r := sldP n (e :: es) (as.dropWhile (· == a)); (r.1, a :: r.2)
    else sldP n (es.dropWhile (· == e)) (as.dropWhile (· == a))
theorem sldP_end (n : Nat) (es as : List (List Nat)) (h : es = [] ∨ as = []) : sldP n es as = (es, as) := by
  cases n with
  | zero => rfl
  | succ n =>
    rcases h with rfl | rfl
    · rfl
    · cases es <;> rfl
def sld (es as : List (List Nat)) : List (List Nat) × List (List Nat) := sldP (es.length + as.length + 1) es as
/-- an index out of its list, raised just now, where sorted_list_difference's handler begins -/
inductive XSld (s : Shared) (h₀ : Heap) (L1 L : Addr) (fe : List Env) (oL : Obj) (ae aa am au : Addr) (es as : List (List Nat)) (news : List (Addr × Obj)) : Value → Shared → Prop
  | mk (m : Str → Option Value) (h h' : Heap) (tk : Nat) (e : Addr) (X : Heap.NewExc h h' e "IndexError") (F : Fr h₀ L1 h m) (k1 : m (Str.ofString "expected") = some (.ref ae)) (k2 : m (Str.ofString "actual") = some (.ref aa)) (k3 : m (Str.ofString "missing") = some (.ref am)) (k4 : m (Str.ofString "unexpected") = some (.ref au))
    (i : Nat) (j : Nat) (ti : Tok) (tj : Tok) (k5 : m (Str.ofString "i") = some (.int (i : Int) ti)) (k6 : m (Str.ofString "j") = some (.int (j : Int) tj)) (hi : i ≤ es.length) (hj : j ≤ as.length)
    (vm : List Value) (nm : Nat) (vu : List Value) (nu : Nat) (sl : Array (Option Value)) (M U : List (List Nat)) (N : News h₀ L1 h ((au, listOf (List.toArray vu) nu) :: (am, listOf (List.toArray vm) nm) :: (news ++ [(L, { oL with slots := sl })]))) (Fs : TI.Frs fe [(L, { oL with slots := sl })])
    (hM : Are vm M) (hU : Are vu U) (hlM : M.length ≤ i) (hlU : U.length ≤ j) (htot : sld es as = (M ++ es.drop i, U ++ as.drop j)) : XSld s h₀ L1 L fe oL ae aa am au es as news (.ref e) { s with heap := h', toks := tk }
/-- between the turns of a loop that passes over equal words of the one list (its place: the name x) -/
inductive JSkip (x y : Str) (ae aa am au : Addr) (xs : List (List Nat)) (e a : List Nat) (te ta : Tok) (other : Nat) (to : Tok) (i0 : Nat) (nw0 : List (Addr × Obj)) (k : Nat) (m : Str → Option Value) : List (Addr × Obj) → Prop
  | mk (q1 : m (Str.ofString "expected") = some (.ref ae)) (q2 : m (Str.ofString "actual") = some (.ref aa)) (q3 : m (Str.ofString "missing") = some (.ref am)) (q4 : m (Str.ofString "unexpected") = some (.ref au))
    (q5 : m (Str.ofString "e") = some (.str (S e) te)) (q6 : m (Str.ofString "a") = some (.str (S a) ta)) (q7 : m y = some (.int (other : Int) to)) (i : Nat) (ti : Tok) (q8 : m x = some (.int (i : Int) ti)) (h1 : i0 ≤ i) (h2 : i ≤ xs.length) (h3 : xs.length - i < k)
    (hd : (xs.drop i0).dropWhile (· == (if x = Str.ofString "i" then e else a)) = (xs.drop i).dropWhile (· == (if x = Str.ofString "i" then e else a))) : JSkip x y ae aa am au xs e a te ta other to i0 nw0 k m nw0
theorem drop_at {xs : List (List Nat)} {i : Nat} (h : i < xs.length) : xs.drop i = xs.getD i [] :: xs.drop (i + 1) := by
  rw [List.drop_eq_getElem_cons h]; simp [h]
theorem skip_hit {xs : List (List Nat)} {i : Nat} {e : List Nat} (h : i < xs.length) (he : (S (xs.getD i []) == S e) = true) : (xs.drop i).dropWhile (· == e) = (xs.drop (i + 1)).dropWhile (· == e) := by
  rw [drop_at h, List.dropWhile_cons, if_pos (by rwa [S_beq] at he)]
theorem skip_miss {xs : List (List Nat)} {i : Nat} {e : List Nat} (h : i < xs.length) (he : (S (xs.getD i []) == S e) = false) : (xs.drop i).dropWhile (· == e) = xs.drop i := by
  rw [drop_at h, List.dropWhile_cons, if_neg (by rw [S_beq] at he; rw [he]; decide)]
section
variable {es as : List (List Nat)} {i j : Nat} (n : Nat) (hi : i < es.length) (hj : j < as.length)
include hi hj
theorem sldP_lt (h : es.getD i [] < as.getD j []) : sldP (n + 1) (es.drop i) (as.drop j) = (es.getD i [] :: (sldP n ((es.drop (i + 1)).dropWhile (· == es.getD i [])) (as.drop j)).1, (sldP n ((es.drop (i + 1)).dropWhile (· == es.getD i [])) (as.drop j)).2) := by
  rw [drop_at hi, drop_at hj, sldP, if_pos ((ltW_iff _ _).mpr h)]
theorem sldP_gt (h : ¬ es.getD i [] < as.getD j []) (h2 : as.getD j [] < es.getD i []) : sldP (n + 1) (es.drop i) (as.drop j) = ((sldP n (es.drop i) ((as.drop (j + 1)).dropWhile (· == as.getD j []))).1, as.getD j [] :: (sldP n (es.drop i) ((as.drop (j + 1)).dropWhile (· == as.getD j []))).2) := by
  rw [drop_at hi, drop_at hj, sldP, if_neg (fun q => h ((ltW_iff _ _).mp q)), if_pos ((ltW_iff _ _).mpr h2)]
theorem sldP_eq (h : ¬ es.getD i [] < as.getD j []) (h2 : ¬ as.getD j [] < es.getD i []) : sldP (n + 1) (es.drop i) (as.drop j) = sldP n ((es.drop (i + 1)).dropWhile (· == es.getD i [])) ((as.drop (j + 1)).dropWhile (· == as.getD j [])) := by
  rw [drop_at hi, drop_at hj, sldP, if_neg (fun q => h ((ltW_iff _ _).mp q)), if_neg (fun q => h2 ((ltW_iff _ _).mp q))]
end
theorem off_D3 : True := by
  w_top off
  trivial
/-- an exception with its traceback's head, both written in the ledger -/
structure XL (h₀ h : Heap) (L' : Addr) (m : Str → Option Value) (e T : Addr) (ob otb : Obj) (vs ts : Array Value) (X : String) (c fl : Value) (lst : List (Addr × Obj)) : Prop where
  fr : Fr h₀ L' h m
  nw : News h₀ L' h ((e, ob) :: (T, otb) :: lst)
  cls : ob.cls = .type X
  dat : ob.data = .fields vs
  v1 : vs[1]? = some (.ref T)
  v2 : vs[2]? = some c
  tdat : otb.data = .fields ts
  t3 : ts[3]? = some fl
  ne : T ≠ e
  offT : ∀ p ∈ lst, p.1 ≠ T
  offE : ∀ p ∈ lst, p.1 ≠ e
theorem XL.held {h₀ h : Heap} {L' : Addr} {m : Str → Option Value} {e T : Addr} {ob otb : Obj} {vs ts : Array Value} {X : String} {c fl : Value} {lst : List (Addr × Obj)} (x : XL h₀ h L' m e T ob otb vs ts X c fl lst) : TT.HeldNA h₀ L' h m e X lst fl := by
  have he := x.nw (e, ob) (.head _)
  have hT := x.nw (T, otb) (.tail _ (.head _))
  refine ⟨⟨x.fr, ⟨ob, vs, T, otb, ts, he.1, x.cls, x.dat, x.v1, hT.1, x.tdat, x.t3, hT.2.1, x.ne, hT.2.2⟩, he.2.2⟩, fun p hp => x.nw p (.tail _ (.tail _ hp)), ?_⟩
  intro ob' ws tb e1 e2 e3 p hp q
  have h1 : ob = ob' := Option.some.inj (he.1.symm.trans e1)
  subst h1
  rw [x.dat] at e2
  injection e2 with e2
  subst e2
  rw [x.v1] at e3
  injection e3 with e3
  injection e3 with e3
  subst e3
  exact x.offT p hp q
section
variable {prog : Program} {w : World} {A : Around} {E : Value → Shared → Prop} {s' : Shared} {h₀ h : Heap} {L L' a e : Addr} {m : Str → Option Value} {oL ob : Obj} {vs : Array Value} {c : Value} {new : List (Addr × Obj)} {name : Str} {scope : Scope} {cd : Value} {env0 : Env} {X : String} {Q : Unit → Shared → Prop}
theorem notedX (hfr : A.frames = some [envOf name scope L' a cd, env0]) (Fs : TI.Frs [env0] [(L, oL)]) (F : Fr h₀ L' s'.heap m) (N : News h₀ L' s'.heap ((e, ob) :: (new ++ [(L, oL)]))) (hne : TLg.AllNe L new) (hee : ∀ p ∈ new ++ [(L, oL)], p.1 ≠ e)
    (hc : ob.cls = .type X) (hd : ob.data = .fields vs) (hsz : 1 < vs.size) (h1 : vs[1]? = some .none) (h2 : vs[2]? = some c)
    (k : ∀ h' sl T ob' otb vs' ts, TI.Frs [env0] [(L, { oL with slots := sl })] → XL h₀ h' L' m e T ob' otb vs' ts X c (rawInt L') (new ++ [(L, { oL with slots := sl })]) → Q () { s' with heap := h' }) (hk : scope.kind = .function := by rfl) :
    wpAny (model prog w) A (noteFrame (.ref e) (envOf name scope L' a cd)) Q E s' := by
  have he := N (e, ob) (.head _)
  have hLm : (L, oL) ∈ new ++ [(L, oL)] := List.mem_append_right _ (.head _)
  have hL := N (L, oL) (.tail _ hLm)
  have hL'0 : h₀.get? L' = none := Heap.get?_none_of_le F.above
  obtain ⟨hff, hNs, _, _, _⟩ := TI.frames_at (name := name) (a := a) (cd := cd) (h' := s'.heap) (base := h₀) hk Fs F N (fun p hp => .tail _ (List.mem_append_right _ hp)) (fun b o hb => ⟨o.slots, hb⟩) (fun b hm => by
    rcases List.mem_cons.mp hm with rfl | hm
    · exact hL'0
    · rw [List.mem_singleton.mp hm]; exact hL.2.2)
  have hfs : (envOf name scope L' a cd :: [env0]).filterMap (·.frame) = [L', L] := TI.frames_are Fs
  unfold noteFrame
  simp only [show (envOf name scope L' a cd).frame = some L' from rfl]
  refine wpAny_bind (wpAny_field he.1 hd h1 ?_)
  rw [if_neg (by decide)]
  refine wpAny_bind (wpAny_frameOf_fun hfr hff rfl fun h₁ hs₁ => ?_)
  rw [hfs] at hs₁
  refine wpAny_bind (wpAny_entryPlaceOf fun pl hpl => ?_)
  unfold EntryCells.newEntry newFields
  refine wpAny_bind (wpAny_newObj_type ?_ (hpl.sizeOk5 _ _ _ _ _))
  have off2 : ∀ b, b ≠ L' → b ≠ L → b ∉ [L', L] := fun b x y hm => by
    rcases List.mem_cons.mp hm with q | hm
    · exact x q
    · exact y (List.mem_singleton.mp hm)
  have heL : e ≠ L := (hee _ hLm).symm
  have he₁ : h₁.get? e = some ob := (hs₁.2.1 e (off2 e he.2.1 heL)).trans he.1
  obtain ⟨sl, hLs⟩ := hs₁.2.2 L oL hL.1
  have kb : ∀ b o, h₀.get? b = some o → h₁.get? b = some o := fun b o hb => (hs₁.2.1 b (off2 b (fun q => by rw [q, hL'0] at hb; cases hb) (fun q => by rw [q, hL.2.2] at hb; cases hb))).trans (F.keep b o hb)
  refine wpAny_setField (Heap.get?_push_of_some _ he₁) hd hsz ?_
  have hTe : h₁.objs.size ≠ e := Nat.ne_of_gt (Heap.lt_size he₁)
  have hd₃ := Obj.data_mapFields hd (·.setIfInBounds 1 (Value.ref h₁.objs.size))
  have lt₁ : ∀ b o, s'.heap.get? b = some o → b < h₁.objs.size := fun b o hb => by
    obtain ⟨sl', hb'⟩ := hs₁.2.2 b o hb
    exact Heap.lt_size hb'
  have keep : ∀ b o tbo, b ≠ e → h₁.get? b = some o → ((h₁.push tbo).update e (Obj.mapFields (·.setIfInBounds 1 (Value.ref h₁.objs.size)))).get? b = some o := fun b o tbo hbe hb => by
    rw [Heap.get?_update_other _ _ (Ne.symm hbe)]
    exact Heap.get?_push_of_some _ hb
  obtain ⟨oF, esF, epF, hF, rF⟩ := F.ns
  obtain ⟨slF, hFs⟩ := hs₁.2.2 L' oF hF
  have hLe : L' ≠ e := Ne.symm he.2.1
  refine k _ sl h₁.objs.size (Obj.mapFields (·.setIfInBounds 1 (Value.ref h₁.objs.size)) ob) { cls := .type "traceback", data := .fields (([Value.none, Value.ref L', Value.none, rawInt L', Value.none] ++ (if pl.isEmpty then List.replicate 6 Value.none else pl)).toArray) } (vs.setIfInBounds 1 (.ref h₁.objs.size)) (([Value.none, Value.ref L', Value.none, rawInt L', Value.none] ++ (if pl.isEmpty then List.replicate 6 Value.none else pl)).toArray) ?_ ⟨⟨⟨_, esF, epF, keep L' _ _ hLe hFs, rF⟩, fun b o hb => keep b o _ (fun q => by rw [q, he.2.2] at hb; cases hb) (kb b o hb), F.above⟩, ?_, ?_, hd₃, by simp [hsz], by rw [Array.getElem?_setIfInBounds_ne (by decide)]; exact h2, ?_, ?_, hTe, ?_, ?_⟩
  · obtain ⟨f1, f2, f3, _⟩ := Fs
    exact ⟨f1, f2, f3, trivial⟩
  · intro p hp
    rcases List.mem_cons.mp hp with rfl | hp
    · exact ⟨Heap.get?_update_self _ (Heap.get?_push_of_some _ he₁) (Obj.isFreed_of_fields hd₃), he.2⟩
    rcases List.mem_cons.mp hp with rfl | hp
    · exact ⟨(Heap.get?_update_other _ _ (Ne.symm hTe)).trans (Heap.get?_push_size h₁ rfl), Nat.ne_of_gt (lt₁ _ _ hF), by
        cases hq : h₀.get? h₁.objs.size with
        | none => rfl
        | some o => exact absurd (Heap.lt_size (kb _ _ hq)) (Nat.lt_irrefl _)⟩
    rcases List.mem_append.mp hp with hp | hp
    · have z := N p (.tail _ (List.mem_append_left _ hp))
      exact ⟨keep p.1 p.2 _ (hee p (List.mem_append_left _ hp)) ((hs₁.2.1 p.1 (off2 p.1 z.2.1 (hne.mem p hp))).trans z.1), z.2⟩
    · rw [List.mem_singleton.mp hp]
      exact ⟨keep L _ _ (Ne.symm heL) hLs, hL.2⟩
  · rw [Obj.cls_mapFields]; exact hc
  · rfl
  · first | (simp; done) | (rcases hpl with rfl | ⟨_, _, _, _, _, _, _, rfl⟩ <;> simp)
  · intro p hp
    rcases List.mem_append.mp hp with hp | hp
    · exact Nat.ne_of_lt (lt₁ _ _ (N p (.tail _ (List.mem_append_left _ hp))).1)
    · rw [List.mem_singleton.mp hp]; exact Nat.ne_of_lt (lt₁ _ _ hL.1)
  · intro p hp
    rcases List.mem_append.mp hp with hp | hp
    · exact hee p (List.mem_append_left _ hp)
    · rw [List.mem_singleton.mp hp]; exact Ne.symm heL
end
section
variable {prog : Program} {w : World} {A : Around} {E : Value → Shared → Prop} {s' : Shared} {h₀ : Heap} {L' a e T : Addr} {m : Str → Option Value} {ob otb : Obj} {vs ts : Array Value} {c fl : Value} {lst : List (Addr × Obj)} {name : Str} {scope : Scope} {cd : Value} {X : String}
theorem XL.flight {Q : Unit → Shared → Prop} (x : XL h₀ s'.heap L' m e T ob otb vs ts X c fl lst) (fr : Option Addr) (k : ∀ h' otb' ts', XL h₀ h' L' m e T ob otb' vs ts' X c (fr.elim .none fun f => rawInt f) lst → Q () { s' with heap := h' }) :
    wpAny (model prog w) A (setFlight (.ref e) fr) Q E s' := by
  have he := x.nw (e, ob) (.head _)
  have hT := x.nw (T, otb) (.tail _ (.head _))
  have hsz : 3 < ts.size := (Array.getElem?_eq_some_iff.mp x.t3).1
  unfold setFlight
  refine wpAny_bind (wpAny_field he.1 x.dat x.v1 ?_)
  rw [if_pos (show (Value.ref T != Value.none) = true from by simp)]
  refine wpAny_setField hT.1 x.tdat hsz ?_
  have hd₃ := Obj.data_mapFields x.tdat (·.setIfInBounds 3 (fr.elim Value.none fun f => rawInt f))
  refine k _ _ _ ⟨x.fr.change (Heap.SameBut.update ..) hT.2.1 hT.2.2, fun p hp => ?_, x.cls, x.dat, x.v1, x.v2, hd₃, by simp [Array.getElem?_setIfInBounds, hsz], x.ne, x.offT, x.offE⟩
  rcases List.mem_cons.mp hp with rfl | hp
  · exact ⟨(Heap.get?_update_other _ _ x.ne).trans he.1, he.2⟩
  rcases List.mem_cons.mp hp with rfl | hp
  · exact ⟨Heap.get?_update_self _ hT.1 (Obj.isFreed_of_fields hd₃), hT.2⟩
  · have z := x.nw p (.tail _ (.tail _ hp))
    exact ⟨(Heap.get?_update_other _ _ (Ne.symm (x.offT p hp))).trans z.1, z.2⟩
theorem XL.again {Q : Unit → Shared → Prop} (x : XL h₀ s'.heap L' m e T ob otb vs ts X c (rawInt L') lst) (k : Q () s') :
    wpAny (model prog w) A (noteFrame (.ref e) (envOf name scope L' a cd)) Q E s' :=
  wpAny_noteFrame_inFlight (L := L') rfl (x.nw (e, ob) (.head _)).1 x.dat x.v1 (x.nw (T, otb) (.tail _ (.head _))).1 x.tdat x.t3 k
theorem XL.passOn {α : Type} {what : String} {Q : α → Shared → Prop} (x : XL h₀ s'.heap L' m e T ob otb vs ts X c fl lst)
    (k : ∀ h' otb' ts', XL h₀ h' L' m e T ob otb' vs ts' X c (rawInt L') lst → E (.ref e) { s' with heap := h' }) : wpAny (model prog w) A (PySem.passOn what (.ref e) (envOf name scope L' a cd) : Sem α) Q E s' := by
  unfold PySem.passOn
  refine wpAny_bind (wpAny_field (x.nw (e, ob) (.head _)).1 x.dat x.v1 ?_)
  rw [if_neg (show ¬ (Value.ref T == Value.none) = true from by simp)]
  first
    | exact wpAny_bind (x.flight (some L') fun h' otb' ts' x' => wpAny_throw (k h' otb' ts' x'))
    | exact wpAny_bind (wpAny_pure (wpAny_bind (x.flight (some L') fun h' otb' ts' x' => wpAny_throw (k h' otb' ts' x'))))
theorem XL.cameBack (x : XL h₀ s'.heap L' m e T ob otb vs ts X c fl lst)
    (k : ∀ h' otb' ts', XL h₀ h' L' m e T ob otb' vs ts' X c (rawInt L') lst → E (.ref e) { s' with heap := h' }) : cameBackBy (model prog w) A (envOf name scope L' a cd) E (.ref e) s' := by
  unfold cameBackBy
  refine wpAny_bind (wpAny_field (x.nw (e, ob) (.head _)).1 x.dat x.v1 ?_)
  rw [if_neg (show ¬ (Value.ref T == Value.none) = true from by simp)]
  first
    | exact x.flight (some L') fun h' otb' ts' x' => k h' otb' ts' x'
    | exact wpAny_bind (wpAny_pure (x.flight (some L') fun h' otb' ts' x' => k h' otb' ts' x'))
/-- an exception in flight in this frame, and the clause that takes it -/
theorem XL.caught {b₀ : Stmt} {suite : List Stmt} {pos : Pos} {rest : List ExceptHandler} {Q : Flow → Shared → Prop} {T' : String} {t : Expr} (x : XL h₀ s'.heap L' m e T ob otb vs ts X c (rawInt L') lst)
    (ev : ∀ h' (Q' E' : Value → Shared → Prop), Fr h₀ L' h' m → Q' (.type T') { s' with heap := h' } → wpAny (model prog w) (A.mark (some (.ref e))) (eval t (envOf name scope L' a cd)) Q' E' { s' with heap := h' })
    (k : ∀ h', Fr h₀ L' h' m → News h₀ L' h' lst → wpAny (model prog w) (A.mark (some (.ref e))) (execs (b₀ :: suite) (envOf name scope L' a cd)) Q E { s' with heap := h' })
    (hE : PassesOwnAt (model prog w) (A.mark (some (.ref e))) A (envOf name scope L' a cd) E)
    (h3 : subB X (.type T') = some true := by decide +kernel) (h1 : subB T' (.type "BaseException") = some true := by decide +kernel)
    (h2 : subB ((Manifest.find? T').elim "type" fun y => y.metatype) (.type "tuple") = some false := by decide +kernel) :
    wpAny (model prog w) A (noteFrame (.ref e) (envOf name scope L' a cd)) (fun _ s₂ => wpAny (model prog w) A (setFlight (.ref e) none)
      (fun _ s₃ => wpAny (model prog w) A (handleBy (.ref e) (envOf name scope L' a cd) (.ExceptHandler (some t) none (b₀ :: suite) pos :: rest)) Q E s₃) E s₂) E s' := by
  refine x.again ?_
  refine x.flight none fun h9 otb9 ts9 x9 => ?_
  exact clause_hitW (T := T') x9.held (fun Q' E' hq => ev h9 Q' E' x9.fr hq) (fun h10 F10 N10 => k h10 F10 N10) h3 h1 h2 hE
end
theorem off_D4 : True := by
  w_top off
  trivial
theorem entry_unchain : entryFor table "proto.unchain" = some Builtin.«proto.unchain» := entryFor_of_tree (by kernel_rfl)
theorem plain_unchain : plainId "proto.unchain" = true := by decide +kernel
/-- raised while another is being handled, whose own context is empty -/
structure NewC (h h' : Heap) (e e0 : Addr) (X : String) : Prop where
  keeps : ∀ b o, h.get? b = some o → h'.get? b = some o
  new : h.get? e = none
  there : ∃ ob t, h'.get? e = some ob ∧ ob.cls = .type X ∧ ob.data = .fields #[t, .none, .ref e0, .none, .bool false, .none]
section
variable {α : Type} {prog : Program} {w : World} {A : Around} {E : Value → Shared → Prop} {s : Shared} {e0 : Addr} {o0 : Obj} {vs0 : Array Value}
theorem raise_new {a : Addr} {ob : Obj} {t : Value} {Q : α → Shared → Prop} (hh : A.handled = some (.ref e0)) (he0 : s.heap.get? e0 = some o0) (hd0 : o0.data = .fields vs0) (h2 : vs0[2]? = some .none) (ha : s.heap.get? a = some ob) (hd : ob.data = .fields #[t, .none, .none, .none, .bool false, .none]) (hne : e0 ≠ a)
    (h : E (.ref a) { s with heap := s.heap.update a (Obj.mapFields (·.setIfInBounds 2 (.ref e0))) }) : wpAny (model prog w) A (raiseNew (.ref a) : Sem α) Q E s := by
  unfold raiseNew
  refine wpAny_bind (wpAny_handled ?_)
  rw [hh]
  dsimp only
  have hb : (Value.ref e0 != Value.ref a) = true := by simpa using hne
  first
    | refine wpAny_bind ?_
    | skip
  rw [if_pos hb]
  refine wpAny_bind (wpAny_holding (wpAny_runValue (codeAny_builtin entry_unchain ?_)))
  rw [Around.under_plainId plain_unchain _]
  unfold Builtin.«proto.unchain»
  dsimp only
  refine wpAny_bind (wpAny_field he0 hd0 h2 ?_)
  rw [if_pos (by decide)]
  refine wpAny_pure ?_
  refine wpAny_bind ?_
  have := wpAny_setField (M := model prog w) (A := A) (E := E) (s := s) (a := a) (i := 2) (x := .ref e0) (Q := fun _ s₂ => wpAny (model prog w) A (throw (Value.ref a) : Sem α) Q E s₂) ha hd (by show 2 < 6; decide) (wpAny_throw h)
  exact this
theorem raise_words {cls msg : String} {Q : α → Shared → Prop} (hp : PlainExc cls) (hh : A.handled = some (.ref e0)) (he0 : s.heap.get? e0 = some o0) (hd0 : o0.data = .fields vs0) (h2 : vs0[2]? = some .none)
    (h : ∀ h' tk e, NewC s.heap h' e e0 cls → E (.ref e) { s with heap := h', toks := tk }) : wpAny (model prog w) A (raiseErrorWords cls msg : Sem α) Q E s := by
  unfold raiseErrorWords
  refine wpAny_bind (wpAny_mkText (wpAny_bind ?_))
  unfold newExc newTuple
  refine wpAny_bind (wpAny_newObj_type ?_)
  refine wpAny_bind (m := firstArgMember _ _) (wpAny_of_eq (a := Value.none) (by simp only [firstArgMember, hp.first]; rfl) ?_)
  rw [hp.own]
  refine wpAny_newObj_type ?_
  have hlt := Heap.lt_size he0
  refine raise_new hh (Heap.get?_push_of_some _ (Heap.get?_push_of_some _ he0)) hd0 h2 (Heap.get?_push_size _ rfl) rfl (Nat.ne_of_lt (Heap.lt_size (Heap.get?_push_of_some _ he0))) ?_
  refine h _ _ _ ⟨fun b o hb => ?_, Heap.get?_none_of_le (by simp), _, .ref s.heap.objs.size, Heap.get?_update_self _ (Heap.get?_push_size _ rfl) ?_, rfl, ?_⟩
  · rw [Heap.get?_update_other _ _ (Nat.ne_of_gt (Heap.lt_size (Heap.get?_push_of_some _ hb)))]
    exact Heap.get?_push_of_some _ (Heap.get?_push_of_some _ hb)
  · rfl
  · rfl
theorem item_ctx {value slice : PySem.Expr} {l : Addr} {items : Array Value} {k : Int} {t : Tok} {Q : Value → Shared → Prop} (hh : A.handled = some (.ref e0)) (he0 : s.heap.get? e0 = some o0) (hd0 : o0.data = .fields vs0) (h2 : vs0[2]? = some .none) (hl : s.heap.IsList l items) (hout : (items.size : Int) ≤ k) (hlo : -(2 ^ 63) ≤ k) (hhi : k < 2 ^ 63)
    (hE : ∀ h' tk e, NewC s.heap h' e e0 "IndexError" → E (.ref e) { s with heap := h', toks := tk })
    (hs : subscripted slice false (.ref l) (.int k t) = operate [.ref l, .int k t] (getItem (.ref l) (.int k t)) := by with_unfolding_all rfl) :
    wpAny (model prog w) A (subscriptTail value slice (.ref l) (.int k t)) Q E s := by
  refine tail_any hl.typeIs slot_list_getitem.lookup ?_ hs
  obtain ⟨o, ho, hc, ne, hd⟩ := id hl
  unfold getItem
  try with_reducible refine wpAny_holding ?_
  first | refine wpAny_bind (wpAny_pure ?_) | skip
  refine wpAny_bind (wpAny_sequenceKey hl.typeIs (by decide) ?_)
  refine wpAny_bind (wpAny_callSpecial?_slot (name := Str.ofString "__getitem__") hl.typeIs slot_list_getitem
    (wpAny_call_entry slot_list_getitem hl.typeIs entry_list_getitem ?_ (args_list_getitem _ _)))
  show wpAny _ _ (Builtin.List.listSubscript? (.int k t) >>= _) _ _ s
  refine wpAny_bind (wpAny_listSubscript_int (fitsIndex_both hlo hhi) ?_)
  clear hlo hhi
  cases k with
  | ofNat j =>
    have hx : items[j]? = none := Array.getElem?_eq_none (by have : (items.size : Int) ≤ (j : Int) := hout; lia)
    show wpAny _ _ ((seqItemAt l j >>= fun r => pure (r.map (j, ·))) >>= _) _ _ s
    refine wpAny_bind (wpAny_bind (wpAny_seqItemAt ho hd (wpAny_pure ?_)))
    rw [hx]
    first
      | exact wpAny_bind (wpAny_rule (raise_words plainExc_IndexError hh he0 hd0 h2 hE))
      | exact wpAny_bind (wpAny_rule (wpAny_bind (raise_words plainExc_IndexError hh he0 hd0 h2 hE)))
      | exact wpAny_bind (wpAny_bind (wpAny_rule (raise_words plainExc_IndexError hh he0 hd0 h2 hE)))
      | exact wpAny_rule (raise_words plainExc_IndexError hh he0 hd0 h2 hE)
  | negSucc j => exact absurd hout (by have := Int.negSucc_lt_zero j; lia)
end
/-- the same state, the exception in flight in this frame -/
inductive ZSld (s : Shared) (h₀ : Heap) (L1 L : Addr) (fe : List Env) (oL : Obj) (ae aa am au : Addr) (es as : List (List Nat)) (news : List (Addr × Obj)) : Value → Shared → Prop
  | mk (m : Str → Option Value) (h' : Heap) (tk : Nat) (e T : Addr) (ob otb : Obj) (vs ts : Array Value) (c : Value) (k1 : m (Str.ofString "expected") = some (.ref ae)) (k2 : m (Str.ofString "actual") = some (.ref aa)) (k3 : m (Str.ofString "missing") = some (.ref am)) (k4 : m (Str.ofString "unexpected") = some (.ref au))
    (i : Nat) (j : Nat) (ti : Tok) (tj : Tok) (k5 : m (Str.ofString "i") = some (.int (i : Int) ti)) (k6 : m (Str.ofString "j") = some (.int (j : Int) tj)) (hi : i ≤ es.length) (hj : j ≤ as.length)
    (vm : List Value) (nm : Nat) (vu : List Value) (nu : Nat) (sl : Array (Option Value)) (M U : List (List Nat)) (X : XL h₀ h' L1 m e T ob otb vs ts "IndexError" c (rawInt L1) ((au, listOf (List.toArray vu) nu) :: (am, listOf (List.toArray vm) nm) :: (news ++ [(L, { oL with slots := sl })]))) (Fs : TI.Frs fe [(L, { oL with slots := sl })])
    (hM : Are vm M) (hU : Are vu U) (hlM : M.length ≤ i) (hlU : U.length ≤ j) (htot : sld es as = (M ++ es.drop i, U ++ as.drop j)) : ZSld s h₀ L1 L fe oL ae aa am au es as news (.ref e) { s with heap := h', toks := tk }
/-- sorted_list_difference's inner try: the one list has run out, just now -/
inductive ISld (s : Shared) (h₀ : Heap) (L1 : Addr) (ae aa am au : Addr) (es : List (List Nat)) (i0 : Nat) (e a : List Nat) (te ta : Tok) (j : Nat) (tj : Tok) (lst : List (Addr × Obj)) : Value → Shared → Prop
  | mk (m : Str → Option Value) (h h' : Heap) (tk : Nat) (x : Addr) (ti : Tok) (X : Heap.NewExc h h' x "IndexError") (F : Fr h₀ L1 h m) (N : News h₀ L1 h lst)
    (q1 : m (Str.ofString "expected") = some (.ref ae)) (q2 : m (Str.ofString "actual") = some (.ref aa)) (q3 : m (Str.ofString "missing") = some (.ref am)) (q4 : m (Str.ofString "unexpected") = some (.ref au))
    (q5 : m (Str.ofString "e") = some (.str (S e) te)) (q6 : m (Str.ofString "a") = some (.str (S a) ta)) (q7 : m (Str.ofString "j") = some (.int (j : Int) tj)) (q8 : m (Str.ofString "i") = some (.int (es.length : Int) ti)) (hd : (es.drop i0).dropWhile (· == e) = []) : ISld s h₀ L1 ae aa am au es i0 e a te ta j tj lst (.ref x) { s with heap := h', toks := tk }
section
variable {h₀ h h' : Heap} {L e : Addr} {m : Str → Option Value} {news : List (Addr × Obj)} {ob : Obj}
theorem fr_up (F : Fr h₀ L h m) (k : ∀ b o, h.get? b = some o → h'.get? b = some o) : Fr h₀ L h' m :=
  ⟨(let ⟨o, es, ep, e, r⟩ := F.ns; ⟨o, es, ep, k _ _ e, r⟩), fun b o e => k _ _ (F.keep b o e), F.above⟩
theorem nw_up (F : Fr h₀ L h m) (N : News h₀ L h news) (k : ∀ b o, h.get? b = some o → h'.get? b = some o) (hn : h.get? e = none) (he : h'.get? e = some ob) : News h₀ L h' ((e, ob) :: news) := fun p hp => by
  rcases List.mem_cons.mp hp with rfl | hp
  · refine ⟨he, fun q => ?_, ?_⟩
    · obtain ⟨o, es, ep, x, r⟩ := F.ns
      have q' : e = L := q
      rw [q', x] at hn; cases hn
    · cases hq : h₀.get? e with
      | none => rfl
      | some o => rw [F.keep _ _ hq] at hn; cases hn
  · exact ⟨k _ _ (N p hp).1, (N p hp).2⟩
theorem off_up (N : News h₀ L h news) (hn : h.get? e = none) : ∀ p ∈ news, p.1 ≠ e := fun p hp q => by
  have := (N p hp).1
  rw [q, hn] at this; cases this
end
theorem off_D2 : True := by
  w_top off
  trivial
/-- between the turns of sorted_list_difference's loop -/
inductive JSld (fe : List Env) (L : Addr) (oL : Obj) (ae aa am au : Addr) (es as : List (List Nat)) (news : List (Addr × Obj)) (n : Nat) (m : Str → Option Value) : List (Addr × Obj) → Prop
  | mk (k1 : m (Str.ofString "expected") = some (.ref ae)) (k2 : m (Str.ofString "actual") = some (.ref aa)) (k3 : m (Str.ofString "missing") = some (.ref am)) (k4 : m (Str.ofString "unexpected") = some (.ref au))
    (i : Nat) (j : Nat) (ti : Tok) (tj : Tok) (k5 : m (Str.ofString "i") = some (.int (i : Int) ti)) (k6 : m (Str.ofString "j") = some (.int (j : Int) tj)) (hi : i ≤ es.length) (hj : j ≤ as.length) (hn : (es.length - i) + (as.length - j) < n)
    (vm : List Value) (nm : Nat) (vu : List Value) (nu : Nat) (sl : Array (Option Value)) (M U : List (List Nat)) (Fs : TI.Frs fe [(L, { oL with slots := sl })])
    (hM : Are vm M) (hU : Are vu U) (hlM : M.length ≤ i) (hlU : U.length ≤ j) (htot : sld es as = (M ++ (sldP n (es.drop i) (as.drop j)).1, U ++ (sldP n (es.drop i) (as.drop j)).2)) : JSld fe L oL ae aa am au es as news n m ((au, listOf (List.toArray vu) nu) :: (am, listOf (List.toArray vm) nm) :: (news ++ [(L, { oL with slots := sl })]))
theorem t_sld (w : World) {aa ae : Addr} {va ve : List Value} {na ne : Nat} {as es : List (List Nat)} (news : List (Addr × Obj)) (hA : Are va as) (hE : Are ve es) (hal : as.length < 1000) (hel : es.length < 1000)
    (hwa : ∀ y ∈ as, y.length ≤ 1000) (hwe : ∀ y ∈ es, y.length ≤ 1000) (ha : (aa, listOf (List.toArray va) na) ∈ news) (he : (ae, listOf (List.toArray ve) ne) ∈ news)
    {cn : Str} {cs : Scope} {L a : Addr} {ccd : Value} {m : Str → Option Value} {h₀ : Heap} {s : Shared} {Q E : Value → Shared → Prop} {p : Program} {loose : List Str} {mean : ExcName → Option Value} {mg mb : Str → Option Value}
    (F : Fr h₀ L s.heap m) (N : News h₀ L s.heap news) (X : (hd.heap_1 w.params).In h₀) (T : Top p loose mean mg mb h₀) (hck : cs.kind = .function)
    (ret : ∀ T' am au vm vu nm nu h' tk', Fr h₀ L h' m → News h₀ L h' ((T', tup2 am au 0) :: (am, listOf (List.toArray vm) nm) :: (au, listOf (List.toArray vu) nu) :: news) → (∀ p ∈ news, p.1 < am) → am < au → au < T' → Are vm (sld es as).1 → Are vu (sld es as).2 → Q (.ref T') { s with heap := h', toks := tk' }) :
    wpAny (model P0 w) (callerA.deeper (envOf cn cs L a ccd)) (call (.ref 69) [.ref ae, .ref aa]) Q E s := by
  k_with_none
  k_with "WhileStep2 brk" => dsimp only [WhileStep2]
  k_with "binaryOp Add str str" => ((refine PyProof.Rows.add_str ?_ (hsz := by ktn_open)); intro _ _)
  k_with "subscriptTail Name Slice str ref" => ((with_reducible show wpAny _ _ (subscriptTail _ (Expr.Slice none (some _) none _) _ _) _ _ _); (refine slice_strN_ns (hsz := by ktn_open) (s := ⟨_, _, _, _, _⟩) (by k_asm) (by k_asm) ?_); intro _ _ _ _ _)
  k_with "subscriptTail Name Slice str ref" => ((with_reducible show wpAny _ _ (subscriptTail _ (Expr.Slice (some _) none none _) _ _) _ _ _); (refine slice_strN_sn (hsz := by ktn_open) (s := ⟨_, _, _, _, _⟩) (by k_asm) (by k_asm) ?_); intro _ _ _ _ _)
  k_with "call builtin:len" => ((with_reducible show wpAny _ _ (call (Value.builtin "len") [Value.str (S _) _]) _ _ _); refine lenS (by ktn_open) ?_)
  k_with "eval ListComp" => (k_here; (with_reducible show wpAny _ _ (eval (Expr.ListComp _ [⟨_, _, [], _⟩] _ _) _) _ _ _); k_dflt (refine LCg.ListComp_U (F₀ := by k_asm) (by with_unfolding_all rfl) (by decide) (by rfl) (by decide) (by rfl) ?_))
  k_with "eval ListComp" => (k_here; (with_reducible show wpAny _ _ (eval (Expr.ListComp _ [⟨_, _, [_], _⟩] _ _) _) _ _ _); k_dflt (refine LCt.ListComp_T (F₀ := by k_asm) (by with_unfolding_all rfl) (by decide) (by rfl) (by decide) (by rfl) ?_))
  k_with "exec Assign cons ListComp" => (k_here; k_dflt (refine LCg.Assign_ListComp_U (F₀ := by k_asm) (by rfl) (by with_unfolding_all rfl) (by with_unfolding_all rfl) (by decide) (by rfl) (by decide) (by rfl) (by rfl) (by rfl) ?_))
  k_with "getMethod ref" => k_dflt (first | refine meth_L PySem.F.slot_list_count PySem.F.type_list_count (by k_asm) (by k_mem) ?_ | refine meth_L PySem.F.slot_list_append PySem.F.type_list_append (by k_asm) (by k_mem) ?_ | refine meth_L PySem.F.slot_list_pop PySem.F.type_list_pop (by k_asm) (by k_mem) ?_ | refine meth_L PySem.F.slot_list_remove PySem.F.type_list_remove (by k_asm) (by k_mem) ?_ | refine meth_L PySem.F.slot_list_extend PySem.F.type_list_extend (by k_asm) (by k_mem) ?_)
  k_with "stop" => with_reducible first | show wpAny _ _ (PySem.call (Value.ref _) _ _) _ _ _ | show wpAny _ _ (exec (Stmt.While _ _ _ _) _) _ _ _ | show wpAny _ _ (exec (Stmt.For _ _ _ _ _) _) _ _ _ | show wpAny _ _ (exec (Stmt.Try _ _ _ _ _) _) _ _ _ | show wpAny _ _ (pyIter _) _ _ _ | show wpAny _ _ (binaryOp Operator.Mult (Value.ref _) (Value.int _ _)) _ _ _ | show LCg.CompSrc _ _ _ _ _ _ _ _ _ _ _ _ _ _ | show wpAny _ _ (binaryOp Operator.Add (Value.ref _) (Value.ref _)) _ _ _ | show wpAny _ _ (PySem.call (Value.builtin "sorted") _ _) _ _ _ | show wpAny _ _ (PySem.call (Value.builtin "list.count") _ _) _ _ _ | show wpAny _ _ (PySem.call (Value.builtin "list.extend") _ _) _ _ _ | show wpAny _ _ (PySem.call (Value.builtin "list.append") _ _) _ _ _ | show wpAny _ _ (PySem.call (Value.builtin "len") [Value.ref _] _) _ _ _ | show wpAny _ _ (subscriptTail _ _ (Value.ref _) _) _ _ _ | show LCt.CompSrcT _ _ _ _ _ _ _ _ _ _ _ _ _ _ _ | show Exists _ | show wpAny _ _ (compareOp CmpOp.NotEq (Value.ref _) (Value.ref _)) _ _ _ | show wpAny _ _ (compareOp CmpOp.Eq (Value.ref _) (Value.ref _)) _ _ _
  refine TI.call_inI (binds := [(Str.ofString "expected", .ref ae), (Str.ofString "actual", .ref aa)]) F N (X _ _ (by k_is)) rfl (codeRec_of X (by k_is)) T.nolimit (by simp only [depth_deeper, depth_caller]; decide) rfl (locs rfl) ?_ hck
  intro oL h1 C1 Fs1 F1 N1
  refine wpAny_mono (E := fun _ _ => False) ?_ (fun _ _ h => h) (fun _ _ h => h.elim)
  have hL0 : L < s.heap.objs.size := Heap.lt_size F.ns.choose_spec.choose_spec.choose_spec.1
  generalize s.heap.objs.size = L1 at *
  tb_rel
  rename_i am x2 lt2 x4 x5 au x7 lt3 h3 F3 N3
  have er : ∀ p ∈ news, p.1 < am := fun p hp => lt2 p (List.mem_append_left _ hp)
  have eL : L < am := lt2 (L, oL) (List.mem_append_right _ (.head _))
  have eu : am < au := lt3.1
  have hLr : ∀ p ∈ news, p.1 ≠ L := fun p hp => (N p hp).2.1
  refine While_inv2 (n₀ := es.length + as.length + 1) (JSld _ L oL ae aa am au es as news) (by k_asm) (by k_asm) ⟨rfl, rfl, rfl, rfl, 0, 0, _, _, rfl, rfl, Nat.zero_le _, Nat.zero_le _, by lia, [], 0, [], 0, oL.slots, [], [], Fs1, .nil, .nil, Nat.zero_le _, Nat.zero_le _, rfl⟩ ?_
  clear F3 N3 lt2 lt3 F N
  intro n m4 nw4 h4 tk4 F4 N4 J4
  obtain ⟨k1, k2, k3, k4, i, j, ti, tj, k5, k6, hi, hj, hn, vm, nm, vu, nu, sl, M, U, Fs4, hM, hU, hlM, hlU, htot⟩ := J4
  obtain ⟨n, rfl⟩ : ∃ k, n = k + 1 := ⟨n - 1, by lia⟩
  have hme : (ae, listOf (List.toArray ve) ne) ∈ news ++ [(L, ({ oL with slots := sl } : Obj))] := List.mem_append_left _ he
  have hma : (aa, listOf (List.toArray va) na) ∈ news ++ [(L, ({ oL with slots := sl } : Obj))] := List.mem_append_left _ ha
  k_with "eval Name" => (k_here; k_dflt (refine ld (by k_asm) (by assumption) ?_); k_whole)
  tb_rel
  refine wpAny_Try_except ?_
  refine with_E (fun v s' => XSld s h₀ L1 L [envOf cn cs L a ccd] oL ae aa am au es as news v s' ∨ ZSld s h₀ L1 L [envOf cn cs L a ccd] oL ae aa am au es as news v s') ?_ ?_
  · clear F4 N4 k1 k2 k3 k4 k5 k6 hi hj hn htot hM hU hlM hlU Fs4 hme hma
    rintro _ _ (⟨m5, h5, h5', tk5, e5, X5, F5, k1, k2, k3, k4, i, j, ti, tj, k5, k6, hi, hj, vm, nm, vu, nu, sl, M, U, N5, Fs5, hM, hU, hlM, hlU, htot⟩ | ⟨m5, h5, tk5, e5, T5, ob5, otb5, vs5, ts5, c5, k1, k2, k3, k4, i, j, ti, tj, k5, k6, hi, hj, vm, nm, vu, nu, sl6, M, U, X5, Fs6, hM, hU, hlM, hlU, htot⟩)
    case' inl =>
      refine caughtW (T := "IndexError") (new := (au, listOf (List.toArray vu) nu) :: (am, listOf (List.toArray vm) nm) :: news) (by rfl) Fs5 X5 F5 N5 ?allne ?evn ?kk (by passes_own)
      case allne => exact allNe_mem (bcons (Nat.ne_of_gt (Nat.lt_trans eL eu)) (bcons (Nat.ne_of_gt eL) hLr))
      case evn =>
        intro h6 Q' E' F6 hq
        try dsimp only
        k_with_none
        k_with "WhileStep2 brk" => dsimp only [WhileStep2]
        k_with "binaryOp Add str str" => ((refine PyProof.Rows.add_str ?_ (hsz := by ktn_open)); intro _ _)
        k_with "subscriptTail Name Slice str ref" => ((with_reducible show wpAny _ _ (subscriptTail _ (Expr.Slice none (some _) none _) _ _) _ _ _); (refine slice_strN_ns (hsz := by ktn_open) (s := ⟨_, _, _, _, _⟩) (by k_asm) (by k_asm) ?_); intro _ _ _ _ _)
        k_with "subscriptTail Name Slice str ref" => ((with_reducible show wpAny _ _ (subscriptTail _ (Expr.Slice (some _) none none _) _ _) _ _ _); (refine slice_strN_sn (hsz := by ktn_open) (s := ⟨_, _, _, _, _⟩) (by k_asm) (by k_asm) ?_); intro _ _ _ _ _)
        k_with "call builtin:len" => ((with_reducible show wpAny _ _ (call (Value.builtin "len") [Value.str (S _) _]) _ _ _); refine lenS (by ktn_open) ?_)
        k_with "eval ListComp" => (k_here; (with_reducible show wpAny _ _ (eval (Expr.ListComp _ [⟨_, _, [], _⟩] _ _) _) _ _ _); k_dflt (refine LCg.ListComp_U (F₀ := by k_asm) (by with_unfolding_all rfl) (by decide) (by rfl) (by decide) (by rfl) ?_))
        k_with "eval ListComp" => (k_here; (with_reducible show wpAny _ _ (eval (Expr.ListComp _ [⟨_, _, [_], _⟩] _ _) _) _ _ _); k_dflt (refine LCt.ListComp_T (F₀ := by k_asm) (by with_unfolding_all rfl) (by decide) (by rfl) (by decide) (by rfl) ?_))
        k_with "exec Assign cons ListComp" => (k_here; k_dflt (refine LCg.Assign_ListComp_U (F₀ := by k_asm) (by rfl) (by with_unfolding_all rfl) (by with_unfolding_all rfl) (by decide) (by rfl) (by decide) (by rfl) (by rfl) (by rfl) ?_))
        k_with "getMethod ref" => k_dflt (first | refine meth_L PySem.F.slot_list_count PySem.F.type_list_count (by k_asm) (by k_mem) ?_ | refine meth_L PySem.F.slot_list_append PySem.F.type_list_append (by k_asm) (by k_mem) ?_ | refine meth_L PySem.F.slot_list_pop PySem.F.type_list_pop (by k_asm) (by k_mem) ?_ | refine meth_L PySem.F.slot_list_remove PySem.F.type_list_remove (by k_asm) (by k_mem) ?_ | refine meth_L PySem.F.slot_list_extend PySem.F.type_list_extend (by k_asm) (by k_mem) ?_)
        k_with "stop" => with_reducible first | show wpAny _ _ (PySem.call (Value.ref _) _ _) _ _ _ | show wpAny _ _ (exec (Stmt.While _ _ _ _) _) _ _ _ | show wpAny _ _ (exec (Stmt.For _ _ _ _ _) _) _ _ _ | show wpAny _ _ (exec (Stmt.Try _ _ _ _ _) _) _ _ _ | show wpAny _ _ (pyIter _) _ _ _ | show wpAny _ _ (binaryOp Operator.Mult (Value.ref _) (Value.int _ _)) _ _ _ | show LCg.CompSrc _ _ _ _ _ _ _ _ _ _ _ _ _ _ | show wpAny _ _ (binaryOp Operator.Add (Value.ref _) (Value.ref _)) _ _ _ | show wpAny _ _ (PySem.call (Value.builtin "sorted") _ _) _ _ _ | show wpAny _ _ (PySem.call (Value.builtin "list.count") _ _) _ _ _ | show wpAny _ _ (PySem.call (Value.builtin "list.extend") _ _) _ _ _ | show wpAny _ _ (PySem.call (Value.builtin "list.append") _ _) _ _ _ | show wpAny _ _ (PySem.call (Value.builtin "len") [Value.ref _] _) _ _ _ | show wpAny _ _ (subscriptTail _ _ (Value.ref _) _) _ _ _ | show LCt.CompSrcT _ _ _ _ _ _ _ _ _ _ _ _ _ _ _ | show Exists _ | show wpAny _ _ (compareOp CmpOp.NotEq (Value.ref _) (Value.ref _)) _ _ _ | show wpAny _ _ (compareOp CmpOp.Eq (Value.ref _) (Value.ref _)) _ _ _
        tb_rel
        exact hq
      clear N5 F5 X5 Fs5
      intro h6 sl6 Fs6 F6 N6
      try dsimp only
      replace N6 : News h₀ L1 h6 ((au, listOf (List.toArray vu) nu) :: (am, listOf (List.toArray vm) nm) :: (news ++ [(L, ({ oL with slots := sl6 } : Obj))])) := N6
    case' inr =>
      refine XL.caught (T' := "IndexError") X5 ?evn ?kk (by passes_own)
      case evn =>
        intro h6 Q' E' F6 hq
        try dsimp only
        k_with_none
        k_with "WhileStep2 brk" => dsimp only [WhileStep2]
        k_with "binaryOp Add str str" => ((refine PyProof.Rows.add_str ?_ (hsz := by ktn_open)); intro _ _)
        k_with "subscriptTail Name Slice str ref" => ((with_reducible show wpAny _ _ (subscriptTail _ (Expr.Slice none (some _) none _) _ _) _ _ _); (refine slice_strN_ns (hsz := by ktn_open) (s := ⟨_, _, _, _, _⟩) (by k_asm) (by k_asm) ?_); intro _ _ _ _ _)
        k_with "subscriptTail Name Slice str ref" => ((with_reducible show wpAny _ _ (subscriptTail _ (Expr.Slice (some _) none none _) _ _) _ _ _); (refine slice_strN_sn (hsz := by ktn_open) (s := ⟨_, _, _, _, _⟩) (by k_asm) (by k_asm) ?_); intro _ _ _ _ _)
        k_with "call builtin:len" => ((with_reducible show wpAny _ _ (call (Value.builtin "len") [Value.str (S _) _]) _ _ _); refine lenS (by ktn_open) ?_)
        k_with "eval ListComp" => (k_here; (with_reducible show wpAny _ _ (eval (Expr.ListComp _ [⟨_, _, [], _⟩] _ _) _) _ _ _); k_dflt (refine LCg.ListComp_U (F₀ := by k_asm) (by with_unfolding_all rfl) (by decide) (by rfl) (by decide) (by rfl) ?_))
        k_with "eval ListComp" => (k_here; (with_reducible show wpAny _ _ (eval (Expr.ListComp _ [⟨_, _, [_], _⟩] _ _) _) _ _ _); k_dflt (refine LCt.ListComp_T (F₀ := by k_asm) (by with_unfolding_all rfl) (by decide) (by rfl) (by decide) (by rfl) ?_))
        k_with "exec Assign cons ListComp" => (k_here; k_dflt (refine LCg.Assign_ListComp_U (F₀ := by k_asm) (by rfl) (by with_unfolding_all rfl) (by with_unfolding_all rfl) (by decide) (by rfl) (by decide) (by rfl) (by rfl) (by rfl) ?_))
        k_with "getMethod ref" => k_dflt (first | refine meth_L PySem.F.slot_list_count PySem.F.type_list_count (by k_asm) (by k_mem) ?_ | refine meth_L PySem.F.slot_list_append PySem.F.type_list_append (by k_asm) (by k_mem) ?_ | refine meth_L PySem.F.slot_list_pop PySem.F.type_list_pop (by k_asm) (by k_mem) ?_ | refine meth_L PySem.F.slot_list_remove PySem.F.type_list_remove (by k_asm) (by k_mem) ?_ | refine meth_L PySem.F.slot_list_extend PySem.F.type_list_extend (by k_asm) (by k_mem) ?_)
        k_with "stop" => with_reducible first | show wpAny _ _ (PySem.call (Value.ref _) _ _) _ _ _ | show wpAny _ _ (exec (Stmt.While _ _ _ _) _) _ _ _ | show wpAny _ _ (exec (Stmt.For _ _ _ _ _) _) _ _ _ | show wpAny _ _ (exec (Stmt.Try _ _ _ _ _) _) _ _ _ | show wpAny _ _ (pyIter _) _ _ _ | show wpAny _ _ (binaryOp Operator.Mult (Value.ref _) (Value.int _ _)) _ _ _ | show LCg.CompSrc _ _ _ _ _ _ _ _ _ _ _ _ _ _ | show wpAny _ _ (binaryOp Operator.Add (Value.ref _) (Value.ref _)) _ _ _ | show wpAny _ _ (PySem.call (Value.builtin "sorted") _ _) _ _ _ | show wpAny _ _ (PySem.call (Value.builtin "list.count") _ _) _ _ _ | show wpAny _ _ (PySem.call (Value.builtin "list.extend") _ _) _ _ _ | show wpAny _ _ (PySem.call (Value.builtin "list.append") _ _) _ _ _ | show wpAny _ _ (PySem.call (Value.builtin "len") [Value.ref _] _) _ _ _ | show wpAny _ _ (subscriptTail _ _ (Value.ref _) _) _ _ _ | show LCt.CompSrcT _ _ _ _ _ _ _ _ _ _ _ _ _ _ _ | show Exists _ | show wpAny _ _ (compareOp CmpOp.NotEq (Value.ref _) (Value.ref _)) _ _ _ | show wpAny _ _ (compareOp CmpOp.Eq (Value.ref _) (Value.ref _)) _ _ _
        tb_rel
        exact hq
      clear X5
      intro h6 F6 N6
      try dsimp only
    all_goals
      have hme : (ae, listOf (List.toArray ve) ne) ∈ news ++ [(L, ({ oL with slots := sl6 } : Obj))] := List.mem_append_left _ he
      have hma : (aa, listOf (List.toArray va) na) ∈ news ++ [(L, ({ oL with slots := sl6 } : Obj))] := List.mem_append_left _ ha
      k_with "eval Name" => (k_here; k_dflt (refine ld (by k_asm) (by assumption) ?_); k_whole)
      tb_rel
      refine slice_from_L i (by k_asm) (by k_asm) (by k_mem) hE rfl hi (by lia) ?_
      intro D7 zs7 h7 F7 N7 lt7 hA7
      try dsimp only
      tb_rel
      try dsimp only
      have lu7 : au < D7 := lt7 (au, _) (.head _)
      refine extend_L (s := ⟨_, _, _, _, _⟩) F7 N7 (.head _) (fun n' => .tail (Nat.ne_of_gt (Nat.lt_trans eu lu7)) (.tail (Nat.ne_of_gt eu) (.head ?_))) (by rw [hM.len, hA7.len, List.length_drop]; lia) ?_
      · intro p hp
        rcases List.mem_append.mp hp with hp | hp
        · exact Nat.ne_of_lt (er p hp)
        · rw [List.mem_singleton.mp hp]; exact Nat.ne_of_lt eL
      clear F7 N7
      intro n8 h8 F8 N8
      try dsimp only
      tb_rel
      refine slice_from_L j (by k_asm) (by k_asm) (by k_mem) hA rfl hj (by lia) ?_
      clear F8 N8
      intro D9 zs9 h9 F9 N9 lt9 hA9
      try dsimp only
      tb_rel
      try dsimp only
      have l79 : D7 < D9 := lt9 (D7, _) (.head _)
      refine extend_L (s := ⟨_, _, _, _, _⟩) F9 N9 (.head _) (fun n' => .tail (Nat.ne_of_gt (Nat.lt_trans lu7 l79)) (.tail (Nat.ne_of_gt lu7) (.head ?_))) (by rw [hU.len, hA9.len, List.length_drop]; lia) ?_
      · intro p hp
        rcases List.mem_cons.mp hp with rfl | hp
        · exact Nat.ne_of_lt eu
        rcases List.mem_append.mp hp with hp | hp
        · exact Nat.ne_of_lt (Nat.lt_trans (er p hp) eu)
        · rw [List.mem_singleton.mp hp]; exact Nat.ne_of_lt (Nat.lt_trans eL eu)
      clear F9 N9
      intro n10 h10 F10 N10
      try dsimp only
      tb_rel
      rename News h₀ L1 _ ((_, tup2 _ _ _) :: _) => N11
      rename Fr h₀ L1 _ _ => F11
      rename (_ ∧ _ ∧ _ ∧ _ ∧ _) => l11
      refine TLg.leave_back (new := (_, tup2 am au 0) :: (D9, listOf (List.toArray zs9) 0) :: (D7, listOf (List.toArray zs7) 0) :: (au, listOf (List.toArray (vu ++ zs9)) n10) :: (am, listOf (List.toArray (vm ++ zs7)) n8) :: news) C1 F11 N11 ?_ ?_
      · have eLu := Nat.lt_trans eL eu
        have eL7 := Nat.lt_trans eLu lu7
        have eL9 := Nat.lt_trans eL7 l79
        exact allNe_mem (bcons (Nat.ne_of_gt (Nat.lt_trans eL9 l11.1)) (bcons (Nat.ne_of_gt eL9) (bcons (Nat.ne_of_gt eL7) (bcons (Nat.ne_of_gt eLu) (bcons (Nat.ne_of_gt eL) hLr)))))
      · intro F12 N12
        refine ret _ am au (vm ++ zs7) (vu ++ zs9) n8 n10 _ _ F12 (ncons (N12 _ (.head _)) (ncons (N12 _ (.tail _ (.tail _ (.tail _ (.tail _ (.head _)))))) (ncons (N12 _ (.tail _ (.tail _ (.tail _ (.head _))))) (ntl (ntl (ntl (ntl (ntl N12)))))))) er eu l11.2.2.1 ?_ ?_
        · rw [htot]; exact lst_append hM hA7
        · rw [htot]; exact lst_append hU hA9
  intro key
  tb_rel
  by_cases hie : i < es.length
  case neg =>
    refine item_out_L i rfl (by k_asm) (by k_mem) hE rfl (by lia) (by lia) ?_
    intro h5 tk5 e5 X5
    have hd0 : es.drop i = [] := List.drop_of_length_le (by lia)
    refine key _ _ (.inl ⟨_, _, _, _, _, X5, F4, k1, k2, k3, k4, i, j, ti, tj, k5, k6, hi, hj, vm, nm, vu, nu, sl, M, U, N4, Fs4, hM, hU, hlM, hlU, ?_⟩)
    rw [htot, sldP_end _ _ _ (.inl hd0)]
  refine item_L i (by k_asm) (by k_mem) hE rfl hie (by lia) ?_
  intro t5
  try dsimp only
  tb_rel
  try dsimp only
  by_cases hja : j < as.length
  case neg =>
    refine item_out_L j rfl (by k_asm) (by k_mem) hA rfl (by lia) (by lia) ?_
    intro h5 tk5 e5 X5
    have hd0 : as.drop j = [] := List.drop_of_length_le (by lia)
    rename Fr h₀ L1 _ _ => F5
    rename News h₀ L1 _ _ => N5
    refine key _ _ (.inl ⟨_, _, _, _, _, X5, F5, k1, k2, k3, k4, i, j, ti, tj, k5, k6, hi, hj, vm, nm, vu, nu, sl, M, U, N5, Fs4, hM, hU, hlM, hlU, ?_⟩)
    rw [htot, sldP_end _ _ _ (.inr hd0)]
  refine item_L j (by k_asm) (by k_mem) hA rfl hja (by lia) ?_
  intro t6
  try dsimp only
  k_with "loadName" => (k_here; k_dflt (refine ldn (by k_asm) (by assumption) ?_); k_whole)
  tb_rel
  · rename Fr h₀ L1 _ _ => F7
    rename News h₀ L1 _ _ => N7
    refine append_L (s := ⟨_, _, _, _, _⟩) F7 N7 (.tail (Nat.ne_of_gt eu) (.head ?_)) (by rw [hM.len]; lia) ?_
    · intro p hp
      rcases List.mem_append.mp hp with hp | hp
      · exact Nat.ne_of_lt (er p hp)
      · rw [List.mem_singleton.mp hp]; exact Nat.ne_of_lt eL
    clear F7 N7
    intro h7 F7 N7
    try dsimp only
    tb_rel
    rename Fr h₀ L1 _ _ => F8
    rename News h₀ L1 _ _ => N8
    refine While_inv2 (s := ⟨_, _, _, _, _⟩) (n₀ := es.length + 1) (JSkip (Str.ofString "i") (Str.ofString "j") ae aa am au es (es.getD i []) (as.getD j []) t5 t6 j tj (i + 1) _) F8 N8 ⟨k1, k2, k3, k4, rfl, rfl, k6, i + 1, _, rfl, Nat.le_refl _, by lia, by lia, rfl⟩ ?_
    clear F8 N8
    intro n9 m9 nw9 h9 tk9 F9 N9 J9
    obtain ⟨q1, q2, q3, q4, q5, q6, q7, i9, ti9, q8, hi9, hi9', hn9, hd9⟩ := J9
    simp only [if_true] at hd9
    tb_rel
    by_cases hie9 : i9 < es.length
    case neg =>
      refine item_out_L i9 rfl (by k_asm) (by k_mem) hE rfl (by lia) (by lia) ?_
      intro h10 tk10 e10 X10
      have hd0 : es.drop i9 = [] := List.drop_of_length_le (by lia)
      refine key _ _ (.inl ⟨_, _, _, _, _, X10, F9, q1, q2, q3, q4, i9, j, ti9, tj, q8, q7, hi9', hj, _, _, vu, nu, sl, M ++ [es.getD i []], U, N9, Fs4, lst_append hM (.cons _ _ .nil), hU, ?_, hlU, ?_⟩)
      · simp only [List.length_append, List.length_cons, List.length_nil]; lia
      · rw [htot, sldP_lt _ hie hja (by assumption), hd9, hd0, List.dropWhile_nil, sldP_end _ _ _ (.inl rfl)]; simp
    refine item_L i9 (by k_asm) (by k_mem) hE rfl hie9 (by lia) ?_
    intro t10
    try dsimp only
    tb_rel
    · rename Fr h₀ L1 _ _ => F11
      rename News h₀ L1 _ _ => N11
      refine ⟨_, _, _, _, n9 - 1, rfl, F11, N11, by lia, q1, q2, q3, q4, q5, q6, q7, i9 + 1, _, rfl, by lia, by lia, by lia, ?_⟩
      simp only [if_true]
      rw [hd9]
      exact skip_hit hie9 (by assumption)
    · rename Fr h₀ L1 _ _ => F11
      rename News h₀ L1 _ _ => N11
      refine ⟨_, _, _, _, n, rfl, F11, N11, Nat.lt_succ_self n, q1, q2, q3, q4, i9, j, _, _, q8, q7, hi9', hj, by lia, _, _, vu, nu, sl, M ++ [es.getD i []], U, Fs4, lst_append hM (.cons _ _ .nil), hU, ?_, hlU, ?_⟩
      · simp only [List.length_append, List.length_cons, List.length_nil]; lia
      · rw [htot, sldP_lt _ hie hja (by assumption), hd9, skip_miss hie9 (by assumption)]; simp
  · rename Fr h₀ L1 _ _ => F7
    rename News h₀ L1 _ _ => N7
    refine append_L (s := ⟨_, _, _, _, _⟩) F7 N7 (.head ?_) (by rw [hU.len]; lia) ?_
    · intro p hp
      rcases List.mem_cons.mp hp with rfl | hp
      · exact Nat.ne_of_lt eu
      rcases List.mem_append.mp hp with hp | hp
      · exact Nat.ne_of_lt (Nat.lt_trans (er p hp) eu)
      · rw [List.mem_singleton.mp hp]; exact Nat.ne_of_lt (Nat.lt_trans eL eu)
    clear F7 N7
    intro h7 F7 N7
    try dsimp only
    tb_rel
    rename Fr h₀ L1 _ _ => F8
    rename News h₀ L1 _ _ => N8
    refine While_inv2 (s := ⟨_, _, _, _, _⟩) (n₀ := as.length + 1) (JSkip (Str.ofString "j") (Str.ofString "i") ae aa am au as (es.getD i []) (as.getD j []) t5 t6 i ti (j + 1) _) F8 N8 ⟨k1, k2, k3, k4, rfl, rfl, k5, j + 1, _, rfl, Nat.le_refl _, by lia, by lia, rfl⟩ ?_
    clear F8 N8
    intro n9 m9 nw9 h9 tk9 F9 N9 J9
    obtain ⟨q1, q2, q3, q4, q5, q6, q7, j9, tj9, q8, hj9, hj9', hn9, hd9⟩ := J9
    rw [if_neg (by decide)] at hd9
    tb_rel
    by_cases hja9 : j9 < as.length
    case neg =>
      refine item_out_L j9 rfl (by k_asm) (by k_mem) hA rfl (by lia) (by lia) ?_
      intro h10 tk10 e10 X10
      have hd0 : as.drop j9 = [] := List.drop_of_length_le (by lia)
      refine key _ _ (.inl ⟨_, _, _, _, _, X10, F9, q1, q2, q3, q4, i, j9, ti, tj9, q7, q8, hi, hj9', vm, nm, _, _, sl, M, U ++ [as.getD j []], N9, Fs4, hM, lst_append hU (.cons _ _ .nil), hlM, ?_, ?_⟩)
      · simp only [List.length_append, List.length_cons, List.length_nil]; lia
      · rw [htot, sldP_gt _ hie hja (by assumption) (by assumption), hd9, hd0, List.dropWhile_nil, sldP_end _ _ _ (.inr rfl)]; simp
    refine item_L j9 (by k_asm) (by k_mem) hA rfl hja9 (by lia) ?_
    intro t10
    try dsimp only
    tb_rel
    · rename Fr h₀ L1 _ _ => F11
      rename News h₀ L1 _ _ => N11
      refine ⟨_, _, _, _, n9 - 1, rfl, F11, N11, by lia, q1, q2, q3, q4, q5, q6, q7, j9 + 1, _, rfl, by lia, by lia, by lia, ?_⟩
      rw [if_neg (by decide), hd9]
      exact skip_hit hja9 (by assumption)
    · rename Fr h₀ L1 _ _ => F11
      rename News h₀ L1 _ _ => N11
      refine ⟨_, _, _, _, n, rfl, F11, N11, Nat.lt_succ_self n, q1, q2, q3, q4, i, j9, _, _, q7, q8, hi, hj9', by lia, vm, nm, _, _, sl, M, U ++ [as.getD j []], Fs4, hM, lst_append hU (.cons _ _ .nil), hlM, ?_, ?_⟩
      · simp only [List.length_append, List.length_cons, List.length_nil]; lia
      · rw [htot, sldP_gt _ hie hja (by assumption) (by assumption), hd9, skip_miss hja9 (by assumption)]; simp
  · rename Fr h₀ L1 _ _ => F8
    rename News h₀ L1 _ _ => N8
    refine wpAny_Try_finally ?_
    refine with_E (ISld s h₀ L1 ae aa am au es (i + 1) (es.getD i []) (as.getD j []) t5 t6 j tj ((au, listOf (List.toArray vu) nu) :: (am, listOf (List.toArray vm) nm) :: (news ++ [(L, ({ oL with slots := sl } : Obj))]))) ?_ ?_
    · rintro _ _ ⟨m5, h5, h5', tk5, e5, ti5, X5, F5, N5, q1, q2, q3, q4, q5, q6, q7, q8, hdE⟩
      obtain ⟨ob5, tt5, he5, hcls5, hd5⟩ := X5.there
      have hAll : TLg.AllNe L ((au, listOf (List.toArray vu) nu) :: (am, listOf (List.toArray vm) nm) :: news) := allNe_mem (bcons (Nat.ne_of_gt (Nat.lt_trans eL eu)) (bcons (Nat.ne_of_gt eL) hLr))
      refine notedX (new := (au, listOf (List.toArray vu) nu) :: (am, listOf (List.toArray vm) nm) :: news) rfl Fs4 (fr_up F5 X5.keeps) (nw_up F5 N5 X5.keeps X5.new he5) hAll (off_up N5 X5.new) hcls5 hd5 (by show 1 < 6; decide) rfl rfl ?_
      clear F5 N5 X5 he5 hd5 F8 N8
      intro h6 sl6 T6 ob6 otb6 vs6 ts6 Fs6 x6
      try dsimp only
      refine ⟨ref_ne_byPass _, ?_⟩
      refine x6.again ?_
      try dsimp only
      refine x6.flight none ?_
      clear x6
      intro h7 otb7 ts7 x7
      try dsimp only
      have F7 := x7.fr
      have N7 := x7.nw
      have hma6 : (aa, listOf (List.toArray va) na) ∈ news ++ [(L, ({ oL with slots := sl6 } : Obj))] := List.mem_append_left _ ha
      tb_rel
      rename Fr h₀ L1 _ _ => F11
      rename News h₀ L1 _ _ => N11
      refine While_inv2 (s := ⟨_, _, _, _, _⟩) (n₀ := as.length + 1) (JSkip (Str.ofString "j") (Str.ofString "i") ae aa am au as (es.getD i []) (as.getD j []) t5 t6 es.length ti5 (j + 1) _) F11 N11 ⟨q1, q2, q3, q4, q5, q6, q8, j + 1, _, rfl, Nat.le_refl _, by lia, by lia, rfl⟩ ?_
      clear F11 N11 q1 q2 q3 q4 q5 q6 q7 q8
      intro n12 m12 nw12 h12 tk12 F12 N12 J12
      obtain ⟨q1, q2, q3, q4, q5, q6, q7, j12, tj12, q8, hj12, hj12', hn12, hd12⟩ := J12
      rw [if_neg (by decide)] at hd12
      tb_rel
      by_cases hja12 : j12 < as.length
      case neg =>
        have hd0 : as.drop j12 = [] := List.drop_of_length_le (by lia)
        have hl12 : h12.IsList aa (List.toArray va) := ⟨_, N12.get (.tail _ (.tail _ (.tail _ (.tail _ hma6)))), rfl, _, rfl⟩
        refine item_ctx (s := ⟨_, _, _, _, _⟩) rfl (N12 _ (.head _)).1 x7.dat x7.v2 hl12 (by rw [List.size_toArray, hA.len]; lia) (by lia) (by lia) ?_
        intro h13 tk13 e13 X13
        obtain ⟨ob13, tt13, he13, hcls13, hd13⟩ := X13.there
        have N12' : News h₀ L1 h12 (((au, listOf (List.toArray vu) nu) :: (am, listOf (List.toArray vm) nm) :: news) ++ [(L, ({ oL with slots := sl6 } : Obj))]) := fun p hp => N12 p (.tail _ (.tail _ hp))
        refine notedX (new := (au, listOf (List.toArray vu) nu) :: (am, listOf (List.toArray vm) nm) :: news) rfl Fs6 (fr_up F12 X13.keeps) (nw_up F12 N12' X13.keeps X13.new he13) hAll (off_up N12' X13.new) hcls13 hd13 (by show 1 < 6; decide) rfl rfl ?_
        intro h14 sl14 T14 ob14 otb14 vs14 ts14 Fs14 x14
        refine x14.cameBack ?_
        intro h15 otb15 ts15 x15
        refine key _ _ (.inr ⟨_, _, _, _, _, _, _, _, _, _, q1, q2, q3, q4, es.length, j12, ti5, tj12, q7, q8, Nat.le_refl _, hj12', vm, nm, vu, nu, sl14, M, U, x15, Fs14, hM, hU, by lia, by lia, ?_⟩)
        rw [htot, sldP_eq _ hie hja (by assumption) (by assumption), hdE, hd12, hd0, List.dropWhile_nil, sldP_end _ _ _ (.inr rfl), List.drop_length]
      refine item_L j12 (by k_asm) (by k_mem) hA rfl hja12 (by lia) ?_
      intro t13
      try dsimp only
      tb_rel
      · rename Fr h₀ L1 _ _ => F14
        rename News h₀ L1 _ _ => N14
        refine ⟨_, _, _, _, n12 - 1, rfl, F14, N14, by lia, q1, q2, q3, q4, q5, q6, q7, j12 + 1, _, rfl, by lia, by lia, by lia, ?_⟩
        rw [if_neg (by decide), hd12]
        exact skip_hit hja12 (by assumption)
      · rename Fr h₀ L1 _ _ => F14
        rename News h₀ L1 _ _ => N14
        have x14 : XL h₀ _ L1 m12 e5 T6 ob6 otb7 vs6 ts7 "IndexError" .none _ _ := ⟨F14, N14, x7.cls, x7.dat, x7.v1, x7.v2, x7.tdat, x7.t3, x7.ne, x7.offT, x7.offE⟩
        dsimp only
        refine XL.passOn (s' := ⟨_, _, _, _, _⟩) x14 ?_
        intro h15 otb15 ts15 x15
        refine key _ _ (.inr ⟨_, _, _, _, _, _, _, _, _, _, q1, q2, q3, q4, es.length, j12, ti5, tj12, q7, q8, Nat.le_refl _, hj12', vm, nm, vu, nu, sl6, M, U, x15, Fs6, hM, hU, by lia, by lia, ?_⟩)
        rw [htot, sldP_eq _ hie hja (by assumption) (by assumption), hdE, hd12, skip_miss hja12 (by assumption), sldP_end _ _ _ (.inl rfl), List.drop_length]
    intro key3
    tb_rel
    refine While_inv2 (s := ⟨_, _, _, _, _⟩) (n₀ := es.length + 1) (JSkip (Str.ofString "i") (Str.ofString "j") ae aa am au es (es.getD i []) (as.getD j []) t5 t6 j tj (i + 1) _) F8 N8 ⟨k1, k2, k3, k4, rfl, rfl, k6, i + 1, _, rfl, Nat.le_refl _, by lia, by lia, rfl⟩ ?_
    clear F8 N8
    intro n9 m9 nw9 h9 tk9 F9 N9 J9
    obtain ⟨q1, q2, q3, q4, q5, q6, q7, i9, ti9, q8, hi9, hi9', hn9, hd9⟩ := J9
    simp only [if_true] at hd9
    tb_rel
    by_cases hie9 : i9 < es.length
    case neg =>
      refine item_out_L i9 rfl (by k_asm) (by k_mem) hE rfl (by lia) (by lia) ?_
      intro h10 tk10 e10 X10
      obtain rfl : i9 = es.length := by lia
      exact key3 _ _ ⟨_, _, _, _, _, _, X10, F9, N9, q1, q2, q3, q4, q5, q6, q7, q8, by rw [hd9, List.drop_length]; rfl⟩
    refine item_L i9 (by k_asm) (by k_mem) hE rfl hie9 (by lia) ?_
    intro t10
    try dsimp only
    tb_rel
    · rename Fr h₀ L1 _ _ => F11
      rename News h₀ L1 _ _ => N11
      refine ⟨_, _, _, _, n9 - 1, rfl, F11, N11, by lia, q1, q2, q3, q4, q5, q6, q7, i9 + 1, _, rfl, by lia, by lia, by lia, ?_⟩
      simp only [if_true]
      rw [hd9]
      exact skip_hit hie9 (by assumption)
    · rename Fr h₀ L1 _ _ => F11
      rename News h₀ L1 _ _ => N11
      have hdi := skip_miss hie9 (by assumption)
      rw [hdi] at hd9
      refine While_inv2 (s := ⟨_, _, _, _, _⟩) (n₀ := as.length + 1) (JSkip (Str.ofString "j") (Str.ofString "i") ae aa am au as (es.getD i []) (as.getD j []) t5 t6 i9 ti9 (j + 1) _) F11 N11 ⟨q1, q2, q3, q4, q5, q6, q8, j + 1, _, rfl, Nat.le_refl _, by lia, by lia, rfl⟩ ?_
      clear F11 N11 q1 q2 q3 q4 q5 q6 q7 q8
      intro n12 m12 nw12 h12 tk12 F12 N12 J12
      obtain ⟨q1, q2, q3, q4, q5, q6, q7, j12, tj12, q8, hj12, hj12', hn12, hd12⟩ := J12
      rw [if_neg (by decide)] at hd12
      tb_rel
      by_cases hja12 : j12 < as.length
      case neg =>
        refine item_out_L j12 rfl (by k_asm) (by k_mem) hA rfl (by lia) (by lia) ?_
        intro h13 tk13 e13 X13
        have hd0 : as.drop j12 = [] := List.drop_of_length_le (by lia)
        refine (show PassesOwn _ _ _ _ from by passes_own) _ _ (key _ _ (.inl ⟨_, _, _, _, _, X13, F12, q1, q2, q3, q4, i9, j12, ti9, tj12, q7, q8, hi9', hj12', vm, nm, vu, nu, sl, M, U, N12, Fs4, hM, hU, by lia, by lia, ?_⟩))
        rw [htot, sldP_eq _ hie hja (by assumption) (by assumption), hd9, hd12, hd0, List.dropWhile_nil, sldP_end _ _ _ (.inr rfl)]
      refine item_L j12 (by k_asm) (by k_mem) hA rfl hja12 (by lia) ?_
      intro t13
      try dsimp only
      tb_rel
      · rename Fr h₀ L1 _ _ => F14
        rename News h₀ L1 _ _ => N14
        refine ⟨_, _, _, _, n12 - 1, rfl, F14, N14, by lia, q1, q2, q3, q4, q5, q6, q7, j12 + 1, _, rfl, by lia, by lia, by lia, ?_⟩
        rw [if_neg (by decide), hd12]
        exact skip_hit hja12 (by assumption)
      · rename Fr h₀ L1 _ _ => F14
        rename News h₀ L1 _ _ => N14
        refine ⟨_, _, _, _, n, rfl, F14, N14, Nat.lt_succ_self n, q1, q2, q3, q4, i9, j12, _, _, q7, q8, hi9', hj12', by lia, vm, nm, vu, nu, sl, M, U, Fs4, hM, hU, by lia, by lia, ?_⟩
        rw [htot, sldP_eq _ hie hja (by assumption) (by assumption), hd9, hd12, skip_miss hja12 (by assumption)]
theorem off_E1 : True := by
  w_top off
  trivial
/-- between the turns of unorderable_list_difference's loop, where nothing is missing -/
inductive JUl1 (aa ae am : Addr) (as : List (List Nat)) (y : List Nat) (ty : Tok) (news : List (Addr × Obj)) (n : Nat) (m : Str → Option Value) : List (Addr × Obj) → Prop
  | mk (k1 : m (Str.ofString "expected") = some (.ref ae)) (k2 : m (Str.ofString "actual") = some (.ref aa)) (k3 : m (Str.ofString "missing") = some (.ref am)) (vE : List Value) (nE : Nat) (va : List Value) (na : Nat)
    (J : (n = 1 ∧ vE = [.str (S y) ty] ∧ Are va as) ∨ (n = 0 ∧ vE = [] ∧ Are va (as.erase y))) : JUl1 aa ae am as y ty news n m ((am, listOf (List.toArray []) 0) :: (aa, listOf (List.toArray va) na) :: (ae, listOf (List.toArray vE) nE) :: news)
theorem t_uld1 (w : World) {aa ae : Addr} {va : List Value} {na ne : Nat} {as : List (List Nat)} {y : List Nat} {ty : Tok} (rest : List (Addr × Obj)) (hA : Are va as) (hal : as.length < 1000) (hy : y ∈ as) (hne : aa ≠ ae) (hra : ∀ p ∈ rest, p.1 ≠ aa) (hre : ∀ p ∈ rest, p.1 ≠ ae)
    (dp un : Nat) (gd : Option (List Code)) (cn : Str) (cs : Scope) (a : Addr) (ccd : Value) (cl : List (Str × Addr)) (outer : List Env) (A₀ : Around) (base h₀ : Heap) (L : Addr) (m : Str → Option Value) (s : Shared) (Q E : Value → Shared → Prop)
    (p : Program) (loose : List Str) (mean : ExcName → Option Value) (mg mb : Str → Option Value)
    (B : Below A₀ base outer h₀) (F : Fr h₀ L s.heap m) (X : (hd.heap_1 w.params).In h₀) (N : News h₀ L s.heap ((aa, listOf (List.toArray va) na) :: (ae, listOf (List.toArray [.str (S y) ty]) ne) :: rest)) (T : Top p loose mean mg mb h₀) (hk : cs.kind = .function) (hd : dp + 2 < recursionLimit) (hu : un + 8 * 2 < cLine)
    (hret : ∀ T' am va' na' h' tk', Fr h₀ L h' m → News h₀ L h' ((T', tup2 am aa 0) :: (am, listOf (List.toArray []) 0) :: (aa, listOf (List.toArray va') na') :: rest) → (∀ p ∈ rest, p.1 < am) → am < T' → aa < am → Are va' (as.erase y) → Q (.ref T') { s with heap := h', toks := tk' }) :
    wpAny (model P0 w) (ktrTop dp un gd cn cs L a ccd cl outer) (call (.ref 76) [.ref ae, .ref aa]) Q E s := by
  refine wpAny_call ?_
  k_with_none
  k_with "WhileStep2 brk" => dsimp only [WhileStep2]
  k_with "binaryOp Add str str" => ((refine PyProof.Rows.add_str ?_ (hsz := by ktn_open)); intro _ _)
  k_with "subscriptTail Name Slice str ref" => ((with_reducible show wpAny _ _ (subscriptTail _ (Expr.Slice none (some _) none _) _ _) _ _ _); (refine slice_strN_ns (hsz := by ktn_open) (s := ⟨_, _, _, _, _⟩) (by k_asm) (by k_asm) ?_); intro _ _ _ _ _)
  k_with "subscriptTail Name Slice str ref" => ((with_reducible show wpAny _ _ (subscriptTail _ (Expr.Slice (some _) none none _) _ _) _ _ _); (refine slice_strN_sn (hsz := by ktn_open) (s := ⟨_, _, _, _, _⟩) (by k_asm) (by k_asm) ?_); intro _ _ _ _ _)
  k_with "call builtin:len" => ((with_reducible show wpAny _ _ (call (Value.builtin "len") [Value.str (S _) _]) _ _ _); refine lenS (by ktn_open) ?_)
  k_with "eval ListComp" => (k_here; (with_reducible show wpAny _ _ (eval (Expr.ListComp _ [⟨_, _, [], _⟩] _ _) _) _ _ _); k_dflt (refine LCg.ListComp_U (F₀ := by k_asm) (by with_unfolding_all rfl) (by decide) (by rfl) (by decide) (by rfl) ?_))
  k_with "eval ListComp" => (k_here; (with_reducible show wpAny _ _ (eval (Expr.ListComp _ [⟨_, _, [_], _⟩] _ _) _) _ _ _); k_dflt (refine LCt.ListComp_T (F₀ := by k_asm) (by with_unfolding_all rfl) (by decide) (by rfl) (by decide) (by rfl) ?_))
  k_with "exec Assign cons ListComp" => (k_here; k_dflt (refine LCg.Assign_ListComp_U (F₀ := by k_asm) (by rfl) (by with_unfolding_all rfl) (by with_unfolding_all rfl) (by decide) (by rfl) (by decide) (by rfl) (by rfl) (by rfl) ?_))
  k_with "getMethod ref" => k_dflt (first | refine meth_L PySem.F.slot_list_count PySem.F.type_list_count (by k_asm) (by k_mem) ?_ | refine meth_L PySem.F.slot_list_append PySem.F.type_list_append (by k_asm) (by k_mem) ?_ | refine meth_L PySem.F.slot_list_pop PySem.F.type_list_pop (by k_asm) (by k_mem) ?_ | refine meth_L PySem.F.slot_list_remove PySem.F.type_list_remove (by k_asm) (by k_mem) ?_ | refine meth_L PySem.F.slot_list_extend PySem.F.type_list_extend (by k_asm) (by k_mem) ?_)
  k_with "stop" => with_reducible first | show wpAny _ _ (PySem.call (Value.ref _) _ _) _ _ _ | show wpAny _ _ (exec (Stmt.While _ _ _ _) _) _ _ _ | show wpAny _ _ (exec (Stmt.For _ _ _ _ _) _) _ _ _ | show wpAny _ _ (exec (Stmt.Try _ _ _ _ _) _) _ _ _ | show wpAny _ _ (pyIter _) _ _ _ | show wpAny _ _ (binaryOp Operator.Mult (Value.ref _) (Value.int _ _)) _ _ _ | show LCg.CompSrc _ _ _ _ _ _ _ _ _ _ _ _ _ _ | show wpAny _ _ (binaryOp Operator.Add (Value.ref _) (Value.ref _)) _ _ _ | show wpAny _ _ (PySem.call (Value.builtin "sorted") _ _) _ _ _ | show wpAny _ _ (PySem.call (Value.builtin "list.count") _ _) _ _ _ | show wpAny _ _ (PySem.call (Value.builtin "list.extend") _ _) _ _ _ | show wpAny _ _ (PySem.call (Value.builtin "list.append") _ _) _ _ _ | show wpAny _ _ (PySem.call (Value.builtin "len") [Value.ref _] _) _ _ _ | show wpAny _ _ (subscriptTail _ _ (Value.ref _) _) _ _ _ | show LCt.CompSrcT _ _ _ _ _ _ _ _ _ _ _ _ _ _ _ | show Exists _ | show wpAny _ _ (compareOp CmpOp.NotEq (Value.ref _) (Value.ref _)) _ _ _ | show wpAny _ _ (compareOp CmpOp.Eq (Value.ref _) (Value.ref _)) _ _ _
  k_dflt ktr_enter
  refine wpAny_mono (E := fun _ _ => False) ?_ (fun _ _ h => h) (fun _ _ h => h.elim)
  tb_rel
  rename News _ _ _ ((_, _) :: (aa, _) :: (ae, _) :: rest) => N2
  rename Fr _ _ _ _ => F2
  rename (_ ∧ _ ∧ AllLt _ rest) => lt2
  obtain ⟨ea, ee, er0⟩ := lt2
  have er := ktn_ltOf er0
  refine While_inv2 (s := ⟨_, _, _, _, _⟩) (n₀ := 1) (JUl1 aa ae _ as y ty rest) F2 N2 ⟨by rfl, by rfl, by rfl, _, _, _, _, .inl ⟨rfl, rfl, hA⟩⟩ ?_
  clear F2 N2
  intro n m3 nw3 h3 tk3 F3 N3 J3
  obtain ⟨k1, k2, k3, vE, nE, va3, na3, J3⟩ := J3
  k_with "eval Name" => (k_here; k_dflt (refine ld (by k_asm) (by assumption) ?_); k_whole)
  tb_rel
  try dsimp only
  rcases J3 with ⟨rfl, rfl, hA3⟩ | ⟨rfl, rfl, hA3⟩
  · refine truthy_L (s := ⟨_, _, _, _, _⟩) N3 (by k_mem) (xs := [y]) (.cons _ _ .nil) (by simp) ?_
    rw [decide_eq_true (by simp), if_pos rfl]
    try dsimp only
    tb_rel
    refine pop_L (vs := []) (s := ⟨_, _, _, _, _⟩) F3 N3 (.tail (Nat.ne_of_gt ee) (.tail hne (.head hre))) (by simp) ?_
    clear F3 N3
    intro h5 F5 N5
    try dsimp only
    tb_rel
    refine wpAny_Try_except ?_
    tb_rel
    rename Fr _ _ _ _ => F6
    rename News _ _ _ ((_, _) :: (aa, _) :: (ae, _) :: rest) => N6
    refine remove_L (s := ⟨_, _, _, _, _⟩) F6 N6 hA3 hy (fun zs => .tail (Nat.ne_of_gt ea) (.head ?_)) (by lia) ?_
    · intro p hp
      rcases List.mem_cons.mp hp with rfl | hp
      · exact hne.symm
      · exact hra p hp
    clear F6 N6
    intro zs7 h7 F7 N7 hA7
    try dsimp only
    tb_rel
    exact ⟨_, _, _, _, 0, rfl, F7, N7, by lia, by exact k1, by exact k2, by exact k3, _, _, _, _, .inr ⟨rfl, rfl, hA7⟩⟩
  · refine truthy_L (s := ⟨_, _, _, _, _⟩) N3 (by k_mem) (xs := []) .nil (by simp) ?_
    rw [decide_eq_false (by simp), if_neg (by decide)]
    try dsimp only
    tb_rel
    rename News h₀ L _ _ => N9
    rename Fr h₀ L _ _ => F9
    rename (_ ∧ _ ∧ _ ∧ AllLt _ rest) => l9
    refine hret _ _ va3 na3 _ _ F9 (fun p hp => N9 p ?_) er l9.1 ea hA3
    simp only [List.mem_cons] at hp ⊢
    rcases hp with h | h | h | h <;> simp [h]
theorem off_E2 : True := by
  w_top off
  trivial
theorem t_struck (w : World) {ab : Addr} {vb : List Value} {nb : Nat} (bag : List (List Nat)) (y : List Nat) (ty : Tok) (news : List (Addr × Obj)) (hB : Are vb bag) (hb : (ab, listOf (List.toArray vb) nb) ∈ news) (hl : bag.length < 1000) (hy : y ∈ bag) :
    Ctr w 136 4 [.ref ab, .str (S y) ty] news (OutL (bag.erase y)) := by
  unfold Ctr
  intro dp un gd cn cs a ccd cl outer A₀ base h₀ L m s Q E p loose mean mg mb B F X N T hk hd hu hret
  refine wpAny_call ?_
  k_with_none
  k_with "WhileStep2 brk" => dsimp only [WhileStep2]
  k_with "binaryOp Add str str" => ((refine PyProof.Rows.add_str ?_ (hsz := by ktn_open)); intro _ _)
  k_with "subscriptTail Name Slice str ref" => ((with_reducible show wpAny _ _ (subscriptTail _ (Expr.Slice none (some _) none _) _ _) _ _ _); (refine slice_strN_ns (hsz := by ktn_open) (s := ⟨_, _, _, _, _⟩) (by k_asm) (by k_asm) ?_); intro _ _ _ _ _)
  k_with "subscriptTail Name Slice str ref" => ((with_reducible show wpAny _ _ (subscriptTail _ (Expr.Slice (some _) none none _) _ _) _ _ _); (refine slice_strN_sn (hsz := by ktn_open) (s := ⟨_, _, _, _, _⟩) (by k_asm) (by k_asm) ?_); intro _ _ _ _ _)
  k_with "call builtin:len" => ((with_reducible show wpAny _ _ (call (Value.builtin "len") [Value.str (S _) _]) _ _ _); refine lenS (by ktn_open) ?_)
  k_with "eval ListComp" => (k_here; (with_reducible show wpAny _ _ (eval (Expr.ListComp _ [⟨_, _, [], _⟩] _ _) _) _ _ _); k_dflt (refine LCg.ListComp_U (F₀ := by k_asm) (by with_unfolding_all rfl) (by decide) (by rfl) (by decide) (by rfl) ?_))
  k_with "eval ListComp" => (k_here; (with_reducible show wpAny _ _ (eval (Expr.ListComp _ [⟨_, _, [_], _⟩] _ _) _) _ _ _); k_dflt (refine LCt.ListComp_T (F₀ := by k_asm) (by with_unfolding_all rfl) (by decide) (by rfl) (by decide) (by rfl) ?_))
  k_with "exec Assign cons ListComp" => (k_here; k_dflt (refine LCg.Assign_ListComp_U (F₀ := by k_asm) (by rfl) (by with_unfolding_all rfl) (by with_unfolding_all rfl) (by decide) (by rfl) (by decide) (by rfl) (by rfl) (by rfl) ?_))
  k_with "getMethod ref" => k_dflt (first | refine meth_L PySem.F.slot_list_count PySem.F.type_list_count (by k_asm) (by k_mem) ?_ | refine meth_L PySem.F.slot_list_append PySem.F.type_list_append (by k_asm) (by k_mem) ?_ | refine meth_L PySem.F.slot_list_pop PySem.F.type_list_pop (by k_asm) (by k_mem) ?_ | refine meth_L PySem.F.slot_list_remove PySem.F.type_list_remove (by k_asm) (by k_mem) ?_ | refine meth_L PySem.F.slot_list_extend PySem.F.type_list_extend (by k_asm) (by k_mem) ?_)
  k_with "stop" => with_reducible first | show wpAny _ _ (PySem.call (Value.ref _) _ _) _ _ _ | show wpAny _ _ (exec (Stmt.While _ _ _ _) _) _ _ _ | show wpAny _ _ (exec (Stmt.For _ _ _ _ _) _) _ _ _ | show wpAny _ _ (exec (Stmt.Try _ _ _ _ _) _) _ _ _ | show wpAny _ _ (pyIter _) _ _ _ | show wpAny _ _ (binaryOp Operator.Mult (Value.ref _) (Value.int _ _)) _ _ _ | show LCg.CompSrc _ _ _ _ _ _ _ _ _ _ _ _ _ _ | show wpAny _ _ (binaryOp Operator.Add (Value.ref _) (Value.ref _)) _ _ _ | show wpAny _ _ (PySem.call (Value.builtin "sorted") _ _) _ _ _ | show wpAny _ _ (PySem.call (Value.builtin "list.count") _ _) _ _ _ | show wpAny _ _ (PySem.call (Value.builtin "list.extend") _ _) _ _ _ | show wpAny _ _ (PySem.call (Value.builtin "list.append") _ _) _ _ _ | show wpAny _ _ (PySem.call (Value.builtin "len") [Value.ref _] _) _ _ _ | show wpAny _ _ (subscriptTail _ _ (Value.ref _) _) _ _ _ | show LCt.CompSrcT _ _ _ _ _ _ _ _ _ _ _ _ _ _ _ | show Exists _ | show wpAny _ _ (compareOp CmpOp.NotEq (Value.ref _) (Value.ref _)) _ _ _ | show wpAny _ _ (compareOp CmpOp.Eq (Value.ref _) (Value.ref _)) _ _ _
  k_dflt ktr_enter
  refine wpAny_mono (E := fun _ _ => False) ?_ (fun _ _ h => h) (fun _ _ h => h.elim)
  tb_rel
  refine slice_all_L (by k_asm) (by k_asm) (by k_mem) hB (by lia) ?_
  intro D7 h7 F7 N7 lt7
  try dsimp only
  tb_rel
  rename (∀ p ∈ news, p.1 < _) => lt6
  have l67 := lt7 _ (.head _)
  k_dflt (refine t_uld1 w news hB hl hy (Nat.ne_of_gt l67) (fun p hp => Nat.ne_of_lt (lt7 p (.tail _ hp))) (fun p hp => Nat.ne_of_lt (lt6 p hp)) _ _ _ _ _ _ _ _ _ _ _ _ _ _ _ _ _ _ _ _ _ _ (by k_asm) (by k_asm) (by k_asm) (by k_asm) (by k_asm) rfl (by ktr_room) (by ktr_units) ?_)
  intro T8 am8 va8 na8 h8 tk8 F8 N8 lt8 lt8' lt8'' hA8
  try dsimp only
  tb_rel
  walk1
  try dsimp only
  tb_rel
  walk1
  try dsimp only
  tb_rel
  refine add_L (by k_asm) (by k_asm) (by k_mem) (by k_mem) hA8 (ys := []) .nil (by rw [sizeLine_eq]; simp; have := List.length_erase_le (a := y) (l := bag); lia) ?_
  intro D9 zs9 h9 F9 N9 lt9 hA9
  rw [List.append_nil] at hA9
  try dsimp only
  tb_rel
  rename News h₀ L _ _ => N10
  rename Fr h₀ L _ _ => F10
  exact hret _ [(D9, listOf (List.toArray zs9) 0)] _ _ F10 (keep1 (mid := [(T8, tup2 am8 D7 0), (am8, listOf (List.toArray []) 0), (D7, listOf (List.toArray va8) na8)]) N10) (off_of_lt' fun p hp => lt9 p (.tail _ (.tail _ (.tail _ hp)))) ⟨_, _, _, rfl, rfl, hA9⟩
theorem off_E3 : True := by
  w_top off
  trivial
section
variable {prog : Program} {w : World} {A : Around} {E : Value → Shared → Prop} {s : Shared} {env : Env} {h₀ : Heap} {x : Str} {body : List Stmt}
theorem iter_L {L a : Addr} {m : Str → Option Value} {news : List (Addr × Obj)} {vs : List Value} {n : Nat} {Q : Value → Shared → Prop} (F : Fr h₀ L s.heap m) (N : News h₀ L s.heap news) (ha : (a, listOf (List.toArray vs) n) ∈ news)
    (h : ∀ I h' oI, Fr h₀ L h' m → News h₀ L h' ((I, oI) :: news) → (∀ p ∈ news, p.1 < I) → (∀ h'' : Heap, h''.get? I = some oI → h''.IsListIter I a 0) → Q (.ref I) { s with heap := h' }) :
    wpAny (model prog w) A (call (.builtin "iter") [.ref a]) Q E s := by
  refine call_function_entry (by decide +kernel) (by decide +kernel) kdk_entry_iter (kdk_args_iter _) ?_
  unfold Builtin.«iter»
  refine wpAny_bind (m := someArgs "iter" 1 2 _) (wpAny_of_eq (a := [Value.ref a]) (by first | rfl | kernel_rfl!) ?_)
  show wpAny _ _ (pyIter (.ref a) >>= _) _ _ _
  refine wpAny_bind (wpAny_pyIter_list ⟨_, N.get ha, rfl, _, rfl⟩ ?_)
  exact wpAny_pure ⟨_, rfl, h _ _ _ (F.push _) (News.push F N _ rfl) (fun q hq => Heap.lt_size (N q hq).1) fun _ e => ⟨_, e, rfl, rfl⟩⟩
/-- a loop over a list's iterator, by what holds between its turns -/
theorem iter_loop {Q : Flow → Shared → Prop} {I ax : Addr} {oI : Obj} {vs : List Value} {e : Nat} {m₀ : Str → Option Value} {news : List (Addr × Obj)} (J : Nat → (Str → Option Value) → List (Addr × Obj) → Prop)
    (hh : A.handled = none) (hI : s.heap.IsListIter I ax 0) (F : Fr h₀ env.locals s.heap m₀) (N : News h₀ env.locals s.heap ((I, oI) :: news)) (hoff : ∀ p ∈ news, p.1 ≠ I) (hj : J 0 m₀ news)
    (hmem : ∀ i m nw, J i m nw → (ax, listOf (List.toArray vs) e) ∈ nw)
    (turn : ∀ i v m₁ news₁ oI h tk, vs[i]? = some v → J i m₁ news₁ → (∀ p ∈ news₁, p.1 ≠ I) → Fr h₀ env.locals h (fun y => if y = x then some v else m₁ y) → News h₀ env.locals h ((I, oI) :: news₁) →
      wpAny (model prog w) A (execs body env) (RStep h₀ env.locals s Q I oI (J (i + 1))) E { s with heap := h, toks := tk })
    (done : ∀ m₁ news₁ h tk, J vs.length m₁ news₁ → Fr h₀ env.locals h m₁ → News h₀ env.locals h news₁ → Q .next { s with heap := h, toks := tk }) :
    wpAny (model prog w) A (pyIter (.ref I)) (fun it s₂ => LoopAtV prog w A h₀ env x body Q E it s₂) E s := by
  have hax := hmem _ _ _ hj
  have nI := N (I, oI) (.head _)
  have nA := N _ (.tail _ hax)
  have hne : ax ≠ I := hoff _ hax
  refine wpAny_pyIter_listiter hI ?_
  have W := Walks.list (prog := prog) (w := w) hh I ax hne vs.toArray
  rw [List.size_toArray] at W
  refine ⟨I, _, _, vs.length, _, _, m₀, news, J, rfl, W, ?_, ?_, ?_, ⟨hI, _, nA.1, rfl, _, rfl⟩, F, (fun p hp => N p (.tail _ hp)), hj, ?_, ?_⟩
  · intro hm
    simp only [List.mem_cons, List.not_mem_nil, or_false] at hm
    rcases hm with h | h
    · exact nI.2.1 h.symm
    · exact nA.2.1 h.symm
  · intro b hb
    rw [List.mem_singleton.mp hb]
    exact nI.2.2
  · intro p hp hm
    exact hoff p hp (List.mem_singleton.mp hm)
  · rintro i v m₁ news₁ s₁ own ⟨hh', tk', rfl⟩ hin hv hJ hoff hown hget hall hSt F₁ N₁
    obtain ⟨⟨oI', e', r'⟩, hL'⟩ := hSt
    have hI := hall I (.head _) nI.2.2 _ e'
    have off' : ∀ p ∈ news₁, p.1 ≠ I := fun p hp q => hoff p hp (by rw [q]; exact .head _)
    have N₂ : News h₀ env.locals hh' ((I, oI') :: news₁) := fun p hp => by
      rcases List.mem_cons.mp hp with rfl | hp
      · exact N₁ _ (List.mem_append_left _ hI)
      · exact N₁ p (List.mem_append_right _ hp)
    have hax₁ := hmem _ _ _ hJ
    have two : ∀ p ∈ own, p = (I, oI') ∨ p = (ax, listOf (List.toArray vs) e) := fun p hp => by
      have h2 : hh'.get? p.1 = some p.2 := hget p hp
      have h1 := hown p hp
      simp only [List.mem_cons, List.not_mem_nil, or_false] at h1
      rcases h1 with h1 | h1
      · rw [h1, e'] at h2
        exact .inl (Prod.ext h1 (Option.some.inj h2).symm)
      · rw [h1, (N₂ _ (.tail _ hax₁)).1] at h2
        exact .inr (Prod.ext h1 (Option.some.inj h2).symm)
    refine wpAny_mono (turn i v m₁ news₁ _ hh' tk' (by simpa using hv) hJ off' F₁ N₂) (fun f s₂ p => ?_) fun _ _ e => e
    have fin : RStep h₀ env.locals s Q I oI' (J (i + 1)) .next s₂ → LoopStepU h₀ env.locals [I] own (J (i + 1)) { s with heap := hh', toks := tk' } .next s₂ := by
      rintro ⟨h', tk, m', news', e', F', N', ho, hm⟩
      refine ⟨rfl, h', tk, m', news', e', F', fun p hp => ?_, fun p hp hq => ho p hp (List.mem_singleton.mp hq), hm⟩
      rcases List.mem_append.mp hp with hp | hp
      · rcases two p hp with rfl | rfl
        · exact N' _ (.head _)
        · exact N' _ (.tail _ (hmem _ _ _ hm))
      · exact N' p (.tail _ hp)
    cases f with
    | ret v => exact .ret p
    | brk => exact .brk p
    | next => exact .next (fin p)
    | cont => exact .cont (fin p)
  · rintro h' tk m' news' F' N' _ hJ
    exact done m' news' h' tk hJ F' N'
end
def JRed (ab : Addr) (bag ys : List (List Nat)) (news : List (Addr × Obj)) (i : Nat) (m : Str → Option Value) (nw : List (Addr × Obj)) : Prop :=
  m (Str.ofString "function") = some (.ref 136) ∧ ((i = 0 ∧ nw = news ∧ m (Str.ofString "value") = some (.ref ab)) ∨
   (0 < i ∧ ∃ a vs n, nw = (a, listOf (List.toArray vs) n) :: news ∧ (∀ p ∈ news, p.1 ≠ a) ∧ m (Str.ofString "value") = some (.ref a) ∧ Are vs ((ys.take i).foldl List.erase bag)))
theorem foldl_erase_len : ∀ (ys bag : List (List Nat)), (ys.foldl List.erase bag).length ≤ bag.length
  | [], _ => Nat.le_refl _
  | y :: ys, bag => Nat.le_trans (foldl_erase_len ys _) (by simpa using List.length_erase_le)
theorem t_reduce (w : World) {ab ay : Addr} {vb vy : List Value} {nb ny : Nat} (bag ys : List (List Nat)) (news : List (Addr × Obj)) (hB : Are vb bag) (hY : Are vy ys) (hb : (ab, listOf (List.toArray vb) nb) ∈ news) (hyy : (ay, listOf (List.toArray vy) ny) ∈ news) (hl : bag.length < 1000) (hly : ys.length < 1000) (hy0 : 0 < ys.length)
    (hsub : ∀ i, i < ys.length → ys.getD i [] ∈ (ys.take i).foldl List.erase bag) :
    Ctr w 62 6 [.ref 136, .ref ay, .ref ab] news (OutL (ys.foldl List.erase bag)) := by
  unfold Ctr
  intro dp un gd cn cs a ccd cl outer A₀ base h₀ L m s Q E p loose mean mg mb B F X N T hk hd hu hret
  refine wpAny_call ?_
  k_with_none
  k_with "WhileStep2 brk" => dsimp only [WhileStep2]
  k_with "binaryOp Add str str" => ((refine PyProof.Rows.add_str ?_ (hsz := by ktn_open)); intro _ _)
  k_with "subscriptTail Name Slice str ref" => ((with_reducible show wpAny _ _ (subscriptTail _ (Expr.Slice none (some _) none _) _ _) _ _ _); (refine slice_strN_ns (hsz := by ktn_open) (s := ⟨_, _, _, _, _⟩) (by k_asm) (by k_asm) ?_); intro _ _ _ _ _)
  k_with "subscriptTail Name Slice str ref" => ((with_reducible show wpAny _ _ (subscriptTail _ (Expr.Slice (some _) none none _) _ _) _ _ _); (refine slice_strN_sn (hsz := by ktn_open) (s := ⟨_, _, _, _, _⟩) (by k_asm) (by k_asm) ?_); intro _ _ _ _ _)
  k_with "call builtin:len" => ((with_reducible show wpAny _ _ (call (Value.builtin "len") [Value.str (S _) _]) _ _ _); refine lenS (by ktn_open) ?_)
  k_with "eval ListComp" => (k_here; (with_reducible show wpAny _ _ (eval (Expr.ListComp _ [⟨_, _, [], _⟩] _ _) _) _ _ _); k_dflt (refine LCg.ListComp_U (F₀ := by k_asm) (by with_unfolding_all rfl) (by decide) (by rfl) (by decide) (by rfl) ?_))
  k_with "eval ListComp" => (k_here; (with_reducible show wpAny _ _ (eval (Expr.ListComp _ [⟨_, _, [_], _⟩] _ _) _) _ _ _); k_dflt (refine LCt.ListComp_T (F₀ := by k_asm) (by with_unfolding_all rfl) (by decide) (by rfl) (by decide) (by rfl) ?_))
  k_with "exec Assign cons ListComp" => (k_here; k_dflt (refine LCg.Assign_ListComp_U (F₀ := by k_asm) (by rfl) (by with_unfolding_all rfl) (by with_unfolding_all rfl) (by decide) (by rfl) (by decide) (by rfl) (by rfl) (by rfl) ?_))
  k_with "getMethod ref" => k_dflt (first | refine meth_L PySem.F.slot_list_count PySem.F.type_list_count (by k_asm) (by k_mem) ?_ | refine meth_L PySem.F.slot_list_append PySem.F.type_list_append (by k_asm) (by k_mem) ?_ | refine meth_L PySem.F.slot_list_pop PySem.F.type_list_pop (by k_asm) (by k_mem) ?_ | refine meth_L PySem.F.slot_list_remove PySem.F.type_list_remove (by k_asm) (by k_mem) ?_ | refine meth_L PySem.F.slot_list_extend PySem.F.type_list_extend (by k_asm) (by k_mem) ?_)
  k_with "stop" => with_reducible first | show wpAny _ _ (PySem.call (Value.ref _) _ _) _ _ _ | show wpAny _ _ (exec (Stmt.While _ _ _ _) _) _ _ _ | show wpAny _ _ (exec (Stmt.For _ _ _ _ _) _) _ _ _ | show wpAny _ _ (exec (Stmt.Try _ _ _ _ _) _) _ _ _ | show wpAny _ _ (pyIter _) _ _ _ | show wpAny _ _ (binaryOp Operator.Mult (Value.ref _) (Value.int _ _)) _ _ _ | show LCg.CompSrc _ _ _ _ _ _ _ _ _ _ _ _ _ _ | show wpAny _ _ (binaryOp Operator.Add (Value.ref _) (Value.ref _)) _ _ _ | show wpAny _ _ (PySem.call (Value.builtin "sorted") _ _) _ _ _ | show wpAny _ _ (PySem.call (Value.builtin "list.count") _ _) _ _ _ | show wpAny _ _ (PySem.call (Value.builtin "list.extend") _ _) _ _ _ | show wpAny _ _ (PySem.call (Value.builtin "list.append") _ _) _ _ _ | show wpAny _ _ (PySem.call (Value.builtin "len") [Value.ref _] _) _ _ _ | show wpAny _ _ (subscriptTail _ _ (Value.ref _) _) _ _ _ | show LCt.CompSrcT _ _ _ _ _ _ _ _ _ _ _ _ _ _ _ | show Exists _ | show wpAny _ _ (compareOp CmpOp.NotEq (Value.ref _) (Value.ref _)) _ _ _ | show wpAny _ _ (compareOp CmpOp.Eq (Value.ref _) (Value.ref _)) _ _ _
  k_dflt ((refine' code_def ?k1 ?k2 ?k3 ?k4 ?k5 ?kA ?kF ?kK ?k6 ?k7 ?k8 ?k9 ?kB ?_ ?c2 ?c3 ?c4 ?c5; (case kA => exact rfl); (case kF => exact rfl); (case kK => assumption); (case k1 => k_asm); (case k2 => k_asm); (case k3 => k_asm); (case k4 => k_asm); (case k5 => k_asm); (case k6 => k_is); (case k7 => k_is); (case k8 => ktr_room); (case k9 => exact binds_K (by k_in) rfl (by k_is) rfl rfl rfl); (case c5 => decide); (case kB => exact locs rfl); (case c2 => exact rfl); (case c3 => exact rfl); (case c4 => exact rfl); k_whole; intro g' L' h' FG' F' N' B' X' T'; (try dsimp only); (try k_fold)))
  refine wpAny_mono (E := fun _ _ => False) ?_ (fun _ _ h => h) (fun _ _ h => h.elim)
  tb_rel
  refine iter_L (by k_asm) (by k_asm) hyy ?_
  intro I1 h1 oI1 F1 N1 lt1 hI1
  try dsimp only
  tb_rel
  rename News _ _ _ ((I1, oI1) :: news) => N2
  rename Fr _ _ _ _ => F2
  refine For_invVF F2 rfl rfl ?_
  tb_rel
  try dsimp only
  refine iter_loop (vs := vy) (e := ny) (JRed ab bag ys news) rfl (hI1 _ (N2 _ (.head _)).1) F2 N2 (fun p hp => Nat.ne_of_lt (lt1 p hp)) ⟨rfl, .inl ⟨rfl, rfl, rfl⟩⟩ ?_ ?_ ?_
  · rintro i m nw ⟨_, ⟨_, rfl, _⟩ | ⟨_, _, _, _, rfl, _⟩⟩
    · exact hyy
    · exact .tail _ hyy
  · clear F2 N2
    intro i v m1 nw1 oI h2 tk2 hv J2 off2 F2 N2
    obtain ⟨hfn, J2⟩ := J2
    have hi : i < ys.length := by rw [← hY.len]; exact (List.getElem?_eq_some_iff.mp hv).1
    obtain ⟨t, ht⟩ := are_at hY hi
    rw [ht] at hv
    obtain rfl := Option.some.inj hv
    obtain ⟨a3, vs3, n3, hval, hmem3, hA3⟩ : ∃ a3 vs3 n3, m1 (Str.ofString "value") = some (.ref a3) ∧ (a3, listOf (List.toArray vs3) n3) ∈ nw1 ∧ Are vs3 ((ys.take i).foldl List.erase bag) := by
      rcases J2 with ⟨rfl, rfl, h⟩ | ⟨_, a, vs, n, rfl, _, h, hA⟩
      · exact ⟨_, _, _, h, hb, hB⟩
      · exact ⟨_, _, _, h, .head _, hA⟩
    have hnn : ∀ p ∈ news, p ∈ nw1 := by
      rcases J2 with ⟨rfl, rfl, h⟩ | ⟨_, a, vs, n, rfl, _, h, hA⟩
      · exact fun p hp => hp
      · exact fun p hp => .tail _ hp
    clear J2
    try dsimp only
    k_with "eval Name" => (k_here; k_dflt (refine ld (by k_asm) (by assumption) ?_); k_whole)
    tb_rel
    have hs := hsub i hi
    rw [show ys.getD i [] = ys[i] by simp [hi]] at hs
    k_dflt (refine Ctr.useL (t_struck w _ _ _ _ hA3 (.tail _ hmem3) (Nat.lt_of_le_of_lt (foldl_erase_len _ _) hl) hs) (by k_asm) (by k_asm) (by k_asm) (by k_asm) (by k_asm) rfl (by ktr_room) (by ktr_units) ?_)
    intro a4 vs4 n4 h4 tk4 F4 N4 off4 hA4
    try dsimp only
    tb_rel
    rename Fr _ _ _ _ => F5
    rename News _ _ _ ((a4, _) :: _) => N5
    have o4 : ∀ p ∈ (I1, oI) :: nw1, p.1 ≠ a4 := fun p hp => off4 p hp _ (.head _)
    refine ⟨_, _, _, (a4, listOf (List.toArray vs4) n4) :: news, rfl, F5, ?_, ?_, hfn, .inr ⟨by lia, _, _, _, rfl, fun p hp => o4 p (.tail _ (hnn p hp)), rfl, ?_⟩⟩
    · intro p hp
      simp only [List.mem_cons] at hp
      rcases hp with rfl | rfl | hp
      · exact N5 _ (.tail _ (.head _))
      · exact N5 _ (.head _)
      · exact N5 p (.tail _ (.tail _ (hnn p hp)))
    · intro p hp
      rcases List.mem_cons.mp hp with rfl | hp
      · exact (o4 _ (.head _)).symm
      · exact off2 p (hnn p hp)
    · rw [List.take_add_one, List.getElem?_eq_getElem hi, List.foldl_append]
      exact hA4
  · clear F2 N2
    intro m1 nw1 h2 tk2 J2 F2 N2
    obtain ⟨hfn, ⟨h0, _⟩ | ⟨_, a3, vs3, n3, rfl, off3, hval, hA3⟩⟩ := J2
    · rw [hY.len] at h0; lia
    try dsimp only
    k_with "eval Name" => (k_here; k_dflt (refine ld (by k_asm) (by assumption) ?_); k_whole)
    tb_rel
    rename Fr _ _ _ _ => F5
    rename News _ _ _ ((a3, _) :: _) => N5
    rw [hY.len, List.take_length] at hA3
    exact hret _ [(a3, _)] _ _ F5 N5 (fun p hp q hq => by rw [List.mem_singleton.mp hq]; exact off3 p hp) ⟨_, _, _, rfl, rfl, hA3⟩
theorem off_F0 : True := by
  w_top off
  trivial
theorem f1 : isSubtype (.type "type") (.type "type") = pure true := by rw [isSubtype_type]; kernel_rfl
theorem f2 : Builtin.notOverATurnedClass [.type "object"] = pure () := by kernel_rfl
theorem f3 : Builtin.extendedBase [.type "object"] = pure (.type "object") := by kernel_rfl
theorem f4 : typeOf (.type "object") = pure (.type "type") := by kernel_rfl
theorem f5 : Builtin.mroHook? (.type "type") = pure none := by kernel_rfl
theorem f6 : Builtin.linearize [.type "object"] mroOf = pure [.type "object"] := by kernel_rfl
theorem f7 : Bind.madeBy (.type "object") = pure (some "object.__new__") := by kernel_rfl
theorem f8 : Builtin.Slots.givesWeak (.type "object") = pure false := by kernel_rfl
theorem f9 : Builtin.Slots.givesDict (.type "object") = pure false := by kernel_rfl
theorem f10 : Builtin.Slots.bestBase [.type "object"] = pure (.type "object") := by kernel_rfl
theorem f11 : Builtin.Slots.slotNamesOf (.type "object") = pure [] := by kernel_rfl
theorem f12 : Builtin.Slots.varSize (.type "object") = pure false := by kernel_rfl
theorem forIn_one {α β : Type} {M : Model} {A : Around} {E : Value → Shared → Prop} {s : Shared} {x : α} {b : β} {f : α → β → Sem (ForInStep β)} {Q : β → Shared → Prop}
    (h : wpAny M A (f x b) (fun r s' => match r with | .done b' => Q b' s' | .yield b' => Q b' s') E s) : wpAny M A (forIn [x] b f) Q E s := by
  rw [List.forIn_cons]
  refine wpAny_bind (wpAny_mono h (fun r s' hr => ?_) fun _ _ e => e)
  cases r with
  | done b' => exact wpAny_pure hr
  | yield b' => show wpAny M A (forIn [] b' f) Q E s'; rw [List.forIn_nil]; exact wpAny_pure hr
theorem forIn_oneA {α β : Type} {M : Model} {A : Around} {E : Value → Shared → Prop} {s : Shared} {x : α} {b : β} {f : α → β → Sem (ForInStep β)} {Q : β → Shared → Prop}
    (h : wpAny M A (f x b) (fun r s' => match r with | .done b' => Q b' s' | .yield b' => Q b' s') E s) : wpAny M A (forIn #[x] b f) Q E s := by
  rw [← Array.forIn_toList]
  exact forIn_one h
theorem slots_read {prog : Program} {w : World} {A : Around} {E : Value → Shared → Prop} {h : Heap} {g : Array GenState} {d : Drawn} {t : Nat} {os : OsState} {Q : Builtin.Slots.Plan → Shared → Prop}
   {sl : Addr} {es : Array DictEntry} {hh : Int} {kk : Value} {t1 : Tok}
   (hf : es.find? (fun e => e.key.isStr (Str.ofString "__slots__")) = some ⟨hh, kk, .ref sl⟩) (hl : h.IsList sl #[.str (Str.ofString "obj") t1]) (hno : (es.any fun e => e.key.isStr (Str.ofString "obj")) = false)
   (hq : ∀ h', (∀ b o, h.get? b = some o → h'.get? b = some o) → Q { names := [Str.ofString "obj"], dict := false, weak := false, inherited := [] } ⟨h', g, d, t, os⟩) :
   wpAny (model prog w) A (Builtin.Slots.read (Str.ofString "K") [.type "object"] es) Q E ⟨h, g, d, t, os⟩ := by
  unfold Builtin.Slots.read
  refine wpAny_bind (wpAny_of_eq f10 (wpAny_bind (wpAny_of_eq f11 (wpAny_bind (wpAny_of_eq f9 (wpAny_bind (wpAny_of_eq f8 (wpAny_bind (wpAny_of_eq f12 ?_)))))))))
  rw [hf]
  obtain ⟨oL, hL, hLc, nL, hLd⟩ := id hl
  iterate 4 wp_step
  refine wpAny_bind (wpAny_load hL ?_)
  rw [hLd]
  iterate 3 wp_step
  refine wpAny_collect_seq sl (.inl rfl) hL hLc hLd ?_ (by rw [sizeLine_eq]; show 1 ≤ _; decide)
  intro h1 k1
  show wpAny _ _ _ _ _ ⟨h1, g, d, t, os⟩
  iterate 2 wp_step
  refine wpAny_of_eq f12 ?_
  iterate 2 wp_step
  refine forIn_one (x := Value.str (Str.ofString "obj") t1) ?_
  repeat wp_step
  rw [show Builtin.Slots.isIdentifier (Str.ofString "obj") = some true from by decide +kernel]
  iterate 6 wp_step
  wp_step
  refine forIn_oneA (x := Str.ofString "obj") ?_
  have hm : Builtin.Slots.mangle (Str.ofString "K") (Str.ofString "obj") = Str.ofString "obj" := by decide +kernel
  iterate 5 wp_step
  refine forIn_one (x := Value.type "object") ?_
  iterate 3 wp_step
  have e := hq h1 k1
  rw [← hm] at e
  exact e
/-- a dict by its names, its class and size known -/
def NsD (h : Heap) (a : Addr) (m : Str → Option Value) (n : Nat) : Prop :=
  ∃ dd es ep sl, h.get? a = some ⟨.type "dict", dd, .dict es ep, sl⟩ ∧ StrKeys es ∧ UniqKeys es ∧ (∀ x, nsFind es x = m x) ∧ es.size ≤ n
theorem NsD.n1 {h : Heap} {a : Addr} {m : Str → Option Value} {n : Nat} (x : NsD h a m n) : h.Ns1 a m := let ⟨dd, es, ep, sl, e, k, u, f, _⟩ := x; ⟨_, es, ep, e, rfl, k, u, f⟩
theorem NsD.ns {h : Heap} {a : Addr} {m : Str → Option Value} {n : Nat} (x : NsD h a m n) : h.Ns a m := x.n1.ns
theorem NsD.at {h h' : Heap} {a : Addr} {m : Str → Option Value} {n : Nat} (x : NsD h a m n) (k : ∀ o, h.get? a = some o → h'.get? a = some o) : NsD h' a m n := let ⟨dd, es, ep, sl, e, r⟩ := x; ⟨dd, es, ep, sl, k _ e, r⟩
section
variable {M : Model} {A : Around} {E : Value → Shared → Prop} {h : Heap} {g : Array GenState} {d : Drawn} {t : Nat} {os : OsState}
theorem nsSetD {a : Addr} {m : Str → Option Value} {n : Nat} {name : Str} {v : Value} {Q : Unit → Shared → Prop} (hn : NsD h a m n)
    (hq : ∀ h', NsD h' a (fun x => if x = name then some v else m x) (n + 1) → Heap.SameBut a h h' → Q () ⟨h', g, d, t + 1, os⟩) : wpAny M A (nsSet a name v) Q E ⟨h, g, d, t, os⟩ := by
  obtain ⟨dd, es, ep, sl, ho, hk, hu, hm, hz⟩ := hn
  unfold nsSet
  have hany : es.any (·.refKey) = false := by
    rw [Array.any_eq_false']; intro e he; obtain ⟨n, t, h⟩ := hk e he; simp [DictEntry.refKey, h]
  refine wpAny_bind (m := strHash name) ?_
  unfold strHash
  refine wpAny_bind (wpAny_askSetting (wpAny_pure ?_))
  refine wpAny_bind (wpAny_mkText ?_)
  refine wpAny_bind (wpAny_loadPart ho ?_)
  dsimp only
  rw [if_neg (by rw [aRefKeyMayBeTheName_at, hany]; simp)]
  refine wpAny_updatePart ho (hq _ ?_ (Heap.SameBut.update ..))
  cases hi : es.findIdx? (·.key.isStr name) with
  | some i =>
    refine ⟨dd, _, ep, sl, (Heap.get?_update_self _ ho (by simp only [Obj.putName_eq, Obj.putNameByArray, hi]; rfl)).trans (by simp only [Obj.putName_eq, Obj.putNameByArray, hi]; rfl), hk.modify _ _, hu.modify _ _, fun x => ?_, by simp; lia⟩
    show _ = if x = name then some v else m x
    rw [← hm]; exact findBy_modify (fun n v => v.isStr n) Value.isStr_inj es name x v i hi
  | none =>
    refine ⟨dd, _, ep + 1, sl, (Heap.get?_update_self _ ho (by simp only [Obj.putName_eq, Obj.putNameByArray, hi]; rfl)).trans (by simp only [Obj.putName_eq, Obj.putNameByArray, hi]; rfl), hk.push _ _ _ _, hu.push _ _ _ _ hi, fun x => ?_, by simp; lia⟩
    show _ = if x = name then some v else m x
    rw [← hm]
    exact findBy_push (fun n v => v.isStr n) es name x _ _ v (fun y => by
      show (name == y) = decide (y = name)
      by_cases h : y = name
      · subst h; simp
      · have : ¬ name = y := fun e => h e.symm
        simp [h, this]) hi
theorem newObj_g {T : String} {data : Data} {Q : Value → Shared → Prop}
    (hq : ∀ a h', h'.get? a = some ⟨.type T, none, data, #[]⟩ → (∀ b o, h.get? b = some o → h'.get? b = some o) → h.objs.size ≤ a → Q (.ref a) ⟨h', g, d, t, os⟩) (hf : (⟨.type T, none, data, #[]⟩ : Obj).isFreed = false := by rfl) (hs : sizeOk data := by size_fits) :
    wpAny M A (newObj (.type T) data) Q E ⟨h, g, d, t, os⟩ :=
  wpAny_newObj_type (hq _ _ (Heap.get?_push_size _ hf) (fun b o e => Heap.get?_push_of_some _ e) (Nat.le_refl _)) hs
theorem alloc_g {o : Obj} {Q : Addr → Shared → Prop}
    (hq : ∀ a h', h'.get? a = some o → (∀ b o, h.get? b = some o → h'.get? b = some o) → h.objs.size ≤ a → Q a ⟨h', g, d, t, os⟩) (hf : o.isFreed = false := by rfl) :
    wpAny M A (alloc o) Q E ⟨h, g, d, t, os⟩ :=
  wpAny_alloc (hq _ _ (Heap.get?_push_size _ hf) (fun b o e => Heap.get?_push_of_some _ e) (Nat.le_refl _))
/-- a slot set -/
def setS (sl : Array (Option Value)) (i : Nat) (v : Option Value) : Array (Option Value) := (sl ++ Array.replicate (i + 1 - sl.size) none).setIfInBounds i v
theorem setSlot_g {a : Addr} {c : Value} {dd : Option Addr} {dt : Data} {sl : Array (Option Value)} {i : Nat} {v : Option Value} {Q : Unit → Shared → Prop} (ho : h.get? a = some ⟨c, dd, dt, sl⟩)
    (hq : ∀ h', h'.get? a = some ⟨c, dd, dt, setS sl i v⟩ → Heap.SameBut a h h' → Q () ⟨h', g, d, t, os⟩) (hi : i < 10 := by decide) (hf : (⟨c, dd, dt, setS sl i v⟩ : Obj).isFreed = false := by rfl) : wpAny M A (setSlotAt a i v) Q E ⟨h, g, d, t, os⟩ := by
  unfold setSlotAt
  rw [if_neg (by rw [sizeLine_eq]; lia)]
  exact wpAny_updatePart ho (hq _ (Heap.get?_update_self _ ho hf) (Heap.SameBut.update ..))
theorem updateCls_g {a : Addr} {c : Value} {dd : Option Addr} {cd : ClassData} {sl : Array (Option Value)} {f : ClassData → ClassData} {Q : Unit → Shared → Prop} (ho : h.get? a = some ⟨c, dd, .cls cd, sl⟩)
    (hq : ∀ h', h'.get? a = some ⟨c, dd, .cls (f cd), sl⟩ → Heap.SameBut a h h' → Q () ⟨h', g, d, t, os⟩) (hp : (Data.cls (f cd)).pastItsLine = none) : wpAny M A (updateCls a f) Q E ⟨h, g, d, t, os⟩ := by
  unfold updateCls
  refine wpAny_bind (wpAny_load ho ?_)
  have e : (h.update a (Obj.mapCls f)).get? a = some ⟨c, dd, .cls (f cd), sl⟩ := Heap.get?_update_self _ ho rfl
  exact wpAny_bind (wpAny_update ho (wpAny_lookBehind e hp (hq _ e (Heap.SameBut.update ..))))
end
theorem ite_no {α : Type} {M : Model} {A : Around} {E : Value → Shared → Prop} {s : Shared} {c : Prop} [Decidable c] {a b : Sem α} {Q : α → Shared → Prop} (hc : ¬ c) (h : wpAny M A b Q E s) : wpAny M A (if c then a else b) Q E s := by rw [if_neg hc]; exact h
theorem ite_yes {α : Type} {M : Model} {A : Around} {E : Value → Shared → Prop} {s : Shared} {c : Prop} [Decidable c] {a b : Sem α} {Q : α → Shared → Prop} (hc : c) (h : wpAny M A a Q E s) : wpAny M A (if c then a else b) Q E s := by rw [if_pos hc]; exact h
theorem any_of {es : Array DictEntry} {m : Str → Option Value} (hm : ∀ n, nsFind es n = m n) (n : Str) : (es.any fun e => e.key.isStr n) = (m n).isSome := by
  rw [← hm n]
  simp only [nsFind, findBy, Option.isSome_map]
  rw [Bool.eq_iff_iff]
  simp only [Array.find?_isSome, Array.any_eq_true]
  constructor
  · rintro ⟨i, hi, e⟩; exact ⟨es[i], Array.getElem_mem hi, e⟩
  · rintro ⟨x, hx, e⟩; obtain ⟨i, hi, rfl⟩ := Array.mem_iff_getElem.mp hx; exact ⟨i, hi, e⟩
theorem tlook {M : Model} {A : Around} {E : Value → Shared → Prop} {h : Heap} {g : Array GenState} {d : Drawn} {t : Nat} {os : OsState} {a : Addr} {c : Value} {dd : Option Addr} {cd : ClassData} {sl : Array (Option Value)} {m : Str → Option Value} {n : Str} {r : Option Value} {Q : Option Value → Shared → Prop}
    (ha : h.get? a = some ⟨c, dd, .cls cd, sl⟩) (hmro : cd.mro = [.ref a, .type "object"]) (hns : h.Ns cd.ns m) (hr : (m n).orElse (fun _ => builtinOwn "object" n) = r) (hq : Q r ⟨h, g, d, t, os⟩) : wpAny M A (typeLookup (.ref a) n) Q E ⟨h, g, d, t, os⟩ := by
  subst hr
  unfold typeLookup
  refine wpAny_bind (m := mroOf (.ref a)) (wpAny_bind (wpAny_bind (wpAny_load ha (wpAny_pure (wpAny_pure ?_)))))
  rw [hmro, List.forIn_cons]
  refine wpAny_bind (wpAny_bind (wpAny_bind (m := classOwn (.ref a) n) ?_))
  refine wpAny_bind (wpAny_bind (wpAny_load ha (wpAny_pure (wpAny_nsGet hns ?_))))
  cases em : m n with
  | some v => rw [em] at hq; exact wpAny_pure (wpAny_pure (wpAny_pure hq))
  | none =>
    rw [em] at hq
    refine wpAny_pure ?_
    refine forIn_one (x := Value.type "object") ?_
    refine wpAny_bind (m := classOwn (.type "object") n) (wpAny_pure ?_)
    cases e : builtinOwn "object" n with
    | some v => rw [e] at hq; exact wpAny_pure (wpAny_pure hq)
    | none => rw [e] at hq; exact wpAny_pure (wpAny_pure hq)
section
variable {M : Model} {A : Around} {E : Value → Shared → Prop} {h : Heap} {g : Array GenState} {d : Drawn} {t : Nat} {os : OsState}
theorem nsDelD {a : Addr} {m : Str → Option Value} {n : Nat} {name : Str} {Q : Bool → Shared → Prop} (hn : NsD h a m n) (hs : (m name).isSome = true)
    (hq : ∀ h', NsD h' a (fun x => if x = name then none else m x) n → Heap.SameBut a h h' → Q true ⟨h', g, d, t, os⟩) : wpAny M A (nsDel a name) Q E ⟨h, g, d, t, os⟩ := by
  obtain ⟨dd, es, ep, sl, ho, hk, hu, hm, hz⟩ := hn
  have hany := any_of hm name
  rw [hs] at hany
  unfold nsDel
  refine wpAny_bind (wpAny_loadPart ho ?_)
  rw [show nsHas name ⟨.type "dict", dd, .dict es ep, sl⟩ = pure true by rw [nsHas_eq]; unfold nsHasByArray; dsimp only; rw [if_pos hany]]
  refine wpAny_bind (wpAny_pure ?_)
  rw [if_pos rfl]
  refine wpAny_bind (wpAny_updatePart ho (wpAny_pure (hq _ ?_ (Heap.SameBut.update ..))))
  cases hi : es.findIdx? (·.key.isStr name) with
  | some i =>
    refine ⟨dd, _, ep + 1, sl, (Heap.get?_update_self _ ho (by simp only [Obj.dropName_eq, Obj.dropNameByArray, hi] <;> rfl)).trans (by simp only [Obj.dropName_eq, Obj.dropNameByArray, hi] <;> rfl), hk.erase i, hu.erase i, fun x => by rw [nsFind_erase hu hi x, hm], ?_⟩
    unfold Array.eraseIdxIfInBounds
    split
    · rw [Array.size_eraseIdx]; lia
    · exact hz
  | none =>
    exfalso
    obtain ⟨j, hj, hp⟩ := Array.any_eq_true.mp hany
    have := (Array.findIdx?_eq_none_iff.mp hi) es[j] (Array.getElem_mem hj)
    simp [hp] at this
theorem nsSetV_D {a : Addr} {m : Str → Option Value} {n : Nat} {name : Str} {v : Value} {Q : Unit → Shared → Prop} (hn : NsD h a m n) (hz : n ≤ 1000)
    (hq : ∀ h', NsD h' a (fun x => if x = name then some v else m x) (n + 1) → Heap.SameBut a h h' → Q () ⟨h', g, d, t + 1, os⟩) : wpAny M A (nsSetByValue a name v) Q E ⟨h, g, d, t, os⟩ := by
  obtain ⟨dd, es, ep, sl, ho, hk, hu, hm, hz'⟩ := id hn
  unfold nsSetByValue
  refine wpAny_bind (wpAny_loadPart ho ?_)
  dsimp only
  rw [if_neg (by
    rw [Bool.and_eq_true, decide_eq_true_eq, sizeLine_eq]
    lia)]
  exact nsSetD hn hq
theorem NsD.sameBut {h h' : Heap} {a b : Addr} {m : Str → Option Value} {n : Nat} (x : NsD h a m n) (hs : Heap.SameBut b h h') (hab : a ≠ b) : NsD h' a m n := x.at fun o e => (hs.2 a hab).trans e
theorem refresh_g {a : Addr} {c v : Value} {dd : Option Addr} {cd : ClassData} {sl : Array (Option Value)} {m : Str → Option Value} {Q : Unit → Shared → Prop}
    (ha : h.get? a = some ⟨c, dd, .cls cd, sl⟩) (h4 : (sl[4]?).join = some v) (hmro : cd.mro = [.ref a, .type "object"]) (hns : h.Ns cd.ns m) (hm : m (Str.ofString "__new__") = none) (hq : Q () ⟨h, g, d, t, os⟩) : wpAny M A (Bind.refreshMaker a) Q E ⟨h, g, d, t, os⟩ := by
  unfold Bind.refreshMaker
  refine wpAny_bind (m := slotAt a 4) (wpAny_bind (wpAny_loadPart ha (wpAny_pure ?_)))
  dsimp only
  rw [h4, if_neg (by simp)]
  refine wpAny_bind (tlook ha hmro hns (r := some (.builtin "object.__new__")) (by rw [hm]; decide +kernel) ?_)
  exact ite_no (by decide +kernel) (wpAny_pure hq)
theorem install_g {a ns : Addr} {c : Value} {dd : Option Addr} {cd : ClassData} {sl : Array (Option Value)} {m : Str → Option Value} {n : Nat} {Q : Unit → Shared → Prop}
    (ha : h.get? a = some ⟨c, dd, .cls cd, sl⟩) (hn : NsD h ns m n) (hz : n ≤ 500) (hm : m (Str.ofString "obj") = none) (hne : ns ≠ a) (hp : (Data.cls { cd with hasDict := false, slotNames := [Str.ofString "obj"] }).pastItsLine = none)
    (hq : ∀ h' md tm, h'.get? a = some ⟨c, dd, .cls { cd with hasDict := false, slotNames := [Str.ofString "obj"] }, sl⟩ → h'.get? md = some ⟨.type "member_descriptor", none, .fields #[.str (Str.ofString "obj") tm, .ref a, .builtin "proto.slot", .builtin "proto.slot#set", rawInt 0], #[]⟩ →
      NsD h' ns (fun x => if x = Str.ofString "obj" then some (.ref md) else m x) (n + 1) → (∀ b o, b ≠ a → b ≠ ns → h.get? b = some o → h'.get? b = some o) → h.objs.size ≤ md → Q () ⟨h', g, d, t + 2, os⟩) :
    wpAny M A (Builtin.Slots.install (.ref a) ns [.type "object"] { names := [Str.ofString "obj"], dict := false, weak := false, inherited := [] }) Q E ⟨h, g, d, t, os⟩ := by
  unfold Builtin.Slots.install
  dsimp only
  refine wpAny_bind (forIn_one (x := Str.ofString "obj") ?_)
  refine wpAny_bind (wpAny_nsGet hn.ns ?_)
  rw [hm]
  refine ite_yes rfl ?_
  refine wpAny_bind (wpAny_mkStr ?_ (by decide +kernel))
  refine wpAny_bind (newObj_g ?_ (hs := by show 5 ≤ _; rw [sizeLine_eq]; decide))
  intro md h1 hmd k1 l1
  have ha1 := k1 _ _ ha
  have hn1 : NsD h1 ns m n := hn.at fun o e => k1 _ _ e
  have lns : ns < h.objs.size := let ⟨_, _, _, _, e, _⟩ := hn; Heap.lt_size e
  refine wpAny_bind (nsSetV_D hn1 (by lia) fun h2 hn2 s2 => ?_)
  have ha2 := (s2.2 a hne.symm).trans ha1
  have hmd2 := (s2.2 md (Nat.ne_of_gt (Nat.lt_of_lt_of_le lns l1))).trans hmd
  refine wpAny_pure ?_
  refine wpAny_bind (forIn_one (x := Value.type "object") ?_)
  refine wpAny_bind (wpAny_of_eq f9 ?_)
  refine ite_no (by decide) (wpAny_pure ?_)
  refine ite_no (by rw [sizeLine_eq]; decide) ?_
  refine updateCls_g ha2 (fun h3 ha3 s3 => ?_) hp
  refine hq h3 md _ ha3 ((s3.2 md (Nat.ne_of_gt (Nat.lt_of_lt_of_le (Heap.lt_size ha) l1))).trans hmd2) (hn2.sameBut s3 hne) (fun b o h1' h2' e => (s3.2 b h1').trans ((s2.2 b h2').trans (k1 _ _ e))) l1
end
section
open PySem.W.X
theorem q1 : builtinOwn "object" (Str.ofString "__init_subclass__") = some (.builtin "object.__init_subclass__") := by decide +kernel
theorem q2 : typeOf (.builtin "object.__init_subclass__") = pure (.type "classmethod_descriptor") := by kernel_rfl
theorem q3 : typeLookup (.type "classmethod_descriptor") "__get__" = pure (some (.builtin "classmethod_descriptor.__get__")) := by rw [typeLookup_type, builtinLookup_eq_fast]; kernel_rfl
/-- the class as the call has made it -/
abbrev clsO (a ns : Addr) (sl : Array (Option Value)) : Obj := ⟨.type "type", none, .cls { name := Str.ofString "K", bases := [.type "object"], mro := [.ref a, .type "object"], ns := ns, qualname := Str.ofString "cmp_to_key.<locals>.K", hasDict := false, slotNames := [Str.ofString "obj"] }, sl⟩
local macro_rules | `(tactic| x_close) => `(tactic| (rename (∀ (b : Addr) (h' : Heap), X.Mem _ h' [] [(b, _)] → _) => hq'; exact hq' _ _ (by assumption)))
section
variable {w : World} {A : Around} {s : Shared} {a ns : Addr} {sl : Array (Option Value)} {E Q : Value → Shared → Prop}
theorem cm_get (X : (hd.heap_1 w.params).In s.heap) (ha : s.heap.get? a = some (clsO a ns sl))
  (hq : ∀ b h', Mem s.heap h' [] [(b, ⟨.type "builtin_function_or_method", none, .fields #[.builtin "object.__init_subclass__", .ref a], #[]⟩)] → Q (.ref b) { s with heap := h' }) :
  wpAny (model P0 w) A (call (.builtin "classmethod_descriptor.__get__") [.builtin "object.__init_subclass__", .none, .ref a]) Q E s := by
  unfold clsO at ha
  x_run
theorem sup_new (X : (hd.heap_1 w.params).In s.heap) (ha : s.heap.get? a = some (clsO a ns sl))
  (hq : ∀ b h', Mem s.heap h' [] [(b, ⟨.type "super", none, .fields #[.ref a, .ref a, .ref a], #[]⟩)] → Q (.ref b) { s with heap := h' }) :
  wpAny (model P0 w) A (call (.type "super") [.ref a, .ref a]) Q E s := by
  unfold clsO at ha
  x_run
end
section
local macro_rules | `(tactic| x_close) => `(tactic| (rename (∀ (h' : Heap), X.Mem _ h' [] [] → _) => hq'; exact hq' _ (by first | assumption | exact X.Mem.start _)))
variable {w : World} {A : Around} {s : Shared} {a ns b : Addr} {sl : Array (Option Value)} {E Q : Value → Shared → Prop}
theorem isub_call (X : (hd.heap_1 w.params).In s.heap) (ha : s.heap.get? a = some (clsO a ns sl)) (hb : s.heap.get? b = some ⟨.type "builtin_function_or_method", none, .fields #[.builtin "object.__init_subclass__", .ref a], #[]⟩)
  (hq : ∀ h', Mem s.heap h' [] [] → Q .none { s with heap := h' }) :
  wpAny (model P0 w) A (call (.ref b) []) Q E s := by
  unfold clsO at ha
  x_run
end
section
variable {w : World} {A : Around} {h : Heap} {g : Array GenState} {d : Drawn} {t : Nat} {os : OsState} {a ns so : Addr} {sl : Array (Option Value)} {E : Value → Shared → Prop}
theorem sup_ga {tk : Tok} {Q : PySem.Fin → Shared → Prop} (X : (hd.heap_1 w.params).In h) (ha : h.get? a = some (clsO a ns sl)) (hso : h.get? so = some ⟨.type "super", none, .fields #[.ref a, .ref a, .ref a], #[]⟩)
   (hq : ∀ b h', Mem h h' [] [(b, ⟨.type "builtin_function_or_method", none, .fields #[.builtin "object.__init_subclass__", .ref a], #[]⟩)] → Q (.done (.ret (.ref b))) ⟨h', g, d, t, os⟩) :
   wpAny (model P0 w) A (Builtin.«super.__getattribute__» ⟨[.ref so, .str (Str.ofString "__init_subclass__") tk], []⟩) Q E ⟨h, g, d, t, os⟩ := by
  have hno : Looks (model P0 w) h (opaqueClassAbove (.ref a)) none := looks_opaque X (by kernel_rfl)
  unfold Builtin.«super.__getattribute__»
  have p0 : (#[.ref a, .ref a, .ref a] : Array Value)[0]? = some (.ref a) := rfl
  have p1 : (#[.ref a, .ref a, .ref a] : Array Value)[1]? = some (.ref a) := rfl
  have p2 : (#[.ref a, .ref a, .ref a] : Array Value)[2]? = some (.ref a) := rfl
  iterate 8 wp_step
  refine wpAny_field hso rfl p0 (wpAny_bind (wpAny_field hso rfl p1 (wpAny_bind (wpAny_field hso rfl p2 ?_))))
  wp_step
  refine wpAny_bind (ks_wpAny_notOpaque hno ?_)
  iterate 2 wp_step
  refine wpAny_bind (wpAny_bind (wpAny_load ha (wpAny_pure (wpAny_pure ?_))))
  rw [show List.drop 1 (List.dropWhile (fun x => x != Value.ref a) [Value.ref a, Value.type "object"]) = [Value.type "object"] by simp]
  refine wpAny_bind (forIn_one (x := Value.type "object") ?_)
  refine wpAny_bind (wpAny_of_eq (show classOwn (.type "object") (Str.ofString "__init_subclass__") = pure (some (.builtin "object.__init_subclass__")) from congrArg pure q1) ?_)
  refine wpAny_bind (wpAny_of_eq q2 (wpAny_bind (wpAny_of_eq q3 ?_)))
  refine wpAny_bind (wpAny_holding ?_)
  rw [if_pos (by simp)]
  refine cm_get X ha ?_
  intro b h' D
  exact wpAny_bind (wpAny_pure (wpAny_pure (wpAny_pure (hq b h' D))))
theorem sup_attr {Q : Value → Shared → Prop} (X : (hd.heap_1 w.params).In h) (ha : h.get? a = some (clsO a ns sl)) (hso : h.get? so = some ⟨.type "super", none, .fields #[.ref a, .ref a, .ref a], #[]⟩)
   (hq : ∀ b h', Mem h h' [] [(b, ⟨.type "builtin_function_or_method", none, .fields #[.builtin "object.__init_subclass__", .ref a], #[]⟩)] → Q (.ref b) ⟨h', g, d, t + 1, os⟩) :
   wpAny (model P0 w) A (getAttr (.ref so) (Str.ofString "__init_subclass__")) Q E ⟨h, g, d, t, os⟩ := by
  have hlk := PySem.F.ks_slot_super_ga.lookup
  have hT : ∀ t', (⟨h, g, d, t', os⟩ : Shared).TypeIs (.ref so) "super" := fun _ => ⟨_, hso, rfl⟩
  unfold getAttr getAttrBy
  refine wpAny_bind (wpAny_mkText (wpAny_holding (wpAny_bind (wpAny_typeOf (hT _) (wpAny_bind (wpAny_of_eq hlk ?_))))))
  show wpAny _ _ (getAttrByItsOwn (.ref so) (.str (Str.ofString "__init_subclass__") t) (.type "super") (.builtin "super.__getattribute__") true false) _ _ _
  unfold getAttrByItsOwn hookBefore callGetattribute boundAndCalled
  refine wpAny_bind (wpAny_of_eq (show (if onTheHeap (.type "super") then typeLookup (.type "super") "__getattr__" else pure none) = pure none from rfl) ?_)
  refine wpAny_bind (wpAny_attempt (wpAny_holding ?_))
  show wpAny _ _ (bindSpecial (.builtin "super.__getattribute__") (.ref so) >>= _) _ _ _
  refine wpAny_bind (wpAny_of_eq (PySem.F.ks_slot_super_ga.bind _) ?_)
  refine wpAny_mono (Q := fun v s' => ∃ b h', v = .ref b ∧ s' = ⟨h', g, d, t + 1, os⟩ ∧ Mem h h' [] [(b, ⟨.type "builtin_function_or_method", none, .fields #[.builtin "object.__init_subclass__", .ref a], #[]⟩)]) (E := fun _ _ => False)
    (wpAny_call_entry PySem.F.ks_slot_super_ga (hT _) PySem.F.ks_entry_super_ga (sup_ga X ha hso fun b h' D => ⟨_, rfl, b, h', rfl, rfl, D⟩) (PySem.F.ks_gaArgs_super _ _)) (fun v s' hv => ?_) fun _ _ z => z.elim
  obtain ⟨b, h', rfl, rfl, D⟩ := hv
  exact wpAny_pure (hq b h' D)
end
theorem sn_function : typeLookup (.type "function") "__set_name__" = pure none := by rw [typeLookup_type, builtinLookup_eq_fast]; kernel_rfl
theorem sn_list : typeLookup (.type "list") "__set_name__" = pure none := by rw [typeLookup_type, builtinLookup_eq_fast]; kernel_rfl
theorem sn_tuple : typeLookup (.type "tuple") "__set_name__" = pure none := by rw [typeLookup_type, builtinLookup_eq_fast]; kernel_rfl
theorem sn_md : typeLookup (.type "member_descriptor") "__set_name__" = pure none := by rw [typeLookup_type, builtinLookup_eq_fast]; kernel_rfl
theorem sn_str : typeLookup (.type "str") "__set_name__" = pure none := by rw [typeLookup_type, builtinLookup_eq_fast]; kernel_rfl
theorem sn_int : typeLookup (.type "int") "__set_name__" = pure none := by rw [typeLookup_type, builtinLookup_eq_fast]; kernel_rfl
theorem sn_none : typeLookup (.type "NoneType") "__set_name__" = pure none := by rw [typeLookup_type, builtinLookup_eq_fast]; kernel_rfl
/-- a value of the class's names that asks for nothing -/
def Calm (h : Heap) : Value → Prop
  | .ref a => ∃ o T, h.get? a = some o ∧ o.cls = .type T ∧ typeLookup (.type T) "__set_name__" = pure none
  | .str _ _ => True
  | .int _ _ => True
  | .none => True
  | _ => False
theorem Calm.keeps {h h' : Heap} {v : Value} (x : Calm h v) (k : ∀ b o, h.get? b = some o → h'.get? b = some o) : Calm h' v := by
  cases v <;> first | exact x | (obtain ⟨o, T, e, r⟩ := x; exact ⟨o, T, k _ _ e, r⟩)
section
variable {M : Model} {A : Around} {E : Value → Shared → Prop} {s : Shared}
theorem Calm.ask {v : Value} {Q : Option Value → Shared → Prop} (x : Calm s.heap v) (hq : Q none s) : wpAny M A (specialOf v "__set_name__") Q E s := by
  cases v with
  | ref a => obtain ⟨o, T, e, c, r⟩ := x; exact wpAny_specialOf (T := T) ⟨o, e, c⟩ r hq
  | str _ _ => exact wpAny_specialOf (T := "str") rfl sn_str hq
  | int _ _ => exact wpAny_specialOf (T := "int") rfl sn_int hq
  | none => exact wpAny_specialOf (T := "NoneType") rfl sn_none hq
  | _ => exact x.elim
theorem Calm.laid {h : Heap} {k v : Value} (x : Calm h v) : Builtin.laidUnderItsOwnName k v = false := by
  cases v <;> first | exact x.elim | (cases k <;> rfl)
theorem forIn_still {α β : Type} {b : β} {f : α → β → Sem (ForInStep β)} {Q : β → Shared → Prop} : ∀ {l : List α}, (∀ x ∈ l, ∀ Q' : ForInStep β → Shared → Prop, Q' (.yield b) s → wpAny M A (f x b) Q' E s) → Q b s → wpAny M A (forIn l b f) Q E s
  | [], _, hq => by rw [List.forIn_nil]; exact wpAny_pure hq
  | x :: l, hs, hq => by
    rw [List.forIn_cons]
    exact wpAny_bind (hs x (.head _) _ (forIn_still (fun y hy => hs y (.tail _ hy)) hq))
theorem forIn_stillA {α β : Type} {b : β} {f : α → β → Sem (ForInStep β)} {Q : β → Shared → Prop} {l : Array α} (hs : ∀ x ∈ l.toList, ∀ Q' : ForInStep β → Shared → Prop, Q' (.yield b) s → wpAny M A (f x b) Q' E s) (hq : Q b s) : wpAny M A (forIn l b f) Q E s := by
  rw [← Array.forIn_toList]
  exact forIn_still hs hq
end
theorem mem_find {es : Array DictEntry} {m : Str → Option Value} (hk : StrKeys es) (hu : UniqKeys es) (hm : ∀ n, nsFind es n = m n) {e : DictEntry} (he : e ∈ es.toList) : ∃ n t, e.key = .str n t ∧ m n = some e.val := by
  obtain ⟨n, t, hn⟩ := hk e (Array.mem_toList_iff.mp he)
  refine ⟨n, t, hn, ?_⟩
  rw [← hm n]
  simp only [nsFind, findBy, Option.map_eq_some_iff]
  have hs : (es.find? fun e => e.key.isStr n).isSome = true := by
    rw [Array.find?_isSome]
    exact ⟨e, Array.mem_toList_iff.mp he, by rw [hn]; simp [Value.isStr]⟩
  obtain ⟨e', he'⟩ := Option.isSome_iff_exists.mp hs
  refine ⟨e', he', ?_⟩
  have h1 : e'.key.isStr n = true := Array.find?_some (p := fun e : DictEntry => e.key.isStr n) he'
  have h2 : e' ∈ es.toList := Array.mem_toList_iff.mpr (Array.mem_of_find?_eq_some he')
  have h3 : e.key.isStr n = true := by rw [hn]; simp [Value.isStr]
  unfold UniqKeys at hu
  have : e' = e := by
    by_cases q : e' = e
    · exact q
    · exfalso
      obtain ⟨i, hi, rfl⟩ := List.mem_iff_getElem.mp h2
      obtain ⟨j, hj, rfl⟩ := List.mem_iff_getElem.mp he
      have hij : i ≠ j := fun z => q (by subst z; rfl)
      rcases Nat.lt_or_gt_of_ne hij with l | l
      · exact List.pairwise_iff_getElem.mp hu i j hi hj l n h1 h3
      · exact List.pairwise_iff_getElem.mp hu j i hj hi l n h3 h1
  rw [this]
end
theorem off_F1 : True := by
  w_top off
  trivial
section
open PySem.W.X
theorem g1 : isSubtype (.type "tuple") (.type "tuple") = pure true := by rw [isSubtype_type]; kernel_rfl
theorem g2 : isSubtype (.type "dict") (.type "dict") = pure true := by rw [isSubtype_type]; kernel_rfl
theorem g3 : typeLookup (.type "dict") "__iter__" = pure (some (.builtin "dict.__iter__")) := by rw [typeLookup_type, builtinLookup_eq_fast]; kernel_rfl
abbrev slK (bT : Addr) (t1 tq : Tok) : Array (Option Value) := setS (setS (setS (setS (setS #[] 0 (some (.ref bT))) 2 (some (.str (Str.ofString "K") t1))) 3 (some (.str (Str.ofString "cmp_to_key.<locals>.K") tq))) 4 (some (.builtin "object.__new__"))) 5 (some (.bool false))
abbrev mdO (a : Addr) (tm : Tok) : Obj := ⟨.type "member_descriptor", none, .fields #[.str (Str.ofString "obj") tm, .ref a, .builtin "proto.slot", .builtin "proto.slot#set", rawInt 0], #[]⟩
theorem ty_new {w : World} {A : Around} {E : Value → Shared → Prop} {h : Heap} {g : Array GenState} {d : Drawn} {t : Nat} {os : OsState} {Q : PySem.Fin → Shared → Prop}
   {t1 tS tq : Tok}  {bT nsA sl : Addr} {dN : Option Addr} {slN : Array (Option Value)} {es : Array DictEntry} {ep : Nat} {m : Str → Option Value} {e0 : Nat}
   (X : (hd.heap_1 w.params).In h) (hC : ∀ n v, m n = some v → Calm h v)
   (hT : h.get? bT = some ⟨.type "tuple", none, .seq #[.type "object"] e0, #[]⟩) (hN : h.get? nsA = some ⟨.type "dict", dN, .dict es ep, slN⟩) 
   (hs1 : (nsA == sysModules) = false) (hsz : es.size ≤ 100) (hk : StrKeys es) (hu : UniqKeys es) (hm : ∀ n, nsFind es n = m n)
   (mS : m (Str.ofString "__slots__") = some (.ref sl)) (mO : m (Str.ofString "obj") = none) (mM : (m (Str.ofString "__module__")).isSome = true) (mQ : m (Str.ofString "__qualname__") = some (.str (Str.ofString "cmp_to_key.<locals>.K") tq)) (mD : m (Str.ofString "__doc__") = none) (mN : m (Str.ofString "__new__") = none) (mI : m (Str.ofString "__init_subclass__") = none) (mG : m (Str.ofString "__class_getitem__") = none) (mC : m (Str.ofString "__classcell__") = none) (mX : m (Str.ofString "__classdictcell__") = none) (mL : m (Str.ofString "__del__") = none) (mE : (m (Str.ofString "__eq__")).isSome = true) (mH : (m (Str.ofString "__hash__")).isSome = true) (hl : h.IsList sl #[.str (Str.ofString "obj") tS])
   (hq : ∀ a ns md tm h' tk m', h'.get? a = some (clsO a ns (slK bT t1 tq)) → h'.get? md = some (mdO a tm) → NsD h' ns m' 200 → m' (Str.ofString "obj") = some (.ref md) → (∀ n, n ≠ Str.ofString "__qualname__" → n ≠ Str.ofString "obj" → n ≠ Str.ofString "__doc__" → m' n = m n) →
      (∀ b o, h.get? b = some o → h'.get? b = some o) → (h.get? a = none ∧ h.get? ns = none ∧ h.get? md = none) → Q (.done (.ret (.ref a))) ⟨h', g, d, tk, os⟩)
   :
   wpAny (model P0 w) A (Builtin.«type.__new__» ⟨[.type "type", .str (Str.ofString "K") t1, .ref bT, .ref nsA], []⟩) Q E ⟨h, g, d, t, os⟩ := by
  unfold Builtin.«type.__new__»
  iterate 3 wp_step
  refine wpAny_bind (wpAny_isInstance (T := "tuple") ⟨_, hT, rfl⟩ g1 ?_)
  wp_step
  refine wpAny_bind (wpAny_isInstance (T := "dict") ⟨_, hN, rfl⟩ g2 ?_)
  wp_step
  wp_step
  refine wpAny_seqItems hT rfl ?_
  iterate 2 wp_step
  refine forIn_one (x := Value.type "object") ?_
  iterate 5 wp_step
  iterate 1 wp_step
  refine forIn_one (x := Value.type "object") ?_
  refine wpAny_bind (wpAny_of_eq f4 ?_)
  refine wpAny_bind (wpAny_of_eq f1 ?_)
  iterate 4 wp_step
  refine wpAny_of_eq f2 ?_
  wp_step
  refine wpAny_of_eq f3 ?_
  iterate 2 wp_step
  refine wpAny_dictEntries hN rfl ?_
  refine wpAny_bind (wpAny_specialOf (T := "dict") ⟨_, hN, rfl⟩ g3 ?_)
  iterate 2 wp_step
  iterate 1 wp_step
  obtain ⟨⟨hh, kk, vv⟩, hf, hv⟩ : ∃ e, es.find? (fun e => e.key.isStr (Str.ofString "__slots__")) = some e ∧ e.val = .ref sl := by
    have e1 := hm (Str.ofString "__slots__")
    rw [mS] at e1
    simp only [nsFind, findBy, Option.map_eq_some_iff] at e1
    exact e1
  dsimp only at hv
  subst hv
  refine wpAny_bind (wpAny_holding (slots_read hf hl (by rw [any_of hm, mO]; rfl) ?_))
  intro h1 k1
  refine wpAny_bind (newObj_g ?_ (hs := by show _ ≤ _; rw [sizeLine_eq]; lia))
  intro ns h2 hns k2 l2
  have n2 : NsD h2 ns m 100 := ⟨_, es, 0, _, hns, hk, hu, hm, hsz⟩
  wp_step
  refine ite_no (by dsimp only; rw [any_of hm, mM]; decide) ?_
  iterate 2 wp_step
  refine wpAny_ite_false (by decide +kernel) ?_
  wp_step
  refine wpAny_ite_false (by decide +kernel) ?_
  refine wpAny_bind (wpAny_nsGet n2.ns ?_)
  rw [mQ]
  wp_step
  refine wpAny_nsGet n2.ns ?_
  rw [mQ]
  iterate 6 wp_step
  refine wpAny_nsGet n2.ns ?_
  rw [mD]
  wp_step
  refine alloc_g ?_
  intro a h3 ha3 k3 l3
  have nea : ns ≠ a := Nat.ne_of_lt (Nat.lt_of_lt_of_le (Heap.lt_size hns) l3)
  have n3 : NsD h3 ns m 100 := n2.at fun o e => k3 _ _ e
  replace ha3 : h3.get? a = some ⟨.type "type", none, .cls { name := Str.ofString "K", bases := [.type "object"], mro := [], ns := ns, qualname := Str.ofString "cmp_to_key.<locals>.K" }, #[]⟩ := ha3
  iterate 2 wp_step
  refine setSlot_g ha3 fun h4 ha4 s4 => ?_
  wp_step
  refine setSlot_g ha4 fun h5 ha5 s5 => ?_
  iterate 2 wp_step
  refine setSlot_g ha5 fun h6 ha6 s6 => ?_
  have n6 : NsD h6 ns m 100 := ((n3.sameBut s4 nea).sameBut s5 nea).sameBut s6 nea
  wp_step
  refine nsDelD n6 (by rw [mQ]; rfl) fun h7 n7 s7 => ?_
  have ha7 := (s7.2 a nea.symm).trans ha6
  show wpAny _ _ _ _ _ ⟨h7, g, d, t, os⟩
  obtain ⟨m7, hm7⟩ : ∃ m7 : Str → Option Value, m7 = fun x => if x = Str.ofString "__qualname__" then none else m x := ⟨_, rfl⟩
  rw [← hm7] at n7
  have e7 : ∀ n : Str, n ≠ Str.ofString "__qualname__" → m7 n = m n := fun n hn => by rw [hm7]; exact if_neg hn
  refine wpAny_bind (wpAny_nsGet n7.ns ?_)
  rw [e7 _ (by decide +kernel), mN]
  wp_step
  rw [List.forIn_cons]
  wp_step
  refine wpAny_bind (wpAny_nsGet n7.ns ?_)
  rw [e7 _ (by decide +kernel), mI]
  wp_step
  refine forIn_one (x := Str.ofString "__class_getitem__") ?_
  refine wpAny_bind (wpAny_nsGet n7.ns ?_)
  rw [e7 _ (by decide +kernel), mG]
  wp_step
  wp_step
  refine wpAny_nsGet n7.ns ?_
  rw [e7 _ (by decide +kernel), mC]
  wp_step
  refine wpAny_nsGet n7.ns ?_
  rw [e7 _ (by decide +kernel), mX]
  wp_step
  refine wpAny_of_eq f5 ?_
  wp_step
  refine wpAny_of_eq f6 ?_
  iterate 3 wp_step
  have hfil : List.filter (fun x => x != Value.ref a) (Value.ref a :: [Value.type "object"]) = [Value.type "object"] := by simp
  rw [hfil]
  iterate 5 wp_step
  have hdel : (es.any fun x => x.key.isStr (Str.ofString "__del__")) = false := by rw [any_of hm, mL]; rfl
  wp_step
  refine wpAny_bind (updateCls_g ha7 (fun h8 ha8 s8 => ?_) (by rfl))
  dsimp only at ha8
  rw [hdel, Bool.or_self] at ha8
  have n8 : NsD h8 ns m7 100 := n7.sameBut s8 nea
  wp_step
  refine wpAny_of_eq f7 ?_
  wp_step
  refine setSlot_g ha8 fun h9 ha9 s9 => ?_
  have n9 : NsD h9 ns m7 100 := n8.sameBut s9 nea
  refine wpAny_bind (refresh_g (v := .builtin "object.__new__") ha9 (by kernel_rfl) rfl n9.ns (by rw [e7 _ (by decide +kernel), mN]) ?_)
  refine wpAny_bind (install_g ha9 n9 (by lia) (by rw [e7 _ (by decide +kernel), mO]) nea rfl ?_)
  intro h10 md tm ha10 hmd10 n10 k10 l10
  wp_step
  refine wpAny_of_eq f8 ?_
  wp_step
  refine setSlot_g ha10 fun h11 ha11 s11 => ?_
  iterate 3 wp_step
  have n11 := n10.sameBut s11 nea
  obtain ⟨m11, hm11⟩ : ∃ m11 : Str → Option Value, m11 = fun x => if x = Str.ofString "obj" then some (.ref md) else m7 x := ⟨_, rfl⟩
  rw [← hm11] at n11
  have e11 : ∀ n : Str, n ≠ Str.ofString "obj" → m11 n = m7 n := fun n hn => by rw [hm11]; exact if_neg hn
  refine wpAny_nsGet n11.ns ?_
  rw [e11 _ (by decide +kernel), e7 _ (by decide +kernel), mD]
  iterate 2 wp_step
  refine nsSetD n11 fun h12 n12 s12 => ?_
  obtain ⟨m12, hm12⟩ : ∃ m12 : Str → Option Value, m12 = fun x => if x = Str.ofString "__doc__" then some .none else m11 x := ⟨_, rfl⟩
  rw [← hm12] at n12
  have e12 : ∀ n : Str, n ≠ Str.ofString "__doc__" → m12 n = m11 n := fun n hn => by rw [hm12]; exact if_neg hn
  wp_step
  refine wpAny_nsGet n12.ns ?_
  rw [e12 _ (by decide +kernel), e11 _ (by decide +kernel), e7 _ (by decide +kernel)]
  refine ite_yes mE ?_
  wp_step
  refine wpAny_nsGet n12.ns ?_
  rw [e12 _ (by decide +kernel), e11 _ (by decide +kernel), e7 _ (by decide +kernel)]
  refine ite_no (by rw [Option.isNone_iff_eq_none]; intro e; rw [e] at mH; cases mH) ?_
  have ha12 := (s12.2 a nea.symm).trans ha11
  wp_step
  refine forIn_one (x := Value.type "object") ?_
  iterate 5 wp_step
  wp_step
  obtain ⟨dd12, es12, ep12, sl12, ho12, hk12, hu12, hf12, hz12⟩ := id n12
  refine wpAny_tryCatch (wpAny_holding ?_)
  refine wpAny_bind (wpAny_dictEntries ho12 rfl ?_)
  refine wpAny_bind (forIn_stillA ?_ ?_)
  · intro e he Q' hq'
    obtain ⟨n, t', hn, hv⟩ := mem_find hk12 hu12 hf12 he
    dsimp only
    rw [hn]
    refine wpAny_bind (m := asStr? (.str n t')) (wpAny_pure ?_)
    exact ite_no (by simp) (wpAny_pure hq')
  iterate 2 wp_step
  refine wpAny_dictEntries ho12 rfl ?_
  have K12 : ∀ b o, h.get? b = some o → h12.get? b = some o := fun b o e => by
    have e1 := k1 b o e
    have e2 := k2 b o e1
    have bns : b ≠ ns := Nat.ne_of_lt (Nat.lt_of_lt_of_le (Heap.lt_size e1) l2)
    have ba : b ≠ a := Nat.ne_of_lt (Nat.lt_of_lt_of_le (Heap.lt_size e2) l3)
    exact (s12.2 b bns).trans ((s11.2 b ba).trans (k10 b o ba bns ((s9.2 b ba).trans ((s8.2 b ba).trans ((s7.2 b bns).trans ((s6.2 b ba).trans ((s5.2 b ba).trans ((s4.2 b ba).trans (k3 b o e2)))))))))
  have lmd : md ≠ a ∧ md ≠ ns := ⟨Nat.ne_of_gt (Nat.lt_of_lt_of_le (Heap.lt_size ha9) l10), Nat.ne_of_gt (Nat.lt_of_lt_of_le (let ⟨_, _, _, _, e, _⟩ := n9; Heap.lt_size e) l10)⟩
  have hmd12 : h12.get? md = some (mdO a tm) := (s12.2 md lmd.2).trans ((s11.2 md lmd.1).trans hmd10)
  have C12 : ∀ n v, m12 n = some v → Calm h12 v := by
    intro n v e
    rw [hm12] at e
    dsimp only at e
    split at e
    · cases e; trivial
    · rw [hm11] at e
      dsimp only at e
      split at e
      · cases e; exact ⟨_, "member_descriptor", hmd12, rfl, sn_md⟩
      · rw [hm7] at e
        dsimp only at e
        split at e
        · cases e
        · exact (hC n v e).keeps K12
  refine wpAny_bind (forIn_stillA ?_ ?_)
  · intro e he Q' hq'
    obtain ⟨n, t', hn, hv⟩ := mem_find hk12 hu12 hf12 he
    have c := C12 n _ hv
    dsimp only
    rw [c.laid, if_neg (by decide)]
    exact wpAny_bind (c.ask (s := ⟨_, _, _, _, _⟩) (wpAny_pure hq'))
  have X12 : (hd.heap_1 w.params).In h12 := X.keeps K12
  refine wpAny_bind (sup_new (s := ⟨_, _, _, _, _⟩) X12 ha12 ?_)
  intro so h13 D13
  have X13 := X12.keeps fun b o e => D13.keep b o e (by simp [away])
  refine wpAny_bind (wpAny_holding (sup_attr X13 (D13.keep _ _ ha12 (by simp [away])) (D13.at 0 _ _ rfl) ?_))
  intro bm h14 D14
  have K14 : ∀ b o, h12.get? b = some o → h14.get? b = some o := fun b o e => D14.keep b o (D13.keep b o e (by simp [away])) (by simp [away])
  refine wpAny_bind (isub_call (s := ⟨_, _, _, _, _⟩) (X12.keeps K14) (K14 _ _ ha12) (D14.at 0 _ _ rfl) ?_)
  intro h15 D15
  have K15 : ∀ b o, h12.get? b = some o → h15.get? b = some o := fun b o e => D15.keep b o (K14 b o e) (by simp [away])
  have fresh : ∀ x, (∀ o, h.get? x = some o → False) → h.get? x = none := fun x f => by
    cases q : h.get? x with
    | none => rfl
    | some o => exact (f o q).elim
  have K9 : ∀ b o, h.get? b = some o → h9.get? b = some o := fun b o e => by
    have e1 := k1 b o e
    have e2 := k2 b o e1
    have bns : b ≠ ns := Nat.ne_of_lt (Nat.lt_of_lt_of_le (Heap.lt_size e1) l2)
    have ba : b ≠ a := Nat.ne_of_lt (Nat.lt_of_lt_of_le (Heap.lt_size e2) l3)
    exact (s9.2 b ba).trans ((s8.2 b ba).trans ((s7.2 b bns).trans ((s6.2 b ba).trans ((s5.2 b ba).trans ((s4.2 b ba).trans (k3 b o e2))))))
  refine wpAny_pure (wpAny_pure ?_)
  have en : m12 (Str.ofString "obj") = some (.ref md) := by rw [e12 _ (by decide +kernel), hm11]; exact if_pos rfl
  exact hq a ns md tm h15 _ m12 (K15 _ _ ha12) (K15 _ _ hmd12) ⟨dd12, es12, ep12, sl12, K15 _ _ ho12, hk12, hu12, hf12, by lia⟩ en (fun n h1 h2 h3 => by rw [e12 n h3, e11 n h2, e7 n h1]) (fun b o e => K15 b o (K12 b o e)) ⟨fresh _ (fun o q => Nat.not_le_of_lt (Heap.lt_size (k2 _ _ (k1 _ _ q))) l3), fresh _ (fun o q => Nat.not_le_of_lt (Heap.lt_size (k1 _ _ q)) l2), fresh _ (fun o q => Nat.not_le_of_lt (Heap.lt_size (K9 _ _ q)) l10)⟩
end
theorem off_F2 : True := by
  w_top off
  trivial
section
open PySem.W.X
theorem r1 : Bind.madeBy (.type "type") = pure (some "type.__new__") := by kernel_rfl
theorem r2 (a b c : Value) : checkTypeCall "type" ⟨[a, b, c], []⟩ = pure () := by kernel_rfl
theorem r3 : mroOf (.type "type") = pure [.type "type", .type "object"] := by rw [mroOf_type]; kernel_rfl
theorem r4 (a b c : Value) : checkBuiltinCall "type.__new__" ⟨[.type "type", a, b, c], []⟩ = pure () := by kernel_rfl
theorem r5 : typeLookup (.type "type") "__init__" = pure (some (.builtin "type.__init__")) := by rw [typeLookup_type, builtinLookup_eq_fast]; kernel_rfl
theorem r6 : entryFor table "type.__new__" = some Builtin.«type.__new__» := entryFor_of_tree (by kernel_rfl)
theorem r7 : plainId "type.__new__" = true := by decide +kernel
theorem slot_type_init : Slot "type" "__init__" "type.__init__" := .of (owner := "type") (n := "__init__") (by rw [typeLookup_type, builtinLookup_eq_fast]; kernel_rfl) (by decide +kernel) (by decide +kernel) (by decide +kernel)
  (by first | exact .inl (by decide +kernel) | exact .inr (by decide +kernel)) (by rw [isSubtype_type]; kernel_rfl)
theorem entry_type_init : entryFor table "type.__init__" = some Builtin.«type.__init__» := entryFor_of_tree (by kernel_rfl)
theorem args_type_init (o a b c : Value) : argsOk "type.__init__" ⟨[o, a, b, c], []⟩ := by unfold argsOk; kernel_rfl
theorem ty_call {w : World} {A : Around} {E : Value → Shared → Prop} {h : Heap} {g : Array GenState} {d : Drawn} {t : Nat} {os : OsState} {Q : Value → Shared → Prop} {v1 v2 v3 : Value} {R : Addr → Shared → Prop}
   (hnew : ∀ (A' : Around) (E' : Value → Shared → Prop) (Q' : PySem.Fin → Shared → Prop), (∀ a s', R a s' → Q' (.done (.ret (.ref a))) s') → wpAny (model P0 w) A' (Builtin.«type.__new__» ⟨[.type "type", v1, v2, v3], []⟩) Q' E' ⟨h, g, d, t, os⟩)
   (hR : ∀ a s', R a s' → s'.TypeIs (.ref a) "type" ∧ Q (.ref a) s') :
   wpAny (model P0 w) A (call (.type "type") [v1, v2, v3]) Q E ⟨h, g, d, t, os⟩ := by
  refine wpAny_call (codeAny_of_tree ?_)
  show wpAny _ _ (callAny (.type "type") _) _ _ _
  refine wpAny_pure ⟨Code.quiet_builtin _ (by decide +kernel), codeAny_builtin F.entry_type_call ?_⟩
  rw [Around.under_plain (weight_type_call_type "type" [v1, v2, v3] []) rfl]
  unfold Builtin.«type.__call__»
  iterate 5 wp_step
  refine wpAny_of_eq (r2 v1 v2 v3) ?_
  wp_step
  refine wpAny_of_eq r3 ?_
  wp_step
  wp_step
  refine wpAny_of_eq r1 ?_
  iterate 4 wp_step
  refine wpAny_call (codeAny_of_tree ?_)
  show wpAny _ _ (do checkBuiltinCall "type.__new__" ⟨[.type "type", v1, v2, v3], []⟩; again (.builtin "type.__new__" ⟨[.type "type", v1, v2, v3], []⟩)) _ _ _
  refine wpAny_bind (wpAny_of_eq (r4 v1 v2 v3) (wpAny_pure ⟨plainId_quiet r7 _, codeAny_builtin r6 ?_⟩))
  rw [Around.under_plainId r7 _]
  refine hnew _ _ _ fun a s' hr => ?_
  obtain ⟨hT, hQ⟩ := hR a s' hr
  refine wpAny_bind (wpAny_isInstance hT f1 ?_)
  iterate 3 wp_step
  refine wpAny_callSpecial?_slot (name := Str.ofString "__init__") hT slot_type_init (wpAny_call_entry slot_type_init hT entry_type_init ?_ (args_type_init _ _ _ _))
  unfold Builtin.«type.__init__»
  iterate 5 wp_step
  refine ⟨_, rfl, ?_⟩
  wp_step
  exact wpAny_pure hQ
theorem u1 : typeLookup (.type "type") "__getattribute__" = pure (some (.builtin "type.__getattribute__")) := by rw [typeLookup_type, builtinLookup_eq_fast]; kernel_rfl
theorem u2 : typeOf (.type "type") = pure (.type "type") := by kernel_rfl
theorem u3 (o : Value) : bindSpecial (.builtin "type.__getattribute__") o = pure (.builtin "type.__getattribute__", [o]) := by kernel_rfl
section
variable {w : World} {A : Around} {s : Shared} {E Q : Value → Shared → Prop}
section
local macro_rules | `(tactic| x_close) => `(tactic| (rename (∀ (b : Addr) (h' : Heap) (id : String), _ → X.Mem _ h' [] [(b, _)] → _) => hq'; refine hq' _ _ _ ?_ (by assumption); decide +kernel))
theorem prep_get {t : Tok} (X : (hd.heap_1 w.params).In s.heap) (hq : ∀ b h' id, id = "type.__prepare__" → Mem s.heap h' [] [(b, ⟨.type "builtin_function_or_method", none, .fields #[.builtin id, .type "type"], #[]⟩)] → Q (.ref b) { s with heap := h' }) :
  wpAny (model P0 w) A (call (.builtin "type.__getattribute__") [.type "type", .str (Str.ofString "__prepare__") t]) Q E s := by
  x_run
end
section
local macro_rules | `(tactic| x_close) => `(tactic| (rename (∀ (b : Addr) (h' : Heap), X.Mem _ h' [] [(b, _)] → _) => hq'; exact hq' _ _ (by assumption)))
theorem prep_call {bm : Addr} {v1 v2 : Value} (X : (hd.heap_1 w.params).In s.heap) (hb : s.heap.get? bm = some ⟨.type "builtin_function_or_method", none, .fields #[.builtin "type.__prepare__", .type "type"], #[]⟩) (hq : ∀ b h', Mem s.heap h' [] [(b, ⟨.type "dict", none, .dict #[], #[]⟩)] → Q (.ref b) { s with heap := h' }) :
  wpAny (model P0 w) A (call (.ref bm) [v1, v2]) Q E s := by
  x_run
end
end
theorem prep_attr {w : World} {A : Around} {E : Value → Shared → Prop} {h : Heap} {g : Array GenState} {d : Drawn} {t : Nat} {os : OsState} {Q : Option Value → Shared → Prop} (X : (hd.heap_1 w.params).In h)
   (hq : ∀ b h', Mem h h' [] [(b, ⟨.type "builtin_function_or_method", none, .fields #[.builtin "type.__prepare__", .type "type"], #[]⟩)] → Q (some (.ref b)) ⟨h', g, d, t + 1, os⟩) :
   wpAny (model P0 w) A (getAttr? (.type "type") (Str.ofString "__prepare__")) Q E ⟨h, g, d, t, os⟩ := by
  unfold getAttr? getAttrBy? getAttrBy
  refine wpAny_bind (wpAny_mkText (wpAny_bind (wpAny_attempt (wpAny_holding (wpAny_bind (wpAny_of_eq u2 (wpAny_bind (wpAny_of_eq u1 ?_))))))))
  show wpAny _ _ (getAttrByItsOwn (.type "type") (.str (Str.ofString "__prepare__") t) (.type "type") (.builtin "type.__getattribute__") false false) _ _ _
  unfold getAttrByItsOwn hookBefore callGetattribute boundAndCalled
  refine wpAny_bind (wpAny_of_eq (show (if onTheHeap (.type "type") then typeLookup (.type "type") "__getattr__" else pure none) = pure none from rfl) ?_)
  refine wpAny_bind (wpAny_attempt (wpAny_holding ?_))
  show wpAny _ _ (bindSpecial (.builtin "type.__getattribute__") (.type "type") >>= _) _ _ _
  refine wpAny_bind (wpAny_of_eq (u3 _) ?_)
  refine prep_get (s := ⟨_, _, _, _, _⟩) X fun b h' id hid D => ?_
  subst hid
  exact wpAny_pure (wpAny_pure (hq b h' D))
/-- what stands while a class's body runs: its names at nsA, its code c1 with the table P1 -/
structure CB (w : World) (N0 : Nat) (h : Heap) (nsA c1 P1 : Addr) (mg m : Str → Option Value) (ps : Array Value) (n : Nat) : Prop where
  K : (hd.heap_1 w.params).In h
  old : ∀ a o, (hd.heap_1 w.params).lookup a = some o → a < N0
  ns : NsD h nsA m n
  code : CodeHd h c1 P1
  tab : h.get? P1 = some (tabObj ps)
  trip : TriplesOk ps.toList
  g : h.Ns mainGlobals mg
  b : h.BuiltinsAt mg P1
  lim : h.NoLimit
  l1 : N0 ≤ nsA
  l2 : N0 ≤ P1
  lg : mainGlobals < N0
  lc : cStatics < N0
  lb : ∀ bm, mg "__builtins__" = some (.ref bm) → bm < N0
  cn : c1 ≠ nsA
theorem CB.nP {w N0 h nsA c1 P1 mg m ps n} (x : CB w N0 h nsA c1 P1 mg m ps n) : nsA ≠ P1 := by
  obtain ⟨dd, es, ep, sl, e, _⟩ := x.ns
  intro q
  rw [q, x.tab] at e
  cases e
/-- kept but for the names and the table -/
theorem CB.next {w N0 h h' nsA c1 P1 mg m m' ps ps' n n'} (x : CB w N0 h nsA c1 P1 mg m ps n) (k : ∀ b o, b ≠ P1 → b ≠ nsA → h.get? b = some o → h'.get? b = some o) (hn : NsD h' nsA m' n') (ht : h'.get? P1 = some (tabObj ps')) (htr : TriplesOk ps'.toList) : CB w N0 h' nsA c1 P1 mg m' ps' n' := by
  have low : ∀ a, a < N0 → a ≠ P1 ∧ a ≠ nsA := fun a ha => ⟨Nat.ne_of_lt (Nat.lt_of_lt_of_le ha x.l2), Nat.ne_of_lt (Nat.lt_of_lt_of_le ha x.l1)⟩
  refine ⟨fun a o e => k a o (low a (x.old a o e)).1 (low a (x.old a o e)).2 (x.K a o e), x.old, hn, ?_, ht, htr, ?_, ?_, ?_, x.l1, x.l2, x.lg, x.lc, x.lb, x.cn⟩
  · obtain ⟨o, vs, file, tf, flags, tg, inF, text, tt, e, r⟩ := x.code
    exact ⟨o, vs, file, tf, flags, tg, inF, text, tt, k _ _ (r.2.2.2.2.2.2.2.2) x.cn e, r⟩
  · obtain ⟨o, es, ep, e, r⟩ := x.g
    exact ⟨o, es, ep, k _ _ (low _ x.lg).1 (low _ x.lg).2 e, r⟩
  · obtain ⟨bm, o, h1, h2, h3, h4, h5, r⟩ := x.b
    exact ⟨bm, o, h1, h2, h3, h4, k _ _ (low _ (x.lb bm h1)).1 (low _ (x.lb bm h1)).2 h5, r⟩
  · obtain ⟨mc, ⟨o, es, ep, e, r⟩, q⟩ := x.lim
    exact ⟨mc, ⟨o, es, ep, k _ _ (low _ x.lc).1 (low _ x.lc).2 e, r⟩, q⟩
section
variable {w : World} {A : Around} {E : Value → Shared → Prop} {N0 : Nat} {h : Heap} {gs : Array GenState} {d : Drawn} {t : Nat} {os : OsState} {nsA c1 P1 : Addr} {mg m : Str → Option Value} {ps : Array Value} {n : Nat} {cenv : Env}
/-- a name of the class stored -/
theorem cstore {name : Str} {v : Value} {Q : Unit → Shared → Prop} (x : CB w N0 h nsA c1 P1 mg m ps n) (hl : cenv.locals = nsA) (he : storeName cenv name v = localSet cenv name v)
    (hq : ∀ h', CB w N0 h' nsA c1 P1 mg (fun y => if y = name then some v else m y) ps (n + 1) → Heap.SameBut nsA h h' → Q () ⟨h', gs, d, t + 1, os⟩) : wpAny (model P0 w) A (storeName cenv name v) Q E ⟨h, gs, d, t, os⟩ := by
  rw [he]
  unfold localSet
  rw [hl]
  obtain ⟨dd, es, ep, sl, e, r⟩ := id x.ns
  refine wpAny_bind (wpAny_load e ?_)
  refine ite_yes (by rfl) ?_
  refine nsSetD x.ns fun h' n' s' => hq h' (x.next (fun b o h1 h2 e => (s'.2 b h2).trans e) n' ((s'.2 P1 x.nP.symm).trans x.tab) x.trip) s'
/-- a method of the class made and stored -/
theorem cdef {name : Str} {params : Arguments} {body : List Stmt} {scope : Scope} {pos : Pos} {clos : List (Str × Addr)} {qual : Str} {Q : Flow → Shared → Prop} (x : CB w N0 h nsA c1 P1 mg m ps n) (hl : cenv.locals = nsA) (hg : cenv.globals = mainGlobals) (hc : cenv.code = .ref c1)
    (hs : ∀ v, storeName cenv name v = localSet cenv name v) (hcl : closureFor scope cenv = pure clos) (hqn : qualnameIn cenv name name = qual) (hnf : codeAmong pos ps.toList = none) (hd0 : params.defaults = []) (hk0 : params.kw_defaults = []) (hann : annTrees params none cenv = [])
    (hq : ∀ f c' ctv doc h' tk, CB w N0 h' nsA c1 P1 mg (fun y => if y = name then some (.ref f) else m y) (ps ++ #[rawInt pos.line, rawInt pos.col, .ref c']) (n + 1) → (∀ b o, b ≠ P1 → b ≠ nsA → h.get? b = some o → h'.get? b = some o) →
      h'.get? f = some (fnMade name qual params body scope clos doc ((mg "__name__").getD .none) c' ctv) → h'.CodeRec (.ref c') qual → f ≠ nsA → f ≠ P1 → c' ≠ nsA → c' ≠ P1 → h.get? f = none → h.get? c' = none → Q .next ⟨h', gs, d, tk, os⟩) :
    wpAny (model P0 w) A (exec (.FunctionDef name params body [] none [] scope none name pos) cenv) Q E ⟨h, gs, d, t, os⟩ := by
  refine nestDef_K hd0 hk0 hann ?_
  rw [hqn]
  refine makeFunction_K (mg := mg) hcl hg x.g hc x.code x.tab x.trip hnf (Nat.ne_of_lt (Nat.lt_of_lt_of_le x.lg x.l2)) x.b fun c' ctv doc h1 tk hx hge hlt hrec htb => ?_
  have lns : nsA < h.objs.size := let ⟨_, _, _, _, e, _⟩ := x.ns; Heap.lt_size e
  have lP : P1 < h.objs.size := Heap.lt_size x.tab
  have x1 : CB w N0 (h1.push (fnMade name qual params body scope clos doc ((mg "__name__").getD .none) c' ctv)) nsA c1 P1 mg m (ps ++ #[rawInt pos.line, rawInt pos.col, .ref c']) n :=
    x.next (fun b o h1' h2' e => Heap.get?_push_of_some _ (hx b o h1' e)) (x.ns.at fun o e => Heap.get?_push_of_some _ (hx nsA o x.nP e)) (Heap.get?_push_of_some _ htb) (by
      rw [show (ps ++ #[rawInt pos.line, rawInt pos.col, Value.ref c']).toList = ps.toList ++ [rawInt pos.line, rawInt pos.col, .ref c'] by simp]
      exact TriplesOk_snoc _ _ _ _ x.trip)
  have lf : nsA ≠ h1.objs.size ∧ P1 ≠ h1.objs.size := by
    obtain ⟨_, _, _, _, e0, _⟩ := x.ns
    have e1 := hx nsA _ x.nP e0
    exact ⟨Nat.ne_of_lt (Heap.lt_size e1), Nat.ne_of_lt (Heap.lt_size htb)⟩
  have ffr : h.get? h1.objs.size = none := by
    cases q : h.get? h1.objs.size with
    | none => rfl
    | some o => exact absurd (Heap.lt_size (hx _ o lf.2.symm q)) (Nat.lt_irrefl _)
  refine cstore x1 hl (hs _) fun h2 x2 s2 => hq h1.objs.size c' ctv doc h2 _ x2 (fun b o h1' h2' e => (s2.2 b h2').trans (Heap.get?_push_of_some _ (hx b o h1' e))) ((s2.2 _ lf.1.symm).trans (Heap.get?_push_size _ rfl)) ?_ lf.1.symm lf.2.symm
    (Nat.ne_of_gt (Nat.lt_of_lt_of_le lns hge)) (Nat.ne_of_gt (Nat.lt_of_lt_of_le lP hge)) ffr (Heap.get?_none_of_le hge)
  obtain ⟨c₂, oc, vs, tt, e2, hoc, r⟩ := hrec
  cases e2
  exact ⟨_, oc, vs, tt, rfl, (s2.2 _ (Nat.ne_of_gt (Nat.lt_of_lt_of_le lns hge))).trans (Heap.get?_push_of_some _ hoc), r⟩
end
abbrev kNames : List Str := [Str.ofString "__module__", Str.ofString "__slots__", Str.ofString "__init__", Str.ofString "__lt__", Str.ofString "__gt__", Str.ofString "__eq__", Str.ofString "__le__", Str.ofString "__ge__", Str.ofString "__hash__"]
theorem calm_fn {h : Heap} {f : Addr} {name qual : Str} {params : Arguments} {body : List Stmt} {scope : Scope} {clos : List (Str × Addr)} {doc pm ctv : Value} {c' : Addr} (e : h.get? f = some (fnMade name qual params body scope clos doc pm c' ctv)) : Calm h (.ref f) := ⟨_, "function", e, rfl, sn_function⟩
theorem among_lt {pos q : Pos} {c : Value} (hne : q.line ≠ pos.line) (l : List Value) (h : TriplesOk l) (hn : codeAmong pos l = none) : codeAmong pos (l ++ [rawInt q.line, rawInt q.col, c]) = none := by
  fun_induction TriplesOk l with
  | case1 =>
    simp only [List.nil_append, rawInt, codeAmong]
    rw [if_neg]
    intro e
    simp only [Bool.and_eq_true, beq_iff_eq] at e
    exact hne (by lia)
  | case2 a t b u x rest ih =>
    simp only [List.cons_append, codeAmong] at hn ⊢
    split at hn
    · cases hn
    · rename_i hc; rw [if_neg hc]; exact ih h hn
  | case3 l h1 h2 => exact h.elim
theorem among_arr {pos q : Pos} {c : Value} {ps : Array Value} (h : TriplesOk ps.toList) (hne : q.line ≠ pos.line) (hn : codeAmong pos ps.toList = none) : codeAmong pos (ps ++ #[rawInt q.line, rawInt q.col, c]).toList = none := by
  rw [show (ps ++ #[rawInt q.line, rawInt q.col, c]).toList = ps.toList ++ [rawInt q.line, rawInt q.col, c] by simp]
  exact among_lt hne _ h hn
/-- the class's body done -/
structure BodyDone (w : World) (N0 : Nat) (h h' : Heap) (nsA c1 P1 : Addr) (mg m m' : Str → Option Value) (ps : Array Value) (n : Nat) (fi fl ci cl sl : Addr) (oi ol : Obj) (u1 u2 : Str) (tS : Tok) : Prop where
  cb : CB w N0 h' nsA c1 P1 mg m' ps n
  keep : ∀ b o, b ≠ P1 → b ≠ nsA → h.get? b = some o → h'.get? b = some o
  hfi : h'.get? fi = some oi
  hci : h'.CodeRec (.ref ci) u1
  hfl : h'.get? fl = some ol
  hcl : h'.CodeRec (.ref cl) u2
  ls : h'.IsList sl #[.str (Str.ofString "obj") tS]
  mi : m' (Str.ofString "__init__") = some (.ref fi)
  ml : m' (Str.ofString "__lt__") = some (.ref fl)
  ms : m' (Str.ofString "__slots__") = some (.ref sl)
  mm : (m' (Str.ofString "__module__")).isSome = true
  me : (m' (Str.ofString "__eq__")).isSome = true
  mh : (m' (Str.ofString "__hash__")).isSome = true
  rest : ∀ y, y ∉ kNames → m' y = m y
  calm : ∀ y v, m' y = some v → m y = some v ∨ Calm h' v
  new : h.get? fi = none ∧ h.get? fl = none ∧ h.get? ci = none ∧ h.get? cl = none
section
variable {w : World} {A : Around} {E : Value → Shared → Prop} {N0 : Nat} {h : Heap} {gs : Array GenState} {d : Drawn} {t : Nat} {os : OsState} {nsA c1 P1 : Addr} {mg m : Str → Option Value} {n : Nat} {cenv : Env}
theorem cstr {name mod : Str} {q1 q2 q3 : Pos} {k1 : Nat} {ps : Array Value} {Q : Flow → Shared → Prop} (x : CB w N0 h nsA c1 P1 mg m ps n) (hl : cenv.locals = nsA) (hst : ∀ v, storeName cenv name v = localSet cenv name v)
    (hq : ∀ h' tk t0, CB w N0 h' nsA c1 P1 mg (fun y => if y = name then some (.str mod t0) else m y) ps (n + 1) → Heap.SameBut nsA h h' → Q .next ⟨h', gs, d, tk, os⟩) : wpAny (model P0 w) A (exec (.Assign [.Name name q1] (.Constant (.str mod) k1 q2) q3) cenv) Q E ⟨h, gs, d, t, os⟩ := by
  refine wpAny_Assign_Name (wpAny_Constant_str ?_)
  exact cstore x hl (hst _) fun h1 x1 e1 => hq h1 _ _ x1 e1
theorem cnone {name : Str} {q1 q2 q3 : Pos} {k1 : Nat} {ps : Array Value} {Q : Flow → Shared → Prop} (x : CB w N0 h nsA c1 P1 mg m ps n) (hl : cenv.locals = nsA) (hst : ∀ v, storeName cenv name v = localSet cenv name v)
    (hq : ∀ h' tk, CB w N0 h' nsA c1 P1 mg (fun y => if y = name then some .none else m y) ps (n + 1) → Heap.SameBut nsA h h' → Q .next ⟨h', gs, d, tk, os⟩) : wpAny (model P0 w) A (exec (.Assign [.Name name q1] (.Constant .none k1 q2) q3) cenv) Q E ⟨h, gs, d, t, os⟩ := by
  refine wpAny_Assign_Name (wpAny_Constant_none ?_)
  exact cstore x hl (hst _) fun h1 x1 e1 => hq h1 _ x1 e1
theorem clist {name item : Str} {q1 q2 q3 q4 : Pos} {k1 : Nat} {ps : Array Value} {Q : Flow → Shared → Prop} (x : CB w N0 h nsA c1 P1 mg m ps n) (hl : cenv.locals = nsA) (hst : ∀ v, storeName cenv name v = localSet cenv name v)
    (hsw : swapsWith (.List [.Constant (.str item) k1 q2] q3) (some (.Name name q1)) q4.line cenv = pure false)
    (hq : ∀ h' tk sl tS, CB w N0 h' nsA c1 P1 mg (fun y => if y = name then some (.ref sl) else m y) ps (n + 1) → (∀ b o, b ≠ nsA → h.get? b = some o → h'.get? b = some o) → h'.get? sl = some ⟨.type "list", none, .seq #[.str item tS] 0, #[]⟩ → sl ≠ nsA → sl ≠ P1 → Q .next ⟨h', gs, d, tk, os⟩) :
    wpAny (model P0 w) A (exec (.Assign [.Name name q1] (.List [.Constant (.str item) k1 q2] q3) q4) cenv) Q E ⟨h, gs, d, t, os⟩ := by
  refine wpAny_Assign_Name (hs := hsw) (wpAny_List ?_)
  refine spliced_cons (wpAny_Constant_str (k := k1) (pos := q2) (spliced_nil ⟨by show 1 ≤ _; rw [sizeLine_eq]; decide, ?_⟩))
  have lns : nsA < h.objs.size := let ⟨_, _, _, _, e, _⟩ := x.ns; Heap.lt_size e
  have lP : P1 < h.objs.size := Heap.lt_size x.tab
  have x2 : CB w N0 (h.push { cls := .type "list", data := .seq [Value.str item t].toArray }) nsA c1 P1 mg m ps n := x.next (fun b o _ _ e => Heap.get?_push_of_some _ e) (x.ns.at fun o e => Heap.get?_push_of_some _ e) (Heap.get?_push_of_some _ x.tab) x.trip
  refine cstore x2 hl (hst _) fun h1 x1 e1 => hq h1 _ h.objs.size t x1 (fun b o hb e => (e1.2 b hb).trans (Heap.get?_push_of_some _ e)) ((e1.2 _ (Nat.ne_of_gt lns)).trans (Heap.get?_push_size _ rfl)) (Nat.ne_of_gt lns) (Nat.ne_of_gt lP)
theorem body_K {q1 q2 q3 q4 q5 q6 q7 q8 q9 q10 r1 r2 r3 r4 r5 r6 : Pos} {k1 k2 k3 : _} {mod : Str} {a1 a2 a3 a4 a5 a6 : Arguments} {b1 b2 b3 b4 b5 b6 : List Stmt} {s1 s2 s3 s4 s5 s6 : Scope} {o1 o2 o3 o4 o5 o6 : List (Str × Addr)} {u1 u2 u3 u4 u5 u6 : Str} {Q : Flow → Shared → Prop}
    (x : CB w N0 h nsA c1 P1 mg m #[] n) (hl : cenv.locals = nsA) (hg : cenv.globals = mainGlobals) (hc : cenv.code = .ref c1) (hst : ∀ name ∈ kNames, ∀ v, storeName cenv name v = localSet cenv name v)
    (hcl : closureFor s1 cenv = pure o1 ∧ closureFor s2 cenv = pure o2 ∧ closureFor s3 cenv = pure o3 ∧ closureFor s4 cenv = pure o4 ∧ closureFor s5 cenv = pure o5 ∧ closureFor s6 cenv = pure o6)
    (hqn : qualnameIn cenv (Str.ofString "__init__") (Str.ofString "__init__") = u1 ∧ qualnameIn cenv (Str.ofString "__lt__") (Str.ofString "__lt__") = u2 ∧ qualnameIn cenv (Str.ofString "__gt__") (Str.ofString "__gt__") = u3 ∧ qualnameIn cenv (Str.ofString "__eq__") (Str.ofString "__eq__") = u4 ∧ qualnameIn cenv (Str.ofString "__le__") (Str.ofString "__le__") = u5 ∧ qualnameIn cenv (Str.ofString "__ge__") (Str.ofString "__ge__") = u6)
    (hd0 : a1.defaults = [] ∧ a2.defaults = [] ∧ a3.defaults = [] ∧ a4.defaults = [] ∧ a5.defaults = [] ∧ a6.defaults = []) (hk0 : a1.kw_defaults = [] ∧ a2.kw_defaults = [] ∧ a3.kw_defaults = [] ∧ a4.kw_defaults = [] ∧ a5.kw_defaults = [] ∧ a6.kw_defaults = [])
    (hann : annTrees a1 none cenv = [] ∧ annTrees a2 none cenv = [] ∧ annTrees a3 none cenv = [] ∧ annTrees a4 none cenv = [] ∧ annTrees a5 none cenv = [] ∧ annTrees a6 none cenv = [])
    (hlines : r1.line < r2.line ∧ r2.line < r3.line ∧ r3.line < r4.line ∧ r4.line < r5.line ∧ r5.line < r6.line)
    (hsw : swapsWith (.List [.Constant (.str (Str.ofString "obj")) k2 q5] q6) (some (.Name (Str.ofString "__slots__") q4)) q7.line cenv = pure false)
    (hq : ∀ fi ci vi di fl cl vl dl sl tS h' tk m' ps', BodyDone w N0 h h' nsA c1 P1 mg m m' ps' (n + 9) fi fl ci cl sl (fnMade (Str.ofString "__init__") u1 a1 b1 s1 o1 di ((mg "__name__").getD .none) ci vi) (fnMade (Str.ofString "__lt__") u2 a2 b2 s2 o2 dl ((mg "__name__").getD .none) cl vl) u1 u2 tS → Q .next ⟨h', gs, d, tk, os⟩) :
    wpAny (model P0 w) A (execs [.Assign [.Name (Str.ofString "__module__") q1] (.Constant (.str mod) k1 q2) q3, .Assign [.Name (Str.ofString "__slots__") q4] (.List [.Constant (.str (Str.ofString "obj")) k2 q5] q6) q7,
      .FunctionDef (Str.ofString "__init__") a1 b1 [] none [] s1 none (Str.ofString "__init__") r1, .FunctionDef (Str.ofString "__lt__") a2 b2 [] none [] s2 none (Str.ofString "__lt__") r2, .FunctionDef (Str.ofString "__gt__") a3 b3 [] none [] s3 none (Str.ofString "__gt__") r3,
      .FunctionDef (Str.ofString "__eq__") a4 b4 [] none [] s4 none (Str.ofString "__eq__") r4, .FunctionDef (Str.ofString "__le__") a5 b5 [] none [] s5 none (Str.ofString "__le__") r5, .FunctionDef (Str.ofString "__ge__") a6 b6 [] none [] s6 none (Str.ofString "__ge__") r6,
      .Assign [.Name (Str.ofString "__hash__") q8] (.Constant .none k3 q9) q10] cenv) Q E ⟨h, gs, d, t, os⟩ := by
  have hin : ∀ nm : Str, kNames.contains nm = true → nm ∈ kNames := fun nm e => by simpa using e
  refine wpAny_execs_cons (cstr x hl (hst _ (hin _ (by decide +kernel))) fun h1 tk1 t1 x1 e1 => ?_)
  refine wpAny_execs_cons (clist x1 hl (hst _ (hin _ (by decide +kernel))) hsw fun h2 tk2 sl tS x2 e2 hsl ns2 nP2 => ?_)
  refine wpAny_execs_cons (cdef x2 hl hg hc (hst _ (hin _ (by decide +kernel))) hcl.1 hqn.1 rfl hd0.1 hk0.1 hann.1 fun f3 c3 v3 d3 h3 tk3 x3 e3 hf3 hc3 n3 p3 nc3 pc3 rf3 rc3 => ?_)
  refine wpAny_execs_cons (cdef x3 hl hg hc (hst _ (hin _ (by decide +kernel))) hcl.2.1 hqn.2.1 (among_arr x2.trip (by lia) rfl) hd0.2.1 hk0.2.1 hann.2.1 fun f4 c4 v4 d4 h4 tk4 x4 e4 hf4 hc4 n4 p4 nc4 pc4 rf4 rc4 => ?_)
  refine wpAny_execs_cons (cdef x4 hl hg hc (hst _ (hin _ (by decide +kernel))) hcl.2.2.1 hqn.2.2.1 (among_arr x3.trip (by lia) (among_arr x2.trip (by lia) rfl)) hd0.2.2.1 hk0.2.2.1 hann.2.2.1 fun f5 c5 v5 d5 h5 tk5 x5 e5 hf5 hc5 n5 p5 nc5 pc5 rf5 rc5 => ?_)
  refine wpAny_execs_cons (cdef x5 hl hg hc (hst _ (hin _ (by decide +kernel))) hcl.2.2.2.1 hqn.2.2.2.1 (among_arr x4.trip (by lia) (among_arr x3.trip (by lia) (among_arr x2.trip (by lia) rfl))) hd0.2.2.2.1 hk0.2.2.2.1 hann.2.2.2.1 fun f6 c6 v6 d6 h6 tk6 x6 e6 hf6 hc6 n6 p6 nc6 pc6 rf6 rc6 => ?_)
  refine wpAny_execs_cons (cdef x6 hl hg hc (hst _ (hin _ (by decide +kernel))) hcl.2.2.2.2.1 hqn.2.2.2.2.1 (among_arr x5.trip (by lia) (among_arr x4.trip (by lia) (among_arr x3.trip (by lia) (among_arr x2.trip (by lia) rfl)))) hd0.2.2.2.2.1 hk0.2.2.2.2.1 hann.2.2.2.2.1 fun f7 c7 v7 d7 h7 tk7 x7 e7 hf7 hc7 n7 p7 nc7 pc7 rf7 rc7 => ?_)
  refine wpAny_execs_cons (cdef x7 hl hg hc (hst _ (hin _ (by decide +kernel))) hcl.2.2.2.2.2 hqn.2.2.2.2.2 (among_arr x6.trip (by lia) (among_arr x5.trip (by lia) (among_arr x4.trip (by lia) (among_arr x3.trip (by lia) (among_arr x2.trip (by lia) rfl))))) hd0.2.2.2.2.2 hk0.2.2.2.2.2 hann.2.2.2.2.2 fun f8 c8 v8 d8 h8 tk8 x8 e8 hf8 hc8 n8 p8 nc8 pc8 rf8 rc8 => ?_)
  refine wpAny_execs_cons (cnone x8 hl (hst _ (hin _ (by decide +kernel))) fun h9 tk9 x9 e9 => wpAny_execs_nil ?_)
  have k9 : ∀ b o, b ≠ P1 → b ≠ nsA → h8.get? b = some o → h9.get? b = some o := fun b o _ hb e => (e9.2 b hb).trans e
  have k8 : ∀ b o, b ≠ P1 → b ≠ nsA → h7.get? b = some o → h9.get? b = some o := fun b o h1 h2 e => k9 b o h1 h2 (e8 b o h1 h2 e)
  have k7 : ∀ b o, b ≠ P1 → b ≠ nsA → h6.get? b = some o → h9.get? b = some o := fun b o h1 h2 e => k8 b o h1 h2 (e7 b o h1 h2 e)
  have k6 : ∀ b o, b ≠ P1 → b ≠ nsA → h5.get? b = some o → h9.get? b = some o := fun b o h1 h2 e => k7 b o h1 h2 (e6 b o h1 h2 e)
  have k5 : ∀ b o, b ≠ P1 → b ≠ nsA → h4.get? b = some o → h9.get? b = some o := fun b o h1 h2 e => k6 b o h1 h2 (e5 b o h1 h2 e)
  have k4 : ∀ b o, b ≠ P1 → b ≠ nsA → h3.get? b = some o → h9.get? b = some o := fun b o h1 h2 e => k5 b o h1 h2 (e4 b o h1 h2 e)
  have k3 : ∀ b o, b ≠ P1 → b ≠ nsA → h2.get? b = some o → h9.get? b = some o := fun b o h1 h2 e => k4 b o h1 h2 (e3 b o h1 h2 e)
  have rec9 : ∀ {hh : Heap} {c : Addr} {u : Str}, (∀ b o, b ≠ P1 → b ≠ nsA → hh.get? b = some o → h9.get? b = some o) → c ≠ nsA → c ≠ P1 → hh.CodeRec (.ref c) u → h9.CodeRec (.ref c) u := fun kk h1 h2 ⟨_, o, vs, tt, e, r1, r2⟩ => by
    cases e
    exact ⟨_, o, vs, tt, rfl, kk _ _ h2 h1 r1, r2⟩
  have cf := fun {hh : Heap} {f : Addr} (kk : ∀ b o, b ≠ P1 → b ≠ nsA → hh.get? b = some o → h9.get? b = some o) (h1 : f ≠ nsA) (h2 : f ≠ P1) {o : Obj} (e : hh.get? f = some o) => kk f o h2 h1 e
  refine hq f3 c3 v3 d3 f4 c4 v4 d4 sl tS h9 tk9 _ _ ⟨x9, fun b o h1' h2' e => k3 b o h1' h2' (e2 b o h2' ((e1.2 b h2').trans e)), cf k4 n3 p3 hf3, rec9 k4 nc3 pc3 hc3, cf k5 n4 p4 hf4, rec9 k5 nc4 pc4 hc4, ⟨_, cf k3 ns2 nP2 hsl, rfl, _, rfl⟩, ?_, ?_, ?_, ?_, ?_, ?_, ?_, ?_, ?_⟩
  · kernel_rfl
  · kernel_rfl
  · kernel_rfl
  · kernel_rfl
  · kernel_rfl
  · kernel_rfl
  · intro y hy
    simp only [kNames, List.mem_cons, not_or] at hy
    obtain ⟨z1, z2, z3, z4, z5, z6, z7, z8, z9, _⟩ := hy
    simp only [z1, z2, z3, z4, z5, z6, z7, z8, z9, if_false]
  · intro y v hv
    split at hv
    · cases hv; exact .inr trivial
    split at hv
    · cases hv; exact .inr (calm_fn (cf k9 n8 p8 hf8))
    split at hv
    · cases hv; exact .inr (calm_fn (cf k8 n7 p7 hf7))
    split at hv
    · cases hv; exact .inr (calm_fn (cf k7 n6 p6 hf6))
    split at hv
    · cases hv; exact .inr (calm_fn (cf k6 n5 p5 hf5))
    split at hv
    · cases hv; exact .inr (calm_fn (cf k5 n4 p4 hf4))
    split at hv
    · cases hv; exact .inr (calm_fn (cf k4 n3 p3 hf3))
    split at hv
    · cases hv; exact .inr ⟨_, "list", cf k3 ns2 nP2 hsl, rfl, sn_list⟩
    split at hv
    · cases hv; exact .inr trivial
    · exact .inl hv
  · have b3 : ∀ b, b ≠ nsA → h2.get? b = none → h.get? b = none := fun b hb e => by
      cases q : h.get? b with
      | none => rfl
      | some o => rw [e2 b o hb ((e1.2 b hb).trans q)] at e; cases e
    have b4 : ∀ b, b ≠ P1 → b ≠ nsA → h3.get? b = none → h.get? b = none := fun b hp hb e => b3 b hb (by
      cases q : h2.get? b with
      | none => rfl
      | some o => rw [e3 b o hp hb q] at e; cases e)
    exact ⟨b3 _ n3 rf3, b4 _ p4 n4 rf4, b3 _ nc3 rc3, b4 _ pc4 nc4 rc4⟩
end
end
theorem off_F3 : True := by
  w_top off
  trivial
section
open PySem.W.X
theorem v1 (a b : Value) : checkBoundCall "type.__prepare__" ⟨[.type "type", a, b], []⟩ = pure () := by kernel_rfl
theorem v2 : entryFor table "type.__prepare__" = some Builtin.«type.__prepare__» := entryFor_of_tree (by kernel_rfl)
theorem v3 : plainId "type.__prepare__" = true := by decide +kernel
theorem prep_new {w : World} {A : Around} {E : Value → Shared → Prop} {h : Heap} {g : Array GenState} {d : Drawn} {t : Nat} {os : OsState} {Q : Value → Shared → Prop} {bm : Addr} {x y : Value} (hb : h.get? bm = some ⟨.type "builtin_function_or_method", none, .fields #[.builtin "type.__prepare__", .type "type"], #[]⟩)
   (hq : ∀ b h', h'.get? b = some ⟨.type "dict", none, .dict #[], #[]⟩ → (∀ c o, h.get? c = some o → h'.get? c = some o) → h.objs.size ≤ b → Q (.ref b) ⟨h', g, d, t, os⟩) :
   wpAny (model P0 w) A (call (.ref bm) [x, y]) Q E ⟨h, g, d, t, os⟩ := by
  refine wpAny_call (codeAny_of_tree ?_)
  show wpAny _ _ (callAny (.ref bm) _) _ _ _
  unfold callAny
  refine wpAny_bind (wpAny_load hb ?_)
  refine ite_yes (by rfl) ?_
  refine ite_yes (by rfl) ?_
  refine wpAny_bind (wpAny_of_eq (v1 x y) (wpAny_bind (wpAny_pure ?_)))
  refine wpAny_pure ⟨plainId_quiet v3 _, codeAny_builtin v2 ?_⟩
  rw [Around.under_plainId v3 _]
  unfold Builtin.«type.__prepare__»
  refine wpAny_bind (newObj_g (data := .dict #[]) ?_ (hs := by show 0 ≤ _; exact Nat.zero_le _))
  intro b h' hb' k l
  exact wpAny_pure (hq b h' hb' k l)
theorem classCode_g {M : Model} {A : Around} {E : Value → Shared → Prop} {h : Heap} {gs : Array GenState} {d : Drawn} {t : Nat} {os : OsState} {env : Env} {c P : Addr} {pos : Pos} {line : Nat} {name qual : Str} {scope : Scope} {Q : Value → Shared → Prop}
    (hc : env.code = .ref c) (C : CodeHd h c P) (hP : h.get? P = some (tabObj #[]))
    (hq : ∀ c' P' h' tk, (∀ b o, b ≠ P → h.get? b = some o → h'.get? b = some o) → h.objs.size ≤ c' → h.objs.size ≤ P' → CodeHd h' c' P' → h'.get? P' = some (tabObj #[]) → (∃ ps, h'.get? P = some (tabObj ps)) → Q (.ref c') ⟨h', gs, d, tk, os⟩) :
    wpAny M A (classCode env pos line name qual scope) Q E ⟨h, gs, d, t, os⟩ := by
  obtain ⟨o, vs, file, tf, flags, tg, inF, text, tt, ho, hcl, hd, h11', h11, h18, h7, h9, h10, hne⟩ := id C
  unfold classCode codeAt
  rw [hc, if_neg (show ¬ ((Value.ref c == Value.none) = true) from Bool.false_ne_true)]
  refine wpAny_bind (wpAny_fieldsOf ho hd ?_)
  rw [h11]
  refine wpAny_bind (wpAny_fieldsOf hP rfl ?_)
  rw [show codeAmong pos (#[] : Array Value).toList = none from rfl, h18, h7, h9, h10]
  refine wpAny_bind (wpAny_newCodeX fun c' P' h' tk hk hc' hP' hcode' htab' hrec' => ?_)
  have hop' := hk _ _ hP
  refine wpAny_bind (wpAny_updateFieldsOfTheText hop' rfl ?_)
  have hget : (h'.update P (Obj.mapFields fun vs => if (codeAmong pos vs.toList).isSome = true then vs else vs ++ #[rawInt pos.line, rawInt pos.col, .ref c'])).get? P = some (tabObj #[rawInt pos.line, rawInt pos.col, .ref c']) := Heap.get?_update_self _ hop' rfl
  refine wpAny_bind (wpAny_fieldsOf hget rfl ?_)
  rw [show codeAmong pos (#[rawInt pos.line, rawInt pos.col, Value.ref c'] : Array Value).toList = some (.ref c') from codeAmong_snoc [] trivial rfl]
  have sb : Heap.SameBut P h' (h'.update P (Obj.mapFields fun vs => if (codeAmong pos vs.toList).isSome = true then vs else vs ++ #[rawInt pos.line, rawInt pos.col, .ref c'])) := Heap.SameBut.update ..
  have hcP : c' ≠ P := Nat.ne_of_gt (Nat.lt_of_lt_of_le (Heap.lt_size hP) hc')
  have hPP : P' ≠ P := Nat.ne_of_gt (Nat.lt_of_lt_of_le (Heap.lt_size hP) hP')
  refine wpAny_pure (hq c' P' _ _ (fun b o hb e => (sb.2 b hb).trans (hk b o e)) hc' hP' ?_ ((sb.2 _ hPP).trans htab'.2) ⟨_, hget⟩)
  obtain ⟨o2, vs2, file2, tf2, flags2, tg2, inF2, text2, tt2, e2, r⟩ := CodeHd.of hcode' htab'
  exact ⟨o2, vs2, file2, tf2, flags2, tg2, inF2, text2, tt2, (sb.2 _ hcP).trans e2, r⟩
abbrev cenvK (scope : Scope) (nsA g : Addr) (qual : Str) (c1 f1 : Addr) (clos : List (Str × Addr)) : Env := { scope, locals := nsA, globals := g, qual := qual ++ ".", code := .ref c1, frame := some f1, builtins := builtinsNs, cells := clos }
/-- the names that the class's own table may bear -/
abbrev allNames : List Str := kNames ++ [Str.ofString "__qualname__", Str.ofString "__firstlineno__", Str.ofString "__static_attributes__", Str.ofString "obj", Str.ofString "__doc__"]
/-- the class that cmp_to_key has made -/
structure KeyCls (h : Heap) (C ns md fi fl ci cl : Addr) (oi ol : Obj) (u1 u2 : Str) (m : Str → Option Value) : Prop where
  cls : ∃ bT t1 tq, h.get? C = some (clsO C ns (slK bT t1 tq))
  hmd : ∃ tm, h.get? md = some (mdO C tm)
  ns : NsD h ns m 200
  hfi : h.get? fi = some oi
  hci : h.CodeRec (.ref ci) u1
  hfl : h.get? fl = some ol
  hcl : h.CodeRec (.ref cl) u2
  mi : m (Str.ofString "__init__") = some (.ref fi)
  ml : m (Str.ofString "__lt__") = some (.ref fl)
  mo : m (Str.ofString "obj") = some (.ref md)
  mno : ∀ y, y ∉ allNames → m y = none
theorem k_low (w : World) : ∀ a o, (hd.heap_1 w.params).lookup a = some o → a < 147 := by
  intro a o e
  have hall : (hd.heap_1 w.params).all (fun p => decide (p.1 < 147)) = true := by kernel_rfl
  have := List.all_eq_true.mp hall (a, o) (kb_mem e)
  simpa using this
section
variable {w : World} {A : Around} {E : Value → Shared → Prop} {h : Heap} {gs : Array GenState} {d : Drawn} {t : Nat} {os : OsState} {mg : Str → Option Value}
theorem build_K {qual : Str} {body : List Stmt} {scope : Scope} {statics : List Str} {line : Nat} {env : Env} {pos : Pos} {clos : List (Str × Addr)} {mn : Value} {OI OL : Value → Addr → Value → Obj} {u1 u2 : Str} {Q : Value → Shared → Prop}
   (X : (hd.heap_1 w.params).In h) (G : h.Ns mainGlobals mg) (hb : h.BuiltinsAt mg 48) (lim : h.NoLimit) (h48 : h.get? 48 = some (tabObj #[])) (C48 : CodeHd h 52 48)
   (eg : env.globals = mainGlobals) (ec : env.code = .ref 52) (hclo : closureFor scope env = pure clos)
   (sc1 : (scope.names.lookup ("__class__" : Str) == some NameKind.cell) = false) (sc2 : (scope.names.lookup ("__classdict__" : Str) == some NameKind.cell) = false) (hroom : A.depth < recursionLimit)
   (hld : ∀ e : Env, e.scope = scope → loadName e (Str.ofString "__name__") = (localGet e (Str.ofString "__name__") >>= fun o => match o with | some v => pure v | none => loadGlobal e (Str.ofString "__name__")))
   (hst : ∀ e : Env, e.scope = scope → ∀ name ∈ kNames ++ [Str.ofString "__qualname__", Str.ofString "__firstlineno__", Str.ofString "__static_attributes__"], ∀ v, storeName e name v = localSet e name v)
   (hbs : ∀ e : Env, e.scope = scope → blockStart body e = pure ())
   (lb : ∀ bm, mg "__builtins__" = some (.ref bm) → bm < 147) (mgn : mg (Str.ofString "__name__") = some mn) (hmn : ∃ s t, mn = .str s t) (hOI : ∀ a b c, (OI a b c).cls = .type "function") (hOL : ∀ a b c, (OL a b c).cls = .type "function") (hqual : qual = Str.ofString "cmp_to_key.<locals>.K")
   (hq : ∀ C ns md fi fl ci cl di vi dl vl m' h' tk, KeyCls h' C ns md fi fl ci cl (OI di ci vi) (OL dl cl vl) u1 u2 m' → (∀ b o, b ≠ 48 → h.get? b = some o → h'.get? b = some o) → (∃ ps, h'.get? 48 = some (tabObj ps)) → (∀ x ∈ [C, ns, md, fi, fl, ci, cl], h.get? x = none) → Q (.ref C) ⟨h', gs, d, tk, os⟩)
   (hbody : ∀ nsA c1 P1 f1 h1 m1 n1 t1 (A' : Around) (E' : Value → Shared → Prop) (Q' : Flow → Shared → Prop), CB w 147 h1 nsA c1 P1 mg m1 #[] n1 →
      (∀ fi ci vi di fl cl vl dl sl tS h' tk m' ps', BodyDone w 147 h1 h' nsA c1 P1 mg m1 m' ps' (n1 + 9) fi fl ci cl sl (OI di ci vi) (OL dl cl vl) u1 u2 tS → Q' .next ⟨h', gs, d, tk, os⟩) →
      wpAny (model P0 w) A' (execs body (cenvK scope nsA env.globals qual c1 f1 clos)) Q' E' ⟨h1, gs, d, t1, os⟩) :
   wpAny (model P0 w) A (buildClass (Str.ofString "K") qual [.type "object"] [] body scope statics line env pos none) Q E ⟨h, gs, d, t, os⟩ := by
  unfold buildClass
  refine wpAny_bind (newObj_g ?_ (hs := by show 1 ≤ _; rw [sizeLine_eq]; decide))
  intro gT h1 hgT k1 l1
  wp_step
  refine forIn_one (x := Value.type "object") ?_
  iterate 4 wp_step
  refine ite_no (by simp) ?_
  wp_step
  wp_step
  refine wpAny_bind (wpAny_of_eq f4 ?_)
  refine wpAny_bind (m := isType (.type "type")) (wpAny_pure ?_)
  refine ite_yes rfl ?_
  refine wpAny_bind (forIn_one (x := Value.type "object") ?_)
  refine wpAny_bind (wpAny_of_eq f4 (wpAny_bind (wpAny_of_eq f1 ?_)))
  refine ite_yes rfl (wpAny_pure ?_)
  refine wpAny_bind (wpAny_mkText ?_)
  show wpAny _ _ _ _ _ ⟨h1, gs, d, t + 1, os⟩
  refine ite_no (by decide) ?_
  refine wpAny_bind (wpAny_pure ?_)
  refine wpAny_holding ?_
  have X1 := X.keeps k1
  refine wpAny_bind (prep_attr X1 ?_)
  intro bm h2 D2
  have k2 : ∀ b o, h1.get? b = some o → h2.get? b = some o := fun b o e => D2.keep b o e (by simp [away])
  refine wpAny_bind (prep_new (D2.at 0 _ _ rfl) ?_)
  intro nsA h3 hns3 k3 l3
  have e146 : ∃ o, h.get? 146 = some o := ⟨_, X 146 _ rfl⟩
  have l147 : 147 ≤ nsA := by
    obtain ⟨o, e⟩ := e146
    exact Nat.le_trans (Heap.lt_size (k2 _ _ (k1 _ _ e))) l3
  refine wpAny_bind (m := notTheModulesDict _ nsA) ?_
  unfold notTheModulesDict
  refine ite_no (by
    have : nsA ≠ sysModules := Nat.ne_of_gt (Nat.lt_of_lt_of_le (by decide) l147)
    simpa using this) (wpAny_pure ?_)
  refine wpAny_bind (wpAny_specialOf (T := "dict") (r := some (.builtin "dict.__getitem__")) ⟨_, hns3, rfl⟩ (by rw [typeLookup_type, builtinLookup_eq_fast]; kernel_rfl) ?_)
  refine ite_no (by decide) ?_
  refine wpAny_holding ?_
  refine ite_no (by rw [sc1]; decide) ?_
  refine wpAny_bind (wpAny_pure ?_)
  refine ite_no (by rw [sc2]; decide) ?_
  refine wpAny_bind (wpAny_pure ?_)
  have k03 : ∀ b o, h.get? b = some o → h3.get? b = some o := fun b o e => k3 _ _ (k2 _ _ (k1 _ _ e))
  refine wpAny_bind (classCode_g ec (C48.keeps k03) (k03 _ _ h48) ?_)
  intro c1 P1 h4 tk4 k4 lc4 lP4 C4 hP4 g48
  have k04 : ∀ b o, b ≠ 48 → h.get? b = some o → h4.get? b = some o := fun b o hb e => k4 b o hb (k03 b o e)
  have G4 : h4.Ns mainGlobals mg := let ⟨o, es, ep, e, r⟩ := G; ⟨o, es, ep, k04 _ _ (by decide) e, r⟩
  obtain ⟨bmm, obm, b1, b2, b3, b4, b5, b6, b7, b8⟩ := id hb
  refine wpAny_bind (wpAny_builtinsFor (eg ▸ G4) b1 b2 (k04 _ _ b4 b5) b6 b7 b8 ?_)
  refine wpAny_bind ?_
  unfold newBodyFrame
  refine wpAny_bind (wpAny_nsGet (eg ▸ G4) ?_)
  refine alloc_g ?_
  intro f1 h5 hf5 k5 l5
  refine wpAny_bind (wpAny_of_eq hclo ?_)
  refine wpAny_holding ?_
  have k05 : ∀ b o, b ≠ 48 → h.get? b = some o → h5.get? b = some o := fun b o hb e => k5 b o (k04 b o hb e)
  have ns5 : NsD h5 nsA (fun _ => none) 0 := ⟨_, #[], _, _, k5 _ _ (k4 _ _ (Nat.ne_of_gt (Nat.lt_of_lt_of_le (by decide) l147)) hns3), fun _ he => by simp at he, .nil, fun _ => rfl, Nat.le_refl _⟩
  have lP : 147 ≤ P1 := by
    obtain ⟨o, e⟩ := e146
    exact Nat.le_trans (Heap.lt_size (k03 _ _ e)) lP4
  have K5 : CB w 147 h5 nsA c1 P1 mg (fun _ => none) #[] 0 := by
    refine ⟨fun a o e => k05 a o (fun q => by rw [q] at e; cases e) (X a o e), ?_, ns5, C4.keeps k5, k5 _ _ hP4, trivial, G4.keeps k5, ?_, ?_, l147, lP, by decide, by decide, lb, ?_⟩
    · exact k_low w
    · exact ⟨bmm, obm, b1, b2, b3, Nat.ne_of_lt (Nat.lt_of_lt_of_le (lb _ b1) lP), k05 _ _ b4 b5, b6, b7, b8⟩
    · obtain ⟨mc, ⟨o, es, ep, e, r⟩, q⟩ := lim
      exact ⟨mc, ⟨o, es, ep, k05 _ _ (by decide) e, r⟩, q⟩
    · exact Nat.ne_of_gt (Nat.lt_of_lt_of_le (Heap.lt_size hns3) lc4)
  refine wpAny_bind (wpAny_enterFrame K5.lim hroom ?_)
  refine wpAny_bind (wpAny_onRaise ?_)
  have hin : ∀ nm : Str, (kNames ++ [Str.ofString "__qualname__", Str.ofString "__firstlineno__", Str.ofString "__static_attributes__"]).contains nm = true → nm ∈ (kNames ++ [Str.ofString "__qualname__", Str.ofString "__firstlineno__", Str.ofString "__static_attributes__"]) := fun nm e => by simpa using e
  rw [hld _ rfl]
  refine wpAny_bind (wpAny_bind ?_)
  unfold localGet
  obtain ⟨dd5, es5, ep5, sl5, ens5, _⟩ := id ns5
  refine wpAny_bind (wpAny_load ens5 ?_)
  refine ite_yes (by rfl) ?_
  refine wpAny_nsGet ns5.ns ?_
  unfold loadGlobal
  refine wpAny_bind (wpAny_nsGet (eg ▸ K5.g) ?_)
  rw [mgn]
  refine wpAny_pure ?_
  refine wpAny_bind (cstore K5 rfl (hst _ rfl _ (hin _ (by decide +kernel)) _) fun h6 K6 s6 => ?_)
  refine wpAny_bind (wpAny_mkText ?_)
  refine wpAny_bind (cstore K6 rfl (hst _ rfl _ (hin _ (by decide +kernel)) _) fun h7 K7 s7 => ?_)
  refine wpAny_bind (wpAny_mkInt ?_)
  refine wpAny_bind (cstore K7 rfl (hst _ rfl _ (hin _ (by decide +kernel)) _) fun h8 K8 s8 => ?_)
  refine wpAny_pure ?_
  refine wpAny_bind (wpAny_run (codeAny_of_tree ?_))
  show wpAny _ _ (do blockStart body (cenvK scope nsA env.globals qual c1 f1 clos); return PySem.Fin.done (← (execs body (cenvK scope nsA env.globals qual c1 f1 clos)).onRaise (leaving (cenvK scope nsA env.globals qual c1 f1 clos)))) _ _ ⟨h8, gs, d, _, os⟩
  refine wpAny_bind (wpAny_of_eq (hbs _ rfl) (wpAny_bind (wpAny_onRaise (hbody _ _ _ _ _ _ _ _ _ _ _ K8 ?_))))
  intro fi ci vi di fl cl vl dl sl tS h9 tk9 m9 ps9 D9
  refine wpAny_pure ?_
  refine wpAny_bind (wpAny_onRaise ?_)
  refine wpAny_bind (wpAny_mkStrs fun fs => ?_)
  refine wpAny_bind (wpAny_newTextTuple ?_)
  have lns9 : nsA < h9.objs.size := let ⟨_, _, _, _, e, _⟩ := D9.cb.ns; Heap.lt_size e
  obtain ⟨tp, htp⟩ : ∃ tp, tp = h9.objs.size := ⟨_, rfl⟩
  have K10 : CB w 147 (h9.push { cls := .type "tuple", data := .seq fs.toArray }) nsA c1 P1 mg m9 ps9 _ := D9.cb.next (fun b o _ _ e => Heap.get?_push_of_some _ e) (D9.cb.ns.at fun o e => Heap.get?_push_of_some _ e) (Heap.get?_push_of_some _ D9.cb.tab) D9.cb.trip
  have tp10 : (h9.push { cls := .type "tuple", data := .seq fs.toArray }).get? tp = some { cls := .type "tuple", data := .seq fs.toArray } := by rw [htp]; exact Heap.get?_push_size _ rfl
  have k10 : ∀ b o, h9.get? b = some o → (h9.push { cls := .type "tuple", data := .seq fs.toArray }).get? b = some o := fun b o e => Heap.get?_push_of_some _ e
  have go : ∀ (tk : Nat) (Q' : Unit → Shared → Prop) (E' : Value → Shared → Prop), (∀ h' , CB w 147 h' nsA c1 P1 mg (fun y => if y = Str.ofString "__static_attributes__" then some (.ref tp) else m9 y) ps9 _ → Heap.SameBut nsA (h9.push { cls := .type "tuple", data := .seq fs.toArray }) h' → Q' () ⟨h', gs, d, tk + 1, os⟩) →
      wpAny (model P0 w) A (storeName (cenvK scope nsA env.globals qual c1 f1 clos) (Str.ofString "__static_attributes__") (.ref tp)) Q' E' ⟨h9.push { cls := .type "tuple", data := .seq fs.toArray }, gs, d, tk, os⟩ := fun tk Q' E' hh => cstore K10 rfl (hst _ rfl _ (hin _ (by decide +kernel)) _) hh
  rw [htp] at go
  refine wpAny_bind (go _ _ _ fun h11 K11 s11 => ?_)
  rw [← htp] at K11
  refine wpAny_pure ?_
  refine ite_no (by decide) ?_
  have l12 : ∀ b o, h1.get? b = some o → b ≠ nsA := fun b o e => Nat.ne_of_lt (Nat.lt_of_lt_of_le (Heap.lt_size (k2 _ _ e)) l3)
  have l13 : ∀ b o, h1.get? b = some o → b ≠ P1 := fun b o e => Nat.ne_of_lt (Nat.lt_of_lt_of_le (Heap.lt_size (k3 _ _ (k2 _ _ e))) lP4)
  have k511 : ∀ b o, b ≠ nsA → b ≠ P1 → h5.get? b = some o → h11.get? b = some o := fun b o n1 n2 e =>
    (s11.2 b n1).trans (k10 b o (D9.keep b o n2 n1 ((s8.2 b n1).trans ((s7.2 b n1).trans ((s6.2 b n1).trans e)))))
  have kk : ∀ b o, b ≠ 48 → h1.get? b = some o → h11.get? b = some o := fun b o hb e => k511 b o (l12 b o e) (l13 b o e) (k5 _ _ (k4 b o hb (k3 _ _ (k2 _ _ e))))
  have h48' : ∃ ps, h11.get? 48 = some (tabObj ps) := by
    obtain ⟨ps, e⟩ := g48
    exact ⟨ps, k511 48 _ (Nat.ne_of_lt (Nat.lt_of_lt_of_le (by decide) l147)) (Nat.ne_of_lt (Nat.lt_of_lt_of_le (by decide) lP)) (k5 _ _ e)⟩
  have gT48 : gT ≠ 48 := Nat.ne_of_gt (Nat.lt_of_lt_of_le (Heap.lt_size h48) l1)
  obtain ⟨mns, nmn, rfl⟩ := hmn
  subst hqual
  have k911 : ∀ b o, b ≠ nsA → h9.get? b = some o → h11.get? b = some o := fun b o n1 e => (s11.2 b n1).trans (k10 b o e)
  obtain ⟨dd11, es11, ep11, sl11, ho11, hk11, hu11, hf11, hz11⟩ := id K11.ns
  obtain ⟨m11, hm11⟩ : ∃ m11 : Str → Option Value, m11 = (fun y => if y = Str.ofString "__static_attributes__" then some (.ref tp) else m9 y) := ⟨_, rfl⟩
  rw [← hm11] at hf11
  have e11 : ∀ n : Str, n ≠ Str.ofString "__static_attributes__" → m11 n = m9 n := fun n hn => by rw [hm11]; exact if_neg hn
  have hno : ∀ nm : Str, kNames.contains nm = false → nm ∉ kNames := fun nm e q => by
    have : kNames.contains nm = true := by simpa using q
    rw [e] at this; cases this
  have e9 : ∀ n : Str, n ≠ Str.ofString "__static_attributes__" → kNames.contains n = false → m11 n = _ := fun n h1 h2 => (e11 n h1).trans (D9.rest n (hno n h2))
  have htp9 : tp ≠ nsA := by rw [htp]; exact Nat.ne_of_gt lns9
  have isl : h11.IsList sl #[.str (Str.ofString "obj") tS] := by
    obtain ⟨o, e, r⟩ := D9.ls
    refine ⟨o, k911 _ _ (fun q => ?_) e, r⟩
    obtain ⟨_, _, _, _, e', _⟩ := D9.cb.ns
    rw [q, e'] at e
    cases e
    have := r.1
    simp at this
  have calm11 : ∀ n v, m11 n = some v → Calm h11 v := by
    intro n v e
    have kc : ∀ u, Calm h9 u → Calm h11 u := by
      intro u hu
      cases u with
      | ref x =>
        obtain ⟨o, T, ex, ec', et⟩ := hu
        by_cases q : x = nsA
        · subst q
          obtain ⟨_, _, _, _, e', _⟩ := D9.cb.ns
          rw [e'] at ex
          cases ex
          exact ⟨_, T, ho11, ec', et⟩
        · exact ⟨o, T, k911 _ _ q ex, ec', et⟩
      | _ => exact hu
    rw [hm11] at e
    dsimp only at e
    split at e
    · cases e; exact ⟨_, "tuple", (s11.2 _ htp9).trans tp10, rfl, sn_tuple⟩
    · rcases D9.calm n v e with q | q
      · dsimp only at q
        split at q
        · cases q; trivial
        split at q
        · cases q; trivial
        split at q
        · cases q; trivial
        · cases q
      · exact kc v q
  refine wpAny_bind (ty_call (R := fun a s' => ∃ ns md tm h' tk m' bT t1 tq, s' = ⟨h', gs, d, tk, os⟩ ∧ h'.get? a = some (clsO a ns (slK bT t1 tq)) ∧ h'.get? md = some (mdO a tm) ∧ NsD h' ns m' 200 ∧ m' (Str.ofString "obj") = some (.ref md) ∧ (∀ n, n ≠ Str.ofString "__qualname__" → n ≠ Str.ofString "obj" → n ≠ Str.ofString "__doc__" → m' n = m11 n) ∧
      (∀ b o, h11.get? b = some o → h'.get? b = some o) ∧ (h11.get? a = none ∧ h11.get? ns = none ∧ h11.get? md = none)) ?_ ?_)
  · intro A' E' Q' hQ'
    have hs1 : (nsA == sysModules) = false := by
      have : nsA ≠ sysModules := Nat.ne_of_gt (Nat.lt_of_lt_of_le (by decide) l147)
      simpa using this
    have mQ : m11 (Str.ofString "__qualname__") = some (.str (Str.ofString "cmp_to_key.<locals>.K") (tk4 + 1)) := (e9 _ (by decide +kernel) (by decide +kernel)).trans (by kernel_rfl)
    refine ty_new (m := m11) (sl := sl) (tS := tS) (tq := tk4 + 1) K11.K calm11 (kk _ _ gT48 hgT) ho11 hs1 (by lia) hk11 hu11 hf11 ((e11 _ (by decide +kernel)).trans D9.ms) ((e9 _ (by decide +kernel) (by decide +kernel)).trans (by kernel_rfl))
      (by rw [e11 _ (by decide +kernel)]; exact D9.mm) mQ ((e9 _ (by decide +kernel) (by decide +kernel)).trans (by kernel_rfl)) ((e9 _ (by decide +kernel) (by decide +kernel)).trans (by kernel_rfl)) ((e9 _ (by decide +kernel) (by decide +kernel)).trans (by kernel_rfl))
      ((e9 _ (by decide +kernel) (by decide +kernel)).trans (by kernel_rfl)) ((e9 _ (by decide +kernel) (by decide +kernel)).trans (by kernel_rfl)) ((e9 _ (by decide +kernel) (by decide +kernel)).trans (by kernel_rfl)) ((e9 _ (by decide +kernel) (by decide +kernel)).trans (by kernel_rfl))
      (by rw [e11 _ (by decide +kernel)]; exact D9.me) (by rw [e11 _ (by decide +kernel)]; exact D9.mh) isl ?_
    intro a ns md tm h' tk m' q1 q2 q3 q4 q5 q6 q7
    exact hQ' a _ ⟨ns, md, tm, h', tk, m', _, _, _, rfl, q1, q2, q3, q4, q5, q6, q7⟩
  · rintro a s' ⟨ns, md, tm, h', tk, m', bT, t1, tq, rfl, q1, q2, q3, q4, q5, q6, q7⟩
    refine ⟨⟨_, q1, rfl⟩, ?_⟩
    refine wpAny_pure ?_
    have cr : ∀ {c : Addr} {u : Str}, h9.CodeRec (.ref c) u → h'.CodeRec (.ref c) u := fun ⟨c', o, vs, tt, e, r1, r2⟩ => ⟨c', o, vs, tt, e, q6 _ _ (k911 _ _ (fun q => by
      obtain ⟨_, _, _, _, e', _⟩ := D9.cb.ns
      rw [q, e'] at r1
      cases r1
      cases r2.1) r1), r2⟩
    refine hq a ns md fi fl ci cl di vi dl vl m' h' tk ⟨⟨_, _, _, q1⟩, ⟨_, q2⟩, q3, ?_, cr D9.hci, ?_, cr D9.hcl, ?_, ?_, q4, ?_⟩ (fun b o hb e => q6 _ _ (kk b o hb (k1 _ _ e))) ?_ ?_
    · refine q6 _ _ (k911 _ _ (fun q => ?_) D9.hfi)
      obtain ⟨_, _, _, _, e', _⟩ := D9.cb.ns
      have e2 := D9.hfi
      rw [q, e'] at e2
      have e3 := hOI di ci vi
      rw [← Option.some.inj e2] at e3
      simp at e3
    · refine q6 _ _ (k911 _ _ (fun q => ?_) D9.hfl)
      obtain ⟨_, _, _, _, e', _⟩ := D9.cb.ns
      have e2 := D9.hfl
      rw [q, e'] at e2
      have e3 := hOL dl cl vl
      rw [← Option.some.inj e2] at e3
      simp at e3
    · rw [q5 _ (by decide +kernel) (by decide +kernel) (by decide +kernel), e11 _ (by decide +kernel)]; exact D9.mi
    · rw [q5 _ (by decide +kernel) (by decide +kernel) (by decide +kernel), e11 _ (by decide +kernel)]; exact D9.ml
    · intro y hy
      obtain ⟨z1, z2⟩ := not_or.mp fun q => hy (List.mem_append.mpr q)
      simp only [List.mem_cons, not_or] at z2
      obtain ⟨z3, z4, z5, z6, z7, _⟩ := z2
      rw [q5 y z3 z6 z7, e11 y z5, D9.rest y z1]
      have z8 : y ≠ Str.ofString "__module__" := fun q => z1 (q ▸ .head _)
      simp only [z3, z4, z8, if_false]
    · obtain ⟨ps, e⟩ := h48'
      exact ⟨ps, q6 _ _ e⟩
    · have up : ∀ x, (∃ hh : Heap, hh.get? x = none ∧ (∀ o, x ≠ 48 → h.get? x = some o → hh.get? x = some o) ∧ ∃ ps, hh.get? 48 = some (tabObj ps)) → h.get? x = none := by
        rintro x ⟨hh, e1, e2, ps, e3⟩
        have n48 : x ≠ 48 := fun z => by rw [z, e3] at e1; cases e1
        cases z : h.get? x with
        | none => rfl
        | some o => rw [e2 o n48 z] at e1; cases e1
      have k8 : ∀ b o, b ≠ 48 → h.get? b = some o → h8.get? b = some o := fun b o hb e => by
        have e1 := k1 _ _ e
        exact (s8.2 b (l12 b o e1)).trans ((s7.2 b (l12 b o e1)).trans ((s6.2 b (l12 b o e1)).trans (k05 b o hb e)))
      have t8 : ∃ ps, h8.get? 48 = some (tabObj ps) := by
        obtain ⟨ps, e⟩ := g48
        have n48 : (48 : Nat) ≠ nsA := Nat.ne_of_lt (Nat.lt_of_lt_of_le (by decide) l147)
        exact ⟨ps, (s8.2 48 n48).trans ((s7.2 48 n48).trans ((s6.2 48 n48).trans (k5 _ _ e)))⟩
      have u11 : ∀ x, h11.get? x = none → h.get? x = none := fun x e => up x ⟨h11, e, fun o hb z => kk x o hb (k1 _ _ z), h48'⟩
      have u8 : ∀ x, h8.get? x = none → h.get? x = none := fun x e => up x ⟨h8, e, fun o hb z => k8 x o hb z, t8⟩
      intro x hx
      simp only [List.mem_cons, List.not_mem_nil, or_false] at hx
      rcases hx with rfl | rfl | rfl | rfl | rfl | rfl | rfl
      · exact u11 _ q7.1
      · exact u11 _ q7.2.1
      · exact u11 _ q7.2.2
      · exact u8 _ D9.new.1
      · exact u8 _ D9.new.2.1
      · exact u8 _ D9.new.2.2.1
      · exact u8 _ D9.new.2.2.2
end
end
theorem off_F4 : True := by
  w_top off
  trivial
section
open PySem.W.X
section
variable {M : Model} {A : Around} {E : Value → Shared → Prop} {s : Shared} {env : Env}
theorem evalArgs_one {f : Value} {x : Sem Value} {Q : Args → Shared → Prop} (h : wpAny M A x (fun v s' => Q ⟨[v], []⟩ s') E s) : wpAny M A (evalArgs f false [(false, x)] []) Q E s := by
  unfold evalArgs
  show wpAny M A (spliced [(false, x)] >>= _) Q E s
  refine wpAny_bind (spliced_cons (wpAny_mono h (fun v s' h' => spliced_nil ?_) fun _ _ x => x))
  refine wpAny_holding ?_
  exact wpAny_bind (wpAny_pure (wpAny_bind (wpAny_pure (wpAny_pure h'))))
theorem class_exec {name bind : Str} {b : Expr} {body : List Stmt} {scope : Scope} {x1 : Option Scope} {statics : List Str} {pos : Pos} {Q : Flow → Shared → Prop} (hb : starEach [b] env = [(false, eval b env)])
    (h : wpAny M A (buildClassGuard env) (fun _ s₁ => wpAny M A (eval b env) (fun v s₂ => wpAny M A (buildClass name (qualnameIn env name bind) [v] [] body scope statics pos.line env pos none) (fun c s₃ => wpAny M A (storeName env bind c) (fun _ s₄ => Q .next s₄) E s₃) E s₂) E s₁) E s) :
    wpAny M A (exec (.ClassDef name [b] [] body [] [] scope x1 bind statics pos) env) Q E s := by
  rw [arm_exec_ClassDef]
  refine wpAny_bind (m := evalAll _) (wpAny_pure ?_)
  refine wpAny_bind (wpAny_standAt (wpAny_bind (wpAny_mono h (fun _ s₁ h₁ => ?_) fun _ _ x => x)))
  refine wpAny_bind (wpAny_holding (wpAny_bind ?_))
  rw [hb]
  refine evalArgs_one (wpAny_mono h₁ (fun v s₂ h₂ => ?_) fun _ _ x => x)
  refine wpAny_bind (wpAny_standAt (wpAny_holding (wpAny_mono h₂ (fun c s₃ h₃ => ?_) fun _ _ x => x)))
  refine wpAny_bind (m := decorate _ c) (wpAny_pure ?_)
  refine wpAny_bind (wpAny_standAt (wpAny_bind (wpAny_bindName (wpAny_mono h₃ (fun _ s₄ h₄ => wpAny_pure h₄) fun _ _ x => x))))
theorem guard_ok {mb : Str → Option Value} {Q : Unit → Shared → Prop} (hb : s.heap.Ns env.builtins mb) (hv : mb (Str.ofString "__build_class__") = some (.builtin "__build_class__")) (h : Q () s) : wpAny M A (buildClassGuard env) Q E s := by
  unfold buildClassGuard
  refine wpAny_bind (wpAny_nsGet hb ?_)
  rw [hv]
  exact wpAny_pure h
end
theorem ld_class (e : Env) (hk : e.scope.kind = .class) (hn : e.kindOf (Str.ofString "__name__") = none) : loadName e (Str.ofString "__name__") = (localGet e (Str.ofString "__name__") >>= fun o => match o with | some v => pure v | none => loadGlobal e (Str.ofString "__name__")) := by
  unfold loadName
  have hb : e.blockKind = .class := by unfold Env.blockKind; rw [hk]; rfl
  have hc : compilersOwnNames.contains (Str.ofString "__name__") = true := by decide +kernel
  rw [hk, hb, hn]
  simp only [ScopeKind.isAnnotationScope, Bool.false_and, Bool.false_eq_true, if_false, hc, Bool.not_true]
  refine congrArg (Bind.bind (localGet e (Str.ofString "__name__"))) ?_
  funext o
  cases o <;> rfl
/-- the statements of the class that cmp_to_key makes -/
def keyStmts : List Stmt := (P0.main.body.findSome? fun st => match st with | .FunctionDef _ _ [.ClassDef _ _ _ b _ _ _ _ _ _ _, _] _ _ _ _ _ _ _ => some b | _ => none).getD []
def keyFn (i : Nat) : Arguments × List Stmt × Scope := match keyStmts[i]? with
  | some (.FunctionDef _ a b _ _ _ s _ _ _) => (a, b, s)
  | _ => default
abbrev uI : Str := Str.ofString "cmp_to_key.<locals>.K.__init__"
abbrev uL : Str := Str.ofString "cmp_to_key.<locals>.K.__lt__"
abbrev fnI (cA : Addr) (di : Value) (ci : Addr) (vi : Value) : Obj := fnMade (Str.ofString "__init__") uI (keyFn 2).1 (keyFn 2).2.1 (keyFn 2).2.2 [] di (.str (Str.ofString "law_nq0066_01") 294) ci vi
abbrev fnL (cA : Addr) (di : Value) (ci : Addr) (vi : Value) : Obj := fnMade (Str.ofString "__lt__") uL (keyFn 3).1 (keyFn 3).2.1 (keyFn 3).2.2 [(Str.ofString "mycmp", cA)] di (.str (Str.ofString "law_nq0066_01") 294) ci vi
/-- the objects of the class that cmp_to_key has made, as they lie in the ledger -/
inductive KeyTl (C cA : Addr) : List (Addr × Obj) → Prop
  | mk (ns md fi fl ci cl bT : Addr) (t1 tq tm : Tok) (dI vI dL vL : Value) (oci ocl oA : Obj) (m' : Str → Option Value) (dd : Option Addr) (es : Array DictEntry) (ep : Nat) (sl : Array (Option Value))
    (hk : StrKeys es) (hu : UniqKeys es) (hf : ∀ x, nsFind es x = m' x) (mi : m' (Str.ofString "__init__") = some (.ref fi)) (ml : m' (Str.ofString "__lt__") = some (.ref fl)) (mo : m' (Str.ofString "obj") = some (.ref md)) (mno : ∀ y, y ∉ allNames → m' y = none)
    (vs1 : Array Value) (tt1 : Tok) (d1 : oci.data = .fields vs1) (v1 : vs1[1]? = some (.str uI tt1)) (vs2 : Array Value) (tt2 : Tok) (d2 : ocl.data = .fields vs2) (v2 : vs2[1]? = some (.str uL tt2)) (hA : oA.data = .cell (some (.ref 129))) :
    KeyTl C cA [(C, clsO C ns (slK bT t1 tq)), (ns, ⟨.type "dict", dd, .dict es ep, sl⟩), (md, mdO C tm), (fi, fnI cA dI ci vI), (fl, fnL cA dL cl vL), (ci, oci), (cl, ocl), (cA, oA)]
theorem t_key (w : World) (pre post : List (Addr × Obj))
   (dp un : Nat) (gd : Option (List Code)) (cn : Str) (cs : Scope) (a : Addr) (ccd : Value) (cl : List (Str × Addr)) (outer : List Env) (A₀ : Around) (base h₀ : Heap) (L : Addr) (m : Str → Option Value) (s : Shared) (Q E : Value → Shared → Prop)
   (p : Program) (loose : List Str) (mean : ExcName → Option Value) (mg mb : Str → Option Value)
    (B : Below A₀ base outer h₀) (F : Fr h₀ L s.heap m) (X : (hd.heap_1 w.params).In h₀) (N : News h₀ L s.heap (pre ++ (48, tabObj #[]) :: post)) (T : Top p loose mean mg mb h₀) (C : CodeHd h₀ 52 48) (hoff : ∀ q ∈ pre ++ post, q.1 ≠ 48) (hk : cs.kind = .function) (hd : dp + 9 < recursionLimit) (hu : un + 8 * 9 < cLine)
    (hret : ∀ K cA tl ps h' tk', KeyTl K cA tl → Fr h₀ L h' m → News h₀ L h' (tl ++ (pre ++ (48, tabObj ps) :: post)) → (∀ q ∈ pre ++ (48, tabObj ps) :: post, ∀ p ∈ tl, q.1 ≠ p.1) → Q (.ref K) { s with heap := h', toks := tk' }) :
    wpAny (model P0 w) (ktrTop dp un gd cn cs L a ccd cl outer) (call (.ref 53) [.ref 129]) Q E s := by
  refine wpAny_call ?_
  k_with_none
  k_with "WhileStep2 brk" => dsimp only [WhileStep2]
  k_with "binaryOp Add str str" => ((refine PyProof.Rows.add_str ?_ (hsz := by ktn_open)); intro _ _)
  k_with "subscriptTail Name Slice str ref" => ((with_reducible show wpAny _ _ (subscriptTail _ (Expr.Slice none (some _) none _) _ _) _ _ _); (refine slice_strN_ns (hsz := by ktn_open) (s := ⟨_, _, _, _, _⟩) (by k_asm) (by k_asm) ?_); intro _ _ _ _ _)
  k_with "subscriptTail Name Slice str ref" => ((with_reducible show wpAny _ _ (subscriptTail _ (Expr.Slice (some _) none none _) _ _) _ _ _); (refine slice_strN_sn (hsz := by ktn_open) (s := ⟨_, _, _, _, _⟩) (by k_asm) (by k_asm) ?_); intro _ _ _ _ _)
  k_with "call builtin:len" => ((with_reducible show wpAny _ _ (call (Value.builtin "len") [Value.str (S _) _]) _ _ _); refine lenS (by ktn_open) ?_)
  k_with "eval ListComp" => (k_here; (with_reducible show wpAny _ _ (eval (Expr.ListComp _ [⟨_, _, [], _⟩] _ _) _) _ _ _); k_dflt (refine LCg.ListComp_U (F₀ := by k_asm) (by with_unfolding_all rfl) (by decide) (by rfl) (by decide) (by rfl) ?_))
  k_with "eval ListComp" => (k_here; (with_reducible show wpAny _ _ (eval (Expr.ListComp _ [⟨_, _, [_], _⟩] _ _) _) _ _ _); k_dflt (refine LCt.ListComp_T (F₀ := by k_asm) (by with_unfolding_all rfl) (by decide) (by rfl) (by decide) (by rfl) ?_))
  k_with "exec Assign cons ListComp" => (k_here; k_dflt (refine LCg.Assign_ListComp_U (F₀ := by k_asm) (by rfl) (by with_unfolding_all rfl) (by with_unfolding_all rfl) (by decide) (by rfl) (by decide) (by rfl) (by rfl) (by rfl) ?_))
  k_with "getMethod ref" => k_dflt (first | refine meth_L PySem.F.slot_list_count PySem.F.type_list_count (by k_asm) (by k_mem) ?_ | refine meth_L PySem.F.slot_list_append PySem.F.type_list_append (by k_asm) (by k_mem) ?_ | refine meth_L PySem.F.slot_list_pop PySem.F.type_list_pop (by k_asm) (by k_mem) ?_ | refine meth_L PySem.F.slot_list_remove PySem.F.type_list_remove (by k_asm) (by k_mem) ?_ | refine meth_L PySem.F.slot_list_extend PySem.F.type_list_extend (by k_asm) (by k_mem) ?_)
  k_with "stop" => with_reducible first | show wpAny _ _ (PySem.call (Value.ref _) _ _) _ _ _ | show wpAny _ _ (exec (Stmt.While _ _ _ _) _) _ _ _ | show wpAny _ _ (exec (Stmt.For _ _ _ _ _) _) _ _ _ | show wpAny _ _ (exec (Stmt.Try _ _ _ _ _) _) _ _ _ | show wpAny _ _ (pyIter _) _ _ _ | show wpAny _ _ (binaryOp Operator.Mult (Value.ref _) (Value.int _ _)) _ _ _ | show LCg.CompSrc _ _ _ _ _ _ _ _ _ _ _ _ _ _ | show wpAny _ _ (binaryOp Operator.Add (Value.ref _) (Value.ref _)) _ _ _ | show wpAny _ _ (PySem.call (Value.builtin "sorted") _ _) _ _ _ | show wpAny _ _ (PySem.call (Value.builtin "list.count") _ _) _ _ _ | show wpAny _ _ (PySem.call (Value.builtin "list.extend") _ _) _ _ _ | show wpAny _ _ (PySem.call (Value.builtin "list.append") _ _) _ _ _ | show wpAny _ _ (PySem.call (Value.builtin "len") [Value.ref _] _) _ _ _ | show wpAny _ _ (subscriptTail _ _ (Value.ref _) _) _ _ _ | show LCt.CompSrcT _ _ _ _ _ _ _ _ _ _ _ _ _ _ _ | show Exists _ | show wpAny _ _ (compareOp CmpOp.NotEq (Value.ref _) (Value.ref _)) _ _ _ | show wpAny _ _ (compareOp CmpOp.Eq (Value.ref _) (Value.ref _)) _ _ _
  k_dflt (refine' code_defC ?k1 ?k2 ?k3 ?k4 ?k5 ?kA ?kF ?kK ?k6 ?k7 ?k8 ?k9 ?kB ?kD ?_ ?c2 ?c3 ?c4; (case kA => exact rfl); (case kF => exact rfl); (case kK => assumption); (case k1 => k_asm); (case k2 => k_asm); (case k3 => k_asm); (case k4 => k_asm); (case k5 => k_asm); (case k6 => k_is); (case k7 => k_is); (case k8 => ktr_room); (case k9 => exact BindsTo.of_eq rfl); (case kB => exact rfl); (case kD => decide +kernel); (case c2 => exact rfl); (case c3 => exact rfl); (case c4 => exact rfl); k_whole; intro g1 L1 h1 tk1 cells' FG F1 N1 Y' B1 X1 T1 lt1; k_cells Y'; (try simp only [List.cons_append, List.nil_append] at N1); (try dsimp only); (try k_fold))
  refine wpAny_mono (E := fun _ _ => False) ?_ (fun _ _ h => h) (fun _ _ h => h.elim)
  tb_rel
  rename_i oA hA
  k_dflt (refine class_exec rfl (guard_ok (mb := mb) ?_ ?_ ?_))
  · exact T1.b.keeps F1.keep
  · exact (T1.builtins _ (by decide +kernel)).trans (by decide +kernel)
  tb_rel
  have X2 := X1.keeps F1.keep
  have mn := mg_of X1 T1.g (n := Str.ofString "__name__") (v := .str (Str.ofString "law_nq0066_01") 294) (by kernel_rfl)
  have mbm := mg_of X1 T1.g (n := Str.ofString "__builtins__") (v := .ref 4) (by kernel_rfl)
  have n48 := N1 (48, tabObj #[]) (by simp)
  refine build_K (mg := mg) X2 (T1.g.keeps F1.keep) ?_ (T1.nolimit.keeps F1.keep) n48.1 ((C.keeps FG.keep).keeps F1.keep) rfl rfl (clos := [(Str.ofString "mycmp", L1 + 1)]) (OI := fnI (L1 + 1)) (OL := fnL (L1 + 1)) (u1 := uI) (u2 := uL) ?_ ?_ ?_ ?_ ?_ ?_ ?_ ?_ mn ⟨_, _, rfl⟩ ?_ ?_ ?_ ?_ ?_
  · obtain ⟨bm, ob, b1, b2, b3, b4, b5, b6⟩ := T1.bmain
    rw [mbm] at b1
    cases b1
    exact ⟨4, ob, mbm, by decide, by decide, by decide, F1.keep _ _ b3, b4, b5, b6⟩
  · kernel_rfl
  · kernel_rfl
  · kernel_rfl
  · ktr_room
  · intro e he
    exact ld_class e (by rw [he]) (by unfold Env.kindOf; rw [he]; kernel_rfl)
  · rintro ⟨_, _, _, _, _, _, _, _, _⟩ rfl name hn v
    simp only [kNames, List.mem_append, List.mem_cons, List.not_mem_nil, or_false] at hn
    rcases hn with (rfl | rfl | rfl | rfl | rfl | rfl | rfl | rfl | rfl) | rfl | rfl | rfl <;> kernel_rfl
  · rintro ⟨_, _, _, _, _, _, _, _, _⟩ rfl
    kernel_rfl
  · intro bm e
    rw [mbm] at e
    cases e
    decide
  · intro _ _ _; rfl
  · intro _ _ _; rfl
  · kernel_rfl
  · intro K ns md fi fl ci cl' di vi dl vl m' h2 tk2 KC kp g48 fr
    obtain ⟨ps, e48⟩ := g48
    have lA : (L1 + 1, oA) ∈ (L1 + 1, oA) :: (pre ++ (48, tabObj #[]) :: post) := .head _
    have nA := N1 _ lA
    have l48 : (48 : Nat) < L1 := lt1 (48, tabObj #[]) (List.mem_append_right _ (.head _))
    have F2 := (⟨let ⟨o, es, ep, e, r⟩ := F1.ns; ⟨o, es, ep, kp L1 _ (Nat.ne_of_gt l48) e, r⟩, fun b o e => kp b o (fun q => by rw [q, n48.2.2] at e; cases e) (F1.keep b o e), F1.above⟩ : Fr g1 L1 h2 _)
    have hL1 : ∃ o, h1.get? L1 = some o := let ⟨o, _, _, e, _⟩ := F1.ns; ⟨o, e⟩
    have nu : ∀ x o, x ∈ [K, ns, md, fi, fl, ci, cl'] → h2.get? x = some o → h2.get? x = some o ∧ x ≠ L1 ∧ g1.get? x = none := fun x o hx e => by
      have e0 := fr x hx
      refine ⟨e, fun q => ?_, ?_⟩
      · obtain ⟨o', e'⟩ := hL1
        rw [q, e'] at e0; cases e0
      · cases z : g1.get? x with
        | none => rfl
        | some o' => rw [F1.keep _ _ z] at e0; cases e0
    have old : ∀ q ∈ pre ++ (48, tabObj ps) :: post, h2.get? q.1 = some q.2 ∧ q.1 ≠ L1 ∧ g1.get? q.1 = none := fun q hq => by
      rcases List.mem_append.mp hq with hq | hq
      · have n := N1 q (.tail _ (List.mem_append_left _ hq))
        exact ⟨kp _ _ (hoff q (List.mem_append_left _ hq)) n.1, n.2⟩
      · rcases List.mem_cons.mp hq with rfl | hq
        · exact ⟨e48, n48.2⟩
        · have n := N1 q (.tail _ (List.mem_append_right _ (.tail _ hq)))
          exact ⟨kp _ _ (hoff q (List.mem_append_right _ hq)) n.1, n.2⟩
    have olt : ∀ q ∈ pre ++ (48, tabObj ps) :: post, q.1 < L1 := fun q hq => by
      rcases List.mem_append.mp hq with hq | hq
      · exact lt1 q (List.mem_append_left _ hq)
      · rcases List.mem_cons.mp hq with rfl | hq
        · exact l48
        · exact lt1 q (List.mem_append_right _ (.tail _ hq))
    obtain ⟨⟨bT, t1, tq, hC⟩, ⟨tm, hMd⟩, ⟨dd, es, ep, sl, hNs, hk1, hu1, hf1, _⟩, hFi, hCi, hFl, hCl, mi, ml, mo, mno⟩ := KC
    obtain ⟨c1, oci, vs1, tt1, q1, hci, hd1, hv1⟩ := hCi
    cases q1
    obtain ⟨c2, ocl, vs2, tt2, q2, hcl, hd2, hv2⟩ := hCl
    cases q2
    have N2 : News g1 L1 h2 ([(K, clsO K ns (slK bT t1 tq)), (ns, ⟨.type "dict", dd, .dict es ep, sl⟩), (md, mdO K tm), (fi, fnI (L1 + 1) di ci vi), (fl, fnL (L1 + 1) dl cl' vl), (ci, oci), (cl', ocl), (L1 + 1, oA)] ++ (pre ++ (48, tabObj ps) :: post)) :=
      ncons (nu _ _ (.head _) hC) (ncons (nu _ _ (.tail _ (.head _)) hNs) (ncons (nu _ _ (.tail _ (.tail _ (.head _))) hMd) (ncons (nu _ _ (.tail _ (.tail _ (.tail _ (.head _)))) hFi) (ncons (nu _ _ (.tail _ (.tail _ (.tail _ (.tail _ (.head _))))) hFl) (ncons (nu _ _ (.tail _ (.tail _ (.tail _ (.tail _ (.tail _ (.head _)))))) hci) (ncons (nu _ _ (.tail _ (.tail _ (.tail _ (.tail _ (.tail _ (.tail _ (.head _))))))) hcl) (ncons ⟨kp _ _ (Nat.ne_of_gt (Nat.lt_succ_of_lt l48)) nA.1, nA.2⟩ old)))))))
    have TL : KeyTl K (L1 + 1) [(K, clsO K ns (slK bT t1 tq)), (ns, ⟨.type "dict", dd, .dict es ep, sl⟩), (md, mdO K tm), (fi, fnI (L1 + 1) di ci vi), (fl, fnL (L1 + 1) dl cl' vl), (ci, oci), (cl', ocl), (L1 + 1, oA)] :=
      ⟨ns, md, fi, fl, ci, cl', bT, t1, tq, tm, di, vi, dl, vl, oci, ocl, oA, m', dd, es, ep, sl, hk1, hu1, hf1, mi, ml, mo, mno, vs1, tt1, hd1, hv1, vs2, tt2, hd2, hv2, hA.trans rfl⟩
    have OFF : ∀ q ∈ pre ++ (48, tabObj ps) :: post, ∀ p ∈ [(K, clsO K ns (slK bT t1 tq)), (ns, (⟨.type "dict", dd, .dict es ep, sl⟩ : Obj)), (md, mdO K tm), (fi, fnI (L1 + 1) di ci vi), (fl, fnL (L1 + 1) dl cl' vl), (ci, oci), (cl', ocl), (L1 + 1, oA)], q.1 ≠ p.1 := by
      intro q hq
      have hin : h1.get? q.1 ≠ none := by
        rcases List.mem_append.mp hq with hq | hq
        · rw [(N1 q (.tail _ (List.mem_append_left _ hq))).1]; simp
        · rcases List.mem_cons.mp hq with rfl | hq
          · rw [n48.1]; simp
          · rw [(N1 q (.tail _ (List.mem_append_right _ (.tail _ hq)))).1]; simp
      have lq := olt q hq
      exact bcons (fun z => hin (z ▸ fr _ (.head _))) (bcons (fun z => hin (z ▸ fr _ (.tail _ (.head _)))) (bcons (fun z => hin (z ▸ fr _ (.tail _ (.tail _ (.head _))))) (bcons (fun z => hin (z ▸ fr _ (.tail _ (.tail _ (.tail _ (.head _)))))) (bcons (fun z => hin (z ▸ fr _ (.tail _ (.tail _ (.tail _ (.tail _ (.head _))))))) (bcons (fun z => hin (z ▸ fr _ (.tail _ (.tail _ (.tail _ (.tail _ (.tail _ (.head _)))))))) (bcons (fun z => hin (z ▸ fr _ (.tail _ (.tail _ (.tail _ (.tail _ (.tail _ (.tail _ (.head _))))))))) (bcons (fun z => absurd lq (Nat.not_lt.mpr (by rw [show q.1 = L1 + 1 from z]; exact Nat.le_succ L1))) bnil)))))))
    generalize hTL : [(K, clsO K ns (slK bT t1 tq)), (ns, (⟨.type "dict", dd, .dict es ep, sl⟩ : Obj)), (md, mdO K tm), (fi, fnI (L1 + 1) di ci vi), (fl, fnL (L1 + 1) dl cl' vl), (ci, oci), (cl', ocl), (L1 + 1, oA)] = tl at N2 TL OFF
    clear hTL hC hMd hNs hFi hFl hci hcl N1 F1 nA n48
    tb_rel
    rename Fr h₀ L _ m => F9
    rename News h₀ L _ (tl ++ _) => N9
    exact hret _ _ tl ps _ _ TL F9 N9 OFF
  · intro nsA c1 P1 f1 h2 m2 n2 t2 A' E' Q' x hq'
    refine body_K (o1 := []) (o2 := [(Str.ofString "mycmp", L1 + 1)]) (o3 := [(Str.ofString "mycmp", L1 + 1)]) (o4 := [(Str.ofString "mycmp", L1 + 1)]) (o5 := [(Str.ofString "mycmp", L1 + 1)]) (o6 := [(Str.ofString "mycmp", L1 + 1)])
      (u1 := uI) (u2 := uL) (u3 := Str.ofString "cmp_to_key.<locals>.K.__gt__") (u4 := Str.ofString "cmp_to_key.<locals>.K.__eq__") (u5 := Str.ofString "cmp_to_key.<locals>.K.__le__") (u6 := Str.ofString "cmp_to_key.<locals>.K.__ge__")
      x rfl rfl rfl ?_ ?_ ?_ ⟨rfl, rfl, rfl, rfl, rfl, rfl⟩ ⟨rfl, rfl, rfl, rfl, rfl, rfl⟩ ⟨rfl, rfl, rfl, rfl, rfl, rfl⟩ (by decide) (by kernel_rfl) ?_
    · intro name hn v
      simp only [kNames, List.mem_cons, List.not_mem_nil, or_false] at hn
      rcases hn with rfl | rfl | rfl | rfl | rfl | rfl | rfl | rfl | rfl <;> kernel_rfl
    · refine ⟨?_, ?_, ?_, ?_, ?_, ?_⟩ <;> kernel_rfl
    · refine ⟨?_, ?_, ?_, ?_, ?_, ?_⟩ <;> kernel_rfl
    · rw [mn]
      intro fi ci vi di fl cl vl dl sl tS h' tk m' ps' D
      exact hq' fi ci vi di fl cl vl dl sl tS h' tk m' ps' D
end
theorem off_F5 : True := by
  w_top off
  trivial
section
open PySem.W.X
theorem slK_eq (bT : Addr) (t1 tq : Tok) : slK bT t1 tq = #[some (.ref bT), none, some (.str (Str.ofString "K") t1), some (.str (Str.ofString "cmp_to_key.<locals>.K") tq), some (.builtin "object.__new__"), some (.bool false)] := by kernel_rfl
/-- an object of the class, new: its names' dict lies there too, never used -/
abbrev instO (C dx : Addr) (sl : Array (Option Value)) : Obj := { cls := .ref C, dict := some dx, data := .plain, slots := sl }
/-- the empty dict of such an object -/
abbrev eD : Obj := { cls := .type "dict", data := .dict #[] }
/-- the class, in the form that the library's own rules know -/
theorem cls_exc {h : Heap} {K ns bT : Addr} {t1 tq : Tok} (hK : h.get? K = some (clsO K ns (slK bT t1 tq))) :
   h.get? K = some (excClassObj (Str.ofString "K") (Str.ofString "cmp_to_key.<locals>.K") K ns [.type "object"] [.type "object"] false [Str.ofString "obj"] [] false none none (some (.ref bT)) none (some (.str (Str.ofString "K") t1)) (some (.str (Str.ofString "cmp_to_key.<locals>.K") tq)) (some (.bool false)) "object.__new__") := by rw [slK_eq] at hK; exact hK
section
variable {prog : Program} {w : World} {A : Around} {E : Value → Shared → Prop} {h : Heap} {g : Array GenState} {d : Drawn} {t : Nat} {os : OsState}
variable {nm q : Str} {C N : Addr} {bs : List Value} {sn : List Str} {sub : List Value} {col : Option Bool} {dd : Option Addr} {k0 k1 k2 k3 k5 : Option Value} {newId : String}
theorem chk_new {M : Model} (F : ObjNewFacts newId) {rest : List Value} {Q : Unit → Shared → Prop}
    (hC : h.get? C = some (excClassObj nm q C N bs [.type "object"] false sn sub false col dd k0 k1 k2 k3 k5 newId)) (hq : Q () ⟨h, g, d, t, os⟩) :
    wpAny M A (checkBuiltinCall newId ⟨.ref C :: rest, []⟩) Q E ⟨h, g, d, t, os⟩ := by
  have hcont : (Value.ref C :: [Value.type "object"]).contains (.type "object") = true := by rw [List.contains_cons, show [Value.type "object"].contains (.type "object") = true from by decide, Bool.or_true]
  simp only [checkBuiltinCall, F.kind, F.split, F.row]
  repeat (first | refine wpAny_loadPart_at hC ?_ | (refine wpAny_isSubtype_exc hC ?_; rw [hcont]) | refine wpAny_staticBase_exc hC ?_ | refine wpAny_madeBy_exc hC ?_ | simp only [bne_self_eq_false, Bool.false_eq_true, if_false] | wp_step)
  exact hq
theorem new_bare {R : PySem.Result → Shared → Prop} (F : ObjNewFacts newId) {mN : Str → Option Value} {r0 : Value} {fI : Addr}
    (hC : h.get? C = some (excClassObj nm q C N bs [.type "object"] false sn sub false col dd k0 k1 k2 k3 k5 newId)) (hn : h.Ns N mN) (hi : mN "__init__" = some (.ref fI))
    (hq : R (.ok (.ret (.ref (h.objs.size + 1)))) ⟨(h.push { cls := .type "dict", data := .dict #[] }).push (instO C h.objs.size #[]), g, d, t, os⟩) :
    codeAny (model prog w) A (.builtin newId ⟨[.ref C, r0], []⟩) R ⟨h, g, d, t, os⟩ := by
  have hmro : mroOf (.type "object") = pure [.type "object"] := by kernel_rfl
  have hlk : typeLookup (.type "object") "__init__" = pure (some (.builtin "object.__init__")) := by rw [typeLookup_type, builtinLookup_eq_fast]; kernel_rfl
  have hid := F.isIt
  have hne : (some (Value.ref fI) != some (Value.builtin "object.__init__")) = true := rfl
  have hsame : (some newId != some "object.__new__") = false := by rw [hid]; exact bne_self_eq_false _
  refine codeAny_builtin F.entry ?_
  unfold Builtin.«object.__new__»
  iterate 24 (first | with_reducible refine wpAny_madeHere_exc F.canon hC ?_ | (with_reducible refine wpAny_madeBy_exc hC ?_; simp only [hsame]) | with_reducible refine wpAny_loadPart_at hC ?_ | (with_reducible refine wpAny_typeLookup_exc hC hn hmro hlk ?_; rw [hi]; simp only [hne]) | wp_step)
  show wpAny _ _ (alloc { cls := .type "dict", data := .dict #[] } >>= fun x => pure (some x)) _ _ _
  refine wpAny_bind (wpAny_alloc' (wpAny_pure ?_))
  unfold newObj
  repeat wp_step
  show R _ _
  rw [Heap.size_push]
  exact hq
theorem tcall_bare (F : ObjNewFacts newId) {mN : Str → Option Value} {r0 : Value} {fI : Addr} {oI : Obj} {Q : PySem.Fin → Shared → Prop}
    (hC : h.get? C = some (excClassObj nm q C N bs [.type "object"] false sn sub false col dd k0 k1 k2 k3 k5 newId)) (hn : h.Ns N mN) (hi : mN "__init__" = some (.ref fI))
    (hfI : h.get? fI = some oI) (hfc : oI.cls = .type "function")
    (hq : ∀ h' x dx, h'.get? x = some (instO C dx #[]) → h'.get? dx = some eD → (∀ b o, h.get? b = some o → h'.get? b = some o) → h.get? x = none → h.get? dx = none → x ≠ dx →
      wpAny (model prog w) A (call (.ref fI) [.ref x, r0]) (fun r s' => r = .none ∧ Q (.done (.ret (.ref x))) s') E ⟨h', g, d, t, os⟩) :
    wpAny (model prog w) A (Builtin.«type.__call__» ⟨[.ref C, r0], []⟩) Q E ⟨h, g, d, t, os⟩ := by
  have hmro : mroOf (.type "object") = pure [.type "object"] := by kernel_rfl
  have hlk : typeLookup (.type "object") "__init__" = pure (some (.builtin "object.__init__")) := by rw [typeLookup_type, builtinLookup_eq_fast]; kernel_rfl
  repeat (first | with_reducible refine wpAny_loadPart_at hC ?_ | with_reducible refine wpAny_madeBy_exc hC ?_ | wp_step)
  refine codeAny_call_builtin_code (Code.quiet_builtin _ F.quiet) (chk_new F hC ?_)
  refine new_bare F hC hn hi ?_
  show wpAny _ _ _ _ _ _
  have kp : ∀ b o, h.get? b = some o → ((h.push { cls := .type "dict", data := .dict #[] }).push (instO C h.objs.size #[])).get? b = some o := fun b o e => Heap.get?_push_of_some _ (Heap.get?_push_of_some _ e)
  have hC₁ := kp _ _ hC
  have hfI₁ := kp _ _ hfI
  have hn₁ : ((h.push { cls := .type "dict", data := .dict #[] }).push (instO C h.objs.size #[])).Ns N mN :=
    let ⟨o, es, ep, e, r⟩ := hn; ⟨o, es, ep, kp _ _ e, r⟩
  have hget : ((h.push { cls := .type "dict", data := .dict #[] }).push (instO C h.objs.size #[])).get? (h.objs.size + 1) = some (instO C h.objs.size #[]) := by heap_get
  have hcC : (Value.ref C :: [Value.type "object"]).contains (.ref C) = true := by simp
  unfold isInstance
  repeat (first | with_reducible refine wpAny_loadPart_at hget ?_ | (with_reducible refine wpAny_isSubtype_exc hC₁ ?_; rw [hcC]) | wp_step)
  show wpAny _ _ (typeLookup (.ref C) _) _ _ _
  refine wpAny_typeLookup_exc hC₁ hn₁ hmro hlk ?_
  rw [hi]
  refine wpAny_holding (wpAny_bind ?_)
  unfold bindSpecial
  refine wpAny_bind (wpAny_typeOf (T := "function") ⟨_, hfI₁, hfc⟩ ?_)
  rw [if_pos (by decide)]
  refine wpAny_pure (wpAny_bind (wpAny_mono (hq _ (h.objs.size + 1) h.objs.size hget (Heap.get?_push_of_some _ (Heap.get?_push_at rfl rfl)) kp (Heap.get?_none_of_le (Nat.le_succ _)) (Heap.get?_none_of_le (Nat.le_refl _)) (Nat.ne_of_gt (Nat.lt_succ_self _))) (fun r s' hr => ?_) fun _ _ x => x))
  obtain ⟨rfl, hQ⟩ := hr
  wp_walk
  exact hQ
theorem call_bare (F : ObjNewFacts newId) {mN : Str → Option Value} {r0 : Value} {fI : Addr} {oI : Obj} {Q : Value → Shared → Prop}
    (hC : h.get? C = some (excClassObj nm q C N bs [.type "object"] false sn sub false col dd k0 k1 k2 k3 k5 newId)) (hn : h.Ns N mN) (hi : mN "__init__" = some (.ref fI))
    (hfI : h.get? fI = some oI) (hfc : oI.cls = .type "function")
    (hq : ∀ h' x dx, h'.get? x = some (instO C dx #[]) → h'.get? dx = some eD → (∀ b o, h.get? b = some o → h'.get? b = some o) → h.get? x = none → h.get? dx = none → x ≠ dx →
      wpAny (model prog w) (A.under (.builtin "type.__call__" ⟨[.ref C, r0], []⟩)) (call (.ref fI) [.ref x, r0]) (fun r s' => r = .none ∧ Q (.ref x) s') E ⟨h', g, d, t, os⟩) :
    wpAny (model prog w) A (call (.ref C) [r0]) Q E ⟨h, g, d, t, os⟩ := by
  have f1 := tc_lookup
  have f2 := tc_bind (.ref C)
  have hT : (⟨h, g, d, t, os⟩ : Shared).TypeIs (.ref C) "type" := ⟨_, hC, rfl⟩
  refine wpAny_call (codeAny_of_tree ?_)
  show wpAny _ _ (callAny (.ref C) _) _ _ _
  repeat (any_goals (first | assumption | with_reducible refine wpAny_loadPart_at hC ?_ | wp_step))
  refine ⟨rfl, ?_⟩
  refine codeAny_call_builtin_at (Code.quiet_builtin _ (by decide +kernel)) entry_typeCall (wpAny_check_type_call_sub hC (tcall_bare F hC hn hi hfI hfc fun h' x dx hm => ?_))
  exact hq h' x dx hm
end
end
theorem off_F6 : True := by
  w_top off
  trivial
section
open PySem.W.X
theorem ns_in {K : Frag} {ns : Addr} {o : Obj} {es : Array DictEntry} {ep : Nat} {n : Str} (e : K.lookup ns = some o) (hd : o.data = .dict es ep) (hk : StrKeys es) : nsIn K ns n = some (nsFind es n) := by
  obtain ⟨oc, od, odt, osl⟩ := o
  cases hd
  unfold nsIn
  rw [e]
  dsimp only
  unfold nsFind findBy
  rw [← Array.find?_toList]
  cases q : es.toList.find? (·.key.isStr n) with
  | some x => rfl
  | none =>
    have : es.toList.any (·.refKey) = false := by
      rw [List.any_eq_false]
      intro x hx
      obtain ⟨n', t', h'⟩ := hk x (by simpa using hx)
      simp [DictEntry.refKey, h']
    rw [this]
    rfl
/-- the class's own part of the heap, as the library's rules read it -/
structure KFrag (kf : Frag) (tl : List (Addr × Obj)) (C cA md fi fl ci cl : Addr) : Prop where
  sub : ∀ p ∈ kf, p ∈ tl
  fcls : ∃ ns sl, kf.lookup C = some (clsO C ns sl)
  fmd : ∃ tm, kf.lookup md = some (mdO C tm)
  fset : findIn kf (.ref C) "__setattr__" = some (some (.builtin "object.__setattr__"))
  fget : findIn kf (.ref C) "__getattribute__" = some (some (.builtin "object.__getattribute__"))
  fga : findIn kf (.ref C) "__getattr__" = some none
  fobj : findIn kf (.ref C) "obj" = some (some (.ref md))
  flt : findIn kf (.ref C) "__lt__" = some (some (.ref fl))
  fnl : ∃ d v, kf.lookup fl = some (fnL cA d cl v)
theorem key_frag {C cA : Addr} {tl : List (Addr × Obj)} {h : Heap} (H : KeyTl C cA tl) (hh : ∀ p ∈ tl, h.get? p.1 = some p.2) :
   ∃ kf ns md fi fl ci cl bT t1 tq m' dI vI dL vL oA, KFrag kf tl C cA md fi fl ci cl ∧ h.get? C = some (clsO C ns (slK bT t1 tq)) ∧ h.Ns ns m' ∧ m' (Str.ofString "__init__") = some (.ref fi) ∧
     (fi, fnI cA dI ci vI) ∈ tl ∧ (fl, fnL cA dL cl vL) ∈ tl ∧ h.CodeRec (.ref ci) uI ∧ h.CodeRec (.ref cl) uL ∧ (cA, oA) ∈ tl ∧ oA.data = .cell (some (.ref 129)) := by
  obtain ⟨ns, md, fi, fl, ci, cl, bT, t1, tq, tm, dI, vI, dL, vL, oci, ocl, oA, m', dd, es, ep, sl, hk, hu, hf, mi, ml, mo, mno, vs1, tt1, d1, v1, vs2, tt2, d2, v2, hA⟩ := H
  have gC := hh (C, clsO C ns (slK bT t1 tq)) (.head _)
  have gN := hh (ns, ⟨.type "dict", dd, .dict es ep, sl⟩) (.tail _ (.head _))
  have gM := hh (md, mdO C tm) (.tail _ (.tail _ (.head _)))
  have gI := hh (fi, fnI cA dI ci vI) (.tail _ (.tail _ (.tail _ (.head _))))
  have gL := hh (fl, fnL cA dL cl vL) (.tail _ (.tail _ (.tail _ (.tail _ (.head _)))))
  have gci := hh (ci, oci) (.tail _ (.tail _ (.tail _ (.tail _ (.tail _ (.head _))))))
  have gcl := hh (cl, ocl) (.tail _ (.tail _ (.tail _ (.tail _ (.tail _ (.tail _ (.head _)))))))
  dsimp only at gC gN gM gI gL gci gcl
  have n1 : ns ≠ C := fun q => by rw [q, gC] at gN; exact absurd (Value.type.inj (congrArg Obj.cls (Option.some.inj gN))) (by decide)
  have n2 : md ≠ C := fun q => by rw [q, gC] at gM; exact absurd (Value.type.inj (congrArg Obj.cls (Option.some.inj gM))) (by decide)
  have n3 : md ≠ ns := fun q => by rw [q, gN] at gM; exact absurd (Value.type.inj (congrArg Obj.cls (Option.some.inj gM))) (by decide)
  have n4 : fl ≠ C := fun q => by rw [q, gC] at gL; exact absurd (Value.type.inj (congrArg Obj.cls (Option.some.inj gL))) (by decide)
  have n5 : fl ≠ ns := fun q => by rw [q, gN] at gL; exact absurd (Value.type.inj (congrArg Obj.cls (Option.some.inj gL))) (by decide)
  have n6 : fl ≠ md := fun q => by rw [q, gM] at gL; exact absurd (Value.type.inj (congrArg Obj.cls (Option.some.inj gL))) (by decide)
  obtain ⟨kf, hkf⟩ : ∃ kf : Frag, kf = [(C, clsO C ns (slK bT t1 tq)), (ns, ⟨.type "dict", dd, .dict es ep, sl⟩), (md, mdO C tm), (fl, fnL cA dL cl vL)] := ⟨_, rfl⟩
  have lC : kf.lookup C = some (clsO C ns (slK bT t1 tq)) := by rw [hkf]; simp [List.lookup]
  have lN : kf.lookup ns = some ⟨.type "dict", dd, .dict es ep, sl⟩ := by rw [hkf]; simp [List.lookup, beq_false_of_ne n1]
  have lM : kf.lookup md = some (mdO C tm) := by rw [hkf]; simp [List.lookup, beq_false_of_ne n2, beq_false_of_ne n3]
  have lL : kf.lookup fl = some (fnL cA dL cl vL) := by rw [hkf]; simp [List.lookup, beq_false_of_ne n4, beq_false_of_ne n5, beq_false_of_ne n6]
  have find : ∀ n : Str, findIn kf (.ref C) n = match m' n with | some v => some (some v) | none => match fastBuiltinOwn "object" n with | some v => some (some v) | none => some none := by
    intro n
    unfold findIn
    dsimp only
    rw [lC]
    show alongIn kf n [.ref C, .type "object"] = _
    unfold alongIn ownIn
    dsimp only
    rw [lC]
    dsimp only
    rw [ns_in lN rfl hk, hf]
    cases m' n with
    | some v => rfl
    | none =>
      dsimp only
      unfold alongIn ownIn
      dsimp only
      cases fastBuiltinOwn "object" n with
      | some v => rfl
      | none => rfl
  have no : ∀ n : Str, allNames.contains n = false → m' n = none := fun n e => mno n fun q => by
    have : allNames.contains n = true := by simpa using q
    rw [e] at this; cases this
  refine ⟨kf, ns, md, fi, fl, ci, cl, bT, t1, tq, m', dI, vI, dL, vL, oA, ⟨?_, ⟨_, _, lC⟩, ⟨_, lM⟩, ?_, ?_, ?_, ?_, ?_, ⟨_, _, lL⟩⟩, gC, ⟨_, _, _, gN, rfl, hk, hf⟩, mi, (.tail _ (.tail _ (.tail _ (.head _)))), (.tail _ (.tail _ (.tail _ (.tail _ (.head _))))), ⟨_, _, _, _, rfl, gci, d1, v1⟩, ⟨_, _, _, _, rfl, gcl, d2, v2⟩, by simp, hA⟩
  · rw [hkf]
    exact bcons (.head _) (bcons (.tail _ (.head _)) (bcons (.tail _ (.tail _ (.head _))) (bcons (.tail _ (.tail _ (.tail _ (.tail _ (.head _))))) bnil)))
  · rw [find, no _ (by decide +kernel)]; decide +kernel
  · rw [find, no _ (by decide +kernel)]; decide +kernel
  · rw [find, no _ (by decide +kernel)]; decide +kernel
  · rw [find, show m' "obj" = _ from mo]
  · rw [find, show m' "__lt__" = _ from ml]
theorem KFrag.In {kf : Frag} {tl : List (Addr × Obj)} {C cA md fi fl ci cl : Addr} (k : KFrag kf tl C cA md fi fl ci cl) {h : Heap} (hh : ∀ p ∈ tl, h.get? p.1 = some p.2) : kf.In h := fun a o e => hh (a, o) (k.sub _ (kb_mem e))
end
theorem off_F7 : True := by
  w_top off
  trivial
section
open PySem.W.X
section
variable {kf : Frag} {tl : List (Addr × Obj)} {C cA md fi fl ci cl : Addr}
theorem KFrag.slot (k : KFrag kf tl C cA md fi fl ci cl) : slotIn kf md C = some 0 := by
  obtain ⟨ns, sl, e1⟩ := k.fcls
  obtain ⟨tm, e2⟩ := k.fmd
  unfold slotIn recIn clsIn
  rw [e1, e2]
  simp [rawInt]
theorem KFrag.plain (k : KFrag kf tl C cA md fi fl ci cl) : plainOver kf C = true := by
  obtain ⟨ns, sl, e1⟩ := k.fcls
  unfold plainOver clsIn
  rw [e1]
  rfl
theorem KFrag.mdType (k : KFrag kf tl C cA md fi fl ci cl) : typeIn kf (.ref md) = some (.type "member_descriptor") := by
  obtain ⟨tm, e2⟩ := k.fmd
  unfold typeIn
  dsimp only
  rw [e2]
  rfl
theorem KFrag.taker (k : KFrag kf tl C cA md fi fl ci cl) : takerIn kf C "obj" = some (some (.ref md)) := by
  unfold takerIn
  rw [k.fobj]
  show (takesIn kf (.ref md)).map _ = _
  unfold takesIn specialIn
  rw [k.mdType]
  have e : findIn kf (.type "member_descriptor") "__set__" = some (some (.builtin "member_descriptor.__set__")) := by
    show fastLookup _ _ = _
    decide +kernel
  rw [Option.bind_some, e]
  rfl
theorem KFrag.ltFn (k : KFrag kf tl C cA md fi fl ci cl) : isFn kf (.ref fl) = true := by
  obtain ⟨d, v, e2⟩ := k.fnl
  unfold isFn typeIn
  dsimp only
  rw [e2]
  rfl
end
theorem t_init (w : World) (rest tl : List (Addr × Obj)) (kf : Frag) (K cA md fi fl ci cl' dx x : Addr) (di vi v : Value)
   (dp un : Nat) (gd : Option (List Code)) (cn : Str) (cs : Scope) (a : Addr) (ccd : Value) (cl : List (Str × Addr)) (outer : List Env) (A₀ : Around) (base h₀ : Heap) (L : Addr) (m : Str → Option Value) (s : Shared) (Q E : Value → Shared → Prop)
   (p : Program) (loose : List Str) (mean : ExcName → Option Value) (mg mb : Str → Option Value)
    (B : Below A₀ base outer h₀) (F : Fr h₀ L s.heap m) (X : (hd.heap_1 w.params).In h₀) (N : News h₀ L s.heap ((x, instO K dx #[]) :: rest)) (T : Top p loose mean mg mb h₀) (hk : cs.kind = .function) (hd : dp + 2 < recursionLimit) (hu : un + 8 * 9 < cLine)
    (k : KFrag kf tl K cA md fi fl ci cl') (hsub : ∀ p ∈ tl, p ∈ rest) (hdx : (dx, eD) ∈ rest) (hne : ∀ q ∈ rest, q.1 ≠ x)
    (hf : (fi, fnI cA di ci vi) ∈ rest) (hci : s.heap.CodeRec (.ref ci) uI)
    (hret : ∀ h' tk', Fr h₀ L h' m → News h₀ L h' ((x, instO K dx #[some v]) :: rest) → Q .none { s with heap := h', toks := tk' }) :
    wpAny (model P0 w) ((ktrTop dp un gd cn cs L a ccd cl outer).under (.builtin "type.__call__" ⟨[.ref K, v], []⟩)) (call (.ref fi) [.ref x, v]) Q E s := by
  refine wpAny_call ?_
  have hf' := List.mem_cons_of_mem (x, instO K dx #[]) hf
  have e : keyFn 2 = (_, _, _) := rfl
  unfold fnI at hf'
  rw [e] at hf'
  dsimp only at hf'
  refine' code_nest B F X N T ?kA ?kF ?kK hf' hci ?k8 ?k9 ?kB ?_ ?c2 ?c3 ?c4 ?c5
  case kA => exact rfl
  case kF => exact rfl
  case kK => exact hk
  case k8 => ktr_room
  case k9 => exact BindsTo.of_eq rfl
  case kB => exact locs rfl
  case c2 => exact rfl
  case c3 => exact rfl
  case c4 => exact rfl
  case c5 => decide
  intro g' L' h' FG' F' N' B' X' T'
  (try dsimp only)
  (try k_fold)
  tb_rel
  have Y : kf.In h' := k.In fun q hq => (N' q (.tail _ (hsub q hq))).1
  have I : InstAt h' x (instO K dx #[]) K (some eD) := ⟨(N' _ (.head _)).1, rfl, rfl, (N' _ (.tail _ hdx)).1⟩
  refine set_plain (K := kf) Y I k.fset (osa_descr (K := kf) (ox := instO K dx #[]) KF.slot_mset Y I k.plain k.taker k.mdType (slot_set (K := kf) (pre := []) (ox' := instO K dx #[some v]) F' N' Y I k.slot (by decide) (by simp) hne (by kernel_rfl) rfl ?_))
  intro h2 F2 N2
  dsimp only
  tb_rel
  rename Fr h₀ L _ m => F9
  rename News h₀ L _ (_ :: rest) => N9
  exact hret _ _ F9 N9
/-- a call of the class: a new object that holds v -/
theorem t_kind (w : World) (news tl : List (Addr × Obj)) (K cA : Addr) (v : Value)
   (dp un : Nat) (gd : Option (List Code)) (cn : Str) (cs : Scope) (a : Addr) (ccd : Value) (cl : List (Str × Addr)) (outer : List Env) (A₀ : Around) (base h₀ : Heap) (L : Addr) (m : Str → Option Value) (s : Shared) (Q E : Value → Shared → Prop)
   (p : Program) (loose : List Str) (mean : ExcName → Option Value) (mg mb : Str → Option Value)
    (B : Below A₀ base outer h₀) (F : Fr h₀ L s.heap m) (X : (hd.heap_1 w.params).In h₀) (N : News h₀ L s.heap news) (T : Top p loose mean mg mb h₀) (hk : cs.kind = .function) (hd : dp + 2 < recursionLimit) (hu : un + 8 * 9 < cLine)
    (k : KeyTl K cA tl) (hsub : ∀ p ∈ tl, p ∈ news)
    (hret : ∀ x dx h' tk', Fr h₀ L h' m → News h₀ L h' ((x, instO K dx #[some v]) :: (dx, eD) :: news) → (∀ q ∈ (dx, eD) :: news, q.1 ≠ x) → (∀ q ∈ news, q.1 ≠ dx) → Q (.ref x) { s with heap := h', toks := tk' }) :
    wpAny (model P0 w) (ktrTop dp un gd cn cs L a ccd cl outer) (call (.ref K) [v]) Q E s := by
  obtain ⟨kf, ns, md, fi, fl, ci, cl', bT, t1, tq, m', dI, vI, dL, vL, oA, kk, gC, hn, mi, hfi, hfl, cri, crl, _, _⟩ := key_frag k fun q hq => (N q (hsub q hq)).1
  obtain ⟨h, g, d, t, os⟩ := s
  refine call_bare PySem.F.objNew (cls_exc gC) hn mi (N _ (hsub _ hfi)).1 rfl ?_
  intro h' x dx hx hdx kp fx fd ne
  dsimp only at F N kp
  have hL : ∃ o, h.get? L = some o := let ⟨o, _, _, e, _⟩ := F.ns; ⟨o, e⟩
  have F1 : Fr h₀ L h' m := ⟨let ⟨o, es, ep, e, r⟩ := F.ns; ⟨o, es, ep, kp _ _ e, r⟩, fun b o e => kp _ _ (F.keep b o e), F.above⟩
  have nu : ∀ y o, h'.get? y = some o → h.get? y = none → h'.get? y = some o ∧ y ≠ L ∧ h₀.get? y = none := fun y o e e0 => by
    refine ⟨e, fun q => ?_, ?_⟩
    · obtain ⟨o', e'⟩ := hL
      rw [q, e'] at e0; cases e0
    · cases z : h₀.get? y with
      | none => rfl
      | some o' => rw [F.keep _ _ z] at e0; cases e0
  have N1 : News h₀ L h' ((x, instO K dx #[]) :: (dx, eD) :: news) := by
    intro q hq
    rcases List.mem_cons.mp hq with rfl | hq
    · exact nu _ _ hx fx
    rcases List.mem_cons.mp hq with rfl | hq
    · exact nu _ _ hdx fd
    · have n := N q hq
      exact ⟨kp _ _ n.1, n.2⟩
  have ox : ∀ q ∈ news, q.1 ≠ x := fun q hq z => by
    have n := (N q hq).1
    rw [z, fx] at n; cases n
  have od : ∀ q ∈ news, q.1 ≠ dx := fun q hq z => by
    have n := (N q hq).1
    rw [z, fd] at n; cases n
  have ox' : ∀ q ∈ (dx, eD) :: news, q.1 ≠ x := fun q hq => by
    rcases List.mem_cons.mp hq with rfl | hq
    · exact ne.symm
    · exact ox q hq
  refine t_init w ((dx, eD) :: news) tl kf K cA md fi fl ci cl' dx x dI vI v dp un gd cn cs a ccd cl outer A₀ base h₀ L m _ _ _ p loose mean mg mb B F1 X N1 T hk hd hu kk (fun q hq => .tail _ (hsub q hq)) (.head _) ox' (.tail _ (hsub _ hfi)) ?_ ?_
  · obtain ⟨c', o, vs, tt, e, r1, r2⟩ := cri
    exact ⟨c', o, vs, tt, e, kp _ _ r1, r2⟩
  · intro h2 tk2 F2 N2
    exact ⟨rfl, hret x dx h2 tk2 F2 N2 ox' od⟩
end
theorem off_F8 : True := by
  w_top off
  trivial
section
open PySem.W.X
section
variable {kf : Frag} {tl : List (Addr × Obj)} {C cA md fi fl ci cl : Addr}
theorem KFrag.takes (k : KFrag kf tl C cA md fi fl ci cl) : takesIn kf (.ref md) = some true := by
  have e := k.taker
  unfold takerIn at e
  rw [k.fobj] at e
  obtain ⟨b, hb, q⟩ := Option.map_eq_some_iff.mp (show (takesIn kf (.ref md)).map _ = _ from e)
  cases b with
  | true => exact hb
  | false => simp at q
theorem KFrag.mget (k : KFrag kf tl C cA md fi fl ci cl) : specialIn kf (.ref md) "__get__" = some (some (.builtin "member_descriptor.__get__")) := by
  unfold specialIn
  rw [k.mdType, Option.bind_some]
  show fastLookup _ _ = _
  decide +kernel
theorem KFrag.isC (k : KFrag kf tl C cA md fi fl ci cl) : (clsIn kf C).isSome = true := by
  obtain ⟨ns, sl, e1⟩ := k.fcls
  unfold clsIn
  rw [e1]
  rfl
theorem get_obj {w : World} {A : Around} {E Q : Value → Shared → Prop} {s : Shared} {x dx : Addr} {n : Str} {t : Tok} {expr : Bool} (k : KFrag kf tl C cA md fi fl ci cl) (Y : kf.In s.heap) (hx : s.heap.get? x = some (instO C dx #[some (.str n t)])) (hd : s.heap.get? dx = some eD)
    (h : Q (.str n t) { s with toks := s.toks + 1 }) : wpAny (model P0 w) A (getAttr (.ref x) "obj" expr) Q E s := by
  have I : InstAt s.heap x (instO C dx #[some (.str n t)]) C (some eD) := ⟨hx, rfl, rfl, hd⟩
  exact get_bind Y I k.fget (findObj_data k.isC k.fobj k.mget k.takes) k.fga (wpAny_call (slot_get (s := { s with toks := s.toks + 1 }) Y I k.slot rfl (handed_on rfl h)))
end
theorem t_lt (w : World) (news tl : List (Addr × Obj)) (K cA x y dx dy : Addr) (b c : List Nat) (t u : Tok) (hb : b.length ≤ 1000) (hc : c.length ≤ 1000)
   (dp un : Nat) (gd : Option (List Code)) (cn : Str) (cs : Scope) (a : Addr) (ccd : Value) (cl : List (Str × Addr)) (outer : List Env) (A₀ : Around) (base h₀ : Heap) (L : Addr) (m : Str → Option Value) (s : Shared) (Q E : Value → Shared → Prop)
   (p : Program) (loose : List Str) (mean : ExcName → Option Value) (mg mb : Str → Option Value)
    (B : Below A₀ base outer h₀) (F : Fr h₀ L s.heap m) (X : (hd.heap_1 w.params).In h₀) (N : News h₀ L s.heap news) (T : Top p loose mean mg mb h₀) (hk : cs.kind = .function) (hd : dp + 5 < recursionLimit) (hu : un + 8 * 9 < cLine)
    (kk : KeyTl K cA tl) (hsub : ∀ p ∈ tl, p ∈ news) (hx : (x, instO K dx #[some (.str (S b) t)]) ∈ news) (hdx : (dx, eD) ∈ news) (hy : (y, instO K dy #[some (.str (S c) u)]) ∈ news) (hdy : (dy, eD) ∈ news)
    (kf : Frag) (md fi fl ci cl' : Addr) (k : KFrag kf tl K cA md fi fl ci cl') (dL vL : Value) (hfl : (fl, fnL cA dL cl' vL) ∈ tl) (crl : s.heap.CodeRec (.ref cl') uL) (oA : Obj) (hcA : (cA, oA) ∈ tl) (hoA : oA.data = .cell (some (.ref 129)))
    (hret : ∀ h' tk', Fr h₀ L h' m → News h₀ L h' news → Q (.bool (decide (cmpL b c < 0))) { s with heap := h', toks := tk' }) :
    wpAny (model P0 w) (ktrTop dp un gd cn cs L a ccd cl outer) (call (.ref fl) [.ref x, .ref y]) Q E s := by
  refine wpAny_call ?_
  have hf' := hsub _ hfl
  have e : keyFn 3 = (_, _, _) := rfl
  unfold fnL at hf'
  rw [e] at hf'
  dsimp only at hf'
  refine' code_nest B F X N T ?kA ?kF ?kK hf' crl ?k8 ?k9 ?kB ?_ ?c2 ?c3 ?c4 ?c5
  case kA => exact rfl
  case kF => exact rfl
  case kK => exact hk
  case k8 => ktr_room
  case k9 => exact BindsTo.of_eq rfl
  case kB => exact locs rfl
  case c2 => exact rfl
  case c3 => exact rfl
  case c4 => exact rfl
  case c5 => decide
  intro g' L' h' FG' F' N' B' X' T'
  (try dsimp only)
  (try k_fold)
  iterate 5 (first | (k_unfold; (try dsimp only)) | walk1 | (dsimp only; walk1))
  have gA : h'.get? cA = some oA := (N' _ (hsub _ hcA)).1
  k_dflt (refine wpAny_Name (wpAny_loadName_free rfl rfl rfl ⟨_, gA, hoA⟩ ?_ (by decide)) (by decide))
  iterate 4 (first | (k_unfold; (try dsimp only)) | walk1 | (dsimp only; walk1))
  k_dflt (refine get_obj k (k.In fun q hq => (N' q (hsub q hq)).1) (N' _ hx).1 (N' _ hdx).1 ?_)
  dsimp only
  iterate 3 (first | (k_unfold; (try dsimp only)) | walk1 | (dsimp only; walk1))
  k_dflt (refine get_obj k (k.In fun q hq => (N' q (hsub q hq)).1) (N' _ hy).1 (N' _ hdy).1 ?_)
  dsimp only
  tb_rel
  k_dflt (refine Ctr.useI (t_byLength w _ _ _ _ _ hb hc) (by k_asm) (by k_asm) (by k_asm) (by k_asm) (by k_asm) rfl (by ktr_room) (by ktr_units) ?_)
  intro t1 h1 tk1 F1 N1
  dsimp only
  tb_rel
  rename Fr h₀ L _ m => F9
  rename News h₀ L _ news => N9
  exact hret _ _ F9 N9
end
theorem off_G0 : True := by
  w_top off
  trivial
section
/-- the tree of questions, answered by o -/
def KasT.run {α : Type} (o : Nat → Nat → Bool) : KasT α → α
  | .ret a => a
  | .ask i j k => KasT.run o (k (o i j))
theorem run_bind {α β : Type} (o : Nat → Nat → Bool) (f : α → KasT β) : ∀ t : KasT α, KasT.run o (t.bind f) = KasT.run o (f (KasT.run o t))
  | .ret _ => rfl
  | .ask i j k => run_bind o f (k (o i j))
theorem run_wp {α : Type} {o : Nat → Nat → Bool} {cmp : Nat → Nat → (Bool → Shared → Prop) → Shared → Prop} {I : Shared → Prop} (hc : ∀ i j C s, I s → (∀ s', I s' → C (o i j) s') → cmp i j C s) {Q : α → Shared → Prop} :
    ∀ (t : KasT α) (s : Shared), I s → (∀ s', I s' → Q (KasT.run o t) s') → t.kasWp cmp Q s
  | .ret _, s, hi, hq => hq s hi
  | .ask i j k, s, hi, hq => hc i j _ s hi fun s' hi' => run_wp hc (k (o i j)) s' hi' hq
section
variable (r : Nat → Nat)
abbrev ask (i j : Nat) : Bool := decide (r i < r j)
/-- the rank at the place k -/
abbrev at_ (p : Array Nat) (k : Nat) : Nat := r (p.getD k 0)
def Asc (p : Array Nat) (m : Nat) : Prop := ∀ k, 1 ≤ k → k < m → at_ r p (k - 1) ≤ at_ r p k
def Dsc (p : Array Nat) (m : Nat) : Prop := ∀ k, 1 ≤ k → k < m → at_ r p k ≤ at_ r p (k - 1)
theorem Asc.le {p : Array Nat} {m : Nat} (h : Asc r p m) : ∀ i j, i ≤ j → j < m → at_ r p i ≤ at_ r p j := by
  intro i j hij hj
  induction j with
  | zero => have : i = 0 := by lia
            subst this; exact Nat.le_refl _
  | succ j ih =>
    by_cases q : i = j + 1
    · subst q; exact Nat.le_refl _
    · have h1 := ih (by lia) (by lia)
      have h2 := h (j + 1) (by lia) hj
      simp only [Nat.add_sub_cancel] at h2
      lia
theorem asc_run (p : Array Nat) : ∀ f n, 1 ≤ n → Asc r p n → ∃ m, KasT.run (ask r) (kas_asc p f n) = m ∧ n ≤ m ∧ m ≤ n + f ∧ Asc r p m ∧ (m < n + f → at_ r p m < at_ r p (m - 1))
  | 0, n, h1, h => ⟨n, rfl, Nat.le_refl _, Nat.le_refl _, h, fun q => by lia⟩
  | f + 1, n, h1, h => by
    show ∃ m, KasT.run (ask r) (if ask r (p.getD n 0) (p.getD (n - 1) 0) = true then .ret n else kas_asc p f (n + 1)) = m ∧ _
    by_cases q : at_ r p n < at_ r p (n - 1)
    · rw [if_pos (decide_eq_true q)]
      exact ⟨n, rfl, Nat.le_refl _, by lia, h, fun _ => q⟩
    · rw [if_neg (fun z => q (of_decide_eq_true z))]
      obtain ⟨m, e, a1, a2, a3, a4⟩ := asc_run p f (n + 1) (by lia) (fun k k1 k2 => by
        by_cases z : k = n
        · subst z; lia
        · exact h k k1 (by lia))
      exact ⟨m, e, by lia, by lia, a3, fun z => a4 (by lia)⟩
theorem rev_at {p : Array Nat} {i j : Nat} (hj : j ≤ p.size) (k : Nat) : (kas_rev p i j).getD k 0 = if i ≤ k ∧ k < j then p.getD (i + j - 1 - k) 0 else p.getD k 0 := by
  have h := getElem?_mirror_all (xs := p) (i := i) hj k
  simp only [Array.getD_eq_getD_getElem?, kas_rev]
  rw [h]
  split <;> rfl
theorem rev_eq {p : Array Nat} {i j : Nat} (hj : j ≤ p.size) (h : ∀ k l, i ≤ k → k < j → i ≤ l → l < j → at_ r p k = at_ r p l) (k : Nat) : at_ r (kas_rev p i j) k = at_ r p k := by
  show r _ = r _
  rw [rev_at hj]
  split
  · exact h _ _ (by lia) (by lia) (by lia) (by lia)
  · rfl
theorem desc_run : ∀ f (p : Array Nat) n q, q + 1 ≤ n → n + f ≤ p.size → Dsc r p n → (∀ k l, n - (q + 1) ≤ k → k < n → n - (q + 1) ≤ l → l < n → at_ r p k = at_ r p l) →
    ∃ p' n' q', KasT.run (ask r) (kas_desc f p n q) = (p', n', q') ∧ p'.Perm p ∧ q' + 1 ≤ n' ∧ n ≤ n' ∧ n' ≤ n + f ∧ Dsc r p' n' ∧ (∀ k l, n' - (q' + 1) ≤ k → k < n' → n' - (q' + 1) ≤ l → l < n' → at_ r p' k = at_ r p' l)
  | 0, p, n, q, h1, h2, h3, h4 => ⟨p, n, q, rfl, .refl _, h1, Nat.le_refl _, Nat.le_refl _, h3, h4⟩
  | f + 1, p, n, q, h1, h2, h3, h4 => by
    show ∃ p' n' q', KasT.run (ask r) (if ask r (p.getD n 0) (p.getD (n - 1) 0) = true then (if q > 0 then kas_desc f (kas_rev p (n - (q + 1)) n) (n + 1) 0 else kas_desc f p (n + 1) 0)
      else .ask (p.getD (n - 1) 0) (p.getD n 0) fun d => if d = true then .ret (p, n, q) else kas_desc f p (n + 1) (q + 1)) = (p', n', q') ∧ _
    by_cases z : at_ r p n < at_ r p (n - 1)
    · rw [if_pos (decide_eq_true z)]
      have one : ∀ (p' : Array Nat) k l, n + 1 - (0 + 1) ≤ k → k < n + 1 → n + 1 - (0 + 1) ≤ l → l < n + 1 → at_ r p' k = at_ r p' l := fun p' k l a b c d => by
        have : k = l := by lia
        rw [this]
      split
      · have e := rev_eq (r := r) (p := p) (i := n - (q + 1)) (j := n) (by lia) h4
        have sz : (kas_rev p (n - (q + 1)) n).size = p.size := mirror_size _ _ _ _
        obtain ⟨p', n', q', e1, e2, e3, e4, e5, e6⟩ := desc_run f (kas_rev p (n - (q + 1)) n) (n + 1) 0 (by lia) (by lia) (fun k k1 k2 => by
          rw [e, e]
          by_cases y : k = n
          · subst y; lia
          · exact h3 k k1 (by lia)) (one _)
        exact ⟨p', n', q', e1, e2.trans (mirror_perm _ _ _ _), e3, by lia, by lia, e6⟩
      · obtain ⟨p', n', q', e1, e2, e3, e4, e5, e6⟩ := desc_run f p (n + 1) 0 (by lia) (by lia) (fun k k1 k2 => by
          by_cases y : k = n
          · subst y; lia
          · exact h3 k k1 (by lia)) (one _)
        exact ⟨p', n', q', e1, e2, e3, by lia, by lia, e6⟩
    · rw [if_neg (fun y => z (of_decide_eq_true y))]
      show ∃ p' n' q', KasT.run (ask r) (if ask r (p.getD (n - 1) 0) (p.getD n 0) = true then .ret (p, n, q) else kas_desc f p (n + 1) (q + 1)) = (p', n', q') ∧ _
      by_cases x : at_ r p (n - 1) < at_ r p n
      · rw [if_pos (decide_eq_true x)]
        exact ⟨p, n, q, rfl, .refl _, h1, Nat.le_refl _, by lia, h3, h4⟩
      · rw [if_neg (fun y => x (of_decide_eq_true y))]
        have eq : at_ r p n = at_ r p (n - 1) := by lia
        obtain ⟨p', n', q', e1, e2, e3, e4, e5, e6⟩ := desc_run f p (n + 1) (q + 1) (by lia) (by lia) (fun k k1 k2 => by
          by_cases y : k = n
          · subst y; lia
          · exact h3 k k1 (by lia)) (fun k l a b c d => by
          have g : ∀ k, n + 1 - (q + 1 + 1) ≤ k → k < n + 1 → at_ r p k = at_ r p (n - 1) := fun k a b => by
            by_cases y : k = n
            · subst y; exact eq
            · exact h4 _ _ (by lia) (by lia) (by lia) (by lia)
          rw [g k a b, g l c d])
        exact ⟨p', n', q', e1, e2, e3, by lia, by lia, e6⟩
theorem tail3_run {p : Array Nat} {n nrem : Nat} (h1 : 1 ≤ n) (hn : n ≤ nrem) (hz : nrem ≤ p.size) (h : Dsc r p n) :
    ∃ m p', KasT.run (ask r) (kas_tail3 n nrem p) = (m, p') ∧ p'.Perm p ∧ n ≤ m ∧ m ≤ nrem ∧ Asc r p' m := by
  have a : Asc r (kas_rev p 0 n) n := fun k k1 k2 => by
    show r _ ≤ r _
    rw [rev_at (by lia), rev_at (by lia), if_pos (by lia), if_pos (by lia)]
    have := h (n - k) (by lia) (by lia)
    rw [show 0 + n - 1 - (k - 1) = n - k by lia, show 0 + n - 1 - k = n - k - 1 by lia]
    exact this
  obtain ⟨m, e, b1, b2, b3, _⟩ := asc_run r (kas_rev p 0 n) (nrem - n) n h1 a
  refine ⟨m, kas_rev p 0 n, ?_, mirror_perm _ _ _ _, b1, by lia, b3⟩
  unfold kas_tail3
  rw [run_bind, e]
  rfl
theorem descPart_run {p : Array Nat} {n nrem : Nat} (hn : n + 1 ≤ nrem) (hz : nrem ≤ p.size) (h : Dsc r p (n + 1)) :
    ∃ m p', KasT.run (ask r) (kas_descPart n nrem p) = (m, p') ∧ p'.Perm p ∧ 1 ≤ m ∧ m ≤ nrem ∧ Asc r p' m := by
  obtain ⟨p1, n1, q1, e1, e2, e3, e4, e5, e6, e7⟩ := desc_run r (nrem - (n + 1)) p (n + 1) 0 (by lia) (by lia) h (fun k l a b c d => by
    have : k = l := by lia
    rw [this])
  have sz : p1.size = p.size := e2.size_eq
  unfold kas_descPart
  rw [run_bind, e1]
  dsimp only
  split
  · have e := rev_eq (r := r) (p := p1) (i := n1 - (q1 + 1)) (j := n1) (by lia) e7
    have sz2 : (kas_rev p1 (n1 - (q1 + 1)) n1).size = p1.size := mirror_size _ _ _ _
    obtain ⟨m, p', c1, c2, c3, c4, c5⟩ := tail3_run r (p := kas_rev p1 (n1 - (q1 + 1)) n1) (n := n1) (nrem := nrem) (by lia) (by lia) (by lia) (fun k k1 k2 => by rw [e, e]; exact e6 k k1 k2)
    exact ⟨m, p', c1, (c2.trans (mirror_perm _ _ _ _)).trans e2, by lia, c4, c5⟩
  · obtain ⟨m, p', c1, c2, c3, c4, c5⟩ := tail3_run r (p := p1) (n := n1) (nrem := nrem) (by lia) (by lia) (by lia) e6
    exact ⟨m, p', c1, c2.trans e2, by lia, c4, c5⟩
theorem count_run {p : Array Nat} {nrem : Nat} (h1 : 1 ≤ nrem) (hz : nrem ≤ p.size) :
    ∃ m p', KasT.run (ask r) (kas_count nrem p) = (m, p') ∧ p'.Perm p ∧ 1 ≤ m ∧ m ≤ nrem ∧ Asc r p' m := by
  obtain ⟨n, e, b1, b2, b3, b4⟩ := asc_run r p (nrem - 1) 1 (Nat.le_refl _) (fun k k1 k2 => by lia)
  unfold kas_count
  rw [run_bind, e]
  by_cases q : n = nrem
  · rw [if_pos (by simpa using q)]
    exact ⟨n, p, rfl, .refl _, by lia, by lia, b3⟩
  rw [if_neg (by simpa using q)]
  have st := b4 (by lia)
  split
  · show ∃ m p', KasT.run (ask r) (if ask r (p.getD 0 0) (p.getD (n - 1) 0) = true then .ret (n, p) else kas_descPart n nrem (kas_rev p 0 n)) = (m, p') ∧ _
    by_cases z : at_ r p 0 < at_ r p (n - 1)
    · rw [if_pos (decide_eq_true z)]
      exact ⟨n, p, rfl, .refl _, by lia, by lia, b3⟩
    · rw [if_neg (fun y => z (of_decide_eq_true y))]
      have all : ∀ k, k < n → at_ r p k = at_ r p 0 := fun k hk => by
        have a := b3.le r 0 k (by lia) hk
        have b := b3.le r k (n - 1) (by lia) (by lia)
        lia
      have ev := rev_eq (r := r) (p := p) (i := 0) (j := n) (by lia) (fun k l _ b _ d => by rw [all k b, all l d])
      have sz : (kas_rev p 0 n).size = p.size := mirror_size _ _ _ _
      obtain ⟨m, p', c1, c2, c3⟩ := descPart_run r (p := kas_rev p 0 n) (n := n) (nrem := nrem) (by lia) (by lia) (fun k k1 k2 => by
        rw [ev, ev]
        by_cases y : k = n
        · subst y; lia
        · rw [all k (by lia), all (k - 1) (by lia)]; exact Nat.le_refl _)
      exact ⟨m, p', c1, c2.trans (mirror_perm _ _ _ _), c3⟩
  · have n1 : n = 1 := by lia
    subst n1
    exact descPart_run r (by lia) hz (fun k k1 k2 => by
      have : k = 1 := by lia
      subst this
      lia)
theorem place_run {p : Array Nat} {k : Nat} : ∀ f l u, l ≤ u → u ≤ k → u - l ≤ f → Asc r p k → (∀ i, i < l → at_ r p i ≤ at_ r p k) → (∀ i, u ≤ i → i < k → at_ r p k < at_ r p i) →
    ∃ m, KasT.run (ask r) (kas_place p k f l u) = m ∧ m ≤ k ∧ (∀ i, i < m → at_ r p i ≤ at_ r p k) ∧ (∀ i, m ≤ i → i < k → at_ r p k < at_ r p i)
  | 0, l, u, h1, h2, h3, h4, h5, h6 => ⟨l, rfl, by lia, h5, fun i a b => h6 i (by lia) b⟩
  | f + 1, l, u, h1, h2, h3, h4, h5, h6 => by
    unfold kas_place
    split
    · exact ⟨l, rfl, by lia, h5, fun i a b => h6 i (by lia) b⟩
    · rename_i lt
      show ∃ m, KasT.run (ask r) (if ask r (p.getD k 0) (p.getD ((l + u) / 2) 0) = true then kas_place p k f l ((l + u) / 2) else kas_place p k f ((l + u) / 2 + 1) u) = m ∧ _
      by_cases z : at_ r p k < at_ r p ((l + u) / 2)
      · rw [if_pos (decide_eq_true z)]
        exact place_run f l _ (by lia) (by lia) (by lia) h4 h5 (fun i a b => by
          have := h4.le r ((l + u) / 2) i a b
          lia)
      · rw [if_neg (fun y => z (of_decide_eq_true y))]
        exact place_run f _ u (by lia) h2 (by lia) h4 (fun i a => by
          have := h4.le r i ((l + u) / 2) (by lia) (by lia)
          lia) h6
theorem bin_run : ∀ f (p : Array Nat) k, k + f ≤ p.size → Asc r p k → ∃ p', KasT.run (ask r) (kas_bin f p k) = p' ∧ p'.Perm p ∧ Asc r p' (k + f)
  | 0, p, k, _, h => ⟨p, rfl, .refl _, h⟩
  | f + 1, p, k, hz, h => by
    unfold kas_bin
    rw [run_bind]
    obtain ⟨m, e, m1, m2, m3⟩ := place_run r k 0 k (by lia) (Nat.le_refl _) (by lia) h (fun i a => by lia) (fun i a b => by lia)
    rw [e]
    have sz : (bubble p k (k - m)).size = p.size := bubble_size _ _ _
    have ga : ∀ j, (bubble p k (k - m)).getD j 0 = if j = m then p.getD k 0 else if m < j ∧ j ≤ k then p.getD (j - 1) 0 else p.getD j 0 := fun j => by
      have g := getElem?_bubble (xs := p) (src := k) (by lia) (k - m) (by lia) j
      simp only [Array.getD_eq_getD_getElem?]
      rw [g, show k - (k - m) = m by lia]
      split
      · rfl
      · split <;> rfl
    have a : Asc r (bubble p k (k - m)) (k + 1) := fun j j1 j2 => by
      show r _ ≤ r _
      rw [ga, ga]
      by_cases c1 : j = m
      · rw [if_pos c1, if_neg (show ¬ j - 1 = m by lia), if_neg (show ¬ (m < j - 1 ∧ j - 1 ≤ k) by lia)]
        exact m2 _ (by lia)
      · rw [if_neg c1]
        by_cases c2 : m < j
        · rw [if_pos (show m < j ∧ j ≤ k from ⟨c2, by lia⟩)]
          by_cases c3 : j - 1 = m
          · rw [if_pos c3]
            exact Nat.le_of_lt (m3 _ (by lia) (by lia))
          · rw [if_neg c3, if_pos (show m < j - 1 ∧ j - 1 ≤ k from ⟨by lia, by lia⟩)]
            exact h.le r _ _ (by lia) (by lia)
        · rw [if_neg (show ¬ (m < j ∧ j ≤ k) by lia), if_neg (show ¬ j - 1 = m by lia), if_neg (show ¬ (m < j - 1 ∧ j - 1 ≤ k) by lia)]
          exact h.le r _ _ (by lia) (by lia)
    obtain ⟨p', e1, e2, e3⟩ := bin_run f (bubble p k (k - m)) (k + 1) (by lia) a
    exact ⟨p', e1, e2.trans (bubble_perm _ _ _), by rw [show k + (f + 1) = k + 1 + f by lia]; exact e3⟩
theorem sort_run {n : Nat} (h1 : 1 ≤ n) : ∃ p, KasT.run (ask r) (kas_sort n) = p ∧ p.Perm (List.toArray (List.range n)) ∧ Asc r p n := by
  have sz : (List.toArray (List.range n)).size = n := by simp
  obtain ⟨m, p, e, c1, c2, c3, c4⟩ := count_run r (p := List.toArray (List.range n)) h1 (by lia)
  have sp : p.size = n := c1.size_eq.trans sz
  unfold kas_sort
  rw [run_bind, e]
  dsimp only
  split
  · obtain ⟨p', e1, e2, e3⟩ := bin_run r (n - max m 1) p (max m 1) (by lia) (by rw [show max m 1 = m by lia]; exact c4)
    exact ⟨p', e1, e2.trans c1, by rw [show max m 1 + (n - max m 1) = n by lia] at e3; exact e3⟩
  · exact ⟨p, rfl, c1, by rw [show n = m by lia]; exact c4⟩
end
end
theorem off_G1 : True := by
  w_top off
  trivial
section
/-- every question of the tree is about places below n, and its answer holds P -/
def Rng {α : Type} (n : Nat) (P : α → Prop) : KasT α → Prop
  | .ret a => P a
  | .ask i j k => i < n ∧ j < n ∧ ∀ b, Rng n P (k b)
theorem Rng.bind {α β : Type} {n : Nat} {P : α → Prop} {P' : β → Prop} {f : α → KasT β} (hf : ∀ a, P a → Rng n P' (f a)) : ∀ {t : KasT α}, Rng n P t → Rng n P' (t.bind f)
  | .ret a, h => hf a h
  | .ask i j k, h => ⟨h.1, h.2.1, fun b => Rng.bind hf (h.2.2 b)⟩
theorem run_wp' {α : Type} {n : Nat} {P : α → Prop} {o : Nat → Nat → Bool} {cmp : Nat → Nat → (Bool → Shared → Prop) → Shared → Prop} {I : Shared → Prop} (hc : ∀ i j C s, i < n → j < n → I s → (∀ s', I s' → C (o i j) s') → cmp i j C s) {Q : α → Shared → Prop} :
    ∀ (t : KasT α) (s : Shared), Rng n P t → I s → (∀ s', I s' → Q (KasT.run o t) s') → t.kasWp cmp Q s
  | .ret _, s, _, hi, hq => hq s hi
  | .ask i j k, s, h, hi, hq => hc i j _ s h.1 h.2.1 hi fun s' hi' => run_wp' hc (k (o i j)) s' (h.2.2 _) hi' hq
abbrev Low (n : Nat) (p : Array Nat) : Prop := ∀ k, p.getD k 0 < n
theorem Low.perm {n : Nat} {p q : Array Nat} (h : Low n q) (e : p.Perm q) (hn : 0 < n) : Low n p := fun k => by
  by_cases z : k < p.size
  · have hm : p[k] ∈ q := e.mem_iff.mp (Array.getElem_mem z)
    obtain ⟨j, hj, ej⟩ := Array.mem_iff_getElem.mp hm
    have := h j
    rw [Array.getD_eq_getD_getElem?, Array.getElem?_eq_getElem hj] at this
    rw [Array.getD_eq_getD_getElem?, Array.getElem?_eq_getElem z]
    simpa [ej] using this
  · rw [Array.getD_eq_getD_getElem?, Array.getElem?_eq_none (by lia)]
    simpa using hn
section
variable {n : Nat} (hn : 0 < n)
theorem asc_rng {p : Array Nat} (h : Low n p) : ∀ f a, Rng n (fun _ => True) (kas_asc p f a)
  | 0, a => trivial
  | f + 1, a => ⟨h _, h _, fun b => by
    show Rng n _ (if b = true then _ else _)
    split
    · trivial
    · exact asc_rng h f (a + 1)⟩
include hn in
theorem desc_rng : ∀ f (p : Array Nat) a q, Low n p → Rng n (fun x => Low n x.1) (kas_desc f p a q)
  | 0, p, a, q, h => h
  | f + 1, p, a, q, h => ⟨h _, h _, fun b => by
    show Rng n _ (if b = true then (if q > 0 then kas_desc f (kas_rev p (a - (q + 1)) a) (a + 1) 0 else kas_desc f p (a + 1) 0) else .ask (p.getD (a - 1) 0) (p.getD a 0) fun d => if d = true then .ret (p, a, q) else kas_desc f p (a + 1) (q + 1))
    split
    · split
      · exact desc_rng f _ _ _ (h.perm (mirror_perm _ _ _ _) hn)
      · exact desc_rng f _ _ _ h
    · refine ⟨h _, h _, fun d => ?_⟩
      show Rng n _ (if d = true then _ else _)
      split
      · exact h
      · exact desc_rng f _ _ _ h⟩
include hn in
theorem tail3_rng {p : Array Nat} {a c : Nat} (h : Low n p) : Rng n (fun x => Low n x.2) (kas_tail3 a c p) := by
  have h' : Low n (kas_rev p 0 a) := h.perm (mirror_perm _ _ _ _) hn
  unfold kas_tail3
  refine Rng.bind (P := fun _ => True) ?_ (asc_rng h' _ _)
  intro _ _
  exact h'
include hn in
theorem descPart_rng {p : Array Nat} {a c : Nat} (h : Low n p) : Rng n (fun x => Low n x.2) (kas_descPart a c p) := by
  unfold kas_descPart
  exact Rng.bind (P := fun x => Low n x.1) (fun x hx => by
    split
    · exact tail3_rng hn (hx.perm (mirror_perm _ _ _ _) hn)
    · exact tail3_rng hn hx) (desc_rng hn _ _ _ _ h)
include hn in
theorem count_rng {p : Array Nat} {c : Nat} (h : Low n p) : Rng n (fun x => Low n x.2) (kas_count c p) := by
  unfold kas_count
  exact Rng.bind (P := fun _ => True) (fun a _ => by
    split
    · exact h
    split
    · refine ⟨h _, h _, fun b => ?_⟩
      show Rng n _ (if b = true then _ else _)
      split
      · exact h
      · exact descPart_rng hn (h.perm (mirror_perm _ _ _ _) hn)
    · exact descPart_rng hn h) (asc_rng h _ _)
theorem place_rng {p : Array Nat} {k : Nat} (h : Low n p) : ∀ f l u, Rng n (fun _ => True) (kas_place p k f l u)
  | 0, l, u => trivial
  | f + 1, l, u => by
    unfold kas_place
    split
    · trivial
    · refine ⟨h _, h _, fun b => ?_⟩
      show Rng n _ (if b = true then _ else _)
      split
      · exact place_rng h f _ _
      · exact place_rng h f _ _
include hn in
theorem bin_rng : ∀ f (p : Array Nat) k, Low n p → Rng n (fun _ => True) (kas_bin f p k)
  | 0, p, k, h => trivial
  | f + 1, p, k, h => by
    unfold kas_bin
    exact Rng.bind (P := fun _ => True) (fun l _ => bin_rng f _ _ (h.perm (bubble_perm _ _ _) hn)) (place_rng h _ _ _)
include hn in
theorem sort_rng : Rng n (fun _ => True) (kas_sort n) := by
  unfold kas_sort
  exact Rng.bind (P := fun x => Low n x.2) (fun x hx => by
    split
    · exact bin_rng hn _ _ _ hx
    · trivial) (count_rng hn (fun k => by
    rw [Array.getD_eq_getD_getElem?]
    by_cases z : k < n
    · simp [z]
    · simp [z]; lia))
end
end
theorem off_G2 : True := by
  w_top off
  trivial
section
open PySem.W.X
section
variable {w : World} {A : Around} {E : Value → Shared → Prop} {s : Shared} {h₀ : Heap} {L a kS l : Addr} {m : Str → Option Value} {news : List (Addr × Obj)} {vs : List Value} {W : List Value → List (Addr × Obj) → Prop} {κ : SortKind} {r : Nat → Nat} {f : Value}
/-- one call of the key's function -/
def Turn (w : World) (A : Around) (s : Shared) (h₀ : Heap) (L : Addr) (m : Str → Option Value) (news : List (Addr × Obj)) (vs : List Value) (W : List Value → List (Addr × Obj) → Prop) (f : Value) : Prop :=
  ∀ (i : Nat) (v : Value) (ks : List Value) (own extra : List (Addr × Obj)) (h : Heap) (tk : Nat), vs[i]? = some v → ks.length = i → W ks own → Fr h₀ L h m → News h₀ L h (extra ++ (own ++ news)) →
    wpAny (model P0 w) A (call f [v]) (fun k s' => ∃ h' tk' o2, s' = { s with heap := h', toks := tk' } ∧ Fr h₀ L h' m ∧ News h₀ L h' (o2 ++ (extra ++ (own ++ news))) ∧ (∀ q ∈ extra ++ (own ++ news), ∀ p ∈ o2, q.1 ≠ p.1) ∧ W (ks ++ [k]) (o2 ++ own)) (fun _ _ => False) { s with heap := h, toks := tk }
/-- the keys' kind -/
def Kind (w : World) (A : Around) (s : Shared) (h₀ : Heap) (L : Addr) (m : Str → Option Value) (news : List (Addr × Obj)) (n : Nat) (W : List Value → List (Addr × Obj) → Prop) (κ : SortKind) : Prop :=
  ∀ (ks : List Value) (own extra : List (Addr × Obj)) (h : Heap) (tk : Nat) (Q : SortKind → Shared → Prop) (E : Value → Shared → Prop), W ks own → ks.length = n → Fr h₀ L h m → News h₀ L h (extra ++ (own ++ news)) → Q κ { s with heap := h, toks := tk } → wpAny (model P0 w) A (keyKind' ks.toArray) Q E { s with heap := h, toks := tk }
/-- one question of the sort -/
def Cmp (w : World) (A : Around) (s : Shared) (h₀ : Heap) (L : Addr) (m : Str → Option Value) (news : List (Addr × Obj)) (n : Nat) (W : List Value → List (Addr × Obj) → Prop) (κ : SortKind) (r : Nat → Nat) : Prop :=
  ∀ (ks : List Value) (own extra : List (Addr × Obj)) (i j : Nat) (h : Heap) (tk : Nat) (C : Bool → Shared → Prop), W ks own → ks.length = n → i < n → j < n → Fr h₀ L h m → News h₀ L h (extra ++ (own ++ news)) →
    (∀ h' tk', Fr h₀ L h' m → News h₀ L h' (extra ++ (own ++ news)) → C (ask r i j) { s with heap := h', toks := tk' }) → wpAny (model P0 w) A (keyLt' κ (ks.getD i .none) (ks.getD j .none)) C (fun _ _ => False) { s with heap := h, toks := tk }
abbrev outOf (vs : List Value) (p : Array Nat) : Array Value := (p.toList.map fun i => vs.getD i Value.none).toArray
theorem tailK {st : SortSt} {keys : Array Value} {own : List (Addr × Obj)} {e e1 : Nat} {p : Array Nat} {P : PySem.Fin → Shared → Prop} (F : Fr h₀ L s.heap m) (N : News h₀ L s.heap ([(kS, seqObj "list" keys e), (a, seqObj "list" #[] e1)] ++ (own ++ news))) (hka : kS ≠ a) (hnk : ∀ p ∈ news, p.1 ≠ kS) (hna : ∀ p ∈ news, p.1 ≠ a)
    (hsz : keys.size = vs.length) (h64 : vs.length < 64) (hps : p.size = vs.length) (harr : (arrOf st).map (·.2) = outOf vs p) (hfl : failedOf st = none)
    (h : ∀ h' tk c, Fr h₀ L h' m → News h₀ L h' ((a, seqObj "list" (outOf vs p) c) :: news) → P (.done (.ret .none)) { s with heap := h', toks := tk }) :
    wpAny (model P0 w) A (ksk_tail a false e1 (.ref kS) st) P E s := by
  have nk := N (kS, seqObj "list" keys e) (by simp)
  have na := N (a, seqObj "list" #[] e1) (by simp)
  have Nn : News h₀ L s.heap news := fun p hp => N p (List.mem_append_right _ (List.mem_append_right _ hp))
  have hout : (outOf vs p).size = vs.length := by simp [hps]
  have s1 := Heap.SameBut.update s.heap kS (Obj.mapSeq fun _ => (#[] : Array Value))
  have na1 : (s.heap.update kS (Obj.mapSeq fun _ => (#[] : Array Value))).get? a = some (seqObj "list" #[] e1) := (s1.2 a hka.symm).trans na.1
  have s2 := Heap.SameBut.update (s.heap.update kS (Obj.mapSeq fun _ => (#[] : Array Value))) a (Obj.mapSeq fun _ => outOf vs p)
  obtain ⟨c2, hc2⟩ : ∃ c2, ((s.heap.update kS (Obj.mapSeq fun _ => (#[] : Array Value))).update a (Obj.mapSeq fun _ => outOf vs p)).get? a = some (seqObj "list" (outOf vs p) c2) :=
    ⟨_, get?_update_seq na1 fun _ => outOf vs p⟩
  have N2 := ksk_news (ksk_news Nn s1 hnk) s2 hna
  unfold ksk_tail
  dsimp only
  rw [harr]
  refine wpAny_bind (listUpdate_at nk.1 rfl ?_ (by rw [hsz, sizeLine_eq]; lia) (Nat.zero_le _))
  refine wpAny_bind (wpAny_letGo ?_)
  refine wpAny_bind (seqEpoch_at na1 rfl ?_)
  refine wpAny_bind (listUpdate_at na1 rfl ?_ (Nat.zero_le _) (Nat.le_trans (Nat.le_of_eq hout) (by rw [sizeLine_eq]; lia)))
  rw [hfl]
  simp only [bne_self_eq_false, Bool.false_eq_true, if_false]
  refine wpAny_pure (h _ _ c2 (ksk_fr (ksk_fr F s1 nk.2.1 nk.2.2) s2 na.2.1 na.2.2) (fun p hp => ?_))
  rcases List.mem_cons.mp hp with rfl | hp
  · exact ⟨hc2, na.2⟩
  · exact N2 p hp
theorem endK {ks : List Value} {own : List (Addr × Obj)} {e e1 : Nat} {P : PySem.Fin → Shared → Prop} (F : Fr h₀ L s.heap m) (N : News h₀ L s.heap ([(kS, seqObj "list" ks.toArray e), (a, seqObj "list" #[] e1)] ++ (own ++ news))) (hka : kS ≠ a) (hnk : ∀ p ∈ news, p.1 ≠ kS) (hna : ∀ p ∈ news, p.1 ≠ a)
    (hw : W ks own) (hlen : ks.length = vs.length) (h2 : 2 ≤ vs.length) (h64 : vs.length < 64) (kd : Kind w A s h₀ L m news vs.length W κ) (cp : Cmp w A s h₀ L m news vs.length W κ r)
    (h : ∀ h' tk c p, Fr h₀ L h' m → News h₀ L h' ((a, seqObj "list" (outOf vs p) c) :: news) → p.Perm (List.range vs.length).toArray → Asc r p vs.length → P (.done (.ret .none)) { s with heap := h', toks := tk }) :
    wpAny (model P0 w) A (ksk_end a false vs.toArray e1 (.ref kS) ks.toArray) P E s := by
  have hzs : (ks.toArray.zip vs.toArray).size = vs.length := by simp [hlen]
  have item : ∀ i, i < vs.length → kas_item (ks.toArray.zip vs.toArray) i = (ks.getD i .none, vs.getD i .none) := fun i hi => by
    have h1 : i < ks.length := by lia
    simp [kas_item, Array.getD, List.getD_eq_getElem?_getD, hi, h1]
    exact dif_pos (by lia)
  have hn2 : ¬ vs.toArray.size < 2 := by rw [List.size_toArray]; lia
  unfold ksk_end
  dsimp only
  rw [if_neg hn2, if_neg hn2]
  refine ite_no (by decide) ?_
  refine wpAny_bind (kd ks own _ s.heap s.toks _ _ hw hlen F N ?_)
  have est : SortSt.mk' κ (ks.toArray.zip vs.toArray) #[] 7 none = kas_st κ (ks.toArray.zip vs.toArray) (List.toArray (List.range vs.length)) := by
    have e := kas_range (ks.toArray.zip vs.toArray)
    rw [hzs] at e
    show SortSt.mk' κ (ks.toArray.zip vs.toArray) #[] 7 none = SortSt.mk' κ ((List.toArray (List.range vs.length)).map (kas_item (ks.toArray.zip vs.toArray))) #[] 7 none
    rw [e]
  obtain ⟨p0, ep0, pp0, ap0⟩ := sort_run r (n := vs.length) (by lia)
  have ask' : (kas_sort vs.length).kasWp (kas_cmp P0 w A κ (ks.toArray.zip vs.toArray)) (fun p s' => p = p0 ∧ ∃ h' tk', s' = { s with heap := h', toks := tk' } ∧ Fr h₀ L h' m ∧ News h₀ L h' ([(kS, seqObj "list" ks.toArray e), (a, seqObj "list" #[] e1)] ++ (own ++ news))) s := by
    refine run_wp' (n := vs.length) (o := ask r) (P := fun _ => True) (I := fun s' => ∃ h' tk', s' = { s with heap := h', toks := tk' } ∧ Fr h₀ L h' m ∧ News h₀ L h' ([(kS, seqObj "list" ks.toArray e), (a, seqObj "list" #[] e1)] ++ (own ++ news))) ?_ _ _ (sort_rng (by lia)) ⟨s.heap, s.toks, rfl, F, N⟩ (fun s' hs' => ⟨ep0, hs'⟩)
    rintro i j C s' hi hj ⟨h', tk', rfl, F', N'⟩ hC
    unfold kas_cmp
    rw [item i hi, item j hj]
    exact cp ks own _ i j h' tk' C hw hlen hi hj F' N' fun h2 tk2 F2 N2 => hC _ ⟨h2, tk2, rfl, F2, N2⟩
  have run := kas_runs (E := E) (Q := fun _ st' s' => ∃ p : Array Nat, p.size = vs.length ∧ arrOf st' = p.map (kas_item (ks.toArray.zip vs.toArray)) ∧ failedOf st' = none ∧ p = p0 ∧ ∃ h' tk', s' = { s with heap := h', toks := tk' } ∧ Fr h₀ L h' m ∧ News h₀ L h' ([(kS, seqObj "list" ks.toArray e), (a, seqObj "list" #[] e1)] ++ (own ++ news)))
    h2 h64 (fun p' st' s' a1 a2 a3 a4 => ⟨p', a1, a2, a3, a4⟩) ask'
  rw [← est] at run
  show wpAny _ _ _ _ _ s
  refine wpAny_bind (wpAny_mono run ?_ fun _ _ e => e)
  rintro ⟨⟨⟩, st'⟩ s' ⟨p, hp, har, hf, rfl, h', tk', rfl, F', N'⟩
  dsimp only
  refine tailK (keys := ks.toArray) (p := p) F' N' hka hnk hna (by simp [hlen]) h64 hp ?_ hf (fun h3 tk3 c F3 N3 => h h3 tk3 c p F3 N3 pp0 ap0)
  apply Array.toList_inj.mp
  rw [har, Array.map_map, Array.toList_map]
  refine List.map_congr_left fun i hi => ?_
  have : i < vs.length := by
    have hm : i ∈ p := by simpa using hi
    have := pp0.mem_iff.mp hm
    simpa using this
  show (kas_item _ i).2 = _
  rw [item i this]
theorem restK {e1 : Nat} {P : PySem.Fin → Shared → Prop} (F : Fr h₀ L s.heap m) (N : News h₀ L s.heap ([(kS, seqObj "list" #[] 0), (a, seqObj "list" #[] e1)] ++ news)) (hka : kS ≠ a) (hnk : ∀ p ∈ news, p.1 ≠ kS) (hna : ∀ p ∈ news, p.1 ≠ a)
    (h2 : 2 ≤ vs.length) (h64 : vs.length < 64) (w0 : W [] []) (tn : Turn w A s h₀ L m news vs W f) (kd : Kind w A s h₀ L m news vs.length W κ) (cp : Cmp w A s h₀ L m news vs.length W κ r)
    (h : ∀ h' tk c p, Fr h₀ L h' m → News h₀ L h' ((a, seqObj "list" (outOf vs p) c) :: news) → p.Perm (List.range vs.length).toArray → Asc r p vs.length → P (.done (.ret .none)) { s with heap := h', toks := tk }) :
    wpAny (model P0 w) A (ksk_rest a f false vs.toArray e1 (.ref kS)) P E s := by
  unfold ksk_rest
  refine wpAny_bind (wpAny_rule ?_)
  rw [List.forIn_toArray]
  refine wpAny_bind (ksk_fold (fun i s' => ∃ h' tk ks e own, s' = { s with heap := h', toks := tk } ∧ Fr h₀ L h' m ∧ News h₀ L h' ([(kS, seqObj "list" (List.toArray ks) e), (a, seqObj "list" #[] e1)] ++ (own ++ news)) ∧ W ks own ∧ ks.length = i ∧ (∀ p ∈ own, p.1 ≠ kS)) vs 0 s
    ⟨s.heap, s.toks, [], 0, [], rfl, F, N, w0, rfl, fun _ hp => nomatch hp⟩ ?step ?done)
  case step =>
    rintro j x s' hx ⟨h', tk, ks, e, own, rfl, F', N', hw, hl, ho⟩
    simp only [Nat.zero_add] at hl ⊢
    have hj : j < vs.length := (List.getElem?_eq_some_iff.mp hx).1
    refine wpAny_bind (wpAny_attempt (wpAny_mono (tn j x ks own _ h' tk hx hl hw F' N') (fun v s'' he => ?_) fun _ _ hF => hF.elim))
    obtain ⟨g, tk2, o2, rfl, F2, N2, off2, hw2⟩ := he
    try dsimp only
    have nk := N2 (kS, seqObj "list" (List.toArray ks) e) (by simp)
    have na := N2 (a, seqObj "list" #[] e1) (by simp)
    have s1 := Heap.SameBut.update g kS (Obj.mapSeq (·.push v))
    obtain ⟨c2, hc2⟩ : ∃ c2, (g.update kS (Obj.mapSeq (·.push v))).get? kS = some (seqObj "list" ((List.toArray ks).push v) c2) := ⟨_, get?_update_seq nk.1 (·.push v)⟩
    have ho' : ∀ p ∈ o2 ++ own, p.1 ≠ kS := fun p hp => by
      rcases List.mem_append.mp hp with hp | hp
      · exact (off2 (kS, seqObj "list" (List.toArray ks) e) (by simp) p hp).symm
      · exact ho p hp
    refine wpAny_bind (listUpdate_at nk.1 rfl ?_ (by rw [List.size_toArray, sizeLine_eq]; lia) (Nat.le_trans (Nat.le_of_eq (Array.size_push ..)) (by rw [List.size_toArray, sizeLine_eq]; lia)))
    refine wpAny_pure ⟨rfl, _, _, ks ++ [v], c2, o2 ++ own, rfl, ksk_fr F2 s1 nk.2.1 nk.2.2, fun p hp => ?_, hw2, by simp [hl], ho'⟩
    rcases List.mem_append.mp hp with hp | hp
    · rcases List.mem_cons.mp hp with rfl | hp
      · refine ⟨?_, nk.2⟩
        have ea : (List.toArray ks).push v = List.toArray (ks ++ [v]) := by simp
        rw [← ea]; exact hc2
      · rw [List.mem_singleton.mp hp]
        exact ⟨(s1.2 a hka.symm).trans na.1, na.2⟩
    · refine ksk_news (news := (o2 ++ own) ++ news) (fun q hq => N2 q ?_) s1 (fun q hq => ?_) p hp
      · simp only [List.mem_append, List.mem_cons] at hq ⊢
        rcases hq with (hq | hq) | hq <;> simp [hq]
      · rcases List.mem_append.mp hq with hq | hq
        · exact ho' q hq
        · exact hnk q hq
  case done =>
    rintro s' ⟨h', tk, ks, e, own, rfl, F', N', hw, hl, ho⟩
    have nk := N' (kS, seqObj "list" (List.toArray ks) e) (by simp)
    try dsimp only
    refine wpAny_bind (listItems_at nk.1 rfl ?_)
    exact endK (s := { s with heap := h', toks := tk }) F' N' hka hnk hna hw (by lia) h2 h64 kd cp fun h3 tk3 c p F3 N3 p3 a3 => h h3 tk3 c p F3 N3 p3 a3
theorem sortK {n : Nat} {P : PySem.Fin → Shared → Prop} (F : Fr h₀ L s.heap m) (N : News h₀ L s.heap news) (ho : s.heap.get? a = some (seqObj "list" vs.toArray n)) (haL : a ≠ L) (ha0 : h₀.get? a = none) (hna : ∀ p ∈ news, p.1 ≠ a)
    (h2 : 2 ≤ vs.length) (h64 : vs.length < 64) (w0 : W [] []) (tn : Turn w A s h₀ L m news vs W f) (kd : Kind w A s h₀ L m news vs.length W κ) (cp : Cmp w A s h₀ L m news vs.length W κ r)
    (h : ∀ h' tk c p, Fr h₀ L h' m → News h₀ L h' ((a, seqObj "list" (outOf vs p) c) :: news) → p.Perm (List.range vs.length).toArray → Asc r p vs.length → P (.done (.ret .none)) { s with heap := h', toks := tk }) :
    wpAny (model P0 w) A (ksk_tree a f false) P E s := by
  have ha : a < s.heap.objs.size := Heap.lt_size ho
  have s1 := Heap.SameBut.update s.heap a (Obj.mapSeq fun _ => (#[] : Array Value))
  obtain ⟨e1, ho1⟩ : ∃ e1, (s.heap.update a (Obj.mapSeq fun _ => (#[] : Array Value))).get? a = some (seqObj "list" #[] e1) := ⟨_, get?_update_seq ho fun _ => #[]⟩
  have F1 := ksk_fr F s1 haL ha0
  have N1 := ksk_news N s1 hna
  have hkS : ((s.heap.update a (Obj.mapSeq fun _ => (#[] : Array Value))).push (seqObj "tuple" vs.toArray 0)).objs.size = s.heap.objs.size + 1 := by rw [size_push', Heap.size_update]
  have hLk : L < ((s.heap.update a (Obj.mapSeq fun _ => (#[] : Array Value))).push (seqObj "tuple" vs.toArray 0)).objs.size := (F1.push _).ns.lt
  unfold ksk_tree
  refine wpAny_bind (listItems_at ho rfl ?_)
  refine wpAny_bind (listUpdate_at ho rfl ?_ (by rw [List.size_toArray, sizeLine_eq]; lia) (Nat.zero_le _))
  refine wpAny_bind (seqEpoch_at ho1 rfl ?_)
  refine wpAny_bind (wpAny_newTuple ?_ (by show vs.length ≤ _; rw [sizeLine_eq]; lia))
  refine wpAny_bind (wpAny_newList ?_ (Nat.zero_le _))
  refine wpAny_holding ?_
  refine restK (s := { s with heap := ((s.heap.update a (Obj.mapSeq fun _ => (#[] : Array Value))).push (seqObj "tuple" vs.toArray 0)).push (seqObj "list" #[] 0) }) (kS := ((s.heap.update a (Obj.mapSeq fun _ => (#[] : Array Value))).push (seqObj "tuple" vs.toArray 0)).objs.size)
    ((F1.push _).push _) (fun p hp => ?_) (by rw [hkS]; exact Nat.ne_of_gt (Nat.lt_succ_of_lt ha)) (fun p hp => by rw [hkS]; exact Nat.ne_of_lt (Nat.lt_succ_of_lt (Heap.lt_size (N p hp).1))) hna h2 h64 w0 tn kd cp h
  rcases List.mem_append.mp hp with hp | hp
  · rcases List.mem_cons.mp hp with rfl | hp
    · exact ⟨Heap.get?_push_size _ rfl, Nat.ne_of_gt hLk, Heap.get?_none_of_le (Nat.le_trans F.above (Nat.le_of_lt hLk))⟩
    · rw [List.mem_singleton.mp hp]
      exact ⟨Heap.get?_push_of_some _ (Heap.get?_push_of_some _ ho1), haL, ha0⟩
  · exact ⟨Heap.get?_push_of_some _ (Heap.get?_push_of_some _ (N1 p hp).1), (N1 p hp).2⟩
theorem sortedK {q : Addr} {Q : Value → Shared → Prop} (F : Fr h₀ L s.heap m) (N : News h₀ L s.heap news) (hl : s.heap.IsList l vs.toArray)
    (h2 : 2 ≤ vs.length) (h64 : vs.length < 64) (w0 : W [] []) (tn : Turn w A.in1.in1 s h₀ L m news vs W (.ref q)) (kd : Kind w A.in1.in1 s h₀ L m news vs.length W κ) (cp : Cmp w A.in1.in1 s h₀ L m news vs.length W κ r)
    (h : ∀ D h' tk c p, Fr h₀ L h' m → News h₀ L h' ((D, listOf (outOf vs p) c) :: news) → (∀ q ∈ news, q.1 < D) → p.Perm (List.range vs.length).toArray → Asc r p vs.length → Q (.ref D) { s with heap := h', toks := tk }) :
    wpAny (model P0 w) A (call (.builtin "sorted") [.ref l] [(Str.ofString "key", .ref q)]) Q E s := by
  refine call_function_entry_kw kind_sorted plain_sorted entry_sorted (ksk_s1 _ _) ?_
  unfold Builtin.«sorted»
  refine wpAny_bind (m := checkCount "sorted" 1 1 _) (wpAny_pure ?_)
  refine wpAny_bind (collect_list hl ?_ (by rw [sizeLine_eq]; lia))
  refine wpAny_bind (wpAny_newList ?_ (by rw [sizeLine_eq]; lia))
  have hsz : ((s.heap.push (seqObj "list" #[] 0)).update s.heap.objs.size (Obj.mapSeq (· ++ vs.toArray))).objs.size = s.heap.objs.size + 1 := by
    rw [Heap.size_update, size_push']
  have hoL : (((s.heap.push (seqObj "list" #[] 0)).update s.heap.objs.size (Obj.mapSeq (· ++ vs.toArray))).push (seqObj "list" vs.toArray 0)).get? (s.heap.objs.size + 1) = some (seqObj "list" vs.toArray 0) := by
    rw [← hsz]; exact Heap.get?_push_size _ rfl
  have keep : ∀ b o, s.heap.get? b = some o → (((s.heap.push (seqObj "list" #[] 0)).update s.heap.objs.size (Obj.mapSeq (· ++ vs.toArray))).push (seqObj "list" vs.toArray 0)).get? b = some o := fun b o q => by
    have hlt : b < s.heap.objs.size := Heap.lt_size q
    rw [Heap.get?_push_ne _ _ _ (by rw [hsz]; exact Nat.ne_of_lt (Nat.lt_succ_of_lt hlt)), Heap.get?_update_ne _ _ _ _ (Nat.ne_of_lt hlt), Heap.get?_push_ne _ _ _ (Nat.ne_of_lt hlt)]
    exact q
  have hL : L < s.heap.objs.size := F.ns.lt
  show wpAny _ _ _ _ _ { s with heap := ((s.heap.push (seqObj "list" #[] 0)).update s.heap.objs.size (Obj.mapSeq (· ++ vs.toArray))).push (seqObj "list" vs.toArray 0) }
  rw [hsz]
  refine wpAny_bind (wpAny_holding (wpAny_call_entry_kw slot_list_sort ⟨_, hoL, rfl⟩ entry_list_sort ?body (ksk_l1 _ _)))
  case body =>
    show wpAny (model P0 w) A.in1.in1 (Builtin.«list.sort» ⟨[.ref (s.heap.objs.size + 1)], [(Str.ofString "key", .ref q)]⟩) _ _ _
    rw [ksk_t1]
    refine sortK (s := { s with heap := ((s.heap.push (seqObj "list" #[] 0)).update s.heap.objs.size (Obj.mapSeq (· ++ vs.toArray))).push (seqObj "list" vs.toArray 0) })
      (F.kept keep) (N.grown keep) hoL (Nat.ne_of_gt (Nat.lt_succ_of_lt hL)) (Heap.get?_none_of_le (Nat.le_trans F.above (Nat.le_succ_of_le (Nat.le_of_lt hL))))
      (fun p hp => Nat.ne_of_lt (Nat.lt_succ_of_lt (Heap.lt_size (N p hp).1))) h2 h64 w0 tn kd cp fun h' tk c p F' N' p' a' => ⟨_, rfl, ?_⟩
    exact wpAny_pure ⟨_, rfl, h _ h' tk c p F' N' (fun q hq => Nat.lt_succ_of_lt (Heap.lt_size (N q hq).1)) p' a'⟩
end
end
theorem off_G3 : True := by
  w_top off
  trivial
section
/-- the shorter first, then by themselves -/
def ltL (a b : List Nat) : Bool := Nat.blt a.length b.length || (Nat.beq a.length b.length && ltW a b)
theorem ltL_iff (a b : List Nat) : ltL a b = true ↔ a.length < b.length ∨ (a.length = b.length ∧ ltW a b = true) := by
  have h1 : Nat.blt a.length b.length = true ↔ a.length < b.length := ⟨fun h => Nat.le_of_ble_eq_true h, fun h => Nat.ble_eq_true_of_le h⟩
  have h2 : Nat.beq a.length b.length = true ↔ a.length = b.length := ⟨Nat.eq_of_beq_eq_true, fun h => h ▸ Nat.beq_refl _⟩
  unfold ltL
  rw [Bool.or_eq_true, Bool.and_eq_true, h1, h2]
theorem ltL_no (a b : List Nat) : ltL a b = false ↔ ¬ (a.length < b.length ∨ (a.length = b.length ∧ ltW a b = true)) := by
  rw [← ltL_iff]; simp
def ordL : KeyOrd := { ordW with
  α := List Nat
  blt := ltL
  irrefl := fun a => by rw [ltL_no]; rintro (h | ⟨_, h⟩); exact absurd h (by lia); exact absurd h (by rw [show ltW a a = false from ordW.irrefl a]; decide)
  trans := fun a b c h1 h2 => by
    rw [ltL_iff] at *
    rcases h1 with h1 | ⟨h1, k1⟩ <;> rcases h2 with h2 | ⟨h2, k2⟩
    · left; lia
    · left; lia
    · left; lia
    · right; exact ⟨by lia, ordW.trans a b c k1 k2⟩
  negTrans := fun a b c h => by
    rw [ltL_iff] at *
    rw [ltL_iff]
    rcases h with h | ⟨h, k⟩
    · by_cases q : a.length < b.length
      · exact .inl (.inl q)
      · exact .inr (.inl (by lia))
    · rcases Nat.lt_trichotomy a.length b.length with q | q | q
      · exact .inl (.inl q)
      · rcases ordW.negTrans a b c k with z | z
        · exact .inl (.inr ⟨q, z⟩)
        · exact .inr (.inr ⟨by lia, z⟩)
      · exact .inr (.inl (by lia))
  total := fun a b h1 h2 => by
    rw [ltL_no] at h1 h2
    simp only [not_or, not_and] at h1 h2
    have e : a.length = b.length := by lia
    refine ordW.total a b ?_ ?_
    · have := h1.2 e
      show ltW a b = false
      simpa using this
    · have := h2.2 e.symm
      show ltW b a = false
      simpa using this }
def sortL (xs : List (List Nat)) : List (List Nat) := isort ltL xs
theorem cmpI_neg (a b : Bool) (h : ¬ (a = true ∧ b = true)) : cmpI a b < 0 ↔ b = true := by
  cases a <;> cases b <;> simp_all [cmpI]
theorem cmpI_zero (a b : Bool) (h : ¬ (a = true ∧ b = true)) : cmpI a b = 0 ↔ a = false ∧ b = false := by
  cases a <;> cases b <;> simp_all [cmpI]
theorem ltW_asymm {a b : List Nat} (h : ltW a b = true) : ltW b a = false := KeyOrd.klt_asymm (O := ordW) h
theorem cmpL_neg (x y : List Nat) : decide (cmpL x y < 0) = ltL x y := by
  rw [Bool.eq_iff_iff, decide_eq_true_iff, ltL_iff]
  unfold cmpL
  have hn : ¬ (decide ((y.length : Int) < x.length) = true ∧ decide ((x.length : Int) < y.length) = true) := by simp; lia
  have hs : ¬ (decide (y < x) = true ∧ decide (x < y) = true) := by
    rw [← ltW_eq, ← ltW_eq]
    rintro ⟨h1, h2⟩
    rw [ltW_asymm h1] at h2; cases h2
  by_cases q : cmpN x.length y.length = 0
  · rw [if_pos q, cmpI_neg _ _ hs, ← ltW_eq]
    have := (cmpI_zero _ _ hn).mp q
    simp only [decide_eq_false_iff_not] at this
    constructor
    · exact fun h => .inr ⟨by lia, h⟩
    · rintro (h | h)
      · lia
      · exact h.2
  · rw [if_neg q, cmpI_neg _ _ hn, decide_eq_true_iff]
    have := fun z => q ((cmpI_zero _ _ hn).mpr z)
    simp only [decide_eq_false_iff_not] at this
    constructor
    · exact fun h => .inl (by lia)
    · rintro (h | h)
      · lia
      · exact absurd ⟨by lia, by lia⟩ this
/-- the number of words ahead of it -/
def rank (O : KeyOrd) (xs : List O.α) (b : O.α) : Nat := xs.countP fun x => O.blt x b
theorem rank_le (O : KeyOrd) (xs : List O.α) {b c : O.α} (h : O.blt b c = false) : rank O xs c ≤ rank O xs b := by
  refine List.countP_mono_left fun x _ hx => ?_
  rcases O.negTrans x b c hx with z | z
  · exact z
  · rw [h] at z; cases z
theorem countP_lt {α : Type} {p q : α → Bool} {y : α} : ∀ {l : List α}, (∀ x ∈ l, p x = true → q x = true) → y ∈ l → p y = false → q y = true → l.countP p < l.countP q
  | [], _, hy, _, _ => nomatch hy
  | x :: l, h, hy, hp, hq => by
    have hm : l.countP p ≤ l.countP q := List.countP_mono_left fun z hz => h z (.tail _ hz)
    rw [List.countP_cons, List.countP_cons]
    rcases List.mem_cons.mp hy with rfl | hy
    · rw [hp, hq]; simp only [Bool.false_eq_true, if_false, if_true]; lia
    · have ih := countP_lt (fun z hz => h z (.tail _ hz)) hy hp hq
      by_cases z : p x = true
      · rw [z, h x (.head _) z]; lia
      · rw [if_neg z]; lia
theorem rank_lt (O : KeyOrd) (xs : List O.α) {b c : O.α} (hb : b ∈ xs) : decide (rank O xs b < rank O xs c) = O.blt b c := by
  rw [Bool.eq_iff_iff, decide_eq_true_iff]
  constructor
  · intro h
    cases q : O.blt b c with
    | true => rfl
    | false => have := rank_le O xs q; lia
  · intro h
    exact countP_lt (fun x _ hx => O.trans x b c hx h) hb (O.irrefl b) h
/-- what the sort hands back, by its ranks -/
theorem out_sorted (O : KeyOrd) {xs : List O.α} {d : O.α} {p : Array Nat} (hp : p.Perm (List.range xs.length).toArray) (ha : Asc (fun i => rank O xs (xs.getD i d)) p xs.length) :
    p.toList.map (fun i => xs.getD i d) = isort O.blt xs := by
  have hpl : p.toList.Perm (List.range xs.length) := Array.perm_iff_toList_perm.mp hp
  have sz : p.toList.length = xs.length := by rw [hpl.length_eq]; simp
  refine isort_unique O ?_ ?_
  · refine (hpl.map _).trans ?_
    have : (List.range xs.length).map (fun i => xs.getD i d) = xs := by
      apply List.ext_getElem
      · simp
      · intro i h1 h2
        simp at h1
        simp [h1]
    rw [this]
  · rw [List.pairwise_map, List.pairwise_iff_getElem]
    intro i j hi hj hij
    have h := ha.le _ i j (Nat.le_of_lt hij) (by lia)
    have e : ∀ k (hk : k < p.toList.length), p.getD k 0 = p.toList[k] := fun k hk => by
      have : k < p.size := by simpa using hk
      simp [Array.getD, this]
    simp only [at_] at h
    rw [e i hi, e j hj] at h
    have hm : xs.getD p.toList[j] d ∈ xs := by
      have : p.toList[j] ∈ List.range xs.length := hpl.mem_iff.mp (List.getElem_mem hj)
      rw [List.mem_range] at this
      rw [List.getD_eq_getElem?_getD, List.getElem?_eq_getElem this]
      exact List.getElem_mem this
    have := rank_lt O xs (b := xs.getD p.toList[j] d) (c := xs.getD p.toList[i] d) hm
    show O.blt _ _ = false
    rw [← this, decide_eq_false_iff_not]
    lia
theorem are_out {vs : List Value} {xs : List (List Nat)} (hA : Are vs xs) : ∀ (l : List Nat), (∀ i ∈ l, i < xs.length) → Are (l.map fun i => vs.getD i Value.none) (l.map fun i => xs.getD i [])
  | [], _ => .nil
  | i :: l, h => by
    obtain ⟨t, ht⟩ := are_at hA (h i (.head _))
    have hi := h i (.head _)
    have e1 : vs.getD i Value.none = .str (S xs[i]) t := by rw [List.getD_eq_getElem?_getD, ht]; rfl
    have e2 : xs.getD i [] = xs[i] := by simp [hi]
    rw [List.map_cons, List.map_cons, e1, e2]
    exact StrsAre.cons _ _ (are_out hA l fun j hj => h j (.tail _ hj))
end
theorem off_G4 : True := by
  w_top off
  trivial
section
open PySem.W.X
section
variable {prog : Program} {w : World} {A : Around} {E : Value → Shared → Prop} {s : Shared} {kf : Frag}
theorem lt_inst {x C f : Addr} {ox : Obj} {od : Option Obj} {b : Value} {Q : Bool → Shared → Prop} (hu : A.units < cLine) (Y : kf.In s.heap) (I : InstAt s.heap x ox C od) (hs : findIn kf (.ref C) "__lt__" = some (some (.ref f))) (hf : isFn kf (.ref f) = true)
    (h : wpAny (model prog w) A (call (.ref f) [.ref x, b]) (fun v s' => ∃ c, v = .bool c ∧ Q c s') E s) : wpAny (model prog w) A (keyLt' oneType' (.ref x) b) Q E s := by
  rw [keyLt'_oneType, oneLt'_eq]
  simp only [if_true]
  refine wpAny_bind (wpAny_cRoomFor hu ?_)
  refine wpAny_bind (ifBound_K Y I hs hf (wpAny_mono h (fun v s' hv => ?_) fun _ _ e => e))
  obtain ⟨c, rfl, hq⟩ := hv
  exact wpAny_truthy_bool hq
end
/-- the keys made so far by the class -/
def WKey (K : Addr) (vs ks : List Value) (own : List (Addr × Obj)) : Prop :=
  ∀ i v, i < ks.length → vs[i]? = some v → ∃ x dx, ks.getD i .none = .ref x ∧ (x, instO K dx #[some v]) ∈ own ∧ (dx, eD) ∈ own
theorem t_sortKind (w : World) (news tl : List (Addr × Obj)) (K cA al : Addr) (vs : List Value) (n : Nat) (xs : List (List Nat)) (hA : Are vs xs) (hal : (al, listOf (List.toArray vs) n) ∈ news) (hw : ∀ y ∈ xs, y.length ≤ 1000) (h2 : 2 ≤ xs.length) (h64 : xs.length < 64)
   (dp un : Nat) (gd : Option (List Code)) (cn : Str) (cs : Scope) (a : Addr) (ccd : Value) (cl : List (Str × Addr)) (outer : List Env) (A₀ : Around) (base h₀ : Heap) (L : Addr) (m : Str → Option Value) (s : Shared) (Q E : Value → Shared → Prop)
   (p : Program) (loose : List Str) (mean : ExcName → Option Value) (mg mb : Str → Option Value)
    (B : Below A₀ base outer h₀) (F : Fr h₀ L s.heap m) (X : (hd.heap_1 w.params).In h₀) (N : News h₀ L s.heap news) (T : Top p loose mean mg mb h₀) (hk : cs.kind = .function) (hd : dp + 9 < recursionLimit) (hu : un + 2 + 8 * 9 < cLine)
    (kk : KeyTl K cA tl) (hsub : ∀ p ∈ tl, p ∈ news)
    (hret : ∀ D zs c h' tk', Fr h₀ L h' m → News h₀ L h' ((D, listOf (List.toArray zs) c) :: news) → (∀ q ∈ news, q.1 < D) → Are zs (sortL xs) → Q (.ref D) { s with heap := h', toks := tk' }) :
    wpAny (model P0 w) (ktrTop dp un gd cn cs L a ccd cl outer) (call (.builtin "sorted") [.ref al] [(Str.ofString "key", .ref K)]) Q E s := by
  have hl : vs.length = xs.length := hA.len
  have wd : ∀ i, i < xs.length → ∃ t, vs[i]? = some (.str (S (xs.getD i [])) t) := fun i hi => by
    obtain ⟨t, ht⟩ := are_at hA hi
    exact ⟨t, by rw [ht]; simp [hi]⟩
  have hm : ∀ i, i < xs.length → xs.getD i [] ∈ xs := fun i hi => by
    rw [List.getD_eq_getElem?_getD, List.getElem?_eq_getElem hi]; exact List.getElem_mem hi
  refine sortedK (W := WKey K vs) (κ := oneType') (r := fun i => rank ordL xs (xs.getD i [])) F N ⟨_, N.get hal, rfl, _, rfl⟩ (by lia) (by lia) (fun i v h => absurd h (by simp)) ?_ ?_ ?_ ?_
  · intro i v ks own extra h tk hv hi hW F1 N1
    refine t_kind w (extra ++ (own ++ news)) tl K cA v dp (un + 1 + 1) gd cn cs a ccd cl outer A₀ base h₀ L m { s with heap := h, toks := tk } _ _ p loose mean mg mb B F1 X N1 T hk (by lia) (by lia) kk (fun q hq => by simp [hsub q hq]) ?_
    intro x dx h' tk' F2 N2 ox od
    refine ⟨h', tk', [(x, instO K dx #[some v]), (dx, eD)], rfl, F2, N2, ?_, ?_⟩
    · intro q hq z hz
      simp only [List.mem_cons, List.not_mem_nil, or_false] at hz
      rcases hz with rfl | rfl
      · exact ox q (.tail _ hq)
      · exact od q hq
    · intro j u hj hu
      by_cases e : j = i
      · subst e
        rw [hv] at hu
        obtain rfl := Option.some.inj hu
        refine ⟨x, dx, ?_, by simp, by simp⟩
        rw [List.getD_eq_getElem?_getD, List.getElem?_append_right (by lia)]
        simp [hi]
      · have hj' : j < ks.length := by simp at hj; lia
        obtain ⟨x', dx', e1, e2, e3⟩ := hW j u hj' hu
        refine ⟨x', dx', ?_, by simp [e2], by simp [e3]⟩
        rw [List.getD_eq_getElem?_getD, List.getElem?_append_left hj', ← List.getD_eq_getElem?_getD]
        exact e1
  · intro ks own extra h tk Q' E' hW hks F1 N1 hq
    refine kas_kind (T := .ref K) (by lia) ?_ (by rfl) (by simp) hq
    have mid : ∀ {q}, q ∈ own → q ∈ extra ++ (own ++ news) := fun h => by simp [h]
    intro v hv
    obtain ⟨i, hi, rfl⟩ := List.mem_iff_getElem.mp hv
    obtain ⟨t, ht⟩ := wd i (by lia)
    obtain ⟨x, dx, e1, e2, e3⟩ := hW i _ hi ht
    have e : ks[i] = .ref x := by rw [← e1]; simp [hi]
    rw [e]
    have I : InstAt h x (instO K dx #[some (.str (S (xs.getD i [])) t)]) K (some eD) := ⟨(N1 _ (mid e2)).1, rfl, rfl, (N1 _ (mid e3)).1⟩
    exact I.type
  · intro ks own extra i j h tk C hW hks hi hj F1 N1 hC
    have mid : ∀ {q}, q ∈ own → q ∈ extra ++ (own ++ news) := fun h => by simp [h]
    obtain ⟨t, ht⟩ := wd i (by lia)
    obtain ⟨u, hu'⟩ := wd j (by lia)
    obtain ⟨x, dx, e1, e2, e3⟩ := hW i _ (by lia) ht
    obtain ⟨y, dy, g1, g2, g3⟩ := hW j _ (by lia) hu'
    rw [e1, g1]
    obtain ⟨kf, ns, md, fi, fl, ci, cl', bT, t1, tq, m', dI, vI, dL, vL, oA, k, gC, hn, mi, hfi, hfl, cri, crl, hcA, hoA⟩ := key_frag (h := h) kk fun q hq => (N1 q (by simp [hsub q hq])).1
    have I : InstAt h x (instO K dx #[some (.str (S (xs.getD i [])) t)]) K (some eD) := ⟨(N1 _ (mid e2)).1, rfl, rfl, (N1 _ (mid e3)).1⟩
    refine lt_inst (s := { s with heap := h, toks := tk }) (by show un + 1 + 1 < cLine; lia) (k.In fun q hq => (N1 q (by simp [hsub q hq])).1) I k.flt k.ltFn ?_
    refine t_lt w (extra ++ (own ++ news)) tl K cA x y dx dy (xs.getD i []) (xs.getD j []) t u (hw _ (hm i (by lia))) (hw _ (hm j (by lia))) dp (un + 1 + 1) gd cn cs a ccd cl outer A₀ base h₀ L m { s with heap := h, toks := tk } _ _ p loose mean mg mb B F1 X N1 T hk (by lia) (by lia) kk (fun q hq => by simp [hsub q hq]) (mid e2) (mid e3) (mid g2) (mid g3) kf md fi fl ci cl' k dL vL hfl crl oA hcA hoA ?_
    intro h' tk' F2 N2
    refine ⟨_, rfl, ?_⟩
    have e := rank_lt ordL xs (b := xs.getD i []) (c := xs.getD j []) (hm i (by lia))
    have e' : decide (cmpL (xs.getD i []) (xs.getD j []) < 0) = ask (fun i => rank ordL xs (xs.getD i [])) i j := (cmpL_neg _ _).trans e.symm
    rw [e']
    exact hC h' tk' F2 N2
  · intro D h' tk c q F1 N1 lt hp ha
    rw [hl] at hp ha
    have hlt : ∀ i ∈ q.toList, i < xs.length := fun i hi => by
      have := (Array.perm_iff_toList_perm.mp hp).mem_iff.mp hi
      simpa using this
    refine hret D (q.toList.map fun i => vs.getD i Value.none) c h' tk F1 N1 lt ?_
    have := are_out hA q.toList hlt
    have e : q.toList.map (fun i => xs.getD i []) = sortL xs := out_sorted ordL hp ha
    rw [e] at this
    exact this
end
theorem off_G5 : True := by
  w_top off
  trivial
section
theorem tups_of {h : Heap} {P : Value → Prop} : ∀ (ks : List Value), (∀ v ∈ ks, ∃ a o xs n f, v = Value.ref a ∧ h.get? a = some o ∧ o.cls = .type "tuple" ∧ o.data = .seq xs n ∧ xs[0]? = some f ∧ P f) → ∃ fs, KatTups h ks fs ∧ fs.length = ks.length ∧ ∀ f ∈ fs, P f
  | [], _ => ⟨[], trivial, rfl, fun _ h => nomatch h⟩
  | v :: ks, hv => by
    obtain ⟨a, o, xs, n, f, rfl, h1, h2, h3, h4, h5⟩ := hv v (.head _)
    obtain ⟨fs, t, l, q⟩ := tups_of ks fun v hm => hv v (.tail _ hm)
    refine ⟨f :: fs, KatTups.cons h1 h2 h3 h4 t, by simp [l], fun g hg => ?_⟩
    rcases List.mem_cons.mp hg with rfl | hg
    · exact h5
    · exact q g hg
/-- a key of the law's own: the word's length and the word -/
abbrev tupK (y : List Nat) (t1 t2 : Tok) (e : Nat) : Obj := { cls := .type "tuple", data := .seq #[.int (y.length : Int) t1, .str (S y) t2] e }
def WTup (xs : List (List Nat)) (ks : List Value) (own : List (Addr × Obj)) : Prop :=
  ∀ i, i < ks.length → ∃ D t1 t2 e, ks.getD i .none = .ref D ∧ (D, tupK (xs.getD i []) t1 t2 e) ∈ own
theorem ltL_dec (x y : List Nat) : ltL x y = if (x.length : Int) = y.length then decide ((S x).cps.toList < (S y).cps.toList) else decide ((x.length : Int) < y.length) := by
  rw [Bool.eq_iff_iff, ltL_iff]
  split
  · rename_i h
    show _ ↔ decide (x < y) = true
    rw [← ltW_eq]
    constructor
    · rintro (q | q)
      · lia
      · exact q.2
    · exact fun q => .inr ⟨by lia, q⟩
  · rename_i h
    rw [decide_eq_true_iff]
    constructor
    · rintro (q | q)
      · lia
      · lia
    · exact fun q => .inl (by lia)
theorem t_sortLam {w : World} {A : Around} {E : Value → Shared → Prop} {s : Shared} {h₀ : Heap} {L : Addr} {m : Str → Option Value} {news : List (Addr × Obj)} {f al : Addr} {vs : List Value} {n : Nat} {xs : List (List Nat)} {Q : Value → Shared → Prop}
    (F : Fr h₀ L s.heap m) (N : News h₀ L s.heap news) (hal : (al, listOf (List.toArray vs) n) ∈ news) (hA : Are vs xs) (hw : ∀ y ∈ xs, y.length ≤ 1000) (h2 : 2 ≤ xs.length) (h64 : xs.length < 64)
    (call1 : ∀ (y : List Nat) (t : Tok) (extra : List (Addr × Obj)) (h : Heap) (tk : Nat), y.length ≤ 1000 → Fr h₀ L h m → News h₀ L h (extra ++ news) →
      wpAny (model P0 w) A.in1.in1 (call (.ref f) [.str (S y) t]) (fun k s' => ∃ h' tk' D t1 e, s' = { s with heap := h', toks := tk' } ∧ k = .ref D ∧ Fr h₀ L h' m ∧ News h₀ L h' ((D, tupK y t1 t e) :: (extra ++ news)) ∧ (∀ q ∈ extra ++ news, q.1 ≠ D)) (fun _ _ => False) { s with heap := h, toks := tk })
    (hret : ∀ D zs c h' tk', Fr h₀ L h' m → News h₀ L h' ((D, listOf (List.toArray zs) c) :: news) → (∀ q ∈ news, q.1 < D) → Are zs (sortL xs) → Q (.ref D) { s with heap := h', toks := tk' }) :
    wpAny (model P0 w) A (call (.builtin "sorted") [.ref al] [(Str.ofString "key", .ref f)]) Q E s := by
  have hl : vs.length = xs.length := hA.len
  have wd : ∀ i, i < xs.length → ∃ t, vs[i]? = some (.str (S (xs.getD i [])) t) := fun i hi => by
    obtain ⟨t, ht⟩ := are_at hA hi
    exact ⟨t, by rw [ht]; simp [hi]⟩
  have hm : ∀ i, i < xs.length → xs.getD i [] ∈ xs := fun i hi => by
    rw [List.getD_eq_getElem?_getD, List.getElem?_eq_getElem hi]; exact List.getElem_mem hi
  refine sortedK (W := WTup xs) (κ := tuples' (Value.type "int" != Value.type "tuple")) (r := fun i => rank ordL xs (xs.getD i [])) F N ⟨_, N.get hal, rfl, _, rfl⟩ (by lia) (by lia) (fun i h => absurd h (by simp)) ?_ ?_ ?_ ?_
  · intro i v ks own extra h tk hv hi hW F1 N1
    have hi' : i < xs.length := by rw [← hl]; exact (List.getElem?_eq_some_iff.mp hv).1
    obtain ⟨t, ht⟩ := wd i hi'
    rw [ht] at hv
    obtain rfl := Option.some.inj hv
    refine wpAny_mono (call1 (xs.getD i []) t (extra ++ own) h tk (hw _ (hm i hi')) F1 (by simpa using N1)) (fun k s' hq => ?_) fun _ _ e => e
    obtain ⟨h', tk', D, t1, e, rfl, rfl, F2, N2, off⟩ := hq
    refine ⟨h', tk', [(D, tupK (xs.getD i []) t1 t e)], rfl, F2, by simpa using N2, ?_, ?_⟩
    · intro q hq z hz
      rw [List.mem_singleton.mp hz]
      exact off q (by simpa using hq)
    · intro j hj
      by_cases e : j = i
      · subst e
        refine ⟨D, t1, t, _, ?_, List.mem_append_left _ (.head _)⟩
        rw [List.getD_eq_getElem?_getD, List.getElem?_append_right (by lia)]
        simp [hi]
      · have hj' : j < ks.length := by simp at hj; lia
        obtain ⟨D', u1, u2, e', e1, e2⟩ := hW j hj'
        refine ⟨D', u1, u2, e', ?_, List.mem_append_right _ e2⟩
        rw [List.getD_eq_getElem?_getD, List.getElem?_append_left hj', ← List.getD_eq_getElem?_getD]
        exact e1
  · intro ks own extra h tk Q' E' hW hks F1 N1 hq
    have mid : ∀ {q}, q ∈ own → q ∈ extra ++ (own ++ news) := fun h => by simp [h]
    obtain ⟨fs, k1, k2, k3⟩ := tups_of (h := h) (P := fun f => ∃ z t, f = Value.int z t) ks (fun v hv => by
      obtain ⟨i, hi, rfl⟩ := List.mem_iff_getElem.mp hv
      obtain ⟨D, t1, t2, e, e1, e2⟩ := hW i hi
      refine ⟨D, _, _, _, _, ?_, (N1 _ (mid e2)).1, rfl, rfl, rfl, _, _, rfl⟩
      rw [← e1]; simp [hi])
    refine kat_kind (T := .type "int") k1 (by lia) ?_ (by simp) hq
    intro v hv
    obtain ⟨z, t, rfl⟩ := k3 v hv
    exact Looks.of_pure rfl
  · intro ks own extra i j h tk C hW hks hi hj F1 N1 hC
    have mid : ∀ {q}, q ∈ own → q ∈ extra ++ (own ++ news) := fun h => by simp [h]
    obtain ⟨D, t1, t2, e, e1, e2⟩ := hW i (by lia)
    obtain ⟨D', u1, u2, e', g1, g2⟩ := hW j (by lia)
    rw [e1, g1]
    have fin : ∀ b : Bool, b = ltL (xs.getD i []) (xs.getD j []) → C b { s with heap := h, toks := tk } := fun b hb => by
      have e := rank_lt ordL xs (b := xs.getD i []) (c := xs.getD j []) (hm i (by lia))
      have e' : b = ask (fun i => rank ordL xs (xs.getD i [])) i j := hb.trans e.symm
      rw [e']
      exact hC h tk F1 N1
    refine kat_lt (s := { s with heap := h, toks := tk }) (N1 _ (mid e2)).1 rfl (N1 _ (mid g2)).1 rfl ?_
    show KatLex _ _ _ _ _ _ [(_, _), (_, _)] 0 _
    refine kat_cons (wpAny_eqBool_int (kat_go (fun q => kat_yes (kat_cons (wpAny_eqBool_str (kat_go (fun q2 => kat_yes (kat_nil (fin _ ?_))) (fun q2 => kat_no ?_))))) (fun q => kat_no ?_)))
    · have q' : ((xs.getD i []).length : Int) = (xs.getD j []).length := by simpa using q
      rw [ltL_dec, if_pos q']
      have q3 : S (xs.getD i []) = S (xs.getD j []) := by simpa using q2
      rw [q3]
      have := ltW_eq (xs.getD j []) (xs.getD j [])
      show decide (2 < 2) = decide (xs.getD j [] < xs.getD j [])
      rw [← this, show ltW (xs.getD j []) (xs.getD j []) = false from ordW.irrefl _]
      rfl
    · have q' : ((xs.getD i []).length : Int) = (xs.getD j []).length := by simpa using q
      refine kat_one _ _ (lt_str ?_)
      refine fin _ ?_
      rw [ltL_dec, if_pos q']
    · have q' : ¬ ((xs.getD i []).length : Int) = (xs.getD j []).length := by simpa using q
      refine oneLt_int (fin _ ?_)
      rw [ltL_dec, if_neg q']
  · intro D h' tk c q F1 N1 lt hp ha
    rw [hl] at hp ha
    have hlt : ∀ i ∈ q.toList, i < xs.length := fun i hi => by
      have := (Array.perm_iff_toList_perm.mp hp).mem_iff.mp hi
      simpa using this
    refine hret D (q.toList.map fun i => vs.getD i Value.none) c h' tk F1 N1 lt ?_
    have := are_out hA q.toList hlt
    have e : q.toList.map (fun i => xs.getD i []) = sortL xs := out_sorted ordL hp ha
    rw [e] at this
    exact this
end
theorem off_P1 : True := by
  w_top off
  trivial
section
/-- a word over the pattern's marks (34: a quote, else a letter's place), its letters in their row -/
def enc : List Nat → List Nat → List Nat
  | _, [] => []
  | l, c :: w => if c = 34 then 34 :: enc l w else match l with
    | [] => []
    | a :: l => a :: enc l w
abbrev ones (i : Nat) : List Nat := List.replicate i 35
theorem enc_q (l w : List Nat) : enc l (34 :: w) = 34 :: enc l w := by
  show (if (34 : Nat) = 34 then 34 :: enc l w else _) = _
  rw [if_pos rfl]
theorem enc_c (a : Nat) (l w : List Nat) : enc (a :: l) (35 :: w) = a :: enc l w := by
  show (if (35 : Nat) = 34 then _ else _) = _
  rw [if_neg (by decide)]
theorem enc_n (l : List Nat) : enc l [] = [] := by cases l <;> rfl
theorem enc_ones : ∀ (i : Nat) (l : List Nat), i ≤ l.length → enc l (ones i) = l.take i
  | 0, l, _ => by rw [List.take_zero]; exact enc_n l
  | i + 1, [], h => absurd h (by simp)
  | i + 1, a :: l, h => by
    rw [ones, List.replicate_succ, enc_c, List.take_succ_cons, enc_ones i l (by simpa using h)]
theorem enc_quotes (l : List Nat) : ∀ q, enc l (List.replicate q 34) = List.replicate q 34
  | 0 => enc_n l
  | q + 1 => by rw [List.replicate_succ, enc_q, enc_quotes l q]
theorem orders_enc : ∀ (i q : Nat) (l : List Nat), i ≤ l.length → orders (l.take i) q = (orders (ones i) q).map (enc l)
  | i, 0, l, h => by
    rw [orders, orders, List.map_cons, List.map_nil, enc_ones i l h]
  | 0, q + 1, l, h => by
    rw [List.take_zero, ones, List.replicate_zero, orders, List.map_cons, List.map_nil, enc_quotes]
  | i + 1, q + 1, [], h => absurd h (by simp)
  | i + 1, q + 1, a :: l, h => by
    have h' : i ≤ l.length := by simpa using h
    have h1 := orders_enc (i + 1) q (a :: l) h
    have h2 := orders_enc i (q + 1) l h'
    rw [List.take_succ_cons] at h1 ⊢
    rw [ones, List.replicate_succ] at h1 ⊢
    rw [orders, orders, h1, h2, List.map_append, List.map_map, List.map_map, List.map_map, List.map_map]
    exact congr (congrArg (· ++ ·) (List.map_congr_left fun w _ => (enc_q _ _).symm)) (List.map_congr_left fun w _ => (enc_c _ _ _).symm)
termination_by i q => i + q
/-- quotes and n letters at most -/
def okW : Nat → List Nat → Bool
  | _, [] => true
  | n, c :: w => if c = 34 then okW n w else Nat.beq c 35 && match n with
    | 0 => false
    | n + 1 => okW n w
theorem okW_q (n : Nat) (w : List Nat) : okW n (34 :: w) = okW n w := by
  show (if (34 : Nat) = 34 then _ else _) = _
  rw [if_pos rfl]
theorem okW_c {n c : Nat} {w : List Nat} (h : c ≠ 34) (k : okW n (c :: w) = true) : c = 35 ∧ ∃ n', n = n' + 1 ∧ okW n' w = true := by
  unfold okW at k
  rw [if_neg h, Bool.and_eq_true] at k
  refine ⟨Nat.eq_of_beq_eq_true k.1, ?_⟩
  cases n with
  | zero => exact absurd k.2 Bool.false_ne_true
  | succ n => exact ⟨n, rfl, k.2⟩
theorem ltW_cons (a b : Nat) (as bs : List Nat) : ltW (a :: as) (b :: bs) = if a < b then true else if a = b then ltW as bs else false := by
  rw [Bool.eq_iff_iff, ltW_iff, List.cons_lt_cons_iff]
  split
  · rename_i h; simp [h]
  · split
    · rename_i h1 h2; subst h2; simp [ltW_iff]
    · rename_i h1 h2; simp [h1, h2]
theorem ltW_app (h x y : List Nat) : ltW (h ++ x) (h ++ y) = ltW x y := by
  induction h with
  | nil => rfl
  | cons c h ih => rw [List.cons_append, List.cons_append, ltW_cons, if_neg (Nat.lt_irrefl c), if_pos rfl, ih]
theorem enc_lt : ∀ (w1 w2 l : List Nat), (∀ c ∈ l, 34 < c) → okW l.length w1 = true → okW l.length w2 = true → ltW (enc l w1) (enc l w2) = ltW w1 w2
  | w1, [], l, _, _, _ => by rw [enc_n]; cases enc l w1 <;> cases w1 <;> rfl
  | [], c :: w2, l, hl, _, h2 => by
    rw [enc_n]
    by_cases e : c = 34
    · subst e; rw [enc_q]; rfl
    · obtain ⟨rfl, n, hn, h2⟩ := okW_c e h2
      cases l with
      | nil => cases hn
      | cons a l => rw [enc_c]; rfl
  | c :: w1, d :: w2, l, hl, h1, h2 => by
    by_cases e1 : c = 34 <;> by_cases e2 : d = 34
    · subst e1 e2
      rw [okW_q] at h1 h2
      rw [enc_q, enc_q, ltW_cons, ltW_cons, enc_lt w1 w2 l hl h1 h2]
    · subst e1
      obtain ⟨rfl, n, hn, h2⟩ := okW_c e2 h2
      cases l with
      | nil => cases hn
      | cons a l =>
        rw [enc_q, enc_c, ltW_cons, ltW_cons, if_pos (hl a (.head _)), if_pos (by decide)]
    · subst e2
      obtain ⟨rfl, n, hn, h1⟩ := okW_c e1 h1
      cases l with
      | nil => cases hn
      | cons a l =>
        have := hl a (.head _)
        rw [enc_q, enc_c, ltW_cons, ltW_cons, if_neg (by lia), if_neg (by lia), if_neg (by decide), if_neg (by decide)]
    · obtain ⟨rfl, n, hn, h1⟩ := okW_c e1 h1
      obtain ⟨rfl, n', hn', h2⟩ := okW_c e2 h2
      cases l with
      | nil => cases hn
      | cons a l =>
        have e : l.length = n := by simpa using hn
        have e' : l.length = n' := by simpa using hn'
        subst e
        obtain rfl : l.length = n' := e'
        rw [enc_c, enc_c, ltW_cons, ltW_cons, if_neg (Nat.lt_irrefl _), if_pos rfl, if_neg (by decide), if_pos rfl, enc_lt w1 w2 l (fun c hc => hl c (.tail _ hc)) h1 h2]
theorem parse_enc : ∀ (n : Nat) (w l : List Nat), w.length ≤ n → (∀ c ∈ l, 34 < c) → okW l.length w = true → parseT (enc l w) = enc l (parseT w)
  | _, [], l, _, _, _ => by rw [enc_n]; show parseT [] = _; rw [parseT, enc_n]
  | 0, c :: w, l, h, _, _ => absurd h (by simp)
  | n + 1, c :: w, l, h, hl, ok => by
    by_cases e : c = 34
    · subst e
      cases w with
      | nil => rw [enc_q, enc_n, parseT_end, enc_n]
      | cons d w =>
        rw [okW_q] at ok
        by_cases e2 : d = 34
        · subst e2
          rw [okW_q] at ok
          rw [enc_q, enc_q, parseT_quote, parseT_quote, enc_q, parse_enc n w l (by simp only [List.length_cons] at h; lia) hl ok]
        · rw [parseT_end2 e2, enc_n]
          obtain ⟨rfl, m, hm, ok⟩ := okW_c e2 ok
          cases l with
          | nil => cases hm
          | cons a l =>
            have := hl a (.head _)
            rw [enc_q, enc_c, parseT_end2 (by lia)]
    · obtain ⟨rfl, m, hm, ok⟩ := okW_c e ok
      cases l with
      | nil => cases hm
      | cons a l =>
        have hm' : l.length = m := by simpa using hm
        subst hm'
        have := hl a (.head _)
        rw [enc_c, parseT_sign (by lia), parseT_sign (by decide), enc_c, parse_enc n w l (by simp only [List.length_cons] at h; lia) (fun c hc => hl c (.tail _ hc)) ok]
section
variable {g : List Nat → List Nat} {P : List Nat → Prop}
abbrev Mono (g : List Nat → List Nat) (P : List Nat → Prop) : Prop := ∀ x y, P x → P y → ltW (g x) (g y) = ltW x y
theorem Mono.beq (M : Mono g P) {x y : List Nat} (hx : P x) (hy : P y) : (g x == g y) = (x == y) := by
  rw [Bool.eq_iff_iff, beq_iff_eq, beq_iff_eq]
  refine ⟨fun e => ?_, fun e => by rw [e]⟩
  have h1 := M x y hx hy
  have h2 := M y x hy hx
  rw [e] at h1 h2
  have i : ltW (g y) (g y) = false := ordW.irrefl _
  rw [i] at h1 h2
  exact ordW.total x y h1.symm h2.symm
theorem insB_map (M : Mono g P) {x : List Nat} (hx : P x) : ∀ (l : List (List Nat)), (∀ y ∈ l, P y) → insB ltW (g x) (l.map g) = (insB ltW x l).map g
  | [], _ => rfl
  | y :: r, h => by
    rw [List.map_cons, insB, insB, M y x (h y (.head _)) hx, insB_map M hx r fun z hz => h z (.tail _ hz)]
    split <;> rfl
theorem sort_map (M : Mono g P) : ∀ (l : List (List Nat)), (∀ y ∈ l, P y) → sortW (l.map g) = (sortW l).map g
  | [], _ => rfl
  | x :: r, h => by
    show insB ltW (g x) (sortW (r.map g)) = (insB ltW x (sortW r)).map g
    rw [sort_map M r fun z hz => h z (.tail _ hz)]
    exact insB_map M (h x (.head _)) _ fun z hz => h z (.tail _ ((isort_perm ltW r).mem_iff.mp hz))
theorem drop_map (M : Mono g P) {x : List Nat} (hx : P x) : ∀ (l : List (List Nat)), (∀ y ∈ l, P y) → (l.map g).dropWhile (· == g x) = (l.dropWhile (· == x)).map g
  | [], _ => rfl
  | y :: r, h => by
    rw [List.map_cons, List.dropWhile_cons, List.dropWhile_cons, M.beq (h y (.head _)) hx, drop_map M hx r fun z hz => h z (.tail _ hz)]
    split <;> rfl
theorem mem_drop {p : List Nat → Bool} {z : List Nat} {l : List (List Nat)} (h : z ∈ l.dropWhile p) : z ∈ l := (List.dropWhile_sublist p).subset h
theorem sldP_map (M : Mono g P) : ∀ (n : Nat) (es as : List (List Nat)), (∀ y ∈ es, P y) → (∀ y ∈ as, P y) → sldP n (es.map g) (as.map g) = ((sldP n es as).1.map g, (sldP n es as).2.map g)
  | 0, _, _, _, _ => rfl
  | _ + 1, [], _, _, _ => rfl
  | _ + 1, _ :: _, [], _, _ => rfl
  | n + 1, e :: es, a :: as, he, ha => by
    have pe := he e (.head _)
    have pa := ha a (.head _)
    have he' : ∀ y ∈ es, P y := fun y hy => he y (.tail _ hy)
    have ha' : ∀ y ∈ as, P y := fun y hy => ha y (.tail _ hy)
    have de : ∀ y ∈ es.dropWhile (· == e), P y := fun y hy => he' y (mem_drop hy)
    have da : ∀ y ∈ as.dropWhile (· == a), P y := fun y hy => ha' y (mem_drop hy)
    rw [List.map_cons, List.map_cons, sldP, sldP, M e a pe pa, M a e pa pe, drop_map M pe es he', drop_map M pa as ha']
    split
    · have := sldP_map M n (es.dropWhile (· == e)) (a :: as) de ha
      rw [List.map_cons] at this
      rw [this]; rfl
    · split
      · have := sldP_map M n (e :: es) (as.dropWhile (· == a)) he da
        rw [List.map_cons] at this
        rw [this]; rfl
      · rw [sldP_map M n _ _ de da]
end
/-- orders, by a measure of its own: for the kernel -/
def ordF : Nat → List Nat → Nat → List (List Nat)
  | 0, l, _ => [l]
  | f + 1, l, q => match q with
    | 0 => [l]
    | q + 1 => match l with
      | [] => [List.replicate (q + 1) 34]
      | c :: l => (ordF f (c :: l) q).map (34 :: ·) ++ (ordF f l (q + 1)).map (c :: ·)
theorem ordF_eq : ∀ (f : Nat) (l : List Nat) (q : Nat), l.length + q ≤ f → orders l q = ordF f l q
  | 0, l, q, h => by
    obtain rfl : q = 0 := by lia
    rw [orders, ordF]
  | f + 1, l, 0, h => by rw [orders]; rfl
  | f + 1, [], q + 1, h => by rw [orders]; rfl
  | f + 1, c :: l, q + 1, h => by
    simp only [List.length_cons] at h
    rw [orders, ordF_eq f (c :: l) q (by simp only [List.length_cons]; lia), ordF_eq f l (q + 1) (by lia)]
    rfl
def bagF (i k : Nat) : List (List Nat) := (List.range i).foldl (fun b j => (List.range ((k + 1) / 2)).foldl (fun b q => b ++ rep (ordF 7 (ones j) q) (choose (i - j - 1 + k - 2 * q - 1) (i - j - 1))) b) (ordF 7 (ones i) (k / 2))
def chgF (i k : Nat) : List (List Nat) := if k % 2 = 0 then (List.range i).foldl (fun c j => c ++ ordF 7 (ones j) (k / 2)) [] else ordF 7 (ones i) (k / 2 + 1)
def goneF (i k : Nat) : List (List Nat) := if k % 2 = 0 then [] else ordF 7 (ones i) (k / 2)
def toldF (i k : Nat) : List (List Nat) := (ordF 7 (ones i) k).map parseT
theorem rep_map {g : List Nat → List Nat} (xs : List (List Nat)) : ∀ n, (rep xs n).map g = rep (xs.map g) n
  | 0 => rfl
  | n + 1 => by rw [rep_succ, rep_succ, List.map_append, rep_map xs n]
theorem foldl_map' {α : Type} {g : List Nat → List Nat} (f f' : List (List Nat) → α → List (List Nat)) : ∀ (is : List α) (b : List (List Nat)), (∀ j ∈ is, ∀ b, f' (b.map g) j = (f b j).map g) → is.foldl f' (b.map g) = (is.foldl f b).map g
  | [], _, _ => rfl
  | j :: is, b, h => by
    rw [List.foldl_cons, List.foldl_cons, h j (.head _), foldl_map' f f' is _ fun j hj => h j (.tail _ hj)]
variable {l : List Nat}
theorem orders_F {i q : Nat} (h : i ≤ l.length) (h2 : i + q ≤ 7) : orders (l.take i) q = (ordF 7 (ones i) q).map (enc l) := by
  rw [orders_enc i q l h, ordF_eq 7 (ones i) q (by simpa using h2)]
theorem orders_F' {q : Nat} (h2 : l.length + q ≤ 7) : orders l q = (ordF 7 (ones l.length) q).map (enc l) := by
  have := orders_F (l := l) (i := l.length) (q := q) (Nat.le_refl _) h2
  rwa [List.take_length] at this
theorem bag_F {k : Nat} (hl : l.length ≤ 3) (hk : k ≤ 4) : bagW l k = (bagF l.length k).map (enc l) := by
  unfold bagW bagF
  rw [orders_F' (by lia)]
  refine foldl_map' _ _ _ _ fun j hj b => ?_
  rw [List.mem_range] at hj
  refine foldl_map' _ _ _ _ fun q hq b => ?_
  rw [List.mem_range] at hq
  rw [bagQ, orders_F (by lia) (by lia), List.map_append, rep_map]
theorem chg_F {k : Nat} (hl : l.length ≤ 3) (hk : k ≤ 4) : changeC l k = (chgF l.length k).map (enc l) := by
  unfold changeC chgF
  split
  · refine foldl_map' _ _ _ [] fun j hj b => ?_
    rw [List.mem_range] at hj
    rw [orders_F (by lia) (by lia), List.map_append]
  · rw [orders_F' (by lia)]
theorem gone_F {k : Nat} (hl : l.length ≤ 3) (hk : k ≤ 4) : changeG l k = (goneF l.length k).map (enc l) := by
  unfold changeG goneF
  split
  · rfl
  · rw [orders_F' (by lia)]
abbrev okAll (i : Nat) (xs : List (List Nat)) : Bool := xs.all (okW i)
theorem ok_of {i : Nat} {xs : List (List Nat)} (h : okAll i xs = true) : ∀ y ∈ xs, okW i y = true := fun y hy => List.all_eq_true.mp h y hy
theorem ok_orders : ∀ i k, (i = 2 ∨ i = 3) → (k = 2 ∨ k = 3 ∨ k = 4) → okAll i (ordF 7 (ones i) k) = true := by
  rintro i k (rfl | rfl) (rfl | rfl | rfl) <;> decide +kernel
theorem ok_told : ∀ i k, (i = 2 ∨ i = 3) → (k = 2 ∨ k = 3 ∨ k = 4) → okAll i (toldF i k) = true := by
  rintro i k (rfl | rfl) (rfl | rfl | rfl) <;> decide +kernel
theorem told_F {h : List Nat} {k : Nat} (hl : l.length = 2 ∨ l.length = 3) (hk : k = 2 ∨ k = 3 ∨ k = 4) (hs : ∀ c ∈ l, 34 < c) : told h l k = (toldF l.length k).map (fun w => h ++ enc l w) := by
  unfold told toldF
  rw [orders_F' (by lia), List.map_map, List.map_map]
  refine List.map_congr_left fun w hw => ?_
  show h ++ parseT (enc l w) = h ++ enc l (parseT w)
  rw [parse_enc w.length w l (Nat.le_refl _) hs (ok_of (ok_orders _ _ hl hk) w hw)]
theorem perm_F : ∀ i k, (i = 2 ∨ i = 3) → (k = 2 ∨ k = 3 ∨ k = 4) → (toldF i k).isPerm (bagF i k) = true := by
  rintro i k (rfl | rfl) (rfl | rfl | rfl) <;> decide +kernel
theorem sld_F : ∀ i k, (i = 2 ∨ i = 3) → (k = 2 ∨ k = 3) → sld (sortW (toldF i k)) (sortW (toldF i (k + 1))) = (sortW (goneF i k), sortW (chgF i k)) := by
  rintro i k (rfl | rfl) (rfl | rfl) <;> decide +kernel
theorem ok_chg : ∀ i k, (i = 2 ∨ i = 3) → (k = 2 ∨ k = 3) → okAll i (goneF i k) = true ∧ okAll i (chgF i k) = true := by
  rintro i k (rfl | rfl) (rfl | rfl) <;> decide +kernel
theorem size_told : ∀ i k, (i = 2 ∨ i = 3) → (k = 2 ∨ k = 3 ∨ k = 4) → 2 ≤ (toldF i k).length ∧ (toldF i k).length ≤ 35 := by
  rintro i k (rfl | rfl) (rfl | rfl | rfl) <;> decide +kernel
theorem size_chg : ∀ i k, (i = 2 ∨ i = 3) → (k = 2 ∨ k = 3) → (goneF i k).length < 64 ∧ (chgF i k).length < 64 := by
  rintro i k (rfl | rfl) (rfl | rfl) <;> decide +kernel
section
variable {h : List Nat} {k : Nat}
/-- both ways of reckoning tell the same words -/
theorem law_perm (hl : l.length = 2 ∨ l.length = 3) (hk : k = 2 ∨ k = 3 ∨ k = 4) (hs : ∀ c ∈ l, 34 < c) : (told h l k).Perm (bag h l k) := by
  rw [told_F hl hk hs, bag, bag_F (by lia) (by lia), List.map_map]
  exact (List.isPerm_iff.mp (perm_F _ _ hl hk)).map _
theorem mono_enc (hs : ∀ c ∈ l, 34 < c) : Mono (fun w => h ++ enc l w) (fun w => okW l.length w = true) := fun x y hx hy => by
  show ltW (h ++ enc l x) (h ++ enc l y) = _
  rw [ltW_app, enc_lt x y l hs hx hy]
theorem law_sld (hl : l.length = 2 ∨ l.length = 3) (hk : k = 2 ∨ k = 3) (hs : ∀ c ∈ l, 34 < c) :
    sld (sortW (told h l k)) (sortW (told h l (k + 1))) = (sortW ((changeG l k).map (h ++ ·)), sortW ((changeC l k).map (h ++ ·))) := by
  have M := mono_enc (h := h) hs
  have o1 := ok_of (ok_told _ k hl (by lia))
  have o2 := ok_of (ok_told _ (k + 1) hl (by lia))
  have o3 := ok_of (ok_chg _ k hl hk).1
  have o4 := ok_of (ok_chg _ k hl hk).2
  have e := sld_F _ k hl hk
  have s1 : ∀ y ∈ sortW (toldF l.length k), okW l.length y = true := fun y hy => o1 y ((isort_perm ltW _).mem_iff.mp hy)
  have s2 : ∀ y ∈ sortW (toldF l.length (k + 1)), okW l.length y = true := fun y hy => o2 y ((isort_perm ltW _).mem_iff.mp hy)
  rw [told_F hl (by lia) hs, told_F hl (by lia) hs, chg_F (by lia) (by lia), gone_F (by lia) (by lia), List.map_map, List.map_map]
  show _ = (sortW ((goneF l.length k).map fun w => h ++ enc l w), sortW ((chgF l.length k).map fun w => h ++ enc l w))
  rw [sort_map M _ o1, sort_map M _ o2, sort_map M _ o3, sort_map M _ o4]
  unfold sld at *
  rw [List.length_map, List.length_map, sldP_map M _ _ _ s1 s2, e]
theorem law_size (hl : l.length = 2 ∨ l.length = 3) (hk : k = 2 ∨ k = 3 ∨ k = 4) (hs : ∀ c ∈ l, 34 < c) : 2 ≤ (told h l k).length ∧ (told h l k).length ≤ 35 := by
  rw [told_F hl hk hs, List.length_map]
  exact size_told _ _ hl hk
theorem law_chg (hl : l.length = 2 ∨ l.length = 3) (hk : k = 2 ∨ k = 3) : (changeG l k).length < 64 ∧ (changeC l k).length < 64 := by
  rw [chg_F (by lia) (by lia), gone_F (by lia) (by lia), List.length_map, List.length_map]
  exact size_chg _ _ hl hk
end
theorem sortL_perm {a b : List (List Nat)} (h : a.Perm b) : sortL a = sortL b :=
  isort_unique ordL ((isort_perm ltL a).trans h) (isort_sorted ordL a)
theorem sortW_perm {a b : List (List Nat)} (h : a.Perm b) : sortW a = sortW b :=
  isort_unique ordW ((isort_perm ltW a).trans h) (isort_sorted ordW a)
theorem strike : ∀ (ys rest b : List (List Nat)), (ys ++ rest).Perm b → (ys.foldl List.erase b).Perm rest ∧ ∀ i, i < ys.length → ys.getD i [] ∈ (ys.take i).foldl List.erase b
  | [], rest, b, h => ⟨h.symm, fun i hi => absurd hi (by simp)⟩
  | y :: ys, rest, b, h => by
    have hy : y ∈ b := h.mem_iff.mp (.head _)
    have h' : (ys ++ rest).Perm (b.erase y) := (h.trans (List.perm_cons_erase hy)).cons_inv
    obtain ⟨h1, h2⟩ := strike ys rest (b.erase y) h'
    refine ⟨h1, fun i hi => ?_⟩
    cases i with
    | zero => exact hy
    | succ i => exact h2 i (by simpa using hi)
theorem uld_count (y : List Nat) : ∀ (zs : List (List Nat)) (st : List (List Nat) × List (List Nat)),
    (zs.foldl uldStep st).1.count y = st.1.count y + (zs.count y - st.2.count y) ∧ (zs.foldl uldStep st).2.count y = st.2.count y - zs.count y
  | [], st => by simp
  | z :: zs, (M, A) => by
    rw [List.foldl_cons]
    by_cases hz : z ∈ A
    · rw [show uldStep (M, A) z = (M, A.erase z) from if_pos hz]
      obtain ⟨h1, h2⟩ := uld_count y zs (M, A.erase z)
      rw [h1, h2]
      dsimp only
      by_cases e : z = y
      · subst e
        have : 0 < A.count z := List.count_pos_iff.mpr hz
        rw [List.count_erase_self, List.count_cons_self]
        lia
      · rw [List.count_erase_of_ne (Ne.symm e), List.count_cons_of_ne e]
        lia
    · rw [show uldStep (M, A) z = (M ++ [z], A) from if_neg hz]
      obtain ⟨h1, h2⟩ := uld_count y zs (M ++ [z], A)
      rw [h1, h2]
      dsimp only
      rw [List.count_append]
      by_cases e : z = y
      · subst e
        have : A.count z = 0 := List.count_eq_zero.mpr hz
        rw [List.count_cons_self, List.count_nil, List.count_cons_self]
        lia
      · rw [List.count_cons_of_ne e, List.count_nil, List.count_cons_of_ne e]
        lia
def exN (row yours : List (List Nat)) (n : Nat) : List (List Nat) :=
  ((List.range n).filter fun k => decide (yours.count (row.getD k []) < (row.take (k + 1)).count (row.getD k []))).map fun k => row.getD k []
theorem exN_succ (row yours : List (List Nat)) (n : Nat) : exN row yours (n + 1) = exN row yours n ++ if yours.count (row.getD n []) < (row.take (n + 1)).count (row.getD n []) then [row.getD n []] else [] := by
  unfold exN
  rw [List.range_succ, List.filter_append, List.map_append]
  congr 1
  rw [List.filter_cons, List.filter_nil]
  by_cases q : yours.count (row.getD n []) < (row.take (n + 1)).count (row.getD n [])
  · rw [if_pos q, if_pos (decide_eq_true q)]; rfl
  · rw [if_neg q, if_neg (fun z => q (of_decide_eq_true z))]; rfl
theorem take_snoc {row : List (List Nat)} {n : Nat} (h : n < row.length) : row.take (n + 1) = row.take n ++ [row.getD n []] := by
  rw [List.take_add_one, List.getElem?_eq_getElem h]
  simp [h]
theorem exN_count (y : List Nat) (row yours : List (List Nat)) : ∀ n, n ≤ row.length → (exN row yours n).count y = (row.take n).count y - yours.count y ∧ (exN row yours n).Sublist (row.take n)
  | 0, _ => ⟨by simp [exN], by simp [exN]⟩
  | n + 1, h => by
    obtain ⟨h1, h2⟩ := exN_count y row yours n (by lia)
    rw [exN_succ, take_snoc (by lia)]
    generalize row.getD n [] = z at *
    have hc : (row.take n ++ [z]).count z = (row.take n).count z + 1 := by rw [List.count_append, List.count_cons_self, List.count_nil]
    rw [hc]
    refine ⟨?_, ?_⟩
    · rw [List.count_append, List.count_append, h1]
      split
      · rename_i q
        by_cases e : z = y
        · subst e; rw [List.count_cons_self, List.count_nil]; lia
        · rw [List.count_cons_of_ne e, List.count_nil]; lia
      · rename_i q
        by_cases e : z = y
        · subst e; rw [List.count_cons_self, List.count_nil]; lia
        · rw [List.count_cons_of_ne e, List.count_nil]; lia
    · split
      · exact h2.append (.refl _)
      · rw [List.append_nil]; exact h2.trans (List.sublist_append_left _ _)
theorem extra_is {mine yours u : List (List Nat)} (h : ∀ y, u.count y = mine.count y - yours.count y) : sortW u = extra mine yours := by
  have e : extra mine yours = exN (sortW mine) yours (sortW mine).length := rfl
  have c := fun y => exN_count y (sortW mine) yours (sortW mine).length (Nat.le_refl _)
  rw [List.take_length] at c
  rw [e]
  have hp : (exN (sortW mine) yours (sortW mine).length).Perm u := List.perm_iff_count.mpr fun y => by
    have := (isort_perm ltW mine).count_eq y
    rw [h y, (c y).1]
    show (isort ltW mine).count y - _ = _
    rw [this]
  exact (isort_unique ordW hp ((isort_sorted ordW mine).sublist (c []).2)).symm
theorem law_uld {a a' b b' : List (List Nat)} (ha : a.Perm a') (hb : b.Perm b') : sortW (uld a b).1 = extra a' b' ∧ sortW (uld a b).2 = extra b' a' := by
  refine ⟨extra_is fun y => ?_, extra_is fun y => ?_⟩
  · have := (uld_count y a.reverse ([], b)).1
    show (a.reverse.foldl uldStep ([], b)).1.count y = _
    rw [this, List.count_nil, List.count_reverse, ha.count_eq y, hb.count_eq y, Nat.zero_add]
  · have := (uld_count y a.reverse ([], b)).2
    show (a.reverse.foldl uldStep ([], b)).2.count y = _
    rw [this, List.count_reverse, ha.count_eq y, hb.count_eq y]
end
theorem off_P2 : True := by
  w_top off
  trivial
theorem orders_in : ∀ (l : List Nat) (q : Nat), ∀ y ∈ orders l q, ∀ c ∈ y, c = 34 ∨ c ∈ l
  | l, 0 => by
    intro y hy c hc
    rw [orders] at hy
    rw [List.mem_singleton.mp hy] at hc
    exact .inr hc
  | [], q + 1 => by
    intro y hy c hc
    rw [orders] at hy
    rw [List.mem_singleton.mp hy] at hc
    exact .inl (List.eq_of_mem_replicate hc)
  | a :: l, q + 1 => by
    intro y hy c hc
    rw [orders] at hy
    rcases List.mem_append.mp hy with h | h
    · obtain ⟨z, hz, rfl⟩ := List.mem_map.mp h
      rcases List.mem_cons.mp hc with rfl | hc
      · exact .inl rfl
      · exact orders_in (a :: l) q z hz c hc
    · obtain ⟨z, hz, rfl⟩ := List.mem_map.mp h
      rcases List.mem_cons.mp hc with rfl | hc
      · exact .inr (.head _)
      · rcases orders_in l (q + 1) z hz c hc with h | h
        · exact .inl h
        · exact .inr (.tail _ h)
termination_by l q => l.length + q
theorem parseT_in : ∀ (n : Nat) (l : List Nat), l.length ≤ n → ∀ c ∈ parseT l, c ∈ l
  | _, [], _ => by intro c hc; rw [parseT] at hc; exact hc
  | 0, _ :: _, h => absurd h (by simp)
  | n + 1, [a], _ => by
    intro c hc
    unfold parseT at hc
    split at hc
    · exact nomatch hc
    · exact hc
  | n + 1, a :: b :: r, h => by
    intro c hc
    unfold parseT at hc
    split at hc
    · split at hc
      · rcases List.mem_cons.mp hc with rfl | hc
        · rename_i h1 h2; rw [← h1]; exact .head _
        · exact .tail _ (.tail _ (parseT_in n r (by simp only [List.length_cons] at h; lia) c hc))
      · exact nomatch hc
    · rcases List.mem_cons.mp hc with rfl | hc
      · exact .head _
      · exact .tail _ (parseT_in n (b :: r) (by simp only [List.length_cons] at h ⊢; lia) c hc)
/-- signs that there are -/
def Fine (xs : List (List Nat)) : Prop := ∀ x ∈ xs, ∀ c ∈ x, c < 1114112
theorem Fine.perm {a b : List (List Nat)} (h : Fine a) (p : a.Perm b) : Fine b := fun x hx => h x (p.mem_iff.mpr hx)
theorem fine_put {h : List Nat} {xs : List (List Nat)} (hh : ∀ c ∈ h, c < 1114112) (k : Fine xs) : Fine (xs.map (h ++ ·)) := by
  intro x hx c hc
  obtain ⟨y, hy, rfl⟩ := List.mem_map.mp hx
  rcases List.mem_append.mp hc with hc | hc
  · exact hh c hc
  · exact k y hy c hc
theorem fine_orders {l : List Nat} {q : Nat} (hl : ∀ c ∈ l, c < 1114112) : Fine (orders l q) := fun y hy c hc => by
  rcases orders_in l q y hy c hc with rfl | h
  · decide
  · exact hl c h
theorem fine_told {h l : List Nat} {k : Nat} (hh : ∀ c ∈ h, c < 1114112) (hl : ∀ c ∈ l, c < 1114112) : Fine (told h l k) := by
  have e : told h l k = ((orders l k).map parseT).map (h ++ ·) := by rw [told, List.map_map]; rfl
  rw [e]
  refine fine_put hh fun x hx c hc => ?_
  obtain ⟨y, hy, rfl⟩ := List.mem_map.mp hx
  exact fine_orders hl y hy c (parseT_in y.length y (Nat.le_refl _) c hc)
theorem fine_fold {f : Nat → List (List Nat)} : ∀ (is : List Nat) (b : List (List Nat)), Fine b → (∀ i, Fine (f i)) → Fine (is.foldl (fun c i => c ++ f i) b)
  | [], _, h, _ => h
  | i :: is, b, h, k => fine_fold is _ (fun x hx => (List.mem_append.mp hx).elim (h x) (k i x)) k
theorem fine_gone {l : List Nat} {k : Nat} (hl : ∀ c ∈ l, c < 1114112) : Fine (changeG l k) := by
  unfold changeG
  split
  · exact fun _ h => nomatch h
  · exact fine_orders hl
theorem fine_come {l : List Nat} {k : Nat} (hl : ∀ c ∈ l, c < 1114112) : Fine (changeC l k) := by
  unfold changeC
  split
  · exact fine_fold _ _ (fun _ h => nomatch h) fun i => fine_orders fun c hc => hl c (List.mem_of_mem_take hc)
  · exact fine_orders hl
theorem fine_extra {a b : List (List Nat)} (h : Fine a) : Fine (extra a b) := by
  have e : extra a b = exN (sortW a) b (sortW a).length := rfl
  rw [e]
  intro x hx
  have hm := (exN_count [] (sortW a) b (sortW a).length (Nat.le_refl _)).2.subset hx
  exact h x ((isort_perm ltW a).mem_iff.mp (List.mem_of_mem_take hm))
theorem fine_sortW {a : List (List Nat)} (h : Fine a) : Fine (sortW a) := h.perm (isort_perm ltW a).symm
theorem fine_sortL {a : List (List Nat)} (h : Fine a) : Fine (sortL a) := h.perm (isort_perm ltL a).symm
/-- a list of texts as the statement's data -/
abbrev dat (xs : List (List Nat)) : PyData := .list (xs.map fun x => PyData.str (S x))
theorem lay_dat : ∀ {xs : List (List Nat)}, Fine xs → PyData.canLayAll0 (xs.map fun x => PyData.str (S x)) = true
  | [], _ => by rw [List.map_nil, PyData.canLayAll0]
  | x :: xs, h => by
    rw [List.map_cons, PyData.canLayAll0, lay_dat fun y hy => h y (.tail _ hy), Bool.and_true, PyData.canLay0]
    unfold PyData.strOk
    rw [Array.all_eq_true]
    intro i hi
    exact decide_eq_true (h x (.head _) _ (List.getElem_mem (by simpa using hi)))
theorem depth_dat : ∀ (xs : List (List Nat)), PyData.depthAll (xs.map fun x => PyData.str (S x)) = 0
  | [] => by rw [List.map_nil, PyData.depthAll]
  | x :: xs => by rw [List.map_cons, PyData.depthAll, depth_dat xs, PyData.depth]; rfl
theorem shaped_dat {xs : List (List Nat)} (h : Fine xs) : SeqAt.shaped (dat xs) = true := by
  simp [SeqAt.shaped, PyData.canLay0, PyData.depth, lay_dat h, depth_dat]
theorem shaped_tup {xs ys : List (List Nat)} (h : Fine xs) (k : Fine ys) : SeqAt.shaped (.tuple [dat xs, dat ys]) = true := by
  simp [SeqAt.shaped, PyData.canLay0, PyData.canLayAll0, PyData.depth, PyData.depthAll, lay_dat h, depth_dat, lay_dat k]
theorem shaped_two {xs ys : List (List Nat)} (h : Fine xs) (k : Fine ys) : SeqAt.shaped (.list [dat xs, dat ys]) = true := by
  simp [SeqAt.shaped, PyData.canLay0, PyData.canLayAll0, PyData.depth, PyData.depthAll, lay_dat h, depth_dat, lay_dat k]
theorem carried_L {vs : List Value} : ∀ {xs : List (List Nat)}, Are vs xs → CarriedAll vs (xs.map fun x => PyData.str (S x)) := by
  intro xs h
  induction xs generalizing vs with
  | nil => cases h; exact .nil
  | cons x xs ih =>
    obtain ⟨t, vs', rfl, h'⟩ := StrsAre.cons_inv h
    exact .cons (.str _ t) (ih h')
section
variable {prog : Program} {w : World} {A : Around} {E : Value → Shared → Prop} {s : Shared} {h₀ : Heap} {L a b : Addr} {news : List (Addr × Obj)} {vs ws : List Value} {xs ys : List (List Nat)} {n k : Nat} {Q : Value → Shared → Prop}
theorem reads_L {h : Heap} (N : News h₀ L h news) (ha : (a, listOf (List.toArray vs) n) ∈ news) (hA : Are vs xs) : Reads h (.ref a) (dat xs) [a] := reads_newData ⟨_, (N _ ha).1, rfl, _, rfl⟩ (carried_L hA)
theorem ne_same {u v : Value} {d : PyData} {as bs : List Addr} (ra : Reads s.heap u d as) (rb : Reads s.heap v d bs) (hd : SeqAt.shaped d = true) (hu : A.units + 64 < cLine) (h : Q (.bool false) s) :
    wpAny (model prog w) A (compareOp .NotEq u v) Q E s :=
  ne_dataH ra rb hd hd hu (by rw [SeqAt.eqv_refl d (SeqAt.canLay_of_shaped hd)]; exact h)
theorem eq_same {u v : Value} {d : PyData} {as bs : List Addr} (ra : Reads s.heap u d as) (rb : Reads s.heap v d bs) (hd : SeqAt.shaped d = true) (hu : A.units + 64 < cLine) (h : Q (.bool true) s) :
    wpAny (model prog w) A (compareOp .Eq u v) Q E s :=
  eq_dataH ra rb hd hd hu (by rw [SeqAt.eqv_refl d (SeqAt.canLay_of_shaped hd)]; exact h)
/-- two lists of texts, the same -/
theorem ne_L (N : News h₀ L s.heap news) (ha : (a, listOf (List.toArray vs) n) ∈ news) (hb : (b, listOf (List.toArray ws) k) ∈ news) (hA : Are vs xs) (hB : Are ws xs) (hf : Fine xs) (hu : A.units + 64 < cLine) (h : Q (.bool false) s) :
    wpAny (model prog w) A (compareOp .NotEq (.ref a) (.ref b)) Q E s := ne_same (reads_L N ha hA) (reads_L N hb hB) (shaped_dat hf) hu h
end
theorem off_L1 : True := by
  w_top off
  trivial
/-- the law's row: at most 63 ints, none below 0 -/
def RowOk (rs : List Int) : Prop := rs.length ≤ 63 ∧ ∀ r ∈ rs, 0 ≤ r ∧ r < 1000000
theorem sum_small : ∀ (l : List Int), (∀ r ∈ l, 0 ≤ r ∧ r < 1000000) → 0 ≤ l.sum ∧ l.sum ≤ (l.length : Int) * 1000000
  | [], _ => by simp
  | x :: l, h => by
    have h1 := h x (.head _)
    have h2 := sum_small l fun r hr => h r (.tail _ hr)
    rw [List.sum_cons, List.length_cons]
    lia
theorem pick_mem {ns : List Int} {lo hi st : Option Int} {r : Int} (h : r ∈ pickNums ns lo hi st) : r ∈ ns := by
  unfold pickNums at h
  obtain ⟨j, _, hj⟩ := List.mem_filterMap.mp h
  exact List.mem_of_getElem? hj
theorem RowOk.sum {rs : List Int} (h : RowOk rs) : 0 ≤ rs.sum ∧ rs.sum ≤ 63000000 := by
  have := sum_small rs h.2
  have := h.1
  lia
theorem RowOk.pick {rs : List Int} {vs : List Value} (h : RowOk rs) (hv : IntsAre vs rs) (lo hi st : Option Int) : 0 ≤ (pickNums rs lo hi st).sum ∧ (pickNums rs lo hi st).sum ≤ 63000000 := by
  have := sum_small (pickNums rs lo hi st) fun r hr => h.2 r (pick_mem hr)
  have := length_pickNums_le hv lo hi st
  have := h.1
  lia
section
variable {prog : Program} {w : World} {A : Around} {E : Value → Shared → Prop} {s : Shared} {h₀ : Heap} {L a : Addr} {m : Str → Option Value} {news : List (Addr × Obj)} {vs : List Value} {rs : List Int} {n : Nat} {value slice : PySem.Expr} {Q : Value → Shared → Prop}
theorem len_R (N : News h₀ L s.heap news) (ha : (a, listOf (List.toArray vs) n) ∈ news) (hA : IntsAre vs rs) (ok : RowOk rs)
    (h : Q (.int (rs.length : Int) (s.toks + 1)) { s with toks := s.toks + 1 + 1 }) : wpAny (model prog w) A (call (.builtin "len") [.ref a]) Q E s := by
  have e : vs.toArray.size = rs.length := by rw [List.size_toArray, hA.length]
  have := ok.1
  refine len_list (items := vs.toArray) ⟨_, N.get ha, rfl, _, rfl⟩ (by rw [e]; lia) ?_
  rw [e]; exact h
theorem slice_step_R {x y : Int} {u v : Tok} {ops : List Value} (F : Fr h₀ L s.heap m) (N : News h₀ L s.heap news) (ha : (a, listOf (List.toArray vs) n) ∈ news) (hA : IntsAre vs rs) (ok : RowOk rs) (hy : y ≠ 0)
    (h : ∀ D zs h', Fr h₀ L h' m → News h₀ L h' ((D, listOf (List.toArray zs) 0) :: news) → (∀ p ∈ news, p.1 < D) → IntsAre zs (pickNums rs (some x) none (some y)) → Q (.ref D) { s with heap := h' })
    (hs : subscripted slice false (.ref a) (.ref s.heap.objs.size) = operate ops (getItem (.ref a) (.ref s.heap.objs.size)) := by with_unfolding_all rfl) (ht : ∀ r, letTemporaryGo value (.ref a) r = pure () := by intro _; with_unfolding_all rfl) :
    wpAny (model prog w) A (subscriptTail value slice (.ref a) (.ref s.heap.objs.size)) Q E { s with heap := s.heap.push { cls := .type "slice", data := .fields #[.int x u, .none, .int y v] } } := by
  have := ok.1
  exact kmk_slice3_lit F N ⟨_, N.get ha, rfl, _, rfl⟩ (IsPart.int _ _) IsPart.none (IsPart.int _ _) (by simpa using hy) rfl (fun D h' F' N' l => h D _ h' F' N' l (hA.pick _ _ _)) hs ht (by rw [List.size_toArray, hA.length, sizeLine_eq]; lia)
end
inductive JHead (ar : Addr) (news : List (Addr × Obj)) (i : Nat) (m : Str → Option Value) : List (Addr × Obj) → Prop
  | mk (hrow : m (Str.ofString "row") = some (.ref ar)) (x : List Nat) (t : Tok) (y : Str) (hh : m (Str.ofString "head") = some (.str y t)) (hy : y = S x) (hx : x.length ≤ i) (hc : ∀ c ∈ x, c < 1114112) : JHead ar news i m news
theorem t_head (w : World) {ar : Addr} {vr : List Value} {nr : Nat} (rs : List Int) (news : List (Addr × Obj)) (hR : IntsAre vr rs) (hr : (ar, listOf (List.toArray vr) nr) ∈ news) (ok : RowOk rs) :
    Ctr w 90 1 [.ref ar] news (OutH fun x => x.length ≤ 2 ∧ ∀ c ∈ x, c < 1114112) := by
  unfold Ctr
  intro dp un gd cn cs a ccd cl outer A₀ base h₀ L m s Q E p loose mean mg mb B F X N T hk hd hu hret
  refine wpAny_call ?_
  k_with_none
  k_with "WhileStep2 brk" => dsimp only [WhileStep2]
  k_with "binaryOp Add str str" => ((refine PyProof.Rows.add_str ?_ (hsz := by ktn_open)); intro _ _)
  k_with "subscriptTail Name Slice str ref" => ((with_reducible show wpAny _ _ (subscriptTail _ (Expr.Slice none (some _) none _) _ _) _ _ _); (refine slice_strN_ns (hsz := by ktn_open) (s := ⟨_, _, _, _, _⟩) (by k_asm) (by k_asm) ?_); intro _ _ _ _ _)
  k_with "subscriptTail Name Slice str ref" => ((with_reducible show wpAny _ _ (subscriptTail _ (Expr.Slice (some _) none none _) _ _) _ _ _); (refine slice_strN_sn (hsz := by ktn_open) (s := ⟨_, _, _, _, _⟩) (by k_asm) (by k_asm) ?_); intro _ _ _ _ _)
  k_with "call builtin:len" => ((with_reducible show wpAny _ _ (call (Value.builtin "len") [Value.str (S _) _]) _ _ _); refine lenS (by ktn_open) ?_)
  k_with "eval ListComp" => (k_here; (with_reducible show wpAny _ _ (eval (Expr.ListComp _ [⟨_, _, [], _⟩] _ _) _) _ _ _); k_dflt (refine LCg.ListComp_U (F₀ := by k_asm) (by with_unfolding_all rfl) (by decide) (by rfl) (by decide) (by rfl) ?_))
  k_with "eval ListComp" => (k_here; (with_reducible show wpAny _ _ (eval (Expr.ListComp _ [⟨_, _, [_], _⟩] _ _) _) _ _ _); k_dflt (refine LCt.ListComp_T (F₀ := by k_asm) (by with_unfolding_all rfl) (by decide) (by rfl) (by decide) (by rfl) ?_))
  k_with "exec Assign cons ListComp" => (k_here; k_dflt (refine LCg.Assign_ListComp_U (F₀ := by k_asm) (by rfl) (by with_unfolding_all rfl) (by with_unfolding_all rfl) (by decide) (by rfl) (by decide) (by rfl) (by rfl) (by rfl) ?_))
  k_with "getMethod ref" => k_dflt (first | refine meth_L PySem.F.slot_list_count PySem.F.type_list_count (by k_asm) (by k_mem) ?_ | refine meth_L PySem.F.slot_list_append PySem.F.type_list_append (by k_asm) (by k_mem) ?_ | refine meth_L PySem.F.slot_list_pop PySem.F.type_list_pop (by k_asm) (by k_mem) ?_ | refine meth_L PySem.F.slot_list_remove PySem.F.type_list_remove (by k_asm) (by k_mem) ?_ | refine meth_L PySem.F.slot_list_extend PySem.F.type_list_extend (by k_asm) (by k_mem) ?_)
  k_with "stop" => with_reducible first | show wpAny _ _ (PySem.call (Value.ref _) _ _) _ _ _ | show wpAny _ _ (exec (Stmt.While _ _ _ _) _) _ _ _ | show wpAny _ _ (exec (Stmt.For _ _ _ _ _) _) _ _ _ | show wpAny _ _ (exec (Stmt.Try _ _ _ _ _) _) _ _ _ | show wpAny _ _ (pyIter _) _ _ _ | show wpAny _ _ (binaryOp Operator.Mult (Value.ref _) (Value.int _ _)) _ _ _ | show LCg.CompSrc _ _ _ _ _ _ _ _ _ _ _ _ _ _ | show wpAny _ _ (binaryOp Operator.Add (Value.ref _) (Value.ref _)) _ _ _ | show wpAny _ _ (PySem.call (Value.builtin "sorted") _ _) _ _ _ | show wpAny _ _ (PySem.call (Value.builtin "list.count") _ _) _ _ _ | show wpAny _ _ (PySem.call (Value.builtin "list.extend") _ _) _ _ _ | show wpAny _ _ (PySem.call (Value.builtin "list.append") _ _) _ _ _ | show wpAny _ _ (PySem.call (Value.builtin "len") [Value.ref _] _) _ _ _ | show wpAny _ _ (subscriptTail _ _ (Value.ref _) _) _ _ _ | show LCt.CompSrcT _ _ _ _ _ _ _ _ _ _ _ _ _ _ _ | show Exists _ | show wpAny _ _ (compareOp CmpOp.NotEq (Value.ref _) (Value.ref _)) _ _ _ | show wpAny _ _ (compareOp CmpOp.Eq (Value.ref _) (Value.ref _)) _ _ _
  k_dflt ktr_enter
  refine wpAny_mono (E := fun _ _ => False) ?_ (fun _ _ h => h) (fun _ _ h => h.elim)
  tb_rel
  refine For_invVF (by k_asm) rfl rfl ?_
  tb_rel
  try dsimp only
  refine len_R (by k_asm) hr hR ok ?_
  tb_rel
  try dsimp only
  refine range_loop (n := min 2 rs.length) (JHead ar news) rfl (by assumption) ?_ ?_ (by k_asm) (by k_asm) ⟨by rfl, [], _, _, by rfl, emptyS, Nat.le_refl _, fun _ h => nomatch h⟩ ?_ ?_
  · refine small_one ?_ ?_ ?_ ?_ <;> (try split) <;> lia
  · have e : (if (rs.length : Int) < 2 then (rs.length : Int) else 2) = ((min 2 rs.length : Nat) : Int) := by split <;> lia
    rw [e]; exact range_size _
  · intro i t1 m1 news1 I1 oI1 h1 tk1 hi J1 off1 F1 N1
    obtain ⟨hrow, x1, t2, _, hhead, rfl, hx1, hc1⟩ := J1
    try dsimp only
    k_with "eval Name" => (k_here; k_dflt (refine ld (by k_asm) (by assumption) ?_); k_whole)
    tb_rel
    try dsimp only
    refine slice_step_R (s := ⟨_, _, _, _, _⟩) (by k_asm) (by k_asm) (.tail _ hr) hR ok (by decide) ?_
    intro D2 zs2 h2 F2 N2 lt2 hz2
    try dsimp only
    tb_rel
    · rename News _ _ _ ((D2, _) :: _) => N9
      rename Fr _ _ _ _ => F9
      exact ⟨_, _, _, _, rfl, F9, fun p hp => N9 p (.tail _ hp), off1, by exact hrow, x1 ++ [34], _, _, by rfl, by rw [quoteS, S_append], by simp; lia, fun c hc => by
        rcases List.mem_append.mp hc with hc | hc
        · exact hc1 c hc
        · rw [List.mem_singleton.mp hc]; decide⟩
    · rename News _ _ _ ((D2, _) :: _) => N9
      rename Fr _ _ _ _ => F9
      exact ⟨_, _, _, _, rfl, F9, fun p hp => N9 p (.tail _ hp), off1, by exact hrow, x1 ++ [_], _, _, by rfl, by rw [← S_append], by simp; lia, fun c hc => by
        rcases List.mem_append.mp hc with hc | hc
        · exact hc1 c hc
        · rw [List.mem_singleton.mp hc]
          have e := Int.fmod_eq_emod_of_nonneg (pickNums rs (some (0 + (i : Int))) none (some 2)).sum (b := 40000) (by decide)
          have := Int.emod_lt_of_pos (pickNums rs (some (0 + (i : Int))) none (some 2)).sum (b := 40000) (by decide)
          rw [← e] at this
          lia⟩
  · intro m1 news1 h1 tk1 J1 F1 N1
    obtain ⟨hrow, x1, t2, _, hhead, rfl, hx1, hc1⟩ := J1
    try dsimp only
    k_with "eval Name" => (k_here; k_dflt (refine ld (by k_asm) (by assumption) ?_); k_whole)
    tb_rel
    exact hret _ [] _ _ (by k_asm) (by k_asm) off_nil ⟨rfl, _, _, rfl, by lia, hc1⟩
theorem off_L2 : True := by
  w_top off
  trivial
theorem strs_values : ∀ {vs : List Value} {ss : List Str}, StrsAre vs ss → ∃ l : List (Str × Tok), vs = strValues l ∧ l.map (·.1) = ss := by
  intro vs ss h
  induction ss generalizing vs with
  | nil => cases h; exact ⟨[], rfl, rfl⟩
  | cons x ss ih =>
    obtain ⟨t, vs', rfl, h'⟩ := StrsAre.cons_inv h
    obtain ⟨l, rfl, e⟩ := ih h'
    exact ⟨(x, t) :: l, rfl, by rw [List.map_cons, e]⟩
theorem fold_ones (r : List Nat) (a : Array Nat) : ((r.map fun c => S [c]).foldl (fun acc p => acc ++ (Str.ofString "").cps ++ p.cps) a).toList = a.toList ++ r := by
  have e : (Str.ofString "").cps = #[] := by rw [emptyS]
  rw [e]
  induction r generalizing a with
  | nil => simp
  | cons c r ih => rw [List.map_cons, List.foldl_cons, ih]; simp
theorem join_signs (l : List Nat) : Txt.join (Str.ofString "") (l.map fun c => S [c]) = S l := by
  show Builtin.Str.glued (Str.ofString "") (l.map fun c => S [c]) = _
  rw [StrLaws.glued_eq_join]
  cases l with
  | nil => exact emptyS
  | cons c r =>
    rw [List.map_cons, ← StrLaws.glued_cons]
    refine PySem.Str.ext' (Array.toList_inj.mp ?_)
    rw [fold_ones]; rfl
section
variable {prog : Program} {w : World} {A : Around} {h₀ : Heap} {L : Addr} {m : Str → Option Value} {env : Env} {elt : Expr} {x : Str} {scope : Scope} {cl : List (Str × Addr)} {s : Shared} {St : List (Addr × Obj) → Prop} {Fin : List Value → List (Addr × Obj) → Prop} {news : List (Addr × Obj)}
/-- a sign behind the quote -/
abbrev Sign (c : Nat) : Prop := 34 < c ∧ c < 1114112
/-- a comprehension over a range whose element is a sign behind the quote -/
theorem comp_signs {n : Nat} (hS : St news)
    (turn : ∀ i t I oI C oC D m₂ ys h tk (E' : Value → Shared → Prop), i < n → LCg.NsObj oC m₂ → m₂ x = some (.int (0 + (i : Int)) t) → Fr h₀ L h m → News h₀ L h ((I, oI) :: (C, oC) :: (D, LCg.lst ys) :: news) → LCg.Off3 I C D news → ((@Ne Nat I C) ∧ (@Ne Nat I D) ∧ (@Ne Nat C D)) →
      wpAny (model prog w) A (eval elt (compEnvC scope cl C env)) (fun z s₂ => ∃ h' tk' t' c, s₂ = { s with heap := h', toks := tk' } ∧ z = .str (S [c]) t' ∧ Sign c ∧ Fr h₀ L h' m ∧ News h₀ L h' ((I, oI) :: (C, oC) :: (D, LCg.lst ys) :: news)) E' { s with heap := h, toks := tk })
    (fin : ∀ ys (l : List Nat), l.length = n → (∀ c ∈ l, Sign c) → Are ys (l.map fun c => [c]) → Fin ys news) : LCg.CompRest prog w A h₀ L m env elt x scope cl s St (fun i v => ∃ t, v = .int (0 + (i : Int)) t) Fin n 0 [] news := by
  have key : ∀ (j i : Nat) (ys : List Value) (l : List Nat), i + j = n → l.length = i → (∀ c ∈ l, Sign c) → Are ys (l.map fun c => [c]) → LCg.CompRest prog w A h₀ L m env elt x scope cl s St (fun i v => ∃ t, v = .int (0 + (i : Int)) t) Fin j i ys news := by
    intro j
    induction j with
    | zero =>
      intro i ys l hi hl hc hy
      exact LCg.CompRest.zero (fin ys l (by lia) hc hy)
    | succ j ih =>
      intro i ys l hi hl hc hy
      refine LCg.CompRest.succ ?_
      intro v I oI C oC D m₂ h tk E' hv hC hx F N off ne
      obtain ⟨t, rfl⟩ := hv
      refine wpAny_mono (turn i t I oI C oC D m₂ ys h tk E' (by lia) hC hx F N off ne) (fun z s₂ hq => ?_) fun _ _ e => e
      obtain ⟨h', tk', t', c, e, hz, hc34, F', N'⟩ := hq
      subst hz
      refine ⟨h', tk', news, e, F', N', off, hS, ?_⟩
      refine ih (i + 1) _ (l ++ [c]) (by lia) (by simp [hl]) ?_ ?_
      · intro d hd
        rcases List.mem_append.mp hd with hd | hd
        · exact hc d hd
        · rw [List.mem_singleton.mp hd]; exact hc34
      · rw [List.map_append]
        exact lst_append hy (.cons _ _ .nil)
  exact key n 0 [] [] (by lia) rfl (fun _ h => nomatch h) .nil
end
theorem t_letters (w : World) {ar : Addr} {vr : List Value} {nr : Nat} (rs : List Int) (n : Nat) (i : Int) (t : Tok) (news : List (Addr × Obj)) (hR : IntsAre vr rs) (hr : (ar, listOf (List.toArray vr) nr) ∈ news) (ok : RowOk rs) (hi : i = (n : Int)) (hn : n ≤ 3) :
    Ctr w 95 1 [.ref ar, .int i t] news (OutH fun l => l.length = n ∧ ∀ c ∈ l, Sign c) := by
  subst hi
  unfold Ctr
  intro dp un gd cn cs a ccd cl outer A₀ base h₀ L m s Q E p loose mean mg mb B F X N T hk hd hu hret
  refine wpAny_call ?_
  k_with_none
  k_with "WhileStep2 brk" => dsimp only [WhileStep2]
  k_with "binaryOp Add str str" => ((refine PyProof.Rows.add_str ?_ (hsz := by ktn_open)); intro _ _)
  k_with "subscriptTail Name Slice str ref" => ((with_reducible show wpAny _ _ (subscriptTail _ (Expr.Slice none (some _) none _) _ _) _ _ _); (refine slice_strN_ns (hsz := by ktn_open) (s := ⟨_, _, _, _, _⟩) (by k_asm) (by k_asm) ?_); intro _ _ _ _ _)
  k_with "subscriptTail Name Slice str ref" => ((with_reducible show wpAny _ _ (subscriptTail _ (Expr.Slice (some _) none none _) _ _) _ _ _); (refine slice_strN_sn (hsz := by ktn_open) (s := ⟨_, _, _, _, _⟩) (by k_asm) (by k_asm) ?_); intro _ _ _ _ _)
  k_with "call builtin:len" => ((with_reducible show wpAny _ _ (call (Value.builtin "len") [Value.str (S _) _]) _ _ _); refine lenS (by ktn_open) ?_)
  k_with "eval ListComp" => (k_here; (with_reducible show wpAny _ _ (eval (Expr.ListComp _ [⟨_, _, [], _⟩] _ _) _) _ _ _); k_dflt (refine LCg.ListComp_U (F₀ := by k_asm) (by with_unfolding_all rfl) (by decide) (by rfl) (by decide) (by rfl) ?_))
  k_with "eval ListComp" => (k_here; (with_reducible show wpAny _ _ (eval (Expr.ListComp _ [⟨_, _, [_], _⟩] _ _) _) _ _ _); k_dflt (refine LCt.ListComp_T (F₀ := by k_asm) (by with_unfolding_all rfl) (by decide) (by rfl) (by decide) (by rfl) ?_))
  k_with "exec Assign cons ListComp" => (k_here; k_dflt (refine LCg.Assign_ListComp_U (F₀ := by k_asm) (by rfl) (by with_unfolding_all rfl) (by with_unfolding_all rfl) (by decide) (by rfl) (by decide) (by rfl) (by rfl) (by rfl) ?_))
  k_with "getMethod ref" => k_dflt (first | refine meth_L PySem.F.slot_list_count PySem.F.type_list_count (by k_asm) (by k_mem) ?_ | refine meth_L PySem.F.slot_list_append PySem.F.type_list_append (by k_asm) (by k_mem) ?_ | refine meth_L PySem.F.slot_list_pop PySem.F.type_list_pop (by k_asm) (by k_mem) ?_ | refine meth_L PySem.F.slot_list_remove PySem.F.type_list_remove (by k_asm) (by k_mem) ?_ | refine meth_L PySem.F.slot_list_extend PySem.F.type_list_extend (by k_asm) (by k_mem) ?_)
  k_with "stop" => with_reducible first | show wpAny _ _ (PySem.call (Value.ref _) _ _) _ _ _ | show wpAny _ _ (exec (Stmt.While _ _ _ _) _) _ _ _ | show wpAny _ _ (exec (Stmt.For _ _ _ _ _) _) _ _ _ | show wpAny _ _ (exec (Stmt.Try _ _ _ _ _) _) _ _ _ | show wpAny _ _ (pyIter _) _ _ _ | show wpAny _ _ (binaryOp Operator.Mult (Value.ref _) (Value.int _ _)) _ _ _ | show LCg.CompSrc _ _ _ _ _ _ _ _ _ _ _ _ _ _ | show wpAny _ _ (binaryOp Operator.Add (Value.ref _) (Value.ref _)) _ _ _ | show wpAny _ _ (PySem.call (Value.builtin "sorted") _ _) _ _ _ | show wpAny _ _ (PySem.call (Value.builtin "list.count") _ _) _ _ _ | show wpAny _ _ (PySem.call (Value.builtin "list.extend") _ _) _ _ _ | show wpAny _ _ (PySem.call (Value.builtin "list.append") _ _) _ _ _ | show wpAny _ _ (PySem.call (Value.builtin "len") [Value.ref _] _) _ _ _ | show wpAny _ _ (subscriptTail _ _ (Value.ref _) _) _ _ _ | show LCt.CompSrcT _ _ _ _ _ _ _ _ _ _ _ _ _ _ _ | show Exists _ | show wpAny _ _ (compareOp CmpOp.NotEq (Value.ref _) (Value.ref _)) _ _ _ | show wpAny _ _ (compareOp CmpOp.Eq (Value.ref _) (Value.ref _)) _ _ _
  k_dflt (refine' code_defC ?k1 ?k2 ?k3 ?k4 ?k5 ?kA ?kF ?kK ?k6 ?k7 ?k8 ?k9 ?kB ?kD ?_ ?c2 ?c3 ?c4; (case kA => exact rfl); (case kF => exact rfl); (case kK => assumption); (case k1 => k_asm); (case k2 => k_asm); (case k3 => k_asm); (case k4 => k_asm); (case k5 => k_asm); (case k6 => k_is); (case k7 => k_is); (case k8 => ktr_room); (case k9 => exact BindsTo.of_eq rfl); (case kB => exact rfl); (case kD => decide +kernel); (case c2 => exact rfl); (case c3 => exact rfl); (case c4 => exact rfl); k_whole; intro g' L' h' tk' cells' FG' F' N' Y' B' X' T' l1; k_cells Y'; (try simp only [List.cons_append, List.nil_append] at N'); (try dsimp only); (try k_fold))
  refine wpAny_mono (E := fun _ _ => False) ?_ (fun _ _ h => h) (fun _ _ h => h.elim)
  tb_rel
  refine LCg.CompSrc.range rfl (by k_asm) (by k_asm) (by assumption) (range_small (by lia)) (range_size _) (by rw [sizeLine_eq]; lia) ?_
  intro g4
  try dsimp only
  refine comp_signs trivial ?_ ?_
  · intro i t5 I5 oI5 C5 oC5 D5 m5 zs5 h5 tk5 E5 hi5 hC5 hm5 F5 N5 off5 ne5
    try dsimp only
    tb_rel
    refine slice_step_R (s := ⟨_, _, _, _, _⟩) (by k_asm) (by k_asm) (.tail _ (.tail _ (.tail _ (.tail _ hr)))) hR ok (by decide) ?_
    intro D2 zs2 h2 F2 N2 lt2 hz2
    try dsimp only
    have hsum := ok.pick hR (some (0 + (i : Int))) none (some 3)
    tb_rel
    rename News _ _ _ ((D2, _) :: _) => N9
    rename Fr _ _ _ _ => F9
    refine ⟨_, _, _, _, rfl, rfl, ?_, F9, fun p hp => N9 p (.tail _ hp)⟩
    have e := Int.fmod_eq_emod_of_nonneg (62 + (pickNums rs (some (0 + (i : Int))) none (some 3)).sum) (b := 40000) (by decide)
    have := Int.emod_nonneg (62 + (pickNums rs (some (0 + (i : Int))) none (some 3)).sum) (b := 40000) (by decide)
    have h2 := Int.emod_lt_of_pos (62 + (pickNums rs (some (0 + (i : Int))) none (some 3)).sum) (b := 40000) (by decide)
    rw [← e] at this h2
    constructor <;> lia
  · intro zs5 l hl hc hz5
    tb_rel
    obtain ⟨q, rfl, hq⟩ := strs_values hz5
    have hone : ∀ (l : List Nat), (((l.map fun c => [c]).map S).map (·.length)).sum = l.length := by
      intro l
      induction l with
      | nil => rfl
      | cons c l ih => simp only [List.map_cons, List.sum_cons, List.length_cons, S_len, List.length_nil]; simp only [List.map_map] at ih ⊢; lia
    refine SC.join (News.isList (by k_asm) (by k_mem)) hq (joinOk_of_weight (by rw [hone]; simp; lia) (by decide)) ?_
    intro t6 k6
    rw [List.map_map]
    have ej : Txt.join (Str.ofString "") (l.map (S ∘ fun c => [c])) = S l := join_signs l
    rw [ej]
    try dsimp only
    tb_rel
    rename News _ _ _ _ => N9
    rename Fr _ _ _ _ => F9
    exact hret _ [] _ _ F9 (keep0 (mid := [_, _]) N9) off_nil ⟨rfl, _, _, rfl, hl, hc⟩
theorem off_M1 : True := by
  w_top off
  trivial
section
variable {prog : Program} {w : World} {A : Around} {E : Value → Shared → Prop} {s : Shared} {h₀ : Heap} {L : Addr} {m : Str → Option Value} {env : Env}
abbrev tupOf (its : Array Value) (e : Nat) : Obj := { cls := .type "tuple", data := .seq its e }
/-- a comprehension over a tuple of the ledger -/
theorem ListComp_tup {elt iter : Expr} {x : Str} {px : Pos} {scope : Scope} {cl : List (Str × Addr)} {pos : Pos} {Q : Value → Shared → Prop} (_F₀ : Fr h₀ L s.heap m)
    (hclos : closureFor scope env = pure cl) (hcell : ∀ y ∈ scope.names, y.2 ≠ .cell) (hkind : scope.kind = .function)
    (hnames : ∀ y ∈ scope.names, y.2 = .local → scope.names.lookup y.1 = some .local) (hx : scope.names.lookup x = some .local)
    (h : wpAny (model prog w) A (eval iter env) (fun xv s₁ => ∃ T its e news, xv = .ref T ∧ A.handled = none ∧ Fr h₀ L s₁.heap m ∧ News h₀ L s₁.heap news ∧ (T, tupOf its e) ∈ news ∧ its.size ≤ sizeLine ∧
      ∀ g, LCg.CompRest prog w A h₀ L m env elt x scope cl { s₁ with heap := g } (fun nw => (T, tupOf its e) ∈ nw) (fun i v => its[i]? = some v) (LCg.FinE h₀ L m { s₁ with heap := g } Q) its.size 0 [] news) E s)
    (hs : ∀ x, foldedSetIterable iter env x = pure x := by intro _; rfl) :
    wpAny (model prog w) A (eval (.ListComp elt [⟨.Name x px, iter, [], 0⟩] scope pos) env) Q E s := by
  rw [eval_ListComp]
  refine wpAny_comprehension_free (use := none) rfl hs hclos hkind hnames (wpAny_mono h (fun xv s₁ h₁ => ?_) fun _ _ e => e)
  obtain ⟨ax, its, ep, news, rfl, hh, F, N, hm, hsz, R⟩ := h₁
  have hl : s₁.heap.IsTuple ax its := ⟨_, (N _ hm).1, rfl, _, rfl⟩
  have hlt : ax < s₁.heap.objs.size := Heap.lt_size (N _ hm).1
  refine wpAny_pyIter_tuple hl ?_
  have up : ∀ b o, s₁.heap.get? b = some o → (s₁.heap.push { cls := .type "tuple_iterator", data := .fields #[.ref ax, .int 0 0] }).get? b = some o := fun b o e => Heap.get?_push_of_some _ e
  refine LCg.block_U (St := fun i h => h.IsTupleIter s₁.heap.objs.size ax i ∧ h.IsTuple ax its) (Walks.tuple hh s₁.heap.objs.size ax (Nat.ne_of_lt hlt) its) hsz (fun i h st => by obtain ⟨o, e, _⟩ := st.1; exact ⟨o, e⟩) ?_ hcell hkind hx ⟨⟨_, Heap.get?_push_size _ rfl, rfl, rfl⟩, hl.at fun o e => up _ _ e⟩ (fun b hb => ?_)
    (F.keeps up) (N.grown up) (Nat.ne_of_lt F.ns.lt) (next_is_new F) (fun p hp => Nat.ne_of_lt (Heap.lt_size (N p hp).1)) hm (R _) ?_
  · intro i h h' o nw st e e' k N' S
    refine ⟨?_, ⟨_, (N' _ S).1, rfl, _, rfl⟩⟩
    obtain ⟨o', q, r⟩ := st.1
    rw [e] at q; cases q
    exact ⟨o, e', r⟩
  · show b < (s₁.heap.push _).objs.size
    rw [Heap.size_push]
    rcases List.mem_cons.mp hb with rfl | hb
    · exact Nat.lt_succ_self _
    · rw [List.mem_singleton.mp hb]; exact Nat.lt_succ_of_lt hlt
  · intro D C h tk m' ys news' F' N' o1 hn hC₀ hD₀ hCL hDL hCD offC fin
    refine ⟨m', hn, fun h'' hs'' => fin D h'' tk (F'.change hs'' hCL hC₀) (fun p hp => ?_) o1⟩
    refine ⟨hs''.extBut _ _ ?_ (N' p hp).1, (N' p hp).2⟩
    rcases List.mem_cons.mp hp with rfl | hp
    · exact Ne.symm hCD
    · exact offC p hp
end
theorem off_law : True := by
  w_top off
  trivial
section
variable {prog : Program} {w : World} {A : Around} {h₀ : Heap} {L : Addr} {m : Str → Option Value} {env : Env} {elt : Expr} {x : Str} {scope : Scope} {cl : List (Str × Addr)} {s : Shared} {St : List (Addr × Obj) → Prop} {Fin : List Value → List (Addr × Obj) → Prop} {news : List (Addr × Obj)}
/-- a comprehension over a list of ints whose element is an int, what stood stands -/
theorem comp_nums {vs : List Value} {xs : List Int} (f : Int → Int) (hv : IntsAre vs xs) (hS : St news)
    (turn : ∀ y t I oI C oC D m₂ ys h tk (E' : Value → Shared → Prop), y ∈ xs → LCg.NsObj oC m₂ → m₂ x = some (.int y t) → Fr h₀ L h m → News h₀ L h ((I, oI) :: (C, oC) :: (D, LCg.lst ys) :: news) → LCg.Off3 I C D news → ((@Ne Nat I C) ∧ (@Ne Nat I D) ∧ (@Ne Nat C D)) →
      wpAny (model prog w) A (eval elt (compEnvC scope cl C env)) (fun z s₂ => ∃ h' tk' t', s₂ = { s with heap := h', toks := tk' } ∧ z = .int (f y) t' ∧ Fr h₀ L h' m ∧ News h₀ L h' ((I, oI) :: (C, oC) :: (D, LCg.lst ys) :: news)) E' { s with heap := h, toks := tk })
    (fin : ∀ ys, IntsAre ys (xs.map f) → Fin ys news) : LCg.CompRest prog w A h₀ L m env elt x scope cl s St (fun i v => vs.toArray[i]? = some v) Fin vs.toArray.size 0 [] news := by
  have hn : vs.toArray.size = xs.length := by rw [List.size_toArray, hv.length]
  rw [hn]
  have key : ∀ (j i : Nat) (ys : List Value), i + j = xs.length → IntsAre ys ((xs.take i).map f) → LCg.CompRest prog w A h₀ L m env elt x scope cl s St (fun i v => vs.toArray[i]? = some v) Fin j i ys news := by
    intro j
    induction j with
    | zero =>
      intro i ys hi hy
      have e : i = xs.length := by lia
      subst e
      rw [List.take_length] at hy
      exact LCg.CompRest.zero (fin ys hy)
    | succ j ih =>
      intro i ys hi hy
      refine LCg.CompRest.succ ?_
      intro v I oI C oC D m₂ h tk E' hP hC hx F N off ne
      have hi' : i < xs.length := by lia
      obtain ⟨t, ht⟩ := hv.get i xs[i] (by simp [hi'])
      have hP' : vs[i]? = some v := by simpa using hP
      rw [ht] at hP'
      cases hP'
      refine wpAny_mono (turn xs[i] t I oI C oC D m₂ ys h tk E' (List.getElem_mem hi') hC hx F N off ne) (fun z s₂ hq => ?_) fun _ _ e => e
      obtain ⟨h', tk', t', e, hz, F', N'⟩ := hq
      subst hz
      refine ⟨h', tk', news, e, F', N', off, hS, ?_⟩
      refine ih (i + 1) _ (by lia) ?_
      rw [List.take_add_one, List.getElem?_eq_getElem hi']
      simp only [Option.toList, List.map_append, List.map_cons, List.map_nil]
      exact hy.append (.cons _ _ .nil)
  exact key xs.length 0 [] (by lia) (by simp only [List.take_zero, List.map_nil]; exact .nil)
end
section
variable {prog : Program} {w : World} {A : Around} {E : Value → Shared → Prop} {s : Shared} {h₀ : Heap} {L a : Addr} {m : Str → Option Value} {news : List (Addr × Obj)} {vs : List Value} {ns : List Int} {value slice : PySem.Expr} {Q : Value → Shared → Prop}
theorem slice_script {y : Int} {u : Tok} (F : Fr h₀ L s.heap m) (N : News h₀ L s.heap news) (hl : h₀.IsList a vs.toArray) (hA : IntsAre vs ns) (hz : ns.length ≤ 1000) (hy : 0 ≤ y)
    (h : ∀ D zs h', Fr h₀ L h' m → News h₀ L h' ((D, listOf (List.toArray zs) 0) :: news) → (∀ p ∈ news, p.1 < D) → IntsAre zs (ns.take y.toNat) → Q (.ref D) { s with heap := h' })
    (hs : subscripted slice false (.ref a) (.ref s.heap.objs.size) = operate [.ref s.heap.objs.size, .ref a] (getItem (.ref a) (.ref s.heap.objs.size)) := by with_unfolding_all rfl) (ht : ∀ r, letTemporaryGo value (.ref a) r = pure () := by intro _; with_unfolding_all rfl) :
    wpAny (model prog w) A (subscriptTail value slice (.ref a) (.ref s.heap.objs.size)) Q E { s with heap := s.heap.push { cls := .type "slice", data := .fields #[.none, .int y u, .none] } } :=
  kmk_slice_lit F N (Fr.lst F hl) IsPart.none (IsPart.int _ _) rfl (fun D h' F' N' l => h D _ h' F' N' l (kmk_upto hA hy)) hs ht (by rw [List.size_toArray, hA.length, sizeLine_eq]; lia)
end
theorem RowOk.of {vs : List Value} {ns : List Int} {j : Nat} (hj : j ≤ 63) (_ : IntsAre vs ((ns.take j).map fun x => Int.fmod x 1000000)) : RowOk ((ns.take j).map fun x => Int.fmod x 1000000) := by
  refine ⟨by rw [List.length_map, List.length_take]; lia, fun r hr => ?_⟩
  obtain ⟨x, _, rfl⟩ := List.mem_map.mp hr
  rw [Int.fmod_eq_emod_of_nonneg _ (by decide)]
  exact ⟨Int.emod_nonneg _ (by decide), Int.emod_lt_of_pos _ (by decide)⟩
theorem mod_two (x : Int) : ∃ n : Nat, (n = 2 ∨ n = 3) ∧ 2 + Int.fmod x 2 = (n : Int) := by
  rw [Int.fmod_eq_emod_of_nonneg _ (by decide)]
  have h1 := Int.emod_nonneg x (b := 2) (by decide)
  have h2 := Int.emod_lt_of_pos x (b := 2) (by decide)
  exact ⟨(2 + x % 2).toNat, by lia, by lia⟩
/-- the law has ended, True in hand -/
def LawEnd (h₀ : Heap) (L : Addr) (s₁ : Shared) (f : Flow) (s' : Shared) : Prop :=
  ∃ h' tk m' nw p48 p143, s' = { s₁ with heap := h', toks := tk } ∧ f = .ret (.bool true) ∧ Fr h₀ L h' m' ∧ News h₀ L h' nw ∧ (48, tabObj p48) ∈ nw ∧ (143, tabObj p143) ∈ nw
theorem told_short {h l : List Nat} {k : Nat} (hh : h.length ≤ 2) (hl : l.length ≤ 3) (hk : k ≤ 4) : ∀ y ∈ told h l k, y.length ≤ 1000 := by
  intro y hy
  obtain ⟨o, ho, rfl⟩ := List.mem_map.mp hy
  have h1 := orders_len l k o ho
  have h2 := parseT_len o.length o (Nat.le_refl _)
  rw [List.length_append]
  lia
theorem reads_T {h₀ h : Heap} {L T a b : Addr} {news : List (Addr × Obj)} {vs ws : List Value} {xs ys : List (List Nat)} {n k e : Nat} (N : News h₀ L h news) (hT : (T, tup2 a b e) ∈ news) (ha : (a, listOf (List.toArray vs) n) ∈ news) (hb : (b, listOf (List.toArray ws) k) ∈ news) (hA : Are vs xs) (hB : Are ws ys) :
    ∃ as, Reads h (.ref T) (.tuple [dat xs, dat ys]) as :=
  ⟨_, reads_tuple_at (N _ hT).1 rfl rfl (ReadsAll.cons (reads_L N ha hA) (ReadsAll.cons (reads_L N hb hB) ReadsAll.nil))⟩
theorem reads_2 {h₀ h : Heap} {L T a b : Addr} {news : List (Addr × Obj)} {vs ws : List Value} {xs ys : List (List Nat)} {n k e : Nat} (N : News h₀ L h news) (hT : (T, listOf (#[Value.ref a, Value.ref b]) e) ∈ news) (ha : (a, listOf (List.toArray vs) n) ∈ news) (hb : (b, listOf (List.toArray ws) k) ∈ news) (hA : Are vs xs) (hB : Are ws ys) :
    ∃ as, Reads h (.ref T) (.list [dat xs, dat ys]) as :=
  ⟨_, reads_list_at (N _ hT).1 rfl rfl (ReadsAll.cons (reads_L N ha hA) (ReadsAll.cons (reads_L N hb hB) ReadsAll.nil))⟩
theorem uld_len : ∀ (zs : List (List Nat)) (st : List (List Nat) × List (List Nat)), (zs.foldl uldStep st).1.length ≤ st.1.length + zs.length ∧ (zs.foldl uldStep st).2.length ≤ st.2.length
  | [], st => by simp
  | z :: zs, st => by
    have h := uld_len zs (uldStep st z)
    rw [List.foldl_cons, List.length_cons]
    have h1 : (uldStep st z).1.length ≤ st.1.length + 1 ∧ (uldStep st z).2.length ≤ st.2.length := by
      unfold uldStep
      split
      · exact ⟨by simp, List.length_erase_le⟩
      · exact ⟨by simp, Nat.le_refl _⟩
    lia
theorem law_holds : PySem.Challenge.rw_nq0066_01.Holds := hd (by
  k_go0
  all_goals try k_fold
  k_with_none
  k_with "WhileStep2 brk" => dsimp only [WhileStep2]
  k_with "binaryOp Add str str" => ((refine PyProof.Rows.add_str ?_ (hsz := by ktn_open)); intro _ _)
  k_with "subscriptTail Name Slice str ref" => ((with_reducible show wpAny _ _ (subscriptTail _ (Expr.Slice none (some _) none _) _ _) _ _ _); (refine slice_strN_ns (hsz := by ktn_open) (s := ⟨_, _, _, _, _⟩) (by k_asm) (by k_asm) ?_); intro _ _ _ _ _)
  k_with "subscriptTail Name Slice str ref" => ((with_reducible show wpAny _ _ (subscriptTail _ (Expr.Slice (some _) none none _) _ _) _ _ _); (refine slice_strN_sn (hsz := by ktn_open) (s := ⟨_, _, _, _, _⟩) (by k_asm) (by k_asm) ?_); intro _ _ _ _ _)
  k_with "call builtin:len" => ((with_reducible show wpAny _ _ (call (Value.builtin "len") [Value.str (S _) _]) _ _ _); refine lenS (by ktn_open) ?_)
  k_with "eval ListComp" => (k_here; (with_reducible show wpAny _ _ (eval (Expr.ListComp _ [⟨_, _, [], _⟩] _ _) _) _ _ _); k_dflt (refine LCg.ListComp_U (F₀ := by k_asm) (by with_unfolding_all rfl) (by decide) (by rfl) (by decide) (by rfl) ?_))
  k_with "eval ListComp" => (k_here; (with_reducible show wpAny _ _ (eval (Expr.ListComp _ [⟨_, _, [_], _⟩] _ _) _) _ _ _); k_dflt (refine LCt.ListComp_T (F₀ := by k_asm) (by with_unfolding_all rfl) (by decide) (by rfl) (by decide) (by rfl) ?_))
  k_with "exec Assign cons ListComp" => (k_here; k_dflt (refine LCg.Assign_ListComp_U (F₀ := by k_asm) (by rfl) (by with_unfolding_all rfl) (by with_unfolding_all rfl) (by decide) (by rfl) (by decide) (by rfl) (by rfl) (by rfl) ?_))
  k_with "getMethod ref" => k_dflt (first | refine meth_L PySem.F.slot_list_count PySem.F.type_list_count (by k_asm) (by k_mem) ?_ | refine meth_L PySem.F.slot_list_append PySem.F.type_list_append (by k_asm) (by k_mem) ?_ | refine meth_L PySem.F.slot_list_pop PySem.F.type_list_pop (by k_asm) (by k_mem) ?_ | refine meth_L PySem.F.slot_list_remove PySem.F.type_list_remove (by k_asm) (by k_mem) ?_ | refine meth_L PySem.F.slot_list_extend PySem.F.type_list_extend (by k_asm) (by k_mem) ?_)
  k_with "stop" => with_reducible first | show wpAny _ _ (PySem.call (Value.ref _) _ _) _ _ _ | show wpAny _ _ (exec (Stmt.While _ _ _ _) _) _ _ _ | show wpAny _ _ (exec (Stmt.For _ _ _ _ _) _) _ _ _ | show wpAny _ _ (exec (Stmt.Try _ _ _ _ _) _) _ _ _ | show wpAny _ _ (pyIter _) _ _ _ | show wpAny _ _ (binaryOp Operator.Mult (Value.ref _) (Value.int _ _)) _ _ _ | show LCg.CompSrc _ _ _ _ _ _ _ _ _ _ _ _ _ _ | show wpAny _ _ (binaryOp Operator.Add (Value.ref _) (Value.ref _)) _ _ _ | show wpAny _ _ (PySem.call (Value.builtin "sorted") _ _) _ _ _ | show wpAny _ _ (PySem.call (Value.builtin "list.count") _ _) _ _ _ | show wpAny _ _ (PySem.call (Value.builtin "list.extend") _ _) _ _ _ | show wpAny _ _ (PySem.call (Value.builtin "list.append") _ _) _ _ _ | show wpAny _ _ (PySem.call (Value.builtin "len") [Value.ref _] _) _ _ _ | show wpAny _ _ (subscriptTail _ _ (Value.ref _) _) _ _ _ | show LCt.CompSrcT _ _ _ _ _ _ _ _ _ _ _ _ _ _ _ | show Exists _ | show wpAny _ _ (compareOp CmpOp.NotEq (Value.ref _) (Value.ref _)) _ _ _ | show wpAny _ _ (compareOp CmpOp.Eq (Value.ref _) (Value.ref _)) _ _ _
  rename World => w
  rename Shared => s1
  rename (ghostOf _ _).IsList _ _ => hls
  rename IntsAre _ _ => hI
  rename ¬ ((63 : Nat) : Int) < _ => h63
  rename Fr (ghostOf _ _) _ _ _ => F0
  rename _ = #[] => hg
  refine wpAny_mono (Q := LawEnd (ghostOf s1.heap [(52, 48), (145, 143)]) s1.heap.objs.size s1) (E := fun _ _ => False) ?core ?fin (fun _ _ h => h.elim)
  case fin =>
    rintro f s' ⟨h', tk, m', nw, p48, p143, rfl, rfl, F9, N9, h48, h143⟩
    refine ⟨goodW_bool F9 hg ?_ ?_, ?_⟩
    · exact fun _ => rfl
    · wrow_post
    · walk_at "GrownAll"
  rename_i s0 mg mb G Y fa o pm doc kV ho X V Tt B TE TW hcd ns hs hlay0 hL hr hl2 a1 a2 ls vs a3 hL2 ra w1 r0 hr2 hc hD h1 X0 T0 K0 C52 N0 l0
  rename CodeHd _ (145, 143).fst _ => C145
  replace C52 : CodeHd _ 52 48 := C52
  replace C145 : CodeHd _ 145 143 := C145
  obtain ⟨p, loose, mean, T1⟩ : ∃ p loose mean, Top p loose mean mg mb (ghostOf s1.heap [(52, 48), (145, 143)]) := ⟨_, _, _, T0⟩
  clear T0 hD hr2 r0 w1 ra hL2 hl2 hr hL hlay0 hs hcd TW TE B Tt V X ho Y G hT9 hT8 hg hc
  generalize ghostOf s1.heap [(52, 48), (145, 143)] = h₀ at *
  have hcs := callerA
  generalize s1.heap.objs.size = L at *
  clear hcs a1 a2 a3 s0 o pm doc kV
  tb_rel
  refine slice_script (s := ⟨_, _, _, _, _⟩) (by k_asm) (by k_asm) hls hI (by lia) (by decide) ?_
  intro D1 vs1 h2 F1 N1 lt1 hI1
  try dsimp only
  tb_rel
  refine LCg.CompSrc.ledger rfl (by k_asm) (by k_asm) (List.Mem.head _) (by rw [List.size_toArray, hI1.length, List.length_take, sizeLine_eq]; lia) ?_
  intro g2
  try dsimp only
  refine comp_nums (fun x => Int.fmod x 1000000) hI1 (.inr ⟨_, List.Mem.head _, rfl, _, rfl⟩) ?_ ?_
  · intro y t2 I2 oI2 C2 oC2 D2 m2 ys2 h2 tk2 E2 hy hC hm2 F2 N2 off2 ne2
    try dsimp only
    tb_rel
    exact ⟨_, _, _, rfl, rfl, by k_asm, by k_asm⟩
  intro vr hR
  have ok := RowOk.of (by decide) hR
  generalize (List.map (fun x => Int.fmod x 1000000) _) = rs at hR ok
  tb_rel
  rename News h₀ L _ ((_, LCg.lst vr) :: _) => N2
  rename Fr h₀ L _ _ => F2
  rename_i D2 x1 x2 oD2 x3 x4 x5 x6 x7 x8 x9 x10 hB
  obtain ⟨mN, hm, em⟩ := mod_two rs.sum
  obtain ⟨kN, hk, ek⟩ := mod_two (Int.fdiv rs.sum 2)
  rw [em, ek] at F2
  refine with_m F2 ?_
  clear F2
  intro m2 F2 sub2
  have grow : m2 (Str.ofString "row") = some (.ref D2) := sub2 _ _ rfl
  obtain ⟨tm, gm⟩ : ∃ t, m2 (Str.ofString "m") = some (.int (mN : Int) t) := ⟨_, sub2 _ _ rfl⟩
  obtain ⟨tq, gk⟩ : ∃ t, m2 (Str.ofString "k") = some (.int (kN : Int) t) := ⟨_, sub2 _ _ rfl⟩
  clear sub2
  k_with "eval Name" => (k_here; k_dflt (refine ld (by k_asm) (by assumption) ?_); k_whole)
  k_dflt (refine Ctr.useH (t_head w rs _ hR (by k_mem) ok) K0 F2 X0 N2 T1 rfl (by ktr_room) (by ktr_units) ?_)
  intro hd t3 h3 tk3 F3 N3 hG3
  have hhd := hG3.1
  have hfd := hG3.2
  try dsimp only
  tb_rel
  rename News h₀ L _ _ => N4
  rename Fr h₀ L _ _ => F4
  have hmN : mN ≤ 3 := by lia
  k_dflt (refine Ctr.useH (t_letters w rs mN _ _ _ hR (by k_mem) ok rfl hmN) K0 F4 X0 N4 T1 rfl (by ktr_room) (by ktr_units) ?_)
  intro l t5 h5 tk5 F5 N5 hG5
  have hln := hG5.1
  have hsg := hG5.2
  have hls2 : ∀ c ∈ l, 34 < c := fun c hc => (hsg c hc).1
  have hfl : ∀ c ∈ l, c < 1114112 := fun c hc => (hsg c hc).2
  have hl23 : l.length = 2 ∨ l.length = 3 := by lia
  have hl3 : l.length ≤ 3 := by lia
  have hk4 : kN + 1 ≤ 4 := by lia
  have hk4' : kN ≤ 4 := by lia
  clear hln hmN
  try dsimp only
  tb_rel
  rename Fr h₀ L _ _ => F6
  rename News h₀ L _ _ => N6
  rename_i hC
  refine with_m F6 ?_
  clear F6
  intro m6 F6 sub6
  have gh : m6 (Str.ofString "head") = some (.str (S hd) t3) := sub6 _ _ rfl
  have gl' : m6 (Str.ofString "letters") = some (.str (S l) t5) := sub6 _ _ rfl
  have gk' : m6 (Str.ofString "k") = some (.int (kN : Int) tq) := sub6 _ _ gk
  clear sub6
  replace N6 := ntl (ntl N6)
  k_dflt (refine Ctr.useL (t_told w hd l kN _ _ _ _ _ hhd hl3 hk4' rfl) K0 F6 X0 N6 T1 rfl (by ktr_room) (by ktr_units) ?_)
  intro aL vL nL h7 tk7 F7 N7 off7 hAL
  try dsimp only
  tb_rel
  rename Fr h₀ L _ _ => F8
  rename News h₀ L _ _ => N8
  k_dflt (refine Ctr.useL (t_told w hd l (kN + 1) _ _ _ _ _ hhd hl3 hk4 (by lia)) K0 F8 X0 N8 T1 rfl (by ktr_room) (by ktr_units) ?_)
  intro aM vM nM h9 tk9 F9 N9 off9 hAM
  try dsimp only
  tb_rel
  rename Fr h₀ L _ _ => F10
  rename News h₀ L _ _ => N10
  k_dflt (refine Ctr.useL (t_bag w hd l kN _ _ _ _ _ hhd hl3 hk4' rfl) K0 F10 X0 N10 T1 rfl (by ktr_room) (by ktr_units) ?_)
  intro aLD vLD nLD h11 tk11 F11 N11 off11 hALD
  try dsimp only
  tb_rel
  rename Fr h₀ L _ _ => F12
  rename News h₀ L _ _ => N12
  k_dflt (refine Ctr.useL (t_bag w hd l (kN + 1) _ _ _ _ _ hhd hl3 hk4 (by lia)) K0 F12 X0 N12 T1 rfl (by ktr_room) (by ktr_units) ?_)
  intro aMD vMD nMD h13 tk13 F13 N13 off13 hAMD
  try dsimp only
  tb_rel
  rename Fr h₀ L _ _ => F14
  rename News h₀ L _ _ => N14
  w_top off
  k_with_none
  k_with "WhileStep2 brk" => dsimp only [WhileStep2]
  k_with "binaryOp Add str str" => ((refine PyProof.Rows.add_str ?_ (hsz := by ktn_open)); intro _ _)
  k_with "subscriptTail Name Slice str ref" => ((with_reducible show wpAny _ _ (subscriptTail _ (Expr.Slice none (some _) none _) _ _) _ _ _); (refine slice_strN_ns (hsz := by ktn_open) (s := ⟨_, _, _, _, _⟩) (by k_asm) (by k_asm) ?_); intro _ _ _ _ _)
  k_with "subscriptTail Name Slice str ref" => ((with_reducible show wpAny _ _ (subscriptTail _ (Expr.Slice (some _) none none _) _ _) _ _ _); (refine slice_strN_sn (hsz := by ktn_open) (s := ⟨_, _, _, _, _⟩) (by k_asm) (by k_asm) ?_); intro _ _ _ _ _)
  k_with "call builtin:len" => ((with_reducible show wpAny _ _ (call (Value.builtin "len") [Value.str (S _) _]) _ _ _); refine lenS (by ktn_open) ?_)
  k_with "eval ListComp" => (k_here; (with_reducible show wpAny _ _ (eval (Expr.ListComp _ [⟨_, _, [], _⟩] _ _) _) _ _ _); k_dflt (refine LCg.ListComp_U (F₀ := by k_asm) (by with_unfolding_all rfl) (by decide) (by rfl) (by decide) (by rfl) ?_))
  k_with "eval ListComp" => (k_here; (with_reducible show wpAny _ _ (eval (Expr.ListComp _ [⟨_, _, [_], _⟩] _ _) _) _ _ _); k_dflt (refine LCt.ListComp_T (F₀ := by k_asm) (by with_unfolding_all rfl) (by decide) (by rfl) (by decide) (by rfl) ?_))
  k_with "exec Assign cons ListComp" => (k_here; k_dflt (refine LCg.Assign_ListComp_U (F₀ := by k_asm) (by rfl) (by with_unfolding_all rfl) (by with_unfolding_all rfl) (by decide) (by rfl) (by decide) (by rfl) (by rfl) (by rfl) ?_))
  k_with "getMethod ref" => k_dflt (first | refine meth_L PySem.F.slot_list_count PySem.F.type_list_count (by k_asm) (by k_mem) ?_ | refine meth_L PySem.F.slot_list_append PySem.F.type_list_append (by k_asm) (by k_mem) ?_ | refine meth_L PySem.F.slot_list_pop PySem.F.type_list_pop (by k_asm) (by k_mem) ?_ | refine meth_L PySem.F.slot_list_remove PySem.F.type_list_remove (by k_asm) (by k_mem) ?_ | refine meth_L PySem.F.slot_list_extend PySem.F.type_list_extend (by k_asm) (by k_mem) ?_)
  k_with "stop" => with_reducible first | show wpAny _ _ (PySem.call (Value.ref _) _ _) _ _ _ | show wpAny _ _ (exec (Stmt.While _ _ _ _) _) _ _ _ | show wpAny _ _ (exec (Stmt.For _ _ _ _ _) _) _ _ _ | show wpAny _ _ (exec (Stmt.Try _ _ _ _ _) _) _ _ _ | show wpAny _ _ (pyIter _) _ _ _ | show wpAny _ _ (binaryOp Operator.Mult (Value.ref _) (Value.int _ _)) _ _ _ | show LCg.CompSrc _ _ _ _ _ _ _ _ _ _ _ _ _ _ | show wpAny _ _ (binaryOp Operator.Add (Value.ref _) (Value.ref _)) _ _ _ | show wpAny _ _ (PySem.call (Value.builtin "sorted") _ _) _ _ _ | show wpAny _ _ (PySem.call (Value.builtin "list.count") _ _) _ _ _ | show wpAny _ _ (PySem.call (Value.builtin "list.extend") _ _) _ _ _ | show wpAny _ _ (PySem.call (Value.builtin "list.append") _ _) _ _ _ | show wpAny _ _ (PySem.call (Value.builtin "len") [Value.ref _] _) _ _ _ | show wpAny _ _ (subscriptTail _ _ (Value.ref _) _) _ _ _ | show LCt.CompSrcT _ _ _ _ _ _ _ _ _ _ _ _ _ _ _ | show Exists _ | show wpAny _ _ (compareOp CmpOp.NotEq (Value.ref _) (Value.ref _)) _ _ _ | show wpAny _ _ (compareOp CmpOp.Eq (Value.ref _) (Value.ref _)) _ _ _
  k_with "eval Name" => (k_here; k_dflt (refine ld (by k_asm) (by assumption) ?_); k_whole)
  k_dflt (refine t_key w [(aMD, listOf (List.toArray vMD) nMD), (aLD, listOf (List.toArray vLD) nLD), (aM, listOf (List.toArray vM) nM), (aL, listOf (List.toArray vL) nL)] [(143, tabObj #[])] _ _ _ _ _ _ _ _ _ _ _ _ _ _ _ _ _ _ _ _ _ _ K0 F14 X0 N14 T1 C52 ?_ rfl (by ktr_room) (by ktr_units) ?_)
  · exact bcons (off13 (48, tabObj #[]) (.tail _ (.tail _ (.tail _ (.head _)))) _ (.head _)).symm (bcons (off11 (48, tabObj #[]) (.tail _ (.tail _ (.head _))) _ (.head _)).symm (bcons (off9 (48, tabObj #[]) (.tail _ (.head _)) _ (.head _)).symm (bcons (off7 (48, tabObj #[]) (.head _) _ (.head _)).symm (bcons (show (143 : Nat) ≠ 48 by decide) bnil))))
  intro K cA tl ps h15 tk15 kk F15 N15 off15
  try dsimp only
  tb_rel
  rename Fr h₀ L _ _ => F16
  rename News h₀ L _ _ => N16
  rename_i hE
  refine with_m F16 ?_
  clear F16
  intro m8 F16 sub8
  have gh8 : m8 (Str.ofString "head") = some (.str (S hd) t3) := sub8 _ _ gh
  have gl8 : m8 (Str.ofString "letters") = some (.str (S l) t5) := sub8 _ _ gl'
  have gk8 : m8 (Str.ofString "k") = some (.int (kN : Int) tq) := sub8 _ _ gk'
  have gless : m8 (Str.ofString "less") = some (.ref aL) := sub8 _ _ rfl
  have gmore : m8 (Str.ofString "more") = some (.ref aM) := sub8 _ _ rfl
  have gld : m8 (Str.ofString "less_due") = some (.ref aLD) := sub8 _ _ rfl
  have gmd : m8 (Str.ofString "more_due") = some (.ref aMD) := sub8 _ _ rfl
  have gkind : m8 (Str.ofString "kind") = some (.ref K) := sub8 _ _ rfl
  clear sub8
  have nR := fun p (hp : p ∈ [(aMD, listOf (List.toArray vMD) nMD), (aLD, listOf (List.toArray vLD) nLD), (aM, listOf (List.toArray vM) nM), (aL, listOf (List.toArray vL) nL), (48, tabObj ps), (143, tabObj #[])]) => N16 p (List.mem_append_right tl hp)
  have nT : News h₀ L hE tl := fun p hp => N16 p (List.mem_append_left _ hp)
  replace N16 := ncons (nR _ (.tail _ (.tail _ (.tail _ (.tail _ (.tail _ (.head _))))))) (ncons (nR _ (.head _)) (ncons (nR _ (.tail _ (.head _))) (ncons (nR _ (.tail _ (.tail _ (.head _)))) (ncons (nR _ (.tail _ (.tail _ (.tail _ (.head _))))) (ncons (nR _ (.tail _ (.tail _ (.tail _ (.tail _ (.head _)))))) nT)))))
  clear nR nT
  have o143 : ∀ p ∈ (aMD, listOf (List.toArray vMD) nMD) :: (aLD, listOf (List.toArray vLD) nLD) :: (aM, listOf (List.toArray vM) nM) :: (aL, listOf (List.toArray vL) nL) :: (48, tabObj ps) :: tl, p.1 ≠ 143 :=
    bcons (off13 (143, tabObj #[]) (.tail _ (.tail _ (.tail _ (.tail _ (.head _))))) _ (.head _)).symm (bcons (off11 (143, tabObj #[]) (.tail _ (.tail _ (.tail _ (.head _)))) _ (.head _)).symm (bcons (off9 (143, tabObj #[]) (.tail _ (.tail _ (.head _))) _ (.head _)).symm (bcons (off7 (143, tabObj #[]) (.tail _ (.head _)) _ (.head _)).symm (bcons (show (48 : Nat) ≠ 143 by decide)
      (fun q hq => (off15 (143, tabObj #[]) (.tail _ (.tail _ (.tail _ (.tail _ (.tail _ (.head _)))))) q hq).symm)))))
  clear off15 off13 off11 off9 off7
  have hw1 := told_short hhd hl3 hk4'
  have hw2 := told_short hhd hl3 hk4
  have z1 := law_size (h := hd) (k := kN) hl23 (by lia) hls2
  have z2 := law_size (h := hd) (k := kN + 1) hl23 (by lia) hls2
  have pr1 := law_perm (h := hd) (k := kN) hl23 (by lia) hls2
  have pr2 := law_perm (h := hd) (k := kN + 1) hl23 (by lia) hls2
  k_dflt (refine t_sortKind w _ tl K cA aL vL nL (told hd l kN) hAL (by k_mem) hw1 (by lia) (by lia) _ _ _ _ _ _ _ _ _ _ _ _ _ _ _ _ _ _ _ _ _ _ K0 F16 X0 N16 T1 rfl (by ktr_room) (by ktr_units) kk (fun p hp => .tail _ (.tail _ (.tail _ (.tail _ (.tail _ (.tail _ hp)))))) ?_)
  intro D17 zs17 c17 h17 tk17 F17 N17 lt17 hA17
  try dsimp only
  tb_rel
  have l143 : (143 : Nat) < D17 := lt17 _ (.head _)
  k_dflt (refine kla_eval rfl (kla_nest F17 N17 T1 C145 rfl (UpdF.tail (Nat.ne_of_gt l143) (UpdF.head o143)) (by kn_triples) (by kn_among) rfl ?_))
  intro f18 c18 oc18 vs18 t18 ct18 h18 tk18 F18 N18 d18 d18' l18 l18'
  try dsimp only at N18
  try dsimp only
  tb_rel
  have hw3 : ∀ y ∈ bag hd l kN, y.length ≤ 1000 := fun y hy => hw1 y (pr1.mem_iff.mpr hy)
  have hw4 : ∀ y ∈ bag hd l (kN + 1), y.length ≤ 1000 := fun y hy => hw2 y (pr2.mem_iff.mpr hy)
  have z3 := pr1.length_eq
  have z4 := pr2.length_eq
  k_dflt (refine t_sortLam F18 N18 (by k_mem) hALD hw3 (by lia) (by lia) ?_ ?_)
  · intro y t19 ex19 h19 tk19 hy19 F19 N19
    refine wpAny_call ?_
    refine' kla_code (s := ⟨_, _, _, _, _⟩) K0 F19 X0 N19 T1 rfl rfl rfl (List.mem_append_right _ (List.Mem.head _)) (codeRec_news N19 (List.mem_append_right _ (List.Mem.tail _ (List.Mem.head _))) d18 d18') ?kq0 ?kq1 ?kq2 ?kq3 ?kq4 ?kq5 ?kq6 ?kq7
    case kq1 => exact rfl
    case kq0 => show 302 < recursionLimit; decide
    case kq2 => exact locs rfl
    case kq4 => exact rfl
    case kq5 => exact rfl
    case kq6 => exact rfl
    case kq7 => decide
    intro g20 L20 h20 FG20 F20 N20 B20 X20 T20
    try dsimp only
    k_with_none
    k_with "WhileStep2 brk" => dsimp only [WhileStep2]
    k_with "binaryOp Add str str" => ((refine PyProof.Rows.add_str ?_ (hsz := by ktn_open)); intro _ _)
    k_with "subscriptTail Name Slice str ref" => ((with_reducible show wpAny _ _ (subscriptTail _ (Expr.Slice none (some _) none _) _ _) _ _ _); (refine slice_strN_ns (hsz := by ktn_open) (s := ⟨_, _, _, _, _⟩) (by k_asm) (by k_asm) ?_); intro _ _ _ _ _)
    k_with "subscriptTail Name Slice str ref" => ((with_reducible show wpAny _ _ (subscriptTail _ (Expr.Slice (some _) none none _) _ _) _ _ _); (refine slice_strN_sn (hsz := by ktn_open) (s := ⟨_, _, _, _, _⟩) (by k_asm) (by k_asm) ?_); intro _ _ _ _ _)
    k_with "call builtin:len" => ((with_reducible show wpAny _ _ (call (Value.builtin "len") [Value.str (S _) _]) _ _ _); refine lenS (by ktn_open) ?_)
    k_with "eval ListComp" => (k_here; (with_reducible show wpAny _ _ (eval (Expr.ListComp _ [⟨_, _, [], _⟩] _ _) _) _ _ _); k_dflt (refine LCg.ListComp_U (F₀ := by k_asm) (by with_unfolding_all rfl) (by decide) (by rfl) (by decide) (by rfl) ?_))
    k_with "eval ListComp" => (k_here; (with_reducible show wpAny _ _ (eval (Expr.ListComp _ [⟨_, _, [_], _⟩] _ _) _) _ _ _); k_dflt (refine LCt.ListComp_T (F₀ := by k_asm) (by with_unfolding_all rfl) (by decide) (by rfl) (by decide) (by rfl) ?_))
    k_with "exec Assign cons ListComp" => (k_here; k_dflt (refine LCg.Assign_ListComp_U (F₀ := by k_asm) (by rfl) (by with_unfolding_all rfl) (by with_unfolding_all rfl) (by decide) (by rfl) (by decide) (by rfl) (by rfl) (by rfl) ?_))
    k_with "getMethod ref" => k_dflt (first | refine meth_L PySem.F.slot_list_count PySem.F.type_list_count (by k_asm) (by k_mem) ?_ | refine meth_L PySem.F.slot_list_append PySem.F.type_list_append (by k_asm) (by k_mem) ?_ | refine meth_L PySem.F.slot_list_pop PySem.F.type_list_pop (by k_asm) (by k_mem) ?_ | refine meth_L PySem.F.slot_list_remove PySem.F.type_list_remove (by k_asm) (by k_mem) ?_ | refine meth_L PySem.F.slot_list_extend PySem.F.type_list_extend (by k_asm) (by k_mem) ?_)
    k_with "stop" => with_reducible first | show wpAny _ _ (PySem.call (Value.ref _) _ _) _ _ _ | show wpAny _ _ (exec (Stmt.While _ _ _ _) _) _ _ _ | show wpAny _ _ (exec (Stmt.For _ _ _ _ _) _) _ _ _ | show wpAny _ _ (exec (Stmt.Try _ _ _ _ _) _) _ _ _ | show wpAny _ _ (pyIter _) _ _ _ | show wpAny _ _ (binaryOp Operator.Mult (Value.ref _) (Value.int _ _)) _ _ _ | show LCg.CompSrc _ _ _ _ _ _ _ _ _ _ _ _ _ _ | show wpAny _ _ (binaryOp Operator.Add (Value.ref _) (Value.ref _)) _ _ _ | show wpAny _ _ (PySem.call (Value.builtin "sorted") _ _) _ _ _ | show wpAny _ _ (PySem.call (Value.builtin "list.count") _ _) _ _ _ | show wpAny _ _ (PySem.call (Value.builtin "list.extend") _ _) _ _ _ | show wpAny _ _ (PySem.call (Value.builtin "list.append") _ _) _ _ _ | show wpAny _ _ (PySem.call (Value.builtin "len") [Value.ref _] _) _ _ _ | show wpAny _ _ (subscriptTail _ _ (Value.ref _) _) _ _ _ | show LCt.CompSrcT _ _ _ _ _ _ _ _ _ _ _ _ _ _ _ | show Exists _ | show wpAny _ _ (compareOp CmpOp.NotEq (Value.ref _) (Value.ref _)) _ _ _ | show wpAny _ _ (compareOp CmpOp.Eq (Value.ref _) (Value.ref _)) _ _ _
    tb_rel
    rename_i Da ha Fa Na la Fb Nb Tb Xb
    exact ⟨_, _, _, _, _, rfl, rfl, Fb, Nb, fun q hq => Nat.ne_of_lt (la q hq)⟩
  intro D21 zs21 c21 h21 tk21 F21 N21 lt21 hA21
  rw [← sortL_perm pr1] at hA21
  refine ne_L N21 (by k_mem) (List.Mem.head _) hA17 hA21 (fine_sortL (fine_told hfd hfl)) (by units_room) ?_
  replace N21 := ntl (ntl (ntl (ntl N21)))
  clear N18 N17
  try dsimp only
  k_with "eval Name" => (k_here; k_dflt (refine ld (by k_asm) (by assumption) ?_); k_whole)
  tb_rel
  have o143 : ∀ p ∈ (aMD, listOf (List.toArray vMD) nMD) :: (aLD, listOf (List.toArray vLD) nLD) :: (aM, listOf (List.toArray vM) nM) :: (aL, listOf (List.toArray vL) nL) :: (48, tabObj ps) :: tl, p.1 ≠ 143 := o143
  k_dflt (refine t_sortKind w _ tl K cA aM vM nM (told hd l (kN + 1)) hAM (by k_mem) hw2 (by lia) (by lia) _ _ _ _ _ _ _ _ _ _ _ _ _ _ _ _ _ _ _ _ _ _ K0 F21 X0 N21 T1 rfl (by ktr_room) (by ktr_units) kk (fun p hp => .tail _ (.tail _ (.tail _ (.tail _ (.tail _ (.tail _ hp)))))) ?_)
  intro D27 zs27 c27 h27 tk27 F27 N27 lt27 hA27
  try dsimp only
  tb_rel
  have l143' : (143 : Nat) < D27 := lt27 _ (.head _)
  k_dflt (refine kla_eval rfl (kla_nest F27 N27 T1 C145 rfl (UpdF.tail (Nat.ne_of_gt l143') (UpdF.head o143)) (by kn_triples) (by kn_among) rfl ?_))
  intro f28 c28 oc28 vs28 t28 ct28 h28 tk28 F28 N28 d28 d28' l28 l28'
  try dsimp only at N28
  try dsimp only
  tb_rel
  k_dflt (refine t_sortLam F28 N28 (by k_mem) hAMD hw4 (by lia) (by lia) ?_ ?_)
  · intro y t29 ex29 h29 tk29 hy29 F29 N29
    refine wpAny_call ?_
    refine' kla_code (s := ⟨_, _, _, _, _⟩) K0 F29 X0 N29 T1 rfl rfl rfl (List.mem_append_right _ (List.Mem.head _)) (codeRec_news N29 (List.mem_append_right _ (List.Mem.tail _ (List.Mem.head _))) d28 d28') ?kr0 ?kr1 ?kr2 ?kr3 ?kr4 ?kr5 ?kr6 ?kr7
    case kr1 => exact rfl
    case kr0 => show 302 < recursionLimit; decide
    case kr2 => exact locs rfl
    case kr4 => exact rfl
    case kr5 => exact rfl
    case kr6 => exact rfl
    case kr7 => decide
    intro g30 L30 h30 FG30 F30 N30 B30 X30 T30
    try dsimp only
    k_with_none
    k_with "WhileStep2 brk" => dsimp only [WhileStep2]
    k_with "binaryOp Add str str" => ((refine PyProof.Rows.add_str ?_ (hsz := by ktn_open)); intro _ _)
    k_with "subscriptTail Name Slice str ref" => ((with_reducible show wpAny _ _ (subscriptTail _ (Expr.Slice none (some _) none _) _ _) _ _ _); (refine slice_strN_ns (hsz := by ktn_open) (s := ⟨_, _, _, _, _⟩) (by k_asm) (by k_asm) ?_); intro _ _ _ _ _)
    k_with "subscriptTail Name Slice str ref" => ((with_reducible show wpAny _ _ (subscriptTail _ (Expr.Slice (some _) none none _) _ _) _ _ _); (refine slice_strN_sn (hsz := by ktn_open) (s := ⟨_, _, _, _, _⟩) (by k_asm) (by k_asm) ?_); intro _ _ _ _ _)
    k_with "call builtin:len" => ((with_reducible show wpAny _ _ (call (Value.builtin "len") [Value.str (S _) _]) _ _ _); refine lenS (by ktn_open) ?_)
    k_with "eval ListComp" => (k_here; (with_reducible show wpAny _ _ (eval (Expr.ListComp _ [⟨_, _, [], _⟩] _ _) _) _ _ _); k_dflt (refine LCg.ListComp_U (F₀ := by k_asm) (by with_unfolding_all rfl) (by decide) (by rfl) (by decide) (by rfl) ?_))
    k_with "eval ListComp" => (k_here; (with_reducible show wpAny _ _ (eval (Expr.ListComp _ [⟨_, _, [_], _⟩] _ _) _) _ _ _); k_dflt (refine LCt.ListComp_T (F₀ := by k_asm) (by with_unfolding_all rfl) (by decide) (by rfl) (by decide) (by rfl) ?_))
    k_with "exec Assign cons ListComp" => (k_here; k_dflt (refine LCg.Assign_ListComp_U (F₀ := by k_asm) (by rfl) (by with_unfolding_all rfl) (by with_unfolding_all rfl) (by decide) (by rfl) (by decide) (by rfl) (by rfl) (by rfl) ?_))
    k_with "getMethod ref" => k_dflt (first | refine meth_L PySem.F.slot_list_count PySem.F.type_list_count (by k_asm) (by k_mem) ?_ | refine meth_L PySem.F.slot_list_append PySem.F.type_list_append (by k_asm) (by k_mem) ?_ | refine meth_L PySem.F.slot_list_pop PySem.F.type_list_pop (by k_asm) (by k_mem) ?_ | refine meth_L PySem.F.slot_list_remove PySem.F.type_list_remove (by k_asm) (by k_mem) ?_ | refine meth_L PySem.F.slot_list_extend PySem.F.type_list_extend (by k_asm) (by k_mem) ?_)
    k_with "stop" => with_reducible first | show wpAny _ _ (PySem.call (Value.ref _) _ _) _ _ _ | show wpAny _ _ (exec (Stmt.While _ _ _ _) _) _ _ _ | show wpAny _ _ (exec (Stmt.For _ _ _ _ _) _) _ _ _ | show wpAny _ _ (exec (Stmt.Try _ _ _ _ _) _) _ _ _ | show wpAny _ _ (pyIter _) _ _ _ | show wpAny _ _ (binaryOp Operator.Mult (Value.ref _) (Value.int _ _)) _ _ _ | show LCg.CompSrc _ _ _ _ _ _ _ _ _ _ _ _ _ _ | show wpAny _ _ (binaryOp Operator.Add (Value.ref _) (Value.ref _)) _ _ _ | show wpAny _ _ (PySem.call (Value.builtin "sorted") _ _) _ _ _ | show wpAny _ _ (PySem.call (Value.builtin "list.count") _ _) _ _ _ | show wpAny _ _ (PySem.call (Value.builtin "list.extend") _ _) _ _ _ | show wpAny _ _ (PySem.call (Value.builtin "list.append") _ _) _ _ _ | show wpAny _ _ (PySem.call (Value.builtin "len") [Value.ref _] _) _ _ _ | show wpAny _ _ (subscriptTail _ _ (Value.ref _) _) _ _ _ | show LCt.CompSrcT _ _ _ _ _ _ _ _ _ _ _ _ _ _ _ | show Exists _ | show wpAny _ _ (compareOp CmpOp.NotEq (Value.ref _) (Value.ref _)) _ _ _ | show wpAny _ _ (compareOp CmpOp.Eq (Value.ref _) (Value.ref _)) _ _ _
    tb_rel
    rename_i Da ha Fa Na la Fb Nb Tb Xb
    exact ⟨_, _, _, _, _, rfl, rfl, Fb, Nb, fun q hq => Nat.ne_of_lt (la q hq)⟩
  intro D31 zs31 c31 h31 tk31 F31 N31 lt31 hA31
  rw [← sortL_perm pr2] at hA31
  refine ne_L N31 (by k_mem) (List.Mem.head _) hA27 hA31 (fine_sortL (fine_told hfd hfl)) (by units_room) ?_
  replace N31 := ntl (ntl (ntl (ntl N31)))
  obtain ⟨p143, N32⟩ : ∃ p143, News h₀ L h31 [(143, tabObj p143), (aMD, listOf (List.toArray vMD) nMD), (aLD, listOf (List.toArray vLD) nLD), (aM, listOf (List.toArray vM) nM), (aL, listOf (List.toArray vL) nL), (48, tabObj ps)] := ⟨_, fun p hp => N31 p (List.mem_append_left tl hp)⟩
  clear N31 N28 N27 N21
  try dsimp only
  k_with "eval Name" => (k_here; k_dflt (refine ld (by k_asm) (by assumption) ?_); k_whole)
  tb_rel
  w_top off
  k_with_none
  k_with "WhileStep2 brk" => dsimp only [WhileStep2]
  k_with "binaryOp Add str str" => ((refine PyProof.Rows.add_str ?_ (hsz := by ktn_open)); intro _ _)
  k_with "subscriptTail Name Slice str ref" => ((with_reducible show wpAny _ _ (subscriptTail _ (Expr.Slice none (some _) none _) _ _) _ _ _); (refine slice_strN_ns (hsz := by ktn_open) (s := ⟨_, _, _, _, _⟩) (by k_asm) (by k_asm) ?_); intro _ _ _ _ _)
  k_with "subscriptTail Name Slice str ref" => ((with_reducible show wpAny _ _ (subscriptTail _ (Expr.Slice (some _) none none _) _ _) _ _ _); (refine slice_strN_sn (hsz := by ktn_open) (s := ⟨_, _, _, _, _⟩) (by k_asm) (by k_asm) ?_); intro _ _ _ _ _)
  k_with "call builtin:len" => ((with_reducible show wpAny _ _ (call (Value.builtin "len") [Value.str (S _) _]) _ _ _); refine lenS (by ktn_open) ?_)
  k_with "eval ListComp" => (k_here; (with_reducible show wpAny _ _ (eval (Expr.ListComp _ [⟨_, _, [], _⟩] _ _) _) _ _ _); k_dflt (refine LCg.ListComp_U (F₀ := by k_asm) (by with_unfolding_all rfl) (by decide) (by rfl) (by decide) (by rfl) ?_))
  k_with "eval ListComp" => (k_here; (with_reducible show wpAny _ _ (eval (Expr.ListComp _ [⟨_, _, [_], _⟩] _ _) _) _ _ _); k_dflt (refine LCt.ListComp_T (F₀ := by k_asm) (by with_unfolding_all rfl) (by decide) (by rfl) (by decide) (by rfl) ?_))
  k_with "exec Assign cons ListComp" => (k_here; k_dflt (refine LCg.Assign_ListComp_U (F₀ := by k_asm) (by rfl) (by with_unfolding_all rfl) (by with_unfolding_all rfl) (by decide) (by rfl) (by decide) (by rfl) (by rfl) (by rfl) ?_))
  k_with "getMethod ref" => k_dflt (first | refine meth_L PySem.F.slot_list_count PySem.F.type_list_count (by k_asm) (by k_mem) ?_ | refine meth_L PySem.F.slot_list_append PySem.F.type_list_append (by k_asm) (by k_mem) ?_ | refine meth_L PySem.F.slot_list_pop PySem.F.type_list_pop (by k_asm) (by k_mem) ?_ | refine meth_L PySem.F.slot_list_remove PySem.F.type_list_remove (by k_asm) (by k_mem) ?_ | refine meth_L PySem.F.slot_list_extend PySem.F.type_list_extend (by k_asm) (by k_mem) ?_)
  k_with "stop" => with_reducible first | show wpAny _ _ (PySem.call (Value.ref _) _ _) _ _ _ | show wpAny _ _ (exec (Stmt.While _ _ _ _) _) _ _ _ | show wpAny _ _ (exec (Stmt.For _ _ _ _ _) _) _ _ _ | show wpAny _ _ (exec (Stmt.Try _ _ _ _ _) _) _ _ _ | show wpAny _ _ (pyIter _) _ _ _ | show wpAny _ _ (binaryOp Operator.Mult (Value.ref _) (Value.int _ _)) _ _ _ | show LCg.CompSrc _ _ _ _ _ _ _ _ _ _ _ _ _ _ | show wpAny _ _ (binaryOp Operator.Add (Value.ref _) (Value.ref _)) _ _ _ | show wpAny _ _ (PySem.call (Value.builtin "sorted") _ _) _ _ _ | show wpAny _ _ (PySem.call (Value.builtin "list.count") _ _) _ _ _ | show wpAny _ _ (PySem.call (Value.builtin "list.extend") _ _) _ _ _ | show wpAny _ _ (PySem.call (Value.builtin "list.append") _ _) _ _ _ | show wpAny _ _ (PySem.call (Value.builtin "len") [Value.ref _] _) _ _ _ | show wpAny _ _ (subscriptTail _ _ (Value.ref _) _) _ _ _ | show LCt.CompSrcT _ _ _ _ _ _ _ _ _ _ _ _ _ _ _ | show Exists _ | show wpAny _ _ (compareOp CmpOp.NotEq (Value.ref _) (Value.ref _)) _ _ _ | show wpAny _ _ (compareOp CmpOp.Eq (Value.ref _) (Value.ref _)) _ _ _
  k_with "eval Name" => (k_here; k_dflt (refine ld (by k_asm) (by assumption) ?_); k_whole)
  clear kk o143
  have st1 := strike (told hd l (kN + 1)) [] (bag hd l (kN + 1)) (by rw [List.append_nil]; exact pr2)
  have st2 := strike (told hd l kN) (bag hd l (kN + 1)) (bag hd l (kN + 1) ++ bag hd l kN) (List.perm_append_comm.trans (pr1.append_left _))
  k_dflt (refine Ctr.useL (t_reduce w (bag hd l (kN + 1)) (told hd l (kN + 1)) _ hAMD hAM (by k_mem) (by k_mem) (by lia) (by lia) (by lia) st1.2) K0 F31 X0 N32 T1 rfl (by ktr_room) (by ktr_units) ?_)
  intro a33 v33 n33 h33 tk33 F33 N33 off33 hA33
  rw [List.Perm.eq_nil st1.1] at hA33
  try dsimp only
  tb_rel
  rename Fr h₀ L _ m8 => F34
  rename News h₀ L _ ((_, _) :: (a33, _) :: _) => N34
  refine ne_L N34 (.tail _ (.head _)) (.head _) (ws := []) hA33 .nil (fun _ h => nomatch h) (by units_room) ?_
  replace N34 := ntl (ntl N34)
  try dsimp only
  tb_rel
  refine add_L F34 N34 (by k_mem) (by k_mem) hAMD hALD (by rw [sizeLine_eq]; lia) ?_
  intro D35 zs35 h35 F35 N35 lt35 hA35
  try dsimp only
  tb_rel
  k_dflt (refine Ctr.useL (t_reduce w (bag hd l (kN + 1) ++ bag hd l kN) (told hd l kN) _ hA35 hAL (List.Mem.head _) (by k_mem) (by rw [List.length_append]; lia) (by lia) (by lia) st2.2) K0 F35 X0 N35 T1 rfl (by ktr_room) (by ktr_units) ?_)
  intro a36 v36 n36 h36 tk36 F36 N36 off36 hA36
  try dsimp only
  tb_rel
  refine sort_L F36 N36 (.head _) hA36 (by rw [st2.1.length_eq]; lia) ?_
  intro D37 zs37 e37 h37 F37 N37 lt37 hA37
  rw [sortW_perm st2.1] at hA37
  try dsimp only
  tb_rel
  refine sort_L F37 N37 (by k_mem) hAMD (by lia) ?_
  intro D38 zs38 e38 h38 F38 N38 lt38 hA38
  try dsimp only
  tb_rel
  have fMD : Fine (bag hd l (kN + 1)) := (fine_told hfd hfl).perm pr2
  have fLD : Fine (bag hd l kN) := (fine_told hfd hfl).perm pr1
  refine ne_L N38 (.tail _ (.head _)) (.head _) hA37 hA38 (fine_sortW fMD) (by units_room) ?_
  replace N38 := ntl (ntl (ntl (ntl N38)))
  try dsimp only
  tb_rel
  refine sort_L F38 N38 (by k_mem) hAL (by lia) ?_
  intro D39 zs39 e39 h39 F39 N39 lt39 hA39
  try dsimp only
  tb_rel
  refine sort_L F39 N39 (by k_mem) hAM (by lia) ?_
  intro D40 zs40 e40 h40 F40 N40 lt40 hA40
  try dsimp only
  tb_rel
  have q1 := (isort_perm ltW (told hd l kN)).length_eq
  have q2 := (isort_perm ltW (told hd l (kN + 1))).length_eq
  have y1 : (sortW (told hd l kN)).length < 1000 := by show (isort ltW _).length < 1000; lia
  have y2 : (sortW (told hd l (kN + 1))).length < 1000 := by show (isort ltW _).length < 1000; lia
  have y3 : ∀ y ∈ sortW (told hd l kN), y.length ≤ 1000 := fun y hy => hw1 y ((isort_perm ltW _).mem_iff.mp hy)
  have y4 : ∀ y ∈ sortW (told hd l (kN + 1)), y.length ≤ 1000 := fun y hy => hw2 y ((isort_perm ltW _).mem_iff.mp hy)
  refine t_sld w _ hA40 hA39 y2 y1 y4 y3 (List.Mem.head _) (List.Mem.tail _ (List.Mem.head _)) F40 N40 X0 T1 rfl ?_
  intro T41 am41 au41 vm41 vu41 nm41 nu41 h41 tk41 F41 N41 lt41 ltm41 ltu41 hm41 hu41
  have esl := law_sld (h := hd) (k := kN) hl23 hk hls2
  rw [esl] at hm41 hu41
  refine with_nw N41 ?_
  intro nw N42 subw
  have mT := subw _ (.head _)
  have mam := subw _ (.tail _ (.head _))
  have mau := subw _ (.tail _ (.tail _ (.head _)))
  have m143 := subw _ (.tail _ (.tail _ (.tail _ (.tail _ (.tail _ (.head _))))))
  have mMD := subw _ (.tail _ (.tail _ (.tail _ (.tail _ (.tail _ (.tail _ (.head _)))))))
  have mLD := subw _ (.tail _ (.tail _ (.tail _ (.tail _ (.tail _ (.tail _ (.tail _ (.head _))))))))
  have mM := subw _ (.tail _ (.tail _ (.tail _ (.tail _ (.tail _ (.tail _ (.tail _ (.tail _ (.head _)))))))))
  have mL := subw _ (.tail _ (.tail _ (.tail _ (.tail _ (.tail _ (.tail _ (.tail _ (.tail _ (.tail _ (.head _))))))))))
  have m48 := subw _ (.tail _ (.tail _ (.tail _ (.tail _ (.tail _ (.tail _ (.tail _ (.tail _ (.tail _ (.tail _ (.head _)))))))))))
  clear subw
  clear N41 N40 N39 N38 N36 lt41 lt40 lt39 lt38 lt37 ltm41 ltu41
  try dsimp only
  tb_rel
  k_dflt (refine Ctr.use (t_change w hd l kN _ _ _ _ nw hhd hl3 (by lia) (law_chg hl23 hk) rfl) K0 F41 X0 N42 T1 rfl (by ktr_room) (by ktr_units) ?_)
  intro r43 tl43 h43 tk43 F43 N43 off43 ho43
  obtain ⟨T43, a43, b43, v43, w43, n43, k43, e43, rfl, rfl, hA43, hB43⟩ := ho43
  simp only [List.cons_append, List.nil_append] at N43
  try dsimp only
  tb_rel
  obtain ⟨as41, R41⟩ := reads_T N43 (.tail _ (.tail _ (.tail _ mT))) (.tail _ (.tail _ (.tail _ mam))) (.tail _ (.tail _ (.tail _ mau))) hm41 hu41
  obtain ⟨as43, R43⟩ := reads_T N43 (.head _) (.tail _ (.head _)) (.tail _ (.tail _ (.head _))) hA43 hB43
  refine ne_same R41 R43 (shaped_tup (fine_sortW (fine_put hfd (fine_gone hfl))) (fine_sortW (fine_put hfd (fine_come hfl)))) (by units_room) ?_
  replace N43 := ntl (ntl (ntl N43))
  clear R41 R43 mT mam mau off43
  try dsimp only
  tb_rel
  refine slice_all_L (s := ⟨_, _, _, _, _⟩) F43 N43 mM hAM (by lia) ?_
  intro D44 h44 F44 N44 lt44
  try dsimp only
  tb_rel
  refine slice_all_L (s := ⟨_, _, _, _, _⟩) F44 N44 (.tail _ mL) hAL (by lia) ?_
  intro D45 h45 F45 N45 lt45
  try dsimp only
  tb_rel
  have ne45 : D44 < D45 := lt45 _ (.head _)
  refine t_uld0 w nw hAL hAM (by lia) (by lia) (Nat.ne_of_gt ne45) (fun p hp => Nat.ne_of_lt (lt45 p (.tail _ hp))) (fun p hp => Nat.ne_of_lt (lt44 p hp)) F45 N45 X0 T1 rfl ?_
  intro T46 am46 vm46 va46 nm46 na46 h46 tk46 F46 N46 lt46 ltT46 lta46 hm46 ha46
  obtain ⟨eu1, eu2⟩ := law_uld pr2 pr1
  try dsimp only
  k_with "eval ListComp" => (k_here; k_dflt (refine ListComp_tup (_F₀ := by k_asm) (by with_unfolding_all rfl) (by decide) (by rfl) (by decide) (by rfl) ?_))
  tb_rel
  rename Fr h₀ L _ _ => F47
  rename News h₀ L _ ((T46, _) :: _) => N47
  have ul := uld_len (told hd l (kN + 1)).reverse ([], told hd l kN)
  have ul1 : (uld (told hd l (kN + 1)) (told hd l kN)).1.length < 64 := by
    have h := ul.1
    rw [List.length_reverse] at h
    exact Nat.lt_of_le_of_lt h (by simp only [List.length_nil]; lia)
  have ul2 : (uld (told hd l (kN + 1)) (told hd l kN)).2.length < 64 := Nat.lt_of_le_of_lt ul.2 (by show (told hd l kN).length < 64; lia)
  refine ⟨T46, #[.ref am46, .ref D45], 0, _, rfl, rfl, F47, N47, .head _, (by rw [sizeLine_eq]; show 2 ≤ _; lia), fun g47 => ?_⟩
  show LCg.CompRest _ _ _ _ _ _ _ _ _ _ _ _ _ _ _ 2 0 [] _
  refine LCg.CompRest.succ ?_
  intro v48 I48 oI48 C48 oC48 D48 m48' h48 tk48 E48 hP48 hC48 hx48 F48 N48 off48 ne48
  obtain rfl : Value.ref am46 = v48 := by simpa using hP48
  try dsimp only
  tb_rel
  refine sort_L F48 N48 (by k_mem) hm46 ul1 ?_
  intro E49 zs49 e49 h49 F49 N49 lt49 hA49
  rw [eu1] at hA49
  refine LCg.CompEnd.intro F49 N49 ((E49, listOf (List.toArray zs49) e49) :: (T46, tup2 am46 D45 0) :: (am46, listOf (List.toArray vm46) nm46) :: (D45, listOf (List.toArray va46) na46) :: nw) (bcons (.tail _ (.head _)) (bcons (.tail _ (.tail _ (.head _))) (bcons (.tail _ (.tail _ (.tail _ (.head _)))) (bcons (.head _) fun _ hp => .tail _ (.tail _ (.tail _ (.tail _ hp))))))) ?_ (.tail _ (.head _)) ?_
  · exact ⟨⟨Nat.ne_of_gt (lt49 _ (.head _)), Nat.ne_of_gt (lt49 _ (.tail _ (.head _))), Nat.ne_of_gt (lt49 _ (.tail _ (.tail _ (.head _))))⟩, off48⟩
  show LCg.CompRest _ _ _ _ _ _ _ _ _ _ _ _ _ _ _ 1 1 [Value.ref E49] _
  refine LCg.CompRest.succ ?_
  intro v50 I50 oI50 C50 oC50 D50 m50' h50 tk50 E50' hP50 hC50 hx50 F50 N50 off50 ne50
  obtain rfl : Value.ref D45 = v50 := by simpa using hP50
  try dsimp only
  tb_rel
  refine sort_L F50 N50 (by k_mem) ha46 ul2 ?_
  intro E51 zs51 e51 h51 F51 N51 lt51 hA51
  rw [eu2] at hA51
  refine LCg.CompEnd.intro F51 N51 ((E51, listOf (List.toArray zs51) e51) :: (E49, listOf (List.toArray zs49) e49) :: (T46, tup2 am46 D45 0) :: (am46, listOf (List.toArray vm46) nm46) :: (D45, listOf (List.toArray va46) na46) :: nw) (bcons (.tail _ (.head _)) (bcons (.tail _ (.tail _ (.head _))) (bcons (.tail _ (.tail _ (.tail _ (.head _)))) (bcons (.head _) fun _ hp => .tail _ (.tail _ (.tail _ (.tail _ hp))))))) ?_ (.tail _ (.tail _ (.head _))) ?_
  · exact ⟨⟨Nat.ne_of_gt (lt51 _ (.head _)), Nat.ne_of_gt (lt51 _ (.tail _ (.head _))), Nat.ne_of_gt (lt51 _ (.tail _ (.tail _ (.head _))))⟩, off50⟩
  show LCg.CompRest _ _ _ _ _ _ _ _ _ _ _ _ _ _ _ 0 2 [Value.ref E49, Value.ref E51] _
  refine LCg.CompRest.zero ?_
  intro D52 h52 tk52 F52 N52 off52
  refine with_nw N52 ?_
  clear N52
  intro nx N52 subx
  have x52 := subx _ (.head _)
  have xE51 := subx _ (.tail _ (.head _))
  have xE49 := subx _ (.tail _ (.tail _ (.head _)))
  have xnw := fun q hq => subx q (.tail _ (.tail _ (.tail _ (.tail _ (.tail _ (.tail _ hq))))))
  have xMD := xnw _ mMD
  have xLD := xnw _ mLD
  have x143 := xnw _ m143
  have x48 := xnw _ m48
  clear subx xnw
  k_with "eval Name" => (k_here; k_dflt (refine ld (by k_asm) (by assumption) ?_); k_whole)
  try dsimp only
  tb_rel
  k_dflt (refine Ctr.useL (t_extra w nx xMD xLD hAMD hALD (by lia) (by lia)) K0 F52 X0 N52 T1 rfl (by ktr_room) (by ktr_units) ?_)
  intro a53 v53 n53 h53 tk53 F53 N53 off53 hA53
  try dsimp only
  tb_rel
  k_dflt (refine Ctr.useL (t_extra w _ (.tail _ xLD) (.tail _ xMD) hALD hAMD (by lia) (by lia)) K0 F53 X0 N53 T1 rfl (by ktr_room) (by ktr_units) ?_)
  intro a54 v54 n54 h54 tk54 F54 N54 off54 hA54
  try dsimp only
  tb_rel
  rename Fr h₀ L _ _ => F55
  rename News h₀ L _ ((_, listOf #[Value.ref a53, Value.ref a54] 0) :: _) => N55
  obtain ⟨as55, R55⟩ := reads_2 (e := 2) N55 (.tail _ (.tail _ (.tail _ x52))) (.tail _ (.tail _ (.tail _ xE49))) (.tail _ (.tail _ (.tail _ xE51))) hA49 hA51
  obtain ⟨bs55, S55⟩ := reads_2 N55 (.head _) (.tail _ (.tail _ (.head _))) (.tail _ (.head _)) hA53 hA54
  refine eq_same R55 S55 (shaped_two (fine_extra fMD) (fine_extra fLD)) (by units_room) ?_
  exact ⟨_, _, _, _, _, _, rfl, rfl, F55, N55, .tail _ (.tail _ (.tail _ x48)), .tail _ (.tail _ (.tail _ x143))⟩)
end Mine
theorem PySem.Challenge.cw_nq0066_01_holds : PySem.Challenge.rw_nq0066_01.Holds := by
  exact Mine.law_holds
