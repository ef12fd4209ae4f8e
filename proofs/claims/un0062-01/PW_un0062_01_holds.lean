import PyProof.Rows.All
import Wide.All
import OpenK.AllK
import Wide.FinOn
import Lean
import PySem.Challenge.RW_un0062_01
open PySem PySem.W PyProof.Rows
set_option Elab.async false
set_option maxRecDepth 100000
set_option maxHeartbeats 8000000
namespace Mine
open_top hd for PySem.Challenge.rw_un0062_01
end Mine
local macro_rules | `(tactic| k_room) => `(tactic| k_extra "k_room")
local macro_rules | `(tactic| k_units) => `(tactic| k_extra "k_units")
local macro_rules | `(tactic| k_handed) => `(tactic| k_extra "k_handed")
local macro_rules | `(tactic| ke_read) => `(tactic| k_extra "ke_read")
local macro_rules | `(tactic| k_upd) => `(tactic| k_extra "k_upd")
local macro_rules | `(tactic| tb_src) => `(tactic| k_extra "tb_src")
local macro_rules | `(tactic| tb_look) => `(tactic| k_extra "tb_look")
local macro_rules | `(tactic| tb_iter) => `(tactic| k_extra "tb_iter")
local macro_rules | `(tactic| tb_any) => `(tactic| k_extra "tb_any")
local macro_rules | `(tactic| lcg_sub) => `(tactic| k_extra "lcg_sub")
local macro_rules | `(tactic| lcg_src) => `(tactic| k_extra "lcg_src")
local macro_rules | `(tactic| k_all) => `(tactic| k_extra "k_all")
local macro_rules | `(tactic| k_ne) => `(tactic| k_extra "k_ne")
local macro_rules | `(tactic| size_fits) => `(tactic| k_extra "size_fits")
local macro_rules | `(tactic| k_mem) => `(tactic| assumption)
local macro_rules | `(tactic| ke_room) => `(tactic| k_units)
local macro_rules | `(tactic| walk_at $s:str) => `(tactic| k_extra $s)
section
open PySem PySem.W PyProof.Rows PySem.Calls PySem.Spec
set_option maxHeartbeats 4000000
namespace Mine
noncomputable abbrev KK (w : World) : Frag := hd.heap_39 w.params
abbrev PG : Program := PySem.Challenge.rw_un0062_01.row.prog
abbrev TOPX (mean : ExcName → Option Value) (mg mb : Str → Option Value) (h : Heap) : Prop := Top hd.view_39 (looseW hd.view_39 [Str.ofString "_safe_string", Str.ofString "FrameSummary"]) mean mg mb h
abbrev frObjO (dx : Addr) (cod lines ded col ecol endl file num : Value) (locs : Option Value) (name : Value) : Obj := { cls := .ref 120, dict := some dx, data := .plain, slots := #[some cod, some lines, some ded, some col, some ecol, some endl, some file, some num, locs, some name] }
abbrev frObj (dx : Addr) (cod lines ded col ecol endl file num locs name : Value) : Obj := frObjO dx cod lines ded col ecol endl file num (some locs) name
theorem recLim : recursionLimit = 1000 := by rfl
theorem cRoomIs : cLine = 9900 := by rfl

/- what a contract asks of its caller: the caller's frame, the ledger, the written heap -/
structure Cx (k : Nat) (w : World) (A : Around) (h₀ : Heap) (L : Addr) (s : Shared) (m : Str → Option Value) (news : List (Addr × Obj)) : Prop where
  ex : ∃ A₀ base env outer mean mg mb, A.handled = none ∧ A.frames = some (env :: outer) ∧ env.frame = some L ∧ env.scope.kind = .function ∧ Below A₀ base outer h₀ ∧ TOPX mean mg mb h₀
  room : A.depth + k < recursionLimit
  unit : A.units + 10 * k < cLine
  X : (KK w).In h₀
  F : Fr h₀ L s.heap m
  N : News h₀ L s.heap news
/- a value that is None, an int or a text, and what it reads as -/
def Atom (v : Value) (d : PyData) : Prop := (v = .none ∧ d = .none) ∨ (∃ i t, v = .int i t ∧ d = .int i) ∨ (∃ x t, v = .str x t ∧ d = .str x ∧ x.length ≤ 64 ∧ PyData.strOk x = true)
theorem Atom.handed {v d} (a : Atom v d) : handedIn v = true := by
  rcases a with ⟨rfl, _⟩ | ⟨i, t, rfl, _⟩ | ⟨x, t, rfl, _⟩ <;> rfl
theorem Atom.reads {v d} (a : Atom v d) {h : Heap} : Reads h v d [] := by
  rcases a with ⟨rfl, rfl⟩ | ⟨i, t, rfl, rfl⟩ | ⟨x, t, rfl, rfl, _⟩
  · exact .none
  · exact .int _ _
  · exact .str _ _
theorem Atom.canLay {v d} (a : Atom v d) : PyData.canLay0 d = true := by
  rcases a with ⟨_, rfl⟩ | ⟨i, t, _, rfl⟩ | ⟨x, t, _, rfl, h⟩
  · rfl
  · rfl
  · exact h.2
theorem Atom.depth {v d} (a : Atom v d) : PyData.depth d = 0 := by
  rcases a with ⟨_, rfl⟩ | ⟨i, t, _, rfl⟩ | ⟨x, t, _, rfl, _⟩ <;> rfl
theorem Atom.eqv {v d} (a : Atom v d) : PyData.eqv d d = true := by
  rcases a with ⟨_, rfl⟩ | ⟨i, t, _, rfl⟩ | ⟨x, t, _, rfl, _⟩ <;> simp [PyData.eqv]
/- what the frame's text is, and the row that it tells -/
def LineIs (lines num : Value) (d : PyData) : Prop := (lines = .none ∧ num = .none ∧ d = .none) ∨ (∃ x t y, lines = .str x t ∧ x.length ≤ sizeLine ∧ Txt.strip (Txt.partition x (Str.ofString "\n")).1 = y ∧ (y.length ≤ 64 ∧ PyData.strOk y = true) ∧ d = .str y)
theorem get_propS {prog : Program} {w : World} {A : Around} {E : Value → Shared → Prop} {s : Shared} {K : Frag} {x C L : Addr} {h₀ : Heap} {m : Str → Option Value} {ox : Obj} {name : Str} {expr : Bool} {Q : Value → Shared → Prop} {p fget : Addr} {rest : List Value} {od : Obj} (F : Fr h₀ L s.heap m) (X₀ : K.In h₀) (I : InstAt s.heap x ox C (some od)) (hg : plainGet K C name = true) (hc : isClsIn K C = true)
    (ha : findIn K (.ref C) name = some (some (.ref p))) (hn : specialIn K (.ref p) "__get__" = some (some (.builtin "property.__get__"))) (ht : takesIn K (.ref p) = some true) (hp : recIn K p "property" = some (.ref fget :: rest))
    (h : codeAny (model prog w) A.in1 (.call (.ref fget) ⟨[.ref x], []⟩) (fun r s' => match r with | .ok (.ret v) => wpAny (model prog w) A (handedOut v) Q E s' | .ok _ => False | .error e => wpAny (model prog w) A (noteIf true (.ref x) (.str name s.toks) e) (fun _ s'' => E e s'') E s') { s with toks := s.toks + 1 }) :
    wpAny (model prog w) A (getAttr (.ref x) name expr) Q E s :=
  get_bind (X₀.keeps F.keep) I (plainGet_of hg).1 (findObj_data hc ha hn ht) (plainGet_of hg).2 (wpAny_call (prop_get (s := { s with toks := s.toks + 1 }) (X₀.keeps F.keep) hp h))
abbrev itObj (l : Addr) : Obj := { cls := .type "list_iterator", data := .fields #[.ref l, .int 0 0] }
theorem iter_list {prog : Program} {w : World} {A : Around} {E : Value → Shared → Prop} {s : Shared} {h₀ : Heap} {L l : Addr} {m : Str → Option Value} {news : List (Addr × Obj)} {its : Array Value} {n : Nat} {Q : Value → Shared → Prop} (F : Fr h₀ L s.heap m) (N : News h₀ L s.heap news) (hp : (l, listOf its n) ∈ news)
    (h : ∀ (I : Addr) h', Fr h₀ L h' m → News h₀ L h' ((I, itObj l) :: news) → (∀ p ∈ news, p.1 < I) → Q (.ref I) { s with heap := h' }) :
    wpAny (model prog w) A (call (.builtin "iter") [.ref l]) Q E s := by
  refine call_function_entry (by decide +kernel) (by decide +kernel) kdk_entry_iter (kdk_args_iter _) ?_
  unfold Builtin.«iter»
  refine wpAny_bind (m := someArgs "iter" 1 2 _) (wpAny_of_eq (a := [Value.ref l]) (by first | rfl | kernel_rfl!) ?_)
  show wpAny _ _ (pyIter (.ref l) >>= _) _ _ _
  refine wpAny_bind (wpAny_pyIter_list (News.isList N hp) ?_)
  exact wpAny_pure ⟨_, rfl, h _ _ (F.push _) (News.push F N _ rfl) (fun q hq => Heap.lt_size (N q hq).1)⟩
theorem nsub {h₀ h : Heap} {L : Addr} {l l' : List (Addr × Obj)} (N : News h₀ L h l') (k : ∀ p ∈ l, p ∈ l') : News h₀ L h l := fun p hp => N p (k p hp)
end Mine
end
section
open PySem PySem.W PyProof.Rows PySem.Calls
set_option maxHeartbeats 200000000
namespace Mine

theorem line_str {w : World} {A : Around} {h₀ : Heap} {L : Addr} {s : Shared} {m : Str → Option Value} {news : List (Addr × Obj)} {R : Result → Shared → Prop} {fr dx : Addr} {cod ded col ecol endl file num name : Value} {locs : Option Value} {x y : Str} {t : Tok}
    (C : Cx 5 w A h₀ L s m news) (hx : x.length ≤ sizeLine) (hy : Txt.strip (Txt.partition x (Str.ofString "\n")).1 = y)
    (hm : (fr, frObjO dx cod (.str x t) ded col ecol endl file num locs name) ∈ news) (hm2 : (dx, dictOf [] 0) ∈ news)
    (hR : ∀ h' tk t', Fr h₀ L h' m → News h₀ L h' news → R (.ok (.ret (.str y t'))) { s with heap := h', toks := tk }) :
    codeAny (model PG w) A (.call (.ref 115) ⟨[.ref fr], []⟩) R s := by
  k_with_none
  w_top off
  (k_with "k_room" => ((try simp only [depth_under_make, depth_under_kw, depth_in1, depth_deeper, depth_caller]); (try dsimp only); first | decide | omega | (have := recLim; omega)))
  (k_with "call builtin:str.partition" => (k_here; (with_reducible show wpAny _ _ (call (Value.builtin "str.partition") [Value.str _ _, Value.str _ _]) _ _ _); (refine KXpa.partition (by k_asm) (by k_asm) (by decide) rfl rfl rfl (by assumption) ?_); intro D' _ _ _ _ _ F' N' l1; (try k_lt l1)))
  obtain ⟨⟨A₀, base, env, outer, mean, mg, mb, hh, hA, hf, hk, B, T⟩, room, unit, X, F, N⟩ := C
  obtain ⟨⟨kd, enm, ig, ic, mo⟩, eL, eg, ec, eqn, ef, ecd, efr, eb⟩ := env
  obtain ⟨ah, d, fs, gs, u⟩ := A
  dsimp only at hh hA hf hk room unit
  subst hh hA hf hk
  revert X; unfold KK PG; k_fill; intro X
  k_enter
  k_steps
  all_goals (first | (rw [hy]; exact hR _ _ _ (by k_asm) (nsub (by k_asm) fun p hp => by k_mem)) | w_report)

theorem line_none {w : World} {A : Around} {h₀ : Heap} {L : Addr} {s : Shared} {m : Str → Option Value} {news : List (Addr × Obj)} {R : Result → Shared → Prop} {fr dx : Addr} {cod ded col ecol endl file name : Value} {locs : Option Value}
    (C : Cx 5 w A h₀ L s m news)
    (hm : (fr, frObjO dx cod .none ded col ecol endl file .none locs name) ∈ news) (hm2 : (dx, dictOf [] 0) ∈ news)
    (hR : ∀ h' tk, Fr h₀ L h' m → News h₀ L h' news → R (.ok (.ret .none)) { s with heap := h', toks := tk }) :
    codeAny (model PG w) A (.call (.ref 115) ⟨[.ref fr], []⟩) R s := by
  k_with_none
  w_top off
  (k_with "k_room" => ((try simp only [depth_under_make, depth_under_kw, depth_in1, depth_deeper, depth_caller]); (try dsimp only); first | decide | omega | (have := recLim; omega)))
  (k_with "call builtin:str.partition" => (k_here; (with_reducible show wpAny _ _ (call (Value.builtin "str.partition") [Value.str _ _, Value.str _ _]) _ _ _); (refine KXpa.partition (by k_asm) (by k_asm) (by decide) rfl rfl rfl (by assumption) ?_); intro D' _ _ _ _ _ F' N' l1; (try k_lt l1)))
  obtain ⟨⟨A₀, base, env, outer, mean, mg, mb, hh, hA, hf, hk, B, T⟩, room, unit, X, F, N⟩ := C
  obtain ⟨⟨kd, enm, ig, ic, mo⟩, eL, eg, ec, eqn, ef, ecd, efr, eb⟩ := env
  obtain ⟨ah, d, fs, gs, u⟩ := A
  dsimp only at hh hA hf hk room unit
  subst hh hA hf hk
  revert X; unfold KK PG; k_fill; intro X
  k_enter
  k_steps
  all_goals (first | exact hR _ _ (by k_asm) (nsub (by k_asm) fun p hp => by k_mem) | w_report)
theorem line_c {w : World} {A : Around} {h₀ : Heap} {L : Addr} {s : Shared} {m : Str → Option Value} {news : List (Addr × Obj)} {R : Result → Shared → Prop} {fr dx : Addr} {cod ded col ecol endl file num name : Value} {locs : Option Value} {dt : PyData}
    (C : Cx 5 w A h₀ L s m news) (hl : LineIs lines num dt)
    (hm : (fr, frObjO dx cod lines ded col ecol endl file num locs name) ∈ news) (hm2 : (dx, dictOf [] 0) ∈ news)
    (hR : ∀ h' tk v, Atom v dt → Fr h₀ L h' m → News h₀ L h' news → R (.ok (.ret v)) { s with heap := h', toks := tk }) :
    codeAny (model PG w) A (.call (.ref 115) ⟨[.ref fr], []⟩) R s := by
  rcases hl with ⟨rfl, rfl, rfl⟩ | ⟨x, t, y, rfl, hx, hy, hz, rfl⟩
  · exact line_none C hm hm2 fun h' tk F N => hR h' tk _ (.inl ⟨rfl, rfl⟩) F N
  · exact line_str C hx hy hm hm2 fun h' tk t' F N => hR h' tk _ (.inr (.inr ⟨_, _, rfl, rfl, hz⟩)) F N
end Mine
end
section
open PySem PySem.W PyProof.Rows PySem.Calls PySem.Spec
set_option maxHeartbeats 4000000
namespace Mine
theorem allLt_lt {d : Addr} : ∀ {l : List (Addr × Obj)}, AllLt d l → ∀ p ∈ l, p.1 < d
  | [], _, _, h => nomatch h
  | _ :: _, ⟨a, b⟩, p, h => by
    rcases List.mem_cons.mp h with rfl | h
    · exact a
    · exact allLt_lt b p h
theorem allLt_ne {d : Addr} {l : List (Addr × Obj)} (h : AllLt d l) : ∀ p ∈ l, p.1 ≠ d := fun p hp => Nat.ne_of_lt (allLt_lt h p hp)
def AllNe (d : Addr) : List (Addr × Obj) → Prop
  | [] => True
  | p :: r => @Ne Nat p.1 d ∧ AllNe d r
theorem allNe_of {d : Addr} : ∀ {l : List (Addr × Obj)}, (∀ p ∈ l, p.1 ≠ d) → AllNe d l
  | [], _ => trivial
  | p :: _, h => ⟨h p (.head _), allNe_of fun q hq => h q (.tail _ hq)⟩
theorem paired_id {l₁ l₂ : List Value} (h : Paired (fun v r : Value => r = v) l₁ l₂) : l₂ = l₁ := by
  induction h with
  | nil => rfl
  | cons e _ ih => rw [e, ih]
/- a comprehension «[x for x in I]» over a list's iterator that is made already -/
theorem comp_it {prog : Program} {w : World} {A : Around} {s : Shared} {env : Env} {h₀ : Heap} {L I l : Addr} {m : Str → Option Value} {news news' : List (Addr × Obj)} {vs : List Value} {n : Nat} {scope : Scope} {x : Str} {px : Pos} {Q : Value → Shared → Prop}
    (hh : A.handled = none) (F : Fr h₀ L s.heap m) (N : News h₀ L s.heap news) (hI : (I, itObj l) ∈ news) (hl : (l, listOf vs.toArray n) ∈ news) (hne : l ≠ I)
    (hsub : ∀ p ∈ news', p ∈ news) (hoff : ∀ p ∈ news', p.1 ≠ I)
    (hk : scope.kind = .function) (hx : scope.names.lookup x = some .local) (hd : (x == ("__debug__" : Str)) = false) (hz : vs.length ≤ sizeLine)
    (h : ∀ D k h' tk, Fr h₀ L h' m → News h₀ L h' ((D, listOf vs.toArray k) :: news') → (∀ p ∈ news', p.1 ≠ D) → Q (.ref D) { s with heap := h', toks := tk }) :
    CompPost prog w A env scope x [] (.Name x px) Q (.ref I) s := by
  have hIs : s.heap.IsListIter I l 0 := ⟨_, (N _ hI).1, rfl, rfl⟩
  have hls := News.isList N hl
  refine ⟨fun _ => true, fun v r => r = v, I, [I, l], [I], vs.toArray.size, _, _, rfl, Walks.list hh I l hne vs.toArray, (by simpa using hz), ⟨hIs, hls⟩, ?_, ⟨?_, ?_⟩, ?_⟩
  · intro b hb
    rcases List.mem_cons.mp hb with rfl | hb
    · exact Heap.lt_size (N _ hI).1
    · rw [List.mem_singleton.mp hb]; exact Heap.lt_size (N _ hl).1
  · intro C i v s₃ m₃ E' hP hn hm _ htk
    exact wpAny_pure ⟨rfl, s₃.heap, s₃.toks, rfl, fun _ _ e => e⟩
  · intro C i v s₃ m₃ E' hP hp hn hm _ htk
    exact wpAny_Name (wpAny_loadName_local hk hx hn hm ⟨rfl, s₃.heap, s₃.toks, rfl, fun _ _ e => e⟩) hd
  · intro D h' tk ys vs' hnew hlD hplD hlen hP hF hk'
    have e' : vs' = vs := by simpa using walked_is hlen hP
    subst e'
    have e2 := paired_id hF
    rw [List.filter_eq_self.mpr (fun _ _ => rfl)] at e2
    have e3 : ys = vs'.toArray := by rw [← e2, Array.toArray_toList]
    subst e3
    obtain ⟨k, hD⟩ := hplD
    have off : ∀ b, b ≠ I → ∀ o, s.heap.get? b = some o → h'.get? b = some o := fun b hb o e => hk' b o (by simpa using hb) e
    refine h D k h' tk ⟨F.ns.at' fun o e => off L (fun q => (N _ hI).2.1 q.symm) o e, fun b o e => off b (fun q => by have := (N _ hI).2.2; rw [← q] at this; rw [this] at e; cases e) o (F.keep b o e), F.above⟩ ?_ (fun p hp q => by have := (N p (hsub p hp)).1; rw [q, hnew] at this; cases this)
    intro p hp
    rcases List.mem_cons.mp hp with rfl | hp
    · refine ⟨hD, fun q => ?_, ?_⟩
      · obtain ⟨oL, _, _, hL, _⟩ := F.ns
        have q' : D = L := q
        rw [q', hL] at hnew; cases hnew
      · cases e : h₀.get? D with
        | none => rfl
        | some o' => rw [F.keep _ _ e] at hnew; cases hnew
    · exact ⟨off _ (hoff p hp) _ (N p (hsub p hp)).1, (N p (hsub p hp)).2⟩
theorem owit_listiter {M : Model} {A : Around} {Q : Value → Shared → Prop} {E : Value → Shared → Prop} {s : Shared} {h₀ : Heap} {L I l : Addr} {news : List (Addr × Obj)} (N : News h₀ L s.heap news) (hI : (I, itObj l) ∈ news) (h : Q (.ref I) s) : OwitIt M A Q E (.ref I) s := by
  have L0 : Looks M s.heap (typeOf (.ref I)) (.type "list_iterator") := (Looks.ld (part := none) (N _ hI).1).andThen .now
  unfold OwitIt specialOf
  refine wpAny_bind (L0.here ?_)
  rw [slot_listiter_next.lookup]
  exact wpAny_pure h
end Mine
end
section
open PySem PySem.W PyProof.Rows PySem.Calls
set_option maxHeartbeats 200000000
namespace Mine

theorem iter_c {w : World} {A : Around} {h₀ : Heap} {L : Addr} {s : Shared} {m : Str → Option Value} {news : List (Addr × Obj)} {R : Result → Shared → Prop} {fr dx : Addr} {cod lines ded col ecol endl num locs : Value} {f nm : Str} {tf tn : Tok} {dn dt : PyData}
    (C : Cx 10 w A h₀ L s m news) (hm : (fr, frObj dx cod lines ded col ecol endl (.str f tf) num locs (.str nm tn)) ∈ news) (hm2 : (dx, dictOf [] 0) ∈ news)
    (hl : LineIs lines num dt) (hnum : Atom num dn) (hf : Atom (.str f tf) (.str f)) (hnm : Atom (.str nm tn) (.str nm))
    (hR : ∀ h' tk I l v n, Atom v dt → Fr h₀ L h' m → News h₀ L h' ((I, itObj l) :: (l, listOf [.str f tf, num, .str nm tn, v].toArray n) :: news) → l ≠ I → (∀ p ∈ news, p.1 ≠ I) → R (.ok (.ret (.ref I))) { s with heap := h', toks := tk }) :
    codeAny (model PG w) A (.call (.ref 71) ⟨[.ref fr], []⟩) R s := by
  k_with_none
  w_top off
  (k_with "k_room" => ((try simp only [depth_under_make, depth_under_kw, depth_in1, depth_deeper, depth_caller]); (try dsimp only); first | decide | omega | (have := recLim; omega)))
  (k_with "k_units" => ((try simp only [Around.in1_units, Around.deeper_units, Around.mark_units]); (try dsimp only); (have := cRoomIs); omega))
  (k_with "k_handed" => exact Atom.handed (by assumption))
  (k_with "ke_read" => exact Atom.reads (by assumption))
  (k_with "call builtin:iter" => (k_here; (with_reducible show wpAny _ _ (call (Value.builtin "iter") [Value.ref _]) _ _ _); k_dflt (refine iter_list (by k_asm) (by k_asm) (by k_mem) ?_); intro D' h' F' N' l1; (try k_lt l1)))
  (k_with "getAttr ref" => (k_here; (with_reducible show wpAny _ _ (getAttr (Value.ref _) (PySem.Str.ofString "line") _) _ _ _); k_dflt (refine' get_propS ?k1 ?k2 ?k3 ?k4 ?k5 ?k6 ?k7 ?k8 ?k9 ?_; (case k1 => k_asm); (case k2 => k_asm); (case k3 => k_inst); (case k4 => k_is); (case k5 => k_is); (case k6 => k_is); (case k7 => k_is); (case k8 => k_is); (case k9 => k_is); k_whole); (refine line_c (Cx.mk ⟨_, _, _, _, _, _, _, rfl, rfl, rfl, rfl, (by k_asm), (by k_asm)⟩ (by k_room) (by k_units) (by k_asm) (by k_asm) (by k_asm)) (by assumption) (by k_mem) (by k_mem) ?_); intro h' tk' v' a' F' N'; (refine handed_on (Atom.handed a') ?_); (try dsimp only)))
  obtain ⟨⟨A₀, base, env, outer, mean, mg, mb, hh, hA, hf, hk, B, T⟩, room, unit, X, F, N⟩ := C
  obtain ⟨⟨kd, enm, ig, ic, mo⟩, eL, eg, ec, eqn, ef, ecd, efr, eb⟩ := env
  obtain ⟨ah, d, fs, gs, u⟩ := A
  dsimp only at hh hA hf hk room unit
  subst hh hA hf hk
  revert X; unfold KK PG; k_fill; intro X
  k_enter
  k_steps
  all_goals ((rename (_ < _ ∧ AllLt _ _) => l1); exact hR _ _ _ _ _ _ (by assumption) (by k_asm) (by k_asm) (Nat.ne_of_lt l1.1) (allLt_ne l1.2))
end Mine
end
section
open PySem PySem.W PyProof.Rows PySem.Calls PySem.Spec
set_option maxHeartbeats 4000000
namespace Mine
def FlatD (d : PyData) : Prop := PyData.canLay0 d = true ∧ PyData.depth d = 0
theorem Atom.flat {v d} (a : Atom v d) : FlatD d := ⟨a.canLay, a.depth⟩
inductive FlatAll : List PyData → Prop
  | nil : FlatAll []
  | cons {d ds} : FlatD d → FlatAll ds → FlatAll (d :: ds)
theorem FlatAll.canLay {ds : List PyData} (x : FlatAll ds) : PyData.canLayAll0 ds = true := by
  induction x with
  | nil => rfl
  | cons a _ ih => simp only [PyData.canLayAll0, a.1, ih, Bool.and_self]
theorem FlatAll.depth {ds : List PyData} (x : FlatAll ds) : PyData.depthAll ds = 0 := by
  induction x with
  | nil => rfl
  | cons a _ ih => simp only [PyData.depthAll, a.2, ih]; rfl
theorem shaped_list {ds} (h : FlatAll ds) : SeqAt.shaped (.list ds) = true := by
  simp [SeqAt.shaped, PyData.canLay0, PyData.depth, h.canLay, h.depth]
theorem shaped_tuple {ds} (h : FlatAll ds) : SeqAt.shaped (.tuple ds) = true := by
  simp [SeqAt.shaped, PyData.canLay0, PyData.depth, h.canLay, h.depth]
theorem eqv_list {xs ys b} (h : PyData.eqvAll xs ys = b) : PyData.eqv (.list xs) (.list ys) = b := by simp only [PyData.eqv, h]
theorem eqv_tuple {xs ys b} (h : PyData.eqvAll xs ys = b) : PyData.eqv (.tuple xs) (.tuple ys) = b := by simp only [PyData.eqv, h]
theorem eqvAll_t {x y xs ys} (h1 : PyData.eqv x y = true) (h2 : PyData.eqvAll xs ys = true) : PyData.eqvAll (x :: xs) (y :: ys) = true := by simp only [PyData.eqvAll, h1, h2, Bool.and_self]
theorem eqvAll_f1 {x y xs ys} (h1 : PyData.eqv x y = false) : PyData.eqvAll (x :: xs) (y :: ys) = false := by simp only [PyData.eqvAll, h1, Bool.false_and]
theorem eqvAll_f2 {x y xs ys} (h1 : PyData.eqvAll xs ys = false) : PyData.eqvAll (x :: xs) (y :: ys) = false := by simp only [PyData.eqvAll, h1, Bool.and_false]
theorem eqvAll_nil : PyData.eqvAll [] [] = true := by simp only [PyData.eqvAll]
theorem eqvAll_n1 {x xs} : PyData.eqvAll [] (x :: xs) = false := by simp only [PyData.eqvAll]
theorem eqvAll_n2 {x xs} : PyData.eqvAll (x :: xs) [] = false := by simp only [PyData.eqvAll]
theorem eqv_lt {xs ys} : PyData.eqv (.list xs) (.tuple ys) = false := by simp only [PyData.eqv]
theorem eqv_tl {xs ys} : PyData.eqv (.tuple xs) (.list ys) = false := by simp only [PyData.eqv]
section
variable {prog : Program} {w : World} {A : Around} {E : Value → Shared → Prop} {s : Shared} {a b : Value} {da db : PyData} {as bs : List Addr} {Q : Value → Shared → Prop} {r : Bool}
theorem eq_is (r : Bool) (ra : Reads s.heap a da as) (rb : Reads s.heap b db bs) (ha : SeqAt.shaped da = true) (hb : SeqAt.shaped db = true) (hu : A.units + 64 < cLine) (e : PyData.eqv da db = r) (h : Q (.bool r) s) :
    wpAny (model prog w) A (compareOp .Eq a b) Q E s := eq_dataH ra rb ha hb hu (by rw [e]; exact h)
theorem ne_t (ra : Reads s.heap a da as) (rb : Reads s.heap b db bs) (ha : SeqAt.shaped da = true) (hb : SeqAt.shaped db = true) (hu : A.units + 64 < cLine) (e : PyData.eqv da db = true) (h : Q (.bool false) s) :
    wpAny (model prog w) A (compareOp .NotEq a b) Q E s := ne_dataH ra rb ha hb hu (by rw [e]; exact h)
theorem ne_f (ra : Reads s.heap a da as) (rb : Reads s.heap b db bs) (ha : SeqAt.shaped da = true) (hb : SeqAt.shaped db = true) (hu : A.units + 64 < cLine) (e : PyData.eqv da db = false) (h : Q (.bool true) s) :
    wpAny (model prog w) A (compareOp .NotEq a b) Q E s := ne_dataH ra rb ha hb hu (by rw [e]; exact h)
end
end Mine
end
section
open PySem PySem.W PyProof.Rows PySem.Calls PySem.Spec
set_option maxHeartbeats 4000000
namespace Mine
/- a heap of n places: what g holds, and the ledger's rest -/
def overlay (g : Heap) (rest : List (Addr × Obj)) (n : Nat) : Heap :=
  { objs := Array.ofFn (n := n) fun i => match g.get? i.val with
      | some o => o
      | none => match rest.lookup i.val with
        | some o => o
        | none => { cls := .none, data := .freed }, life := g.life }
theorem get?_live {h : Heap} {b : Addr} {o : Obj} (e : h.get? b = some o) : o.isFreed = false := by
  unfold Heap.get? at e
  split at e
  · cases e
  · rename_i x hx
    obtain ⟨c, d, dt, sl⟩ := o
    cases dt <;> first | rfl | exact absurd e (by intro e; exact hx _ _ _ e)
theorem get?_of {h : Heap} {b : Addr} {o : Obj} (e : h.objs[b]? = some o) (hf : o.isFreed = false) : h.get? b = some o := by
  unfold Heap.get?
  rw [e]
  obtain ⟨c, d, dt, sl⟩ := o
  cases dt <;> first | rfl | cases hf
theorem get?_none {h : Heap} {b : Addr} {o : Obj} (e : h.objs[b]? = some o) (hf : o.isFreed = true) : h.get? b = none := by
  unfold Heap.get?
  rw [e]
  obtain ⟨c, d, dt, sl⟩ := o
  cases dt <;> first | rfl | cases hf
theorem overlay_old {g : Heap} {rest : List (Addr × Obj)} {n : Nat} {b : Addr} {o : Obj} (hb : b < n) (e : g.get? b = some o) : (overlay g rest n).get? b = some o := by
  refine get?_of ?_ (get?_live e)
  simp [overlay, hb, e]
theorem overlay_rest {g : Heap} {rest : List (Addr × Obj)} {n : Nat} {b : Addr} {o : Obj} (hb : b < n) (e : g.get? b = none) (l : rest.lookup b = some o) (hf : o.isFreed = false) : (overlay g rest n).get? b = some o := by
  refine get?_of ?_ hf
  simp [overlay, hb, e, l]
theorem overlay_get {g : Heap} {rest : List (Addr × Obj)} {n : Nat} {b : Addr} {o : Obj} (e : (overlay g rest n).get? b = some o) : b < n ∧ (g.get? b = some o ∨ (g.get? b = none ∧ rest.lookup b = some o)) := by
  have hb : b < n := by
    have := Heap.lt_size e
    simpa [overlay] using this
  refine ⟨hb, ?_⟩
  cases hg : g.get? b with
  | some o' => rw [overlay_old hb hg] at e; exact .inl e
  | none =>
    right
    refine ⟨rfl, ?_⟩
    cases hl : rest.lookup b with
    | some o' =>
      have : (overlay g rest n).objs[b]? = some o' := by simp [overlay, hb, hg, hl]
      cases hf : o'.isFreed with
      | false => rw [get?_of this hf] at e; exact e
      | true => rw [get?_none this hf] at e; cases e
    | none =>
      have : (overlay g rest n).objs[b]? = some { cls := .none, data := .freed } := by simp [overlay, hb, hg, hl]
      rw [get?_none this rfl] at e; cases e
theorem lookup_mem {b : Addr} {o : Obj} : ∀ {l : List (Addr × Obj)}, l.lookup b = some o → (b, o) ∈ l
  | [], h => by cases h
  | p :: l, h => by
    rw [List.lookup_cons] at h
    split at h
    · rename_i q
      obtain ⟨x, y⟩ := p
      cases h
      have : b = x := beq_iff_eq.mp q
      rw [this]; exact .head _
    · exact .tail _ (lookup_mem h)
theorem mem_lookup {b : Addr} {o : Obj} : ∀ {l : List (Addr × Obj)}, (b, o) ∈ l → (∀ p ∈ l, p.1 = b → p.2 = o) → l.lookup b = some o
  | [], h, _ => nomatch h
  | p :: l, h, k => by
    rw [List.lookup_cons]
    split
    · rename_i q
      rw [k p (.head _) (beq_iff_eq.mp q).symm]
    · rename_i q
      rcases List.mem_cons.mp h with rfl | h
      · simp at q
      · exact mem_lookup h fun p hp => k p (.tail _ hp)
/- what the ledger holds beside a written part of it -/
def restOf (ex news : List (Addr × Obj)) : List (Addr × Obj) := news.filter fun p => !(ex.map (·.1)).contains p.1
theorem restOf_mem {ex news : List (Addr × Obj)} {p : Addr × Obj} : p ∈ restOf ex news ↔ p ∈ news ∧ p.1 ∉ ex.map (·.1) := by
  simp [restOf]
/- a frame's ground, with all of the ledger but its written part laid under it -/
theorem reground {g h₁ : Heap} {L : Addr} {m : Str → Option Value} {cells ex news : List (Addr × Obj)} (F : Fr g L h₁ m) (N : News g L h₁ (cells ++ news)) (hlt : ∀ p ∈ news, p.1 < L) (hex : ∀ p ∈ ex, p ∈ news) (hc : ∀ p ∈ cells, L < p.1) :
    ∃ g₂ : Heap, g₂.objs.size = L ∧ (∀ b o, g.get? b = some o → g₂.get? b = some o) ∧ (∀ p ∈ restOf ex news, g₂.get? p.1 = some p.2) ∧ Fr g₂ L h₁ m ∧ News g₂ L h₁ (cells ++ ex) := by
  have Nn : ∀ p ∈ news, h₁.get? p.1 = some p.2 ∧ p.1 ≠ L ∧ g.get? p.1 = none := fun p hp => N p (List.mem_append_right _ hp)
  have one : ∀ p ∈ restOf ex news, (restOf ex news).lookup p.1 = some p.2 := fun p hp => mem_lookup hp fun q hq e => by
    have h1 := (Nn q (restOf_mem.mp hq).1).1
    have h2 := (Nn p (restOf_mem.mp hp).1).1
    rw [e, h2] at h1
    exact (Option.some.inj h1).symm
  have r : ∀ p ∈ restOf ex news, (overlay g (restOf ex news) L).get? p.1 = some p.2 := fun p hp =>
    overlay_rest (hlt p (restOf_mem.mp hp).1) (Nn p (restOf_mem.mp hp).1).2.2 (one p hp) (get?_live (Nn p (restOf_mem.mp hp).1).1)
  refine ⟨overlay g (restOf ex news) L, by simp [overlay], fun b o e => overlay_old (Nat.lt_of_lt_of_le (Heap.lt_size e) F.above) e, r, ⟨F.ns, fun b o e => ?_, by simp [overlay]⟩, fun p hp => ?_⟩
  · obtain ⟨_, e | ⟨_, e⟩⟩ := overlay_get e
    · exact F.keep b o e
    · exact (Nn _ (restOf_mem.mp (lookup_mem e)).1).1
  · rcases List.mem_append.mp hp with hp' | hp'
    · refine ⟨(N p (List.mem_append_left _ hp')).1, (N p (List.mem_append_left _ hp')).2.1, ?_⟩
      cases q : (overlay g (restOf ex news) L).get? p.1 with
      | none => rfl
      | some o => exact absurd (overlay_get q).1 (Nat.lt_asymm (hc p hp'))
    · refine ⟨(Nn p (hex p hp')).1, (Nn p (hex p hp')).2.1, ?_⟩
      cases q : (overlay g (restOf ex news) L).get? p.1 with
      | none => rfl
      | some o =>
        obtain ⟨_, e | ⟨_, e⟩⟩ := overlay_get q
        · rw [(Nn p (hex p hp')).2.2] at e; cases e
        · exact absurd (List.mem_map_of_mem hp') (restOf_mem.mp (lookup_mem e)).2
/- what the caller is handed when the callee ran upon the larger ground -/
theorem leave_more {h₀ g g₂ : Heap} {L : Addr} {m : Str → Option Value} {ex news : List (Addr × Obj)} {R : Result → Shared → Prop} {v : Value} {s' : Shared} (hs : g.objs.size ≤ g₂.objs.size) (hg : ∀ b o, g.get? b = some o → g₂.get? b = some o) (hr : ∀ p ∈ restOf ex news, g₂.get? p.1 = some p.2)
    (l : LeaveK h₀ L m g₂ (fun r s' => (∀ p ∈ restOf ex news, s'.heap.get? p.1 = some p.2) → R r s') v s') : LeaveK h₀ L m g R v s' := by
  obtain ⟨L', m', news', F', N', k⟩ := l
  refine ⟨L', m', news', ⟨F'.ns, fun b o e => F'.keep b o (hg b o e), Nat.le_trans hs F'.above⟩, fun p hp => ⟨(N' p hp).1, (N' p hp).2.1, ?_⟩, fun F N => k F N fun p hp => F'.keep _ _ (hr p hp)⟩
  cases q : g.get? p.1 with
  | none => rfl
  | some o => have := (N' p hp).2.2; rw [hg _ _ q] at this; cases this
/- the whole ledger again, from its written part and its rest -/
theorem news_all {h₀ h h' : Heap} {L : Addr} {ex news : List (Addr × Obj)} (N₀ : News h₀ L h news) (hex : ∀ p ∈ ex, p ∈ news) (N : News h₀ L h' ex) (hr : ∀ p ∈ restOf ex news, h'.get? p.1 = some p.2) : News h₀ L h' news := by
  intro p hp
  refine ⟨?_, (N₀ p hp).2.1, (N₀ p hp).2.2⟩
  by_cases q : p.1 ∈ ex.map (·.1)
  · obtain ⟨x, hx, e⟩ := List.mem_map.mp q
    have h1 := (N₀ x (hex x hx)).1
    have h2 := (N₀ p hp).1
    rw [e, h2] at h1
    rw [← e, Option.some.inj h1]
    exact (N x hx).1
  · exact hr p (restOf_mem.mpr ⟨hp, q⟩)
end Mine
end
section
open PySem PySem.W PyProof.Rows PySem.Calls PySem.Spec PyProof.V
set_option maxHeartbeats 4000000
namespace Mine
theorem ltN' {a b : Nat} (h : a < b) : a < b := h
end Mine
end
section
open PySem PySem.W PyProof.Rows PySem.Calls PySem.Spec PyProof.V
set_option maxHeartbeats 4000000
namespace Mine
/- a place beyond a tuple's ends -/
theorem item_outT {prog : Program} {w : World} {A : Around} {E : Value → Shared → Prop} {s : Shared} {value slice : PySem.Expr} {l : Addr} {items : Array Value} {k : Int} {u : Tok} {Q : Value → Shared → Prop} (hA : A.handled = none) (ht : IsTup s.heap l items)
    (hout : seqIndex? k items.size = none ∨ ∃ j, seqIndex? k items.size = some j ∧ items[j]? = none) (hlo : -(2 ^ 63) ≤ k) (hhi : k < 2 ^ 63)
    (hE : ∀ h' tk e, Heap.NewExc s.heap h' e "IndexError" → E (.ref e) { s with heap := h', toks := tk })
    (hs : subscripted slice false (.ref l) (.int k u) = operate [.ref l, .int k u] (getItem (.ref l) (.int k u)) := by with_unfolding_all rfl) :
    wpAny (model prog w) A (subscriptTail value slice (.ref l) (.int k u)) Q E s := by
  refine tail_any ht.typeIs slot_tuple_getitem.lookup ?_ hs
  unfold getItem
  try with_reducible refine wpAny_holding ?_
  first | refine wpAny_bind (wpAny_pure ?_) | skip
  refine wpAny_bind (wpAny_sequenceKey ht.typeIs (by decide) ?_)
  refine wpAny_bind (wpAny_callSpecial?_slot (name := Str.ofString "__getitem__") ht.typeIs slot_tuple_getitem
    (wpAny_call_entry slot_tuple_getitem ht.typeIs entry_tuple_getitem ?_ (args_tuple_getitem _ _)))
  show wpAny _ _ (Builtin.Tuple.tupleItemsOf (.ref l) >>= _) _ _ s
  refine wpAny_bind (tupleItemsOf_ ht ?_)
  refine wpAny_bind (wpAny_typeOf (typeIs_int s k u) ?_)
  rw [if_neg (by decide)]
  refine wpAny_bind (wpAny_specialOf (T := "int") (typeIs_int s k u) int_index ?_)
  rw [if_neg (by simp)]
  refine wpAny_bind (wpAny_of_eq (a := k) rfl ?_)
  rw [if_neg (by simp only [Bool.or_eq_true, decide_eq_true_eq]; omega)]
  have z : (seqIndex? k items.size).bind (items[·]?) = none := by
    rcases hout with h | ⟨j, h, h'⟩
    · rw [h]; rfl
    · rw [h]; exact h'
  simp only [z]
  first
    | exact wpAny_bind (wpAny_rule (by exact_raiseError plainExc_IndexError hA hE))
    | exact wpAny_bind (wpAny_rule (wpAny_bind (by exact_raiseError plainExc_IndexError hA hE)))
    | exact wpAny_bind (wpAny_bind (wpAny_rule (by exact_raiseError plainExc_IndexError hA hE)))
    | exact wpAny_rule (by exact_raiseError plainExc_IndexError hA hE)
section
variable {prog : Program} {w : World} {A₀ : Around} {E : Value → Shared → Prop} {s' : Shared} {base g g₀ G B h₅ : Heap} {outer : List Env} {L a e : Addr} {m : Str → Option Value} {name : Str} {scope : Scope} {cd : Value} {cl : List (Str × Addr)}
  {n : Str} {b₀ : Stmt} {suite : List Stmt} {pos np : Pos} {rest : List ExceptHandler} {Q : Flow → Shared → Prop} {news : List (Addr × Obj)} {KF : Frag}
  {p : Program} {loose : List Str} {mean : ExcName → Option Value} {mg mb : Str → Option Value} {x : Str} {X T' : String}
theorem memX {b : Addr} (hm : b ∈ (envX name scope L a cd cl :: outer).filterMap (·.frame)) : b = L ∨ b ∈ outer.filterMap (·.frame) := by
  obtain ⟨env, he, hf⟩ := List.mem_filterMap.mp hm
  rcases List.mem_cons.mp he with rfl | he
  · exact .inl (Option.some.inj hf).symm
  · exact .inr (List.mem_filterMap.mpr ⟨env, he, hf⟩)
theorem groundC (K : Below A₀ base outer g) (F : Fr g L G m) (hBG : ∀ b o, G.get? b = some o → b ∉ (envX name scope L a cd cl :: outer).filterMap (·.frame) → B.get? b = some o) (hBh : B.StaysIn h₅) (hsm : G.UpToSlots h₅) :
    ∃ g', KtsTurn (outer.filterMap (·.frame)) g g' ∧ Fr g' L h₅ m ∧ Below A₀ base outer g' := by
  obtain ⟨T, S⟩ := kts_turn_at (h := h₅) (fs := outer.filterMap (·.frame)) (g := g)
    (fun b hb => by
      obtain ⟨_, o, ho, _⟩ := K.frames.mem hb
      exact ⟨o, ho⟩)
    (fun b o e nm => hBh b o (hBG b o (F.keep b o e) (fun hm => by
      rcases memX hm with z | z
      · rw [z, kts_self F] at e
        cases e
      · exact nm z)))
    (fun b o e hm => by
      obtain ⟨_, o', ho', hd⟩ := K.frames.mem hm
      rw [e] at ho'
      cases ho'
      exact hsm b o (F.keep b o e) hd)
  refine ⟨_, T, ⟨hsm.ns F.ns, S, by rw [T.size]; exact F.above⟩, ⟨K.stack, fun b o e => T.other b o (K.stays b o e) (fun hm => by
    rw [(K.frames.mem hm).1] at e
    cases e), K.frames.of_keeps fun b o e _ => ?_⟩⟩
  obtain ⟨sl, hs⟩ := T.up e
  exact ⟨_, hs, rfl⟩
/- an error that came out of a call is caught by its class, in a def with cells -/
theorem caught_X (R : RaisedSN base G (envX name scope L a cd cl :: outer) e (.type X) news s'.heap) (F : Fr g L G m) (K : Below A₀ base outer g) (hsm : G.UpToSlots s'.heap) (XB : KF.In base) (TB : Top p loose mean mg mb base)
    (D : KtsDicts (outer.filterMap (·.frame)) g) (T0 : KtsTurn (outer.filterMap (·.frame)) g₀ g)
    (ex : nsIn KF mainGlobals x = some none) (hv : bootBuiltins x = some (.type T')) (hn' : x ≠ "__name__")
    (hexc : isSubtype (.type T') (.type "BaseException") = pure true) (hnt : isSubtype (.type ((Manifest.find? T').elim "type" fun y => y.metatype)) (.type "tuple") = pure false) (hsub : isSubtype (.type X) (.type T') = pure true)
    (k : ∀ h' g', KtsTurn (outer.filterMap (·.frame)) g₀ g' → Fr g' L h' m → News g' L h' news → Below A₀ base outer g' → KF.In g' → Top p loose mean mg mb g' → KtsDicts (outer.filterMap (·.frame)) g' →
      wpAny (model prog w) ((A₀.deeper (envX name scope L a cd cl)).mark (some (.ref e))) (execs (b₀ :: suite) (envX name scope L a cd cl)) Q E { s' with heap := h' })
    (hk : scope.kind = .function := by rfl) (hx : (envX name scope L a cd cl).kindOf x = some .globalImplicit := by rfl) (hd : (x == ("__debug__" : Str)) = false := by decide)
    (hE : PassesOwnAt (model prog w) ((A₀.deeper (envX name scope L a cd cl)).mark (some (.ref e))) (A₀.deeper (envX name scope L a cd cl)) (envX name scope L a cd cl) E := by passes_own) :
    wpAny (model prog w) (A₀.deeper (envX name scope L a cd cl)) (noteFrame (.ref e) (envX name scope L a cd cl))
      (fun _ s₂ => wpAny (model prog w) (A₀.deeper (envX name scope L a cd cl)) (setFlight (.ref e) none) (fun _ s₃ =>
        wpAny (model prog w) (A₀.deeper (envX name scope L a cd cl)) (handleBy (.ref e) (envX name scope L a cd cl) (.ExceptHandler (some (.Name x np)) none (b₀ :: suite) pos :: rest)) Q E s₃) E s₂) E s' := by
  obtain ⟨B, a0, hB, hBG, hl, hfl⟩ := R
  have hL : B.get? L = none := by
    obtain ⟨_, ⟨L', _, hf, hn', _⟩, _⟩ := hfl.2.2.1
    obtain rfl : L = L' := Option.some.inj hf
    exact hn'
  refine wpAny_looks_onW (Around.frames_deeper K.stack) rfl hfl fun h₄ hheld₄ hsm₄ => ?_
  refine wpAny_landsW hheld₄ fun h₅ hheld hsm₅' => ?_
  have hsm₅ := hsm₄.trans hsm₅'
  obtain ⟨g₅, T₅, F₅, K₅⟩ := groundC K F hBG hheld.1 (hsm.trans hsm₅)
  have X₅ : KF.In g₅ := XB.keeps K₅.stays
  have P₅ : TopRead p loose mg mb g₅ := topRead_of (TB.keeps K₅.stays)
  obtain ⟨ob, hob, hobc⟩ := hheld.there
  refine wpAny_handleBy_builtin (X := X) (T := T') (b := true) hexc hnt hsub (nameX_B F₅ X₅ P₅ ex hv hn' ⟨rfl, ⟨ob, hob, hobc⟩, ?_⟩ hk hx hd)
  refine lands_againW hheld fun h₆ hfl₆ hsm₆ => ?_
  obtain ⟨g₆, T₆, F₆, K₆⟩ := groundC K F hBG hfl₆.1 ((hsm.trans hsm₅).trans hsm₆)
  have Nl : News g₆ L h₆ news := fun q hq => ⟨hfl₆.1 _ _ (hl q hq).1, (fun z => by have := (hl q hq).1; rw [z, hL] at this; cases this), T₆.none_ _ (kts_none F.keep (hl q hq).2.1)⟩
  have X₆ : KF.In g₆ := XB.keeps K₆.stays
  have P₆ : Top p loose mean mg mb g₆ := TB.keeps K₆.stays
  have D₆ : KtsDicts (outer.filterMap (·.frame)) g₆ := D.turn T₆
  exact wpAny_passesOwnAt hE (k h₆ g₆ (T0.trans T₆) F₆ Nl K₆ X₆ P₆ D₆)
end
section
variable {prog : Program} {w : World} {A₀ A : Around} {s : Shared} {h₀ : Heap} {L a : Addr} {m : Str → Option Value} {cn : Str} {cs : Scope} {ccd : Value} {news : List (Addr × Obj)} {K : Frag} {p : Program} {loose : List Str} {mean : ExcName → Option Value} {mg mb : Str → Option Value}
    {R : Result → Shared → Prop} {name qual : Str} {params : Arguments} {body : List Stmt} {scope : Scope} {dV kV doc pm cdv ct oc : Value} {an od : Option Addr} {osl : Array (Option Value)} {f : Addr} {args : Args} {binds : List (Str × Value)}
/- a call from the law of a def with cells that catches errors -/
theorem code_defCS0 {base : Heap} (B : Below A₀ base [] h₀) (F : Fr h₀ L s.heap m) (X₀ : K.In h₀) (N : News h₀ L s.heap news) (T : Top p loose mean mg mb h₀) (hA : A.frames = some [envOf cn cs L a ccd])
    (ho : K.lookup f = some ⟨oc, od, .func (fnOf name qual params body scope dV kV doc pm an cdv ct), osl⟩) (hcd : codeIn K cdv qual = true) (hroom : A.depth < recursionLimit)
    (hbind : BindsTo s (fnOf name qual params body scope dV kV doc pm an cdv ct) args binds) (hkind : (binds.all fun y => scope.names.lookup y.1 == some .local || scope.names.lookup y.1 == some .cell) = true)
    (hnd : ((cellsFrom 0 scope.names []).map (·.1)).Nodup)
    (h : ∀ g L' h₁ tk cells, Fr h₀ L g m → Fr g L' h₁ (bindL (envOfC qual scope L' f cdv).kindOf binds fun _ => none) → News g L' h₁ (cells ++ news) →
      CellsAre (bindC (envOfC qual scope L' f cdv).kindOf binds fun _ => none) (cellsFrom (L' + 1) scope.names []) cells → Below A base [envOf cn cs L a ccd] g → K.In g → Top p loose mean mg mb g → KtsDicts ([envOf cn cs L a ccd].filterMap (·.frame)) g → (∀ p ∈ news, p.1 < L') →
      wpAny (model prog w) (A.deeper (envOfC qual scope L' f cdv)) (execs body (envOfC qual scope L' f cdv))
        (fun fl s' => LeaveS0 ([envOf cn cs L a ccd].filterMap (·.frame)) h₀ L m g R (match fl with | .ret v => v | _ => .none) s')
        (fun e s' => wpAny (model prog w) (A.deeper (envOfC qual scope L' f cdv)) (leaving (envOfC qual scope L' f cdv) e) (fun _ s'' => R (.error e) s'') (fun e' s'' => R (.error e') s'') s')
        { s with heap := h₁, toks := tk })
    (hck : cs.kind = .function) (hco : scope.isCoroutine = false) (hgen : scope.isGenerator = false) (hk : scope.kind = .function) : codeAny (model prog w) A (.call (.ref f) args) R s := by
  have X := X₀.keeps F.keep
  refine codeAny_call_function (fd := fnOf name qual params body scope dV kV doc pm an cdv ct) hroom (X _ _ ho) rfl hco hgen rfl (codeRec_of X hcd) (hbind _ _ _ _ ?_)
  refine wpAny_newFunctionEnv_cells hk (kindsX hkind _) fun env' he s' x => ?_
  subst he
  refine ⟨(T.nolimit.keeps F.keep).keeps x.toInCall.keep, codeAny_func ?_⟩
  obtain ⟨h₁, tk, rfl, _⟩ := x.done
  have hk₁ := x.toInCall.keep
  obtain ⟨cells, NC, Y⟩ := Cl.news (h₀ := s.heap) (Nat.le_refl _) fun n c hm => ⟨x.cell n c (lookup_of_mem_nodup (cellsFrom_names scope.names 0 (s.heap.objs.size + 1) [] [] rfl ▸ hnd) hm), x.above n c hm⟩
  obtain ⟨oL, es, ep, hLg, hLd, hN, hNs, st, B₂⟩ := kts_enter B F N hA hck
  refine wpAny_mono (h _ s.heap.objs.size h₁ tk cells ⟨hN _ hLg, st, F.above⟩ ⟨x.toInCall.ns, fun b o e => hk₁ b o (of_hideAll _ e), Nat.le_of_eq (hideAll_size _ _)⟩ (fun p hp => ?_) Y B₂ (X₀.keeps st) (T.keeps st) (fun b hb => by
      rcases kts_mem hb with rfl | z
      · exact ⟨oL, es, ep, hLg, hLd⟩
      · simp at z) (fun p hp => Heap.lt_size (N p hp).1)) (fun fl s' hl => ?_) fun _ _ y => y
  · rcases List.mem_append.mp hp with hp | hp
    · refine ⟨(NC p hp).1, (NC p hp).2.1, ?_⟩
      cases q : (hideAll s.heap (news.map (·.1))).get? p.1 with
      | none => rfl
      | some o => have := of_hideAll _ q; rw [(NC p hp).2.2] at this; cases this
    · exact ⟨hk₁ _ _ (N p hp).1, Nat.ne_of_lt (Heap.lt_size (N p hp).1), hideAll_none _ (List.mem_map_of_mem hp)⟩
  obtain ⟨g', L', m', news', T', F', N', k⟩ := hl
  have nL₀ : h₀.get? L = none := kts_self F
  obtain ⟨sl, hs⟩ := T'.up hLg
  refine k ⟨hNs sl _ (F'.keep _ _ hs), fun b o e => F'.keep b o (T'.other b o (st b o e) (fun q => by
    rcases kts_mem q with z | z
    · rw [z, nL₀] at e
      cases e
    · simp at z)), F.above⟩ fun p hp => ⟨(N' p hp).1, fun q => ?_, ?_⟩
  · have := (N' p hp).2.2; rw [q, hs] at this; cases this
  · cases q : h₀.get? p.1 with
    | none => rfl
    | some o =>
      obtain ⟨sl', hs'⟩ := T'.up (st _ _ q)
      have := (N' p hp).2.2
      rw [hs'] at this
      cases this
end
end Mine
end
section
open PySem PySem.W PyProof.Rows PySem.Calls PySem.Spec PyProof.V
set_option maxHeartbeats 4000000
namespace Mine
/- what a contract asks of the law that calls it -/
structure CxL (k : Nat) (w : World) (A : Around) (h₀ : Heap) (L : Addr) (s : Shared) (m : Str → Option Value) (news : List (Addr × Obj)) : Prop where
  ex : ∃ A₀ cn cs a ccd mean mg mb, A.handled = none ∧ A.frames = some [envOf cn cs L a ccd] ∧ cs.kind = .function ∧ Below A₀ h₀ [] h₀ ∧ TOPX mean mg mb h₀
  room : A.depth + k < recursionLimit
  unit : A.units + 10 * k < cLine
  X : (KK w).In h₀
  F : Fr h₀ L s.heap m
  N : News h₀ L s.heap news
theorem leave_moreS {fs : List Addr} {h₀ g g₂ : Heap} {L : Addr} {m : Str → Option Value} {ex news : List (Addr × Obj)} {R : Result → Shared → Prop} {v : Value} {s' : Shared} (hs : g.objs.size ≤ g₂.objs.size) (hg : ∀ b o, g.get? b = some o → g₂.get? b = some o) (hr : ∀ p ∈ restOf ex news, g₂.get? p.1 = some p.2)
    (hn : ∀ p ∈ news, g.get? p.1 = none) (D : KtsDicts fs g)
    (l : LeaveS0 fs h₀ L m g₂ (fun r s' => (∀ p ∈ restOf ex news, s'.heap.get? p.1 = some p.2) → R r s') v s') : LeaveS0 fs h₀ L m g R v s' := by
  obtain ⟨g₂', L', m', news', T, F', N', k⟩ := l
  have hfs : ∀ b ∈ fs, ∃ o, g.get? b = some o := fun b hb => let ⟨o, _, _, e, _⟩ := D b hb; ⟨o, e⟩
  obtain ⟨T₁, S₁⟩ := kts_turn_at (h := s'.heap) (g := g) hfs (fun b o e nm => F'.keep b o (T.other b o (hg b o e) nm)) (fun b o e hm => by
    obtain ⟨sl, e'⟩ := T.frame b o (hg b o e) hm
    exact ⟨sl, F'.keep _ _ e'⟩)
  refine ⟨_, L', m', news', T₁, ⟨F'.ns, S₁, by rw [T₁.size]; exact Nat.le_trans hs (T.size ▸ F'.above)⟩, fun p hp => ⟨(N' p hp).1, (N' p hp).2.1, T₁.none_ _ ?_⟩, fun F N => k F N fun p hp => F'.keep _ _ (T.other _ _ (hr p hp) fun hm => ?_)⟩
  · cases q : g.get? p.1 with
    | none => rfl
    | some o =>
      obtain ⟨sl, e⟩ := T.up (hg _ _ q)
      have := (N' p hp).2.2
      rw [e] at this; cases this
  · obtain ⟨o, e⟩ := hfs _ hm
    rw [hn p (restOf_mem.mp hp).1] at e; cases e

section
variable {prog : Program} {w : World} {A : Around} {E : Value → Shared → Prop} {s : Shared} {env : Env} {h₀ : Heap} {target : Expr} {body : List Stmt} {Q : Flow → Shared → Prop}
def GoPost (Q : Flow → Shared → Prop) (next : Shared → Prop) : Flow → Shared → Prop
  | .next, s => next s
  | .cont, s => next s
  | .brk, s => Q .next s
  | .ret v, s => Q (.ret v) s
theorem goPost_next {next : Shared → Prop} (h : next s) : GoPost Q next .next s := h
theorem goPost_cont {next : Shared → Prop} (h : next s) : GoPost Q next .cont s := h
theorem goPost_brk {next : Shared → Prop} (h : Q .next s) : GoPost Q next .brk s := h
theorem goPost_ret {v : Value} {next : Shared → Prop} (h : Q (.ret v) s) : GoPost Q next (.ret v) s := h
/- a loop that is at its next turn, with n turns at most to come -/
def TurnsGo (prog : Program) (w : World) (A : Around) (target : Expr) (body : List Stmt) (env : Env) (Q : Flow → Shared → Prop) (E : Value → Shared → Prop) (I : Addr) : Nat → Shared → Prop
  | 0, _ => False
  | n + 1, s => wpAny (model prog w) A (pyNext (.ref I)) (fun r s₁ => match r with
    | none => Q .next s₁
    | some v => wpAny (model prog w) A (letOwnedTupleGo target (.ref I) v) (fun _ s₂ => wpAny (model prog w) A (assign target env v) (fun _ s₃ => wpAny (model prog w) A (execs body env) (GoPost Q (TurnsGo prog w A target body env Q E I n)) E s₃) E s₂) E s₁) E s
def IterGo (prog : Program) (w : World) (A : Around) (target : Expr) (body : List Stmt) (env : Env) (Q : Flow → Shared → Prop) (E : Value → Shared → Prop) (n : Nat) (it : Value) (s : Shared) : Prop := ∃ I, it = .ref I ∧ TurnsGo prog w A target body env Q E I n s
theorem For_go (n : Nat) {iter : Expr} {pos : Pos}
    (h : wpAny (model prog w) A (eval iter env) (fun xv s₁ => wpAny (model prog w) A (pyIter xv) (fun it s₂ => IterGo prog w A target body env Q E n it s₂) E s₁) E s)
    (hs : ∀ x, foldedSetIterable iter env x = pure x := by intro _; rfl)
    (hE : PassesOwn (model prog w) A env E := by passes_own) :
    wpAny (model prog w) A (exec (.For target iter body [] pos) env) Q E s := by
  refine wpAny_For (wpAny_mono h (fun xv s₁ h₁ => wpAny_mono h₁ (fun it s₂ h₂ => ?_) fun _ _ e => e) fun _ _ e => e) hs
  obtain ⟨I, rfl, h₂⟩ := h₂
  refine codeAny_forLoop_any (fun n s => TurnsGo prog w A target body env Q E I n s) (fun n s h => ?_) n h₂
  cases n with
  | zero => exact h.elim
  | succ n =>
    refine wpAny_mono h (fun r s₁ h₁ => ?_) hE
    cases r with
    | none => exact wpAny_execs_nil h₁
    | some v =>
      refine wpAny_mono h₁ (fun _ s₂ h₂ => wpAny_mono h₂ (fun _ s₃ h₃ => wpAny_mono h₃ (fun f s₄ h₄ => ?_) hE) hE) hE
      cases f with
      | next => exact ⟨n, Nat.lt_succ_self n, h₄⟩
      | cont => exact ⟨n, Nat.lt_succ_self n, h₄⟩
      | brk => exact h₄
      | ret v => exact h₄
abbrev rangeIt (a n : Int) : Obj := { cls := .type "range_iterator", data := .fields #[rawInt a, rawInt n, rawInt 1] }
structure Keep (a : Addr) : Prop where
  t : a = a
theorem go_iter {r : Addr} {a₀ b₀ : Int} {t₀ u₀ v₀ : Tok} {n : Int} {m : Str → Option Value} {news : List (Addr × Obj)} {k : Nat}
    (hr : IsRange s.heap r a₀ b₀ 1 t₀ u₀ v₀) (hsmall : Builtin.Range.small a₀ b₀ 1 = true) (hn : Builtin.Range.rangeSize a₀ b₀ 1 = n) (F : Fr h₀ env.locals s.heap m) (N : News h₀ env.locals s.heap news)
    (h : ∀ (I : Addr) h', Fr h₀ env.locals h' m → News h₀ env.locals h' ((I, rangeIt a₀ n) :: news) → (∀ p ∈ news, p.1 < I) → TurnsGo prog w A target body env Q E I k { s with heap := h' }) :
    wpAny (model prog w) A (pyIter (.ref r)) (fun it s₂ => IterGo prog w A target body env Q E k it s₂) E s := by
  subst hn
  exact wpAny_pyIter_range hr hsmall ⟨_, rfl, h _ _ (F.push _) (News.push F N _ rfl) fun p hp => Heap.lt_size (N p hp).1⟩
end
open LCg in
theorem compEnd_1 {h₀ : Heap} {L I C D : Addr} {m : Str → Option Value} {s₁ : Shared} {oI oC oD : Obj} {S : List (Addr × Obj) → Prop} {rest : Value → List (Addr × Obj) → Prop} {y : Value} {h' : Heap} {tk : Nat} {t : Addr × Obj} {news' : List (Addr × Obj)}
    (F : Fr h₀ L h' m) (N : News h₀ L h' (t :: (I, oI) :: (C, oC) :: (D, oD) :: news')) (off : Off3 I C D news') (hS : S news') (r : rest y news') :
    CompEnd h₀ L m s₁ I oI C oC D oD S rest y { s₁ with heap := h', toks := tk } := CompEnd.intro F N news' (fun _ hp => .tail _ hp) off hS r
open LCg in
theorem compEnd_0 {h₀ : Heap} {L I C D : Addr} {m : Str → Option Value} {s₁ : Shared} {oI oC oD : Obj} {S : List (Addr × Obj) → Prop} {rest : Value → List (Addr × Obj) → Prop} {y : Value} {h' : Heap} {tk : Nat} {news' : List (Addr × Obj)}
    (F : Fr h₀ L h' m) (N : News h₀ L h' ((I, oI) :: (C, oC) :: (D, oD) :: news')) (off : Off3 I C D news') (hS : S news') (r : rest y news') :
    CompEnd h₀ L m s₁ I oI C oC D oD S rest y { s₁ with heap := h', toks := tk } := CompEnd.intro F N news' (fun _ hp => hp) off hS r
end Mine
end
section
open PySem PySem.W PyProof.Rows PySem.Calls PySem.Spec PyProof.V
set_option maxHeartbeats 4000000
namespace Mine
section
variable {prog : Program} {w : World} {A A₀ : Around} {E : Value → Shared → Prop} {s s₀ : Shared} {env : Env} {base g₂ : Heap} {outer : List Env} {target : Expr} {body : List Stmt} {Q : Flow → Shared → Prop} {KF : Frag} {p : Program} {loose : List Str} {mean : ExcName → Option Value} {mg mb : Str → Option Value} {fs : List Addr} {L I : Addr} {Jl : List (Addr × Obj) → Prop}
/- what stands at the head of each turn of a loop over a written range, whose body may change the ground -/
def GoInv (fs : List Addr) (A₀ : Around) (base : Heap) (outer : List Env) (KF : Frag) (p : Program) (loose : List Str) (mean : ExcName → Option Value) (mg mb : Str → Option Value) (g₂ : Heap) (L I : Addr) (Jl : List (Addr × Obj) → Prop) (x b : Int) (s₀ s : Shared) : Prop :=
  ∃ g h tk m l, s = { s₀ with heap := h, toks := tk } ∧ KtsTurn fs g₂ g ∧ Fr g L h m ∧ News g L h ((I, rangeIt x (b - x)) :: l) ∧ (∀ q ∈ l, q.1 ≠ I) ∧ Below A₀ base outer g ∧ KF.In g ∧ Top p loose mean mg mb g ∧ KtsDicts fs g ∧ Jl l
structure NeAll (I : Addr) (as : List Addr) : Prop where
  at_ : ∀ a ∈ as, a ≠ I
theorem neAll_of {I : Addr} {l : List (Addr × Obj)} (h : NeAll I (l.map (·.1))) : ∀ q ∈ l, q.1 ≠ I := fun _ hq => h.at_ _ (List.mem_map_of_mem hq)
theorem neAll_mk {I : Addr} {l : List (Addr × Obj)} (h : ∀ q ∈ l, q.1 ≠ I) : NeAll I (l.map (·.1)) := ⟨fun _ ha => by
  obtain ⟨q, hq, rfl⟩ := List.mem_map.mp ha
  exact h q hq⟩
theorem goInv_ {g h : Heap} {tk : Nat} {m : Str → Option Value} {l l' : List (Addr × Obj)} {x b : Int} (T : KtsTurn fs g₂ g) (F : Fr g L h m) (N : News g L h l') (hs : ∀ q ∈ (I, rangeIt x (b - x)) :: l, q ∈ l') (ne : ∀ q ∈ l, q.1 ≠ I) (B : Below A₀ base outer g) (X : KF.In g) (P : Top p loose mean mg mb g) (D : KtsDicts fs g) (J : Jl l) :
    GoInv fs A₀ base outer KF p loose mean mg mb g₂ L I Jl x b s₀ { s₀ with heap := h, toks := tk } := ⟨g, h, tk, m, l, rfl, T, F, fun q hq => N q (hs q hq), ne, B, X, P, D, J⟩
theorem go_all (n : Nat) {lo b : Int} (hn : (n : Int) = b - lo) (hA : A.handled = none) (hL : env.locals = L) (ht : ∀ v, letOwnedTupleGo target (.ref I) v = pure ())
    (h0 : GoInv fs A₀ base outer KF p loose mean mg mb g₂ L I Jl lo b s₀ s)
    (step : ∀ x : Int, lo ≤ x → x < b → ∀ g h tk t m l, KtsTurn fs g₂ g → Fr g L h m → News g L h ((I, rangeIt (x + 1) (b - (x + 1))) :: l) → (∀ q ∈ l, q.1 ≠ I) → Below A₀ base outer g → KF.In g → Top p loose mean mg mb g → KtsDicts fs g → Jl l →
      wpAny (model prog w) A (assign target env (.int x t)) (fun _ s₃ => wpAny (model prog w) A (execs body env) (GoPost Q (GoInv fs A₀ base outer KF p loose mean mg mb g₂ L I Jl (x + 1) b s₀)) E s₃) E { s₀ with heap := h, toks := tk })
    (fin : ∀ g h tk m l, KtsTurn fs g₂ g → Fr g L h m → News g L h l → Below A₀ base outer g → KF.In g → Top p loose mean mg mb g → KtsDicts fs g → Jl l → Q .next { s₀ with heap := h, toks := tk }) :
    TurnsGo prog w A target body env Q E I (n + 1) s := by
  subst hL
  induction n generalizing lo s with
  | zero =>
    obtain ⟨g, h, tk, m, l, rfl, T, F, N, ne, B, X, P, D, J⟩ := h0
    have hI := N _ (List.Mem.head _)
    refine wpAny_pyNext_range_end hA hI.1 (by omega) fun h' hit => ?_
    exact fin g h' tk m l T ⟨F.ns.at' fun o e => hit _ _ (Ne.symm hI.2.1) e, fun b o e => hit b o (fun q => by rw [q, hI.2.2] at e; cases e) (F.keep b o e), F.above⟩ (fun q hq => ⟨hit _ _ (ne q hq) (N q (.tail _ hq)).1, (N q (.tail _ hq)).2⟩) B X P D J
  | succ n ih =>
    obtain ⟨g, h, tk, m, l, rfl, T, F, N, ne, B, X, P, D, J⟩ := h0
    have hI := N _ (List.Mem.head _)
    refine wpAny_pyNext_range_item hI.1 (by omega) fun h' hit hsb => wpAny_of_eq (ht _) ?_
    have keep : ∀ b o, b ≠ I → h.get? b = some o → h'.get? b = some o := fun b o hb e => (hsb.2 b hb).trans e
    have e1 : b - lo - 1 = b - (lo + 1) := by omega
    have go := step lo (Int.le_refl _) (by omega) g h' (tk + 1) tk m l T ⟨F.ns.at' fun o e => keep _ _ (Ne.symm hI.2.1) e, fun b o e => keep b o (fun q => by rw [q, hI.2.2] at e; cases e) (F.keep b o e), F.above⟩ (fun q hq => by
      rcases List.mem_cons.mp hq with rfl | hq
      · exact ⟨e1 ▸ hit, hI.2⟩
      · exact ⟨keep _ _ (ne q hq) (N q (.tail _ hq)).1, (N q (.tail _ hq)).2⟩) ne B X P D J
    refine wpAny_mono go (fun _ s₃ h₃ => wpAny_mono h₃ (fun f s₄ h₄ => ?_) fun _ _ e => e) fun _ _ e => e
    have nxt : ∀ s', GoInv fs A₀ base outer KF p loose mean mg mb g₂ env.locals I Jl (lo + 1) b s₀ s' → TurnsGo prog w A target body env Q E I (n + 1) s' := fun s' hs' =>
      ih (by omega) hs' fun x h1 h2 => step x (by omega) h2
    cases f with
    | next => exact nxt _ h₄
    | cont => exact nxt _ h₄
    | brk => exact h₄
    | ret v => exact h₄
end
end Mine
end
section
open PySem PySem.W PyProof.Rows PySem.Calls PySem.Spec PyProof.V
set_option maxHeartbeats 4000000
namespace Mine
section
variable {prog : Program} {w : World} {A : Around} {E : Value → Shared → Prop} {s : Shared} {Q : Value → Shared → Prop}
theorem len_raise {v : Value} {T : String} {nm : String} (hT : s.TypeIs v T) (hl : typeLookup (.type T) "__len__" = pure none) (hn : (Value.type T == Value.type "builtin_function_or_method") = false) (hs : shownName T = nm) (hz : ((s!"object of type '{nm}' has no len()" : String) : Str).length ≤ sizeLine) (hA : A.handled = none)
    (hE : ∀ h' tk e, Heap.NewExc s.heap h' e "TypeError" → E (.ref e) { s with heap := h', toks := tk }) :
    wpAny (model prog w) A (call (.builtin "len") [v]) Q E s := by
  refine Calls.call_function_entry kind_len plain_len entry_len (args_len1 _) ?_
  unfold Builtin.«len»
  refine wpAny_bind (m := oneArg "len" _) (wpAny_pure ?_)
  refine wpAny_bind (m := callSpecial? v (Str.ofString "__len__")) (wpAny_callSpecial?_none (name := Str.ofString "__len__") hT hl ?_)
  dsimp only
  refine wpAny_bind (wpAny_rule ?_)
  refine wpAny_bind (wpAny_typeNameOf' hT hn ?_)
  rw [hs]
  exact wpAny_raiseErrorMade plainExc_TypeError (A := A.in1) hA (fun h' tk e x => hE h' tk e x) hz
theorem len_int {i : Int} {t : Tok} (hA : A.handled = none) (hE : ∀ h' tk e, Heap.NewExc s.heap h' e "TypeError" → E (.ref e) { s with heap := h', toks := tk }) :
    wpAny (model prog w) A (call (.builtin "len") [.int i t]) Q E s := len_raise (T := "int") (nm := "int") (typeIs_int s i t) (by rfl) (by decide) (by rfl) (by size_fits) hA hE
theorem len_none (hA : A.handled = none) (hE : ∀ h' tk e, Heap.NewExc s.heap h' e "TypeError" → E (.ref e) { s with heap := h', toks := tk }) :
    wpAny (model prog w) A (call (.builtin "len") [.none]) Q E s := len_raise (T := "NoneType") (nm := "NoneType") rfl (by rfl) (by decide) (by rfl) (by size_fits) hA hE
end
end Mine
end
section
open PySem PySem.W PyProof.Rows PySem.Calls PySem.Spec PyProof.V
set_option maxHeartbeats 4000000
namespace Mine
abbrev slObj (a b c : Value) : Obj := { cls := .type "slice", data := .fields #[a, b, c] }
abbrev tupObj (l : List Value) : Obj := { cls := .type "tuple", data := .seq l.toArray }
def tupAdj (n : Nat) (lo hi st : Option Int) : Int × Int := Builtin.Slice.sliceAdjust lo hi (st.getD 1) (n : Int)
def tupCount (n : Nat) (lo hi st : Option Int) : Nat := Builtin.Slice.slicePlaces (tupAdj n lo hi st).1 (tupAdj n lo hi st).2 (st.getD 1)
def tupPick (l : List Value) (lo hi st : Option Int) : List Value :=
  (List.range (tupCount l.length lo hi st)).filterMap fun (k : Nat) => l[((tupAdj l.length lo hi st).1 + (k : Int) * st.getD 1).toNat]?
section
variable {prog : Program} {w : World} {A : Around} {E : Value → Shared → Prop} {s : Shared} {h₀ : Heap} {L : Addr} {m : Str → Option Value} {news : List (Addr × Obj)}
theorem slice_part {v : Value} {o : Option Int} {Q : Option Int → Shared → Prop} (p : IsPart v o) (h : Q o s) : wpAny (model prog w) A (Builtin.Slice.slicePartIndex v) Q E s := by
  cases p with
  | none => exact slicePart_none h
  | int i t => exact slicePart_int h
theorem slice_applied {sl : Addr} {vl vu vs : Value} {lo hi st : Option Int} {n : Nat} {Q : Int × Int × Nat → Shared → Prop} (hs : s.heap.IsSliceOf sl vl vu vs) (pl : IsPart vl lo) (pu : IsPart vu hi) (ps : IsPart vs st) (h0 : (st.getD 1 == 0) = false)
    (h : Q ((tupAdj n lo hi st).1, st.getD 1, tupCount n lo hi st) s) :
    wpAny (model prog w) A (Builtin.Slice.sliceApplied (.ref sl) (pure (n : Int))) Q E s := by
  obtain ⟨os, hos, hcs, hds⟩ := id hs
  unfold Builtin.Slice.sliceApplied Builtin.Slice.sliceFields
  refine wpAny_bind (wpAny_bind (wpAny_field hos hds (x := vl) rfl (wpAny_bind (wpAny_field hos hds (x := vu) rfl (wpAny_bind (wpAny_field hos hds (x := vs) rfl (wpAny_pure ?_)))))))
  refine wpAny_bind (slice_part ps ?_)
  show wpAny _ _ (if (st.getD 1 == 0) = true then _ else _) _ _ s
  rw [if_neg (by rw [h0]; decide)]
  refine wpAny_bind (slice_part pl (wpAny_bind (slice_part pu (wpAny_bind (wpAny_pure ?_)))))
  exact wpAny_pure h
theorem getItem_tuple_slice {t sl : Addr} {l zs : List Value} {vl vu vs : Value} {lo hi st : Option Int} {Q : Value → Shared → Prop} (ht : IsTup s.heap t l.toArray) (hs : s.heap.IsSliceOf sl vl vu vs) (pl : IsPart vl lo) (pu : IsPart vu hi) (ps : IsPart vs st) (h0 : (st.getD 1 == 0) = false)
    (hno : ((tupAdj l.length lo hi st).1 == 0 && st.getD 1 == 1 && tupCount l.length lo hi st == l.length) = false) (e : tupPick l lo hi st = zs) (hz : zs.length ≤ sizeLine)
    (h : Q (.ref s.heap.objs.size) { s with heap := s.heap.push (tupObj zs) }) : wpAny (model prog w) A (getItem (.ref t) (.ref sl)) Q E s := by
  obtain ⟨os, hos, hcs, hds⟩ := id hs
  have hTs : s.TypeIs (.ref sl) "slice" := ⟨os, hos, hcs⟩
  unfold getItem
  try with_reducible refine wpAny_holding ?_
  first | refine wpAny_bind (wpAny_pure ?_) | skip
  refine wpAny_bind (wpAny_sequenceKey ht.typeIs (by decide) ?_)
  refine wpAny_bind (wpAny_callSpecial?_slot (name := Str.ofString "__getitem__") ht.typeIs slot_tuple_getitem
    (wpAny_call_entry slot_tuple_getitem ht.typeIs entry_tuple_getitem ?_ (args_tuple_getitem _ _)))
  show wpAny _ _ (Builtin.Tuple.tupleItemsOf (.ref t) >>= _) _ _ s
  refine wpAny_bind (tupleItemsOf_ ht ?_)
  refine wpAny_bind (wpAny_typeOf hTs ?_)
  rw [if_pos (by decide)]
  have hsz : l.toArray.size = l.length := by simp
  rw [hsz]
  refine wpAny_bind (slice_applied hs pl pu ps h0 ?_)
  show wpAny _ _ (if ((tupAdj l.length lo hi st).1 == 0 && st.getD 1 == 1 && tupCount l.length lo hi st == l.length) = true then _ else _) _ _ s
  rw [if_neg (by rw [hno]; decide)]
  have e2 : ((List.range (tupCount l.length lo hi st)).filterMap fun (k : Nat) => l.toArray[((tupAdj l.length lo hi st).1 + (k : Int) * st.getD 1).toNat]?) = zs := by
    rw [← e]; unfold tupPick; simp
  rw [e2]
  have hdrop : sizeOk (.seq zs.toArray) := by
    show zs.toArray.size ≤ sizeLine
    simpa using hz
  first
    | exact wpAny_bind (m := Builtin.Tuple.tupleExact _) (wpAny_newObj_type (wpAny_pure ⟨_, rfl, wpAny_pure h⟩) hdrop)
    | exact wpAny_bind (m := Builtin.Tuple.tupleExact _) (wpAny_newObj_type (wpAny_bind (wpAny_pure (wpAny_pure ⟨_, rfl, wpAny_pure h⟩))) hdrop)
    | exact wpAny_bind (wpAny_bind (m := Builtin.Tuple.tupleExact _) (wpAny_newObj_type (wpAny_pure (wpAny_pure ⟨_, rfl, wpAny_pure h⟩)) hdrop))
    | exact wpAny_bind (wpAny_bind (m := Builtin.Tuple.tupleExact _) (wpAny_newObj_type (wpAny_pure ⟨_, rfl, wpAny_pure h⟩) hdrop))
/- what a written slice picks -/
structure Pick (l : List Value) (lo hi st : Option Int) (zs : List Value) : Prop where
  e : tupPick l lo hi st = zs
theorem pick_mk {l zs : List Value} {lo hi st : Option Int} {a : Int} {c : Nat} (ha : (tupAdj l.length lo hi st).1 = a) (hc : tupCount l.length lo hi st = c) (e : ((List.range c).filterMap fun (k : Nat) => l[(a + (k : Int) * st.getD 1).toNat]?) = zs) : Pick l lo hi st zs := ⟨by unfold tupPick; rw [ha, hc, e]⟩
theorem pick_0 {a b c d : Value} : Pick [a, b, c, d] (some 1) (some 3) (none) [b, c] := pick_mk (a := 1) (c := 2) (by show (tupAdj 4 _ _ _).1 = _; decide +kernel) (by show tupCount 4 _ _ _ = _; decide +kernel) (by first | rfl | simp [List.range, List.range.loop])
theorem pick_1 {a b c d : Value} : Pick [a, b, c, d] (none) (none) (some (-1)) [d, c, b, a] := pick_mk (a := 3) (c := 4) (by show (tupAdj 4 _ _ _).1 = _; decide +kernel) (by show tupCount 4 _ _ _ = _; decide +kernel) (by first | rfl | simp [List.range, List.range.loop])
theorem pick_2 {a b c d : Value} : Pick [a, b, c, d] (some (-9)) (some 9) (some 2) [a, c] := pick_mk (a := 0) (c := 2) (by show (tupAdj 4 _ _ _).1 = _; decide +kernel) (by show tupCount 4 _ _ _ = _; decide +kernel) (by first | rfl | simp [List.range, List.range.loop])
theorem pick_3 {a b c d : Value} : Pick [a, b, c, d] (none) (some 0) (none) [] := pick_mk (a := 0) (c := 0) (by show (tupAdj 4 _ _ _).1 = _; decide +kernel) (by show tupCount 4 _ _ _ = _; decide +kernel) (by first | rfl | simp [List.range, List.range.loop])
theorem pick_4 {a b c d : Value} : Pick [a, b, c, d] (none) (some 1) (none) [a] := pick_mk (a := 0) (c := 1) (by show (tupAdj 4 _ _ _).1 = _; decide +kernel) (by show tupCount 4 _ _ _ = _; decide +kernel) (by first | rfl | simp [List.range, List.range.loop])
theorem pick_5 {a b c d : Value} : Pick [a, b, c, d] (none) (some 2) (none) [a, b] := pick_mk (a := 0) (c := 2) (by show (tupAdj 4 _ _ _).1 = _; decide +kernel) (by show tupCount 4 _ _ _ = _; decide +kernel) (by first | rfl | simp [List.range, List.range.loop])
theorem pick_6 {a b c d : Value} : Pick [a, b, c, d] (none) (some 3) (none) [a, b, c] := pick_mk (a := 0) (c := 3) (by show (tupAdj 4 _ _ _).1 = _; decide +kernel) (by show tupCount 4 _ _ _ = _; decide +kernel) (by first | rfl | simp [List.range, List.range.loop])
theorem pick_7 {a b c d : Value} : Pick [a, b, c, d] (some 1) (none) (none) [b, c, d] := pick_mk (a := 1) (c := 3) (by show (tupAdj 4 _ _ _).1 = _; decide +kernel) (by show tupCount 4 _ _ _ = _; decide +kernel) (by first | rfl | simp [List.range, List.range.loop])
theorem pick_8 {a b c d : Value} : Pick [a, b, c, d] (some 2) (none) (none) [c, d] := pick_mk (a := 2) (c := 2) (by show (tupAdj 4 _ _ _).1 = _; decide +kernel) (by show tupCount 4 _ _ _ = _; decide +kernel) (by first | rfl | simp [List.range, List.range.loop])
theorem pick_9 {a b c d : Value} : Pick [a, b, c, d] (some 3) (none) (none) [d] := pick_mk (a := 3) (c := 1) (by show (tupAdj 4 _ _ _).1 = _; decide +kernel) (by show tupCount 4 _ _ _ = _; decide +kernel) (by first | rfl | simp [List.range, List.range.loop])
theorem pick_10 {a b c d : Value} : Pick [a, b, c, d] (some 4) (none) (none) [] := pick_mk (a := 4) (c := 0) (by show (tupAdj 4 _ _ _).1 = _; decide +kernel) (by show tupCount 4 _ _ _ = _; decide +kernel) (by first | rfl | simp [List.range, List.range.loop])
theorem tup_slice {value slice : Expr} {t sl : Addr} {l zs : List Value} {vl vu vs : Value} {lo hi st : Option Int} {Q : Value → Shared → Prop} {ops : List Value} (F : Fr h₀ L s.heap m) (N : News h₀ L s.heap news) (ht : (t, tupObj l) ∈ news) (hs : (sl, slObj vl vu vs) ∈ news) (pl : IsPart vl lo) (pu : IsPart vu hi) (ps : IsPart vs st) (h0 : (st.getD 1 == 0) = false)
    (hno : ((tupAdj l.length lo hi st).1 == 0 && st.getD 1 == 1 && tupCount l.length lo hi st == l.length) = false) (e : Pick l lo hi st zs) (hz : zs.length ≤ sizeLine)
    (h : ∀ D h', Fr h₀ L h' m → News h₀ L h' ((D, tupObj zs) :: news) → (∀ p ∈ news, p.1 < D) → Q (.ref D) { s with heap := h' })
    (ho : subscripted slice false (.ref t) (.ref sl) = operate ops (getItem (.ref t) (.ref sl))) :
    wpAny (model prog w) A (subscriptTail value slice (.ref t) (.ref sl)) Q E s :=
  tail_any (News.isTup N ht).typeIs slot_tuple_getitem.lookup
    (getItem_tuple_slice (News.isTup N ht) ⟨_, (N _ hs).1, rfl, rfl⟩ pl pu ps h0 hno e.e hz (h _ _ (F.push _) (News.push F N _ rfl) fun p hp => Heap.lt_size (N p hp).1)) ho
/- a slice that is made stands in the ledger -/
def SlPost (Q : Value → Shared → Prop) (l u st : Value) (s₃ : Shared) : Prop := ∃ h₀ L m news, Fr h₀ L s₃.heap m ∧ News h₀ L s₃.heap news ∧ ∀ S h', Fr h₀ L h' m → News h₀ L h' ((S, slObj l u st) :: news) → (∀ p ∈ news, p.1 < S) → Q (.ref S) { s₃ with heap := h' }
theorem slPost_ {Q : Value → Shared → Prop} {l u st : Value} (F : Fr h₀ L s.heap m) (N : News h₀ L s.heap news) (k : ∀ S h', Fr h₀ L h' m → News h₀ L h' ((S, slObj l u st) :: news) → (∀ p ∈ news, p.1 < S) → Q (.ref S) { s with heap := h' }) : SlPost Q l u st s := ⟨h₀, L, m, news, F, N, k⟩
theorem ev_slice {env : Env} {lower upper step : Option Expr} {p : Pos} {Q : Value → Shared → Prop}
    (h : wpAny (model prog w) A (evalPart lower env) (fun l s₁ => wpAny (model prog w) A (evalPart upper env) (fun u s₂ => wpAny (model prog w) A (evalPart step env) (fun st s₃ => SlPost Q l u st s₃) E s₂) E s₁) E s) :
    wpAny (model prog w) A (eval (.Slice lower upper step p) env) Q E s :=
  wpAny_Slice (wpAny_mono h (fun _ _ h₁ => wpAny_mono h₁ (fun _ _ h₂ => wpAny_mono h₂ (fun _ _ h₃ => by
    obtain ⟨h₀, L, m, news, F, N, k⟩ := h₃
    exact k _ _ (F.push _) (News.push F N _ rfl) fun p hp => Heap.lt_size (N p hp).1) fun _ _ e => e) fun _ _ e => e) fun _ _ e => e)
theorem sub_slK {K : Frag} {x C f : Addr} {ox : Obj} {od : Option Obj} {value slice : PySem.Expr} {i : Value} {Q : Value → Shared → Prop} {ops : List Value} (F : Fr h₀ L s.heap m) (X₀ : K.In h₀) (I : InstAt s.heap x ox C od) (hs : findIn K (.ref C) "__getitem__" = some (some (.ref f))) (hf : fnIn K f = true) (hfn : isFn K (.ref f) = true) (hq : noSeq K C = true)
    (h : wpAny (model prog w) A (call (.ref f) [.ref x, i]) Q E s)
    (hsl : subscripted slice true (.ref x) i = operate ops (getItem (.ref x) i) := by with_unfolding_all rfl) :
    wpAny (model prog w) A (subscriptTail value slice (.ref x) i) Q E s := by
  have X := X₀.keeps F.keep
  unfold fnIn at hf
  split at hf
  · rename_i e
    unfold subscriptTail getitemInPython
    refine wpAny_bind (wpAny_bind (wpAny_bind (I.type.here ((looks_findIn X hs).here ?_))))
    dsimp only
    refine wpAny_bind (wpAny_load (X _ _ e) (wpAny_pure ?_))
    dsimp only
    rw [hsl]
    refine wpAny_bind (wpAny_operating (getItem_K F X₀ I hq hs hfn (wpAny_mono h (fun v s' z => ?_) fun _ _ z => z)))
    show wpAny (model prog w) A (letTemporaryGo value (.ref x) v >>= fun _ => pure v) Q E s'
    exact wpAny_bind (wpAny_letTemporaryGo (wpAny_pure z))
  · cases hf
end
section
variable {A₀ : Around} {s₀ : Shared} {base g₂ : Heap} {outer : List Env} {KF : Frag} {p : Program} {loose : List Str} {mean : ExcName → Option Value} {mg mb : Str → Option Value} {fs : List Addr} {L I : Addr}
theorem goInv3 {g h : Heap} {tk : Nat} {m : Str → Option Value} {l' ex : List (Addr × Obj)} {x b : Int} {a1 a2 a3 : Addr} {o1 o2 o3 : Obj} {v : Option Value} {c2 c3 : Value} (F : Fr g L h m) (N : News g L h l') (h0 : (I, rangeIt x (b - x)) ∈ l') (h1 : (a1, o1) ∈ l') (h2 : (a2, o2) ∈ l') (h3 : (a3, o3) ∈ l') (he : ∀ q ∈ ex, q ∈ l') (d1 : o1.data = .cell v) (d2 : o2.data = .cell (some c2)) (d3 : o3.data = .cell (some c3)) (ne : NeAll I (a1 :: a2 :: a3 :: ex.map (·.1))) (T : KtsTurn fs g₂ g) (B : Below A₀ base outer g) (X : KF.In g) (P : Top p loose mean mg mb g) (D : KtsDicts fs g) :
    GoInv fs A₀ base outer KF p loose mean mg mb g₂ L I (fun l => ∃ o1 o2 o3 v, l = (a1, o1) :: (a2, o2) :: (a3, o3) :: ex ∧ o1.data = .cell v ∧ o2.data = .cell (some c2) ∧ o3.data = .cell (some c3)) x b s₀ { s₀ with heap := h, toks := tk } :=
  goInv_ T F N (List.forall_mem_cons.mpr ⟨h0, List.forall_mem_cons.mpr ⟨h1, List.forall_mem_cons.mpr ⟨h2, List.forall_mem_cons.mpr ⟨h3, he⟩⟩⟩⟩) (neAll_of (l := (a1, o1) :: (a2, o2) :: (a3, o3) :: ex) ne) B X P D ⟨o1, o2, o3, v, rfl, d1, d2, d3⟩
end
end Mine
end
section
open PySem PySem.W PyProof.Rows PySem.Calls PySem.Spec PyProof.V
set_option maxHeartbeats 4000000
namespace Mine
inductive AtomAll : List Value → List PyData → Prop
  | nil : AtomAll [] []
  | cons {v d vs ds} : Atom v d → AtomAll vs ds → AtomAll (v :: vs) (d :: ds)
theorem AtomAll.reads {h : Heap} {vs : List Value} {ds : List PyData} (x : AtomAll vs ds) : ReadsAll h vs ds [] := by
  induction x with
  | nil => exact .nil
  | cons a _ ih => exact ReadsAll.cons (as := []) (bs := []) a.reads ih
theorem AtomAll.flat {vs : List Value} {ds : List PyData} (x : AtomAll vs ds) : FlatAll ds := by
  induction x with
  | nil => exact .nil
  | cons a _ ih => exact .cons a.flat ih
structure TupIs (l : List Value) (ds : List PyData) : Prop where
  a : AtomAll l ds
theorem tupReads {h₀ h : Heap} {L o : Addr} {news : List (Addr × Obj)} {l : List Value} {ds : List PyData} (N : News h₀ L h news) (ho : (o, tupObj l) ∈ news) (a : TupIs l ds) : Reads h (.ref o) (.tuple ds) [] :=
  Reads.tuple (N _ ho).1 rfl rfl a.a.reads
theorem listReads {h₀ h : Heap} {L o : Addr} {news : List (Addr × Obj)} {l : List Value} {n : Nat} {ds : List PyData} (N : News h₀ L h news) (ho : (o, listOf l.toArray n) ∈ news) (a : TupIs l ds) : Reads h (.ref o) (.list ds) [o] :=
  Reads.list (N _ ho).1 rfl rfl a.a.reads
section
variable {prog : Program} {w : World} {A : Around} {E : Value → Shared → Prop} {s : Shared} {K : Frag} {x C L f l : Addr} {h₀ : Heap} {m : Str → Option Value} {ox : Obj} {od : Option Obj}
/- a list is asked for «==» with an object that is no list -/
theorem list_eq_inst {Q : Option Value → Shared → Prop} (X : K.In s.heap) (I : InstAt s.heap x ox C od) {items : Array Value} (hl : s.heap.IsList l items) (hc : subIn K (.ref C) (.type "list") = some false) (h : Q none s) :
    wpAny (model prog w) A (tryCompare (.ref l) "__eq__" (.ref x)) Q E s := by
  unfold tryCompare
  refine wpAny_bind (wpAny_callSpecialIfBound?_slot (name := Str.ofString "__eq__") hl.typeIs F.slot_list_eq (wpAny_call_entry F.slot_list_eq hl.typeIs F.entry_list_eq ?_ (F.args_list_eq_2 _ _)))
  show wpAny _ _ (isInstance (.ref x) (.type "list") >>= _) _ _ _
  unfold isInstance
  refine wpAny_bind (wpAny_bind (I.type.here ((looks_subIn X hc).here ?_)))
  rw [if_pos (show (!false) = true from rfl)]
  refine wpAny_bind (wpAny_pure (wpAny_pure ⟨_, rfl, ?_⟩))
  exact wpAny_pure h
/- an object whose own «==» does not answer, beside a list -/
theorem cmp_list {Q : Value → Shared → Prop} {items : Array Value} (hu : A.units < cLine) (F : Fr h₀ L s.heap m) (X₀ : K.In h₀) (I : InstAt s.heap x ox C od) (hl : s.heap.IsList l items) (hn : subIn K (.type "list") (.ref C) = some false) (hc : subIn K (.ref C) (.type "list") = some false)
    (hs : findIn K (.ref C) "__eq__" = some (some (.ref f))) (hf : isFn K (.ref f) = true)
    (h : wpAny (model prog w) A (call (.ref f) [.ref x, .ref l]) (fun v s' => v = .notImplemented ∧ K.In s'.heap ∧ InstAt s'.heap x ox C od ∧ s'.heap.IsList l items ∧ Q (.bool false) s') E s) :
    wpAny (model prog w) A (compareOp .Eq (.ref x) (.ref l)) Q E s := by
  have X := X₀.keeps F.keep
  show wpAny _ _ (richCompare .Eq (.ref x) (.ref l)) _ _ _
  unfold richCompare
  simp only [oneThing_ref]
  refine wpAny_holding (wpAny_bind (wpAny_cRoomFor hu ?_))
  have L0 : Looks (model prog w) s.heap (typeOf (.ref l)) (.type "list") := by
    obtain ⟨o, ho, hc, _⟩ := hl
    exact hc ▸ (Looks.ld (part := none) ho).andThen .now
  refine wpAny_bind (I.type.here (wpAny_bind (L0.here ?_)))
  have ne : ((Value.ref C != Value.type "list") = true) := rfl
  simp only [ne, if_true]
  refine wpAny_bind ((looks_subIn X hn).here ?_)
  simp only [Bool.false_eq_true, if_false]
  have one : wpAny (model prog w) A (tryCompare (.ref x) "__eq__" (.ref l)) (fun r s' => r = none ∧ K.In s'.heap ∧ InstAt s'.heap x ox C od ∧ s'.heap.IsList l items ∧ Q (.bool false) s') E s := by
    unfold tryCompare
    refine wpAny_bind (ifBound_K X I hs hf (wpAny_mono h (fun v s' hv => ?_) fun _ _ e => e))
    obtain ⟨rfl, h1⟩ := hv
    exact wpAny_pure ⟨rfl, h1⟩
  refine wpAny_bind (wpAny_mono one (fun r s' z => ?_) fun _ _ e => e)
  obtain ⟨rfl, X', I', hl', hq⟩ := z
  refine wpAny_bind (list_eq_inst X' I' hl' hc ?_)
  refine wpAny_bind (wpAny_rule ?_)
  obtain ⟨o2, ho2, hc2, hd2⟩ := hl'
  refine wpAny_bind (wpAny_isSame_ref_other (fun q => ?_) I'.at_ ho2 ?_ (wpAny_pure hq))
  · subst q
    have e := I'.at_
    rw [ho2] at e
    have e2 := I'.cls
    rw [← Option.some.inj e, hc2] at e2
    cases e2
  · rw [I'.cls]
    intro q
    cases q
end
end Mine
end
section
open PySem PySem.W PyProof.Rows PySem.Calls PySem.Spec PyProof.V
set_option maxHeartbeats 4000000
namespace Mine
theorem tupIs3 {a b c : Value} {x y z : PyData} (h1 : Atom a x) (h2 : Atom b y) (h3 : Atom c z) : TupIs [a, b, c] [x, y, z] := ⟨.cons h1 (.cons h2 (.cons h3 .nil))⟩
theorem tupIs4 {a b c d : Value} {x y z u : PyData} (h1 : Atom a x) (h2 : Atom b y) (h3 : Atom c z) (h4 : Atom d u) : TupIs [a, b, c, d] [x, y, z, u] := ⟨.cons h1 (.cons h2 (.cons h3 (.cons h4 .nil)))⟩
theorem tupIs5 {a b c d e : Value} {x y z u v : PyData} (h1 : Atom a x) (h2 : Atom b y) (h3 : Atom c z) (h4 : Atom d u) (h5 : Atom e v) : TupIs [a, b, c, d, e] [x, y, z, u, v] := ⟨.cons h1 (.cons h2 (.cons h3 (.cons h4 (.cons h5 .nil))))⟩
/- an index that is within a sequence of n items -/
structure IdxIs (k : Int) (n j : Nat) : Prop where
  i : seqIndex? k n = some j
  lt : j < n
  lo : -(2 ^ 63) ≤ k
  hi : k < 2 ^ 63
theorem idx_nat {i n : Nat} (h : i < n) (hn : n < 1000 := by decide) : IdxIs (0 + (i : Int)) n i := ⟨by
  unfold seqIndex?
  have h1 : ¬ ((0 : Int) + (i : Int) < 0) := by omega
  simp only [h1, if_false]
  rw [if_pos (by simp; omega)]
  congr 1
  omega, h, by omega, by omega⟩
theorem idx_neg {k : Int} {n : Nat} (h : k < 0) (h2 : 0 ≤ k + n) (hn : n < 1000 := by decide) : IdxIs k n (k + n).toNat := ⟨by
  unfold seqIndex?
  simp only [h, if_true]
  rw [if_pos (by simp; omega)], by omega, by omega, by omega⟩
theorem idx_pos {k : Int} {n : Nat} (h : 0 ≤ k) (h2 : k < n) (hn : n < 1000 := by decide) : IdxIs k n k.toNat := ⟨by
  unfold seqIndex?
  have h1 : ¬ (k < 0) := by omega
  simp only [h1, if_false]
  rw [if_pos (by simp; omega)], by omega, by omega, by omega⟩
structure IdxOut (k : Int) (n : Nat) : Prop where
  i : seqIndex? k n = none
  lo : -(2 ^ 63) ≤ k
  hi : k < 2 ^ 63
theorem AtomAll.at {vs : List Value} {ds : List PyData} (x : AtomAll vs ds) : ∀ j, j < vs.length → Atom (vs.getD j .none) (ds.getD j .none) := by
  induction x with
  | nil => exact fun j h => absurd h (Nat.not_lt_zero j)
  | cons a _ ih =>
    intro j h
    cases j with
    | zero => exact a
    | succ j => exact ih j (Nat.lt_of_succ_lt_succ h)
section
variable {prog : Program} {w : World} {A : Around} {E : Value → Shared → Prop} {s : Shared} {h₀ : Heap} {L : Addr} {m : Str → Option Value} {news : List (Addr × Obj)}
theorem item_at {value slice : PySem.Expr} {t : Addr} {l : List Value} {k : Int} {u : Tok} {n j : Nat} {Q : Value → Shared → Prop} (N : News h₀ L s.heap news) (ht : (t, tupObj l) ∈ news) (hn : l.length = n) (x : IdxIs k n j) (h : Q (l.getD j .none) s)
    (hs : subscripted slice false (.ref t) (.int k u) = operate [.ref t, .int k u] (getItem (.ref t) (.int k u)) := by with_unfolding_all rfl) :
    wpAny (model prog w) A (subscriptTail value slice (.ref t) (.int k u)) Q E s := by
  subst hn
  refine item_tupleT (News.isTup N ht) x.lo x.hi x.i ?_ h hs
  have := x.lt
  simp [List.getD, this]
end
theorem atom_q {t : Tok} : Atom (.str (Str.ofString "?") t) (.str (Str.ofString "?")) := .inr (.inr ⟨_, _, rfl, rfl, by decide, by decide +kernel⟩)
section
variable {prog : Program} {w : World} {A : Around} {E : Value → Shared → Prop} {s : Shared} {h₀ : Heap} {L : Addr} {news : List (Addr × Obj)}
theorem item_outX {value slice : PySem.Expr} {t : Addr} {l : List Value} {k : Int} {u : Tok} {n : Nat} {Q : Value → Shared → Prop} (hA : A.handled = none) (N : News h₀ L s.heap news) (ht : (t, tupObj l) ∈ news) (hn : l.length = n) (x : IdxOut k n)
    (hE : ∀ h' tk e, Heap.NewExc s.heap h' e "IndexError" → E (.ref e) { s with heap := h', toks := tk })
    (hs : subscripted slice false (.ref t) (.int k u) = operate [.ref t, .int k u] (getItem (.ref t) (.int k u)) := by with_unfolding_all rfl) :
    wpAny (model prog w) A (subscriptTail value slice (.ref t) (.int k u)) Q E s := by
  subst hn
  exact item_outT hA (News.isTup N ht) (.inl (by simpa using x.i)) x.lo x.hi hE hs
end
def pickC (c : Nat → Bool) (val : Nat → Value) : Nat → Nat → List Value
  | _, 0 => []
  | i, k + 1 => (if c i = true then [val i] else []) ++ pickC c val (i + 1) k
structure PickC (c : Nat → Bool) (val : Nat → Value) (n : Nat) (zs : List Value) : Prop where
  e : pickC c val 0 n = zs
abbrev inC (x : Int) (i : Nat) : Bool := [0 + (i : Int), 0 + (i : Int) - 4].any fun y => y == x
theorem pick_one {x : Int} {j : Nat} (val : Nat → Value) (h1 : -4 ≤ x) (h2 : x < 4) (ix : IdxIs x 4 j) : PickC (inC x) val 4 [val j] := by
  have hx : x = -4 ∨ x = -3 ∨ x = -2 ∨ x = -1 ∨ x = 0 ∨ x = 1 ∨ x = 2 ∨ x = 3 := by
    obtain ⟨n, hn, rfl⟩ : ∃ n : Nat, n < 8 ∧ x = (n : Int) - 4 := ⟨(x + 4).toNat, by omega, by omega⟩
    clear ix h1 h2
    revert n
    decide
  rcases hx with rfl | rfl | rfl | rfl | rfl | rfl | rfl | rfl
  · obtain rfl : (0 : Nat) = j := Option.some.inj ix.i
    exact ⟨rfl⟩
  · obtain rfl : (1 : Nat) = j := Option.some.inj ix.i
    exact ⟨rfl⟩
  · obtain rfl : (2 : Nat) = j := Option.some.inj ix.i
    exact ⟨rfl⟩
  · obtain rfl : (3 : Nat) = j := Option.some.inj ix.i
    exact ⟨rfl⟩
  · obtain rfl : (0 : Nat) = j := Option.some.inj ix.i
    exact ⟨rfl⟩
  · obtain rfl : (1 : Nat) = j := Option.some.inj ix.i
    exact ⟨rfl⟩
  · obtain rfl : (2 : Nat) = j := Option.some.inj ix.i
    exact ⟨rfl⟩
  · obtain rfl : (3 : Nat) = j := Option.some.inj ix.i
    exact ⟨rfl⟩
theorem places {x : Int} (h1 : -5 ≤ x) (h2 : x < 5) : (-4 ≤ x ∧ x < 4) ∨ (x = -5 ∨ x = 4) := by
  rcases Int.lt_or_eq_of_le h1 with h | h
  · rcases Int.lt_or_eq_of_le (Int.le_of_lt_add_one (b := 4) h2) with g | g
    · exact .inl ⟨h, g⟩
    · exact .inr (.inr g)
  · exact .inr (.inl h.symm)
theorem pick_zero {x : Int} (val : Nat → Value) (hx : x = -5 ∨ x = 4) : PickC (inC x) val 4 [] := by
  rcases hx with rfl | rfl
  · exact ⟨rfl⟩
  · exact ⟨rfl⟩
theorem idx_out {x : Int} (hx : x = -5 ∨ x = 4) : IdxOut x 4 := by
  rcases hx with rfl | rfl <;> exact ⟨by rfl, by decide, by decide⟩
/- what a turn of the comprehension comes to -/
structure CEnd (c : Nat → Bool) (val : Nat → Value) (i : Nat) (news : List (Addr × Obj)) (b : Bool) (y : Value) (news' : List (Addr × Obj)) : Prop where
  is : c i = b
  y : b = true → y = val i
  n : news' = news
section
open LCg LCt
variable {prog : Program} {w : World} {A : Around} {s : Shared} {h₀ : Heap} {L : Addr} {m : Str → Option Value} {env : Env} {ct elt : Expr} {x : Str} {scope : Scope} {cl : List (Str × Addr)} {P : Nat → Value → Prop} {Fin : List Value → List (Addr × Obj) → Prop} {news : List (Addr × Obj)} {c : Nat → Bool} {val : Nat → Value} {n : Nat} {zs : List Value}
theorem compEnd_mono {I C D : Addr} {s₁ s₂ : Shared} {oI oC oD : Obj} {S : List (Addr × Obj) → Prop} {r r' : Value → List (Addr × Obj) → Prop} {y : Value} (h : CompEnd h₀ L m s₁ I oI C oC D oD S r y s₂) (k : ∀ news', r y news' → r' y news') : CompEnd h₀ L m s₁ I oI C oC D oD S r' y s₂ := by
  obtain ⟨h', tk, news', e, F, N, o, hS, hr⟩ := h
  exact ⟨h', tk, news', e, F, N, o, hS, k _ hr⟩
theorem compT_all (pk : PickC c val n zs)
    (step : ∀ i, i < n → ∀ (ys : List Value) v I oI C oC D m₂ h tk (E' : Value → Shared → Prop), P i v → NsObj oC m₂ → m₂ x = some v → Fr h₀ L h m → News h₀ L h ((I, oI) :: (C, oC) :: (D, lst ys) :: news) → Off3 I C D news → ((@Ne Nat I C) ∧ (@Ne Nat I D) ∧ (@Ne Nat C D)) →
      wpAny (model prog w) A (isTrue ct (compEnvC scope cl C env) (eval ct (compEnvC scope cl C env))) (fun ok s' => if ok = true then
        wpAny (model prog w) A (eval elt (compEnvC scope cl C env)) (CompEnd h₀ L m { s with heap := h, toks := tk } I oI C oC D (lst ys) (fun _ => True) (CEnd c val i news true)) E' s'
        else CompEnd h₀ L m { s with heap := h, toks := tk } I oI C oC D (lst ys) (fun _ => True) (CEnd c val i news false) Value.none s') E' { s with heap := h, toks := tk })
    (fin : Fin zs news) : CompRestT prog w A h₀ L m env ct elt x scope cl s (fun _ => True) P Fin n 0 [] news := by
  have go : ∀ k i ys, i + k = n → ys ++ pickC c val i k = zs → CompRestT prog w A h₀ L m env ct elt x scope cl s (fun _ => True) P Fin k i ys news := by
    intro k
    induction k with
    | zero =>
      intro i ys _ e
      rw [pickC, List.append_nil] at e
      subst e
      exact CompRestT.zero fin
    | succ k ih =>
      intro i ys hi e
      refine CompRestT.succ fun v I oI C oC D m₂ h tk E' hv hC hx F N off ne => ?_
      refine wpAny_mono (step i (by omega) ys v I oI C oC D m₂ h tk E' hv hC hx F N off ne) (fun ok s' h' => ?_) fun _ _ e => e
      cases ok with
      | true =>
        rw [if_pos rfl] at h' ⊢
        refine wpAny_mono h' (fun y s'' h'' => compEnd_mono h'' fun news' r => ?_) fun _ _ e => e
        rw [r.n, r.y rfl]
        refine ih _ _ (by omega) ?_
        rw [pickC, if_pos r.is] at e
        rw [List.append_assoc]
        exact e
      | false =>
        rw [if_neg (by decide)] at h' ⊢
        refine compEnd_mono h' fun news' r => ?_
        rw [r.n]
        refine ih _ _ (by omega) ?_
        rw [pickC, if_neg (by rw [r.is]; decide), List.nil_append] at e
        exact e
  exact go n 0 [] (by omega) pk.e
theorem compEnd_t {I C D T : Addr} {s₁ : Shared} {oI oC oD oT : Obj} {S : List (Addr × Obj) → Prop} {rest : Value → List (Addr × Obj) → Prop} {h' : Heap} {tk : Nat} {all news' : List (Addr × Obj)}
    (F : Fr h₀ L h' m) (N : News h₀ L h' all) (hs : ∀ p ∈ (T, oT) :: (I, oI) :: (C, oC) :: (D, oD) :: news', p ∈ all) (off : Off3 I C D news') (n1 : @Ne Nat T I) (n2 : @Ne Nat T C) (n3 : @Ne Nat T D) (hS : S ((T, oT) :: news')) (r : rest (.ref T) ((T, oT) :: news')) :
    CompEnd h₀ L m s₁ I oI C oC D oD S rest (.ref T) { s₁ with heap := h', toks := tk } :=
  CompEnd.intro F N ((T, oT) :: news') (fun p hp => by
    rcases List.mem_cons.mp hp with rfl | hp
    · exact hs _ (.tail _ (.head _))
    · rcases List.mem_cons.mp hp with rfl | hp
      · exact hs _ (.tail _ (.tail _ (.head _)))
      · rcases List.mem_cons.mp hp with rfl | hp
        · exact hs _ (.tail _ (.tail _ (.tail _ (.head _))))
        · rcases List.mem_cons.mp hp with rfl | hp
          · exact hs _ (.head _)
          · exact hs _ (.tail _ (.tail _ (.tail _ (.tail _ hp))))) ⟨⟨n1, n2, n3⟩, off⟩ hS r
theorem tupType {M : Model} {h : Heap} {o : Addr} {l : List Value} {news : List (Addr × Obj)} (N : News h₀ L h news) (ho : (o, tupObj l) ∈ news) : Looks M h (typeOf (.ref o)) (.type "tuple") := (Looks.ld (part := none) (N _ ho).1).andThen .now
/- a place where a walk is cut -/
def Cut (p : Prop) : Prop := p
structure Passed : Prop where
  t : True
theorem cut_ {p : Prop} (h : Cut p) : p := h
end
end Mine
end
section
open PySem PySem.W PyProof.Rows PySem.Calls PySem.Spec PyProof.V
set_option maxHeartbeats 4000000
namespace Mine
theorem fn_type_name : typeOf (.builtin "function.__name__") = pure (.type "getset_descriptor") := by kernel_rfl
theorem fn_entry_name : entryFor table "function.__name__" = some Builtin.«function.__name__» := entryFor_of_tree (by kernel_rfl)
theorem fn_owner : (".".intercalate ("function.__name__".cutAt '.').dropLast) = "function" := by
  have e0 : "function.__name__".cutAt '.' = ["function", "__name__"] := by first | rfl | decide +kernel
  rw [e0]; decide +kernel
theorem fn_ga : Slot "function" "__getattribute__" "object.__getattribute__" := .of (owner := "object") (n := "__getattribute__") (by rw [typeLookup_type, builtinLookup_eq_fast]; kernel_rfl) (by decide +kernel) (by decide +kernel) (by decide +kernel)
    (by first | exact .inl (by decide +kernel) | exact .inr (by decide +kernel)) (by rw [isSubtype_type]; kernel_rfl)
theorem fn_lk : typeLookup (.type "function") "__name__" = pure (some (.builtin "function.__name__")) := by rw [typeLookup_type, builtinLookup_eq_fast]; kernel_rfl
theorem fn_sub : isSubtype (.type "function") (.type "function") = pure true := by rw [isSubtype_type]; kernel_rfl
section
variable {prog : Program} {w : World} {A : Around} {E : Value → Shared → Prop} {h : Heap} {g : Array GenState} {d : Drawn} {t : Nat} {os : OsState} {a : Addr} {o : Obj} {fd : FuncData}
theorem fn_get {R : Result → Shared → Prop} (hx : h.get? a = some o) (hc : o.cls = .type "function") (hd : o.data = .func fd) (hz : fd.name.length ≤ sizeLine) (hq : R (.ok (.ret (.str fd.name t))) ⟨h, g, d, t + 1, os⟩) :
    codeAny (model prog w) A (.call (.builtin "getset_descriptor.__get__") ⟨[.builtin "function.__name__", .ref a, .type "function"], []⟩) R ⟨h, g, d, t, os⟩ := by
  have hT : (⟨h, g, d, t, os⟩ : Shared).TypeIs (.ref a) "function" := ⟨_, hx, hc⟩
  have hT5 : (⟨h, g, d, t, os⟩ : Shared).TypeIs (.builtin "function.__name__") "getset_descriptor" := fn_type_name
  have f8 : isSubtype (.type "function") (.type (".".intercalate ("function.__name__".cutAt '.').dropLast)) = pure true := by rw [fn_owner]; exact fn_sub
  refine codeAny_call_builtin F.slot_gs_get.plain F.entry_gs_get (F.slot_gs_get.check _ _ _ _ _ _ _ _ hT5 (F.args_gs_get _ _ _) ?_)
  repeat (any_goals (first | assumption | wp_step))
  refine ⟨Code.quiet_builtin _ (by decide +kernel), codeAny_builtin fn_entry_name ?_⟩
  unfold Builtin.«function.__name__» funcData retStr
  refine wpAny_bind ?_
  show wpAny _ _ (load a >>= _) _ _ _
  refine wpAny_bind (wpAny_load hx ?_)
  rw [hd]
  refine wpAny_pure ?_
  first
    | exact wpAny_bind (wpAny_mkStr (wpAny_pure hq) hz)
    | exact wpAny_bind (wpAny_bind (wpAny_mkStr (wpAny_pure hq) hz))
theorem fn_ent {tk : Tok} {Q : Fin → Shared → Prop} (hx : h.get? a = some o) (hc : o.cls = .type "function") (hd : o.data = .func fd) (hz : fd.name.length ≤ sizeLine) (hq : ∀ u v, Q (.done (.ret (.str fd.name u))) ⟨h, g, d, v, os⟩) :
    wpAny (model prog w) A (Builtin.«object.__getattribute__» ⟨[.ref a, .str "__name__" tk], []⟩) Q E ⟨h, g, d, t, os⟩ := by
  have hT : (⟨h, g, d, t, os⟩ : Shared).TypeIs (.ref a) "function" := ⟨_, hx, hc⟩
  have hT5 : (⟨h, g, d, t, os⟩ : Shared).TypeIs (.builtin "function.__name__") "getset_descriptor" := fn_type_name
  have f4 := fn_lk
  have f5 := fn_type_name
  have f6 := F.slot_gs_get.lookup
  have f7 := F.slot_gs_set.lookup
  repeat (any_goals (first | assumption | wp_step))
  refine fn_get hx hc hd hz ?_
  repeat (any_goals (first | assumption | wp_step))
  exact hq _ _
theorem fn_attr {expr : Bool} {Q : Value → Shared → Prop} (hx : h.get? a = some o) (hc : o.cls = .type "function") (hd : o.data = .func fd) (hz : fd.name.length ≤ sizeLine)
    (hq : ∀ u v, Q (.str fd.name u) ⟨h, g, d, v, os⟩) : wpAny (model prog w) A (getAttr (.ref a) "__name__" expr) Q E ⟨h, g, d, t, os⟩ := by
  obtain ⟨cls, dict, data, slots⟩ := o
  dsimp only at hc hd
  cases hc
  cases hd
  unfold getAttr
  have hT : (⟨h, g, d, t, os⟩ : Shared).TypeIs (.ref a) "function" := ⟨_, hx, rfl⟩
  have f2 := fn_ga.lookup
  have f3 := fn_ga.bind (.ref a)
  have hx0 : (expr && onTheHeap (Value.builtin "object.__getattribute__")) = false := by cases expr <;> rfl
  repeat (any_goals (first | assumption | wp_step))
  refine codeAny_call_builtin fn_ga.plain F.entry_object_getattribute (fn_ga.check _ _ _ _ _ _ _ _ (show (⟨h, g, d, t + 1, os⟩ : Shared).TypeIs (.ref a) "function" from ⟨_, hx, rfl⟩) (F.args_object_getattribute_2 _ _) (fn_ent hx rfl rfl hz fun u v => ?_))
  repeat (any_goals (first | assumption | wp_step))
  all_goals exact hq _ _
end
end Mine
end
section
open PySem PySem.W PyProof.Rows PySem.Calls PySem.Spec PyProof.V
set_option maxHeartbeats 4000000
namespace Mine
theorem Atom.shaped {v d} (a : Atom v d) : SeqAt.shaped d = true := by
  unfold SeqAt.shaped
  rw [a.canLay, a.depth]; rfl
/- the texts that a frame tells of its locals, by their kind -/
def KvIs (k : Nat) (kvs : List (Str × Value)) : Prop :=
  (k = 1 ∧ ∃ t, kvs = [(Str.ofString "n", .str (Str.ofString "7") t)]) ∨ (k = 2 ∧ ∃ t u, kvs = [(Str.ofString "n", .str (Str.ofString "'7'") t), (Str.ofString "m", .str (Str.ofString "None") u)])
/- locals: None, or a dict that is in the ledger -/
inductive LocIs (w : World) (news : List (Addr × Obj)) : Value → Nat → Prop
  | none : LocIs w news .none 0
  | dict {a : Addr} {o : Obj} {kvs : List (Str × Value)} {k : Nat} : (a, o) ∈ news → (a == sysModules) = false → o.IsDictOf (PySem.strKind PG w) kvs → KvIs k kvs → LocIs w news (.ref a) k
theorem LocIs.more {w : World} {news news' : List (Addr × Obj)} {v : Value} {d : Nat} (l : LocIs w news v d) (k : ∀ p ∈ news, p ∈ news') : LocIs w news' v d := by
  cases l with
  | none => exact .none
  | dict m s i q => exact .dict (k _ m) s i q
theorem LocIs.handed {w : World} {news : List (Addr × Obj)} {v : Value} {d : Nat} (l : LocIs w news v d) : handedIn v = true := by
  cases l with
  | none => rfl
  | dict => rfl
theorem and4_6 {a b c d : Bool} (h : a = false) : a = (a && b && c && d) := by rw [h]; rfl
theorem and4_7 {a b c d : Bool} (h : b = false) : b = (a && b && c && d) := by rw [h]; cases a <;> rfl
theorem and4_8 {a b c d : Bool} (h : c = false) : c = (a && b && c && d) := by rw [h]; cases a <;> cases b <;> rfl
theorem and4_5 {a b c d : Bool} (h1 : a = true) (h2 : b = true) (h3 : c = true) : d = (a && b && c && d) := by rw [h1, h2, h3]; rfl
section
variable {prog : Program} {w : World} {A : Around} {E : Value → Shared → Prop} {s : Shared} {Q : Value → Shared → Prop}
theorem dict_eq_none {a : Addr} {kvs : List (Str × Value)} (hd : s.heap.DictOf (PySem.strKind prog w) a kvs) {R : Value → Shared → Prop} (h : R .notImplemented s) : wpAny (model prog w) A (call (.builtin "dict.__eq__") [.ref a, .none]) R E s := by
  refine wpAny_call_entry F.slot_dict_eq hd.typeIs F.entry_dict_eq ?_ (F.args_dict_eq_2 _ _)
  show wpAny _ _ (Builtin.Dict.dictSlotArgs "__eq__" ⟨[.ref a, .none], []⟩ >>= _) _ _ s
  refine wpAny_bind ?_
  unfold Builtin.Dict.dictSlotArgs
  refine wpAny_bind (wpAny_notOrdered_dict hd.typeIs ?_)
  show wpAny _ _ (pure (Value.ref a, Value.none)) _ _ s
  refine wpAny_pure ?_
  refine wpAny_bind (wpAny_isInstance (T := "NoneType") rfl F.sub_NoneType_dict ?_)
  simp only [Bool.not_false, if_true]
  exact wpAny_bind (wpAny_rule (wpAny_pure ⟨_, rfl, h⟩))
theorem none_eq_ref {a : Addr} {R : Value → Shared → Prop} (h : R .notImplemented s) : wpAny (model prog w) A (call (.builtin "NoneType.__eq__") [.none, .ref a]) R E s :=
  call_gives F.slot_NoneType_eq rfl F.entry_NoneType_eq (F.args_NoneType_eq_2 _ _) (SeqAt.NoneType___eq___none_ref_0 a) h
theorem rc_dict_none {a : Addr} {kvs : List (Str × Value)} (hd : s.heap.DictOf (PySem.strKind prog w) a kvs) (hu : A.units < cLine) (h : Q (.bool false) s) : wpAny (model prog w) A (compareOp .Eq (.ref a) .none) Q E s :=
  SeqAt.rc_eq_decline_or (k := false) hd.typeIs rfl (by decide) F.sub_NoneType_dict F.slot_dict_eq F.slot_NoneType_eq_refl (fun _ hq => dict_eq_none hd hq) (fun _ hq => none_eq_ref hq) (fun _ hq => wpAny_of_eq (rfl : isSame (.ref a) .none = pure false) hq) (.inr hu) h
theorem rc_none_dict {a : Addr} {kvs : List (Str × Value)} (hd : s.heap.DictOf (PySem.strKind prog w) a kvs) (hu : A.units < cLine) (h : Q (.bool false) s) : wpAny (model prog w) A (compareOp .Eq .none (.ref a)) Q E s :=
  SeqAt.rc_eq_decline_or (k := false) rfl hd.typeIs (by decide) F.sub_dict_NoneType F.slot_NoneType_eq F.slot_dict_eq_refl (fun _ hq => none_eq_ref hq) (fun _ hq => dict_eq_none hd hq) (fun _ hq => wpAny_of_eq (rfl : isSame .none (.ref a) = pure false) hq) (.inr hu) h
theorem KvIs.pos {k : Nat} {kvs : List (Str × Value)} (h : KvIs k kvs) : k ≠ 0 := by
  rcases h with ⟨rfl, _⟩ | ⟨rfl, _⟩ <;> decide
theorem kv_hits {k k' : Nat} {ka kb : List (Str × Value)} (ha : KvIs k ka) (hb : KvIs k' kb) : (ka.length == kb.length) = decide (k = k') ∧ (ka.length = kb.length → KeqHits A s kb ka true) := by
  rcases ha with ⟨rfl, t, rfl⟩ | ⟨rfl, t, u, rfl⟩ <;> rcases hb with ⟨rfl, t', rfl⟩ | ⟨rfl, t', u', rfl⟩
  · exact ⟨rfl, fun _ => KeqHits.hit (e := true) (b := true) rfl (SeqAt.EqAt.str_str _ _ _ _) .nil⟩
  · exact ⟨rfl, fun e => by cases e⟩
  · exact ⟨rfl, fun e => by cases e⟩
  · exact ⟨rfl, fun _ => KeqHits.hit (e := true) (b := true) rfl (by have := SeqAt.EqAt.str_str (A := A) (s := s) (Str.ofString "'7'") t (Str.ofString "'7'") t'; rwa [beq_self_eq_true] at this) (KeqHits.hit (e := true) (b := true) rfl (by have := SeqAt.EqAt.str_str (A := A) (s := s) (Str.ofString "None") u (Str.ofString "None") u'; rwa [beq_self_eq_true] at this) .nil)⟩
end
section
variable {w : World} {A : Around} {E : Value → Shared → Prop} {s : Shared} {Q : Value → Shared → Prop} {h₀ : Heap} {L : Addr} {news all : List (Addr × Obj)} {a b : Value} {da db : Nat}
theorem eq_loc (N : News h₀ L s.heap all) (la : LocIs w news a da) (lb : LocIs w news b db) (k : ∀ p ∈ news, p ∈ all) (hu : A.units + 64 < cLine) (h : Q (.bool (decide (da = db))) s) :
    wpAny (model PG w) A (compareOp .Eq a b) Q E s := by
  have hu' : A.units < cLine := by omega
  cases la with
  | none =>
    cases lb with
    | none => exact SeqAt.RcAt.none_none PG w E Q h
    | dict m z i q =>
      have e : decide ((0 : Nat) = db) = false := by
        have := q.pos
        simp; omega
      rw [e] at h
      exact rc_none_dict (Heap.dictOf_iff.mpr ⟨_, (N _ (k _ m)).1, i⟩) hu' h
  | dict m z i q =>
    cases lb with
    | none =>
      have e : decide (da = (0 : Nat)) = false := by
        have := q.pos
        simp; omega
      rw [e] at h
      exact rc_dict_none (Heap.dictOf_iff.mpr ⟨_, (N _ (k _ m)).1, i⟩) hu' h
    | dict m' z' i' q' =>
      have hh := kv_hits (A := A.in1) (s := s) q q'
      refine keq_eq z z' (Heap.dictOf_iff.mpr ⟨_, (N _ (k _ m)).1, i⟩) (Heap.dictOf_iff.mpr ⟨_, (N _ (k _ m')).1, i'⟩) hu' hh.2 ?_
      rw [hh.1, Bool.and_true]; exact h
/- two values that are told to be equal, as a tuple's items are asked -/
def EqP (w : World) (A : Around) (s : Shared) (a b : Value) : Prop := ∀ (E : Value → Shared → Prop) (Q : Bool → Shared → Prop), Q true s → wpAny (model PG w) A (eqBool a b) Q E s
theorem eqp_loc (N : News h₀ L s.heap all) (la : LocIs w news a da) (lb : LocIs w news b da) (k : ∀ p ∈ news, p ∈ all) (hu : A.units + 64 < cLine) : EqP w A s a b := fun E Q h => by
  by_cases e : a = b
  · subst e
    exact SeqAt.EqAt.same _ PG w E Q h
  · unfold eqBool
    refine wpAny_holding ?_
    refine wpAny_ite_split (fun hab => absurd (by have := eq_of_beq hab; exact this) e) (fun _ => ?_)
    have go : wpAny (model PG w) A (richCompare .Eq a b) (fun v s' => wpAny (model PG w) A (truthOfDropped v) Q E s') E s := by
      show wpAny _ _ (compareOp .Eq a b) _ _ _
      refine eq_loc N la lb k hu ?_
      rw [decide_eq_true rfl]
      exact wpAny_truthy_bool h
    cases la <;> cases lb <;> exact wpAny_bind go
end
end Mine
end
section
open PySem PySem.W PyProof.Rows PySem.Calls PySem.Spec PyProof.V
set_option maxHeartbeats 4000000
namespace Mine
/- the last row's number that a frame keeps -/
def StopIs (stop num endl : Value) : Prop := (stop = .none ∧ endl = num) ∨ ∃ i t, stop = .int i t ∧ endl = .int i t
theorem StopIs.handed {stop num endl : Value} {dn : PyData} (x : StopIs stop num endl) (a : Atom num dn) : handedIn endl = true := by
  rcases x with ⟨_, rfl⟩ | ⟨i, t, _, rfl⟩
  · exact a.handed
  · rfl
/- whether the row is looked up while the frame is made -/
def LookIs (b : Bool) (lines num : Value) (dt : PyData) : Prop := b = false ∨ (b = true ∧ LineIs lines num dt)
structure ValEnd (v : Value) (s : Shared) (v' : Value) (s' : Shared) : Prop where
  v : v' = v
  s : ∃ tk, s' = { s with toks := tk }
section
variable {prog : Program} {w : World} {A : Around} {E : Value → Shared → Prop} {s : Shared} {env : Env}
theorem stop_cut {e : PySem.Expr} {stop num endl : Value} {Q : Value → Shared → Prop} (S : StopIs stop num endl) (h : StopIs stop num endl → wpAny (model prog w) A (eval e env) (ValEnd endl s) E s) (k : ∀ tk, Q endl { s with toks := tk }) : wpAny (model prog w) A (eval e env) Q E s :=
  wpAny_mono (h S) (fun v s' x => by
    obtain ⟨rfl, tk, rfl⟩ := x
    exact k tk) fun _ _ e => e
theorem stop_cut2 {e : PySem.Expr} {stop num endl : Value} {Q : Value → Shared → Prop} (S : StopIs stop num endl) (h1 : stop = .none → endl = num → wpAny (model prog w) A (eval e env) (ValEnd endl s) E s) (h2 : ∀ i t, stop = .int i t → endl = .int i t → wpAny (model prog w) A (eval e env) (ValEnd endl s) E s) (k : ∀ tk, Q endl { s with toks := tk }) : wpAny (model prog w) A (eval e env) Q E s :=
  stop_cut S (fun S => by
    rcases S with ⟨e1, e2⟩ | ⟨i, t, e1, e2⟩
    · exact h1 e1 e2
    · exact h2 i t e1 e2) k
structure StEnd (h₀ : Heap) (L : Addr) (m : Str → Option Value) (news : List (Addr × Obj)) (s : Shared) (fl : Flow) (s' : Shared) : Prop where
  f : fl = .next
  s : ∃ h' tk, s' = { s with heap := h', toks := tk } ∧ Fr h₀ L h' m ∧ News h₀ L h' news
theorem stEnd_ {h₀ h' : Heap} {tk : Nat} {L : Addr} {m : Str → Option Value} {news all : List (Addr × Obj)} (F : Fr h₀ L h' m) (N : News h₀ L h' all) (k : ∀ p ∈ news, p ∈ all) : StEnd h₀ L m news s .next { s with heap := h', toks := tk } := ⟨rfl, h', tk, rfl, F, nsub N k⟩
theorem look_cut {st : Stmt} {b : Bool} {lines num : Value} {dt : PyData} {Q : Flow → Shared → Prop} {h₀ : Heap} {L : Addr} {m : Str → Option Value} {news : List (Addr × Obj)} (S : LookIs b lines num dt) (F : Fr h₀ L s.heap m) (N : News h₀ L s.heap news)
    (h : LookIs b lines num dt → wpAny (model prog w) A (exec st env) (StEnd h₀ L m news s) E s) (k : ∀ h' tk, Fr h₀ L h' m → News h₀ L h' news → Q .next { s with heap := h', toks := tk }) : wpAny (model prog w) A (exec st env) Q E s :=
  wpAny_mono (h S) (fun v s' x => by
    obtain ⟨rfl, h', tk, rfl, F', N'⟩ := x
    exact k h' tk F' N') fun _ _ e => e
theorem look_cut2 {st : Stmt} {b : Bool} {lines num : Value} {dt : PyData} {Q : Flow → Shared → Prop} {h₀ : Heap} {L : Addr} {m : Str → Option Value} {news : List (Addr × Obj)} (S : LookIs b lines num dt) (F : Fr h₀ L s.heap m) (N : News h₀ L s.heap news)
    (h1 : b = false → wpAny (model prog w) A (exec st env) (StEnd h₀ L m news s) E s) (h2 : b = true → LineIs lines num dt → wpAny (model prog w) A (exec st env) (StEnd h₀ L m news s) E s) (k : ∀ h' tk, Fr h₀ L h' m → News h₀ L h' news → Q .next { s with heap := h', toks := tk }) : wpAny (model prog w) A (exec st env) Q E s :=
  look_cut S F N (fun S => by
    rcases S with e1 | ⟨e1, l⟩
    · exact h1 e1
    · exact h2 e1 l) k
end
end Mine
end
section
open PySem PySem.W PyProof.Rows PySem.Calls PySem.Spec PyProof.V
set_option maxHeartbeats 4000000
namespace Mine
/- the end of a walk as one letter -/
theorem gen_post {prog : Program} {w : World} {A : Around} {α : Type} {x : Sem α} {Q : α → Shared → Prop} {E : Value → Shared → Prop} {s : Shared} (h : ∀ Q0 : α → Shared → Prop, (∀ a s', Q a s' → Q0 a s') → wpAny (model prog w) A x Q0 E s) : wpAny (model prog w) A x Q E s := h Q fun _ _ h => h
theorem news_tl {h₀ h : Heap} {L : Addr} {p : Addr × Obj} {l : List (Addr × Obj)} (N : News h₀ L h (p :: l)) : News h₀ L h l := fun q hq => N q (.tail _ hq)
theorem newList_n {prog : Program} {w : World} {A : Around} {E : Value → Shared → Prop} {h₀ : Heap} {L : Addr} {m : Str → Option Value} {news : List (Addr × Obj)} {hp : Heap} {gs} {dr} {tk} {os} {vs : List Value} {Q : Value → Shared → Prop} (F : Fr h₀ L hp m) (N : News h₀ L hp news)
    (h : ∀ l h', Fr h₀ L h' m → News h₀ L h' ((l, listOf vs.toArray 0) :: news) → Q (.ref l) ⟨h', gs, dr, tk, os⟩) (hsz : vs.length ≤ sizeLine) : wpAny (model prog w) A (newList vs) Q E ⟨hp, gs, dr, tk, os⟩ :=
  newList_N F N (fun h' F' N' => h _ h' F' N') hsz
theorem newTuple_n {prog : Program} {w : World} {A : Around} {E : Value → Shared → Prop} {h₀ : Heap} {L : Addr} {m : Str → Option Value} {news : List (Addr × Obj)} {hp : Heap} {gs} {dr} {tk} {os} {vs : List Value} {Q : Value → Shared → Prop} (F : Fr h₀ L hp m) (N : News h₀ L hp news)
    (h : ∀ D h', Fr h₀ L h' m → News h₀ L h' ((D, ({ cls := .type "tuple", data := .seq vs.toArray } : Obj)) :: news) → Q (.ref D) ⟨h', gs, dr, tk, os⟩) (hsz : vs.length ≤ sizeLine) : wpAny (model prog w) A (newTuple vs) Q E ⟨hp, gs, dr, tk, os⟩ :=
  newTuple_N F N (fun h' F' N' => h _ h' F' N') hsz
theorem neS {L : Addr} {news : List (Addr × Obj)} (h : ∀ p ∈ news, p.1 < L) : ∀ p ∈ news, p.1 ≠ L + 1 := fun p hp => Nat.ne_of_lt (Nat.lt_succ_of_lt (h p hp))
/- a thing that is not equal to the row -/
inductive OthIs (d4 : List PyData) (news : List (Addr × Obj)) : Value → Prop
  | lst {o : Addr} {l : List Value} {n : Nat} : (o, listOf l.toArray n) ∈ news → OthIs d4 news (.ref o)
  | tup {o : Addr} {l : List Value} {ds : List PyData} : (o, tupObj l) ∈ news → TupIs l ds → PyData.eqvAll d4 ds = false → OthIs d4 news (.ref o)
inductive OthAll (d4 : List PyData) (news : List (Addr × Obj)) : List Value → Prop
  | nil : OthAll d4 news []
  | cons {v vs} : OthIs d4 news v → OthAll d4 news vs → OthAll d4 news (v :: vs)
theorem OthAll.mem {d4 : List PyData} {news : List (Addr × Obj)} {vs : List Value} {v : Value} (o : OthAll d4 news vs) (h : v ∈ vs) : OthIs d4 news v := by
  induction o with
  | nil => cases h
  | cons a _ ih => exact (List.mem_cons.mp h).elim (fun e => e ▸ a) fun h => ih h
theorem OthAll.at {d4 : List PyData} {news : List (Addr × Obj)} {vs : List Value} (o : OthAll d4 news vs) {i : Nat} {v : Value} (h : vs.toArray[i]? = some v) : OthIs d4 news v := o.mem (List.mem_toArray.mp (Array.mem_of_getElem? h))
theorem oth_pack {g h : Heap} {L D : Addr} {all cs ex : List (Addr × Obj)} {vs : List Value} {n k : Nat} {d4 : List PyData} (N : News g L h all) (hs : ∀ p ∈ cs, p ∈ all) (hD : (D, listOf vs.toArray n) ∈ all) (hex : ∀ p ∈ ex, p ∈ all) (ho : OthAll d4 all vs) (hl : vs.length = k) :
    ∃ nn vs', News g L h (cs ++ nn) ∧ (D, listOf vs'.toArray n) ∈ nn ∧ (∀ p ∈ ex, p ∈ nn) ∧ OthAll d4 nn vs' ∧ vs'.toArray.size = k :=
  ⟨all, vs, fun p hp => by
    rcases List.mem_append.mp hp with hp | hp
    · exact N p (hs p hp)
    · exact N p hp, hD, hex, ho, by simpa using hl⟩
structure Passed2 : Prop where
  t : True
structure KeepP (p : Prop) : Prop where
  h : p
structure NoneC (n : Nat) : Prop where
  t : n ≤ sizeLine
inductive AllInt : List Value → Prop
  | nil : AllInt []
  | cons {i t vs} : AllInt vs → AllInt (.int i t :: vs)
theorem AllInt.atoms {vs : List Value} (x : AllInt vs) : ∃ ds, AtomAll vs ds := by
  induction x with
  | nil => exact ⟨[], .nil⟩
  | cons _ ih => exact ih.elim fun ds h => ⟨_, .cons (.inr (.inl ⟨_, _, rfl, rfl⟩)) h⟩
theorem ne_cons_nil {prog : Program} {w : World} {A : Around} {E : Value → Shared → Prop} {s : Shared} {h₀ : Heap} {L a b : Addr} {news : List (Addr × Obj)} {v : Value} {vs : List Value} {n k : Nat} {Q : Value → Shared → Prop} (N : News h₀ L s.heap news) (h1 : (a, listOf (v :: vs).toArray n) ∈ news) (h2 : (b, listOf ([] : List Value).toArray k) ∈ news) (hi : AllInt (v :: vs)) (hu : A.units + 64 < cLine) (h : Q (.bool true) s) :
    wpAny (model prog w) A (compareOp .NotEq (.ref a) (.ref b)) Q E s := by
  obtain ⟨ds, ha⟩ := hi.atoms
  cases ha with
  | cons x y => exact ne_f (listReads N h1 ⟨.cons x y⟩) (listReads N h2 ⟨.nil⟩) (shaped_list (AtomAll.cons x y).flat) (shaped_list .nil) hu (eqv_list eqvAll_n2) h
theorem ne_nil_nil {prog : Program} {w : World} {A : Around} {E : Value → Shared → Prop} {s : Shared} {h₀ : Heap} {L a b : Addr} {news : List (Addr × Obj)} {n k : Nat} {Q : Value → Shared → Prop} (N : News h₀ L s.heap news) (h1 : (a, listOf ([] : List Value).toArray n) ∈ news) (h2 : (b, listOf ([] : List Value).toArray k) ∈ news) (hu : A.units + 64 < cLine) (h : Q (.bool false) s) :
    wpAny (model prog w) A (compareOp .NotEq (.ref a) (.ref b)) Q E s :=
  ne_t (listReads N h1 ⟨.nil⟩) (listReads N h2 ⟨.nil⟩) (shaped_list .nil) (shaped_list .nil) hu (eqv_list eqvAll_nil) h
section
open LCg LCt
variable {prog : Program} {w : World} {A : Around} {s : Shared} {h₀ : Heap} {L : Addr} {m : Str → Option Value} {env : Env} {ct elt : Expr} {x : Str} {scope : Scope} {cl : List (Str × Addr)} {P : Nat → Value → Prop} {Fin : List Value → List (Addr × Obj) → Prop} {news : List (Addr × Obj)} {n : Nat} {S : List (Addr × Obj) → Prop}
/- a comprehension whose test never holds -/
theorem compS_none (_ : NoneC n) (hS : S news)
    (step : ∀ i, i < n → ∀ v I oI C oC D m₂ h tk (E' : Value → Shared → Prop), P i v → NsObj oC m₂ → m₂ x = some v → Fr h₀ L h m → News h₀ L h ((I, oI) :: (C, oC) :: (D, lst []) :: news) → Off3 I C D news → ((@Ne Nat I C) ∧ (@Ne Nat I D) ∧ (@Ne Nat C D)) →
      wpAny (model prog w) A (isTrue ct (compEnvC scope cl C env) (eval ct (compEnvC scope cl C env))) (fun ok s' => if ok = true then False
        else CompEnd h₀ L m { s with heap := h, toks := tk } I oI C oC D (lst []) S (fun _ news' => news' = news) Value.none s') E' { s with heap := h, toks := tk })
    (fin : Fin [] news) : CompRestT prog w A h₀ L m env ct elt x scope cl s S P Fin n 0 [] news := by
  have go : ∀ k i, i + k = n → CompRestT prog w A h₀ L m env ct elt x scope cl s S P Fin k i [] news := by
    intro k
    induction k with
    | zero => intro i _; exact CompRestT.zero fin
    | succ k ih =>
      intro i hi
      refine CompRestT.succ fun v I oI C oC D m₂ h tk E' hv hC hx F N off ne => ?_
      refine wpAny_mono (step i (by omega) v I oI C oC D m₂ h tk E' hv hC hx F N off ne) (fun ok s' h' => ?_) fun _ _ e => e
      cases ok with
      | true => rw [if_pos rfl] at h'; exact h'.elim
      | false =>
        rw [if_neg (by decide)] at h' ⊢
        refine compEnd_mono h' fun news' r => ?_
        subst r
        exact ih _ (by omega)
  exact go n 0 (by omega)
end
end Mine
end
section
open PySem PySem.W PyProof.Rows PySem.Calls PySem.Spec PyProof.V
set_option maxHeartbeats 4000000
namespace Mine
/- a list's iterator that has given i items -/
structure ItIs (o : Obj) (l : Addr) (i : Nat) : Prop where
  c : o.cls = .type "list_iterator"
  d : o.data = .fields #[.ref l, .int (i : Int) 0]
section
open LCg
variable {prog : Program} {w : World} {A : Around} {E : Value → Shared → Prop} {h₀ h h' : Heap} {L I C D l : Addr} {m : Str → Option Value} {news : List (Addr × Obj)} {oI oC oD : Obj}
theorem ne_new {b : Addr} {o : Obj} (x : h₀.get? I = none) (e : h₀.get? b = some o) : b ≠ I := fun q => by
  subst q; rw [x] at e; cases e
theorem fr_two (F : Fr h₀ L h m) (k : ∀ b o, b ≠ I → b ≠ C → h.get? b = some o → h'.get? b = some o) (x : I ≠ L ∧ h₀.get? I = none) (y : C ≠ L ∧ h₀.get? C = none) : Fr h₀ L h' m :=
  ⟨F.ns.at' fun o e => k _ o (Ne.symm x.1) (Ne.symm y.1) e, fun b o e => k b o (ne_new x.2 e) (ne_new y.2 e) (F.keep b o e), F.above⟩
theorem fr_one (F : Fr h₀ L h m) (k : ∀ b o, b ≠ I → h.get? b = some o → h'.get? b = some o) (x : I ≠ L ∧ h₀.get? I = none) : Fr h₀ L h' m := fr_two F (fun b o q _ => k b o q) x x
theorem news_one (N : News h₀ L h news) (k : ∀ b o, b ≠ I → h.get? b = some o → h'.get? b = some o) (off : ∀ p ∈ news, p.1 ≠ I) : News h₀ L h' news := fun p hp => ⟨k _ _ (off p hp) (N p hp).1, (N p hp).2⟩
theorem news_cons {p : Addr × Obj} (x : h.get? p.1 = some p.2 ∧ p.1 ≠ L ∧ h₀.get? p.1 = none) (N : News h₀ L h news) : News h₀ L h (p :: news) := List.forall_mem_cons.mpr ⟨x, N⟩
theorem news_IC {oI' oC' : Obj} (N : News h₀ L h ((I, oI) :: (C, oC) :: news)) (hI : h'.get? I = some oI') (hC : h'.get? C = some oC') (k : ∀ b o, b ≠ I → b ≠ C → h.get? b = some o → h'.get? b = some o) (off : ∀ p ∈ news, p.1 ≠ I ∧ p.1 ≠ C) : News h₀ L h' ((I, oI') :: (C, oC') :: news) :=
  news_cons ⟨hI, (N _ (.head _)).2⟩ (news_cons ⟨hC, (N _ (.tail _ (.head _))).2⟩ fun p hp => ⟨k _ _ (off p hp).1 (off p hp).2 (N p (.tail _ (.tail _ hp))).1, (N p (.tail _ (.tail _ hp))).2⟩)
theorem off_I (off : Off3 I C D news) (ne : I ≠ C ∧ I ≠ D ∧ C ≠ D) : ∀ p ∈ (C, oC) :: (D, oD) :: news, p.1 ≠ I := List.forall_mem_cons.mpr ⟨ne.1.symm, List.forall_mem_cons.mpr ⟨ne.2.1.symm, fun p hp => (off.mem p hp).1⟩⟩
theorem off_IC (off : Off3 I C D news) (ne : I ≠ C ∧ I ≠ D ∧ C ≠ D) : ∀ p ∈ (D, oD) :: news, p.1 ≠ I ∧ p.1 ≠ C := List.forall_mem_cons.mpr ⟨⟨ne.2.1.symm, ne.2.2.symm⟩, fun p hp => ⟨(off.mem p hp).1, (off.mem p hp).2.1⟩⟩
theorem news_D {oD' : Obj} (N : News h₀ L h ((I, oI) :: (C, oC) :: (D, oD) :: news)) (hD : h'.get? D = some oD') (k : ∀ b o, b ≠ D → h.get? b = some o → h'.get? b = some o) (off : Off3 I C D news) (ne : I ≠ C ∧ I ≠ D ∧ C ≠ D) : News h₀ L h' ((I, oI) :: (C, oC) :: (D, oD') :: news) :=
  have x := N _ (.head _)
  have N := news_tl N
  have y := N _ (.head _)
  have N := news_tl N
  news_cons ⟨k _ _ ne.2.1 x.1, x.2⟩ (news_cons ⟨k _ _ ne.2.2 y.1, y.2⟩ (news_cons ⟨hD, (N _ (.head _)).2⟩ (news_one (news_tl N) k fun p hp => (off.mem p hp).2.2)))
theorem comp_kind {scope : Scope} {cl : List (Str × Addr)} {env : Env} {b : Bool} (hkind : scope.kind = .function) : ((compEnvC scope cl C env).scope.kind == .class || ((compEnvC scope cl C env).scope.kind == .module && b)) = false := by simp [compEnvC, relabel, hkind]
/- a turn's item of a list's iterator, in the ledger -/
theorem next_list {ts : List Value} {k i : Nat} {R : Option Value → Shared → Prop} {hp : Heap} {gs} {dr} {tk} {os} (hA : A.handled = none) (F : Fr h₀ L hp m) (N : News h₀ L hp ((I, oI) :: news)) (it : ItIs oI l i) (hl : (l, listOf ts.toArray k) ∈ news) (off : ∀ p ∈ news, p.1 ≠ I)
    (hitem : ∀ v, ts[i]? = some v → ∀ h' oI', Fr h₀ L h' m → News h₀ L h' ((I, oI') :: news) → ItIs oI' l (i + 1) → R (some v) ⟨h', gs, dr, tk, os⟩)
    (hend : ∀ h', Fr h₀ L h' m → News h₀ L h' news → R none ⟨h', gs, dr, tk, os⟩) :
    wpAny (model prog w) A (pyNext (.ref I)) R E ⟨hp, gs, dr, tk, os⟩ := by
  have hI := N _ (.head _)
  have hls : hp.IsList l ts.toArray := News.isList (news_tl N) hl
  cases hx : ts[i]? with
  | none =>
    refine wpAny_pyNext_list_end hA (l := l) (i := i) (items := ts.toArray) ⟨_, hI.1, it.c, it.d⟩ hls ((List.getElem?_toArray ..).trans hx) fun h' hit => ?_
    exact hend h' (fr_one F hit hI.2) (news_one (news_tl N) hit off)
  | some v =>
    refine wpAny_pyNext_list_item (l := l) (i := i) (items := ts.toArray) (x := v) ⟨_, hI.1, it.c, it.d⟩ hls ((List.getElem?_toArray ..).trans hx) fun h' hit hsb => ?_
    obtain ⟨oI', hI', c', d'⟩ := hit
    exact hitem v hx h' oI' (fr_one F hsb.extBut hI.2) (news_cons ⟨hI', hI.2⟩ (news_one (news_tl N) hsb.extBut off)) ⟨c', d'⟩
theorem own_list {elts : List PySem.Expr} {kk i : Nat} {tp : Pos} {s : Shared} {v : Value} {Q : Unit → Shared → Prop} (hi : s.heap.get? I = some oI) (it : ItIs oI l i) (h : Q () s) : wpAny (model prog w) A (letOwnedTupleGo (.Tuple elts kk tp) (.ref I) v) Q E s := by
  cases v with
  | ref a => exact wpAny_letOwnedTupleGo_listiter (l := l) (i := i) ⟨_, hi, it.c, it.d⟩ h
  | _ => exact wpAny_pure h
/- a comprehension's made thing and its scope -/
theorem comp_open {T : String} {data : Data} {scope : Scope} {cl : List (Str × Addr)} {env : Env} {X : Value → Env → Shared → Prop} {b : Addr} {hp : Heap} {gs} {dr} {tk} {os} (hcell : ∀ y ∈ scope.names, y.2 ≠ .cell) (hkind : scope.kind = .function) (F : Fr h₀ L hp m) (N : News h₀ L hp ((I, oI) :: news)) (offI : ∀ p ∈ news, p.1 < I)
    (k : ∀ D C oC m₂ h' tk', NsObj oC m₂ → Fr h₀ L h' m → News h₀ L h' ((I, oI) :: (C, oC) :: (D, { cls := .type T, data }) :: news) → Off3 I C D news → I ≠ C ∧ I ≠ D ∧ C ≠ D → h₀.objs.size ≤ D → X (.ref D) (newEnv scope C env.globals cl env.qual none .none (some env) b) ⟨h', gs, dr, tk', os⟩)
    (hd : sizeOk data) (hf : ({ cls := .type T, data } : Obj).isFreed = false) :
    wpAny (model prog w) A (newObj (.type T) data none) (fun acc s₃ => wpAny (model prog w) A (newFunctionEnv scope env.globals cl [] env.qual none .none (some env) b) (fun cenv s₄ => X acc cenv s₄) E s₃) E ⟨hp, gs, dr, tk, os⟩ := by
  refine wpAny_newObj_type (wpAny_newFunctionEnv hcell (fun y hy => nomatch hy) (fun h₁ hns₁ hsb₁ => ?_) hkind) hd
  have F₁ := F.push { cls := .type T, dict := none, data }
  have N₁ := News.push F N { cls := .type T, dict := none, data } hf
  have hI := Heap.lt_size (N _ (.head _)).1
  have hlt : ∀ p ∈ news, p.1 < hp.objs.size := fun p hp' => Heap.lt_size (N p (.tail _ hp')).1
  have hle := Nat.le_trans F.above (Nat.le_of_lt F.ns.lt)
  dsimp only at hns₁ hsb₁ F₁ N₁ hI hlt hle ⊢
  generalize hp.push { cls := .type T, dict := none, data } = H at hns₁ hsb₁ F₁ N₁ ⊢
  generalize hp.objs.size = D at N₁ hI hlt hle ⊢
  have hD := Heap.lt_size (N₁ _ (.head _)).1
  dsimp only at hD
  have F₂ := F₁.push { cls := .type "dict", data := .dict #[] }
  have N₂ := News.push F₁ N₁ { cls := .type "dict", data := .dict #[] } rfl
  generalize H.objs.size = C at hns₁ hsb₁ N₂ hD ⊢
  obtain ⟨oC, hC, hoC⟩ := ns_obj hns₁
  have hCx := (N₂ _ (.head _)).2
  have up := news_one (news_tl N₂) hsb₁.extBut (List.forall_mem_cons.mpr ⟨Nat.ne_of_lt hD, List.forall_mem_cons.mpr ⟨Nat.ne_of_lt (Nat.lt_trans hI hD), fun p hp' => Nat.ne_of_lt (Nat.lt_trans (hlt p hp') hD)⟩⟩)
  exact k D C oC _ h₁ _ hoC (fr_one F₂ hsb₁.extBut hCx) (news_cons (up _ (.tail _ (.head _))) (news_cons ⟨hC, hCx⟩ (news_cons (up _ (.head _)) (news_tl (news_tl up)))))
    (Off3.of fun p hp' => ⟨Nat.ne_of_lt (offI p hp'), Nat.ne_of_lt (Nat.lt_trans (hlt p hp') hD), Nat.ne_of_lt (hlt p hp')⟩) ⟨Nat.ne_of_lt (Nat.lt_trans hI hD), Nat.ne_of_lt hI, Ne.symm (Nat.ne_of_lt hD)⟩ hle
/- what a comprehension leaves behind -/
theorem post_none {Q : Value → Shared → Prop} {v : Value} {m₂ : Str → Option Value} {gs} {dr} {tk} {os} (hC : NsObj oC m₂) (F : Fr h₀ L h m) (N : News h₀ L h ((C, oC) :: news)) (off : ∀ p ∈ news, p.1 ≠ C)
    (k : ∀ h', Fr h₀ L h' m → News h₀ L h' news → Q v ⟨h', gs, dr, tk, os⟩) : compPost (model prog w) A E none Q v C (.ok .next) ⟨h, gs, dr, tk, os⟩ :=
  have x := N _ (.head _)
  ⟨m₂, hC.ns x.1, fun h'' hs => k h'' (F.change hs x.2.1 x.2.2) (news_one (news_tl N) hs.extBut off)⟩
end
end Mine
end
section
open PySem PySem.W PyProof.Rows PySem.Calls PySem.Spec PyProof.V
set_option maxHeartbeats 4000000
namespace Mine
theorem repr7 : reprText (Str.ofString "7") = Str.ofString "'7'" := by decide +kernel
theorem repr_7 {prog : Program} {w : World} {A : Around} {E : Value → Shared → Prop} {s : Shared} {t : Tok} {Q : Value → Shared → Prop} (h : Q (.str (Str.ofString "'7'") s.toks) { s with toks := s.toks + 1 }) : wpAny (model prog w) A (call (.builtin "repr") [.str (Str.ofString "7") t]) Q E s :=
  P.repr_of_str (by rw [repr7]; exact h) (by rw [repr7]; exact Nat.le_of_ble_eq_true rfl)
section
open LCg
variable {prog : Program} {w : World} {A : Around} {E : Value → Shared → Prop} {s : Shared} {h₀ : Heap} {L : Addr} {m : Str → Option Value}
/- the turns of a dict's comprehension without a test -/
theorem dk_loop {kx vx target iter : PySem.Expr} {scope : Scope} {pos : Pos} {it : Value} {D : Addr} {env : Env} {R : Result → Shared → Prop} (J : Nat → Shared → Prop)
    (turn : ∀ n s, J n s → wpAny (model prog w) A (pyNext it) (fun r s₁ => match r with
      | none => R (.ok .next) s₁
      | some v => wpAny (model prog w) A (letOwnedTupleGo target it v) (fun _ s₂ => wpAny (model prog w) A (assign target env v) (fun _ s₃ =>
          wpAny (model prog w) A (eval kx env) (fun kv s₄ => wpAny (model prog w) A (eval vx env) (fun vv s₅ =>
            wpAny (model prog w) A (dictSet D kv vv) (fun _ s₆ => ∃ k, k < n ∧ J k s₆) (notedBy (model prog w) A env fun e s' => R (.error e) s') s₅) (notedBy (model prog w) A env fun e s' => R (.error e) s') s₄)
          (notedBy (model prog w) A env fun e s' => R (.error e) s') s₃) (notedBy (model prog w) A env fun e s' => R (.error e) s') s₂) (notedBy (model prog w) A env fun e s' => R (.error e) s') s₁) (notedBy (model prog w) A env fun e s' => R (.error e) s') s)
    (n : Nat) (h : J n s) : codeAny (model prog w) A (.compLoop (.DictComp kx vx [⟨target, iter, [], 0⟩] scope pos) 0 it (.ref D) env) R s := by
  refine codeAny_loop rfl J (fun n s hJ => ?_) n h
  show wpAny _ A ((compTurn (.DictComp kx vx [⟨target, iter, [], 0⟩] scope pos) 0 it (.ref D) env).onRaise (fun x => do noteFrame x env; theTreesLotGoes x)) _ _ s
  refine wpAny_noted ?_
  rw [compTurn_dict]
  refine wpAny_bind (wpAny_standAt (wpAny_bind (wpAny_mono (turn n s hJ) (fun r s₁ h₁ => ?_) fun _ _ e => e)))
  cases r with
  | none => exact wpAny_pure h₁
  | some v =>
    refine wpAny_bind (wpAny_mono h₁ (fun _ s₂ h₂ => wpAny_bind (wpAny_mono h₂ (fun _ s₃ h₃ => wpAny_bind (wpAny_tests_nil ?_)) fun _ _ e => e)) fun _ _ e => e)
    exact wpAny_bind (wpAny_bind (wpAny_mono h₃ (fun kv s₄ h₄ => wpAny_bind (wpAny_holding (wpAny_mono h₄ (fun vv s₅ h₅ => wpAny_bind (wpAny_standAt (wpAny_holding (wpAny_mono h₅ (fun _ s₆ h₆ => wpAny_pure ⟨rfl, h₆⟩) fun _ _ e => e)))) fun _ _ e => e))) fun _ _ e => e))
/- what is asked of each entry's value -/
def DkRest (prog : Program) (w : World) (A : Around) (h₀ : Heap) (L : Addr) (m : Str → Option Value) (env : Env) (vx : PySem.Expr) (a b : Str) (scope : Scope) (cl : List (Str × Addr)) (s : Shared) (S : List (Addr × Obj) → Prop)
    (Fin : List (Str × Value) → List (Addr × Obj) → Prop) : List (Str × Value) → List (Str × Value) → List (Addr × Obj) → Prop
  | [], acc, news => Fin acc news
  | p :: r, acc, news => ∀ (t : Tok) I oI C oC D oD m₂ h tk (E' : Value → Shared → Prop), NsObj oC m₂ → m₂ a = some (.str p.1 t) → m₂ b = some p.2 → Fr h₀ L h m → News h₀ L h ((I, oI) :: (C, oC) :: (D, oD) :: news) → Off3 I C D news → ((@Ne Nat I C) ∧ (@Ne Nat I D) ∧ (@Ne Nat C D)) →
      wpAny (model prog w) A (eval vx (compEnvC scope cl C env)) (CompEnd h₀ L m { s with heap := h, toks := tk } I oI C oC D oD S (fun y news' => DkRest prog w A h₀ L m env vx a b scope cl s S Fin r (stored acc p.1 y) news')) E' { s with heap := h, toks := tk }
theorem dk_nil {env : Env} {vx : PySem.Expr} {a b : Str} {scope : Scope} {cl : List (Str × Addr)} {S : List (Addr × Obj) → Prop} {Fin : List (Str × Value) → List (Addr × Obj) → Prop} {acc : List (Str × Value)} {news : List (Addr × Obj)} (h : Fin acc news) : DkRest prog w A h₀ L m env vx a b scope cl s S Fin [] acc news := h
theorem dk_cons {env : Env} {vx : PySem.Expr} {a b : Str} {scope : Scope} {cl : List (Str × Addr)} {S : List (Addr × Obj) → Prop} {Fin : List (Str × Value) → List (Addr × Obj) → Prop} {acc r : List (Str × Value)} {news : List (Addr × Obj)} {p : Str × Value}
    (h : ∀ (t : Tok) I oI C oC D oD m₂ h tk (E' : Value → Shared → Prop), NsObj oC m₂ → m₂ a = some (.str p.1 t) → m₂ b = some p.2 → Fr h₀ L h m → News h₀ L h ((I, oI) :: (C, oC) :: (D, oD) :: news) → Off3 I C D news → ((@Ne Nat I C) ∧ (@Ne Nat I D) ∧ (@Ne Nat C D)) →
      wpAny (model prog w) A (eval vx (compEnvC scope cl C env)) (CompEnd h₀ L m { s with heap := h, toks := tk } I oI C oC D oD S (fun y news' => DkRest prog w A h₀ L m env vx a b scope cl s S Fin r (stored acc p.1 y) news')) E' { s with heap := h, toks := tk }) :
    DkRest prog w A h₀ L m env vx a b scope cl s S Fin (p :: r) acc news := h
/- an item's iterator -/
structure ItemIs (I d : Addr) (n ep i : Nat) (oI : Obj) : Prop where
  mk' ::
  is : ∀ h : Heap, h.get? I = some oI → ∃ ok ov, IsItemIter h I d i n ep ok ov
/- what stands ahead of each turn -/
inductive DkJ (prog : Program) (w : World) (A : Around) (h₀ : Heap) (L : Addr) (m : Str → Option Value) (env : Env) (vx : PySem.Expr) (a b : Str) (scope : Scope) (cl : List (Str × Addr)) (s : Shared) (d : Addr) (od : Obj) (kvs : List (Str × Value)) (ep : Nat) (Fin : List (Str × Value) → List (Addr × Obj) → Prop) (I C D : Addr) : Nat → Shared → Prop
  | mk {i acc oI oC oD m₂ news h tk} : i ≤ kvs.length → acc.length ≤ i → ItemIs I d kvs.length ep i oI → NsObj oC m₂ → Fr h₀ L h m → News h₀ L h ((I, oI) :: (C, oC) :: (D, oD) :: news) → oD.IsDictOf (PySem.strKind prog w) acc → Off3 I C D news → KcpAt d od news →
      DkRest prog w A h₀ L m env vx a b scope cl s (KcpAt d od) Fin (kvs.drop i) acc news → DkJ prog w A h₀ L m env vx a b scope cl s d od kvs ep Fin I C D (kvs.length + 1 - i) { s with heap := h, toks := tk }
theorem dk_turns {env : Env} {vx iter : PySem.Expr} {a b : Str} {pa pb tp pk : Pos} {kk : Nat} {scope : Scope} {cl : List (Str × Addr)} {pos : Pos} {I C D d : Addr} {od : Obj} {ep n : Nat} {kvs : List (Str × Value)} {s' : Shared}
    {Fin : List (Str × Value) → List (Addr × Obj) → Prop} {R : Result → Shared → Prop}
    (hh : A.handled = none) (hne : d ≠ I) (hsz : kvs.length ≤ sizeLine) (hat : KdkAt (PySem.strKind prog w) od kvs ep)
    (hkind : scope.kind = .function) (hxa : scope.names.lookup a = some .local) (hxb : scope.names.lookup b = some .local) (hab : ¬ a = b) (had : (a == ("__debug__" : Str)) = false) (ne : I ≠ C ∧ I ≠ D ∧ C ≠ D)
    (hR : ∀ h tk oC m₂ acc oD news, NsObj oC m₂ → Fr h₀ L h m → News h₀ L h ((C, oC) :: (D, oD) :: news) → oD.IsDictOf (PySem.strKind prog w) acc → Off3 I C D news → Fin acc news → R (.ok .next) { s with heap := h, toks := tk })
    (J : DkJ prog w A h₀ L m env vx a b scope cl s d od kvs ep Fin I C D n s') :
    codeAny (model prog w) A (.compLoop (.DictComp (.Name a pk) vx [⟨.Tuple [.Name a pa, .Name b pb] kk tp, iter, [], 0⟩] scope pos) 0 (.ref I) (.ref D) (compEnvC scope cl C env)) R s' := by
  refine dk_loop (DkJ prog w A h₀ L m env vx a b scope cl s d od kvs ep Fin I C D) (fun k s' J => ?_) _ J
  cases J with
  | mk hi hyl it hC F N hDk off hS R' =>
  rename_i i acc oI oC oD m₂ news h tk
  have hI := N _ (.head _)
  have hCx := N _ (.tail _ (.head _))
  have W := kti_itemsTurns (knd := PySem.strKind prog w) (elts := [.Name a pa, .Name b pb]) (kk := kk) (pos := tp) hh I d hne kvs ep
  have st := And.intro (it.is _ hI.1) (hat.dictAt (N _ (.tail _ (.tail _ (.tail _ hS.mem)))).1)
  by_cases hlt : i < kvs.length
  · refine W.item i _ _ _ hlt st fun v h₂ tk₂ hMd hk₂ => ?_
    refine W.go i v _ _ _ hMd fun h₃ hP hst₃ hk₃ => ?_
    obtain ⟨T, key, k, x, rfl, hx, hkey, hT⟩ := hP
    obtain ⟨t, rfl⟩ := Value.isStrOf_shape hkey
    have up₃ : ∀ c o, c ≠ I → h.get? c = some o → h₃.get? c = some o := fun c o hc e => hk₃ c o (fun q => hc (List.mem_singleton.mp q)) (hk₂ c o (fun q => hc (List.mem_singleton.mp q)) e)
    refine kcp_assign (env := compEnvC scope cl C env) hh hT (lookup_relabel_local hxa) (lookup_relabel_local hxb) (comp_kind hkind) (hC.ns (up₃ _ _ (Ne.symm ne.1) hCx.1)) fun h₄ tk₄ hn₄ hs₄ => ?_
    obtain ⟨⟨ok', ov', hI₃⟩, _⟩ := hst₃
    have hI₄ : IsItemIter h₄ I d (i + 1) kvs.length ep ok' ov' := hs₄ I _ ne.1 hI₃
    obtain ⟨oI', heI, it'⟩ : ∃ oI' : Obj, h₄.get? I = some oI' ∧ ItemIs I d kvs.length ep (i + 1) oI' := ⟨_, hI₄, ⟨fun _ e => ⟨_, _, e⟩⟩⟩
    clear hI₄ hI₃ hT
    refine wpAny_Name (wpAny_loadName_local (env := compEnvC scope cl C env) (by simp [compEnvC, relabel, hkind]) (lookup_relabel_local hxa) hn₄ (v := .str k t) ((if_neg hab).trans (if_pos rfl)) ?_) had
    obtain ⟨oC', heC, hC'⟩ := ns_obj hn₄
    have up : ∀ c o, c ≠ I → c ≠ C → h.get? c = some o → h₄.get? c = some o := fun c o h1 h2 e => hs₄ c o h2 (up₃ c o h1 e)
    rw [List.drop_eq_getElem_cons hlt, Option.some.inj ((List.getElem?_eq_getElem hlt).symm.trans hx)] at R'
    refine wpAny_mono (R' t I oI' C oC' D oD _ h₄ _ _ hC' ((if_neg hab).trans (if_pos rfl)) (if_pos rfl) (fr_two F up hI.2 hCx.2) (news_IC N heI heC up (off_IC off ne)) off ne) (fun y s₅ h₅ => ?_) fun _ _ e => e
    obtain ⟨h₅, tk₅, news₅, rfl, F₅, N₅, off₅, hS₅, R₅⟩ := h₅
    have zD := N₅ (D, oD) (.tail _ (.tail _ (.head _)))
    refine wpAny_dictSet_pairs (knd := PySem.strKind prog w) (kvs := acc) (hsz := Nat.le_trans hyl (Nat.le_trans hi hsz)) hkey (Heap.dictOf_iff.mpr ⟨oD, zD.1, hDk⟩) fun h₆ hl₆ hs₆ => ?_
    obtain ⟨oD₆, hD₆, hDk₆⟩ := Heap.dictOf_iff.mp hl₆
    exact ⟨_, Nat.sub_lt_sub_left (Nat.lt_succ_of_le hi) (Nat.lt_succ_self i), .mk hlt (Nat.le_trans (stored_length_le acc k y) (Nat.succ_le_succ hyl)) it' hC' (fr_one F₅ hs₆.extBut zD.2) (news_D N₅ hD₆ hs₆.extBut off₅ ne) hDk₆ off₅ hS₅ R₅⟩
  · obtain rfl : i = kvs.length := Nat.le_antisymm hi (Nat.not_lt.mp hlt)
    rw [List.drop_eq_nil_of_le (Nat.le_refl _)] at R'
    refine W.done _ _ _ st fun h₂ tk₂ hk₂ => ?_
    have k1 : ∀ c o, c ≠ I → h.get? c = some o → h₂.get? c = some o := fun c o hc e => hk₂ c o (fun q => hc (List.mem_singleton.mp q)) e
    exact hR _ _ _ _ _ _ _ hC (fr_one F k1 hI.2) (news_one (news_tl N) k1 (off_I off ne)) hDk off R'
end
end Mine
end
section
open PySem PySem.W PyProof.Rows PySem.Calls PySem.Spec PyProof.V
set_option maxHeartbeats 4000000
namespace Mine
theorem off1_mem {D : Addr} : ∀ {l : List (Addr × Obj)}, LCg.Off1 D l → ∀ p ∈ l, p.1 ≠ D
  | [], _, _, h => nomatch h
  | _ :: _, x, p, h => by
    rcases List.mem_cons.mp h with rfl | h
    · exact x.1
    · exact off1_mem x.2 p h
section
open LCg
variable {prog : Program} {w : World} {A : Around} {E : Value → Shared → Prop} {s : Shared} {h₀ : Heap} {L : Addr} {m : Str → Option Value} {env : Env}
/- the made dict, handed on -/
def FinD (prog : Program) (w : World) (h₀ : Heap) (L : Addr) (m : Str → Option Value) (s : Shared) (Q : Value → Shared → Prop) (acc : List (Str × Value)) (news : List (Addr × Obj)) : Prop :=
  ∀ D oD h tk, Fr h₀ L h m → News h₀ L h ((D, oD) :: news) → oD.IsDictOf (PySem.strKind prog w) acc → (∀ p ∈ news, p.1 ≠ D) → h₀.objs.size ≤ D → Q (.ref D) { s with heap := h, toks := tk }
inductive DkSrc (prog : Program) (w : World) (A : Around) (h₀ : Heap) (L : Addr) (m : Str → Option Value) (env : Env) (vx : PySem.Expr) (a b : Str) (scope : Scope) (cl : List (Str × Addr)) (Q : Value → Shared → Prop) : Value → Shared → Prop
  | mk {vw d : Addr} {od : Obj} {kvs : List (Str × Value)} {news : List (Addr × Obj)} {s₁ : Shared} : A.handled = none → Fr h₀ L s₁.heap m → News h₀ L s₁.heap news →
    (∃ ov, s₁.heap.get? vw = some ov ∧ ov.cls = .type "dict_items" ∧ ov.data = .fields #[.ref d]) → (d, od) ∈ news → od.IsDictOf (PySem.strKind prog w) kvs → kvs.length ≤ sizeLine →
    (∀ g : Heap, DkRest prog w A h₀ L m env vx a b scope cl { s₁ with heap := g } (KcpAt d od) (FinD prog w h₀ L m { s₁ with heap := g } Q) kvs [] news) → DkSrc prog w A h₀ L m env vx a b scope cl Q (.ref vw) s₁
theorem dkSrc_ {vx : PySem.Expr} {a b : Str} {scope : Scope} {cl : List (Str × Addr)} {Q : Value → Shared → Prop} {vw d : Addr} {od : Obj} {kvs : List (Str × Value)} {news : List (Addr × Obj)} {s₁ : Shared}
    (hh : A.handled = none) (F : Fr h₀ L s₁.heap m) (N : News h₀ L s₁.heap news) (hv : ∃ ov, s₁.heap.get? vw = some ov ∧ ov.cls = .type "dict_items" ∧ ov.data = .fields #[.ref d]) (hmd : (d, od) ∈ news) (hd : od.IsDictOf (PySem.strKind prog w) kvs) (hsz : kvs.length ≤ sizeLine)
    (h : ∀ g : Heap, DkRest prog w A h₀ L m env vx a b scope cl { s₁ with heap := g } (KcpAt d od) (FinD prog w h₀ L m { s₁ with heap := g } Q) kvs [] news) : DkSrc prog w A h₀ L m env vx a b scope cl Q (.ref vw) s₁ :=
  .mk hh F N hv hmd hd hsz h
theorem dict_new {prog : Program} {w : World} : ({ cls := .type "dict", data := .dict #[] } : Obj).IsDictOf (PySem.strKind prog w) [] := by
  obtain ⟨o, e, hd⟩ := Heap.dictOf_iff.mp (Heap.DictOf.new (knd := PySem.strKind prog w) default)
  rw [Heap.get?_push_size _ rfl] at e
  cases e
  exact hd
/- a dict's comprehension over the pairs of a dict -/
theorem dk_DictComp {vx iter : PySem.Expr} {a b : Str} {pa pb tp pk : Pos} {kk : Nat} {scope : Scope} {cl : List (Str × Addr)} {pos : Pos} {Q : Value → Shared → Prop} (_ : Fr h₀ L s.heap m)
    (hclos : closureFor scope env = pure cl) (hcell : ∀ y ∈ scope.names, y.2 ≠ .cell) (hkind : scope.kind = .function)
    (hnames : ∀ y ∈ scope.names, y.2 = .local → scope.names.lookup y.1 = some .local) (hxa : scope.names.lookup a = some .local) (hxb : scope.names.lookup b = some .local) (hab : ¬ a = b) (had : (a == ("__debug__" : Str)) = false)
    (h : wpAny (model prog w) A (eval iter env) (DkSrc prog w A h₀ L m env vx a b scope cl Q) E s)
    (hs : ∀ x, foldedSetIterable iter env x = pure x := by intro _; rfl) :
    wpAny (model prog w) A (eval (.DictComp (.Name a pk) vx [⟨.Tuple [.Name a pa, .Name b pb] kk tp, iter, [], 0⟩] scope pos) env) Q E s := by
  rw [arm_eval_DictComp]
  refine wpAny_comprehension_free (use := none) rfl hs hclos hkind hnames (wpAny_mono h (fun xv s₁ h₁ => ?_) fun _ _ e => e)
  obtain ⟨hh, F, N, hv, hmd, hd, hsz, R⟩ := h₁
  obtain ⟨ep, hat⟩ := KdkAt.of hd
  refine wpAny_pyIter_items hv (hat.dictAt (N _ hmd).1) ?_
  refine comp_open hcell hkind (F.push _) (News.push F N _ rfl) (fun p hp => Heap.lt_size (N p hp).1) (fun D C oC m₂ h' tk' hC F₂ N₂ off ne hle => ?_) (by size_fits) rfl
  have hit := (N₂ _ (.head _)).1
  have lp := dk_turns (vx := vx) (iter := iter) (pa := pa) (pb := pb) (tp := tp) (pk := pk) (kk := kk) (pos := pos) (R := compPost (model prog w) A E none Q (.ref D) C) hh (Nat.ne_of_lt (Heap.lt_size (N _ hmd).1)) hsz hat hkind hxa hxb hab had ne
    (fun h tk oC m₂ acc oD news hC F N hDk off fin => post_none hC F N (fun p hp => (off_IC off ne p hp).2) fun h' F' N' => fin D oD h' tk F' N' hDk (fun p hp => (off.mem p hp).2.2) hle)
    (.mk (s := { s₁ with heap := s₁.heap }) (i := 0) (tk := tk') (Nat.zero_le _) (Nat.le_refl _) ⟨fun _ e => ⟨_, _, e⟩⟩ hC F₂ N₂ dict_new off (.inr ⟨_, hmd, rfl, 0, rfl⟩) (R _))
  exact codeAny_compStart_dict lp (kcp_self hit lp)
end
/- what is handed in as a frame's locals -/
inductive KeptIs (w : World) (news : List (Addr × Obj)) : Value → Nat → Prop
  | none : KeptIs w news .none 0
  | nil {a : Addr} {o : Obj} : (a, o) ∈ news → (a == sysModules) = false → o.IsDictOf (PySem.strKind PG w) [] → KeptIs w news (.ref a) 0
  | one {a : Addr} {o : Obj} {t : Tok} : (a, o) ∈ news → (a == sysModules) = false → o.IsDictOf (PySem.strKind PG w) [(Str.ofString "n", .int 7 t)] → KeptIs w news (.ref a) 1
  | two {a : Addr} {o : Obj} {t : Tok} : (a, o) ∈ news → (a == sysModules) = false → o.IsDictOf (PySem.strKind PG w) [(Str.ofString "n", .str (Str.ofString "7") t), (Str.ofString "m", .none)] → KeptIs w news (.ref a) 2
theorem KeptIs.more {w : World} {news news' : List (Addr × Obj)} {v : Value} {d : Nat} (l : KeptIs w news v d) (k : ∀ p ∈ news, p ∈ news') : KeptIs w news' v d := by
  cases l with
  | none => exact .none
  | nil m s i => exact .nil (k _ m) s i
  | one m s i => exact .one (k _ m) s i
  | two m s i => exact .two (k _ m) s i
structure LocEnd (w : World) (h₀ : Heap) (L : Addr) (m : Str → Option Value) (fr : Addr) (FR : Obj) (dx : Addr) (news : List (Addr × Obj)) (k : Nat) (s : Shared) (v : Value) (s' : Shared) : Prop where
  e : ∃ h' tk nn, s' = { s with heap := h', toks := tk } ∧ (∀ p ∈ news, p ∈ nn) ∧ LocIs w nn v k ∧ Fr h₀ L h' m ∧ News h₀ L h' ((fr, FR) :: (dx, dictOf [] 0) :: nn) ∧ (∀ p ∈ (dx, dictOf [] 0) :: nn, p.1 ≠ fr)
section
variable {prog : Program} {w : World} {A : Around} {E : Value → Shared → Prop} {s : Shared} {h₀ : Heap} {L : Addr} {m : Str → Option Value} {env : Env} {fr dx : Addr} {FR : Obj} {news all : List (Addr × Obj)} {k : Nat} {kept : Value}
theorem locEnd_none {h' : Heap} {tk : Nat} (F : Fr h₀ L h' m) (N : News h₀ L h' all) (hs : ∀ p ∈ (fr, FR) :: (dx, dictOf [] 0) :: news, p ∈ all) (ne : ∀ p ∈ (dx, dictOf [] 0) :: news, p.1 ≠ fr) : LocEnd w h₀ L m fr FR dx news 0 s .none { s with heap := h', toks := tk } :=
  ⟨h', tk, news, rfl, fun _ h => h, .none, F, nsub N hs, ne⟩
theorem locEnd_dict {h' : Heap} {tk : Nat} {D : Addr} {oD : Obj} {kvs : List (Str × Value)} {rest : List (Addr × Obj)} (F : Fr h₀ L h' m) (N : News h₀ L h' all) (hD : (D, oD) ∈ all) (hr : ∀ p ∈ rest, p.1 ≠ D) (hs : ∀ p ∈ (fr, FR) :: (dx, dictOf [] 0) :: news, p ∈ rest) (hra : ∀ p ∈ rest, p ∈ all) (ne : ∀ p ∈ (dx, dictOf [] 0) :: news, p.1 ≠ fr)
    (hm : (D == sysModules) = false) (i : oD.IsDictOf (PySem.strKind PG w) kvs) (q : KvIs k kvs) : LocEnd w h₀ L m fr FR dx news k s (.ref D) { s with heap := h', toks := tk } :=
  ⟨h', tk, (D, oD) :: news, rfl, fun _ h => .tail _ h, .dict (.head _) hm i q, F, fun p hp => by
    rcases List.mem_cons.mp hp with rfl | hp
    · exact N _ (hra _ (hs _ (.head _)))
    · rcases List.mem_cons.mp hp with rfl | hp
      · exact N _ (hra _ (hs _ (.tail _ (.head _))))
      · rcases List.mem_cons.mp hp with rfl | hp
        · exact N _ hD
        · exact N _ (hra _ (hs _ (.tail _ (.tail _ hp)))), fun p hp => by
    rcases List.mem_cons.mp hp with rfl | hp
    · exact ne _ (.head _)
    · rcases List.mem_cons.mp hp with rfl | hp
      · exact fun e => hr _ (hs _ (.head _)) e.symm
      · exact ne _ (.tail _ hp)⟩
theorem kept_cut {e : PySem.Expr} {Q : Value → Shared → Prop} (K : KeptIs w news kept k) (_ : Fr h₀ L s.heap m) (_ : News h₀ L s.heap all) (_ : (fr, FR) ∈ all)
    (h0 : kept = .none → wpAny (model prog w) A (eval e env) (LocEnd w h₀ L m fr FR dx news 0 s) E s)
    (h1 : ∀ a o, kept = .ref a → (a, o) ∈ news → (a == sysModules) = false → o.IsDictOf (PySem.strKind PG w) [] → wpAny (model prog w) A (eval e env) (LocEnd w h₀ L m fr FR dx news 0 s) E s)
    (h2 : ∀ a o t, kept = .ref a → (a, o) ∈ news → (a == sysModules) = false → o.IsDictOf (PySem.strKind PG w) [(Str.ofString "n", .int 7 t)] → wpAny (model prog w) A (eval e env) (LocEnd w h₀ L m fr FR dx news 1 s) E s)
    (h3 : ∀ a o t, kept = .ref a → (a, o) ∈ news → (a == sysModules) = false → o.IsDictOf (PySem.strKind PG w) [(Str.ofString "n", .str (Str.ofString "7") t), (Str.ofString "m", .none)] → wpAny (model prog w) A (eval e env) (LocEnd w h₀ L m fr FR dx news 2 s) E s)
    (kk : ∀ v h' tk nn, (∀ p ∈ news, p ∈ nn) → LocIs w nn v k → Fr h₀ L h' m → News h₀ L h' ((fr, FR) :: (dx, dictOf [] 0) :: nn) → (∀ p ∈ (dx, dictOf [] 0) :: nn, p.1 ≠ fr) → Q v { s with heap := h', toks := tk }) :
    wpAny (model prog w) A (eval e env) Q E s := by
  have go : ∀ v s', LocEnd w h₀ L m fr FR dx news k s v s' → Q v s' := fun v s' x => by
    obtain ⟨h', tk, nn, rfl, sb, l, F, N, ne⟩ := x
    exact kk v h' tk nn sb l F N ne
  cases K with
  | none => exact wpAny_mono (h0 rfl) go fun _ _ e => e
  | nil a b c => exact wpAny_mono (h1 _ _ rfl a b c) go fun _ _ e => e
  | one a b c => exact wpAny_mono (h2 _ _ _ rfl a b c) go fun _ _ e => e
  | two a b c => exact wpAny_mono (h3 _ _ _ rfl a b c) go fun _ _ e => e
theorem not_mod {D : Addr} (hb : h₀.NoLimit) (hD : h₀.objs.size ≤ D) : (D == sysModules) = false := beq_eq_false_iff_ne.mpr (Nat.ne_of_gt (Nat.lt_of_lt_of_le (modules_low hb) hD))
theorem truthy_led {d : Addr} {o : Obj} {kvs : List (Str × Value)} {Q : Bool → Shared → Prop} (N : News h₀ L s.heap all) (hm : (d, o) ∈ all) (lo : (d == sysModules) = false) (i : o.IsDictOf (PySem.strKind prog w) kvs) (hfit : kvs.length ≤ 64) (h : Q (!kvs.isEmpty) { s with toks := s.toks + 1 + 1 }) : wpAny (model prog w) A (truthy (.ref d)) Q E s :=
  wpAny_truthy_dict lo (Heap.dictOf_iff.mpr ⟨o, (N _ hm).1, i⟩) (by omega) h
theorem truthy_nil {d : Addr} {o : Obj} {Q : Bool → Shared → Prop} (N : News h₀ L s.heap all) (hm : (d, o) ∈ all) (lo : (d == sysModules) = false) (i : o.IsDictOf (PySem.strKind prog w) []) (h : Q false { s with toks := s.toks + 1 + 1 }) : wpAny (model prog w) A (truthy (.ref d)) Q E s := truthy_led N hm lo i (Nat.zero_le _) h
theorem truthy_cons {d : Addr} {o : Obj} {p : Str × Value} {kvs : List (Str × Value)} {Q : Bool → Shared → Prop} (N : News h₀ L s.heap all) (hm : (d, o) ∈ all) (lo : (d == sysModules) = false) (i : o.IsDictOf (PySem.strKind prog w) (p :: kvs)) (hfit : (p :: kvs).length ≤ 64) (h : Q true { s with toks := s.toks + 1 + 1 }) : wpAny (model prog w) A (truthy (.ref d)) Q E s := truthy_led N hm lo i hfit h
theorem gen_tok {M : Model} {A' : Around} {α : Type} {e : Sem α} {Q : α → Shared → Prop} {E' : Value → Shared → Prop} {h : Heap} {g : Array GenState} {d : Drawn} {t : Nat} {os : OsState} (k : ∀ tk, wpAny M A' e Q E' ⟨h, g, d, tk, os⟩) : wpAny M A' e Q E' ⟨h, g, d, t, os⟩ := k t
theorem kv_one {t : Tok} : KvIs 1 [(Str.ofString "n", .str (Str.ofString "7") t)] := .inl ⟨rfl, _, rfl⟩
theorem kv_two {t u : Tok} : KvIs 2 [(Str.ofString "n", .str (Str.ofString "'7'") t), (Str.ofString "m", .str (Str.ofString "None") u)] := .inr ⟨rfl, _, _, rfl⟩
end
end Mine
end
section
open PySem PySem.W PyProof.Rows PySem.Calls PySem.Spec PyProof.V
set_option maxHeartbeats 4000000
namespace Mine
/- a text of the menu and the row that is told of it -/
def BareIs (x y : Str) : Prop :=
  (x = Str.ofString "x = 1" ∧ y = Str.ofString "x = 1") ∨ (x = Str.ofString "" ∧ y = Str.ofString "") ∨ (x = Str.ofString "\x0cy\x0b" ∧ y = Str.ofString "y") ∨
  (x = Str.ofString "a\rb \n c" ∧ y = Str.ofString "a\rb") ∨ (x = Str.ofString "\nz" ∧ y = Str.ofString "") ∨ (x = Str.ofString " \t " ∧ y = Str.ofString "")
structure NotQ (d : PyData) : Prop where
  e : PyData.eqv d (.str (Str.ofString "?")) = false
theorem BareIs.line {x y : Str} (h : BareIs x y) : x.length ≤ sizeLine ∧ Txt.strip (Txt.partition x (Str.ofString "\n")).1 = y ∧ (y.length ≤ 64 ∧ PyData.strOk y = true) ∧ PyData.eqv (.str y) (.str (Str.ofString "?")) = false := by
  rcases h with ⟨rfl, rfl⟩ | ⟨rfl, rfl⟩ | ⟨rfl, rfl⟩ | ⟨rfl, rfl⟩ | ⟨rfl, rfl⟩ | ⟨rfl, rfl⟩ <;> exact ⟨by decide +kernel, by decide +kernel, ⟨by decide +kernel, by decide +kernel⟩, by decide +kernel⟩
theorem BareIs.lineIs {x y : Str} {t : Tok} {num : Value} (h : BareIs x y) : LineIs (.str x t) num (.str y) := let ⟨a, b, c, _⟩ := h.line; .inr ⟨x, t, y, rfl, a, b, c, rfl⟩
theorem BareIs.atom {x y : Str} {t : Tok} (h : BareIs x y) : Atom (.str y t) (.str y) := let ⟨_, _, c, _⟩ := h.line; .inr (.inr ⟨y, t, rfl, rfl, c⟩)
def txtOk : Value → Bool
  | .str x _ => decide (x.length ≤ 64) && PyData.strOk x && !PyData.eqv (.str x) (.str (Str.ofString "?"))
  | _ => false
theorem txtOk_ {v : Value} (h : txtOk v = true) : ∃ f t, v = .str f t ∧ Atom (.str f t) (.str f) ∧ NotQ (.str f) := by
  cases v with
  | str x t =>
    simp only [txtOk, Bool.and_eq_true, decide_eq_true_eq, Bool.not_eq_true'] at h
    exact ⟨x, t, rfl, .inr (.inr ⟨x, t, rfl, rfl, h.1⟩), ⟨h.2⟩⟩
  | _ => cases h
theorem fm_lt {a c : Int} {n : Nat} (e : (n : Int) = c) (hc : 0 < c) : a.fmod c < (n : Int) := by rw [e]; exact Int.fmod_lt_of_pos _ hc
def NumIs (v : Value) : Prop := v = .none ∨ ∃ i t, v = .int i t
def numOk : Value → Bool
  | .none => true
  | .int _ _ => true
  | _ => false
theorem numOk_ {v : Value} (h : numOk v = true) : NumIs v := by
  cases v with
  | none => exact .inl rfl
  | int i t => exact .inr ⟨i, t, rfl⟩
  | _ => cases h
theorem NumIs.atom {v : Value} (h : NumIs v) : ∃ d, Atom v d ∧ NotQ d := by
  rcases h with rfl | ⟨i, t, rfl⟩
  · exact ⟨.none, .inl ⟨rfl, rfl⟩, ⟨by decide +kernel⟩⟩
  · exact ⟨.int i, .inr (.inl ⟨i, t, rfl, rfl⟩), ⟨by simp only [PyData.eqv]⟩⟩
theorem NumIs.handed {v : Value} (h : NumIs v) : handedIn v = true := by
  rcases h with rfl | ⟨i, t, rfl⟩ <;> rfl
theorem at_nil {P : Nat → Value → Prop} (j : Nat) (v : Value) (e : ([] : List Value)[j]? = some v) : P j v := by cases e
theorem at_cons {P : Nat → Value → Prop} {x : Value} {xs : List Value} (h0 : P 0 x) (hs : ∀ j v, xs[j]? = some v → P (j + 1) v) (j : Nat) (v : Value) (e : (x :: xs)[j]? = some v) : P j v := by
  cases j with
  | zero => cases e; exact h0
  | succ j => exact hs j v e
structure TriIs (s f b : Value) : Prop where
  s : NumIs s
  f : NumIs f
  b : NumIs b
section
variable {prog : Program} {w : World} {A : Around} {E : Value → Shared → Prop} {s : Shared} {h₀ : Heap} {L : Addr} {news : List (Addr × Obj)}
theorem menu_at {value slice : PySem.Expr} {l : Addr} {vs : List Value} {n : Nat} {k : Int} {u : Tok} {Q : Value → Shared → Prop} (N : News h₀ L s.heap news) (hl : (l, listOf vs.toArray n) ∈ news) (h0 : 0 ≤ k) (h1 : k < (vs.length : Int)) (hc : vs.length ≤ 64)
    (h : ∀ v, vs[k.toNat]? = some v → Q v s)
    (hs : subscripted slice false (.ref l) (.int k u) = operate [.ref l, .int k u] (getItem (.ref l) (.int k u))) :
    wpAny (model prog w) A (subscriptTail value slice (.ref l) (.int k u)) Q E s := by
  have hl' := News.isList N hl
  have hlt : k.toNat < vs.length := by omega
  exact tail_any hl'.typeIs slot_list_getitem.lookup (wpAny_getItem_list hl' h0 (by omega) (by simpa using List.getElem?_eq_getElem hlt) (h _ (List.getElem?_eq_getElem hlt))) hs
theorem all_at {p : Value → Bool} {vs : List Value} (h : vs.all p = true) {i : Nat} {v : Value} (e : vs[i]? = some v) : p v = true := List.all_eq_true.mp h v (List.mem_of_getElem? e)
theorem menu_txt {value slice : PySem.Expr} {l : Addr} {vs : List Value} {n : Nat} {k : Int} {u : Tok} {Q : Value → Shared → Prop} (N : News h₀ L s.heap news) (hl : (l, listOf vs.toArray n) ∈ news) (h0 : 0 ≤ k) (h1 : k < (vs.length : Int)) (hc : vs.length ≤ 64) (ok : vs.all txtOk = true)
    (h : ∀ f t, Atom (.str f t) (.str f) → NotQ (.str f) → Q (.str f t) s)
    (hs : subscripted slice false (.ref l) (.int k u) = operate [.ref l, .int k u] (getItem (.ref l) (.int k u))) :
    wpAny (model prog w) A (subscriptTail value slice (.ref l) (.int k u)) Q E s :=
  menu_at N hl h0 h1 hc (fun v e => by
    obtain ⟨f, t, rfl, a, q⟩ := txtOk_ (all_at ok e)
    exact h f t a q) hs
theorem menu_num {value slice : PySem.Expr} {l : Addr} {vs : List Value} {n : Nat} {k : Int} {u : Tok} {Q : Value → Shared → Prop} (N : News h₀ L s.heap news) (hl : (l, listOf vs.toArray n) ∈ news) (h0 : 0 ≤ k) (h1 : k < (vs.length : Int)) (hc : vs.length ≤ 64) (ok : vs.all numOk = true)
    (h : ∀ v, NumIs v → Q v s)
    (hs : subscripted slice false (.ref l) (.int k u) = operate [.ref l, .int k u] (getItem (.ref l) (.int k u))) :
    wpAny (model prog w) A (subscriptTail value slice (.ref l) (.int k u)) Q E s :=
  menu_at N hl h0 h1 hc (fun v e => h v (numOk_ (all_at ok e))) hs
theorem menu_text {value slice : PySem.Expr} {l : Addr} {n : Nat} {k : Int} {u t0 t1 t2 t3 t4 t5 : Tok} {Q : Value → Shared → Prop} (N : News h₀ L s.heap news)
    (hl : (l, listOf [.str (Str.ofString "x = 1") t0, .str (Str.ofString "") t1, .str (Str.ofString "\x0cy\x0b") t2, .str (Str.ofString "a\rb \n c") t3, .str (Str.ofString "\nz") t4, .str (Str.ofString " \t ") t5].toArray n) ∈ news) (h0 : 0 ≤ k) (h1 : k < 6)
    (h : ∀ x t y, BareIs x y → Q (.str x t) s)
    (hs : subscripted slice false (.ref l) (.int k u) = operate [.ref l, .int k u] (getItem (.ref l) (.int k u))) :
    wpAny (model prog w) A (subscriptTail value slice (.ref l) (.int k u)) Q E s :=
  menu_at N hl h0 h1 (Nat.le_of_ble_eq_true rfl) (at_cons (P := fun _ v => Q v s) (h _ _ _ (.inl ⟨rfl, rfl⟩)) (at_cons (h _ _ _ (.inr (.inl ⟨rfl, rfl⟩))) (at_cons (h _ _ _ (.inr (.inr (.inl ⟨rfl, rfl⟩)))) (at_cons (h _ _ _ (.inr (.inr (.inr (.inl ⟨rfl, rfl⟩))))) (at_cons (h _ _ _ (.inr (.inr (.inr (.inr (.inl ⟨rfl, rfl⟩)))))) (at_cons (h _ _ _ (.inr (.inr (.inr (.inr (.inr ⟨rfl, rfl⟩)))))) at_nil))))) _) hs
theorem menu_kept {value slice : PySem.Expr} {l a b c : Addr} {oa ob oc : Obj} {ka kb kc : List (Str × Value)} {n : Nat} {k : Int} {u t0 t1 : Tok} {Q : Value → Shared → Prop} (N : News h₀ L s.heap news)
    (hl : (l, listOf [.none, .ref a, .ref b, .ref c].toArray n) ∈ news) (h0 : 0 ≤ k) (h1 : k < 4)
    (ha : (a, oa) ∈ news) (la : (a == sysModules) = false) (ia : oa.IsDictOf (PySem.strKind PG w) ka) (ea : ka = [])
    (hb : (b, ob) ∈ news) (lb : (b == sysModules) = false) (ib : ob.IsDictOf (PySem.strKind PG w) kb) (eb : kb = [(Str.ofString "n", .int 7 t0)])
    (hc : (c, oc) ∈ news) (lc : (c == sysModules) = false) (ic : oc.IsDictOf (PySem.strKind PG w) kc) (ec : kc = [(Str.ofString "n", .str (Str.ofString "7") t1), (Str.ofString "m", .none)])
    (h : ∀ v, KeptIs w news v (k.toNat - 1) → Q v s)
    (hs : subscripted slice false (.ref l) (.int k u) = operate [.ref l, .int k u] (getItem (.ref l) (.int k u))) :
    wpAny (model prog w) A (subscriptTail value slice (.ref l) (.int k u)) Q E s :=
  menu_at N hl h0 h1 (Nat.le_of_ble_eq_true rfl) (fun v e => h v (at_cons (P := fun j v => KeptIs w news v (j - 1)) .none (at_cons (P := fun j v => KeptIs w news v j) (.nil ha la (ea ▸ ia)) (at_cons (P := fun j v => KeptIs w news v (j + 1)) (.one hb lb (eb ▸ ib)) (at_cons (P := fun j v => KeptIs w news v (j + 2)) (.two hc lc (ec ▸ ic)) at_nil))) _ v e)) hs
theorem menu_words {value slice : PySem.Expr} {l b c : Addr} {ob oc : Obj} {kb kc : List (Str × Value)} {n : Nat} {k : Int} {u t0 t1 t2 : Tok} {Q : Value → Shared → Prop} (N : News h₀ L s.heap news)
    (hl : (l, listOf [.none, .none, .ref b, .ref c].toArray n) ∈ news) (h0 : 0 ≤ k) (h1 : k < 4)
    (hb : (b, ob) ∈ news) (lb : (b == sysModules) = false) (ib : ob.IsDictOf (PySem.strKind PG w) kb) (eb : kb = [(Str.ofString "n", .str (Str.ofString "7") t0)])
    (hc : (c, oc) ∈ news) (lc : (c == sysModules) = false) (ic : oc.IsDictOf (PySem.strKind PG w) kc) (ec : kc = [(Str.ofString "n", .str (Str.ofString "'7'") t1), (Str.ofString "m", .str (Str.ofString "None") t2)])
    (h : ∀ v, LocIs w news v (k.toNat - 1) → Q v s)
    (hs : subscripted slice false (.ref l) (.int k u) = operate [.ref l, .int k u] (getItem (.ref l) (.int k u))) :
    wpAny (model prog w) A (subscriptTail value slice (.ref l) (.int k u)) Q E s :=
  menu_at N hl h0 h1 (Nat.le_of_ble_eq_true rfl) (fun v e => h v (at_cons (P := fun j v => LocIs w news v (j - 1)) .none (at_cons (P := fun j v => LocIs w news v j) .none (at_cons (P := fun j v => LocIs w news v (j + 1)) (.dict hb lb (eb ▸ ib) kv_one) (at_cons (P := fun j v => LocIs w news v (j + 2)) (.dict hc lc (ec ▸ ic) kv_two) at_nil))) _ v e)) hs
theorem menu_tri {value slice : PySem.Expr} {l a b c : Addr} {a1 a2 a3 b1 b2 b3 c1 c2 c3 : Value} {n : Nat} {k : Int} {u : Tok} {Q : Value → Shared → Prop} (N : News h₀ L s.heap news)
    (hl : (l, listOf [.ref a, .ref b, .ref c].toArray n) ∈ news) (h0 : 0 ≤ k) (h1 : k < 3)
    (ha : (a, tupObj [a1, a2, a3]) ∈ news) (hb : (b, tupObj [b1, b2, b3]) ∈ news) (hc : (c, tupObj [c1, c2, c3]) ∈ news) (ok : [a1, a2, a3, b1, b2, b3, c1, c2, c3].all numOk = true)
    (h : ∀ t v1 v2 v3, (t, tupObj [v1, v2, v3]) ∈ news → TriIs v1 v2 v3 → Q (.ref t) s)
    (hs : subscripted slice false (.ref l) (.int k u) = operate [.ref l, .int k u] (getItem (.ref l) (.int k u))) :
    wpAny (model prog w) A (subscriptTail value slice (.ref l) (.int k u)) Q E s :=
  menu_at N hl h0 h1 (Nat.le_of_ble_eq_true rfl) (by
    simp only [List.all_cons, List.all_nil, Bool.and_eq_true, Bool.and_true] at ok
    obtain ⟨x1, x2, x3, y1, y2, y3, z1, z2, z3⟩ := ok
    exact at_cons (P := fun _ v => Q v s) (h _ _ _ _ ha ⟨numOk_ x1, numOk_ x2, numOk_ x3⟩) (at_cons (h _ _ _ _ hb ⟨numOk_ y1, numOk_ y2, numOk_ y3⟩) (at_cons (h _ _ _ _ hc ⟨numOk_ z1, numOk_ z2, numOk_ z3⟩) at_nil)) _) hs
end
/- the three ways that a frame's text is handed in -/
def ModeIs (mode : Int) (num text tx : Value) (late early : Bool) : Prop :=
  (mode = 2 ∧ num = .none ∧ tx = .none ∧ late = false ∧ early = true) ∨ (mode = 2 ∧ (∃ i t, num = .int i t) ∧ tx = .none ∧ late = true ∧ early = false) ∨ (mode = 0 ∧ tx = text ∧ late = false ∧ early = true) ∨ (mode = 1 ∧ tx = text ∧ late = false ∧ early = false)
theorem mode_ex {mode : Int} {num text : Value} (h0 : 0 ≤ mode) (h1 : mode < 3) (n : NumIs num) : ∃ tx late early, ModeIs mode num text tx late early := by
  have : mode = 0 ∨ mode = 1 ∨ mode = 2 := by omega
  rcases this with rfl | rfl | rfl
  · exact ⟨_, _, _, .inr (.inr (.inl ⟨rfl, rfl, rfl, rfl⟩))⟩
  · exact ⟨_, _, _, .inr (.inr (.inr ⟨rfl, rfl, rfl, rfl⟩))⟩
  · rcases n with h | h
    · exact ⟨_, _, _, .inl ⟨rfl, h, rfl, rfl, rfl⟩⟩
    · exact ⟨_, _, _, .inr (.inl ⟨rfl, h, rfl, rfl, rfl⟩)⟩
theorem stop_ex {stop num : Value} (n : NumIs stop) : ∃ endl, StopIs stop num endl := by
  rcases n with rfl | ⟨i, t, rfl⟩
  · exact ⟨_, .inl ⟨rfl, rfl⟩⟩
  · exact ⟨_, .inr ⟨i, t, rfl, rfl⟩⟩
section
variable {prog : Program} {w : World} {A : Around} {E : Value → Shared → Prop} {s : Shared} {env : Env} {mode : Int} {num text tx : Value} {late early : Bool} {e : PySem.Expr} {Q : Value → Shared → Prop}
theorem val_back {v : Value} (k : ∀ tk, Q v { s with toks := tk }) : ∀ v' s', ValEnd v s v' s' → Q v' s' := fun v' s' x => by
  obtain ⟨rfl, tk, rfl⟩ := x
  exact k tk
theorem text_cut (md : ModeIs mode num text tx late early) (h1 : mode = 2 → wpAny (model prog w) A (eval e env) (ValEnd .none s) E s) (h2 : ¬ mode = 2 → wpAny (model prog w) A (eval e env) (ValEnd text s) E s) (k : ∀ tk, Q tx { s with toks := tk }) : wpAny (model prog w) A (eval e env) Q E s := by
  rcases md with ⟨h, _, rfl, _, _⟩ | ⟨h, _, rfl, _, _⟩ | ⟨h, rfl, _, _⟩ | ⟨h, rfl, _, _⟩
  · exact wpAny_mono (h1 h) (val_back k) fun _ _ e => e
  · exact wpAny_mono (h1 h) (val_back k) fun _ _ e => e
  · exact wpAny_mono (h2 (by rw [h]; decide)) (val_back k) fun _ _ e => e
  · exact wpAny_mono (h2 (by rw [h]; decide)) (val_back k) fun _ _ e => e
theorem late_cut (md : ModeIs mode num text tx late early) (h1 : mode = 2 → num = .none → wpAny (model prog w) A (eval e env) (ValEnd (.bool false) s) E s) (h2 : ∀ i t, mode = 2 → num = .int i t → wpAny (model prog w) A (eval e env) (ValEnd (.bool true) s) E s) (h3 : ¬ mode = 2 → wpAny (model prog w) A (eval e env) (ValEnd (.bool false) s) E s)
    (k : ∀ tk, Q (.bool late) { s with toks := tk }) : wpAny (model prog w) A (eval e env) Q E s := by
  rcases md with ⟨h, hn, _, rfl, _⟩ | ⟨h, ⟨i, t, hn⟩, _, rfl, _⟩ | ⟨h, _, rfl, _⟩ | ⟨h, _, rfl, _⟩
  · exact wpAny_mono (h1 h hn) (val_back k) fun _ _ e => e
  · exact wpAny_mono (h2 i t h hn) (val_back k) fun _ _ e => e
  · exact wpAny_mono (h3 (by rw [h]; decide)) (val_back k) fun _ _ e => e
  · exact wpAny_mono (h3 (by rw [h]; decide)) (val_back k) fun _ _ e => e
theorem early_cut (md : ModeIs mode num text tx late early) (h1 : mode = 2 → num = .none → wpAny (model prog w) A (eval e env) (ValEnd (.bool true) s) E s) (h2 : ∀ i t, mode = 2 → num = .int i t → wpAny (model prog w) A (eval e env) (ValEnd (.bool false) s) E s) (h3 : mode = 0 → wpAny (model prog w) A (eval e env) (ValEnd (.bool true) s) E s) (h4 : mode = 1 → wpAny (model prog w) A (eval e env) (ValEnd (.bool false) s) E s)
    (k : ∀ tk, Q (.bool early) { s with toks := tk }) : wpAny (model prog w) A (eval e env) Q E s := by
  rcases md with ⟨h, hn, _, _, rfl⟩ | ⟨h, ⟨i, t, hn⟩, _, _, rfl⟩ | ⟨h, _, _, rfl⟩ | ⟨h, _, _, rfl⟩
  · exact wpAny_mono (h1 h hn) (val_back k) fun _ _ e => e
  · exact wpAny_mono (h2 i t h hn) (val_back k) fun _ _ e => e
  · exact wpAny_mono (h3 h) (val_back k) fun _ _ e => e
  · exact wpAny_mono (h4 h) (val_back k) fun _ _ e => e
/- the text that is kept: None, or one of the menu; and the row that is told of it -/
def TxIs (tx : Value) (dt : PyData) : Prop := (tx = .none ∧ dt = .none) ∨ ∃ x t y, tx = .str x t ∧ dt = .str y ∧ BareIs x y
theorem TxIs.handed {dt : PyData} (h : TxIs tx dt) : handedIn tx = true := by
  rcases h with ⟨rfl, _⟩ | ⟨x, t, y, rfl, _⟩ <;> rfl
theorem TxIs.notQ {dt : PyData} (h : TxIs tx dt) : NotQ dt := by
  rcases h with ⟨_, rfl⟩ | ⟨x, t, y, _, rfl, b⟩
  · exact ⟨by decide +kernel⟩
  · exact ⟨b.line.2.2.2⟩
theorem mode_tx {x y : Str} {t : Tok} (b : BareIs x y) (md : ModeIs mode num (.str x t) tx late early) : ∃ dt, TxIs tx dt ∧ LookIs early tx num dt ∧ (late = false → LineIs tx num dt) := by
  rcases md with ⟨h, hn, rfl, rfl, rfl⟩ | ⟨h, ⟨i, t, hn⟩, rfl, rfl, rfl⟩ | ⟨h, rfl, rfl, rfl⟩ | ⟨h, rfl, rfl, rfl⟩
  · exact ⟨_, .inl ⟨rfl, rfl⟩, .inr ⟨rfl, .inl ⟨rfl, hn, rfl⟩⟩, fun _ => .inl ⟨rfl, hn, rfl⟩⟩
  · exact ⟨_, .inl ⟨rfl, rfl⟩, .inl rfl, fun e => by cases e⟩
  · exact ⟨_, .inr ⟨_, _, _, rfl, rfl, b⟩, .inr ⟨rfl, b.lineIs⟩, fun _ => b.lineIs⟩
  · exact ⟨_, .inr ⟨_, _, _, rfl, rfl, b⟩, .inl rfl, fun _ => b.lineIs⟩
structure DueEnd (h₀ : Heap) (L : Addr) (m : Str → Option Value) (news : List (Addr × Obj)) (dt : PyData) (s : Shared) (v : Value) (s' : Shared) : Prop where
  e : ∃ h' tk, s' = { s with heap := h', toks := tk } ∧ Fr h₀ L h' m ∧ News h₀ L h' news ∧ Atom v dt
theorem due_cut {dt : PyData} {h₀ : Heap} {L : Addr} {m : Str → Option Value} {news : List (Addr × Obj)} (_ : Fr h₀ L s.heap m) (_ : News h₀ L s.heap news) (tI : TxIs tx dt) (h1 : tx = .none → wpAny (model prog w) A (eval e env) (DueEnd h₀ L m news .none s) E s) (h2 : ∀ x t y, tx = .str x t → BareIs x y → wpAny (model prog w) A (eval e env) (DueEnd h₀ L m news (.str y) s) E s)
    (k : ∀ v h' tk, Atom v dt → Fr h₀ L h' m → News h₀ L h' news → Q v { s with heap := h', toks := tk }) : wpAny (model prog w) A (eval e env) Q E s := by
  have go : ∀ v s', DueEnd h₀ L m news dt s v s' → Q v s' := fun v s' x => by
    obtain ⟨h', tk, rfl, F, N, a⟩ := x
    exact k v h' tk a F N
  rcases tI with ⟨rfl, rfl⟩ | ⟨x, t, y, rfl, rfl, b⟩
  · exact wpAny_mono (h1 rfl) go fun _ _ e => e
  · exact wpAny_mono (h2 _ _ _ rfl b) go fun _ _ e => e
end
/- one of the law's things: a frame, its row, its rest, its text, and whether its row is still to be looked up -/
structure ThingIs (w : World) (news : List (Addr × Obj)) (r fr dx du re : Addr) (f nm : Str) (tf tn : Tok) (num locs words endl col ecol tx bt : Value) (dn dt : PyData) (k : Nat) (late : Bool) : Prop where
  hr : (r, tupObj [.ref fr, .ref du, .ref re, tx, .bool late]) ∈ news
  hfr : (fr, frObj dx .none tx .none col ecol endl (.str f tf) num locs (.str nm tn)) ∈ news
  hdx : (dx, dictOf [] 0) ∈ news
  hdu : (du, tupObj [.str f tf, num, .str nm tn, bt]) ∈ news
  hre : (re, tupObj [words, endl, col, ecol]) ∈ news
  hf : Atom (.str f tf) (.str f)
  hnum : Atom num dn
  hni : NumIs num
  hnm : Atom (.str nm tn) (.str nm)
  hbt : Atom bt dt
  hqf : NotQ (.str f)
  hqn : NotQ dn
  hqm : NotQ (.str nm)
  hqt : NotQ dt
  hlocs : LocIs w news locs k
  hwords : LocIs w news words k
  hendl : NumIs endl
  hcol : NumIs col
  hecol : NumIs ecol
  htx : TxIs tx dt
  hline : late = false → LineIs tx num dt
theorem ThingIs.more {w : World} {news news' : List (Addr × Obj)} {r fr dx du re : Addr} {f nm : Str} {tf tn : Tok} {num locs words endl col ecol tx bt : Value} {dn dt : PyData} {k : Nat} {late : Bool} (t : ThingIs w news r fr dx du re f nm tf tn num locs words endl col ecol tx bt dn dt k late) (q : ∀ p ∈ news, p ∈ news') :
    ThingIs w news' r fr dx du re f nm tf tn num locs words endl col ecol tx bt dn dt k late :=
  { t with hr := q _ t.hr, hfr := q _ t.hfr, hdx := q _ t.hdx, hdu := q _ t.hdu, hre := q _ t.hre, hlocs := t.hlocs.more q, hwords := t.hwords.more q }
inductive IsThing (w : World) (news : List (Addr × Obj)) : Value → Prop
  | mk (r fr dx du re : Addr) (f nm : Str) (tf tn : Tok) (num locs words endl col ecol tx bt : Value) (dn dt : PyData) (k : Nat) (late : Bool) (T : ThingIs w news r fr dx du re f nm tf tn num locs words endl col ecol tx bt dn dt k late) : IsThing w news (.ref r)
theorem IsThing.more {w : World} {news news' : List (Addr × Obj)} {v : Value} (t : IsThing w news v) (q : ∀ p ∈ news, p ∈ news') : IsThing w news' v := by
  cases t with
  | mk r fr dx du re f nm tf tn num locs words endl col ecol tx bt dn dt k late t => exact .mk r fr dx du re f nm tf tn num locs words endl col ecol tx bt dn dt k late (t.more q)
theorem pack1 {w : World} {g h : Heap} {L : Addr} {v1 v2 v3 wd kp num : Value} {mo : Int} {tm tt tn tf : Tok} {xt yt nm f : Str} {r : Str → Option Value} {all l1 l2 news : List (Addr × Obj)} {k : Nat}
    (F : Fr g L h fun y => if y = Str.ofString "back" then some v3 else if y = Str.ofString "front" then some v2 else if y = Str.ofString "stop" then some v1 else if y = Str.ofString "mode" then some (.int mo tm) else if y = Str.ofString "words" then some wd else if y = Str.ofString "kept" then some kp else
      if y = Str.ofString "text" then some (.str xt tt) else if y = Str.ofString "name" then some (.str nm tn) else if y = Str.ofString "number" then some num else if y = Str.ofString "file" then some (.str f tf) else r y)
    (N : News g L h all) (h0 : 0 ≤ mo) (h1 : mo < 3) (nI : NumIs num) (bI : BareIs xt yt) (kI : KeptIs w l1 kp k) (hk : ∀ p ∈ l1, p ∈ all) (lI : LocIs w l2 wd k) (hl : ∀ p ∈ l2, p ∈ all) (tI : TriIs v1 v2 v3) (hn : ∀ p ∈ news, p ∈ all) :
    ∃ (nn : List (Addr × Obj)) (tx : Value) (late early : Bool) (dt dn : PyData) (endl : Value) (mo' : Int) (tm' tt' : Tok) (xt' : Str), (Fr g L h fun y => if y = Str.ofString "back" then some v3 else if y = Str.ofString "front" then some v2 else if y = Str.ofString "stop" then some v1 else if y = Str.ofString "mode" then some (.int mo' tm') else if y = Str.ofString "words" then some wd else if y = Str.ofString "kept" then some kp else
      if y = Str.ofString "text" then some (.str xt' tt') else if y = Str.ofString "name" then some (.str nm tn) else if y = Str.ofString "number" then some num else if y = Str.ofString "file" then some (.str f tf) else r y) ∧
      News g L h nn ∧ (∀ p ∈ news, p ∈ nn) ∧ KeptIs w nn kp k ∧ LocIs w nn wd k ∧ ModeIs mo' num (.str xt' tt') tx late early ∧ TxIs tx dt ∧ LookIs early tx num dt ∧ KeepP (late = false → LineIs tx num dt) ∧ Atom num dn ∧ NotQ dn ∧ NotQ dt ∧ StopIs v1 num endl ∧ NumIs endl ∧ NumIs v2 ∧ NumIs v3 := by
  obtain ⟨tx, late, early, md⟩ := mode_ex (text := .str xt tt) h0 h1 nI
  obtain ⟨dt, a, b, c⟩ := mode_tx bI md
  obtain ⟨dn, an, qn⟩ := nI.atom
  obtain ⟨endl, st⟩ := stop_ex (num := num) tI.s
  refine ⟨all, tx, late, early, dt, dn, endl, mo, tm, tt, xt, F, N, hn, kI.more hk, lI.more hl, md, a, b, ⟨c⟩, an, qn, a.notQ, st, ?_, tI.f, tI.b⟩
  rcases st with ⟨_, rfl⟩ | ⟨i, t, _, rfl⟩
  · exact nI
  · exact .inr ⟨i, t, rfl⟩
theorem hne_of {d x : Addr} {o : Obj} {news : List (Addr × Obj)} (l1 : ∀ p ∈ news, p.1 < d) (l2 : d < x) : ∀ p ∈ (d, o) :: news, p.1 ≠ x := fun p hp => by
  rcases List.mem_cons.mp hp with rfl | hp
  · exact Nat.ne_of_lt l2
  · exact Nat.ne_of_lt (Nat.lt_trans (l1 p hp) l2)
theorem units_call (A : Around) (args : Args) : (A.under (.builtin "type.__call__" args)).units = A.units + 1 := by
  show A.units + Code.cUnits (.builtin "type.__call__" args) = _
  congr 1
theorem initBack_ {x : Addr} {R : Result → Shared → Prop} {s' : Shared} (h : R (.ok (.ret (.ref x))) s') : InitBack x R (.ok (.ret .none)) s' := ⟨rfl, h⟩
theorem cells_nil {cm : Str → Option Value} {cs : List (Str × Addr)} {cells : List (Addr × Obj)} (x : CellsAre cm cs cells) (e : cs = []) : cells = [] := by
  subst e
  cases x
  rfl
theorem frame_leave {w : World} {h₀ g₂ h₁ h' : Heap} {L L' : Addr} {m m' : Str → Option Value} {own news : List (Addr × Obj)} {R : Result → Shared → Prop} {v : Value} {s : Shared} {tk : Nat}
    (hR : ∀ h' tk v own, IsThing w own v → (∀ p ∈ own, ∀ q ∈ news, p.1 ≠ q.1) → Fr h₀ L h' m → News h₀ L h' (own ++ news) → R (.ok (.ret v)) { s with heap := h', toks := tk })
    (F' : Fr g₂ L' h' m') (N' : News g₂ L' h' own) (N : News h₀ L h₁ news) (hrest : ∀ p ∈ restOf [] news, g₂.get? p.1 = some p.2) (th : IsThing w own v) :
    LeaveK h₀ L m g₂ (fun r s' => (∀ p ∈ restOf [] news, s'.heap.get? p.1 = some p.2) → R r s') v { s with heap := h', toks := tk } := by
  have hmem : ∀ p ∈ news, p ∈ restOf [] news := fun p hp => restOf_mem.mpr ⟨hp, by simp⟩
  refine leaveK_ F' N' fun kF kN hr => hR _ _ _ own th (fun p hp q hq e => ?_) kF fun p hp => ?_
  · have h1 := (N' p hp).2.2
    have h2 := hrest q (hmem q hq)
    rw [e, h2] at h1
    cases h1
  · rcases List.mem_append.mp hp with hp | hp
    · exact kN p hp
    · exact ⟨hr p (hmem p hp), (N p hp).2⟩
end Mine
end
section
open PySem PySem.W PyProof.Rows PySem.Calls PySem.Spec PyProof.V
set_option maxHeartbeats 4000000
namespace Mine
section
open LCg
variable {prog : Program} {w : World} {A : Around} {s : Shared} {h₀ : Heap} {L : Addr} {m : Str → Option Value} {env : Env} {elt : Expr} {x : Str} {scope : Scope} {cl : List (Str × Addr)} {P : Nat → Value → Prop} {Fin : List Value → List (Addr × Obj) → Prop} {news : List (Addr × Obj)} {n : Nat} {S : List (Addr × Obj) → Prop}
/- a comprehension of any length, by what holds of its items and of the ledger -/
theorem compR_all (J : List Value → List (Addr × Obj) → Prop)
    (step : ∀ i, i < n → ∀ ys news, J ys news → ∀ v I oI C oC D m₂ h tk (E' : Value → Shared → Prop), P i v → NsObj oC m₂ → m₂ x = some v → Fr h₀ L h m → News h₀ L h ((I, oI) :: (C, oC) :: (D, lst ys) :: news) → Off3 I C D news → ((@Ne Nat I C) ∧ (@Ne Nat I D) ∧ (@Ne Nat C D)) →
      wpAny (model prog w) A (eval elt (compEnvC scope cl C env)) (CompEnd h₀ L m { s with heap := h, toks := tk } I oI C oC D (lst ys) S (fun y news' => J (ys ++ [y]) news')) E' { s with heap := h, toks := tk })
    (fin : ∀ ys news, ys.length = n → J ys news → Fin ys news) (h0 : J [] news) : CompRest prog w A h₀ L m env elt x scope cl s S P Fin n 0 [] news := by
  have go : ∀ k i ys news, i + k = n → ys.length = i → J ys news → CompRest prog w A h₀ L m env elt x scope cl s S P Fin k i ys news := by
    intro k
    induction k with
    | zero => intro i ys news hi hl hj; exact CompRest.zero (fin ys news (by omega) hj)
    | succ k ih =>
      intro i ys news hi hl hj
      refine CompRest.succ fun v I oI C oC D m₂ h tk E' hv hC hx F N off ne => ?_
      refine wpAny_mono (step i (by omega) ys news hj v I oI C oC D m₂ h tk E' hv hC hx F N off ne) (fun y s'' h'' => compEnd_mono h'' fun news' r => ?_) fun _ _ e => e
      exact ih _ _ _ (by omega) (by rw [List.length_append, List.length_singleton, hl]) r
  exact go n 0 [] news (by omega) rfl h0
theorem compEnd_own {I C D : Addr} {s₁ : Shared} {oI oC oD : Obj} {rest : Value → List (Addr × Obj) → Prop} {y : Value} {h' : Heap} {tk : Nat} {own : List (Addr × Obj)}
    (F : Fr h₀ L h' m) (N : News h₀ L h' (own ++ (I, oI) :: (C, oC) :: (D, oD) :: news)) (off : Off3 I C D news) (fresh : ∀ p ∈ own, ∀ q ∈ (I, oI) :: (C, oC) :: (D, oD) :: news, p.1 ≠ q.1) (hS : S (own ++ news)) (r : rest y (own ++ news)) :
    CompEnd h₀ L m s₁ I oI C oC D oD S rest y { s₁ with heap := h', toks := tk } :=
  CompEnd.intro F N (own ++ news) (fun p hp => by
    rcases List.mem_cons.mp hp with rfl | hp
    · exact List.mem_append_right _ (.head _)
    · rcases List.mem_cons.mp hp with rfl | hp
      · exact List.mem_append_right _ (.tail _ (.head _))
      · rcases List.mem_cons.mp hp with rfl | hp
        · exact List.mem_append_right _ (.tail _ (.tail _ (.head _)))
        · rcases List.mem_append.mp hp with hp | hp
          · exact List.mem_append_left _ hp
          · exact List.mem_append_right _ (.tail _ (.tail _ (.tail _ hp)))) (Off3.of fun p hp => by
    rcases List.mem_append.mp hp with hp | hp
    · exact ⟨fresh p hp _ (.head _), fresh p hp _ (.tail _ (.head _)), fresh p hp _ (.tail _ (.tail _ (.head _)))⟩
    · exact off.mem p hp) hS r
end
/- what holds while the things are made -/
structure MadeJ (w : World) (ax : Addr) (vs : List Value) (ys : List Value) (news : List (Addr × Obj)) : Prop where
  src : (ax, listOf vs.toArray 0) ∈ news
  all : ∀ y ∈ ys, IsThing w news y
theorem MadeJ.src' {w : World} {ax : Addr} {vs ys : List Value} {news : List (Addr × Obj)} (j : MadeJ w ax vs ys news) {h₀ : Heap} (own : List (Addr × Obj)) : LCg.SrcAt h₀ ax vs.toArray (own ++ news) := .inr ⟨_, List.mem_append_right _ j.src, rfl, _, rfl⟩
theorem MadeJ.more {w : World} {ax : Addr} {vs ys : List Value} {news own : List (Addr × Obj)} {v : Value} (j : MadeJ w ax vs ys news) (t : IsThing w own v) : MadeJ w ax vs (ys ++ [v]) (own ++ news) :=
  ⟨List.mem_append_right _ j.src, fun y hy => by
    rcases List.mem_append.mp hy with hy | hy
    · exact (j.all y hy).more fun p hp => List.mem_append_right _ hp
    · rw [List.mem_singleton.mp hy]; exact t.more fun p hp => List.mem_append_left _ hp⟩
theorem int_at {vs : List Value} {ns : List Int} (h : IntsAre vs ns) {i : Nat} {v : Value} (hi : i < vs.toArray.size) (e : vs.toArray[i]? = some v) : ∃ k t, v = .int k t := by
  have hl : i < ns.length := by rw [← h.length]; simpa using hi
  obtain ⟨t, hx⟩ := h.get i ns[i] (by simp [hl])
  have e' : vs[i]? = some v := by simpa using e
  rw [hx] at e'
  exact ⟨_, t, (Option.some.inj e').symm⟩
/- the names that a loop may turn -/
structure Jm (names : List Str) (m₀ m : Str → Option Value) : Prop where
  e : ∀ z, names.contains z = false → m z = m₀ z
theorem Jm.refl {names : List Str} {m₀ : Str → Option Value} : Jm names m₀ m₀ := ⟨fun _ _ => rfl⟩
theorem Jm.set {names : List Str} {m₀ m : Str → Option Value} {x : Str} {v : Option Value} (h : names.contains x = true) (j : Jm names m₀ m) : Jm names m₀ (fun z => if z = x then v else m z) := ⟨fun z hz => by
  by_cases q : z = x
  · subst q; rw [h] at hz; cases hz
  · rw [if_neg q]; exact j.e z hz⟩
theorem Jm.base {names : List Str} {m₀ : Str → Option Value} {u : Str → Option Value} : Jm names m₀ (fun z => if names.contains z = true then u z else m₀ z) := ⟨fun z hz => by
  rw [hz]; rfl⟩
theorem Jm.over {names names' : List Str} {m₀ m : Str → Option Value} {u : Str → Option Value} (h : ∀ z, names'.contains z = true → names.contains z = true) (j : Jm names m₀ m) : Jm names m₀ (fun z => if names'.contains z = true then u z else m z) := ⟨fun z hz => by
  by_cases q : names'.contains z = true
  · rw [h z q] at hz; cases hz
  · rw [if_neg q]; exact j.e z hz⟩
theorem Jm.form {names : List Str} {m₀ m : Str → Option Value} (j : Jm names m₀ m) : m = fun z => if names.contains z = true then m z else m₀ z := by
  funext z
  by_cases q : names.contains z = true
  · rw [if_pos q]
  · rw [if_neg q]; exact j.e z (by simpa using q)
section
variable {prog : Program} {w : World} {A : Around} {E : Value → Shared → Prop} {s s₀ : Shared} {env : Env} {elts : List Expr} {kk : Nat} {tp : Pos} {body : List Stmt} {Q : Flow → Shared → Prop} {h₀ : Heap} {L l : Addr} {ts : List Value} {k : Nat} {m₀ : Str → Option Value} {news all : List (Addr × Obj)} {names : List Str}
/- what stands behind each turn of a loop over a made list whose turns store a few names alone -/
def LoopJ (names : List Str) (h₀ : Heap) (L I l : Addr) (m₀ : Str → Option Value) (news : List (Addr × Obj)) (i : Nat) (s₀ s : Shared) : Prop :=
  ∃ h tk m oI, s = { s₀ with heap := h, toks := tk } ∧ Jm names m₀ m ∧ Fr h₀ L h m ∧ News h₀ L h ((I, oI) :: news) ∧ ItIs oI l i
theorem loopJ_ {I : Addr} {i : Nat} {h : Heap} {tk : Nat} {m : Str → Option Value} {oI : Obj} (F : Fr h₀ L h m) (N : News h₀ L h all) (hs : ∀ p ∈ (I, oI) :: news, p ∈ all) (it : ItIs oI l i) (j : Jm names m₀ m) : LoopJ names h₀ L I l m₀ news i s₀ { s₀ with heap := h, toks := tk } := ⟨h, tk, m, oI, rfl, j, F, nsub N hs, it⟩
theorem goPost_mono {P P' : Shared → Prop} {f : Flow} (k : ∀ s, P s → P' s) (h : GoPost Q P f s) : GoPost Q P' f s := by
  cases f with
  | next => exact k _ h
  | cont => exact k _ h
  | brk => exact h
  | ret v => exact h
theorem go_list (names : List Str) (hA : A.handled = none) (hL : env.locals = L) (F : Fr h₀ L s.heap m₀) (N : News h₀ L s.heap news) (hl : (l, listOf ts.toArray k) ∈ news)
    (step : ∀ i v, ts[i]? = some v → ∀ I oI h tk (u : Str → Option Value), ItIs oI l (i + 1) → Fr h₀ L h (fun z => if names.contains z = true then u z else m₀ z) → News h₀ L h ((I, oI) :: news) → (∀ p ∈ news, p.1 < I) →
      wpAny (model prog w) A (assign (.Tuple elts kk tp) env v) (fun _ s₃ => wpAny (model prog w) A (execs body env) (GoPost Q (LoopJ names h₀ L I l m₀ news (i + 1) s)) E s₃) E { s with heap := h, toks := tk })
    (fin : ∀ h tk (u : Str → Option Value), Fr h₀ L h (fun z => if names.contains z = true then u z else m₀ z) → News h₀ L h news → Q .next { s with heap := h, toks := tk }) :
    wpAny (model prog w) A (pyIter (.ref l)) (fun it s₂ => IterGo prog w A (.Tuple elts kk tp) body env Q E (ts.length + 1) it s₂) E s := by
  subst hL
  refine wpAny_pyIter_list (News.isList N hl) ⟨_, rfl, ?_⟩
  have hlt : ∀ p ∈ news, p.1 < s.heap.objs.size := fun p hp => Heap.lt_size (N p hp).1
  have J0 : LoopJ names h₀ env.locals s.heap.objs.size l m₀ news 0 s { s with heap := s.heap.push { cls := .type "list_iterator", data := .fields #[.ref l, .int 0 0] } } := ⟨_, _, m₀, _, rfl, Jm.refl, F.push _, News.push F N _ rfl, rfl, rfl⟩
  generalize ({ s with heap := s.heap.push { cls := .type "list_iterator", data := .fields #[.ref l, .int 0 0] } } : Shared) = s' at J0 ⊢
  generalize s.heap.objs.size = I at J0 hlt ⊢
  have go : ∀ n i s', ts.length < i + n → i ≤ ts.length → LoopJ names h₀ env.locals I l m₀ news i s s' → TurnsGo prog w A (.Tuple elts kk tp) body env Q E I n s' := by
    intro n
    induction n with
    | zero => exact fun i s' h1 h2 _ => absurd h1 (Nat.not_lt.mpr h2)
    | succ n ih =>
      rintro i s' h1 h2 ⟨h, tk, m, oI, rfl, j, F', N', it⟩
      rw [j.form] at F'
      refine next_list hA F' N' it hl (fun p hp => Nat.ne_of_lt (hlt p hp)) (fun v hv h' oI' F'' N'' it' => ?_) fun h' F'' N'' => fin h' tk m F'' N''
      refine own_list (N'' _ (.head _)).1 it' (wpAny_mono (step i v hv I oI' h' tk m it' F'' N'' hlt) (fun _ s₃ h₃ => wpAny_mono h₃ (fun f s₄ h₄ => goPost_mono (fun s' x => ih (i + 1) s' ?_ (List.getElem?_eq_some_iff.mp hv).1 x) h₄) fun _ _ e => e) fun _ _ e => e)
      rw [Nat.add_right_comm]; exact h1
  exact go _ 0 _ (by rw [Nat.zero_add]; exact Nat.lt_succ_self _) (Nat.zero_le _) J0
end
section
open LCg
variable {prog : Program} {w : World} {A : Around} {E : Value → Shared → Prop} {s : Shared} {h₀ : Heap} {L : Addr} {m : Str → Option Value} {env : Env}
theorem assign5 {a b c d e : Str} {pa pb pc pd pe tp : Pos} {kk : Nat} {T : Addr} {v1 v2 v3 v4 v5 : Value} {m : Str → Option Value} {Q : Unit → Shared → Prop} (hh : A.handled = none) (ht : s.heap.IsTuple T #[v1, v2, v3, v4, v5])
    (ha : env.kindOf a = some .local) (hb : env.kindOf b = some .local) (hc : env.kindOf c = some .local) (hd : env.kindOf d = some .local) (he : env.kindOf e = some .local) (hp : (env.scope.kind == .class || (env.scope.kind == .module && env.locals != env.globals)) = false) (hn : s.heap.Ns env.locals m)
    (h : ∀ (h' : Heap) (tk : Nat), h'.Ns env.locals (fun z => if z = e then some v5 else if z = d then some v4 else if z = c then some v3 else if z = b then some v2 else if z = a then some v1 else m z) → (∀ c o, c ≠ env.locals → s.heap.get? c = some o → h'.get? c = some o) → Q () { s with heap := h', toks := tk }) :
    wpAny (model prog w) A (assign (.Tuple [.Name a pa, .Name b pb, .Name c pc, .Name d pd, .Name e pe] kk tp) env (.ref T)) Q E s := by
  refine wpAny_assign_Tuple hh ht rfl rfl fun h₁ he₁ => ?_
  have hL : env.locals ≠ s.heap.objs.size := Nat.ne_of_lt hn.lt
  have hn₁ : h₁.Ns env.locals m := hn.at' fun o e => he₁ _ o hL e
  have up₁ : ∀ c o, s.heap.get? c = some o → h₁.get? c = some o := fun c o e => he₁ c o (Nat.ne_of_lt (Heap.lt_size e)) e
  show wpAny _ _ (assignInOrder [assign (.Name a pa) env, assign (.Name b pb) env, assign (.Name c pc) env, assign (.Name d pd) env, assign (.Name e pe) env] [v1, v2, v3, v4, v5]) _ _ _
  refine assignInOrder_cons (wpAny_assign_Name (wpAny_storeName_local ha hn₁ (fun h₂ hn₂ hs₂ => ?_) hp))
  refine assignInOrder_cons (wpAny_assign_Name (wpAny_storeName_local hb hn₂ (fun h₃ hn₃ hs₃ => ?_) hp))
  refine assignInOrder_cons (wpAny_assign_Name (wpAny_storeName_local hc hn₃ (fun h₄ hn₄ hs₄ => ?_) hp))
  refine assignInOrder_cons (wpAny_assign_Name (wpAny_storeName_local hd hn₄ (fun h₅ hn₅ hs₅ => ?_) hp))
  refine assignInOrder_cons (wpAny_assign_Name (wpAny_storeName_local he hn₅ (fun h₆ hn₆ hs₆ => ?_) hp))
  refine assignInOrder_nil ?_
  exact h h₆ _ hn₆ fun c o hc e => hs₆.extBut c o hc (hs₅.extBut c o hc (hs₄.extBut c o hc (hs₃.extBut c o hc (hs₂.extBut c o hc (up₁ c o e)))))
/- the source of a comprehension over a list of fives, none of which its test takes -/
def CnSrc (prog : Program) (w : World) (A : Around) (h₀ : Heap) (L : Addr) (m : Str → Option Value) (env : Env) (ct : PySem.Expr) (a b c d e : Str) (scope : Scope) (cl : List (Str × Addr)) (Q : Value → Shared → Prop) (xv : Value) (s₁ : Shared) : Prop :=
  ∃ (l : Addr) (ts : List Value) (k : Nat) (news : List (Addr × Obj)), xv = .ref l ∧ A.handled = none ∧ Fr h₀ L s₁.heap m ∧ News h₀ L s₁.heap news ∧ (l, listOf ts.toArray k) ∈ news ∧ ts.length ≤ sizeLine ∧
    (∀ v, v ∈ ts → ∃ T v1 v2 v3 v4 v5, v = .ref T ∧ (T, tupObj [v1, v2, v3, v4, v5]) ∈ news ∧ ∀ I oI C oC D m₂ h tk (E' : Value → Shared → Prop), NsObj oC m₂ → m₂ a = some v1 → m₂ b = some v2 → m₂ c = some v3 → m₂ d = some v4 → m₂ e = some v5 →
      Fr h₀ L h m → News h₀ L h ((I, oI) :: (C, oC) :: (D, lst []) :: news) → Off3 I C D news → ((@Ne Nat I C) ∧ (@Ne Nat I D) ∧ (@Ne Nat C D)) →
      wpAny (model prog w) A (isTrue ct (compEnvC scope cl C env) (eval ct (compEnvC scope cl C env))) (fun ok s' => ok = false ∧ ∃ h' tk', s' = { s₁ with heap := h', toks := tk' } ∧ Fr h₀ L h' m ∧ News h₀ L h' ((I, oI) :: (C, oC) :: (D, lst []) :: news)) E' { s₁ with heap := h, toks := tk }) ∧
    (∀ D h tk, Fr h₀ L h m → News h₀ L h ((D, lst []) :: news) → (∀ p ∈ news, p.1 ≠ D) → Q (.ref D) { s₁ with heap := h, toks := tk })
inductive CnJ (h₀ : Heap) (L : Addr) (m : Str → Option Value) (l : Addr) (ts : List Value) (news : List (Addr × Obj)) (s : Shared) (I C D : Addr) : Nat → Shared → Prop
  | mk {i n oI oC m₂ h tk} : ts.length < i + n → i ≤ ts.length → ItIs oI l i → NsObj oC m₂ → Fr h₀ L h m → News h₀ L h ((I, oI) :: (C, oC) :: (D, lst []) :: news) → CnJ h₀ L m l ts news s I C D n { s with heap := h, toks := tk }
theorem cn_loop {elt iter ct : PySem.Expr} {a b c d e : Str} {pa pb pc pd pe tp : Pos} {kk n k : Nat} {scope : Scope} {cl : List (Str × Addr)} {pos : Pos} {R : Result → Shared → Prop} {l I C D : Addr} {ts : List Value} {news : List (Addr × Obj)} {s' : Shared}
    (hh : A.handled = none) (hkind : scope.kind = .function) (hxa : scope.names.lookup a = some .local) (hxb : scope.names.lookup b = some .local) (hxc : scope.names.lookup c = some .local) (hxd : scope.names.lookup d = some .local) (hxe : scope.names.lookup e = some .local)
    (hne : ([a, b, c, d, e]).Nodup) (hl : (l, listOf ts.toArray k) ∈ news)
    (turn : ∀ v, v ∈ ts → ∃ T v1 v2 v3 v4 v5, v = .ref T ∧ (T, tupObj [v1, v2, v3, v4, v5]) ∈ news ∧ ∀ I oI C oC D m₂ h tk (E' : Value → Shared → Prop), NsObj oC m₂ → m₂ a = some v1 → m₂ b = some v2 → m₂ c = some v3 → m₂ d = some v4 → m₂ e = some v5 →
      Fr h₀ L h m → News h₀ L h ((I, oI) :: (C, oC) :: (D, lst []) :: news) → Off3 I C D news → ((@Ne Nat I C) ∧ (@Ne Nat I D) ∧ (@Ne Nat C D)) →
      wpAny (model prog w) A (isTrue ct (compEnvC scope cl C env) (eval ct (compEnvC scope cl C env))) (fun ok s' => ok = false ∧ ∃ h' tk', s' = { s with heap := h', toks := tk' } ∧ Fr h₀ L h' m ∧ News h₀ L h' ((I, oI) :: (C, oC) :: (D, lst []) :: news)) E' { s with heap := h, toks := tk })
    (off : Off3 I C D news) (ne : I ≠ C ∧ I ≠ D ∧ C ≠ D)
    (hR : ∀ h tk oC m₂, NsObj oC m₂ → Fr h₀ L h m → News h₀ L h ((C, oC) :: (D, lst []) :: news) → R (.ok .next) { s with heap := h, toks := tk })
    (J : CnJ h₀ L m l ts news s I C D n s') :
    codeAny (model prog w) A (.compLoop (.ListComp elt [⟨.Tuple [.Name a pa, .Name b pb, .Name c pc, .Name d pd, .Name e pe] kk tp, iter, [ct], 0⟩] scope pos) 0 (.ref I) (.ref D) (compEnvC scope cl C env)) R s' := by
  refine kct_loop (CnJ h₀ L m l ts news s I C D) (fun n s' J => ?_) _ J
  cases J with
  | mk h1 h2 it hC F N =>
  rename_i i oI oC m₂ h tk
  refine next_list hh F N it (.tail _ (.tail _ hl)) (off_I off ne) (fun v hv h' oI' F' N' it' => ?_) fun h' F' N' => hR h' tk oC m₂ hC F' N'
  refine own_list (N' _ (.head _)).1 it' ?_
  obtain ⟨T, v1, v2, v3, v4, v5, rfl, hT, tn⟩ := turn v (List.mem_of_getElem? hv)
  have hCx := N' _ (.tail _ (.head _))
  refine assign5 (env := compEnvC scope cl C env) hh ⟨_, (N' _ (.tail _ (.tail _ (.tail _ hT)))).1, rfl, _, rfl⟩ (lookup_relabel_local hxa) (lookup_relabel_local hxb) (lookup_relabel_local hxc) (lookup_relabel_local hxd) (lookup_relabel_local hxe) (comp_kind hkind) (hC.ns hCx.1) fun h₃ tk₃ hn₃ hs₃ => ?_
  obtain ⟨oC', heC, hC'⟩ := ns_obj hn₃
  simp only [List.nodup_cons, List.mem_cons, List.not_mem_nil, or_false, not_or] at hne
  obtain ⟨⟨n1, n2, n3, n4⟩, ⟨n5, n6, n7⟩, ⟨n8, n9⟩, n10, _⟩ := hne
  refine wpAny_mono (tn I oI' C oC' D _ h₃ _ _ hC' ((if_neg n4).trans ((if_neg n3).trans ((if_neg n2).trans ((if_neg n1).trans (if_pos rfl))))) ((if_neg n7).trans ((if_neg n6).trans ((if_neg n5).trans (if_pos rfl)))) ((if_neg n9).trans ((if_neg n8).trans (if_pos rfl))) ((if_neg n10).trans (if_pos rfl)) (if_pos rfl)
    (fr_one F' (fun b o q e => hs₃ b o q e) hCx.2) (news_IC N' (hs₃ _ _ ne.1 (N' _ (.head _)).1) heC (fun b o _ q e => hs₃ b o q e) (off_IC off ne)) off ne) (fun ok s₄ h₄ => ?_) fun _ _ e => e
  obtain ⟨rfl, h₄, tk₄, rfl, F₄, N₄⟩ := h₄
  rw [if_neg (by decide)]
  cases n with
  | zero => exact absurd h1 (Nat.not_lt.mpr h2)
  | succ n => exact ⟨n, Nat.lt_succ_self n, .mk (Nat.lt_of_lt_of_eq h1 (Nat.succ_add i n).symm) (List.getElem?_eq_some_iff.mp hv).1 it' hC' F₄ N₄⟩
theorem cn_ListComp {elt iter ct : PySem.Expr} {a b c d e : Str} {pa pb pc pd pe tp : Pos} {kk : Nat} {scope : Scope} {cl : List (Str × Addr)} {pos : Pos} {Q : Value → Shared → Prop} (_ : Fr h₀ L s.heap m)
    (hclos : closureFor scope env = pure cl) (hcell : ∀ y ∈ scope.names, y.2 ≠ .cell) (hkind : scope.kind = .function)
    (hnames : ∀ y ∈ scope.names, y.2 = .local → scope.names.lookup y.1 = some .local) (hxa : scope.names.lookup a = some .local) (hxb : scope.names.lookup b = some .local) (hxc : scope.names.lookup c = some .local) (hxd : scope.names.lookup d = some .local) (hxe : scope.names.lookup e = some .local)
    (hne : ([a, b, c, d, e]).Nodup)
    (h : wpAny (model prog w) A (eval iter env) (CnSrc prog w A h₀ L m env ct a b c d e scope cl Q) E s)
    (hs : ∀ x, foldedSetIterable iter env x = pure x := by intro _; rfl) :
    wpAny (model prog w) A (eval (.ListComp elt [⟨.Tuple [.Name a pa, .Name b pb, .Name c pc, .Name d pd, .Name e pe] kk tp, iter, [ct], 0⟩] scope pos) env) Q E s := by
  rw [eval_ListComp]
  refine wpAny_comprehension_free (use := none) rfl hs hclos hkind hnames (wpAny_mono h (fun xv s₁ h₁ => ?_) fun _ _ e => e)
  obtain ⟨l, ts, k, news, rfl, hh, F, N, hl, hsz, turn, fin⟩ := h₁
  refine wpAny_pyIter_list (News.isList N hl) ?_
  have hlt : ∀ p ∈ news, p.1 < s₁.heap.objs.size := fun p hp => Heap.lt_size (N p hp).1
  refine comp_open hcell hkind (F.push _) (News.push F N _ rfl) hlt (fun D C oC m₂ h' tk' hC F₂ N₂ off ne _ => ?_) (by size_fits) rfl
  generalize s₁.heap.objs.size = I at hlt N₂ off ne ⊢
  have loop := cn_loop (elt := elt) (iter := iter) (pa := pa) (pb := pb) (pc := pc) (pd := pd) (pe := pe) (tp := tp) (kk := kk) (pos := pos) (R := compPost (model prog w) A E none Q (.ref D) C) hh hkind hxa hxb hxc hxd hxe hne hl turn off ne
    (fun h tk oC m₂ hC F N => post_none hC F N (fun p hp => (off_IC off ne p hp).2) fun h' F' N' => fin D h' tk F' N' fun p hp => (off.mem p hp).2.2)
    (.mk (i := 0) (n := ts.length + 1) (tk := tk') (by rw [Nat.zero_add]; exact Nat.lt_succ_self _) (Nat.zero_le _) ⟨rfl, rfl⟩ hC F₂ N₂)
  exact codeAny_compStart_list loop ((Walks.list hh I l (Nat.ne_of_lt (hlt _ hl)) ts.toArray).self 0 _ _ _ ⟨⟨_, (N₂ _ (.head _)).1, rfl, rfl⟩, News.isList (news_tl (news_tl (news_tl N₂))) hl⟩ loop)
end
end Mine
end
section
open PySem PySem.W PyProof.Rows PySem.Calls PySem.Spec PyProof.V
set_option maxHeartbeats 4000000
namespace Mine
section
open PySem.AutoSeq1 (wpAny_loadPart')
variable {w : World} {A : Around} {E : Value → Shared → Prop} {s : Shared} {Q : Value → Shared → Prop} {h₀ : Heap} {L o1 o2 : Addr} {news : List (Addr × Obj)}
theorem ne4_same {a1 a2 a3 a4 b1 b2 b3 b4 : Value} (N : News h₀ L s.heap news) (m1 : (o1, tupObj [a1, a2, a3, a4]) ∈ news) (m2 : (o2, tupObj [b1, b2, b3, b4]) ∈ news) (hu : A.units < cLine)
    (e1 : EqP w A.in1 s a1 b1) (e2 : EqP w A.in1 s a2 b2) (e3 : EqP w A.in1 s a3 b3) (e4 : EqP w A.in1 s a4 b4) (h : Q (.bool false) s) :
    wpAny (model PG w) A (compareOp .NotEq (.ref o1) (.ref o2)) Q E s := by
  have ho := (N _ m1).1
  have ho2 := (N _ m2).1
  have T1 : s.TypeIs (.ref o1) "tuple" := ⟨_, ho, rfl⟩
  have T2 : s.TypeIs (.ref o2) "tuple" := ⟨_, ho2, rfl⟩
  refine wpAny_richCompare_same_room (op := .NotEq) T1 T2 F.slot_tuple_ne (wpAny_call_entry F.slot_tuple_ne T1 F.entry_tuple_ne ?_ (F.args_tuple_ne_2 _ _)) hu
  obtain ⟨hp, g, d, tk, os⟩ := s
  dsimp only at ho ho2
  have f2 := AutoSeq1.sub_tuple_tuple
  have hl := ho
  have hb := ho2
  wp_walk using wpAny_loadPart' hl, wpAny_loadPart' hb, wpAny_forIn_list _ (fun rest b s' => b = (none, ()) ∧ s' = ⟨hp, g, d, tk, os⟩ ∧ ∀ p ∈ rest, EqP w A.in1 ⟨hp, g, d, tk, os⟩ p.1 p.2) _
  case turn =>
    rintro ⟨y, x⟩ rest b s' ⟨rfl, rfl, hr⟩
    refine wpAny_bind (hr _ (.head _) _ _ ?_)
    wp_walk
    exact ⟨rfl, rfl, fun p hp => hr p (.tail _ hp)⟩
  case fin =>
    rintro b s' ⟨rfl, rfl, _⟩
    wp_walk
    exact ⟨_, rfl, (fun x => nomatch x), h⟩
  case h =>
    refine ⟨rfl, rfl, ?_⟩
    intro p hp
    have hp' : p ∈ [(a1, b1), (a2, b2), (a3, b3), (a4, b4)] := hp
    rcases List.mem_cons.mp hp' with rfl | hp'
    · exact e1
    · rcases List.mem_cons.mp hp' with rfl | hp'
      · exact e2
      · rcases List.mem_cons.mp hp' with rfl | hp'
        · exact e3
        · rw [List.mem_singleton.mp hp']; exact e4
theorem ne3_same {a b c : Value} {x y z : PyData} (N : News h₀ L s.heap news) (m1 : (o1, tupObj [a, b, c]) ∈ news) (m2 : (o2, tupObj [a, b, c]) ∈ news) (q1 : Atom a x) (q2 : Atom b y) (q3 : Atom c z) (hu : A.units + 64 < cLine) (h : Q (.bool false) s) :
    wpAny (model PG w) A (compareOp .NotEq (.ref o1) (.ref o2)) Q E s :=
  ne_t (tupReads N m1 (tupIs3 q1 q2 q3)) (tupReads N m2 (tupIs3 q1 q2 q3)) (shaped_tuple (tupIs3 q1 q2 q3).a.flat) (shaped_tuple (tupIs3 q1 q2 q3).a.flat) hu (eqv_tuple (eqvAll_t q1.eqv (eqvAll_t q2.eqv (eqvAll_t q3.eqv eqvAll_nil)))) h
theorem eq3_b {a b c a' b' c' : Value} {x y z x' y' z' : PyData} (N : News h₀ L s.heap news) (m1 : (o1, tupObj [a, b, c]) ∈ news) (m2 : (o2, tupObj [a', b', c']) ∈ news) (q1 : Atom a x) (q2 : Atom b y) (q3 : Atom c z) (r1 : Atom a' x') (r2 : Atom b' y') (r3 : Atom c' z') (hu : A.units + 64 < cLine)
    (h : ∀ r, r = (PyData.eqv x x' && PyData.eqv y y' && PyData.eqv z z') → Q (.bool r) s) :
    wpAny (model PG w) A (compareOp .Eq (.ref o1) (.ref o2)) Q E s :=
  eq_is _ (tupReads N m1 (tupIs3 q1 q2 q3)) (tupReads N m2 (tupIs3 r1 r2 r3)) (shaped_tuple (tupIs3 q1 q2 q3).a.flat) (shaped_tuple (tupIs3 r1 r2 r3).a.flat) hu rfl (h _ (by simp only [PyData.eqv, PyData.eqvAll, Bool.and_true, Bool.and_assoc]))
end
theorem made_size {vs : List Value} {ns ms : List Int} (h : IntsAre vs (List.take 4 ns ++ ms)) (hm : ms.length ≤ 64 := by decide) : vs.toArray.size ≤ sizeLine := by
  have e : vs.length = (List.take 4 ns ++ ms).length := h.length
  rw [List.size_toArray, e, List.length_append, List.length_take]
  exact Nat.le_trans (Nat.add_le_add (Nat.min_le_left _ _) hm) (Nat.le_of_ble_eq_true rfl)
theorem eqp_same {w : World} {A : Around} {s : Shared} {a : Value} : EqP w A s a a := fun E Q h => SeqAt.EqAt.same _ PG w E Q h
end Mine
end
section
open PySem PySem.W PyProof.Rows PySem.Calls PySem.Spec PyProof.V
set_option maxHeartbeats 4000000
namespace Mine
theorem contains_sub {names names' : List Str} (h : (names'.all fun z => names.contains z) = true) : ∀ z, names'.contains z = true → names.contains z = true := fun z hz =>
  List.all_eq_true.mp h z (List.contains_iff_mem.mp hz)
theorem BareIs.xatom {x y : Str} {t : Tok} (h : BareIs x y) : Atom (.str x t) (.str x) := by
  rcases h with ⟨rfl, rfl⟩ | ⟨rfl, rfl⟩ | ⟨rfl, rfl⟩ | ⟨rfl, rfl⟩ | ⟨rfl, rfl⟩ | ⟨rfl, rfl⟩ <;> exact .inr (.inr ⟨_, _, rfl, rfl, by decide +kernel, by decide +kernel⟩)
theorem TxIs.atom {tx : Value} {dt : PyData} (h : TxIs tx dt) : ∃ d, Atom tx d := by
  rcases h with ⟨rfl, _⟩ | ⟨x, t, y, rfl, _, b⟩
  · exact ⟨_, .inl ⟨rfl, rfl⟩⟩
  · exact ⟨_, b.xatom⟩
end Mine
end
section
open PySem PySem.W PyProof.Rows PySem.Calls PySem.Spec PyProof.V
set_option maxHeartbeats 4000000
namespace Mine
section
variable {prog : Program} {w : World} {A : Around} {E : Value → Shared → Prop} {s : Shared} {h₀ : Heap} {L : Addr} {m : Str → Option Value} {news : List (Addr × Obj)}
theorem slPost_n {hp : Heap} {gs} {dr} {tk} {os} {Q : Value → Shared → Prop} {l u st : Value} (F : Fr h₀ L hp m) (N : News h₀ L hp news) (k : ∀ S h', Fr h₀ L h' m → News h₀ L h' ((S, slObj l u st) :: news) → Q (.ref S) ⟨h', gs, dr, tk, os⟩) : SlPost Q l u st ⟨hp, gs, dr, tk, os⟩ := slPost_ F N fun S h' F' N' _ => k S h' F' N'
/- a tuple's slice; the slice's own object is let go -/
theorem tup_sliceD {hp : Heap} {gs} {dr} {tk} {os} {value slice : Expr} {t sl : Addr} {l zs : List Value} {vl vu vs : Value} {lo hi st : Option Int} {Q : Value → Shared → Prop} {ops : List Value} (F : Fr h₀ L hp m) (N : News h₀ L hp ((sl, slObj vl vu vs) :: news)) (ht : (t, tupObj l) ∈ news) (pl : IsPart vl lo) (pu : IsPart vu hi) (ps : IsPart vs st) (h0 : (st.getD 1 == 0) = false)
    (hno : ((tupAdj l.length lo hi st).1 == 0 && st.getD 1 == 1 && tupCount l.length lo hi st == l.length) = false) (e : Pick l lo hi st zs) (hz : zs.length ≤ sizeLine)
    (h : ∀ D h', Fr h₀ L h' m → News h₀ L h' ((D, tupObj zs) :: news) → Q (.ref D) ⟨h', gs, dr, tk, os⟩)
    (ho : subscripted slice false (.ref t) (.ref sl) = operate ops (getItem (.ref t) (.ref sl))) :
    wpAny (model prog w) A (subscriptTail value slice (.ref t) (.ref sl)) Q E ⟨hp, gs, dr, tk, os⟩ :=
  tup_slice F N (.tail _ ht) (.head _) pl pu ps h0 hno e hz (fun D h' F' N' _ => h D h' F' (nsub N' fun p hp => by
    rcases List.mem_cons.mp hp with rfl | hp
    · exact .head _
    · exact .tail _ (.tail _ hp))) ho
/- a tuple's slice, the slice's own object let go, with what lies below the new one -/
theorem tup_sliceE {hp : Heap} {gs} {dr} {tk} {os} {value slice : Expr} {t sl : Addr} {l zs : List Value} {vl vu vs : Value} {lo hi st : Option Int} {Q : Value → Shared → Prop} {ops : List Value} (F : Fr h₀ L hp m) (N : News h₀ L hp ((sl, slObj vl vu vs) :: news)) (ht : (t, tupObj l) ∈ news) (pl : IsPart vl lo) (pu : IsPart vu hi) (ps : IsPart vs st) (h0 : (st.getD 1 == 0) = false)
    (hno : ((tupAdj l.length lo hi st).1 == 0 && st.getD 1 == 1 && tupCount l.length lo hi st == l.length) = false) (e : Pick l lo hi st zs) (hz : zs.length ≤ sizeLine)
    (h : ∀ D h', Fr h₀ L h' m → News h₀ L h' ((D, tupObj zs) :: news) → (∀ p ∈ news, p.1 < D) → Q (.ref D) ⟨h', gs, dr, tk, os⟩)
    (ho : subscripted slice false (.ref t) (.ref sl) = operate ops (getItem (.ref t) (.ref sl))) :
    wpAny (model prog w) A (subscriptTail value slice (.ref t) (.ref sl)) Q E ⟨hp, gs, dr, tk, os⟩ :=
  tup_slice F N (.tail _ ht) (.head _) pl pu ps h0 hno e hz (fun D h' F' N' hl => h D h' F' (nsub N' fun p hp => by
    rcases List.mem_cons.mp hp with rfl | hp
    · exact .head _
    · exact .tail _ (.tail _ hp)) fun p hp => hl p (.tail _ hp)) ho
/- two tuples glued, whatever they hold -/
theorem add_any {hp : Heap} {gs} {dr} {tk} {os} {a b : Addr} {l1 l2 : List Value} {Q : Value → Shared → Prop} (F : Fr h₀ L hp m) (N : News h₀ L hp news) (m1 : (a, tupObj l1) ∈ news) (m2 : (b, tupObj l2) ∈ news) (hz : l1.length + l2.length ≤ sizeLine)
    (h : ∀ D h', Fr h₀ L h' m → News h₀ L h' ((D, tupObj (l1 ++ l2)) :: news) → (∀ c : Nat, c < a → c < b → c < D) → Q (.ref D) ⟨h', gs, dr, tk, os⟩) :
    wpAny (model prog w) A (binaryOp .Add (.ref a) (.ref b)) Q E ⟨hp, gs, dr, tk, os⟩ := by
  refine add_tuples F N (News.isTup N m1) (News.isTup N m2) (fun q => ?_) (fun _ q => ?_) (fun _ _ h' F' N' => ?_) hz
  · subst q
    exact h b hp F (fun p hp => by
      rcases List.mem_cons.mp hp with rfl | hp
      · exact N _ m2
      · exact N p hp) fun c _ hc => hc
  · subst q
    exact h a hp F (fun p hp => by
      rcases List.mem_cons.mp hp with rfl | hp
      · rw [List.append_nil]; exact N _ m1
      · exact N p hp) fun c hc _ => hc
  · exact h _ h' F' N' fun c hc _ => Nat.lt_trans hc (Heap.lt_size (N _ m1).1)
end
structure Lt4 (i : Nat) : Prop where
  lt : i < 4
theorem pick_pre {a b c d : Value} : ∀ {i : Nat}, Lt4 i → Pick [a, b, c, d] none (some (0 + (i : Int))) none (List.take i [a, b, c, d])
  | 0, _ => pick_3
  | 1, _ => pick_4
  | 2, _ => pick_5
  | 3, _ => pick_6
  | n + 4, h => absurd h.lt (by omega)
theorem no_pre : ∀ {i : Nat}, Lt4 i → ((tupAdj 4 none (some (0 + (i : Int))) none).1 == 0 && (none : Option Int).getD 1 == 1 && tupCount 4 none (some (0 + (i : Int))) none == 4) = false
  | 0, _ => by decide +kernel
  | 1, _ => by decide +kernel
  | 2, _ => by decide +kernel
  | 3, _ => by decide +kernel
  | n + 4, h => absurd h.lt (by omega)
theorem pick_suf {a b c d : Value} : ∀ {i : Nat}, Lt4 i → Pick [a, b, c, d] (some (0 + (i : Int) + 1)) none none (List.drop (i + 1) [a, b, c, d])
  | 0, _ => pick_7
  | 1, _ => pick_8
  | 2, _ => pick_9
  | 3, _ => pick_10
  | n + 4, h => absurd h.lt (by omega)
theorem no_suf : ∀ {i : Nat}, Lt4 i → ((tupAdj 4 (some (0 + (i : Int) + 1)) none none).1 == 0 && (none : Option Int).getD 1 == 1 && tupCount 4 (some (0 + (i : Int) + 1)) none none == 4) = false
  | 0, _ => by decide +kernel
  | 1, _ => by decide +kernel
  | 2, _ => by decide +kernel
  | 3, _ => by decide +kernel
  | n + 4, h => absurd h.lt (by omega)
theorem take_len {l : List Value} {i : Nat} (h : l.length ≤ sizeLine := by exact Nat.le_of_ble_eq_true rfl) : (List.take i l).length ≤ sizeLine := Nat.le_trans (by rw [List.length_take]; exact Nat.min_le_right _ _) h
theorem drop_len {l : List Value} {i : Nat} (h : l.length ≤ sizeLine := by exact Nat.le_of_ble_eq_true rfl) : (List.drop i l).length ≤ sizeLine := Nat.le_trans (by rw [List.length_drop]; exact Nat.sub_le _ _) h
theorem q_len {a b c d q : Value} {i : Nat} : (List.take i [a, b, c, d]).length + ([q] : List Value).length ≤ sizeLine := Nat.le_trans (Nat.add_le_add_right (by rw [List.length_take]; exact Nat.min_le_right _ _) _) (Nat.le_of_ble_eq_true rfl)
theorem qd_len {a b c d q : Value} {i : Nat} : (List.take i [a, b, c, d] ++ [q]).length + (List.drop (i + 1) [a, b, c, d]).length ≤ sizeLine := by
  rw [List.length_append]
  exact Nat.le_trans (Nat.add_le_add (Nat.add_le_add_right (by rw [List.length_take]; exact Nat.min_le_right _ _) _) (by rw [List.length_drop]; exact Nat.sub_le _ _)) (Nat.le_of_ble_eq_true rfl)
theorem OthIs.more {d4 : List PyData} {news news' : List (Addr × Obj)} {v : Value} (h : OthIs d4 news v) (k : ∀ p ∈ news, p ∈ news') : OthIs d4 news' v := by
  cases h with
  | lst m => exact .lst (k _ m)
  | tup m t e => exact .tup (k _ m) t e
theorem OthAll.more {d4 : List PyData} {news news' : List (Addr × Obj)} {vs : List Value} (h : OthAll d4 news vs) (k : ∀ p ∈ news, p ∈ news') : OthAll d4 news' vs := by
  induction h with
  | nil => exact .nil
  | cons a _ ih => exact .cons (a.more k) ih
theorem OthAll.snoc {d4 : List PyData} {news : List (Addr × Obj)} {v : Value} {vs : List Value} (o : OthIs d4 news v) (h : OthAll d4 news vs) : OthAll d4 news (vs ++ [v]) := by
  induction h with
  | nil => exact .cons o .nil
  | cons a _ ih => exact .cons a ih
/- what holds while the other rows are made -/
structure OthJ (base : List (Addr × Obj)) (d4 : List PyData) (ys : List Value) (news : List (Addr × Obj)) : Prop where
  k : ∀ p ∈ base, p ∈ news
  o : OthAll d4 news ys
/- the row with a mark in a place of its own -/
theorem oth_turn {base news : List (Addr × Obj)} {ys : List Value} {a b c d : Value} {x y z u : PyData} {D : Addr} {t : Tok} {i : Nat} (j : OthJ base [x, y, z, u] ys news) (l4 : Lt4 i) (ha : Atom a x) (hb : Atom b y) (hc : Atom c z) (hd : Atom d u)
    (q1 : PyData.eqv x (.str (Str.ofString "?")) = false) (q2 : PyData.eqv y (.str (Str.ofString "?")) = false) (q3 : PyData.eqv z (.str (Str.ofString "?")) = false) (q4 : PyData.eqv u (.str (Str.ofString "?")) = false) :
    OthJ base [x, y, z, u] (ys ++ [.ref D]) ((D, tupObj (List.take i [a, b, c, d] ++ [.str (Str.ofString "?") t] ++ List.drop (i + 1) [a, b, c, d])) :: news) :=
  ⟨fun p hp => .tail _ (j.k p hp), OthAll.snoc (by
    match i, l4 with
    | 0, _ => exact .tup (.head _) (tupIs4 atom_q hb hc hd) (eqvAll_f1 q1)
    | 1, _ => exact .tup (.head _) (tupIs4 ha atom_q hc hd) (eqvAll_f2 (eqvAll_f1 q2))
    | 2, _ => exact .tup (.head _) (tupIs4 ha hb atom_q hd) (eqvAll_f2 (eqvAll_f2 (eqvAll_f1 q3)))
    | 3, _ => exact .tup (.head _) (tupIs4 ha hb hc atom_q) (eqvAll_f2 (eqvAll_f2 (eqvAll_f2 (eqvAll_f1 q4))))
    | n + 4, h => exact absurd h.lt (by omega)) (j.o.more fun p hp => .tail _ hp)⟩
theorem oth_base {g h : Heap} {L : Addr} {p : Addr × Obj} {base news : List (Addr × Obj)} (N : News g L h (p :: news)) (k : ∀ q ∈ base, q ∈ news) : News g L h (p :: (base ++ news)) := fun q hq => by
  rcases List.mem_cons.mp hq with rfl | hq
  · exact N _ (.head _)
  · rcases List.mem_append.mp hq with hq | hq
    · exact N _ (.tail _ (k q hq))
    · exact N _ (.tail _ hq)
theorem list4 {ys : List Value} (h : ys.length = 4) : ∃ a b c d, ys = [a, b, c, d] := by
  obtain ⟨a, l1, e⟩ := List.exists_cons_of_length_eq_add_one h
  subst e
  obtain ⟨b, l2, e⟩ := List.exists_cons_of_length_eq_add_one (Nat.succ.inj h)
  subst e
  obtain ⟨c, l3, e⟩ := List.exists_cons_of_length_eq_add_one (Nat.succ.inj (Nat.succ.inj h))
  subst e
  obtain ⟨d, l4, e⟩ := List.exists_cons_of_length_eq_add_one (Nat.succ.inj (Nat.succ.inj (Nat.succ.inj h)))
  subst e
  cases l4 with
  | nil => exact ⟨a, b, c, d, rfl⟩
  | cons x y => exact nomatch (Nat.succ.inj (Nat.succ.inj (Nat.succ.inj (Nat.succ.inj h))))
end Mine
end
section
open PySem PySem.W PyProof.Rows PySem.Calls
set_option maxHeartbeats 200000000
namespace Mine

theorem safe_len {w : World} {A : Around} {h₀ : Heap} {L : Addr} {s : Shared} {m : Str → Option Value} {news : List (Addr × Obj)} {R : Result → Shared → Prop} {fr dx : Addr} {cod lines ded col ecol endl file num locs name : Value} {t0 : Tok}
    (C : Cx 10 w A h₀ L s m news) (hm : (fr, frObj dx cod lines ded col ecol endl file num locs name) ∈ news) (hm2 : (dx, dictOf [] 0) ∈ news)
    (hR : ∀ h' tk t', Fr h₀ L h' m → News h₀ L h' news → R (.ok (.ret (.int 4 t'))) { s with heap := h', toks := tk }) :
    codeAny (model PG w) A (.call (.ref 29) ⟨[.ref fr, .str (Str.ofString "frame") t0, .ref 139], []⟩) R s := by
  k_with_none
  w_top off
  (k_with "k_room" => ((try simp only [depth_under_make, depth_under_kw, depth_in1, depth_deeper, depth_caller]); (try dsimp only); first | decide | omega | (have := recLim; omega)))
  (k_with "k_units" => ((try simp only [Around.in1_units, Around.deeper_units, Around.mark_units]); (try dsimp only); (have := cRoomIs); omega))
  (k_with "k_handed" => exact Atom.handed (by assumption))
  (k_with "ke_read" => exact Atom.reads (by assumption))
  (k_with "call builtin:iter" => (k_here; (with_reducible show wpAny _ _ (call (Value.builtin "iter") [Value.ref _]) _ _ _); k_dflt (refine iter_list (by k_asm) (by k_asm) (by k_mem) ?_); intro D' h' F' N' l1; (try k_lt l1)))
  (k_with "getAttr ref" => (k_here; (with_reducible show wpAny _ _ (getAttr (Value.ref _) (PySem.Str.ofString "line") _) _ _ _); k_dflt (refine' get_propS ?k1 ?k2 ?k3 ?k4 ?k5 ?k6 ?k7 ?k8 ?k9 ?_; (case k1 => k_asm); (case k2 => k_asm); (case k3 => k_inst); (case k4 => k_is); (case k5 => k_is); (case k6 => k_is); (case k7 => k_is); (case k8 => k_is); (case k9 => k_is); k_whole); (refine line_c (Cx.mk ⟨_, _, _, _, _, _, _, rfl, rfl, rfl, rfl, (by k_asm), (by k_asm)⟩ (by k_room) (by k_units) (by k_asm) (by k_asm) (by k_asm)) (by assumption) (by k_mem) (by k_mem) ?_); intro h' tk' v' a' F' N'; (refine handed_on (Atom.handed a') ?_); (try dsimp only)))
  (k_with "exec Try" => (k_here; (with_reducible show wpAny _ _ (exec (Stmt.Try _ (_ :: _) _ [] _) _) _ _ _); refine wpAny_Try_except ?_))
  obtain ⟨⟨A₀, base, env, outer, mean, mg, mb, hh, hA, hf, hk, B, T⟩, room, unit, X, F, N⟩ := C
  obtain ⟨⟨kd, enm, ig, ic, mo⟩, eL, eg, ec, eqn, ef, ecd, efr, eb⟩ := env
  obtain ⟨ah, d, fs, gs, u⟩ := A
  dsimp only at hh hA hf hk room unit
  subst hh hA hf hk
  revert X; unfold KK PG; k_fill; intro X
  k_enter
  k_steps
  all_goals (first | exact hR _ _ _ (by k_asm) (nsub (by k_asm) fun p hp => by k_mem) | (trace_state; w_report))
end Mine
end
section
open PySem PySem.W PyProof.Rows PySem.Calls
set_option maxHeartbeats 200000000
namespace Mine

theorem len_num {prog : Program} {w : World} {A : Around} {E : Value → Shared → Prop} {s : Shared} {Q : Value → Shared → Prop} {v : Value} (n : NumIs v) (hA : A.handled = none) (hE : ∀ h' tk e, Heap.NewExc s.heap h' e "TypeError" → E (.ref e) { s with heap := h', toks := tk }) :
    wpAny (model prog w) A (call (.builtin "len") [v]) Q E s := by
  rcases n with rfl | ⟨i, t, rfl⟩
  · exact len_none hA hE
  · exact len_int hA hE
theorem safe_num {w : World} {A : Around} {h₀ : Heap} {L : Addr} {s : Shared} {m : Str → Option Value} {news : List (Addr × Obj)} {R : Result → Shared → Prop} {t0 : Tok} {v : Value}
    (C : CxL 10 w A h₀ L s m news) (n : NumIs v)
    (hR : ∀ h' tk t', Fr h₀ L h' m → News h₀ L h' news → R (.ok (.ret (.str (Str.ofString "<line _law_length() failed>") t'))) { s with heap := h', toks := tk }) :
    codeAny (model PG w) A (.call (.ref 29) ⟨[v, .str (Str.ofString "line") t0, .ref 139], []⟩) R s := by
  k_with_none
  w_top off
  (k_with "k_room" => ((try simp only [depth_under_make, depth_under_kw, depth_in1, depth_deeper, depth_caller]); (try dsimp only); first | decide | omega | (have := recLim; omega)))
  (k_with "k_units" => ((try simp only [Around.in1_units, Around.deeper_units, Around.mark_units]); (try dsimp only); (have := cRoomIs); omega))
  (k_with "size_fits" => decide +kernel)
  (k_with "k_handed" => first | exact NumIs.handed (by with_reducible assumption) | exact Atom.handed (by assumption))
  (k_with "ke_read" => exact Atom.reads (by assumption))
  (k_with "call builtin:iter" => (k_here; (with_reducible show wpAny _ _ (call (Value.builtin "iter") [Value.ref _]) _ _ _); k_dflt (refine iter_list (by k_asm) (by k_asm) (by k_mem) ?_); intro D' h' F' N' l1; (try k_lt l1)))
  (k_with "getAttr ref" => (k_here; (with_reducible show wpAny _ _ (getAttr (Value.ref _) (PySem.Str.ofString "line") _) _ _ _); k_dflt (refine' get_propS ?k1 ?k2 ?k3 ?k4 ?k5 ?k6 ?k7 ?k8 ?k9 ?_; (case k1 => k_asm); (case k2 => k_asm); (case k3 => k_inst); (case k4 => k_is); (case k5 => k_is); (case k6 => k_is); (case k7 => k_is); (case k8 => k_is); (case k9 => k_is); k_whole); (refine line_c (Cx.mk ⟨_, _, _, _, _, _, _, rfl, rfl, rfl, rfl, (by k_asm), (by k_asm)⟩ (by k_room) (by k_units) (by k_asm) (by k_asm) (by k_asm)) (by assumption) (by k_mem) (by k_mem) ?_); intro h' tk' v' a' F' N'; (refine handed_on (Atom.handed a') ?_); (try dsimp only)))
  (k_with "exec Try" => (k_here; (with_reducible show wpAny _ _ (exec (Stmt.Try _ (_ :: _) _ [] _) _) _ _ _); refine wpAny_Try_except ?_))
  (k_with "call builtin:len" => (k_here; (with_reducible show wpAny _ _ (call (Value.builtin "len") [_]) _ _ _); (with_unfolding_all refine' len_num ?k1 ?k0 ?_; (case k1 => with_reducible assumption); (case k0 => rfl); k_whole); intro h' tk' e' x'))
  (k_with "getAttr ref" => (k_here; (with_reducible show wpAny _ _ (getAttr (Value.ref 139) (PySem.Str.ofString "__name__") _) _ _ _); k_dflt (refine' fn_attr ?k1 ?k2 ?k3 ?k4 ?_; (case k1 => exact Frag.In.keeps (by k_asm) (Fr.keep (by k_asm)) _ _ (by k_is)); (case k2 => rfl); (case k3 => rfl); (case k4 => exact Nat.le_of_ble_eq_true rfl)); intro _ _))
  obtain ⟨⟨A₀, cn, cs, ca, ccd, mean, mg, mb, hh, hA, hk, B, T⟩, room, unit, X, F, N⟩ := C
  obtain ⟨ah, d, fs, gs, u⟩ := A
  dsimp only at hh hA room unit
  subst hh hA
  revert X; unfold KK PG; k_fill; intro X
  (refine' code_defS0 ?k1 ?k2 ?k3 ?k4 ?k5 ?kA ?k6 ?k7 ?k8 ?k9 ?kB ?_ ?cK ?c2 ?c3 ?c4 ?c5; (case kA => exact rfl); (case k2 => k_asm); (case k1 => k_asm); (case k3 => k_asm); (case k4 => k_asm); (case k5 => k_asm); (case k6 => k_is); (case k7 => k_is); (case k8 => k_room); (case k9 => first | exact binds_K (by k_in) rfl (by k_is) rfl rfl rfl | exact BindsTo.of_eq rfl); (case kB => exact locs rfl); (case cK => exact hk); (case c2 => exact rfl); (case c3 => exact rfl); (case c4 => exact rfl); (case c5 => decide); k_whole; intro g' L' h' FG' F' N' B' X' T' D'; (try dsimp only); (try k_lift B'); (try k_fold))
  k_steps
  all_goals (first | exact hR _ _ _ (by k_asm) (nsub (by k_asm) fun p hp => by k_mem) | (trace_state; w_report))
end Mine
end
section
open PySem PySem.W PyProof.Rows PySem.Calls
set_option maxHeartbeats 200000000
namespace Mine

theorem eq_tup {w : World} {A : Around} {h₀ : Heap} {L : Addr} {s : Shared} {m : Str → Option Value} {news : List (Addr × Obj)} {R : Result → Shared → Prop} {fr dx : Addr} {cod lines ded col ecol endl num locs : Value} {f nm : Str} {tf tn : Tok} {dn dt : PyData} {o : Addr} {l : List Value} {ds : List PyData} {b : Bool}
    (C : Cx 10 w A h₀ L s m news) (hm : (fr, frObj dx cod lines ded col ecol endl (.str f tf) num locs (.str nm tn)) ∈ news) (hm2 : (dx, dictOf [] 0) ∈ news)
    (hl : LineIs lines num dt) (hnum : Atom num dn) (hf : Atom (.str f tf) (.str f)) (hnm : Atom (.str nm tn) (.str nm)) (ho : (o, tupObj l) ∈ news) (hl' : TupIs l ds) (hb : PyData.eqvAll [.str f, dn, .str nm, dt] ds = b)
    (hR : ∀ h' tk, Fr h₀ L h' m → News h₀ L h' news → R (.ok (.ret (.bool b))) { s with heap := h', toks := tk }) :
    codeAny (model PG w) A (.call (.ref 57) ⟨[.ref fr, .ref o], []⟩) R s := by
  k_with_none
  w_top off
  (k_with "k_room" => ((try simp only [depth_under_make, depth_under_kw, depth_in1, depth_deeper, depth_caller]); (try dsimp only); first | decide | omega | (have := recLim; omega)))
  (k_with "k_units" => ((try simp only [Around.in1_units, Around.deeper_units, Around.mark_units]); (try dsimp only); (have := cRoomIs); omega))
  (k_with "k_handed" => exact Atom.handed (by assumption))
  (k_with "ke_read" => exact Atom.reads (by assumption))
  (k_with "tb_src" => first | exact FlatAll.nil | exact FlatAll.cons (by first | exact Atom.flat (by assumption) | exact ⟨rfl, rfl⟩) (by tb_src))
  (k_with "tb_look" => first | exact shaped_list (by tb_src) | exact shaped_tuple (by tb_src))
  (k_with "tb_iter" => with_reducible first | exact eqvAll_nil | exact Atom.eqv (by assumption) | exact eqv_list (by tb_iter) | exact eqv_tuple (by tb_iter) | exact eqvAll_t (by tb_iter) (by tb_iter))
  (k_with "tb_any" => with_reducible first | assumption | exact eqvAll_n1 | exact eqvAll_n2 | exact eqv_lt | exact eqv_tl | exact eqv_list (by tb_any) | exact eqv_tuple (by tb_any) | exact eqvAll_f1 (by tb_any) | exact eqvAll_f2 (by tb_any))
  (k_with "call builtin:iter" => (k_here; (with_reducible show wpAny _ _ (call (Value.builtin "iter") [Value.ref _]) _ _ _); k_dflt (refine iter_list (by k_asm) (by k_asm) (by k_mem) ?_); intro D' h' F' N' l1; (try k_lt l1)))
  (k_with "getAttr ref" => (k_here; (with_reducible show wpAny _ _ (getAttr (Value.ref _) (PySem.Str.ofString "line") _) _ _ _); k_dflt (refine' get_propS ?k1 ?k2 ?k3 ?k4 ?k5 ?k6 ?k7 ?k8 ?k9 ?_; (case k1 => k_asm); (case k2 => k_asm); (case k3 => k_inst); (case k4 => k_is); (case k5 => k_is); (case k6 => k_is); (case k7 => k_is); (case k8 => k_is); (case k9 => k_is); k_whole); (refine line_c (Cx.mk ⟨_, _, _, _, _, _, _, rfl, rfl, rfl, rfl, (by k_asm), (by k_asm)⟩ (by k_room) (by k_units) (by k_asm) (by k_asm) (by k_asm)) (by assumption) (by k_mem) (by k_mem) ?_); intro h' tk' v' a' F' N'; (refine handed_on (Atom.handed a') ?_); (try dsimp only)))
  (k_with "exec Try" => (k_here; (with_reducible show wpAny _ _ (exec (Stmt.Try _ (_ :: _) _ [] _) _) _ _ _); refine wpAny_Try_except ?_))
  (k_with "compareOp NotEq ref ref" => (k_here; (with_reducible show wpAny _ _ (compareOp CmpOp.NotEq (Value.ref _) (Value.ref _)) _ _ _); k_dflt (first | refine ne_t (by ke_read) (by ke_read) (by tb_look) (by tb_look) (by k_units) (by tb_iter) ?_ | refine ne_f (by ke_read) (by ke_read) (by tb_look) (by tb_look) (by k_units) (by tb_any) ?_)))
  (k_with "compareOp Eq ref ref" => (k_here; (with_reducible show wpAny _ _ (compareOp CmpOp.Eq (Value.ref _) (Value.ref _)) _ _ _); k_dflt (first | refine eq_is true (by ke_read) (by ke_read) (by tb_look) (by tb_look) (by k_units) (by tb_iter) ?_ | refine eq_is false (by ke_read) (by ke_read) (by tb_look) (by tb_look) (by k_units) (by tb_any) ?_)))
  (k_with "compareOp Eq ref ref" => (k_here; (with_reducible show wpAny _ _ (compareOp CmpOp.Eq (Value.ref _) (Value.ref _)) _ _ _); k_dflt (refine eq_is _ (by ke_read) (tupReads (by k_asm) (by k_mem) (by assumption)) (by tb_look) (shaped_tuple (TupIs.a (by assumption)).flat) (by k_units) (eqv_tuple (by assumption)) ?_)))
  obtain ⟨⟨A₀, base, env, outer, mean, mg, mb, hh, hA, hf, hk, B, T⟩, room, unit, X, F, N⟩ := C
  obtain ⟨⟨kd, enm, ig, ic, mo⟩, eL, eg, ec, eqn, ef, ecd, efr, eb⟩ := env
  obtain ⟨ah, d, fs, gs, u⟩ := A
  dsimp only at hh hA hf hk room unit
  subst hh hA hf hk
  revert X; unfold KK PG; k_fill; intro X
  k_enter
  k_steps
  all_goals (first | exact hR _ _ (by k_asm) (nsub (by k_asm) fun p hp => by k_mem) | (trace_state; w_report))
theorem eq_lst {w : World} {A : Around} {h₀ : Heap} {L : Addr} {s : Shared} {m : Str → Option Value} {news : List (Addr × Obj)} {R : Result → Shared → Prop} {fr dx : Addr} {cod lines ded col ecol endl num locs : Value} {f nm : Str} {tf tn : Tok} {dn dt : PyData} {o : Addr} {l : List Value} {n : Nat}
    (C : Cx 10 w A h₀ L s m news) (hm : (fr, frObj dx cod lines ded col ecol endl (.str f tf) num locs (.str nm tn)) ∈ news) (hm2 : (dx, dictOf [] 0) ∈ news)
    (hl : LineIs lines num dt) (hnum : Atom num dn) (hf : Atom (.str f tf) (.str f)) (hnm : Atom (.str nm tn) (.str nm)) (ho : (o, listOf l.toArray n) ∈ news)
    (hR : ∀ h' tk, Fr h₀ L h' m → News h₀ L h' news → R (.ok (.ret .notImplemented)) { s with heap := h', toks := tk }) :
    codeAny (model PG w) A (.call (.ref 57) ⟨[.ref fr, .ref o], []⟩) R s := by
  k_with_none
  w_top off
  (k_with "k_room" => ((try simp only [depth_under_make, depth_under_kw, depth_in1, depth_deeper, depth_caller]); (try dsimp only); first | decide | omega | (have := recLim; omega)))
  (k_with "k_units" => ((try simp only [Around.in1_units, Around.deeper_units, Around.mark_units]); (try dsimp only); (have := cRoomIs); omega))
  (k_with "k_handed" => exact Atom.handed (by assumption))
  (k_with "ke_read" => exact Atom.reads (by assumption))
  (k_with "tb_src" => first | exact FlatAll.nil | exact FlatAll.cons (by first | exact Atom.flat (by assumption) | exact ⟨rfl, rfl⟩) (by tb_src))
  (k_with "tb_look" => first | exact shaped_list (by tb_src) | exact shaped_tuple (by tb_src))
  (k_with "tb_iter" => with_reducible first | exact eqvAll_nil | exact Atom.eqv (by assumption) | exact eqv_list (by tb_iter) | exact eqv_tuple (by tb_iter) | exact eqvAll_t (by tb_iter) (by tb_iter))
  (k_with "tb_any" => with_reducible first | assumption | exact eqvAll_n1 | exact eqvAll_n2 | exact eqv_lt | exact eqv_tl | exact eqv_list (by tb_any) | exact eqv_tuple (by tb_any) | exact eqvAll_f1 (by tb_any) | exact eqvAll_f2 (by tb_any))
  (k_with "call builtin:iter" => (k_here; (with_reducible show wpAny _ _ (call (Value.builtin "iter") [Value.ref _]) _ _ _); k_dflt (refine iter_list (by k_asm) (by k_asm) (by k_mem) ?_); intro D' h' F' N' l1; (try k_lt l1)))
  (k_with "getAttr ref" => (k_here; (with_reducible show wpAny _ _ (getAttr (Value.ref _) (PySem.Str.ofString "line") _) _ _ _); k_dflt (refine' get_propS ?k1 ?k2 ?k3 ?k4 ?k5 ?k6 ?k7 ?k8 ?k9 ?_; (case k1 => k_asm); (case k2 => k_asm); (case k3 => k_inst); (case k4 => k_is); (case k5 => k_is); (case k6 => k_is); (case k7 => k_is); (case k8 => k_is); (case k9 => k_is); k_whole); (refine line_c (Cx.mk ⟨_, _, _, _, _, _, _, rfl, rfl, rfl, rfl, (by k_asm), (by k_asm)⟩ (by k_room) (by k_units) (by k_asm) (by k_asm) (by k_asm)) (by assumption) (by k_mem) (by k_mem) ?_); intro h' tk' v' a' F' N'; (refine handed_on (Atom.handed a') ?_); (try dsimp only)))
  (k_with "exec Try" => (k_here; (with_reducible show wpAny _ _ (exec (Stmt.Try _ (_ :: _) _ [] _) _) _ _ _); refine wpAny_Try_except ?_))
  (k_with "compareOp NotEq ref ref" => (k_here; (with_reducible show wpAny _ _ (compareOp CmpOp.NotEq (Value.ref _) (Value.ref _)) _ _ _); k_dflt (first | refine ne_t (by ke_read) (by ke_read) (by tb_look) (by tb_look) (by k_units) (by tb_iter) ?_ | refine ne_f (by ke_read) (by ke_read) (by tb_look) (by tb_look) (by k_units) (by tb_any) ?_)))
  (k_with "compareOp Eq ref ref" => (k_here; (with_reducible show wpAny _ _ (compareOp CmpOp.Eq (Value.ref _) (Value.ref _)) _ _ _); k_dflt (first | refine eq_is true (by ke_read) (by ke_read) (by tb_look) (by tb_look) (by k_units) (by tb_iter) ?_ | refine eq_is false (by ke_read) (by ke_read) (by tb_look) (by tb_look) (by k_units) (by tb_any) ?_)))
  (k_with "compareOp Eq ref ref" => (k_here; (with_reducible show wpAny _ _ (compareOp CmpOp.Eq (Value.ref _) (Value.ref _)) _ _ _); k_dflt (refine eq_is _ (by ke_read) (tupReads (by k_asm) (by k_mem) (by assumption)) (by tb_look) (shaped_tuple (TupIs.a (by assumption)).flat) (by k_units) (eqv_tuple (by assumption)) ?_)))
  obtain ⟨⟨A₀, base, env, outer, mean, mg, mb, hh, hA, hf, hk, B, T⟩, room, unit, X, F, N⟩ := C
  obtain ⟨⟨kd, enm, ig, ic, mo⟩, eL, eg, ec, eqn, ef, ecd, efr, eb⟩ := env
  obtain ⟨ah, d, fs, gs, u⟩ := A
  dsimp only at hh hA hf hk room unit
  subst hh hA hf hk
  revert X; unfold KK PG; k_fill; intro X
  k_enter
  k_steps
  all_goals (first | exact hR _ _ (by k_asm) (nsub (by k_asm) fun p hp => by k_mem) | (trace_state; w_report))
theorem eq_tupW {w : World} {A : Around} {h₀ : Heap} {L : Addr} {s : Shared} {m : Str → Option Value} {news : List (Addr × Obj)} {fr dx : Addr} {cod lines ded col ecol endl num locs : Value} {f nm : Str} {tf tn : Tok} {dn dt : PyData} {o : Addr} {l : List Value} {ds : List PyData} {b : Bool} {Q E : Value → Shared → Prop}
    (C : Cx 10 w A h₀ L s m news) (hm : (fr, frObj dx cod lines ded col ecol endl (.str f tf) num locs (.str nm tn)) ∈ news) (hm2 : (dx, dictOf [] 0) ∈ news)
    (hl : LineIs lines num dt) (hnum : Atom num dn) (hf : Atom (.str f tf) (.str f)) (hnm : Atom (.str nm tn) (.str nm)) (ho : (o, tupObj l) ∈ news) (hl' : TupIs l ds) (hb : PyData.eqvAll [.str f, dn, .str nm, dt] ds = b)
    (k : ∀ h' tk, Fr h₀ L h' m → News h₀ L h' news → Q (.bool b) { s with heap := h', toks := tk }) :
    wpAny (model PG w) A (call (.ref 57) [.ref fr, .ref o]) (PySem.W.CmpBack Q) E s :=
  wpAny_call (eq_tup C hm hm2 hl hnum hf hnm ho hl' hb fun h' tk F N => k h' tk F N)
theorem eq_lstW {w : World} {A : Around} {h₀ : Heap} {L : Addr} {s : Shared} {m : Str → Option Value} {news : List (Addr × Obj)} {fr dx : Addr} {cod lines ded col ecol endl num locs : Value} {f nm : Str} {tf tn : Tok} {dn dt : PyData} {o : Addr} {l : List Value} {n : Nat} {Q E : Value → Shared → Prop} {K : Frag}
    (C : Cx 10 w A h₀ L s m news) (hm : (fr, frObj dx cod lines ded col ecol endl (.str f tf) num locs (.str nm tn)) ∈ news) (hm2 : (dx, dictOf [] 0) ∈ news)
    (hl : LineIs lines num dt) (hnum : Atom num dn) (hf : Atom (.str f tf) (.str f)) (hnm : Atom (.str nm tn) (.str nm)) (ho : (o, listOf l.toArray n) ∈ news) (X₀ : K.In h₀) (hn : subIn K (.type "list") (.ref 120) = some false) (hc : subIn K (.ref 120) (.type "list") = some false)
    (hs : findIn K (.ref 120) "__eq__" = some (some (.ref 57))) (hfn : isFn K (.ref 57) = true)
    (k : ∀ h' tk, Fr h₀ L h' m → News h₀ L h' news → Q (.bool false) { s with heap := h', toks := tk }) :
    wpAny (model PG w) A (compareOp .Eq (.ref fr) (.ref o)) Q E s :=
  cmp_list (od := some (dictOf [] 0)) (by have := C.unit; omega) C.F X₀ (InstAt.of_news C.N hm hm2) (News.isList C.N ho) hn hc hs hfn
    (wpAny_call (eq_lst C hm hm2 hl hnum hf hnm ho fun h' tk F N => ⟨rfl, X₀.keeps F.keep, InstAt.of_news N hm hm2, News.isList N ho, k h' tk F N⟩))
end Mine
end
section
open PySem PySem.W PyProof.Rows PySem.Calls
set_option maxHeartbeats 200000000
namespace Mine

theorem gi_int {w : World} {A : Around} {h₀ : Heap} {L : Addr} {s : Shared} {m : Str → Option Value} {news : List (Addr × Obj)} {R : Result → Shared → Prop} {fr dx : Addr} {cod lines ded col ecol endl num locs : Value} {f nm : Str} {tf tn : Tok} {dn dt : PyData} {k : Int} {u : Tok} {j : Nat} {dj : PyData}
    (C : Cx 10 w A h₀ L s m news) (hm : (fr, frObj dx cod lines ded col ecol endl (.str f tf) num locs (.str nm tn)) ∈ news) (hm2 : (dx, dictOf [] 0) ∈ news)
    (hl : LineIs lines num dt) (hnum : Atom num dn) (hf : Atom (.str f tf) (.str f)) (hnm : Atom (.str nm tn) (.str nm)) (ix : IdxIs k 4 j) (hj : [.str f, dn, .str nm, dt].getD j .none = dj)
    (hR : ∀ h' tk z, Atom z dj → Fr h₀ L h' m → News h₀ L h' news → R (.ok (.ret z)) { s with heap := h', toks := tk }) :
    codeAny (model PG w) A (.call (.ref 64) ⟨[.ref fr, .int k u], []⟩) R s := by
  k_with_none
  w_top off
  (k_with "k_room" => ((try simp only [depth_under_make, depth_under_kw, depth_in1, depth_deeper, depth_caller]); (try dsimp only); first | decide | omega | (have := recLim; omega)))
  (k_with "k_units" => ((try simp only [Around.in1_units, Around.deeper_units, Around.mark_units]); (try dsimp only); (have := cRoomIs); omega))
  (k_with "k_handed" => exact Atom.handed (by assumption))
  (k_with "ke_read" => exact Atom.reads (by assumption))
  (k_with "k_handed" => exact Atom.handed (by apply_assumption; assumption))
  (k_with "call builtin:iter" => (k_here; (with_reducible show wpAny _ _ (call (Value.builtin "iter") [Value.ref _]) _ _ _); k_dflt (refine iter_list (by k_asm) (by k_asm) (by k_mem) ?_); intro D' h' F' N' l1; (try k_lt l1)))
  (k_with "getAttr ref" => (k_here; (with_reducible show wpAny _ _ (getAttr (Value.ref _) (PySem.Str.ofString "line") _) _ _ _); k_dflt (refine' get_propS ?k1 ?k2 ?k3 ?k4 ?k5 ?k6 ?k7 ?k8 ?k9 ?_; (case k1 => k_asm); (case k2 => k_asm); (case k3 => k_inst); (case k4 => k_is); (case k5 => k_is); (case k6 => k_is); (case k7 => k_is); (case k8 => k_is); (case k9 => k_is); k_whole); (refine line_c (Cx.mk ⟨_, _, _, _, _, _, _, rfl, rfl, rfl, rfl, (by k_asm), (by k_asm)⟩ (by k_room) (by k_units) (by k_asm) (by k_asm) (by k_asm)) (by assumption) (by k_mem) (by k_mem) ?_); intro h' tk' v' a' F' N'; (refine handed_on (Atom.handed a') ?_); (try dsimp only)))
  (k_with "exec Try" => (k_here; (with_reducible show wpAny _ _ (exec (Stmt.Try _ (_ :: _) _ [] _) _) _ _ _); refine wpAny_Try_except ?_))
  (k_with "eval Slice" => (k_here; (with_reducible refine ev_slice ?_)))
  (k_with "SlPost" => (k_here; (rename Fr _ _ _ _ => lF'); (rename News _ _ _ _ => lN'); k_dflt (refine slPost_ lF' lN' ?_); intro S' h' F' N' l1; clear lF' lN'; (try k_lt l1)))
  (k_with "subscriptTail" => (k_here; (with_reducible show wpAny _ _ (subscriptTail _ _ (Value.ref _) (Value.ref _)) _ _ _); (rename Fr _ _ _ _ => lF'); (rename News _ _ _ _ => lN'); k_dflt (refine tup_slice lF' lN' (by k_mem) (by k_mem) (by kmk_part) (by kmk_part) (by kmk_part) (by rfl) (by rfl) (by first | exact pick_0 | exact pick_1 | exact pick_2 | exact pick_3 | exact pick_4 | exact pick_5 | exact pick_6 | exact pick_7 | exact pick_8 | exact pick_9 | exact pick_10) (by exact Nat.le_of_ble_eq_true rfl) ?_ (by with_unfolding_all rfl)); intro D' h' F' N' l1; clear lF' lN'; (try k_lt l1)))
  (k_with "subscriptTail Name Slice ref ref" => (walk_at "subscriptTail"))
  (k_with "subscriptTail Name Slice ref ref" => (walk_at "subscriptTail Name"))
  (k_with "subscriptTail Name Slice ref ref" => (k_here; (with_reducible show wpAny _ _ (subscriptTail _ (PySem.Expr.Slice _ _ none _) (Value.ref _) _) _ _ _); k_dflt (refine' sub_slK ?k1 ?k2 ?k3 ?k4 ?k5 ?k6 ?k7 ?_; (case k1 => k_asm); (case k2 => k_asm); (case k3 => k_inst); (case k4 => k_is); (case k5 => k_is); (case k6 => k_is); (case k7 => k_is); k_whole)))
  (k_with "subscriptTail" => (k_here; (with_reducible show wpAny _ _ (subscriptTail _ _ (Value.ref _) (Value.int _ _)) _ _ _); k_dflt (refine item_at (by k_asm) (by k_mem) (by rfl) (by assumption) ?_)))
  (k_with "subscriptTail" => (k_here; (with_reducible show wpAny _ _ (subscriptTail _ _ (Value.ref _) (Value.ref _)) _ _ _); (rename Fr _ _ _ _ => lF'); (rename News _ _ _ _ => lN'); k_dflt (refine tup_slice lF' lN' (by k_mem) (by k_mem) (by assumption) (by assumption) (by assumption) (by assumption) (by assumption) (by apply_assumption) (by apply_assumption) ?_ (by with_unfolding_all rfl)); intro D' h' F' N' l1; clear lF' lN'; (try k_lt l1)))
  have hz : ∀ v, Atom v dt → Atom ([.str f tf, num, .str nm tn, v].getD j .none) dj := fun v a => hj ▸ AtomAll.at (.cons hf (.cons hnum (.cons hnm (.cons a .nil)))) j ix.lt
  obtain ⟨⟨A₀, base, env, outer, mean, mg, mb, hh, hA, hf, hk, B, T⟩, room, unit, X, F, N⟩ := C
  obtain ⟨⟨kd, enm, ig, ic, mo⟩, eL, eg, ec, eqn, ef, ecd, efr, eb⟩ := env
  obtain ⟨ah, d, fs, gs, u⟩ := A
  dsimp only at hh hA hf hk room unit
  subst hh hA hf hk
  revert X; unfold KK PG; k_fill; intro X
  k_enter
  k_steps
  all_goals (first | exact hR _ _ _ (hz _ (by assumption)) (by k_asm) (nsub (by k_asm) fun p hp => by k_mem) | (trace_state; w_report))
theorem gi_sl {w : World} {A : Around} {h₀ : Heap} {L : Addr} {s : Shared} {m : Str → Option Value} {news : List (Addr × Obj)} {R : Result → Shared → Prop} {fr dx : Addr} {cod lines ded col ecol endl num locs : Value} {f nm : Str} {tf tn : Tok} {dn dt : PyData} {sl : Addr} {vl vu vst : Value} {lo hi st : Option Int} {zs : Value → List Value}
    (C : Cx 10 w A h₀ L s m news) (hm : (fr, frObj dx cod lines ded col ecol endl (.str f tf) num locs (.str nm tn)) ∈ news) (hm2 : (dx, dictOf [] 0) ∈ news)
    (hl : LineIs lines num dt) (hnum : Atom num dn) (hf : Atom (.str f tf) (.str f)) (hnm : Atom (.str nm tn) (.str nm)) (hs : (sl, slObj vl vu vst) ∈ news) (pl : IsPart vl lo) (pu : IsPart vu hi) (ps : IsPart vst st) (h0 : (st.getD 1 == 0) = false)
    (hno : ((tupAdj 4 lo hi st).1 == 0 && st.getD 1 == 1 && tupCount 4 lo hi st == 4) = false) (e : ∀ v, Pick [.str f tf, num, .str nm tn, v] lo hi st (zs v)) (hzl : ∀ v, (zs v).length ≤ sizeLine)
    (hR : ∀ h' tk D v, Atom v dt → Fr h₀ L h' m → News h₀ L h' ((D, tupObj (zs v)) :: news) → (∀ p ∈ news, p.1 < D) → R (.ok (.ret (.ref D))) { s with heap := h', toks := tk }) :
    codeAny (model PG w) A (.call (.ref 64) ⟨[.ref fr, .ref sl], []⟩) R s := by
  k_with_none
  w_top off
  (k_with "k_room" => ((try simp only [depth_under_make, depth_under_kw, depth_in1, depth_deeper, depth_caller]); (try dsimp only); first | decide | omega | (have := recLim; omega)))
  (k_with "k_units" => ((try simp only [Around.in1_units, Around.deeper_units, Around.mark_units]); (try dsimp only); (have := cRoomIs); omega))
  (k_with "k_handed" => exact Atom.handed (by assumption))
  (k_with "ke_read" => exact Atom.reads (by assumption))
  (k_with "k_handed" => exact Atom.handed (by apply_assumption; assumption))
  (k_with "call builtin:iter" => (k_here; (with_reducible show wpAny _ _ (call (Value.builtin "iter") [Value.ref _]) _ _ _); k_dflt (refine iter_list (by k_asm) (by k_asm) (by k_mem) ?_); intro D' h' F' N' l1; (try k_lt l1)))
  (k_with "getAttr ref" => (k_here; (with_reducible show wpAny _ _ (getAttr (Value.ref _) (PySem.Str.ofString "line") _) _ _ _); k_dflt (refine' get_propS ?k1 ?k2 ?k3 ?k4 ?k5 ?k6 ?k7 ?k8 ?k9 ?_; (case k1 => k_asm); (case k2 => k_asm); (case k3 => k_inst); (case k4 => k_is); (case k5 => k_is); (case k6 => k_is); (case k7 => k_is); (case k8 => k_is); (case k9 => k_is); k_whole); (refine line_c (Cx.mk ⟨_, _, _, _, _, _, _, rfl, rfl, rfl, rfl, (by k_asm), (by k_asm)⟩ (by k_room) (by k_units) (by k_asm) (by k_asm) (by k_asm)) (by assumption) (by k_mem) (by k_mem) ?_); intro h' tk' v' a' F' N'; (refine handed_on (Atom.handed a') ?_); (try dsimp only)))
  (k_with "exec Try" => (k_here; (with_reducible show wpAny _ _ (exec (Stmt.Try _ (_ :: _) _ [] _) _) _ _ _); refine wpAny_Try_except ?_))
  (k_with "eval Slice" => (k_here; (with_reducible refine ev_slice ?_)))
  (k_with "SlPost" => (k_here; (rename Fr _ _ _ _ => lF'); (rename News _ _ _ _ => lN'); k_dflt (refine slPost_ lF' lN' ?_); intro S' h' F' N' l1; clear lF' lN'; (try k_lt l1)))
  (k_with "subscriptTail" => (k_here; (with_reducible show wpAny _ _ (subscriptTail _ _ (Value.ref _) (Value.ref _)) _ _ _); (rename Fr _ _ _ _ => lF'); (rename News _ _ _ _ => lN'); k_dflt (refine tup_slice lF' lN' (by k_mem) (by k_mem) (by kmk_part) (by kmk_part) (by kmk_part) (by rfl) (by rfl) (by first | exact pick_0 | exact pick_1 | exact pick_2 | exact pick_3 | exact pick_4 | exact pick_5 | exact pick_6 | exact pick_7 | exact pick_8 | exact pick_9 | exact pick_10) (by exact Nat.le_of_ble_eq_true rfl) ?_ (by with_unfolding_all rfl)); intro D' h' F' N' l1; clear lF' lN'; (try k_lt l1)))
  (k_with "subscriptTail Name Slice ref ref" => (walk_at "subscriptTail"))
  (k_with "subscriptTail Name Slice ref ref" => (walk_at "subscriptTail Name"))
  (k_with "subscriptTail Name Slice ref ref" => (k_here; (with_reducible show wpAny _ _ (subscriptTail _ (PySem.Expr.Slice _ _ none _) (Value.ref _) _) _ _ _); k_dflt (refine' sub_slK ?k1 ?k2 ?k3 ?k4 ?k5 ?k6 ?k7 ?_; (case k1 => k_asm); (case k2 => k_asm); (case k3 => k_inst); (case k4 => k_is); (case k5 => k_is); (case k6 => k_is); (case k7 => k_is); k_whole)))
  (k_with "subscriptTail" => (k_here; (with_reducible show wpAny _ _ (subscriptTail _ _ (Value.ref _) (Value.int _ _)) _ _ _); k_dflt (refine item_at (by k_asm) (by k_mem) (by rfl) (by assumption) ?_)))
  (k_with "subscriptTail" => (k_here; (with_reducible show wpAny _ _ (subscriptTail _ _ (Value.ref _) (Value.ref _)) _ _ _); (rename Fr _ _ _ _ => lF'); (rename News _ _ _ _ => lN'); k_dflt (refine tup_slice lF' lN' (by k_mem) (by k_mem) (by assumption) (by assumption) (by assumption) (by assumption) (by assumption) (by apply_assumption) (by apply_assumption) ?_ (by with_unfolding_all rfl)); intro D' h' F' N' l1; clear lF' lN'; (try k_lt l1)))
  obtain ⟨⟨A₀, base, env, outer, mean, mg, mb, hh, hA, hf, hk, B, T⟩, room, unit, X, F, N⟩ := C
  obtain ⟨⟨kd, enm, ig, ic, mo⟩, eL, eg, ec, eqn, ef, ecd, efr, eb⟩ := env
  obtain ⟨ah, d, fs, gs, u⟩ := A
  dsimp only at hh hA hf hk room unit
  subst hh hA hf hk
  revert X; unfold KK PG; k_fill; intro X
  k_enter
  k_steps
  all_goals ((rename (_ < _ ∧ AllLt _ _) => l1); (first | exact hR _ _ _ _ (by assumption) (by k_asm) (nsub (by k_asm) (List.forall_mem_cons.mpr ⟨List.Mem.head _, fun p hp => List.Mem.tail _ (List.Mem.tail _ hp)⟩)) (allLt_lt l1.2) | (trace_state; w_report)))
end Mine
end
section
open PySem PySem.W PyProof.Rows PySem.Calls
set_option maxHeartbeats 200000000
namespace Mine

theorem reads_c {w : World} {A : Around} {h₀ : Heap} {L : Addr} {s : Shared} {m : Str → Option Value} {news : List (Addr × Obj)} {R : Result → Shared → Prop} {fr dx du : Addr} {cod lines ded col ecol endl num locs tx : Value} {f nm : Str} {tf tn : Tok} {dn dt : PyData}
    (C : CxL 20 w A h₀ L s m news) (hm : (fr, frObj dx cod lines ded col ecol endl (.str f tf) num locs (.str nm tn)) ∈ news) (hm2 : (dx, dictOf [] 0) ∈ news)
    (hl : LineIs lines num dt) (hnum : Atom num dn) (hf : Atom (.str f tf) (.str f)) (hnm : Atom (.str nm tn) (.str nm)) (htx : Atom tx dt)
    (hm3 : (du, { cls := .type "tuple", data := .seq #[.str f tf, num, .str nm tn, tx] }) ∈ news)
    (hq1 : PyData.eqv (.str f) (.str (Str.ofString "?")) = false) (hq2 : PyData.eqv dn (.str (Str.ofString "?")) = false) (hq3 : PyData.eqv (.str nm) (.str (Str.ofString "?")) = false) (hq4 : PyData.eqv dt (.str (Str.ofString "?")) = false)
    (hR : ∀ h' tk, Fr h₀ L h' m → News h₀ L h' news → R (.ok (.ret (.bool true))) { s with heap := h', toks := tk }) :
    codeAny (model PG w) A (.call (.ref 156) ⟨[.ref fr, .ref du], []⟩) R s := by
  k_with_none
  w_top off
  (k_with "k_room" => ((try simp only [depth_under_make, depth_under_kw, depth_in1, depth_deeper, depth_caller]); (try dsimp only); first | decide | omega | (have := recLim; omega)))
  (k_with "k_units" => ((try simp only [Around.in1_units, Around.deeper_units, Around.mark_units]); (try dsimp only); (have := cRoomIs); omega))
  (k_with "k_handed" => exact Atom.handed (by assumption))
  (k_with "ke_read" => exact Atom.reads (by assumption))
  (k_with "k_ne" => ((try dsimp only); with_reducible first | assumption | exact Ne.symm (by assumption) | fail))
  (k_with "tb_src" => first | exact FlatAll.nil | exact FlatAll.cons (by first | exact Atom.flat (by assumption) | exact ⟨rfl, rfl⟩) (by tb_src))
  (k_with "tb_look" => first | exact shaped_list (by tb_src) | exact shaped_tuple (by tb_src))
  (k_with "tb_iter" => with_reducible first | exact eqvAll_nil | exact Atom.eqv (by assumption) | exact eqv_list (by tb_iter) | exact eqv_tuple (by tb_iter) | exact eqvAll_t (by tb_iter) (by tb_iter))
  (k_with "tb_any" => with_reducible first | assumption | exact eqvAll_n1 | exact eqvAll_n2 | exact eqv_lt | exact eqv_tl | exact eqv_list (by tb_any) | exact eqv_tuple (by tb_any) | exact eqvAll_f1 (by tb_any) | exact eqvAll_f2 (by tb_any))
  (k_with "lcg_sub" => first | exact List.forall_mem_nil _ | refine List.forall_mem_cons.mpr ⟨by first | exact List.Mem.head _ | k_mem, by lcg_sub⟩)
  (k_with "lcg_src" => first | exact True.intro | exact Or.inr ⟨_, by k_mem, rfl, _, rfl⟩)
  (k_with "call builtin:iter" => (k_here; (with_reducible show wpAny _ _ (call (Value.builtin "iter") [Value.ref _]) _ _ _); k_dflt (refine iter_list (by k_asm) (by k_asm) (by k_mem) ?_); intro D' h' F' N' l1; (try k_lt l1)))
  (k_with "getAttr ref" => (k_here; (with_reducible show wpAny _ _ (getAttr (Value.ref _) (PySem.Str.ofString "line") _) _ _ _); k_dflt (refine' get_propS ?k1 ?k2 ?k3 ?k4 ?k5 ?k6 ?k7 ?k8 ?k9 ?_; (case k1 => k_asm); (case k2 => k_asm); (case k3 => k_inst); (case k4 => k_is); (case k5 => k_is); (case k6 => k_is); (case k7 => k_is); (case k8 => k_is); (case k9 => k_is); k_whole); (refine line_c (Cx.mk ⟨_, _, _, _, _, _, _, rfl, rfl, rfl, rfl, (by k_asm), (by k_asm)⟩ (by k_room) (by k_units) (by k_asm) (by k_asm) (by k_asm)) (by assumption) (by k_mem) (by k_mem) ?_); intro h' tk' v' a' F' N'; (refine handed_on (Atom.handed a') ?_); (try dsimp only)))
  (k_with "pyIter ref" => (k_here; (with_reducible show wpAny _ _ (pyIter (Value.ref _)) (CompPost _ _ _ _ _ _ _ _ _) _ _); k_dflt (refine' owit_iter ?k1 ?k2 ?k3 ?k4 ?k5 ?_; (case k1 => k_asm); (case k2 => k_asm); (case k3 => k_inst); (case k4 => k_is); (case k5 => k_is); k_whole); k_dflt (refine wpAny_call (iter_c (Cx.mk ⟨_, _, _, _, _, _, _, rfl, rfl, rfl, rfl, (by k_asm), (by k_asm)⟩ (by k_room) (by k_units) (by k_asm) (by k_asm) (by k_asm)) (by k_mem) (by k_mem) (by assumption) (by assumption) (by assumption) (by assumption) ?_)); intro h' tk' I' l' v' n' a' F' N' hne' hoff'; (try dsimp only); k_dflt (refine owit_listiter (by k_asm) (by k_mem) ?_); k_dflt (refine comp_it rfl (by k_asm) (by k_asm) (by k_mem) (by k_mem) hne' (fun p hp => List.mem_cons_of_mem _ (List.mem_cons_of_mem _ hp)) hoff' rfl rfl rfl (Nat.le_of_ble_eq_true rfl) ?_); intro D' k' h' tk' F' N' l1; (replace l1 := allNe_of l1); (try simp only [AllNe, and_true] at l1)))
  (k_with "compareOp NotEq ref ref" => (k_here; (with_reducible show wpAny _ _ (compareOp CmpOp.NotEq (Value.ref _) (Value.ref _)) _ _ _); k_dflt (first | refine ne_t (by ke_read) (by ke_read) (by tb_look) (by tb_look) (by k_units) (by tb_iter) ?_ | refine ne_f (by ke_read) (by ke_read) (by tb_look) (by tb_look) (by k_units) (by tb_any) ?_)))
  (k_with "compareOp Eq ref ref" => (k_here; (with_reducible show wpAny _ _ (compareOp CmpOp.Eq (Value.ref _) (Value.ref _)) _ _ _); k_dflt (first | refine eq_is true (by ke_read) (by ke_read) (by tb_look) (by tb_look) (by k_units) (by tb_iter) ?_ | refine eq_is false (by ke_read) (by ke_read) (by tb_look) (by tb_look) (by k_units) (by tb_any) ?_)))
  (k_with "exec Try" => (k_here; (with_reducible show wpAny _ _ (exec (Stmt.Try _ (_ :: _) _ [] _) _) _ _ _); refine wpAny_Try_except ?_))
  (k_with "exec For Name Call cons nil" => (k_here; (with_reducible show wpAny _ _ (exec (Stmt.For (PySem.Expr.Name (PySem.Str.ofString "place") _) _ _ _ _) _) _ _ _); (with_unfolding_all refine' For_go 11 ?_; k_whole)))
  (k_with "pyIter ref" => (k_here; (with_reducible show wpAny _ _ (pyIter (Value.ref _)) (fun it s₂ => IterGo _ _ _ _ _ _ _ _ _ it s₂) _ _); (rename IsRange _ _ _ _ _ _ _ _ => R'); (rename Fr _ _ _ _ => lF'); (rename News _ _ _ _ => lN'); (with_unfolding_all refine go_iter (n := 10) R' (by decide) (by decide) lF' lN' ?_); clear R'; intro I' h' F' N' l1; (try k_lt l1)))
  (k_with "GoPost" => (k_here; k_dflt (first | refine goPost_next ?_ | refine goPost_cont ?_ | refine goPost_brk ?_ | refine goPost_ret ?_); (try dsimp only)))
  (k_with "subscriptTail" => (k_here; (with_reducible show wpAny _ _ (subscriptTail _ _ (Value.ref _) (Value.int _ _)) _ _ _); (with_unfolding_all refine' item_outT ?k0 ?k1 ?k2 ?k3 ?k4 ?_ ?k6; (case k0 => rfl); (case k1 => exact News.isTup (by k_asm) (by k_mem)); (case k2 => first | exact Or.inl rfl | exact Or.inr ⟨_, rfl, rfl⟩); (case k3 => decide); (case k4 => decide); (case k6 => with_unfolding_all rfl); k_whole); intro h' tk' e' x'))
  (k_with "noteFrame ref" => (k_here; (rename RaisedSN _ _ _ _ _ _ _ => rsX); k_dflt (refine' caught_X (T' := "IndexError") rsX ?F ?K ?U ?XB ?TB ?D ?T0 ?ex PyProof.Rows.Boot.«IndexError» ?hn PySem.F.isExc_IndexError PySem.F.notTuple_IndexError ?hs ?_; (case F => assumption); (case K => assumption); (case U => assumption); (case XB => assumption); (case TB => assumption); (case D => assumption); (case T0 => assumption); (case hs => kts_sub); (case ex => k_is); (case hn => decide); k_whole); intro h' g' T' F' N' K' X' P' D'; (try k_lift K'); (try k_sweep)))
  (k_with "CompSrcT" => (k_here; k_dflt (refine LCt.CompSrcT.range (by rfl) (by k_asm) (by k_asm) (by assumption) (by first | decide | rfl) (by first | rfl | decide) (by first | size_fits | exact Nat.le_of_ble_eq_true rfl) ?_; intro g'; (show LCt.CompRestT _ _ _ _ _ _ _ _ _ _ _ _ _ _ _ _ 4 _ _ _))))
  (k_with "eval ListComp" => (k_here; lct_look; lcg_calm; k_dflt (refine LCt.ListComp_T (F₀ := by k_asm) (by with_unfolding_all rfl) (by decide) (by rfl) (by decide) (by rfl) ?_); k_dflt lct_toSrc))
  (k_with "CompRestT" => (with_unfolding_all first | (refine LCt.CompRestT.succ ?_; intro v' I' oI' C' oC' D' m' h' tk' E' hv' hC' hx' F' N' off' ne'; (have offR := off'); (first | lcg_open hv' | (obtain ⟨t9', hv9'⟩ := hv'; subst hv9')); (try simp only [LCg.Off3, and_true] at off')) | refine LCt.CompRestT.zero ?_))
  (k_with "CompEnd" => (k_here; (rename Fr _ _ _ _ => lF'); (rename News _ _ _ _ => lN'); (rename LCg.Off3 _ _ _ _ => lO'); first | refine compEnd_1 lF' lN' lO' True.intro ?_ | refine compEnd_0 lF' lN' lO' True.intro ?_ | k_dflt (refine compEnd_1 lF' lN' lO' True.intro ?_)))
  (k_with "GoInv" => (k_here; (rename Fr _ _ _ _ => lF'); (rename News _ _ _ _ => lN'); (rename KtsTurn _ _ _ => kT'); k_dflt (exact goInv3 lF' lN' (by first | exact List.Mem.head _ | k_mem) (by k_mem) (by k_mem) (by k_mem) (by lcg_sub) (by assumption) (by assumption) (by assumption) (by assumption) kT' (by assumption) (by assumption) (by assumption) (by assumption))))
  (k_with "eval Slice" => (k_here; (with_reducible refine ev_slice ?_)))
  (k_with "SlPost" => (k_here; (rename Fr _ _ _ _ => lF'); (rename News _ _ _ _ => lN'); k_dflt (refine slPost_n lF' lN' ?_); intro S' h' F' N'; clear lF' lN'))
  (k_with "subscriptTail" => (k_here; (with_reducible show wpAny _ _ (subscriptTail _ _ (Value.ref _) (Value.ref _)) _ _ _); (rename Fr _ _ _ _ => lF'); (rename News _ _ _ _ => lN'); k_dflt (refine tup_sliceD lF' lN' (by k_mem) (by kmk_part) (by kmk_part) (by kmk_part) (by rfl) (by rfl) (by first | exact pick_0 | exact pick_1 | exact pick_2 | exact pick_3 | exact pick_4 | exact pick_5 | exact pick_6 | exact pick_7 | exact pick_8 | exact pick_9 | exact pick_10) (by exact Nat.le_of_ble_eq_true rfl) ?_ (by with_unfolding_all rfl)); intro D' h' F' N'; clear lF' lN'))
  (k_with "subscriptTail Name Slice ref ref" => (walk_at "subscriptTail"))
  (k_with "subscriptTail Name Slice ref ref" => (walk_at "subscriptTail Name"))
  (k_with "subscriptTail Name Slice ref ref" => (k_here; (with_reducible show wpAny _ _ (subscriptTail _ (PySem.Expr.Slice _ _ none _) (Value.ref _) _) _ _ _); k_dflt (refine' sub_slK ?k1 ?k2 ?k3 ?k4 ?k5 ?k6 ?k7 ?_; (case k1 => k_asm); (case k2 => k_asm); (case k3 => k_inst); (case k4 => k_is); (case k5 => k_is); (case k6 => k_is); (case k7 => k_is); k_whole)))
  (k_with "subscriptTail" => (k_here; (with_reducible show wpAny _ _ (subscriptTail _ _ (Value.ref _) (Value.int _ _)) _ _ _); k_dflt (refine item_at (by k_asm) (by k_mem) (by rfl) (by assumption) ?_)))
  (k_with "call ref" => (k_here; (with_reducible show wpAny _ _ (call (Value.ref 64) [Value.ref _, Value.int _ _]) _ _ _); k_dflt (refine wpAny_call (gi_int (Cx.mk ⟨_, _, _, _, _, _, _, rfl, rfl, rfl, rfl, (by k_asm), (by k_asm)⟩ (by k_room) (by k_units) (by k_asm) (by k_asm) (by k_asm)) (by k_mem) (by k_mem) (by assumption) (by assumption) (by assumption) (by assumption) (by assumption) (by assumption) ?_)); intro h' tk' z' a' F' N'; (try dsimp only)))
  (k_with "call ref" => (k_here; (with_reducible show wpAny _ _ (call (Value.ref 64) [Value.ref _, Value.ref _]) _ _ _); k_dflt (refine wpAny_call (gi_sl (Cx.mk ⟨_, _, _, _, _, _, _, rfl, rfl, rfl, rfl, (by k_asm), (by k_asm)⟩ (by k_room) (by k_units) (by k_asm) (by k_asm) (by k_asm)) (by k_mem) (by k_mem) (by assumption) (by assumption) (by assumption) (by assumption) (by k_mem) (by kmk_part) (by kmk_part) (by kmk_part) (by rfl) (by rfl) (by intro v; first | exact pick_0 | exact pick_1 | exact pick_2 | exact pick_3 | exact pick_4 | exact pick_5 | exact pick_6 | exact pick_7 | exact pick_8 | exact pick_9 | exact pick_10) (by intro v; exact Nat.le_of_ble_eq_true rfl) ?_)); intro h' tk' D' v' a' F' N' l1; (try k_lt l1); (try dsimp only)))
  (k_with "call ref" => (k_here; (with_reducible show wpAny _ _ (call (Value.ref 57) [Value.ref _, Value.ref _]) (PySem.W.CmpBack _) _ _); k_dflt (refine' eq_tupW (Cx.mk ⟨_, _, _, _, _, _, _, rfl, rfl, rfl, rfl, (by k_asm), (by k_asm)⟩ (by k_room) (by k_units) (by k_asm) (by k_asm) (by k_asm)) ?r1 ?r2 ?r3 ?r4 ?r5 ?r6 ?r7 ?r8 ?r9 ?_; (case r1 => k_mem); (case r2 => k_mem); (case r3 => with_reducible assumption); (case r4 => with_reducible assumption); (case r5 => with_reducible assumption); (case r6 => with_reducible assumption); (case r7 => k_mem); (case r8 => first | exact tupIs4 (by with_reducible first | assumption | exact atom_q) (by with_reducible first | assumption | exact atom_q) (by with_reducible first | assumption | exact atom_q) (by with_reducible first | assumption | exact atom_q) | exact tupIs3 (by with_reducible first | assumption | exact atom_q) (by with_reducible first | assumption | exact atom_q) (by with_reducible first | assumption | exact atom_q) | exact tupIs5 (by with_reducible first | assumption | exact atom_q) (by with_reducible first | assumption | exact atom_q) (by with_reducible first | assumption | exact atom_q) (by with_reducible first | assumption | exact atom_q) (by with_reducible first | assumption | exact atom_q)); (case r9 => with_reducible first | exact eqvAll_t (Atom.eqv (by assumption)) (eqvAll_t (Atom.eqv (by assumption)) (eqvAll_t (Atom.eqv (by assumption)) (eqvAll_t (Atom.eqv (by assumption)) eqvAll_nil))) | exact (eqvAll_f2 (eqvAll_f2 (eqvAll_f2 eqvAll_n2))) | exact (eqvAll_f2 (eqvAll_f2 (eqvAll_f2 (eqvAll_f2 eqvAll_n1)))) | exact (eqvAll_f1 (by assumption)) | exact (eqvAll_f2 (eqvAll_f1 (by assumption))) | exact (eqvAll_f2 (eqvAll_f2 (eqvAll_f1 (by assumption)))) | exact (eqvAll_f2 (eqvAll_f2 (eqvAll_f2 (eqvAll_f1 (by assumption))))))); intro h' tk' F' N'))
  (k_with "compareOp Eq ref ref" => (k_here; (with_reducible show wpAny _ _ (compareOp CmpOp.Eq (Value.ref _) (Value.ref _)) _ _ _); k_dflt (refine' eq_lstW (Cx.mk ⟨_, _, _, _, _, _, _, rfl, rfl, rfl, rfl, (by k_asm), (by k_asm)⟩ (by k_room) (by k_units) (by k_asm) (by k_asm) (by k_asm)) ?r1 ?r2 ?r3 ?r4 ?r5 ?r6 ?r7 ?a3 ?a5 ?a6 ?a7 ?a8 ?_; (case r1 => k_mem); (case r2 => k_mem); (case r3 => with_reducible assumption); (case r4 => with_reducible assumption); (case r5 => with_reducible assumption); (case r6 => with_reducible assumption); (case r7 => k_mem); (case a3 => k_asm); (case a5 => k_is); (case a6 => k_is); (case a7 => k_is); (case a8 => k_is)); intro h' tk' F' N'))
  (k_with "subscriptTail" => (k_here; (with_reducible show wpAny _ _ (subscriptTail _ _ (Value.ref _) (Value.int _ _)) _ _ _); (with_unfolding_all refine' item_outX ?k0 ?k1 ?k2 ?k3 ?k4 ?_ ?k6; (case k0 => rfl); (case k1 => k_asm); (case k2 => k_mem); (case k4 => with_reducible assumption); (case k3 => rfl); (case k6 => with_unfolding_all rfl); k_whole); intro h' tk' e' x'))
  (k_with "compareOp Eq ref ref" => (k_here; (with_reducible show wpAny _ _ (compareOp CmpOp.Eq (Value.ref _) (Value.ref _)) _ _ _); (refine cmp_ofEq ?_); k_dflt (refine' cmp_K ?k1 ?k2 ?k3 ?k4 ?k5 ?k6 ?k7 ?k8 ?_; (case k1 => k_units); (case k2 => k_asm); (case k3 => k_asm); (case k4 => k_inst); (case k5 => exact tupType (by k_asm) (by k_mem)); (case k6 => k_is); (case k7 => k_is); (case k8 => k_is); k_whole)))
  (k_with "CEnd" => (first | exact ⟨by assumption, fun _ => rfl, rfl⟩ | exact ⟨by first | assumption | exact Bool.eq_false_of_not_eq_true (by assumption), fun q => absurd q Bool.false_ne_true, rfl⟩))
  (k_with "CompRestT" => (k_here; k_dflt (refine compT_all (by assumption) ?_ ?_); (try (intro i' hi' ys' v' I' oI' C' oC' D' m' h' tk' E' hv' hC' hx' F' N' off' ne'; obtain ⟨t9', hv9'⟩ := hv'; subst hv9'; (have ix' := idx_nat hi')))))
  (k_with "eval ListComp" => (k_here; (with_reducible show wpAny _ _ (eval (PySem.Expr.ListComp (PySem.Expr.BinOp _ _ _ _) _ _ _) _) _ _ _); lcf_look; lcg_calm; k_dflt (refine LCg.ListComp_U (F₀ := by k_asm) (by with_unfolding_all rfl) (by decide) (by rfl) (by decide) (by rfl) ?_); k_dflt lcg_toSrc))
  (k_with "CompSrc" => (k_here; k_dflt (refine' LCg.CompSrc.range ?r1 ?r2 ?r3 ?r4 ?r5 ?r6 ?r7 ?_; (case r1 => rfl); (case r2 => k_asm); (case r3 => k_asm); (case r4 => assumption); (case r5 => first | decide | rfl); (case r6 => first | rfl | decide); (case r7 => first | size_fits | exact Nat.le_of_ble_eq_true rfl); intro g'; lcg_lit)))
  (k_with "CompRest" => (with_unfolding_all first | (refine LCg.CompRest.succ ?_; intro v' I' oI' C' oC' D' m' h' tk' E' hv' hC' hx' F' N' off' ne'; (have offR := off'); (first | lcg_open hv' | (obtain ⟨t9', hv9'⟩ := hv'; subst hv9')); (try simp only [LCg.Off3, and_true] at off')) | refine LCg.CompRest.zero ?_))
  (k_with "CompEnd" => (k_here; (rename Fr _ _ _ _ => lF'); (rename News _ _ _ _ => lN'); (rename LCg.Off3 _ _ _ _ => lO'); first | refine compEnd_1 lF' lN' lO' (by lcg_src) ?_ | refine compEnd_0 lF' lN' lO' (by lcg_src) ?_ | k_dflt (refine compEnd_t lF' lN' (by lcg_sub) lO' (by k_ne) (by k_ne) (by k_ne) (by lcg_src) ?_)))
  (k_with "CompSrcT" => (k_here; k_dflt (refine LCt.CompSrcT.ledger (by rfl) (by k_asm) (by k_asm) (by k_mem) (by first | size_fits | exact Nat.le_of_ble_eq_true rfl) ?_; intro g'; (show LCt.CompRestT _ _ _ _ _ _ _ _ _ _ _ _ _ _ _ _ 7 _ _ _))))
  (k_with "execs cons" => (k_here; (with_reducible show wpAny _ _ (execs (PySem.Stmt.Assign [PySem.Expr.Name (PySem.Str.ofString "others") _] _ _ :: _) _) _ _ _); (fail_if_success (rename Passed => pX)); refine cut_ ?_))
  (k_with "execs cons" => (k_here; (with_reducible show wpAny _ _ (execs (PySem.Stmt.Return (some (PySem.Expr.BoolOp _ _ _)) _ :: _) _) _ _ _); (fail_if_success (with_reducible rename Passed2 => pX)); refine cut_ ?_))
  (k_with "CompEnd" => (k_here; (with_reducible rename Fr _ _ _ _ => lF'); (with_reducible rename News _ _ _ _ => lN'); (with_reducible rename LCg.Off3 _ _ _ _ => lO'); k_dflt (refine compEnd_0 lF' lN' lO' (by lcg_src) ?_)))
  (k_with "CompSrcT" => (k_here; (with_reducible rename NoneC _ => nC'); k_dflt (refine LCt.CompSrcT.ledger (by rfl) (by k_asm) (by k_asm) (by k_mem) nC'.t ?_; intro g')))
  (k_with "CompRestT" => (k_here; (with_reducible rename NoneC _ => nC'); (with_reducible rename OthAll _ _ _ => oA'); k_dflt (refine compS_none nC' (by lcg_src) ?_ ?_); (try (intro i' hi' v' I' oI' C' oC' D' m' h' tk' E' hv' hC' hx' F' N' off' ne'; (replace hv' := OthAll.at oA' hv'); (rcases hv' with ⟨hm'⟩ | ⟨hm', ht', he'⟩)))))
  (k_with "call ref" => (k_here; (with_reducible show wpAny _ _ (call (Value.ref 57) [Value.ref _, Value.ref _]) (PySem.W.CmpBack _) _ _); k_dflt (refine' eq_tupW (Cx.mk ⟨_, _, _, _, _, _, _, rfl, rfl, rfl, rfl, (by k_asm), (by k_asm)⟩ (by k_room) (by k_units) (by k_asm) (by k_asm) (by k_asm)) ?r1 ?r2 ?r3 ?r4 ?r5 ?r6 ?r7 ?r8 ?r9 ?_; (case r1 => k_mem); (case r2 => k_mem); (case r3 => with_reducible assumption); (case r4 => with_reducible assumption); (case r5 => with_reducible assumption); (case r6 => with_reducible assumption); (case r7 => k_mem); (case r8 => first | with_reducible assumption | exact tupIs4 (by with_reducible assumption) (by with_reducible assumption) (by with_reducible assumption) (by with_reducible assumption)); (case r9 => with_reducible first | assumption | exact eqvAll_t (Atom.eqv (by assumption)) (eqvAll_t (Atom.eqv (by assumption)) (eqvAll_t (Atom.eqv (by assumption)) (eqvAll_t (Atom.eqv (by assumption)) eqvAll_nil))))); intro h' tk' F' N'))
  (k_with "newList" => (k_here; k_dflt (refine' newList_n ?F ?N ?_ ?z; (case F => k_asm); (case N => k_asm); (case z => kmk_size)); intro D' h' F' N'))
  (k_with "newTuple" => (k_here; k_dflt (refine' newTuple_n ?F ?N ?_ ?z; (case F => k_asm); (case N => k_asm); (case z => kmk_size)); intro D' h' F' N'))
  obtain ⟨⟨A₀, cn, cs, ca, ccd, mean, mg, mb, hh, hA, hk, B, T⟩, room, unit, X, F, N⟩ := C
  obtain ⟨ah, d, fs, gs, u⟩ := A
  dsimp only at hh hA room unit
  subst hh hA
  revert X; unfold KK PG; k_fill; intro X
  have NK : KeepP (News h₀ L s.heap news) := ⟨N⟩
  have hex : ∀ p ∈ ([(fr, frObj dx cod lines ded col ecol endl (.str f tf) num locs (.str nm tn)), (dx, dictOf [] 0), (du, { cls := .type "tuple", data := .seq #[.str f tf, num, .str nm tn, tx] })] : List (Addr × Obj)), p ∈ news := List.forall_mem_cons.mpr ⟨hm, List.forall_mem_cons.mpr ⟨hm2, List.forall_mem_cons.mpr ⟨hm3, List.forall_mem_nil _⟩⟩⟩
  (refine' code_defCS0 ?k1 ?k2 ?k3 ?k4 ?k5 ?kA ?k6 ?k7 ?k8 ?k9 ?kB ?kD ?_ hk ?c2 ?c3 ?c4; (case kA => exact rfl); (case k1 => k_asm); (case k2 => k_asm); (case k3 => k_asm); (case k4 => k_asm); (case k5 => k_asm); (case k6 => k_is); (case k7 => k_is); (case k8 => k_room); (case k9 => first | exact BindsTo.of_eq rfl | exact binds_K (by k_in) rfl (by k_is) rfl rfl rfl); (case kB => exact rfl); (case kD => decide +kernel); (case c2 => exact rfl); (case c3 => exact rfl); (case c4 => exact rfl))
  intro g' L' h' tk' cells' FG' F' N' Y' B' X' T' D' l1
  k_cells Y'
  (try simp only [List.cons_append, List.nil_append] at N')
  (try dsimp only)
  (try k_lift B')
  (try k_fold)
  (rename Fr _ _ _ _ => FF); (rename News _ _ _ _ => NN); (rename (∀ p ∈ _, _ < _) => hAll); (rename Below _ _ _ _ => B2); (rename Top _ _ _ _ _ _ => T2); (rename Frag.In _ _ => X2); (rename KtsDicts _ _ => D2)
  obtain ⟨g₂, hsz, hkeep, hrest, F2, N2⟩ := reground (cells := [_, _, _]) FF NN hAll hex (List.forall_mem_cons.mpr ⟨ltN' (by dsimp only; omega), List.forall_mem_cons.mpr ⟨ltN' (by dsimp only; omega), List.forall_mem_cons.mpr ⟨ltN' (by dsimp only; omega), List.forall_mem_nil _⟩⟩⟩)
  have hnn : ∀ p ∈ news, _ := fun p hp => (NN p (List.mem_append_right [_, _, _] hp)).2.2
  have B3 := Below.mk B2.stack (fun b o e => hkeep _ _ (B2.stays b o e)) (B2.frames.of_keeps fun b o e _ => ⟨o, hkeep b o e, rfl⟩)
  have X3 := X2.keeps hkeep
  have T3 := T2.keeps hkeep
  have D3 : KtsDicts _ g₂ := fun b hb => let ⟨o, es, n, e, q⟩ := D2 b hb; ⟨o, es, n, hkeep b o e, q⟩
  refine wpAny_mono (Q := fun fl s' => LeaveS0 _ h₀ L m g₂ (fun r s' => (∀ p ∈ restOf [(fr, frObj dx cod lines ded col ecol endl (.str f tf) num locs (.str nm tn)), (dx, dictOf [] 0), (du, { cls := .type "tuple", data := .seq #[.str f tf, num, .str nm tn, tx] })] news, s'.heap.get? p.1 = some p.2) → R r s') (match fl with | .ret v => v | _ => .none) s') ?_ (fun fl s' hl => leave_moreS (hsz ▸ FF.above) hkeep hrest hnn D2 hl) (fun _ _ e => e)
  refine gen_post fun Q0 hQ0 => ?_
  simp only [List.cons_append, List.nil_append] at N2
  have T0 : KtsTurn ([envOf cn cs L ca ccd].filterMap (·.frame)) g₂ g₂ := KtsTurn.refl
  have hk1 : Keep fr := ⟨rfl⟩
  have hk2 : Keep dx := ⟨rfl⟩
  have hk3 : Keep du := ⟨rfl⟩
  have q1 : @LT.lt Nat _ fr _ := ltN' (hAll _ hm)
  have q2 : @LT.lt Nat _ dx _ := ltN' (hAll _ hm2)
  have q3 : @LT.lt Nat _ du _ := ltN' (hAll _ hm3)
  clear hAll FF NN B2 T2 X2 D2 hkeep hrest hsz hm hm2 hm3 hnn
  try k_fold
  k_steps
  (rename Fr _ _ _ _ => lF'); (rename News _ _ _ _ => lN')
  k_dflt (refine' go_all (Jl := fun l => ∃ o1 o2 o3 v, l = [(L' + 1 + 1 + 1, o1), (L' + 1 + 1, o2), (L' + 1, o3), (fr, frObj dx cod lines ded col ecol endl (.str f tf) num locs (.str nm tn)), (dx, dictOf [] 0), (du, { cls := .type "tuple", data := .seq #[.str f tf, num, .str nm tn, tx] })] ∧ o1.data = .cell v ∧ o2.data = .cell (some (.ref du)) ∧ o3.data = .cell (some (.ref fr))) 10 (lo := -5) (b := 5) (by decide) rfl rfl (by intro _; rfl) (goInv_ T0 lF' lN' ?gaHs ?gaNe B3 X3 T3 D3 ?gaJ) ?step ?fin)
  case' gaJ => (refine ⟨?gaO1, ?gaO2, ?gaO3, ?gaV, rfl, ?ge1, ?ge2, ?ge3⟩)
  case gaHs => lcg_sub
  case ge1 => assumption
  case ge2 => assumption
  case ge3 => assumption
  case gaNe => k_all
  case step =>
    clear lF' lN' B3 X3 T3 D3 T0
    (repeat (rename (_ ∧ _) => kz; clear kz))
    intro x hx1 hx2 g h tk t m l T F N ne B X P D J
    obtain ⟨o1, o2, o3, v, rfl, d1, d2, d3⟩ := J
    have neR := neAll_mk ne
    simp only [List.map_cons, List.map_nil] at neR
    replace ne := allNe_of ne
    simp only [AllNe, and_true] at ne
    obtain ⟨ne1, ne2, ne3, ne4, ne5, ne6⟩ := ne
    rcases places hx1 hx2 with hv | hx
    · have ix : ∃ j, IdxIs x 4 j := by
        by_cases h0 : x < 0
        · exact ⟨_, idx_neg h0 (by omega)⟩
        · exact ⟨_, idx_pos (by omega) (by omega)⟩
      obtain ⟨j, ix⟩ := ix
      have pk := pick_one (fun i => [.str f tf, num, .str nm tn, tx].getD i .none) hv.1 hv.2 ix
      have aj := AtomAll.at (.cons hf (.cons hnum (.cons hnm (.cons htx .nil)))) j ix.lt
      obtain ⟨dj, hj⟩ : ∃ dj, [PyData.str f, dn, .str nm, dt].getD j .none = dj := ⟨_, rfl⟩
      rw [hj] at aj
      clear hv hx1 hx2
      obtain ⟨zz, hzz⟩ : ∃ zz, [.str f tf, num, .str nm tn, tx].getD j .none = zz := ⟨_, rfl⟩
      rw [hzz] at aj pk
      clear hzz
      k_steps
      all_goals (trace_state; w_report)
    · have pk := pick_zero (fun i => [.str f tf, num, .str nm tn, tx].getD i .none) hx
      have io := idx_out hx
      clear hx hx1 hx2
      k_steps
      all_goals (trace_state; w_report)
  case fin =>
    clear lF' lN' B3 X3 T3 D3 T0
    (repeat (rename (_ ∧ _) => kz; clear kz))
    intro g h tk m l T F N B X P D J
    obtain ⟨o1, o2, o3, v, rfl, d1, d2, d3⟩ := J
    k_steps
    all_goals unfold Cut
    (rename Fr _ _ _ _ => lF'); (rename News _ _ _ _ => lN')
    have N5 := nsub lN' (l := [(L' + 1 + 1 + 1, o1), (L' + 1 + 1, o2), (L' + 1, o3), (fr, frObj dx cod lines ded col ecol endl (.str f tf) num locs (.str nm tn)), (dx, dictOf [] 0), (du, { cls := .type "tuple", data := .seq #[.str f tf, num, .str nm tn, tx] })]) (by lcg_sub)
    clear lN'
    (repeat (rename (_ ∧ _) => kz; clear kz))
    have ps : Passed := ⟨trivial⟩
    (k_with "CompSrc" => (k_here; k_dflt (refine' LCg.CompSrc.range ?r1 ?r2 ?r3 ?r4 ?r5 ?r6 ?r7 ?_; (case r1 => rfl); (case r2 => k_asm); (case r3 => k_asm); (case r4 => assumption); (case r5 => first | decide | rfl); (case r6 => first | rfl | decide); (case r7 => first | size_fits | exact Nat.le_of_ble_eq_true rfl); intro g'; (show LCg.CompRest _ _ _ _ _ _ _ _ _ _ _ _ _ _ 4 _ _ _))))
    (k_with "CompRest" => (k_here; refine cut_ ?_))
    k_steps
    all_goals unfold Cut
    (with_reducible rename Fr _ _ _ _ => FA); (with_reducible rename News _ _ _ _ => NA)
    clear FA
    k_dflt (refine compR_all (OthJ _ [.str f, dn, .str nm, dt]) ?crS ?crF ⟨fun p hp => hp, .nil⟩)
    case crS =>
      clear NA
      (repeat (with_reducible rename (_ ∧ _) => kz; clear kz))
      intro i hi ys news' J v' I oI C oC D m₂ h tk E' hv hC hx F N off ne
      obtain ⟨t9, rfl⟩ := hv
      have l4 : Lt4 i := ⟨hi⟩
      have mc := J.k (L' + 1 + 1, o2) (by k_mem)
      have md := J.k (du, { cls := .type "tuple", data := .seq #[.str f tf, num, .str nm tn, tx] }) (by k_mem)
      obtain ⟨ne1, ne2, ne3⟩ := ne
      (k_with "subscriptTail" => (k_here; (with_reducible show wpAny _ _ (subscriptTail _ _ (Value.ref _) (Value.ref _)) _ _ _); (with_reducible rename Fr _ _ _ _ => lF'); (with_reducible rename News _ _ _ _ => lN'); (with_reducible rename Lt4 _ => l4'); k_dflt (first | refine tup_sliceE lF' lN' (by k_mem) (by kmk_part) (by kmk_part) (by kmk_part) (by rfl) (by exact no_pre l4') (by exact pick_pre l4') (by exact take_len) ?_ (by with_unfolding_all rfl) | refine tup_sliceE lF' lN' (by k_mem) (by kmk_part) (by kmk_part) (by kmk_part) (by rfl) (by exact no_suf l4') (by exact pick_suf l4') (by exact drop_len) ?_ (by with_unfolding_all rfl)); intro D' h' F' N' l1; clear lF' lN'; (try k_lt l1)))
      (k_with "binaryOp Add ref ref" => (k_here; (with_reducible show wpAny _ _ (binaryOp _ (Value.ref _) (Value.ref _)) _ _ _); (with_reducible rename Fr _ _ _ _ => lF'); (with_reducible rename News _ _ _ _ => lN'); k_dflt (first | refine add_any lF' lN' (by k_mem) (by k_mem) (by exact q_len) ?_ | refine add_any lF' lN' (by k_mem) (by k_mem) (by exact qd_len) ?_); intro D' h' F' N' l1; clear lF' lN'; (have j1' := l1 I (by omega) (by omega)); (have j2' := l1 C (by omega) (by omega)); (have j3' := l1 D (by omega) (by omega)); clear l1))
      (k_with "CompEnd" => (k_here; refine cut_ ?_))
      (k_with "newTuple" => (k_here; k_dflt (refine' kup_newTuple ?F ?N ?_ ?z; (case F => k_asm); (case N => k_asm); (case z => kmk_size)); intro D' h' F' N' l1; (try k_lt l1)))
      k_steps
      all_goals unfold Cut
      (with_reducible rename Fr _ _ _ _ => FB); (with_reducible rename News _ _ _ _ => NB)
      exact compEnd_t FB NB (List.forall_mem_cons.mpr ⟨by k_mem, List.forall_mem_cons.mpr ⟨by k_mem, List.forall_mem_cons.mpr ⟨by k_mem, List.forall_mem_cons.mpr ⟨by k_mem, (by intro p hp; repeat (first | exact hp | refine List.Mem.tail _ ?_))⟩⟩⟩⟩) off (by omega) (by omega) (by omega) trivial (oth_turn J ⟨hi⟩ hf hnum hnm htx hq1 hq2 hq3 hq4)
    case crF =>
      clear NA
      (repeat (with_reducible rename (_ ∧ _) => kz; clear kz))
      intro ys news' hlen J
      obtain ⟨y1, y2, y3, y4, rfl⟩ := list4 hlen
      intro D2 h tk F N oF1
      have N1 := oth_base N J.k
      have ho := J.o
      simp only [List.cons_append, List.nil_append] at N1
      clear N J
      (k_with "CompEnd" => (k_here; (with_reducible rename Fr _ _ _ _ => lF'); (with_reducible rename News _ _ _ _ => lN'); (with_reducible rename LCg.Off3 _ _ _ _ => lO'); k_dflt (refine compEnd_0 lF' lN' lO' (by lcg_src) ?_)))
      k_steps
      all_goals unfold Cut
      (with_reducible rename Fr _ _ _ _ => lF'); (with_reducible rename News _ _ _ _ => lN')
      obtain ⟨nn, vs', N6, hD6, hex6, ho6, hl6⟩ := oth_pack (k := 7) (cs := [(L' + 1 + 1 + 1, o1), (L' + 1 + 1, o2), (L' + 1, o3)]) (ex := [(fr, frObj dx cod lines ded col ecol endl (.str f tf) num locs (.str nm tn)), (dx, dictOf [] 0), (du, { cls := .type "tuple", data := .seq #[.str f tf, num, .str nm tn, tx] })]) (d4 := [.str f, dn, .str nm, dt]) lN' (by lcg_sub) (List.Mem.head _) (by lcg_sub) (by refine' OthAll.cons (OthIs.lst ?hm1) (OthAll.cons (OthIs.tup ?hm2 (tupIs3 hf hnum hnm) (eqvAll_f2 (eqvAll_f2 (eqvAll_f2 eqvAll_n2)))) (OthAll.cons (OthIs.tup ?hm3 (tupIs5 hf hnum hnm htx htx) (eqvAll_f2 (eqvAll_f2 (eqvAll_f2 (eqvAll_f2 eqvAll_n1))))) (ho.more (by intro p hp; repeat (first | exact hp | refine List.Mem.tail _ ?_))))); (case hm1 => k_mem); (case hm2 => k_mem); (case hm3 => k_mem)) rfl
      simp only [List.cons_append, List.nil_append] at N6
      have m1 := hex6 _ (List.Mem.head _)
      have m2 := hex6 _ (List.Mem.tail _ (List.Mem.head _))
      have m3 := hex6 _ (List.Mem.tail _ (List.Mem.tail _ (List.Mem.head _)))
      clear lN' N
      (repeat (with_reducible rename (_ ∧ _) => kz; clear kz))
      have nc : NoneC vs'.toArray.size := ⟨by rw [hl6]; exact Nat.le_of_ble_eq_true rfl⟩
      have ps2 : Passed2 := ⟨trivial⟩
      k_steps
      all_goals refine hQ0 _ _ ?_
      all_goals k_steps
      all_goals (first | exact hR _ _ (by k_asm) (news_all NK.h hex (nsub (by k_asm) (List.forall_mem_cons.mpr ⟨by k_mem, List.forall_mem_cons.mpr ⟨by k_mem, List.forall_mem_cons.mpr ⟨by k_mem, List.forall_mem_nil _⟩⟩⟩)) (by with_reducible assumption)) | (trace_state; w_report))
end Mine
end
section
open PySem PySem.W PyProof.Rows PySem.Calls
set_option maxHeartbeats 200000000
namespace Mine

theorem eq_fr {w : World} {A : Around} {h₀ : Heap} {L : Addr} {s : Shared} {m : Str → Option Value} {news : List (Addr × Obj)} {R : Result → Shared → Prop} {fr dx : Addr} {cod lines ded col ecol endl file num locs name : Value} {fr2 dx2 : Addr} {cod2 lines2 ded2 col2 ecol2 endl2 file2 num2 locs2 name2 : Value} {a1 a2 a3 b1 b2 b3 : PyData} {a4 b4 : Nat}
    (C : Cx 10 w A h₀ L s m news) (hm : (fr, frObj dx cod lines ded col ecol endl file num locs name) ∈ news) (hm2 : (dx, dictOf [] 0) ∈ news)
    (hn : (fr2, frObj dx2 cod2 lines2 ded2 col2 ecol2 endl2 file2 num2 locs2 name2) ∈ news) (hn2 : (dx2, dictOf [] 0) ∈ news)
    (q1 : Atom file a1) (q2 : Atom num a2) (q3 : Atom name a3) (q4 : LocIs w news locs a4) (r1 : Atom file2 b1) (r2 : Atom num2 b2) (r3 : Atom name2 b3) (r4 : LocIs w news locs2 b4)
    (hR : ∀ h' tk b, b = (PyData.eqv a1 b1 && PyData.eqv a2 b2 && PyData.eqv a3 b3 && decide (a4 = b4)) → Fr h₀ L h' m → News h₀ L h' news → R (.ok (.ret (.bool b))) { s with heap := h', toks := tk }) :
    codeAny (model PG w) A (.call (.ref 57) ⟨[.ref fr, .ref fr2], []⟩) R s := by
  k_with_none
  w_top off
  (k_with "k_room" => ((try simp only [depth_under_make, depth_under_kw, depth_in1, depth_deeper, depth_caller]); (try dsimp only); first | decide | omega | (have := recLim; omega)))
  (k_with "k_units" => ((try simp only [Around.in1_units, Around.deeper_units, Around.mark_units]); (try dsimp only); (have := cRoomIs); omega))
  (k_with "k_handed" => exact Atom.handed (by assumption))
  (k_with "ke_read" => exact Atom.reads (by assumption))
  (k_with "k_handed" => exact LocIs.handed (by assumption))
  (k_with "call builtin:iter" => (k_here; (with_reducible show wpAny _ _ (call (Value.builtin "iter") [Value.ref _]) _ _ _); k_dflt (refine iter_list (by k_asm) (by k_asm) (by k_mem) ?_); intro D' h' F' N' l1; (try k_lt l1)))
  (k_with "getAttr ref" => (k_here; (with_reducible show wpAny _ _ (getAttr (Value.ref _) (PySem.Str.ofString "line") _) _ _ _); k_dflt (refine' get_propS ?k1 ?k2 ?k3 ?k4 ?k5 ?k6 ?k7 ?k8 ?k9 ?_; (case k1 => k_asm); (case k2 => k_asm); (case k3 => k_inst); (case k4 => k_is); (case k5 => k_is); (case k6 => k_is); (case k7 => k_is); (case k8 => k_is); (case k9 => k_is); k_whole); (refine line_c (Cx.mk ⟨_, _, _, _, _, _, _, rfl, rfl, rfl, rfl, (by k_asm), (by k_asm)⟩ (by k_room) (by k_units) (by k_asm) (by k_asm) (by k_asm)) (by assumption) (by k_mem) (by k_mem) ?_); intro h' tk' v' a' F' N'; (refine handed_on (Atom.handed a') ?_); (try dsimp only)))
  (k_with "exec Try" => (k_here; (with_reducible show wpAny _ _ (exec (Stmt.Try _ (_ :: _) _ [] _) _) _ _ _); refine wpAny_Try_except ?_))
  (k_with "compareOp Eq" => (k_here; (with_reducible show wpAny _ _ (compareOp CmpOp.Eq _ _) _ _ _); k_dflt (refine eq_is _ (Atom.reads (by assumption)) (Atom.reads (by assumption)) (Atom.shaped (by assumption)) (Atom.shaped (by assumption)) (by k_units) rfl ?_)))
  (k_with "compareOp Eq" => (k_here; (with_reducible show wpAny _ _ (compareOp CmpOp.Eq _ _) _ _ _); k_dflt (refine eq_loc (by k_asm) (by assumption) (by assumption) (fun p hp => by k_mem) (by k_units) ?_)))
  obtain ⟨⟨A₀, base, env, outer, mean, mg, mb, hh, hA, hf, hk, B, T⟩, room, unit, X, F, N⟩ := C
  obtain ⟨⟨kd, enm, ig, ic, mo⟩, eL, eg, ec, eqn, ef, ecd, efr, eb⟩ := env
  obtain ⟨ah, d, fs, gs, u⟩ := A
  dsimp only at hh hA hf hk room unit
  subst hh hA hf hk
  revert X; unfold KK PG; k_fill; intro X
  k_enter
  k_steps
  all_goals (first | exact hR _ _ _ (by first | exact and4_5 (by assumption) (by assumption) (by assumption) | exact and4_6 (by first | assumption | exact Bool.eq_false_of_not_eq_true (by assumption)) | exact and4_7 (by first | assumption | exact Bool.eq_false_of_not_eq_true (by assumption)) | exact and4_8 (by first | assumption | exact Bool.eq_false_of_not_eq_true (by assumption))) (by k_asm) (nsub (by k_asm) fun p hp => by k_mem) | (trace_state; w_report))
end Mine
end
section
open PySem PySem.W PyProof.Rows PySem.Calls
set_option maxHeartbeats 200000000
namespace Mine

theorem init_c {w : World} {A : Around} {h₀ : Heap} {L : Addr} {s : Shared} {m : Str → Option Value} {news : List (Addr × Obj)} {R : Result → Shared → Prop} {fr dx : Addr} {file num name lines stop endl col ecol : Value} {b : Bool} {df dn dm dt : PyData} {kept : Value} {kd : Nat}
    (C : Cx 10 w A h₀ L s m ((fr, { cls := .ref 120, dict := some dx, data := .plain }) :: (dx, dictOf [] 0) :: news)) (hne : ∀ p ∈ (dx, dictOf [] 0) :: news, p.1 ≠ fr) (q1 : Atom file df) (q2 : Atom num dn) (q3 : Atom name dm)
    (st : StopIs stop num endl) (lk : LookIs b lines num dt) (kp : KeptIs w news kept kd) (z1 : handedIn lines = true) (z2 : handedIn col = true) (z3 : handedIn ecol = true)
    (hR : ∀ h' tk locs nn, (∀ p ∈ news, p ∈ nn) → LocIs w nn locs kd → Fr h₀ L h' m → News h₀ L h' ((fr, frObj dx .none lines .none col ecol endl file num locs name) :: (dx, dictOf [] 0) :: nn) → R (.ok (.ret .none)) { s with heap := h', toks := tk }) :
    codeAny (model PG w) A (.call (.ref 50) ⟨[.ref fr, file, num, name], [(Str.ofString "lookup_line", .bool b), (Str.ofString "locals", kept), (Str.ofString "line", lines), (Str.ofString "end_lineno", stop), (Str.ofString "colno", col), (Str.ofString "end_colno", ecol)]⟩) R s := by
  k_with_none
  w_top off
  (k_with "k_room" => ((try simp only [depth_under_make, depth_under_kw, depth_in1, depth_deeper, depth_caller]); (try dsimp only); first | decide | omega | (have := recLim; omega)))
  (k_with "k_units" => ((try simp only [Around.in1_units, Around.deeper_units, Around.mark_units]); (try dsimp only); (have := cRoomIs); omega))
  (k_with "k_handed" => exact Atom.handed (by assumption))
  (k_with "ke_read" => exact Atom.reads (by assumption))
  (k_with "call builtin:iter" => (k_here; (with_reducible show wpAny _ _ (call (Value.builtin "iter") [Value.ref _]) _ _ _); k_dflt (refine iter_list (by k_asm) (by k_asm) (by k_mem) ?_); intro D' h' F' N' l1; (try k_lt l1)))
  (k_with "getAttr ref" => (k_here; (with_reducible show wpAny _ _ (getAttr (Value.ref _) (PySem.Str.ofString "line") _) _ _ _); k_dflt (refine' get_propS ?k1 ?k2 ?k3 ?k4 ?k5 ?k6 ?k7 ?k8 ?k9 ?_; (case k1 => k_asm); (case k2 => k_asm); (case k3 => k_inst); (case k4 => k_is); (case k5 => k_is); (case k6 => k_is); (case k7 => k_is); (case k8 => k_is); (case k9 => k_is); k_whole); (refine line_c (Cx.mk ⟨_, _, _, _, _, _, _, rfl, rfl, rfl, rfl, (by k_asm), (by k_asm)⟩ (by k_room) (by k_units) (by k_asm) (by k_asm) (by k_asm)) (by assumption) (by k_mem) (by k_mem) ?_); intro h' tk' v' a' F' N'; (refine handed_on (Atom.handed a') ?_); (try dsimp only)))
  (k_with "exec Try" => (k_here; (with_reducible show wpAny _ _ (exec (Stmt.Try _ (_ :: _) _ [] _) _) _ _ _); refine wpAny_Try_except ?_))
  (k_with "k_upd" => first | exact Upd.head (by with_reducible assumption) | exact Upd.tail (neN (by (try dsimp only); omega)) (by k_upd))
  (k_with "k_handed" => exact StopIs.handed (by with_reducible assumption) (by with_reducible assumption))
  (k_with "eval IfExp" => (k_here; (with_reducible rename Passed => pX'); (with_reducible rename KeptIs _ _ _ _ => sX'); (with_reducible rename Fr _ _ _ _ => lF'); (with_reducible rename News _ _ _ _ => lN'); (k_dflt (refine kept_cut (fr := fr) (dx := dx) sX' lF' lN' (by k_mem) (fun e1 => ?_) (fun a1 o1 e1 m1 z1 i1 => ?_) (fun a1 o1 t1 e1 m1 z1 i1 => ?_) (fun a1 o1 t1 e1 m1 z1 i1 => ?_) (fun v' h' tk' nn' sb' lc' F' N' ne' => ?_))) <;> (clear sX' pX'; try subst e1)))
  (k_with "eval IfExp" => (k_here; (with_reducible rename StopIs _ _ _ => sX'); (have hS' := StopIs.handed sX' (by with_reducible assumption)); (k_dflt (refine stop_cut2 sX' (fun e1 e2 => ?_) (fun i' t' e1 e2 => ?_) (fun tk' => have pX' : Passed := ⟨trivial⟩; ?_))) <;> (clear sX'; try (subst e1; subst e2))))
  (k_with "truthy ref" => (k_here; k_dflt (first | refine truthy_nil (by k_asm) (by k_mem) (by with_reducible assumption) (by with_reducible assumption) ?_ | refine truthy_cons (by k_asm) (by k_mem) (by with_reducible assumption) (by with_reducible assumption) (by exact Nat.le_of_ble_eq_true rfl) ?_)))
  (k_with "eval DictComp" => (k_here; (with_reducible rename Fr _ _ _ _ => lF'); (with_reducible rename News _ _ _ _ => lN'); k_dflt (refine dk_DictComp lF' (by rfl) (by decide) (by rfl) (by decide) (by rfl) (by rfl) (by decide) (by decide) ?_); (with_unfolding_all ((refine MethodCall_ ?_); (refine ld lF' (by rfl) ?_); (refine kdl_method (knd := PySem.strKind _ _) PySem.F.slot_dict_items PySem.F.type_dict_items lN' (by k_mem) (by with_reducible assumption) ?_); (refine callWith_method0 ?_); (refine kta_callItems (knd := PySem.strKind _ _) lF' lN' (by k_mem) (by with_reducible assumption) (by with_reducible assumption) ?_))); intro h' hv' F' N'; (with_unfolding_all refine dkSrc_ (by rfl) F' N' hv' (by k_mem) (by with_reducible assumption) (by exact Nat.le_of_ble_eq_true rfl) ?_); clear lF' lN'; intro g'))
  (k_with "DkRest" => (k_here; first | (refine dk_cons ?_; intro t' I' oI' C' oC' D' m' h' tk' E' hC' ha' hb' F' N' off' ne'; (try dsimp only at ha' hb'); (have offR := off'); (try simp only [LCg.Off3, and_true] at off')) | refine dk_nil ?_))
  (k_with "FinD" => (intro D' oD' h' tk' F' N' iD' neD' leD'))
  (k_with "CompEnd" => (k_here; (with_reducible rename Fr _ _ _ _ => lF'); (with_reducible rename News _ _ _ _ => lN'); (with_reducible rename LCg.Off3 _ _ _ _ => lO'); k_dflt (refine compEnd_0 lF' lN' lO' (by exact Or.inr ⟨_, by k_mem, rfl, 0, rfl⟩) ?_)))
  (k_with "LocEnd" => (k_here; (with_reducible rename Fr _ _ _ _ => lF'); (with_reducible rename News _ _ _ _ => lN'); k_dflt (first | refine locEnd_none lF' lN' (by intro p hp; first | exact hp | exact List.Mem.tail _ hp | exact List.Mem.tail _ (List.Mem.tail _ hp) | exact List.Mem.tail _ (List.Mem.tail _ (List.Mem.tail _ hp))) (by assumption) | refine locEnd_dict lF' lN' (by k_mem) (by assumption) (by intro p hp; first | exact hp | exact List.Mem.tail _ hp | exact List.Mem.tail _ (List.Mem.tail _ hp) | exact List.Mem.tail _ (List.Mem.tail _ (List.Mem.tail _ hp))) (by intro p hp; first | exact hp | exact List.Mem.tail _ hp | exact List.Mem.tail _ (List.Mem.tail _ hp) | exact List.Mem.tail _ (List.Mem.tail _ (List.Mem.tail _ hp))) (by assumption) (not_mod (TopRead.nolimit (by k_asm)) (by assumption)) (by assumption) (by first | exact kv_one | exact kv_two))))
  (k_with "call builtin:repr" => (k_here; k_dflt (refine repr_7 ?_)))
  (k_with "ValEnd" => exact ⟨rfl, _, rfl⟩)
  (k_with "exec If" => (k_here; (with_reducible rename LookIs _ _ _ _ => sX'); (k_dflt (refine look_cut2 sX' (by k_asm) (by k_asm) (fun e1 => ?_) (fun e1 lS' => ?_) (fun h' tk' F' N' => ?_))) <;> (clear sX'; try subst e1)))
  (k_with "StEnd" => exact stEnd_ (by k_asm) (by k_asm) (fun p hp => hp))
  (k_with "newList" => (k_here; k_dflt (refine' newList_n ?F ?N ?_ ?z; (case F => k_asm); (case N => k_asm); (case z => kmk_size)); intro D' h' F' N'))
  (k_with "newTuple" => (k_here; k_dflt (refine' newTuple_n ?F ?N ?_ ?z; (case F => k_asm); (case N => k_asm); (case z => kmk_size)); intro D' h' F' N'))
  obtain ⟨⟨A₀, base, env, outer, mean, mg, mb, hh, hA, hf, hk, B, T⟩, room, unit, X, F, N⟩ := C
  obtain ⟨⟨kd, enm, ig, ic, mo⟩, eL, eg, ec, eqn, ef, ecd, efr, eb⟩ := env
  obtain ⟨ah, d, fs, gs, u⟩ := A
  dsimp only at hh hA hf hk room unit
  subst hh hA hf hk
  revert X; unfold KK PG; k_fill; intro X
  k_enter
  rename_i D1 o1 g1 L1 h1 tk1 lo1 hs1 fs1 FG1 F0 N1 B1 X1 T1 l1
  have F1 := (show Fr _ _ _ (fun y => List.lookup y [(Str.ofString "kwargs", Value.ref D1), (Str.ofString "end_colno", ecol), (Str.ofString "colno", col), (Str.ofString "end_lineno", stop), (Str.ofString "line", lines), (Str.ofString "locals", kept), (Str.ofString "lookup_line", Value.bool b), (Str.ofString "name", name), (Str.ofString "lineno", num), (Str.ofString "filename", file), (Str.ofString "self", Value.ref fr)]) from F0)
  clear F0
  k_steps
  all_goals (first | exact hR _ _ _ _ (by with_reducible assumption) (by with_reducible assumption) (by k_asm) (nsub (by k_asm) fun p hp => by k_mem) | (trace_state; w_report))
end Mine
end
section
open PySem PySem.W PyProof.Rows PySem.Calls
set_option maxHeartbeats 200000000
namespace Mine

theorem bare_c {w : World} {A : Around} {h₀ : Heap} {L : Addr} {s : Shared} {m : Str → Option Value} {news : List (Addr × Obj)} {R : Result → Shared → Prop} {x y : Str} {t : Tok} (C : Cx 10 w A h₀ L s m news) (b : BareIs x y)
    (hR : ∀ h' tk t', Fr h₀ L h' m → News h₀ L h' news → R (.ok (.ret (.str y t'))) { s with heap := h', toks := tk }) :
    codeAny (model PG w) A (.call (.ref 144) ⟨[.str x t], []⟩) R s := by
  k_with_none
  w_top off
  (k_with "k_room" => ((try simp only [depth_under_make, depth_under_kw, depth_in1, depth_deeper, depth_caller]); (try dsimp only); first | decide | omega | (have := recLim; omega)))
  (k_with "k_units" => ((try simp only [Around.in1_units, Around.deeper_units, Around.mark_units]); (try dsimp only); (have := cRoomIs); omega))
  (k_with "k_handed" => exact Atom.handed (by assumption))
  (k_with "ke_read" => exact Atom.reads (by assumption))
  (k_with "k_all" => with_reducible assumption)
  (k_with "call builtin:iter" => (k_here; (with_reducible show wpAny _ _ (call (Value.builtin "iter") [Value.ref _]) _ _ _); k_dflt (refine iter_list (by k_asm) (by k_asm) (by k_mem) ?_); intro D' h' F' N' l1; (try k_lt l1)))
  (k_with "getAttr ref" => (k_here; (with_reducible show wpAny _ _ (getAttr (Value.ref _) (PySem.Str.ofString "line") _) _ _ _); k_dflt (refine' get_propS ?k1 ?k2 ?k3 ?k4 ?k5 ?k6 ?k7 ?k8 ?k9 ?_; (case k1 => k_asm); (case k2 => k_asm); (case k3 => k_inst); (case k4 => k_is); (case k5 => k_is); (case k6 => k_is); (case k7 => k_is); (case k8 => k_is); (case k9 => k_is); k_whole); (refine line_c (Cx.mk ⟨_, _, _, _, _, _, _, rfl, rfl, rfl, rfl, (by k_asm), (by k_asm)⟩ (by k_room) (by k_units) (by k_asm) (by k_asm) (by k_asm)) (by assumption) (by k_mem) (by k_mem) ?_); intro h' tk' v' a' F' N'; (refine handed_on (Atom.handed a') ?_); (try dsimp only)))
  (k_with "CompSrcT" => (k_here; k_dflt (refine LCt.CompSrcT.range (by rfl) (by k_asm) (by k_asm) (by assumption) (by first | decide | rfl) (by first | rfl | decide) (by first | size_fits | exact Nat.le_of_ble_eq_true rfl) ?_; intro g'; (first | (show LCt.CompRestT _ _ _ _ _ _ _ _ _ _ _ _ _ _ _ _ 0 _ _ _) | (show LCt.CompRestT _ _ _ _ _ _ _ _ _ _ _ _ _ _ _ _ 3 _ _ _) | (show LCt.CompRestT _ _ _ _ _ _ _ _ _ _ _ _ _ _ _ _ 4 _ _ _) | (show LCt.CompRestT _ _ _ _ _ _ _ _ _ _ _ _ _ _ _ _ 5 _ _ _)))))
  (k_with "eval ListComp" => (k_here; lct_look; lcg_calm; k_dflt (refine LCt.ListComp_T (F₀ := by k_asm) (by with_unfolding_all rfl) (by decide) (by rfl) (by decide) (by rfl) ?_); k_dflt lct_toSrc))
  (k_with "CompRestT" => (with_unfolding_all first | (refine LCt.CompRestT.succ ?_; intro v' I' oI' C' oC' D' m' h' tk' E' hv' hC' hx' F' N' off' ne'; (obtain ⟨t9', rfl⟩ := hv')) | refine LCt.CompRestT.zero ?_))
  (k_with "subscriptTail Name Name str int" => (k_here; (with_reducible show wpAny _ _ (subscriptTail _ _ (Value.str _ _) (Value.int _ _)) _ _ _); k_dflt (refine KXi.item (by kxi_len) (by decide) (by decide) (by decide) ?_); intro _))
  (k_with "compareOp NotEq ref ref" => (k_here; (with_reducible show wpAny _ _ (compareOp CmpOp.NotEq (Value.ref _) (Value.ref _)) _ _ _); (with_reducible rename News _ _ _ _ => lN'); (try simp only [List.nil_append, List.cons_append] at lN'); k_dflt (first | refine ne_nil_nil lN' (by k_mem) (by k_mem) (by k_units) ?_ | refine ne_cons_nil lN' (by k_mem) (by k_mem) (by repeat (first | exact AllInt.nil | refine AllInt.cons ?_)) (by k_units) ?_)))
  (k_with "CompEnd" => (k_here; (with_reducible rename Fr _ _ _ _ => lF'); (with_reducible rename News _ _ _ _ => lN'); (with_reducible rename LCg.Off3 _ _ _ _ => lO'); first | refine compEnd_1 lF' lN' lO' True.intro ?_ | refine compEnd_0 lF' lN' lO' True.intro ?_ | k_dflt (refine compEnd_1 lF' lN' lO' True.intro ?_)))
  (k_with "call builtin:str.split" => (k_here; (with_reducible show wpAny _ _ (call (Value.builtin "str.split") [Value.str _ _, Value.str _ _]) _ _ _); (with_reducible rename BareIs _ _ => bI'); refine cut_ ?_))
  (k_with "newList" => (k_here; k_dflt (refine' newList_n ?F ?N ?_ ?z; (case F => k_asm); (case N => k_asm); (case z => kmk_size)); intro D' h' F' N'))
  (k_with "newTuple" => (k_here; k_dflt (refine' newTuple_n ?F ?N ?_ ?z; (case F => k_asm); (case N => k_asm); (case z => kmk_size)); intro D' h' F' N'))
  obtain ⟨⟨A₀, base, env, outer, mean, mg, mb, hh, hA, hf, hk, B, T⟩, room, unit, X, F, N⟩ := C
  obtain ⟨⟨kd, enm, ig, ic, mo⟩, eL, eg, ec, eqn, ef, ecd, efr, eb⟩ := env
  obtain ⟨ah, d, fs, gs, u⟩ := A
  dsimp only at hh hA hf hk room unit
  subst hh hA hf hk
  revert X; unfold KK PG; k_fill; intro X
  k_enter
  (with_reducible rename (∀ p ∈ _, _ < _) => hAll)
  have hS := neS hAll
  k_steps
  all_goals unfold Cut
  (with_reducible rename BareIs _ _ => bI)
  rcases bI with ⟨rfl, rfl⟩ | ⟨rfl, rfl⟩ | ⟨rfl, rfl⟩ | ⟨rfl, rfl⟩ | ⟨rfl, rfl⟩ | ⟨rfl, rfl⟩
  all_goals k_steps
  all_goals (first | exact hR _ _ _ (by k_asm) (nsub (by k_asm) fun p hp => by k_mem) | (trace_state; w_report))
end Mine
end
section
open PySem PySem.W PyProof.Rows PySem.Calls
set_option maxHeartbeats 200000000
namespace Mine

theorem frame_c {w : World} {A : Around} {h₀ : Heap} {L : Addr} {s : Shared} {m : Str → Option Value} {news : List (Addr × Obj)} {R : Result → Shared → Prop} {x : Int} {t : Tok}
    (C : Cx 20 w A h₀ L s m news) (hx0 : 0 ≤ x) (hx1 : x < 10368)
    (hR : ∀ h' tk v own, IsThing w own v → (∀ p ∈ own, ∀ q ∈ news, p.1 ≠ q.1) → Fr h₀ L h' m → News h₀ L h' (own ++ news) → R (.ok (.ret v)) { s with heap := h', toks := tk }) :
    codeAny (model PG w) A (.call (.ref 151) ⟨[.int x t], []⟩) R s := by
  k_with_none
  w_top off
  (k_with "k_room" => ((try simp only [depth_under_make, depth_under_kw, depth_in1, depth_deeper, depth_caller]); (try dsimp only); first | decide | omega | (have := recLim; omega)))
  (k_with "k_units" => ((try simp only [Around.in1_units, Around.deeper_units, Around.mark_units]); (try dsimp only); (have := cRoomIs); omega))
  (k_with "k_handed" => exact Atom.handed (by assumption))
  (k_with "ke_read" => exact Atom.reads (by assumption))
  (k_with "call builtin:iter" => (k_here; (with_reducible show wpAny _ _ (call (Value.builtin "iter") [Value.ref _]) _ _ _); k_dflt (refine iter_list (by k_asm) (by k_asm) (by k_mem) ?_); intro D' h' F' N' l1; (try k_lt l1)))
  (k_with "getAttr ref" => (k_here; (with_reducible show wpAny _ _ (getAttr (Value.ref _) (PySem.Str.ofString "line") _) _ _ _); k_dflt (refine' get_propS ?k1 ?k2 ?k3 ?k4 ?k5 ?k6 ?k7 ?k8 ?k9 ?_; (case k1 => k_asm); (case k2 => k_asm); (case k3 => k_inst); (case k4 => k_is); (case k5 => k_is); (case k6 => k_is); (case k7 => k_is); (case k8 => k_is); (case k9 => k_is); k_whole); (refine line_c (Cx.mk ⟨_, _, _, _, _, _, _, rfl, rfl, rfl, rfl, (by k_asm), (by k_asm)⟩ (by k_room) (by k_units) (by k_asm) (by k_asm) (by k_asm)) (by assumption) (by k_mem) (by k_mem) ?_); intro h' tk' v' a' F' N'; (refine handed_on (Atom.handed a') ?_); (try dsimp only)))
  (k_with "exec Try" => (k_here; (with_reducible show wpAny _ _ (exec (Stmt.Try _ (_ :: _) _ [] _) _) _ _ _); refine wpAny_Try_except ?_))
  (k_with "subscriptTail" => (k_here; (with_reducible show wpAny _ _ (subscriptTail _ _ (Value.ref _) (Value.int (Int.fmod (Int.fdiv _ 4) 4) _)) _ _ _); (with_reducible rename News _ _ _ _ => lN'); k_dflt (refine menu_num lN' (by k_mem) (by first | exact Int.fmod_nonneg_of_pos _ (by decide) | exact fm_lt rfl (by decide) | exact Int.fmod_lt_of_pos _ (by decide)) (by first | exact Int.fmod_nonneg_of_pos _ (by decide) | exact fm_lt rfl (by decide) | exact Int.fmod_lt_of_pos _ (by decide)) (by exact Nat.le_of_ble_eq_true rfl) (by exact rfl) ?_ (by with_unfolding_all rfl)); intro v' nI'; (have N9' := news_tl lN'); clear lN'))
  (k_with "subscriptTail" => (k_here; (with_reducible show wpAny _ _ (subscriptTail _ _ (Value.ref _) (Value.int (Int.fmod x 4) _)) _ _ _); (with_reducible rename News _ _ _ _ => lN'); k_dflt (refine menu_txt lN' (by k_mem) (by first | exact Int.fmod_nonneg_of_pos _ (by decide) | exact fm_lt rfl (by decide) | exact Int.fmod_lt_of_pos _ (by decide)) (by first | exact Int.fmod_nonneg_of_pos _ (by decide) | exact fm_lt rfl (by decide) | exact Int.fmod_lt_of_pos _ (by decide)) (by exact Nat.le_of_ble_eq_true rfl) (by kernel_rfl) ?_ (by with_unfolding_all rfl)); intro f' t' aF' qF'; (have N9' := news_tl lN'); clear lN'))
  (k_with "subscriptTail" => (k_here; (with_reducible show wpAny _ _ (subscriptTail _ _ (Value.ref _) (Value.int (Int.fmod (Int.fdiv _ 16) 3) _)) _ _ _); (with_reducible rename News _ _ _ _ => lN'); k_dflt (refine menu_txt lN' (by k_mem) (by first | exact Int.fmod_nonneg_of_pos _ (by decide) | exact fm_lt rfl (by decide) | exact Int.fmod_lt_of_pos _ (by decide)) (by first | exact Int.fmod_nonneg_of_pos _ (by decide) | exact fm_lt rfl (by decide) | exact Int.fmod_lt_of_pos _ (by decide)) (by exact Nat.le_of_ble_eq_true rfl) (by kernel_rfl) ?_ (by with_unfolding_all rfl)); intro f' t' aF' qF'; (have N9' := news_tl lN'); clear lN'))
  (k_with "subscriptTail" => (k_here; (with_reducible show wpAny _ _ (subscriptTail _ _ (Value.ref _) (Value.int (Int.fmod (Int.fdiv _ 48) 6) _)) _ _ _); (with_reducible rename News _ _ _ _ => lN'); k_dflt (refine menu_text lN' (by k_mem) (by first | exact Int.fmod_nonneg_of_pos _ (by decide) | exact fm_lt rfl (by decide) | exact Int.fmod_lt_of_pos _ (by decide)) (by first | exact Int.fmod_nonneg_of_pos _ (by decide) | exact fm_lt rfl (by decide) | exact Int.fmod_lt_of_pos _ (by decide)) ?_ (by with_unfolding_all rfl)); intro x' t' y' bI'; (have N9' := news_tl lN'); clear lN'))
  (k_with "subscriptTail" => (k_here; (with_reducible show wpAny _ _ (subscriptTail _ _ (Value.ref _) (Value.int (Int.fmod (Int.fdiv _ 288) 4) _)) _ _ _); (with_reducible rename News _ _ _ _ => lN'); (with_reducible rename KeptIs _ _ _ _ => kX'); k_dflt (refine menu_words lN' (by k_mem) (by first | exact Int.fmod_nonneg_of_pos _ (by decide) | exact fm_lt rfl (by decide) | exact Int.fmod_lt_of_pos _ (by decide)) (by first | exact Int.fmod_nonneg_of_pos _ (by decide) | exact fm_lt rfl (by decide) | exact Int.fmod_lt_of_pos _ (by decide)) (by k_mem) (by with_reducible assumption) (by with_reducible assumption) (by exact rfl) (by k_mem) (by with_reducible assumption) (by with_reducible assumption) (by exact rfl) ?_ (by with_unfolding_all rfl)); intro v' lI'))
  (k_with "subscriptTail" => (k_here; (with_reducible show wpAny _ _ (subscriptTail _ _ (Value.ref _) (Value.int (Int.fmod (Int.fdiv _ 288) 4) _)) _ _ _); (with_reducible rename News _ _ _ _ => lN'); (fail_if_success (with_reducible rename KeptIs _ _ _ _ => kX')); k_dflt (refine menu_kept lN' (by k_mem) (by first | exact Int.fmod_nonneg_of_pos _ (by decide) | exact fm_lt rfl (by decide) | exact Int.fmod_lt_of_pos _ (by decide)) (by first | exact Int.fmod_nonneg_of_pos _ (by decide) | exact fm_lt rfl (by decide) | exact Int.fmod_lt_of_pos _ (by decide)) (by k_mem) (by with_reducible assumption) (by with_reducible assumption) (by exact rfl) (by k_mem) (by with_reducible assumption) (by with_reducible assumption) (by exact rfl) (by k_mem) (by with_reducible assumption) (by with_reducible assumption) (by exact rfl) ?_ (by with_unfolding_all rfl)); intro v' kI'))
  (k_with "subscriptTail" => (k_here; (with_reducible show wpAny _ _ (subscriptTail _ _ (Value.ref _) (Value.int (Int.fmod (Int.fdiv _ 3456) 3) _)) _ _ _); (with_reducible rename News _ _ _ _ => lN'); k_dflt (refine menu_tri lN' (by k_mem) (by first | exact Int.fmod_nonneg_of_pos _ (by decide) | exact fm_lt rfl (by decide) | exact Int.fmod_lt_of_pos _ (by decide)) (by first | exact Int.fmod_nonneg_of_pos _ (by decide) | exact fm_lt rfl (by decide) | exact Int.fmod_lt_of_pos _ (by decide)) (by k_mem) (by k_mem) (by k_mem) (by exact rfl) ?_ (by with_unfolding_all rfl)); intro t' v1' v2' v3' tm' tI'))
  (k_with "k_handed" => first | exact NumIs.handed (by with_reducible assumption) | exact LocIs.handed (by with_reducible assumption) | exact TxIs.handed (by with_reducible assumption) | exact NumIs.handed (TriIs.s (by with_reducible assumption)) | exact NumIs.handed (TriIs.f (by with_reducible assumption)) | exact NumIs.handed (TriIs.b (by with_reducible assumption)))
  (k_with "exec Assign" => (k_here; (with_reducible show wpAny _ _ (exec (Stmt.Assign [Expr.Tuple _ _ _] (Expr.Subscript _ _ _) _) _) _ _ _); refine Assign_Tuple ?_ (by kernel_rfl) (by kernel_rfl)))
  (k_with "execs cons" => (k_here; (with_reducible show wpAny _ _ (execs (PySem.Stmt.Assign [PySem.Expr.Name (PySem.Str.ofString "text") _] (PySem.Expr.IfExp _ _ _ _) _ :: _) _) _ _ _); (fail_if_success (with_reducible rename Passed => pX)); refine cut_ ?_))
  (k_with "eval IfExp" => (k_here; (with_reducible show wpAny _ _ (eval (PySem.Expr.IfExp (PySem.Expr.Compare (PySem.Expr.Name (PySem.Str.ofString "mode") _) _ _ _) _ _ _) _) _ _ _); (with_reducible rename ModeIs _ _ _ _ _ _ => md'); k_dflt (refine text_cut md' ?tca ?tcb ?tcc); (case' tca => (intro e1; clear md')); (case' tcb => (intro e1; clear md')); (case' tcc => intro tk')))
  (k_with "eval BoolOp" => (k_here; (with_reducible show wpAny _ _ (eval (PySem.Expr.BoolOp BoolOp.And _ _) _) _ _ _); (with_reducible rename ModeIs _ _ _ _ _ _ => md'); k_dflt (refine late_cut md' ?lca ?lcb ?lcc ?lcd); (case' lca => (intro e1 e2; clear md'; subst e2)); (case' lcb => (intro i' t' e1 e2; clear md'; subst e2)); (case' lcc => (intro e1; clear md')); (case' lcd => intro tk')))
  (k_with "eval BoolOp" => (k_here; (with_reducible show wpAny _ _ (eval (PySem.Expr.BoolOp BoolOp.Or _ _) _) _ _ _); (with_reducible rename ModeIs _ _ _ _ _ _ => md'); k_dflt (refine early_cut md' ?eca ?ecb ?ecc ?ecd ?ece); (case' eca => (intro e1 e2; clear md'; subst e2)); (case' ecb => (intro i' t' e1 e2; clear md'; subst e2)); (case' ecc => (intro e1; clear md')); (case' ecd => (intro e1; clear md')); (case' ece => intro tk')))
  (k_with "ValEnd" => (exact ⟨rfl, _, rfl⟩))
  (k_with "eval IfExp" => (k_here; (with_reducible show wpAny _ _ (eval (PySem.Expr.IfExp (PySem.Expr.Compare (PySem.Expr.Name (PySem.Str.ofString "text") _) _ _ _) _ _ _) _) _ _ _); (with_reducible rename TxIs _ _ => tI'); (with_reducible rename Fr _ _ _ _ => lF'); (with_reducible rename News _ _ _ _ => lN'); k_dflt (refine due_cut lF' lN' tI' ?dca ?dcb ?dcc); (case' dca => (intro e1; clear tI'; subst e1)); (case' dcb => (intro x' t' y' e1 b1; clear tI'; subst e1)); (case' dcc => intro v' h' tk' a' F' N')))
  (k_with "DueEnd" => (k_here; (with_reducible rename Fr _ _ _ _ => lF'); (with_reducible rename News _ _ _ _ => lN'); first | exact ⟨⟨_, _, rfl, lF', lN', .inl ⟨rfl, rfl⟩⟩⟩ | exact ⟨⟨_, _, rfl, lF', lN', BareIs.atom (by with_reducible assumption)⟩⟩))
  (k_with "call ref" => (k_here; (with_reducible show wpAny _ _ (call (Value.ref 144) [Value.str _ _]) _ _ _); k_dflt (refine wpAny_call (bare_c (Cx.mk ⟨_, _, _, _, _, _, _, rfl, rfl, rfl, rfl, (by k_asm), (by k_asm)⟩ (by k_room) (by k_units) (by k_asm) (by k_asm) (by k_asm)) (by with_reducible assumption) ?_)); intro h' tk' t' F' N'; (try dsimp only)))
  (k_with "eval IfExp" => (k_here; (with_reducible show wpAny _ _ (eval (PySem.Expr.IfExp (PySem.Expr.Compare (PySem.Expr.Name (PySem.Str.ofString "stop") _) _ _ _) _ _ _) _) _ _ _); (with_reducible rename StopIs _ _ _ => sX'); k_dflt (refine stop_cut2 sX' ?sca ?scb ?scc); (case' sca => (intro e1 e2; clear sX'; subst e1; subst e2)); (case' scb => (intro i' t' e1 e2; clear sX'; subst e1; subst e2)); (case' scc => intro tk')))
  (k_with "compareOp Is" => (k_here; exfalso; first | contradiction | omega))
  (k_with "compareOp IsNot" => (k_here; exfalso; first | contradiction | omega))
  (k_with "ValEnd" => (exfalso; first | contradiction | omega))
  (k_with "ValEnd" => (exact ⟨congrArg Value.bool (by first | exact beq_eq_false_iff_ne.mpr (by assumption) | exact beq_iff_eq.mpr (by assumption) | exact beq_eq_false_iff_ne.mpr (by omega)), _, rfl⟩))
  (k_with "ValEnd" => (exact ⟨rfl, _, rfl⟩))
  (k_with "call ref" => (k_here; (with_reducible show wpAny _ _ (call (Value.ref 120) _ _) _ _ _); k_dflt (refine' call_cls ?k1 ?k2 ?k3 ?k4 ?k5 ?k6 ?_; (case k1 => k_asm); (case k2 => k_asm); (case k3 => k_asm); (case k4 => k_is); (case k5 => k_is); (case k6 => k_is); k_whole); intro x' d' h' F' N' l1 l2; k_dflt (refine init_c (Cx.mk ⟨_, _, _, _, _, _, _, rfl, rfl, rfl, rfl, (by k_asm), (by k_asm)⟩ (by k_room) (by k_units) (by k_asm) (by k_asm) (by k_asm)) (hne_of l1 l2) (by with_reducible assumption) (by with_reducible assumption) (by with_reducible assumption) (by with_reducible assumption) (by with_reducible assumption) (by with_reducible assumption) (TxIs.handed (by with_reducible assumption)) (NumIs.handed (by with_reducible assumption)) (NumIs.handed (by with_reducible assumption)) ?_); intro h' tk' lo' nn' sb' lc' F' N'; (refine initBack_ ?_); (try dsimp only)))
  (k_with "k_units" => ((simp only [units_call, Around.in1_units, Around.deeper_units, Around.mark_units]); (try dsimp only); (have := cRoomIs); omega))
  (k_with "execs cons" => (k_here; first | (with_reducible show wpAny _ _ _ _ _ ⟨_, _, _, _ + _, _⟩); refine gen_tok ?_; intro tk'))
  (k_with "execs nil" => (k_here; first | (with_reducible show wpAny _ _ _ _ _ ⟨_, _, _, _ + _, _⟩); refine gen_tok ?_; intro tk'))
  (k_with "LeaveK" => (k_here; refine cut_ ?_))
  (k_with "newList" => (k_here; k_dflt (refine' newList_n ?F ?N ?_ ?z; (case F => k_asm); (case N => k_asm); (case z => kmk_size)); intro D' h' F' N'))
  (k_with "newTuple" => (k_here; k_dflt (refine' newTuple_n ?F ?N ?_ ?z; (case F => k_asm); (case N => k_asm); (case z => kmk_size)); intro D' h' F' N'))
  obtain ⟨⟨A₀, base, env, outer, mean, mg, mb, hh, hA, hf, hk, B, T⟩, room, unit, X, F, N⟩ := C
  obtain ⟨⟨kd, enm, ig, ic, mo⟩, eL, eg, ec, eqn, ef, ecd, efr, eb⟩ := env
  obtain ⟨ah, d, fs, gs, u⟩ := A
  dsimp only at hh hA hf hk room unit
  subst hh hA hf hk
  revert X; unfold KK PG; k_fill; intro X
  (refine' code_defC ?k1 ?k2 ?k3 ?k4 ?k5 ?kA ?kF ?kK ?k6 ?k7 ?k8 ?k9 ?kB ?kD ?_ ?c2 ?c3 ?c4; (case kA => exact rfl); (case kF => exact rfl); (case kK => exact rfl); (case k1 => k_asm); (case k2 => k_asm); (case k3 => k_asm); (case k4 => k_asm); (case k5 => k_asm); (case k6 => k_is); (case k7 => k_is); (case k8 => k_room); (case k9 => first | exact BindsTo.of_eq rfl | exact binds_K (by k_in) rfl (by k_is) rfl rfl rfl); (case kB => exact rfl); (case kD => decide +kernel); (case c2 => exact rfl); (case c3 => exact rfl); (case c4 => exact rfl))
  intro g1 L1 h1 tk1 cells1 FG1 F0 N0 Y1 B1 X1 T1 l1
  have hc := cells_nil Y1 rfl
  subst hc
  obtain ⟨g₂, hsz, hkeep, hrest, F2, N2⟩ := reground (cells := []) (ex := []) F0 N0 l1 (List.forall_mem_nil _) (List.forall_mem_nil _)
  simp only [List.nil_append] at N2
  have B2 := Below.mk B1.stack (fun b o e => hkeep _ _ (B1.stays b o e)) (B1.frames.of_keeps fun b o e _ => ⟨o, hkeep b o e, rfl⟩)
  have X2 := X1.keeps hkeep
  have T2 := T1.keeps hkeep
  refine wpAny_mono (Q := fun fl s' => LeaveK h₀ L m g₂ (fun r s' => (∀ p ∈ restOf [] news, s'.heap.get? p.1 = some p.2) → R r s') (match fl with | .ret v => v | _ => .none) s') ?_ (fun fl s' hl => leave_more (hsz ▸ F0.above) hkeep hrest hl) (fun _ _ e => e)
  clear hkeep hsz F0 N0 B1 X1 T1 l1 Y1 FG1
  (try dsimp only)
  try k_fold
  k_steps
  all_goals unfold Cut
  (with_reducible rename Fr _ _ _ _ => F2); (with_reducible rename News _ _ _ _ => N2); (with_reducible rename NumIs _ => nI); (with_reducible rename BareIs _ _ => bI); (with_reducible rename KeptIs _ _ _ _ => kI); (with_reducible rename LocIs _ _ _ _ => lI); (with_reducible rename TriIs _ _ _ => tI)
  obtain ⟨nn, tx, late, early, dt, dn, endl, mo, tm, tt, xt, F3, N3, hnn, kI3, lI3, md, tI3, lk, ln, an, qn, qt, st, ne, nf, nb⟩ := pack1 (news := []) F2 N2 (Int.fmod_nonneg_of_pos _ (by decide)) (Int.fmod_lt_of_pos _ (by decide)) nI bI kI (by intro p hp; repeat (first | exact hp | refine List.Mem.tail _ ?_)) lI (by intro p hp; repeat (first | exact hp | refine List.Mem.tail _ ?_)) tI (List.forall_mem_nil _)
  clear F2 N2 kI lI tI bI hnn
  (repeat (with_reducible rename (_ ∧ _) => kz; clear kz))
  have ps : Passed := ⟨trivial⟩
  show wpAny _ _ _ _ _ ⟨_, s.gens, s.drawn, _, s.os⟩
  refine gen_tok ?_
  intro tk5
  k_steps
  all_goals unfold Cut
  (with_reducible rename Fr _ _ _ _ => FF); (with_reducible rename News _ _ _ _ => NF); (with_reducible rename (∀ p ∈ nn, _) => sbF)
  k_dflt (refine frame_leave hR FF NF N hrest ?thF)
  exact IsThing.mk _ _ _ _ _ _ _ _ _ _ _ _ _ _ _ _ _ _ _ _ _ { hr := by k_mem, hfr := by k_mem, hdx := by k_mem, hdu := by k_mem, hre := by k_mem, hf := by with_reducible assumption, hnum := by with_reducible assumption, hni := nI, hnm := by with_reducible assumption, hbt := by with_reducible assumption, hqf := by with_reducible assumption, hqn := by with_reducible assumption, hqm := by with_reducible assumption, hqt := by with_reducible assumption, hlocs := LocIs.more (by with_reducible assumption) (by intro p hp; repeat (first | exact hp | refine List.Mem.tail _ ?_)), hwords := LocIs.more lI3 (by intro p hp; (replace hp := sbF p hp); repeat (first | exact hp | refine List.Mem.tail _ ?_)), hendl := by with_reducible assumption, hcol := by with_reducible assumption, hecol := by with_reducible assumption, htx := by with_reducible assumption, hline := ln.h }
end Mine
end
section
open PySem PySem.W PyProof.Rows PySem.Calls
set_option maxHeartbeats 200000000
namespace Mine

theorem eq_frW {w : World} {A : Around} {h₀ : Heap} {L : Addr} {s : Shared} {m : Str → Option Value} {news : List (Addr × Obj)} {Q E : Value → Shared → Prop} {fr dx : Addr} {cod lines ded col ecol endl file num locs name : Value} {fr2 dx2 : Addr} {cod2 lines2 ded2 col2 ecol2 endl2 file2 num2 locs2 name2 : Value} {a1 a2 a3 b1 b2 b3 : PyData} {a4 b4 : Nat}
    (C : Cx 10 w A h₀ L s m news) (hm : (fr, frObj dx cod lines ded col ecol endl file num locs name) ∈ news) (hm2 : (dx, dictOf [] 0) ∈ news)
    (hn : (fr2, frObj dx2 cod2 lines2 ded2 col2 ecol2 endl2 file2 num2 locs2 name2) ∈ news) (hn2 : (dx2, dictOf [] 0) ∈ news)
    (q1 : Atom file a1) (q2 : Atom num a2) (q3 : Atom name a3) (q4 : LocIs w news locs a4) (r1 : Atom file2 b1) (r2 : Atom num2 b2) (r3 : Atom name2 b3) (r4 : LocIs w news locs2 b4)
    (k : ∀ h' tk b, b = (PyData.eqv a1 b1 && PyData.eqv a2 b2 && PyData.eqv a3 b3 && decide (a4 = b4)) → Fr h₀ L h' m → News h₀ L h' news → Q (.bool b) { s with heap := h', toks := tk }) :
    wpAny (model PG w) A (call (.ref 57) [.ref fr, .ref fr2]) (PySem.W.CmpBack Q) E s :=
  wpAny_call (eq_fr C hm hm2 hn hn2 q1 q2 q3 q4 r1 r2 r3 r4 fun h' tk b eb F N => k h' tk b eb F N)
theorem law0 : PySem.Challenge.rw_un0062_01.Holds := hd (by
  k_with_none
  w_top off
  (k_with "k_room" => ((try simp only [depth_under_make, depth_under_kw, depth_in1, depth_deeper, depth_caller]); (try dsimp only); first | decide | omega | (have := recLim; omega)))
  (k_with "k_units" => ((try simp only [Around.in1_units, Around.deeper_units, Around.mark_units]); (try dsimp only); (have := cRoomIs); omega))
  (k_with "k_handed" => exact Atom.handed (by assumption))
  (k_with "ke_read" => exact Atom.reads (by assumption))
  (k_with "call builtin:iter" => (k_here; (with_reducible show wpAny _ _ (call (Value.builtin "iter") [Value.ref _]) _ _ _); k_dflt (refine iter_list (by k_asm) (by k_asm) (by k_mem) ?_); intro D' h' F' N' l1; (try k_lt l1)))
  (k_with "getAttr ref" => (k_here; (with_reducible show wpAny _ _ (getAttr (Value.ref _) (PySem.Str.ofString "line") _) _ _ _); k_dflt (refine' get_propS ?k1 ?k2 ?k3 ?k4 ?k5 ?k6 ?k7 ?k8 ?k9 ?_; (case k1 => k_asm); (case k2 => k_asm); (case k3 => k_inst); (case k4 => k_is); (case k5 => k_is); (case k6 => k_is); (case k7 => k_is); (case k8 => k_is); (case k9 => k_is); k_whole); (refine line_c (Cx.mk ⟨_, _, _, _, _, _, _, rfl, rfl, rfl, rfl, (by k_asm), (by k_asm)⟩ (by k_room) (by k_units) (by k_asm) (by k_asm) (by k_asm)) (by assumption) (by k_mem) (by k_mem) ?_); intro h' tk' v' a' F' N'; (refine handed_on (Atom.handed a') ?_); (try dsimp only)))
  (k_with "exec Try" => (k_here; (with_reducible show wpAny _ _ (exec (Stmt.Try _ (_ :: _) _ [] _) _) _ _ _); refine wpAny_Try_except ?_))
  (k_with "execs cons" => (k_here; first | (with_reducible show wpAny _ _ _ _ _ ⟨_, _, _, _ + _, _⟩); refine gen_tok ?_; intro tk'))
  (k_with "execs nil" => (k_here; first | (with_reducible show wpAny _ _ _ _ _ ⟨_, _, _, _ + _, _⟩); refine gen_tok ?_; intro tk'))
  (k_with "call ref" => (k_here; (with_reducible show wpAny _ _ (call (Value.ref 151) [Value.int _ _]) _ _ _); k_dflt (refine wpAny_call (frame_c (Cx.mk ⟨_, _, _, _, _, _, _, rfl, rfl, rfl, rfl, (by k_asm), (by k_asm)⟩ (by k_room) (by k_units) (by k_asm) (by k_asm) (by k_asm)) (Int.fmod_nonneg_of_pos _ (by decide)) (Int.fmod_lt_of_pos _ (by decide)) ?_)); intro h' tk' v' own' th' fr' F' N'; (try dsimp only)))
  (k_with "exec Assign cons ListComp" => (k_here; refine cut_ ?_))
  k_go0
  all_goals (try k_fold)
  k_steps
  all_goals unfold Cut
  lcg_calm
  k_dflt (refine LCg.Assign_ListComp_U (F₀ := by k_asm) (by rfl) (by with_unfolding_all rfl) (by rfl) (by decide) (by rfl) (by decide) (by rfl) (by rfl) (by rfl) ?_)
  (k_with "CompSrc" => (refine cut_ ?_))
  k_steps
  all_goals unfold Cut
  (with_reducible rename Fr _ _ _ _ => FA); (with_reducible rename News _ _ _ _ => NA); (with_reducible rename IntsAre _ _ => iA)
  have hsz := made_size iA
  (with_reducible rename World => w)
  k_dflt (refine LCg.CompSrc.ledger (by rfl) FA NA (by k_mem) hsz ?_)
  intro g'
  k_dflt (refine compR_all (MadeJ w _ _) ?crS ?crF ⟨by k_mem, fun y hy => nomatch hy⟩)
  case crS =>
    intro i hi ys news J v I oI C oC D m₂ h tk E' hv hC hx F N off ne
    obtain ⟨k, t, rfl⟩ := int_at iA hi hv
    clear FA NA
    k_steps
    (with_reducible rename Fr _ _ _ _ => FB); (with_reducible rename News _ _ _ _ => NB); (with_reducible rename IsThing _ _ _ => tB); (with_reducible rename (∀ p ∈ _, ∀ q ∈ _, _) => frB)
    exact compEnd_own FB NB off frB (J.src' _) (J.more tB)
  case crF =>
    intro ys news hlen J
    intro D h tk F N o1
    obtain ⟨nn, N1, hTL, hall⟩ : ∃ nn, News _ _ h nn ∧ (D, listOf ys.toArray ys.length) ∈ nn ∧ ∀ y ∈ ys, IsThing w nn y := ⟨_, N, List.Mem.head _, fun y hy => (J.all y hy).more fun p hp => List.Mem.tail _ hp⟩
    have hys : ys.length ≤ sizeLine := by rw [hlen]; exact hsz
    clear FA NA N o1 J iA
    (k_with "eval Slice" => (k_here; (with_reducible refine ev_slice ?_)))
    (k_with "SlPost" => (k_here; (rename Fr _ _ _ _ => lF'); (rename News _ _ _ _ => lN'); k_dflt (refine slPost_n lF' lN' ?_); intro S' h' F' N'; clear lF' lN'))
    (k_with "subscriptTail" => (k_here; (with_reducible show wpAny _ _ (subscriptTail _ _ (Value.ref _) (Value.ref _)) _ _ _); (rename Fr _ _ _ _ => lF'); (rename News _ _ _ _ => lN'); k_dflt (refine tup_sliceD lF' lN' (by k_mem) (by kmk_part) (by kmk_part) (by kmk_part) (by rfl) (by rfl) (by first | exact pick_0 | exact pick_1 | exact pick_2 | exact pick_3 | exact pick_4 | exact pick_5 | exact pick_6 | exact pick_7 | exact pick_8 | exact pick_9 | exact pick_10) (by exact Nat.le_of_ble_eq_true rfl) ?_ (by with_unfolding_all rfl)); intro D' h' F' N'; clear lF' lN'))
    (k_with "subscriptTail Name Slice ref ref" => (walk_at "subscriptTail"))
    (k_with "subscriptTail Name Slice ref ref" => (walk_at "subscriptTail Name"))
    (k_with "subscriptTail Name Slice ref ref" => (k_here; (with_reducible show wpAny _ _ (subscriptTail _ (PySem.Expr.Slice _ _ none _) (Value.ref _) _) _ _ _); k_dflt (refine' sub_slK ?k1 ?k2 ?k3 ?k4 ?k5 ?k6 ?k7 ?_; (case k1 => k_asm); (case k2 => k_asm); (case k3 => k_inst); (case k4 => k_is); (case k5 => k_is); (case k6 => k_is); (case k7 => k_is); k_whole)))
    (k_with "k_handed" => (first | exact NumIs.handed (by with_reducible assumption) | exact LocIs.handed (by with_reducible assumption) | exact TxIs.handed (by with_reducible assumption) | exact Atom.handed (by with_reducible assumption)))
    (k_with "call ref" => (k_here; (with_reducible show wpAny _ _ (call (Value.ref 29) [_, Value.str _ _, Value.ref 139]) _ _ _); k_dflt (refine wpAny_call (safe_num (CxL.mk ⟨_, _, _, _, _, _, _, _, rfl, rfl, rfl, (by k_asm), (by k_asm)⟩ (by k_room) (by k_units) (by k_asm) (by k_asm) (by k_asm)) (by with_reducible assumption) ?_)); intro h' tk' t' F' N'; (try dsimp only)))
    (k_with "call ref" => (k_here; (with_reducible show wpAny _ _ (call (Value.ref 29) [Value.ref _, Value.str _ _, Value.ref 139]) _ _ _); k_dflt (refine wpAny_call (safe_len (Cx.mk ⟨_, _, _, _, _, _, _, rfl, rfl, rfl, rfl, (by k_asm), (by k_asm)⟩ (by k_room) (by k_units) (by k_asm) (by k_asm) (by k_asm)) (by k_mem) (by k_mem) ?_)); intro h' tk' t' F' N'; (try dsimp only)))
    (k_with "call ref" => (k_here; (with_reducible show wpAny _ _ (call (Value.ref 156) _) _ _ _); k_dflt (refine wpAny_call (reads_c (CxL.mk ⟨_, _, _, _, _, _, _, _, rfl, rfl, rfl, (by k_asm), (by k_asm)⟩ (by k_room) (by k_units) (by k_asm) (by k_asm) (by k_asm)) (by k_mem) (by k_mem) (by with_reducible assumption) (by with_reducible assumption) (by with_reducible assumption) (by with_reducible assumption) (by with_reducible assumption) (by k_mem) (NotQ.e (by with_reducible assumption)) (NotQ.e (by with_reducible assumption)) (NotQ.e (by with_reducible assumption)) (NotQ.e (by with_reducible assumption)) ?_)); intro h' tk' F' N'; (try dsimp only)))
    (k_with "compareOp NotEq ref ref" => (k_here; (with_reducible show wpAny _ _ (compareOp CmpOp.NotEq (Value.ref _) (Value.ref _)) _ _ _); (with_reducible rename News _ _ _ _ => lN'); k_dflt (first | refine ne3_same lN' (by k_mem) (by k_mem) (by with_reducible assumption) (by with_reducible assumption) (by with_reducible assumption) (by k_units) ?_ | refine ne4_same lN' (by k_mem) (by k_mem) (by k_units) (eqp_loc lN' (by with_reducible assumption) (by with_reducible assumption) (by intro p hp; repeat (first | exact hp | refine List.Mem.tail _ ?_)) (by k_units)) eqp_same eqp_same eqp_same ?_)))
    (k_with "newList" => (k_here; k_dflt (refine' newList_n ?F ?N ?_ ?z; (case F => k_asm); (case N => k_asm); (case z => kmk_size)); intro D' h' F' N'))
    (k_with "newTuple" => (k_here; k_dflt (refine' newTuple_n ?F ?N ?_ ?z; (case F => k_asm); (case N => k_asm); (case z => kmk_size)); intro D' h' F' N'))
    (k_with "GoPost" => (k_here; k_dflt (first | refine goPost_next ?_ | refine goPost_cont ?_ | refine goPost_brk ?_ | refine goPost_ret ?_); (try dsimp only)))
    (k_with "exec For" => (k_here; refine cut_ ?_))
    k_steps
    all_goals unfold Cut
    refine For_go (ys.length + 1) ?_
    (k_with "pyIter ref" => (k_here; refine cut_ ?_))
    k_steps
    all_goals unfold Cut
    (with_reducible rename Fr _ _ _ _ => FL); (with_reducible rename News _ _ _ _ => NL)
    refine go_list [Str.ofString "frame", Str.ofString "due", Str.ofString "rest", Str.ofString "text", Str.ofString "late"] rfl rfl FL NL hTL ?l1S ?l1F
    case l1S =>
      clear FL NL
      intro i v hv I oI h1 tk1 u it F1 N1 hI
      obtain ⟨r, fr, dx, du, re, f, nm, tf, tn, num, locs, words, endl, col, ecol, tx, bt, dn, dt, k, late, T⟩ := hall v (List.mem_of_getElem? hv)
      obtain ⟨hr, hfr, hdx, hdu, hre, hf, hnum, hni, hnm, hbt, hqf, hqn, hqm, hqt, hlocs, hwords, hendl, hcol, hecol, htx, hline⟩ := T
      (k_with "exec If" => (k_here; (with_reducible show wpAny _ _ (exec (Stmt.If (Expr.BoolOp BoolOp.And _ _) _ _ _) _) _ _ _); (fail_if_success (with_reducible rename Passed => pX)); refine cut_ ?_))
      (k_with "LoopJ" => (k_here; refine cut_ ?_))
      k_steps
      all_goals unfold Cut
      have ps : Passed := ⟨trivial⟩
      cases late
      case' false => have hline' := hline rfl
      all_goals k_steps
      all_goals unfold Cut
      all_goals ((with_reducible rename Fr _ _ _ _ => FZ); (with_reducible rename News _ _ _ _ => NZ); exact loopJ_ FZ NZ (by intro p hp; repeat (first | exact hp | refine List.Mem.tail _ ?_)) it (by repeat (first | exact Jm.base | refine Jm.set (by decide +kernel) ?_)))
    case l1F =>
      clear FL NL
      intro h2 tk2 u2 F2 N2
      k_steps
      all_goals unfold Cut
      refine For_go (ys.length + 1) ?_
      k_steps
      all_goals unfold Cut
      (with_reducible rename Fr _ _ _ _ => FL2); (with_reducible rename News _ _ _ _ => NL2)
      refine go_list [Str.ofString "frame", Str.ofString "due", Str.ofString "rest", Str.ofString "text", Str.ofString "late", Str.ofString "other", Str.ofString "row", Str.ofString "same", Str.ofString "words", Str.ofString "later"] rfl rfl FL2 NL2 hTL ?l2S ?l2F
      case l2S =>
        clear FL2 NL2
        intro i v hv I oI h1 tk1 u it F1 N1 hI
        obtain ⟨r, fr, dx, du, re, f, nm, tf, tn, num, locs, words, endl, col, ecol, tx, bt, dn, dt, k, late, T⟩ := hall v (List.mem_of_getElem? hv)
        obtain ⟨hr, hfr, hdx, hdu, hre, hf, hnum, hni, hnm, hbt, hqf, hqn, hqm, hqt, hlocs, hwords, hendl, hcol, hecol, htx, hline⟩ := T
        clear hqf hqn hqm hqt hni hbt hendl hcol hecol htx hline
        (k_with "LoopJ" => (k_here; refine cut_ ?_))
        k_steps
        all_goals unfold Cut
        refine For_go (ys.length + 1) ?_
        k_steps
        all_goals unfold Cut
        (with_reducible rename Fr _ _ _ _ => F3); (with_reducible rename News _ _ _ _ => N3)
        refine go_list [Str.ofString "other", Str.ofString "row", Str.ofString "same", Str.ofString "words", Str.ofString "later"] rfl rfl F3 N3 (List.Mem.tail _ hTL) ?l3S ?l3F
        case l3S =>
          clear F3 N3
          intro j v' hv' J oJ h3 tk3 u3 it3 F4 N4 hJ
          obtain ⟨r', fr', dx', du', re', f', nm', tf', tn', num', locs', words', endl', col', ecol', tx', bt', dn', dt', k', late', T'⟩ := hall v' (List.mem_of_getElem? hv')
          obtain ⟨hr', hfr', hdx', hdu', hre', hf', hnum', hni', hnm', hbt', hqf', hqn', hqm', hqt', hlocs', hwords', hendl', hcol', hecol', htx', hline'⟩ := T'
          clear hqf' hqn' hqm' hqt' hni' hbt' hendl' hcol' hecol' htx' hline'
          (k_with "compareOp Eq" => (k_here; (with_reducible show wpAny _ _ (compareOp CmpOp.Eq _ _) _ _ _); k_dflt (refine eq_loc (by k_asm) (by with_reducible assumption) (by with_reducible assumption) (by intro p hp; repeat (first | exact hp | refine List.Mem.tail _ ?_)) (by k_units) ?_)))
          (k_with "compareOp Eq ref ref" => (k_here; (with_reducible show wpAny _ _ (compareOp CmpOp.Eq (Value.ref _) (Value.ref _)) _ _ _); (with_reducible rename News _ _ _ _ => lN'); k_dflt (refine eq3_b lN' (by k_mem) (by k_mem) (by with_reducible assumption) (by with_reducible assumption) (by with_reducible assumption) (by with_reducible assumption) (by with_reducible assumption) (by with_reducible assumption) (by k_units) ?_); intro rb er))
          (k_with "call ref" => (k_here; (with_reducible show wpAny _ _ (call (Value.ref 57) [Value.ref _, Value.ref _]) (PySem.W.CmpBack _) _ _); k_dflt (refine' eq_frW (Cx.mk ⟨_, _, _, _, _, _, _, rfl, rfl, rfl, rfl, (by k_asm), (by k_asm)⟩ (by k_room) (by k_units) (by k_asm) (by k_asm) (by k_asm)) ?r1 ?r2 ?r3 ?r4 ?r5 ?r6 ?r7 ?r8 ?ra ?rb ?rc ?rd ?_; (case r1 => k_mem); (case r2 => k_mem); (case r3 => k_mem); (case r4 => k_mem); (case r5 => with_reducible assumption); (case r6 => with_reducible assumption); (case r7 => with_reducible assumption); (case r8 => exact LocIs.more hlocs (by intro p hp; repeat (first | exact hp | refine List.Mem.tail _ ?_))); (case ra => with_reducible assumption); (case rb => with_reducible assumption); (case rc => with_reducible assumption); (case rd => exact LocIs.more hlocs' (by intro p hp; repeat (first | exact hp | refine List.Mem.tail _ ?_)))); intro h' tk' b' eb' F' N'; (try dsimp only)))
          k_steps
          all_goals unfold Cut
          all_goals ((with_reducible rename Fr _ _ _ _ => FZ); (with_reducible rename News _ _ _ _ => NZ); exact loopJ_ FZ NZ (by intro p hp; repeat (first | exact hp | refine List.Mem.tail _ ?_)) it3 (by repeat (first | exact Jm.base | refine Jm.set (by decide +kernel) ?_)))
        case l3F =>
          clear F3 N3
          intro h4 tk4 u4 F5 N5
          k_steps
          all_goals unfold Cut
          exact loopJ_ F5 N5 (by intro p hp; repeat (first | exact hp | refine List.Mem.tail _ ?_)) it (by refine Jm.over (contains_sub (by decide +kernel)) ?_; repeat (first | exact Jm.base | refine Jm.set (by decide +kernel) ?_))
      case l2F =>
        clear FL2 NL2
        intro h5 tk5 u5 F6 N6
        (k_with "eval ListComp" => (k_here; refine cut_ ?_))
        (k_with "CnSrc" => (k_here; refine cut_ ?_))
        k_steps
        all_goals unfold Cut
        lcg_calm
        k_dflt (refine cn_ListComp F6 (by with_unfolding_all rfl) (by decide) (by rfl) (by decide) (by rfl) (by rfl) (by rfl) (by rfl) (by rfl) (by decide) ?_)
        k_steps
        all_goals unfold Cut
        (with_reducible rename Fr _ _ _ _ => F7); (with_reducible rename News _ _ _ _ => N7)
        refine ⟨D, ys, ys.length, _, rfl, rfl, F7, N7, hTL, hys, ?cnT, ?cnF⟩
        case cnT =>
          clear F7 N7
          intro v hv
          obtain ⟨r, fr, dx, du, re, f, nm, tf, tn, num, locs, words, endl, col, ecol, tx, bt, dn, dt, k, late, T⟩ := hall v hv
          refine ⟨r, _, _, _, _, _, rfl, T.hr, ?_⟩
          intro I oI C oC D2 m2 h tk E' hC xa xb xc xd xe F N off ne
          obtain ⟨dx2, htx⟩ := T.htx.atom
          have hfr := T.hfr
          have hdx := T.hdx
          clear T
          (k_with "compareOp NotEq" => (k_here; (with_reducible show wpAny _ _ (compareOp CmpOp.NotEq _ _) _ _ _); k_dflt (refine ne_t (Atom.reads (by with_reducible assumption)) (Atom.reads (by with_reducible assumption)) (Atom.shaped (by with_reducible assumption)) (Atom.shaped (by with_reducible assumption)) (by k_units) (Atom.eqv (by with_reducible assumption)) ?_)))
          k_steps
          all_goals first | exact F | exact N
        case cnF =>
          clear F7 N7
          intro D2 h tk F N hne
          k_steps)
end Mine
end
theorem PySem.Challenge.cw_un0062_01_holds : PySem.Challenge.rw_un0062_01.Holds := by
  exact Mine.law0
