import PyProof.Rows.All
import Wide.All
import OpenK.AllK
import Wide.FinOn
import PySem.Challenge.RW_ru0004_12
open PySem PySem.W PyProof.Rows
set_option Elab.async false
set_option linter.all false
set_option maxRecDepth 100000
set_option maxHeartbeats 8000000
set_option rowWalk.seconds 0
open_top hd12 for PySem.Challenge.rw_ru0004_12
namespace Mine
noncomputable abbrev PG : Program := Challenge.rw_ru0004_12.row.prog
noncomputable abbrev VW : Program := hd12.view_39
noncomputable abbrev LZ : List Str := looseW hd12.view_39 [Str.ofString "asciiLetters", Str.ofString "digits", Str.ofString "hexDigits", Str.ofString "entities", Str.ofString "replacementCharacters", Str.ofString "tokenTypes", Str.ofString "tagTokenTypes", Str.ofString "HTMLUnicodeInputStream", Str.ofString "bisect_left", Str.ofString "entitiesTrie", Str.ofString "HTMLTokenizer", Str.ofString "_law_SIGNS"]
noncomputable abbrev KF (w : World) : Frag := hd12.heap_39 w.params
/-- what a call finds and what it hands back -/
def Tell (w : World) (D U : Nat) (f : Value) (args : List Value) (news : List (Addr × Obj)) (Post : Value → List (Addr × Obj) → Prop) : Prop :=
  ∀ (mean : ExcName → Option Value) (mg mb : Str → Option Value) (dp un : Nat) (gd : Option (List Code)) (cn : Str) (cs : Scope) (a : Addr) (ccd : Value) (cl : List (Str × Addr)) (outer : List Env) (A₀ : Around) (base h₀ : Heap) (L : Addr) (m : Str → Option Value) (s : Shared) (Q E : Value → Shared → Prop),
    Below A₀ base outer h₀ → Fr h₀ L s.heap m → (KF w).In h₀ → News h₀ L s.heap news → Top VW LZ mean mg mb h₀ → cs.kind = .function → dp + D < recursionLimit → un + U < cLine →
    (∀ r news' h' tk', Fr h₀ L h' m → News h₀ L h' news' → Post r news' → Q r { s with heap := h', toks := tk' }) →
    codeAny (model PG w) (ktrTop dp un gd cn cs L a ccd cl outer) (.call f ⟨args, []⟩) (fun r s' => match r with | .ok (.ret v) => Q v s' | .ok _ => False | .error e => E e s') s
/-- the same, the ledger's written part in front of any rest -/
def TellR (w : World) (D U : Nat) (f : Value) (args : List Value) (front : List (Addr × Obj)) (Post : Value → List (Addr × Obj) → List (Addr × Obj) → Prop) : Prop :=
  ∀ rest : List (Addr × Obj), (∀ q ∈ front, ∀ p ∈ rest, p.1 ≠ q.1) → Tell w D U f args (front ++ rest) (fun r n' => ∃ f', Post r f' rest ∧ n' = f' ++ rest)
abbrev ent (w : World) (x : String) (t : Nat) (v : Value) : DictEntry := ⟨PyData.keyHash w.params (PySem.Str.ofString x), .str (PySem.Str.ofString x) t, v⟩
def tk2 (a b : Nat) : Nat → Nat | 0 => a | _ => b
def tk6 (a b c d e f : Nat) : Nat → Nat | 0 => a | 1 => b | 2 => c | 3 => d | 4 => e | _ => f
/-- the dict of the reader of the text -/
abbrev txD (w : World) (κ : Nat → Nat) (T : PySem.Str) (p : Int) (σ₀ σ₁ : Nat) : Obj := dictOf [ent w "text" (κ 0) (.str T σ₀), ent w "place" (κ 1) (.int p σ₁)] 2
/-- the dict of the stream -/
abbrev sdD (w : World) (κ : Nat → Nat) (ra nl tx el : Nat) (c : PySem.Str) (sz o pl pc : Int) (bf : Value) (τ₀ τ₁ τ₂ τ₃ τ₄ : Nat) : Obj :=
  dictOf [ent w "reportCharacterErrors" (κ 0) (.ref ra), ent w "newLines" (κ 1) (.ref nl), ent w "dataStream" (κ 2) (.ref tx), ent w "chunk" (κ 3) (.str c τ₀), ent w "chunkSize" (κ 4) (.int sz τ₁), ent w "chunkOffset" (κ 5) (.int o τ₂), ent w "errors" (κ 6) (.ref el), ent w "prevNumLines" (κ 7) (.int pl τ₃), ent w "prevNumCols" (κ 8) (.int pc τ₄), ent w "_bufferedCharacter" (κ 9) bf] 10
theorem nsub {h₀ h : Heap} {L : Addr} {a b : List (Addr × Obj)} (N : News h₀ L h a) (hs : ∀ p ∈ b, p ∈ a) : News h₀ L h b := fun p hp => N p (hs p hp)
inductive Pick (p : Addr × Obj) : List (Addr × Obj) → List (Addr × Obj) → Prop
  | head {r} : Pick p (p :: r) r
  | tail {q r r'} : Pick p r r' → Pick p (q :: r) (q :: r')
inductive Picks : List (Addr × Obj) → List (Addr × Obj) → List (Addr × Obj) → Prop
  | nil {l} : Picks [] l l
  | cons {p ps l l' r} : Pick p l l' → Picks ps l' r → Picks (p :: ps) l r
theorem Pick.sub {p : Addr × Obj} : ∀ {l r : List (Addr × Obj)}, Pick p l r → p ∈ l ∧ ∀ q ∈ r, q ∈ l
  | _, _, .head => ⟨.head _, fun _ h => .tail _ h⟩
  | _, _, .tail h => ⟨.tail _ h.sub.1, fun q hq => by
      rcases List.mem_cons.mp hq with rfl | hq
      · exact .head _
      · exact .tail _ (h.sub.2 q hq)⟩
theorem Picks.sub : ∀ {f l r : List (Addr × Obj)}, Picks f l r → ∀ p ∈ f ++ r, p ∈ l
  | _, _, _, .nil => fun _ h => h
  | _, _, _, .cons (p := p) a b => fun q hq => by
      rcases List.mem_append.mp hq with hq | hq
      · rcases List.mem_cons.mp hq with rfl | hq
        · exact a.sub.1
        · exact a.sub.2 q (b.sub q (List.mem_append_left _ hq))
      · exact a.sub.2 q (b.sub q (List.mem_append_right _ hq))
theorem use_out {n : Nat} {Q E : Value → Shared → Prop} : ∀ (r : Result) (s : Shared), (match r with | .ok (.ret v) => (n ≤ s.toks → Q v s) | .ok _ => False | .error e => (n ≤ s.toks → E e s)) → n ≤ s.toks → (match r with | .ok (.ret v) => Q v s | .ok _ => False | .error e => E e s)
  | .ok (.ret _), _, h, p => h p
  | .ok .next, _, h, _ => h
  | .ok .brk, _, h, _ => h
  | .ok .cont, _, h, _ => h
  | .error _, _, h, p => h p
theorem TellR.use {w : World} {D U : Nat} {f : Value} {args : List Value} {front news rest : List (Addr × Obj)} {Post : Value → List (Addr × Obj) → List (Addr × Obj) → Prop} {mean : ExcName → Option Value} {mg mb : Str → Option Value} {dp un : Nat} {gd : Option (List Code)} {cn : Str} {cs : Scope} {a : Addr} {ccd : Value} {cl : List (Str × Addr)} {outer : List Env} {A₀ : Around} {base h₀ : Heap} {L : Addr} {m : Str → Option Value} {s : Shared} {Q E : Value → Shared → Prop}
    (hT : TellR w D U f args front Post) (B : Below A₀ base outer h₀) (F : Fr h₀ L s.heap m) (X : (KF w).In h₀) (N : News h₀ L s.heap news) (T : Top VW LZ mean mg mb h₀) (hk : cs.kind = .function)
    (hp : Picks front news rest) (off : ∀ q ∈ front, ∀ p ∈ rest, p.1 ≠ q.1) (hd : dp + D < recursionLimit) (hu : un + U < cLine) {n : Nat} (h0 : n ≤ s.toks)
    (ret : ∀ r f' h' tk', n ≤ tk' → Fr h₀ L h' m → News h₀ L h' (f' ++ rest) → Post r f' rest → Q r { s with heap := h', toks := tk' }) :
    wpAny (model PG w) (ktrTop dp un gd cn cs L a ccd cl outer) (call f args) Q E s :=
  wpAny_call (codeAny_with_toks (n := n) h0 (codeAny_mono (hT rest off mean mg mb dp un gd cn cs a ccd cl outer A₀ base h₀ L m s (fun v s' => n ≤ s'.toks → Q v s') (fun v s' => n ≤ s'.toks → E v s') B F X (nsub N hp.sub) T hk hd hu fun r n' h' tk' F' N' ⟨f', hP, e⟩ p' => ret r f' h' tk' p' F' (e ▸ N') hP) use_out))
/-- a bound method's call -/
theorem TellR.useM {w : World} {D U : Nat} {f self : Value} {q : Addr} {args : List Value} {front news rest : List (Addr × Obj)} {Post : Value → List (Addr × Obj) → List (Addr × Obj) → Prop} {mean : ExcName → Option Value} {mg mb : Str → Option Value} {dp un : Nat} {gd : Option (List Code)} {cn : Str} {cs : Scope} {a : Addr} {ccd : Value} {cl : List (Str × Addr)} {outer : List Env} {A₀ : Around} {base h₀ : Heap} {L : Addr} {m : Str → Option Value} {s : Shared} {Q E : Value → Shared → Prop}
    (hT : TellR w D U f (self :: args) front Post) (B : Below A₀ base outer h₀) (F : Fr h₀ L s.heap m) (X : (KF w).In h₀) (N : News h₀ L s.heap news) (T : Top VW LZ mean mg mb h₀) (hk : cs.kind = .function) (hq : (q, methodObj f self) ∈ news)
    (hp : Picks front news rest) (off : ∀ q ∈ front, ∀ p ∈ rest, p.1 ≠ q.1) (hd : dp + D < recursionLimit) (hu : un + U < cLine) {n : Nat} (h0 : n ≤ s.toks)
    (ret : ∀ r f' h' tk', n ≤ tk' → Fr h₀ L h' m → News h₀ L h' (f' ++ rest) → Post r f' rest → Q r { s with heap := h', toks := tk' }) :
    wpAny (model PG w) (ktrTop dp un gd cn cs L a ccd cl outer) (call (.ref q) args) Q E s :=
  call_meth N hq (codeAny_with_toks (n := n) h0 (codeAny_mono (hT rest off mean mg mb dp un gd cn cs a ccd cl outer A₀ base h₀ L m s (fun v s' => n ≤ s'.toks → Q v s') (fun v s' => n ≤ s'.toks → E v s') B F X (nsub N hp.sub) T hk hd hu fun r n' h' tk' F' N' ⟨f', hP, e⟩ p' => ret r f' h' tk' p' F' (e ▸ N') hP) use_out))
theorem gen_toksP {α : Type} {M : Model} {A : Around} {t : Sem α} {Q : α → Shared → Prop} {E : Value → Shared → Prop} {h : Heap} {g : Array GenState} {d : Drawn} {o : OsState} {Y n : Nat} (hp : 0 < Y + n)
    (H : ∀ tk : Nat, 0 < tk → wpAny M A t Q E ⟨h, g, d, tk, o⟩) : wpAny M A t Q E ⟨h, g, d, Y + n, o⟩ := H _ hp
/-- two addresses apart (hidden from omega) -/
def Nq (a b : Nat) : Prop := a ≠ b
def NQ6 (sx sd tx td ra el : Nat) : Prop := Nq sx sd ∧ Nq sx tx ∧ Nq sx td ∧ Nq sx ra ∧ Nq sx el ∧ Nq sd tx ∧ Nq sd td ∧ Nq sd ra ∧ Nq sd el ∧ Nq tx td ∧ Nq tx ra ∧ Nq tx el ∧ Nq td ra ∧ Nq td el ∧ Nq ra el
end Mine
theorem Mine.off_c1 {M : Model} {A : Around} {env : Env} {Q : Flow → Shared → Prop} {E : Value → Shared → Prop} {s : Shared} (h : wpAny M A (execs [] env) Q E s) : wpAny M A (execs [] env) Q E s := by
  (try (walk1; fail "no"))
  w_top off
  exact h
namespace Mine
local macro_rules | `(tactic| k_ne) => `(tactic| first | exact (show Nq _ _ by with_reducible assumption) | exact Ne.symm (show Nq _ _ by with_reducible assumption) | (refine neN ?_; (try dsimp only); omega))
local macro_rules | `(tactic| k_room) => `(tactic| ((try simp only [depth_under_make, depth_under_kw, depth_in1, depth_deeper, depth_caller, ktrTop, recursionLimit] at *); omega))
local macro_rules | `(tactic| k_units) => `(tactic| ((have hcL9 := cLine_is); (try simp only [units_in1, units_deeper, Around.mark_units, units_caller, ktrTop] at *); omega))
local macro_rules | `(tactic| ktr_enter) => `(tactic| (refine' code_def ?k1 ?k2 ?k3 ?k4 ?k5 ?kA ?kF ?kK ?k6 ?k7 ?k8 ?k9 ?kB ?_ ?c2 ?c3 ?c4 ?c5; (case kA => exact rfl); (case kF => exact rfl); (case kK => first | exact rfl | assumption); (case k1 => k_asm); (case k2 => k_asm); (case k3 => k_asm); (case k4 => k_asm); (case k5 => k_asm); (case k6 => k_is); (case k7 => k_is); (case k8 => k_room); (case k9 => first | exact BindsTo.of_eq rfl | exact binds_K (by k_in) rfl (by k_is) rfl rfl rfl); (case c5 => decide); (case kB => exact locs rfl); (case c2 => exact rfl); (case c3 => exact rfl); (case c4 => exact rfl); k_whole; intro g' L' h' FG' F' N' B' X' T'; (try dsimp only); (try k_fold)))
local macro_rules | `(tactic| k_all) => `(tactic| (with_reducible assumption))
local macro_rules | `(tactic| tb_lt) => `(tactic| first | exact Pick.head | (refine' Pick.tail ?c; (case c => tb_lt)))
local macro_rules | `(tactic| tb_start) => `(tactic| first | exact Picks.nil | (refine' Picks.cons ?a ?b; (case a => tb_lt); (case b => tb_start)))
local macro_rules | `(tactic| tb_rel) => `(tactic| first | exact List.forall_mem_nil _ | (refine' List.forall_mem_cons.mpr ⟨?a, ?b⟩; (case a => k_all); (case b => tb_rel)))
local macro_rules | `(tactic| walk_at "TPost") => `(tactic| (dsimp only [TPost]))
local macro_rules | `(tactic| size_fits) => `(tactic| ((simp only [PySem.sizeLine_eq, List.size_toArray]); omega))
local macro_rules | `(tactic| k_gentoks) => `(tactic| (with_reducible refine' gen_toksP ?hp ?_; (case hp => first | omega | ((try simp only [List.length_cons]); omega)); intro tk htk))
local macro_rules | `(tactic| kstt_sub) => `(tactic| first | exact fun _ h => h | assumption | (refine' subCons ?a ?b; (case a => k_mem); (case b => kstt_sub)) | (refine' subTail ?a; (case a => kstt_sub)))
local macro_rules | `(tactic| kst_all) => `(tactic| first | exact List.forall_mem_nil _ | (refine' List.forall_mem_cons.mpr ⟨?a, ?b⟩; (case a => exact rfl); (case b => kst_all)))
local macro_rules | `(tactic| walk_at "MidEnd") => `(tactic| first
  | ((with_reducible show MidEnd _ _ _ _ _ _ _ Flow.next _); (refine' ⟨(tk8 _ _ _ _ _ _ _ _, _), _, _, _, rfl, ?F, ?N, ?ps, ?P⟩); (case F => assumption); (case N => (refine' nsub ?N1 ?N2; (case N1 => assumption); (case N2 => kstt_sub))); (case ps => kst_all); (case P => k_extra "mid"))
  | ((fail_if_success (with_reducible show MidEnd _ _ _ _ _ _ _ Flow.next _)); dsimp only [MidEnd]))
local macro_rules | `(tactic| walk_at "WEnd") => `(tactic| ((fail_if_success (with_reducible show WEnd _ _ _ _ _ _ _ _ _ Flow.next _)); dsimp only [WEnd]))
local macro_rules | `(tactic| walk_at "callWith") => `(tactic| (k_here; (with_reducible refine' callWith_method1 ?_ ?he ?hp); (case he => k_dflt rfl); (case hp => k_dflt rfl)))
local macro_rules | `(tactic| k_steps) => `(tactic| repeat' (first | (k_unfold; (try dsimp only)) | (k_end; wrow_close) | walk1 | (dsimp only [List.cons_append, List.nil_append]; walk1) | (dsimp only) | fail "no step"))
theorem read_t {w : World} {tx td : Nat} {κ : Nat → Nat} {σ₀ σ₁ : Nat} {T0 : PySem.Str} {p k : Int} {tk : Nat} (hne : tx ≠ td) (hT : T0.length ≤ 1048576) :
    TellR w 1 8 (.ref 70) [.ref tx, .int k tk] [(tx, instObj 73 td), (td, txD w κ T0 p σ₀ σ₁)]
      (fun r f' rest => ∃ t σ₂, r = .str (Txt.slice T0 (some p) (some (p + k))) t ∧ f' = [(tx, instObj 73 td), (td, txD w κ T0 (p + (Txt.slice T0 (some p) (some (p + k))).length) σ₀ σ₂)] ∧ (Txt.slice T0 (some p) (some (p + k))).length ≤ T0.length) := by
  unfold TellR Tell KF PG
  k_fill
  intro rest off mean mg mb dp un gd cn cs a ccd cl outer A₀ base h₀ L m s Q E B F X N T hk hd hu hret
  simp only [List.forall_mem_cons] at off
  obtain ⟨o1, o2, -⟩ := off
  dsimp only [List.cons_append, List.nil_append] at N
  k_dflt ktr_enter
  k_steps
  all_goals (refine hret _ _ _ _ (by assumption) (by assumption) ⟨_, ⟨_, _, rfl, rfl, by assumption⟩, rfl⟩)
end Mine
namespace Mine
open PySem.Builtin PySem.Builtin.Str in
def cnt4 (x y : PySem.Str) (i j : Nat) : Nat := (occurrences x y i (min j x.length) (x.length + 1)).length
open PySem.Builtin PySem.Builtin.Str in
def rf4 (x y : PySem.Str) (i j : Nat) : Int := match lastOccurrence x y i (min j x.length) with | some k => (k : Int) | none => -1
open PySem.Builtin PySem.Builtin.Str in
theorem nn_idx (n : Nat) (i : Nat) : (max (0 : Int) (if (i : Int) < 0 then (i : Int) + n else i)).toNat = i := by
  rw [if_neg (by omega)]; omega
open PySem.Builtin PySem.Builtin.Str in
theorem gives_count4 (x y : PySem.Str) (i j : Nat) (t u v z : Tok) : Gives (Builtin.«str.count» ⟨[.str x t, .str y u, .int i v, .int j z], []⟩) (.int (cnt4 x y i j)) := by
  show Gives (retInt (occurrences x y (max (0 : Int) (if (i : Int) < 0 then (i : Int) + x.length else i)).toNat (min (max (0 : Int) (if (j : Int) < 0 then (j : Int) + x.length else j)).toNat x.length) (x.length + 1)).length) _
  rw [nn_idx, nn_idx]
  exact .of_eq rfl
open PySem.Builtin PySem.Builtin.Str in
theorem gives_rfind4 (x y : PySem.Str) (i j : Nat) (t u v z : Tok) : Gives (Builtin.«str.rfind» ⟨[.str x t, .str y u, .int i v, .int j z], []⟩) (.int (rf4 x y i j)) := by
  show Gives (match lastOccurrence x y (max (0 : Int) (if (i : Int) < 0 then (i : Int) + x.length else i)).toNat (min (max (0 : Int) (if (j : Int) < 0 then (j : Int) + x.length else j)).toNat x.length) with | some k => retInt k | none => (do rule "str.rfind.not-found"; retInt (-1))) _
  rw [nn_idx, nn_idx]
  unfold rf4
  cases lastOccurrence x y i (min j x.length) with
  | none => exact .rule (.of_eq rfl)
  | some k => exact .of_eq rfl
section
variable {prog : Program} {w : World} {A : Around} {E : Value → Shared → Prop} {s : Shared} {x y : PySem.Str} {t u v z : Tok} {i j : Int} {Q : Value → Shared → Prop}
theorem count4 (h0 : 0 ≤ i) (h1 : 0 ≤ j) (hq : Q (.int (cnt4 x y i.toNat j.toNat) s.toks) { s with toks := s.toks + 1 }) : wpAny (model prog w) A (call (.builtin "str.count") [.str x t, .str y u, .int i v, .int j z]) Q E s := by
  obtain ⟨i, rfl⟩ := Int.eq_ofNat_of_zero_le h0
  obtain ⟨j, rfl⟩ := Int.eq_ofNat_of_zero_le h1
  exact call_gives F.slot_str_count (typeIs_str _ _ _) F.entry_str_count (F.args_str_count_4 _ _ _ _) (gives_count4 x y i j t u v z) hq
theorem rfind4 (h0 : 0 ≤ i) (h1 : 0 ≤ j) (hq : Q (.int (rf4 x y i.toNat j.toNat) s.toks) { s with toks := s.toks + 1 }) : wpAny (model prog w) A (call (.builtin "str.rfind") [.str x t, .str y u, .int i v, .int j z]) Q E s := by
  obtain ⟨i, rfl⟩ := Int.eq_ofNat_of_zero_le h0
  obtain ⟨j, rfl⟩ := Int.eq_ofNat_of_zero_le h1
  exact call_gives F.slot_str_rfind (typeIs_str _ _ _) F.entry_str_rfind (F.args_str_rfind_4 _ _ _ _) (gives_rfind4 x y i j t u v z) hq
end
abbrev nlS : PySem.Str := PySem.Str.ofString "\n"
def posL (c : PySem.Str) (pl off : Int) : Int := pl + cnt4 c nlS 0 off.toNat
def posC (c : PySem.Str) (pc off : Int) : Int := if rf4 c nlS 0 off.toNat = -1 then pc + off else off - (rf4 c nlS 0 off.toNat + 1)
abbrev pairObj (a b : Int) (t u : Nat) : Obj := { cls := .type "tuple", data := .seq #[.int a t, .int b u] 0 }
end Mine
theorem Mine.off_c3 {M : Model} {A : Around} {env : Env} {Q : Flow → Shared → Prop} {E : Value → Shared → Prop} {s : Shared} (h : wpAny M A (execs [] env) Q E s) : wpAny M A (execs [] env) Q E s := by
  (try (walk1; fail "no"))
  w_top off
  exact h
namespace Mine
local macro_rules | `(tactic| k_ne) => `(tactic| first | exact (show Nq _ _ by with_reducible assumption) | exact Ne.symm (show Nq _ _ by with_reducible assumption) | (refine neN ?_; (try dsimp only); omega))
local macro_rules | `(tactic| k_room) => `(tactic| ((try simp only [depth_under_make, depth_under_kw, depth_in1, depth_deeper, depth_caller, ktrTop, recursionLimit] at *); omega))
local macro_rules | `(tactic| k_units) => `(tactic| ((have hcL9 := cLine_is); (try simp only [units_in1, units_deeper, Around.mark_units, units_caller, ktrTop] at *); omega))
local macro_rules | `(tactic| ktr_enter) => `(tactic| (refine' code_def ?k1 ?k2 ?k3 ?k4 ?k5 ?kA ?kF ?kK ?k6 ?k7 ?k8 ?k9 ?kB ?_ ?c2 ?c3 ?c4 ?c5; (case kA => exact rfl); (case kF => exact rfl); (case kK => first | exact rfl | assumption); (case k1 => k_asm); (case k2 => k_asm); (case k3 => k_asm); (case k4 => k_asm); (case k5 => k_asm); (case k6 => k_is); (case k7 => k_is); (case k8 => k_room); (case k9 => first | exact BindsTo.of_eq rfl | exact binds_K (by k_in) rfl (by k_is) rfl rfl rfl); (case c5 => decide); (case kB => exact locs rfl); (case c2 => exact rfl); (case c3 => exact rfl); (case c4 => exact rfl); k_whole; intro g' L' h' FG' F' N' B' X' T'; (try dsimp only); (try k_fold)))
local macro_rules | `(tactic| k_all) => `(tactic| (with_reducible assumption))
local macro_rules | `(tactic| tb_lt) => `(tactic| first | exact Pick.head | (refine' Pick.tail ?c; (case c => tb_lt)))
local macro_rules | `(tactic| tb_start) => `(tactic| first | exact Picks.nil | (refine' Picks.cons ?a ?b; (case a => tb_lt); (case b => tb_start)))
local macro_rules | `(tactic| tb_rel) => `(tactic| first | exact List.forall_mem_nil _ | (refine' List.forall_mem_cons.mpr ⟨?a, ?b⟩; (case a => k_all); (case b => tb_rel)))
local macro_rules | `(tactic| walk_at "TPost") => `(tactic| (dsimp only [TPost]))
local macro_rules | `(tactic| size_fits) => `(tactic| ((simp only [PySem.sizeLine_eq, List.size_toArray]); omega))
local macro_rules | `(tactic| k_gentoks) => `(tactic| (with_reducible refine' gen_toksP ?hp ?_; (case hp => first | omega | ((try simp only [List.length_cons]); omega)); intro tk htk))
local macro_rules | `(tactic| kstt_sub) => `(tactic| first | exact fun _ h => h | assumption | (refine' subCons ?a ?b; (case a => k_mem); (case b => kstt_sub)) | (refine' subTail ?a; (case a => kstt_sub)))
local macro_rules | `(tactic| kst_all) => `(tactic| first | exact List.forall_mem_nil _ | (refine' List.forall_mem_cons.mpr ⟨?a, ?b⟩; (case a => exact rfl); (case b => kst_all)))
local macro_rules | `(tactic| walk_at "MidEnd") => `(tactic| first
  | ((with_reducible show MidEnd _ _ _ _ _ _ _ Flow.next _); (refine' ⟨(tk8 _ _ _ _ _ _ _ _, _), _, _, _, rfl, ?F, ?N, ?ps, ?P⟩); (case F => assumption); (case N => (refine' nsub ?N1 ?N2; (case N1 => assumption); (case N2 => kstt_sub))); (case ps => kst_all); (case P => k_extra "mid"))
  | ((fail_if_success (with_reducible show MidEnd _ _ _ _ _ _ _ Flow.next _)); dsimp only [MidEnd]))
local macro_rules | `(tactic| walk_at "WEnd") => `(tactic| ((fail_if_success (with_reducible show WEnd _ _ _ _ _ _ _ _ _ Flow.next _)); dsimp only [WEnd]))
local macro_rules | `(tactic| walk_at "callWith") => `(tactic| (k_here; (with_reducible refine' callWith_method1 ?_ ?he ?hp); (case he => k_dflt rfl); (case hp => k_dflt rfl)))
local macro_rules | `(tactic| k_steps) => `(tactic| repeat' (first | (k_unfold; (try dsimp only)) | (k_end; wrow_close) | walk1 | (dsimp only [List.cons_append, List.nil_append]; walk1) | (dsimp only) | fail "no step"))
local macro_rules | `(tactic| walk_at "call builtin:str.count") => `(tactic| (k_here; refine' count4 ?c1 ?c2 ?_; (case c1 => omega); (case c2 => omega); (try dsimp only)))
local macro_rules | `(tactic| walk_at "call builtin:str.rfind") => `(tactic| (k_here; refine' rfind4 ?c1 ?c2 ?_; (case c1 => omega); (case c2 => omega); (try dsimp only)))
theorem position0_t {w : World} {sx sd : Nat} {κ : Nat → Nat} {τ₀ τ₁ τ₂ τ₃ τ₄ : Nat} {ra nl tx el : Nat} {c : PySem.Str} {sz o pl pc off : Int} {bf : Value} {tk : Nat} (hne : sx ≠ sd) (ho : 0 ≤ off) :
    TellR w 1 8 (.ref 119) [.ref sx, .int off tk] [(sx, instObj 166 sd), (sd, sdD w κ ra nl tx el c sz o pl pc bf τ₀ τ₁ τ₂ τ₃ τ₄)]
      (fun r f' rest => ∃ ta t1 t2, r = .ref ta ∧ f' = [(ta, pairObj (posL c pl off) (posC c pc off) t1 t2), (sx, instObj 166 sd), (sd, sdD w κ ra nl tx el c sz o pl pc bf τ₀ τ₁ τ₂ τ₃ τ₄)] ∧ AllLt ta ((sx, instObj 166 sd) :: (sd, sdD w κ ra nl tx el c sz o pl pc bf τ₀ τ₁ τ₂ τ₃ τ₄) :: rest)) := by
  unfold TellR Tell KF PG
  k_fill
  intro rest off' mean mg mb dp un gd cn cs a ccd cl outer A₀ base h₀ L m s Q E B F X N T hk hd hu hret
  simp only [List.forall_mem_cons] at off'
  obtain ⟨o1, o2, -⟩ := off'
  dsimp only [List.cons_append, List.nil_append] at N
  k_dflt ktr_enter
  k_steps
  all_goals (refine' hret _ _ _ _ (by assumption) ?N ⟨_, ⟨_, _, _, rfl, rfl, by assumption⟩, rfl⟩; (case N => (first | rw [show posC c pc off = pc + off from if_pos (by assumption)] | rw [show posC c pc off = off - (rf4 c nlS 0 off.toNat + 1) from if_neg (by assumption)]); (unfold posL; assumption)))
end Mine
theorem Mine.off_c4 {M : Model} {A : Around} {env : Env} {Q : Flow → Shared → Prop} {E : Value → Shared → Prop} {s : Shared} (h : wpAny M A (execs [] env) Q E s) : wpAny M A (execs [] env) Q E s := by
  (try (walk1; fail "no"))
  w_top off
  exact h
namespace Mine
local macro_rules | `(tactic| k_ne) => `(tactic| first | exact (show Nq _ _ by with_reducible assumption) | exact Ne.symm (show Nq _ _ by with_reducible assumption) | (refine neN ?_; (try dsimp only); omega))
local macro_rules | `(tactic| k_room) => `(tactic| ((try simp only [depth_under_make, depth_under_kw, depth_in1, depth_deeper, depth_caller, ktrTop, recursionLimit] at *); omega))
local macro_rules | `(tactic| k_units) => `(tactic| ((have hcL9 := cLine_is); (try simp only [units_in1, units_deeper, Around.mark_units, units_caller, ktrTop] at *); omega))
local macro_rules | `(tactic| ktr_enter) => `(tactic| (refine' code_def ?k1 ?k2 ?k3 ?k4 ?k5 ?kA ?kF ?kK ?k6 ?k7 ?k8 ?k9 ?kB ?_ ?c2 ?c3 ?c4 ?c5; (case kA => exact rfl); (case kF => exact rfl); (case kK => first | exact rfl | assumption); (case k1 => k_asm); (case k2 => k_asm); (case k3 => k_asm); (case k4 => k_asm); (case k5 => k_asm); (case k6 => k_is); (case k7 => k_is); (case k8 => k_room); (case k9 => first | exact BindsTo.of_eq rfl | exact binds_K (by k_in) rfl (by k_is) rfl rfl rfl); (case c5 => decide); (case kB => exact locs rfl); (case c2 => exact rfl); (case c3 => exact rfl); (case c4 => exact rfl); k_whole; intro g' L' h' FG' F' N' B' X' T'; (try dsimp only); (try k_fold)))
local macro_rules | `(tactic| k_all) => `(tactic| (with_reducible assumption))
local macro_rules | `(tactic| tb_lt) => `(tactic| first | exact Pick.head | (refine' Pick.tail ?c; (case c => tb_lt)))
local macro_rules | `(tactic| tb_start) => `(tactic| first | exact Picks.nil | (refine' Picks.cons ?a ?b; (case a => tb_lt); (case b => tb_start)))
local macro_rules | `(tactic| tb_rel) => `(tactic| first | exact List.forall_mem_nil _ | (refine' List.forall_mem_cons.mpr ⟨?a, ?b⟩; (case a => k_all); (case b => tb_rel)))
local macro_rules | `(tactic| walk_at "TPost") => `(tactic| (dsimp only [TPost]))
local macro_rules | `(tactic| size_fits) => `(tactic| ((simp only [PySem.sizeLine_eq, List.size_toArray]); omega))
local macro_rules | `(tactic| k_gentoks) => `(tactic| (with_reducible refine' gen_toksP ?hp ?_; (case hp => first | omega | ((try simp only [List.length_cons]); omega)); intro tk htk))
local macro_rules | `(tactic| kstt_sub) => `(tactic| first | exact fun _ h => h | assumption | (refine' subCons ?a ?b; (case a => k_mem); (case b => kstt_sub)) | (refine' subTail ?a; (case a => kstt_sub)))
local macro_rules | `(tactic| kst_all) => `(tactic| first | exact List.forall_mem_nil _ | (refine' List.forall_mem_cons.mpr ⟨?a, ?b⟩; (case a => exact rfl); (case b => kst_all)))
local macro_rules | `(tactic| walk_at "MidEnd") => `(tactic| first
  | ((with_reducible show MidEnd _ _ _ _ _ _ _ Flow.next _); (refine' ⟨(tk8 _ _ _ _ _ _ _ _, _), _, _, _, rfl, ?F, ?N, ?ps, ?P⟩); (case F => assumption); (case N => (refine' nsub ?N1 ?N2; (case N1 => assumption); (case N2 => kstt_sub))); (case ps => kst_all); (case P => k_extra "mid"))
  | ((fail_if_success (with_reducible show MidEnd _ _ _ _ _ _ _ Flow.next _)); dsimp only [MidEnd]))
local macro_rules | `(tactic| walk_at "WEnd") => `(tactic| ((fail_if_success (with_reducible show WEnd _ _ _ _ _ _ _ _ _ Flow.next _)); dsimp only [WEnd]))
local macro_rules | `(tactic| walk_at "callWith") => `(tactic| (k_here; (with_reducible refine' callWith_method1 ?_ ?he ?hp); (case he => k_dflt rfl); (case hp => k_dflt rfl)))
local macro_rules | `(tactic| k_steps) => `(tactic| repeat' (first | (k_unfold; (try dsimp only)) | (k_end; wrow_close) | walk1 | (dsimp only [List.cons_append, List.nil_append]; walk1) | (dsimp only) | fail "no step"))
def inv (c : Int) : Prop := (1 ≤ c ∧ c ≤ 8) ∨ c = 11 ∨ (14 ≤ c ∧ c ≤ 31) ∨ (127 ≤ c ∧ c ≤ 159) ∨ (64976 ≤ c ∧ c ≤ 65007) ∨ (c % 65536 = 65534 ∨ c % 65536 = 65535) ∨ (55296 ≤ c ∧ c ≤ 57343)
instance (c : Int) : Decidable (inv c) := by unfold inv; infer_instance
theorem inv_end {c : Int} {b : Bool} {P Q : Value → Prop} (h : P (.bool (decide (inv c)))) (e : b = decide (inv c)) : P (.bool b) := e ▸ h
theorem gen_cont {M : Model} {A : Around} {t : Sem Value} {E : Value → Shared → Prop} {s : Shared} {Q : Value → Shared → Prop} (h : ∀ Q' : Value → Shared → Prop, (∀ v s', Q v s' → Q' v s') → wpAny M A t Q' E s) : wpAny M A t Q E s := h Q fun _ _ h => h
/-- a value and what it leaves -/
def ValEnd (V : Value → Prop) (h₀ : Heap) (L : Addr) (m : PySem.Str → Option Value) (news : List (Addr × Obj)) (s : Shared) (v : Value) (s' : Shared) : Prop :=
  V v ∧ ∃ h' tk, s' = { s with heap := h', toks := tk } ∧ Fr h₀ L h' m ∧ News h₀ L h' news
theorem mid_val {prog : Program} {w : World} {A : Around} {E : Value → Shared → Prop} {s : Shared} {h₀ : Heap} {L : Addr} {m : PySem.Str → Option Value} {news : List (Addr × Obj)} {t : Sem Value} {Q : Value → Shared → Prop} (V : Value → Prop) (_F : Fr h₀ L s.heap m) (_N : News h₀ L s.heap news)
    (h : wpAny (model prog w) A t (ValEnd V h₀ L m news s) E s) (k : ∀ v h' tk, V v → Fr h₀ L h' m → News h₀ L h' news → Q v { s with heap := h', toks := tk }) : wpAny (model prog w) A t Q E s := by
  refine wpAny_mono h (fun v s' hv => ?_) fun _ _ e => e
  obtain ⟨hV, h', tk, rfl, F, N⟩ := hv
  exact k v h' tk hV F N
theorem is_invalid_t {w : World} {c : Int} {tk : Nat} : TellR w 1 8 (.ref 84) [.int c tk] [] (fun r f' rest => r = .bool (decide (inv c)) ∧ f' = []) := by
  unfold TellR Tell KF PG
  k_fill
  intro rest off' mean mg mb dp un gd cn cs a ccd cl outer A₀ base h₀ L m s Q E B F X N T hk hd hu hret
  dsimp only [List.cons_append, List.nil_append] at N
  k_dflt ktr_enter
  repeat' (first | ((fail_if_success (with_reducible show wpAny _ _ (eval (PySem.Expr.BoolOp _ _ _) _) _ _ _)); first | (k_unfold; (try dsimp only)) | (k_end; wrow_close) | walk1 | (dsimp only [List.cons_append, List.nil_append]; walk1) | (dsimp only) | fail "no step"))
  (rename Fr _ _ _ _ => f8)
  (rename News _ _ _ _ => n8)
  refine mid_val (fun v => v = .bool (decide (inv c))) f8 n8 ?ev ?co
  case co =>
    intro v h' tk hv F' N'
    subst hv
    k_steps
    all_goals exact hret _ _ _ _ (by assumption) (by first | assumption | exact nsub (by assumption) (fun p hp => List.mem_cons_of_mem _ hp)) ⟨_, ⟨rfl, rfl⟩, rfl⟩
  case ev =>
    repeat' (first | ((fail_if_success (with_reducible show ValEnd _ _ _ _ _ _ _ _)); first
      | ((with_reducible show wpAny _ _ (eval (PySem.Expr.Compare _ _ _ _) _) _ _ _); refine gen_cont ?_; intro Q9 hQ9; walk1)
      | (refine hQ9 _ _ ?_; clear hQ9 Q9; (try dsimp only))
      | (k_unfold; (try dsimp only)) | (k_end; wrow_close) | walk1 | (dsimp only [List.cons_append, List.nil_append]; walk1) | (dsimp only) | fail "no step"))
    all_goals refine ⟨congrArg Value.bool ?_, _, _, rfl, (by assumption), (by first | assumption | exact nsub (by assumption) (fun p hp => List.mem_cons_of_mem _ hp))⟩
    all_goals (rw [Bool.eq_iff_iff]; (try simp only [Int.fmod_eq_emod_of_nonneg _ (show (0 : Int) ≤ 65536 by decide)] at *); simp only [decide_eq_true_eq, decide_eq_false_iff_not, beq_iff_eq, Bool.false_eq_true, true_iff, false_iff, List.any_cons, List.any_nil, Bool.or_eq_true, Bool.or_false, Bool.or_eq_false_iff, beq_eq_false_iff_ne] at *; unfold inv; omega)
end Mine
namespace Mine
section
variable {prog : Program} {w : World} {A : Around} {E : Value → Shared → Prop} {s : Shared} {env : Env} {h₀ : Heap} {x : PySem.Str} {body : List Stmt} {Q : Flow → Shared → Prop}
def TEnd {σ : Type} (h₀ : Heap) (L : Addr) (front : σ → List (Addr × Obj)) (J : σ → (PySem.Str → Option Value) → Prop) (rest : List (Addr × Obj)) (s₁ s₂ : Shared) : Prop :=
  ∃ c h' tk m', s₂ = { s₁ with heap := h', toks := tk } ∧ Fr h₀ L h' m' ∧ News h₀ L h' (front c ++ rest) ∧ (∀ q ∈ front c, ∀ p ∈ rest, p.1 ≠ q.1) ∧ J c m'
def TPost {σ : Type} (h₀ : Heap) (L : Addr) (front : σ → List (Addr × Obj)) (J : σ → (PySem.Str → Option Value) → Prop) (rest : List (Addr × Obj)) (s₁ : Shared) (Q : Flow → Shared → Prop) (f : Flow) (s₂ : Shared) : Prop :=
  match f with
  | .ret v => Q (.ret v) s₂
  | .brk => Q .next s₂
  | _ => TEnd h₀ L front J rest s₁ s₂
theorem loop_gen {σ : Type} {I : Addr} {fp wr : List Addr} {n : Nat} {Pv : Nat → Value → Prop} {St : Nat → Heap → Prop} {m₀ : PySem.Str → Option Value} (front : σ → List (Addr × Obj)) (rest : List (Addr × Obj)) (J : Nat → σ → (PySem.Str → Option Value) → Prop) (c₀ : σ)
    (W : Walks prog w A I fp wr n Pv St) (hLf : env.locals ∉ fp) (hwr : ∀ b ∈ wr, h₀.get? b = none) (hal : ∀ i h, St i h → ∀ b ∈ fp, ∃ o, h.get? b = some o) (hst : St 0 s.heap)
    (F : Fr h₀ env.locals s.heap m₀) (N : News h₀ env.locals s.heap (front c₀ ++ rest)) (hff : ∀ q ∈ front c₀, q.1 ∉ fp) (hfr : ∀ q ∈ rest, q.1 ∉ wr) (off : ∀ q ∈ front c₀, ∀ p ∈ rest, p.1 ≠ q.1) (hj : J 0 c₀ m₀)
    (turn : ∀ i v c m₁ h tk rest', i < n → Pv i v → J i c m₁ → (∀ q ∈ front c, ∀ p ∈ rest', p.1 ≠ q.1) → (∀ p ∈ rest, p ∈ rest') → Fr h₀ env.locals h (fun y => if y = x then some v else m₁ y) → News h₀ env.locals h (front c ++ rest') →
      wpAny (model prog w) A (execs body env) (TPost h₀ env.locals front (J (i + 1)) rest' { s with heap := h, toks := tk } Q) E { s with heap := h, toks := tk })
    (done : ∀ c m₁ h tk, J n c m₁ → (∀ q ∈ front c, ∀ p ∈ rest, p.1 ≠ q.1) → Fr h₀ env.locals h m₁ → News h₀ env.locals h (front c ++ rest) → Q .next { s with heap := h, toks := tk }) :
    LoopAtV prog w A h₀ env x body Q E (.ref I) s := by
  let J' : Nat → (PySem.Str → Option Value) → List (Addr × Obj) → Prop := fun i m nx => ∃ c, nx = front c ++ rest ∧ (∀ q ∈ front c, q.1 ∉ fp) ∧ (∀ q ∈ front c, ∀ p ∈ rest, p.1 ≠ q.1) ∧ J i c m
  have hwf : ∀ c, (∀ q ∈ front c, q.1 ∉ fp) → ∀ p ∈ front c ++ rest, p.1 ∉ wr := fun c hc p hp =>
    (List.mem_append.mp hp).elim (fun h q => hc p h (W.sub _ q)) (fun h => hfr p h)
  refine ⟨I, fp, wr, n, Pv, St, m₀, front c₀ ++ rest, J', rfl, W, hLf, hwr, hwf c₀ hff, hst, F, N, ⟨c₀, rfl, hff, off, hj⟩, ?_, ?_⟩
  · rintro i v m₁ _ s₁ own ⟨hh', tk', rfl⟩ hin hP ⟨c, rfl, hcf, hco, hJ⟩ _ hown hgo hal' hst' F₁ N₁
    have N₂ : News h₀ env.locals hh' (front c ++ (rest ++ own)) := nsub N₁ fun p hp => by
      simp only [List.mem_append] at hp ⊢
      rcases hp with h | h | h
      · exact .inr (.inl h)
      · exact .inr (.inr h)
      · exact .inl h
    refine wpAny_mono (turn i v c m₁ hh' tk' (rest ++ own) hin hP hJ (fun q hq p hp => ?_) (fun p hp => List.mem_append_left _ hp) F₁ N₂) (fun f s₂ p => ?_) fun _ _ e => e
    · rcases List.mem_append.mp hp with hp | hp
      · exact hco q hq p hp
      · intro e; exact hcf q hq (e ▸ hown p hp)
    have fin : TEnd h₀ env.locals front (J (i + 1)) (rest ++ own) { s with heap := hh', toks := tk' } s₂ → LoopStepU h₀ env.locals wr own (J' (i + 1)) { s with heap := hh', toks := tk' } .next s₂ := by
      rintro ⟨c', h', tk, m', e, F', N', o', hm⟩
      have hc' : ∀ q ∈ front c', q.1 ∉ fp := fun q hq hf => by
        have hn : h₀.get? q.1 = none := (N' q (List.mem_append_left _ hq)).2.2
        obtain ⟨o, ho⟩ := hal _ _ hst' q.1 hf
        exact o' q hq (q.1, o) (List.mem_append_right _ (hal' q.1 hf hn o ho)) rfl
      refine ⟨rfl, h', tk, m', front c' ++ rest, e, F', nsub N' fun p hp => ?_, hwf c' hc', c', rfl, hc', fun q hq p hp => o' q hq p (List.mem_append_left _ hp), hm⟩
      simp only [List.mem_append] at hp ⊢
      rcases hp with h | h | h
      · exact .inr (.inr h)
      · exact .inl h
      · exact .inr (.inl h)
    cases f with
    | ret v => exact .ret p
    | brk => exact .brk p
    | next => exact .next (fin p)
    | cont => exact .cont (fin p)
  · rintro h' tk m' news' F' N' _ ⟨c, rfl, _, hco, hJ⟩
    exact done c m' h' tk hJ hco F' N'
end
end Mine
namespace Mine
section
variable {prog : Program} {w : World} {A : Around} {E : Value → Shared → Prop} {s : Shared} {env : Env} {h₀ : Heap} {x : PySem.Str} {body : List Stmt} {Q : Flow → Shared → Prop}
/-- what a turn keeps of the frame: named locals, the rest unchanged -/
def KJ {σ : Type} (x : PySem.Str) (ps : σ → List (PySem.Str × Value)) (stored : List PySem.Str) (m₀ : PySem.Str → Option Value) (P : σ → Prop) (c : σ) (m : PySem.Str → Option Value) : Prop :=
  (∀ p ∈ ps c, m p.1 = some p.2) ∧ (∀ z, z ≠ x → (∀ p ∈ ps c, z ≠ p.1) → stored.contains z = false → m z = m₀ z) ∧ P c
theorem pyIter_str2 {xt : PySem.Str} {t : Tok} {Q : Value → Shared → Prop}
    (hQ : ∀ (o : Obj) (St : Nat → Heap → Prop), (∀ A' : Around, A'.handled = none → Walks prog w A' s.heap.objs.size [s.heap.objs.size] [s.heap.objs.size] xt.cps.size (SignAt xt) St) → (∀ i h, St i h → ∃ o, h.get? s.heap.objs.size = some o) → St 0 (s.heap.push o) →
      Q (.ref s.heap.objs.size) { s with heap := s.heap.push o }) : wpAny (model prog w) A (pyIter (.str xt t)) Q E s := by
  cases ha : xt.cps.all (· < 128)
  · exact wpAny_pyIter_wide ha (hQ _ _ (fun A' hA => Walks.strWide hA _ xt t) (fun i h ⟨o, ho, _⟩ => ⟨o, ho⟩) ⟨_, Heap.get?_push_size _ rfl, rfl, rfl⟩)
  · exact wpAny_pyIter_ascii ha (hQ _ _ (fun A' hA => Walks.strAscii hA _ xt t) (fun i h ⟨o, ho, _⟩ => ⟨o, ho⟩) ⟨_, Heap.get?_push_size _ rfl, rfl, rfl⟩)
theorem take_at {α : Type} {l : List α} {i : Nat} {a : α} (h : l[i]? = some a) : l = l.take i ++ a :: l.drop (i + 1) ∧ l.take (i + 1) = l.take i ++ [a] := by
  have hs : l.take (i + 1) = l.take i ++ [a] := by simp [List.take_add_one, h]
  refine ⟨?_, hs⟩
  have ht := List.take_append_drop (i + 1) l
  rw [hs, List.append_assoc] at ht
  exact ht.symm
theorem str_loop {σ : Type} {xt : PySem.Str} {tx : Tok} {m₀ : PySem.Str → Option Value} (front : σ → List (Addr × Obj)) (rest : List (Addr × Obj)) (ps : σ → List (PySem.Str × Value)) (stored : List PySem.Str) (P : List Nat → σ → Prop) (c₀ : σ)
    (hh : A.handled = none) (F : Fr h₀ env.locals s.heap m₀) (N : News h₀ env.locals s.heap (front c₀ ++ rest)) (off : ∀ q ∈ front c₀, ∀ p ∈ rest, p.1 ≠ q.1) (hk : ∀ p ∈ ps c₀, m₀ p.1 = some p.2) (hp : P [] c₀)
    (turn : ∀ (c : σ) (pre post : List Nat) (n : Nat) (t : Nat) (u : PySem.Str → Option Value) (h : Heap) (tk : Nat) (rest' : List (Addr × Obj)), xt.cps.toList = pre ++ n :: post → P pre c → (∀ q ∈ front c, ∀ p ∈ rest', p.1 ≠ q.1) → (∀ p ∈ rest, p ∈ rest') →
      Fr h₀ env.locals h (fun y => if y = x then some (.str ⟨#[n]⟩ t) else kstB (fun z => if stored.contains z then u z else m₀ z) (ps c) y) → News h₀ env.locals h (front c ++ rest') →
      wpAny (model prog w) A (execs body env) (TPost h₀ env.locals front (KJ x ps stored m₀ (P (pre ++ [n]))) rest' { s with heap := h, toks := tk } Q) E { s with heap := h, toks := tk })
    (done : ∀ (c : σ) (u : PySem.Str → Option Value) (h : Heap) (tk : Nat), P xt.cps.toList c → (∀ q ∈ front c, ∀ p ∈ rest, p.1 ≠ q.1) → Fr h₀ env.locals h (fun y => if y = x then u y else kstB (fun z => if stored.contains z then u z else m₀ z) (ps c) y) → News h₀ env.locals h (front c ++ rest) →
      Q .next { s with heap := h, toks := tk }) :
    wpAny (model prog w) A (pyIter (.str xt tx)) (fun it s₂ => LoopAtV prog w A h₀ env x body Q E it s₂) E s := by
  refine pyIter_str2 fun o St hW hal hst => ?_
  have W := hW A hh
  have hI : ∀ q ∈ front c₀ ++ rest, q.1 ≠ s.heap.objs.size := fun q hq e => absurd (Heap.lt_size (N q hq).1) (e ▸ Nat.lt_irrefl _)
  refine loop_gen front rest (fun i => KJ x ps stored m₀ (P (xt.cps.toList.take i))) c₀ W ?_ ?_ ?_ hst (F.push _) (fun p hp => ⟨Heap.get?_push_of_some _ (N p hp).1, (N p hp).2⟩) ?_ ?_ off ⟨hk, fun _ _ _ _ => rfl, by simpa using hp⟩ ?_ ?_
  · intro hm
    exact absurd F.ns.lt ((List.mem_singleton.mp hm) ▸ Nat.lt_irrefl _)
  · intro b' hb
    rw [List.mem_singleton.mp hb]
    exact next_is_new F
  · intro i h hs b hb
    rw [List.mem_singleton.mp hb]
    exact hal i h hs
  · intro q hq hf
    exact hI q (List.mem_append_left _ hq) (List.mem_singleton.mp hf)
  · intro q hq hf
    exact hI q (List.mem_append_right _ hq) (List.mem_singleton.mp hf)
  · rintro i v c m₁ h tk rest' hi ⟨n, u, hn, rfl⟩ ⟨h1, h2, hp'⟩ off' sub' F₁ N₁
    have hn' : xt.cps.toList[i]? = some n := by simpa using hn
    obtain ⟨e1, e2⟩ := take_at hn'
    rw [e2]
    exact turn c _ _ n u m₁ h tk rest' e1 hp' off' sub' (kst_fr h1 h2 F₁) N₁
  · rintro c m₁ h tk ⟨h1, h2, hp'⟩ off' F₁ N₁
    rw [show xt.cps.toList.take xt.cps.size = xt.cps.toList from List.take_of_length_le (by simp)] at hp'
    exact done c m₁ h tk hp' off' (kst_frOut h1 h2 F₁) N₁
theorem list_loop {σ : Type} {l : Addr} {vs : List Value} {m₀ : PySem.Str → Option Value} (front : σ → List (Addr × Obj)) (rest : List (Addr × Obj)) (ps : σ → List (PySem.Str × Value)) (stored : List PySem.Str) (P : List Value → σ → Prop) (c₀ : σ)
    (hh : A.handled = none) (hl : s.heap.IsList l vs.toArray) (hlr : (∃ o, (l, o) ∈ rest) ∨ ∃ o, h₀.get? l = some o) (F : Fr h₀ env.locals s.heap m₀) (N : News h₀ env.locals s.heap (front c₀ ++ rest)) (off : ∀ q ∈ front c₀, ∀ p ∈ rest, p.1 ≠ q.1) (hk : ∀ p ∈ ps c₀, m₀ p.1 = some p.2) (hp : P [] c₀)
    (turn : ∀ (c : σ) (pre post : List Value) (v : Value) (u : PySem.Str → Option Value) (h : Heap) (tk : Nat) (rest' : List (Addr × Obj)), vs = pre ++ v :: post → P pre c → (∀ q ∈ front c, ∀ p ∈ rest', p.1 ≠ q.1) → (∀ p ∈ rest, p ∈ rest') →
      Fr h₀ env.locals h (fun y => if y = x then some v else kstB (fun z => if stored.contains z then u z else m₀ z) (ps c) y) → News h₀ env.locals h (front c ++ rest') →
      wpAny (model prog w) A (execs body env) (TPost h₀ env.locals front (KJ x ps stored m₀ (P (pre ++ [v]))) rest' { s with heap := h, toks := tk } Q) E { s with heap := h, toks := tk })
    (done : ∀ (c : σ) (u : PySem.Str → Option Value) (h : Heap) (tk : Nat), P vs c → (∀ q ∈ front c, ∀ p ∈ rest, p.1 ≠ q.1) → Fr h₀ env.locals h (fun y => if y = x then u y else kstB (fun z => if stored.contains z then u z else m₀ z) (ps c) y) → News h₀ env.locals h (front c ++ rest) →
      Q .next { s with heap := h, toks := tk }) :
    wpAny (model prog w) A (pyIter (.ref l)) (fun it s₂ => LoopAtV prog w A h₀ env x body Q E it s₂) E s := by
  obtain ⟨ol, hol, _⟩ := id hl
  have hlt : l < s.heap.objs.size := Heap.lt_size hol
  have hne : l ≠ s.heap.objs.size := Nat.ne_of_lt hlt
  have hI : ∀ q ∈ front c₀ ++ rest, q.1 ≠ s.heap.objs.size := fun q hq e => absurd (Heap.lt_size (N q hq).1) (e ▸ Nat.lt_irrefl _)
  have hlL : l ≠ env.locals := by
    rcases hlr with ⟨o, ho⟩ | ⟨o, ho⟩
    · exact (N (l, o) (List.mem_append_right _ ho)).2.1
    · exact Nat.ne_of_lt (Nat.lt_of_lt_of_le (Heap.lt_size ho) F.above)
  refine wpAny_pyIter_list hl ?_
  have W := Walks.list (prog := prog) (w := w) hh s.heap.objs.size l hne vs.toArray
  have hlen : vs.toArray.size = vs.length := by simp
  rw [hlen] at W
  refine loop_gen front rest (fun i => KJ x ps stored m₀ (P (vs.take i))) c₀ W ?_ ?_ ?_ ⟨⟨_, Heap.get?_push_size _ rfl, rfl, rfl⟩, hl.at fun o e => Heap.get?_push_of_some _ e⟩ (F.push _) (fun p hp => ⟨Heap.get?_push_of_some _ (N p hp).1, (N p hp).2⟩) ?_ ?_ off ⟨hk, fun _ _ _ _ => rfl, by simpa using hp⟩ ?_ ?_
  · intro hm
    rcases List.mem_cons.mp hm with e | hm
    · exact absurd F.ns.lt (e ▸ Nat.lt_irrefl _)
    · exact hlL (List.mem_singleton.mp hm).symm
  · intro b' hb
    rw [List.mem_singleton.mp hb]
    exact next_is_new F
  · rintro i h ⟨⟨o, ho, _⟩, ⟨o', ho', _⟩⟩ b hb
    rcases List.mem_cons.mp hb with rfl | hb
    · exact ⟨o, ho⟩
    · rw [List.mem_singleton.mp hb]; exact ⟨o', ho'⟩
  · intro q hq hf
    rcases List.mem_cons.mp hf with e | hf
    · exact hI q (List.mem_append_left _ hq) e
    · have e := List.mem_singleton.mp hf
      rcases hlr with ⟨o, ho⟩ | ⟨o, ho⟩
      · exact off q hq _ ho e.symm
      · have := (N q (List.mem_append_left _ hq)).2.2
        rw [e, ho] at this
        cases this
  · intro q hq hf
    exact hI q (List.mem_append_right _ hq) (List.mem_singleton.mp hf)
  · rintro i v c m₁ h tk rest' hi hv ⟨h1, h2, hp'⟩ off' sub' F₁ N₁
    have hn' : vs[i]? = some v := by simpa using hv
    obtain ⟨e1, e2⟩ := take_at hn'
    rw [e2]
    exact turn c _ _ v m₁ h tk rest' e1 hp' off' sub' (kst_fr h1 h2 F₁) N₁
  · rintro c m₁ h tk ⟨h1, h2, hp'⟩ off' F₁ N₁
    rw [List.take_length] at hp'
    exact done c m₁ h tk hp' off' (kst_frOut h1 h2 F₁) N₁
end
end Mine
theorem Mine.off_c5 {M : Model} {A : Around} {env : Env} {Q : Flow → Shared → Prop} {E : Value → Shared → Prop} {s : Shared} (h : wpAny M A (execs [] env) Q E s) : wpAny M A (execs [] env) Q E s := by
  (try (walk1; fail "no"))
  w_top off
  exact h
namespace Mine
local macro_rules | `(tactic| k_ne) => `(tactic| first | exact (show Nq _ _ by with_reducible assumption) | exact Ne.symm (show Nq _ _ by with_reducible assumption) | (refine neN ?_; (try dsimp only); omega))
local macro_rules | `(tactic| k_room) => `(tactic| ((try simp only [depth_under_make, depth_under_kw, depth_in1, depth_deeper, depth_caller, ktrTop, recursionLimit] at *); omega))
local macro_rules | `(tactic| k_units) => `(tactic| ((have hcL9 := cLine_is); (try simp only [units_in1, units_deeper, Around.mark_units, units_caller, ktrTop] at *); omega))
local macro_rules | `(tactic| ktr_enter) => `(tactic| (refine' code_def ?k1 ?k2 ?k3 ?k4 ?k5 ?kA ?kF ?kK ?k6 ?k7 ?k8 ?k9 ?kB ?_ ?c2 ?c3 ?c4 ?c5; (case kA => exact rfl); (case kF => exact rfl); (case kK => first | exact rfl | assumption); (case k1 => k_asm); (case k2 => k_asm); (case k3 => k_asm); (case k4 => k_asm); (case k5 => k_asm); (case k6 => k_is); (case k7 => k_is); (case k8 => k_room); (case k9 => first | exact BindsTo.of_eq rfl | exact binds_K (by k_in) rfl (by k_is) rfl rfl rfl); (case c5 => decide); (case kB => exact locs rfl); (case c2 => exact rfl); (case c3 => exact rfl); (case c4 => exact rfl); k_whole; intro g' L' h' FG' F' N' B' X' T'; (try dsimp only); (try k_fold)))
local macro_rules | `(tactic| k_all) => `(tactic| (with_reducible assumption))
local macro_rules | `(tactic| tb_lt) => `(tactic| first | exact Pick.head | (refine' Pick.tail ?c; (case c => tb_lt)))
local macro_rules | `(tactic| tb_start) => `(tactic| first | exact Picks.nil | (refine' Picks.cons ?a ?b; (case a => tb_lt); (case b => tb_start)))
local macro_rules | `(tactic| tb_rel) => `(tactic| first | exact List.forall_mem_nil _ | (refine' List.forall_mem_cons.mpr ⟨?a, ?b⟩; (case a => k_all); (case b => tb_rel)))
local macro_rules | `(tactic| walk_at "TPost") => `(tactic| (dsimp only [TPost]))
local macro_rules | `(tactic| size_fits) => `(tactic| ((simp only [PySem.sizeLine_eq, List.size_toArray]); omega))
local macro_rules | `(tactic| k_gentoks) => `(tactic| (with_reducible refine' gen_toksP ?hp ?_; (case hp => first | omega | ((try simp only [List.length_cons]); omega)); intro tk htk))
local macro_rules | `(tactic| kstt_sub) => `(tactic| first | exact fun _ h => h | assumption | (refine' subCons ?a ?b; (case a => k_mem); (case b => kstt_sub)) | (refine' subTail ?a; (case a => kstt_sub)))
local macro_rules | `(tactic| kst_all) => `(tactic| first | exact List.forall_mem_nil _ | (refine' List.forall_mem_cons.mpr ⟨?a, ?b⟩; (case a => exact rfl); (case b => kst_all)))
local macro_rules | `(tactic| walk_at "MidEnd") => `(tactic| first
  | ((with_reducible show MidEnd _ _ _ _ _ _ _ Flow.next _); (refine' ⟨(tk8 _ _ _ _ _ _ _ _, _), _, _, _, rfl, ?F, ?N, ?ps, ?P⟩); (case F => assumption); (case N => (refine' nsub ?N1 ?N2; (case N1 => assumption); (case N2 => kstt_sub))); (case ps => kst_all); (case P => k_extra "mid"))
  | ((fail_if_success (with_reducible show MidEnd _ _ _ _ _ _ _ Flow.next _)); dsimp only [MidEnd]))
local macro_rules | `(tactic| walk_at "WEnd") => `(tactic| ((fail_if_success (with_reducible show WEnd _ _ _ _ _ _ _ _ _ Flow.next _)); dsimp only [WEnd]))
local macro_rules | `(tactic| walk_at "callWith") => `(tactic| (k_here; (with_reducible refine' callWith_method1 ?_ ?he ?hp); (case he => k_dflt rfl); (case hp => k_dflt rfl)))
local macro_rules | `(tactic| k_steps) => `(tactic| repeat' (first | (k_unfold; (try dsimp only)) | (k_end; wrow_close) | walk1 | (dsimp only [List.cons_append, List.nil_append]; walk1) | (dsimp only) | fail "no step"))
abbrev icS : PySem.Str := PySem.Str.ofString "invalid-codepoint"
def Errs (vs : List Value) (n : Nat) : Prop := vs.length = n ∧ ∀ v ∈ vs, ∃ t, v = .str icS t
theorem errs_app {vs : List Value} {n t : Nat} {pre : List Nat} {p : Nat → Bool} {k : Nat} (h : Errs vs (n + (pre.filter p).length)) (hi : p k = true) : Errs (vs ++ [.str icS t]) (n + ((pre ++ [k]).filter p).length) := by
  refine ⟨?_, fun v hv => ?_⟩
  · simp only [List.filter_append, List.filter_cons, List.filter_nil, hi, if_true, List.length_append, List.length_cons, List.length_nil, h.1]; omega
  · rcases List.mem_append.mp hv with hv | hv
    · exact h.2 v hv
    · exact ⟨t, List.mem_singleton.mp hv⟩
theorem errs_no {vs : List Value} {n : Nat} {pre : List Nat} {p : Nat → Bool} {k : Nat} (h : Errs vs (n + (pre.filter p).length)) (hi : p k = false) : Errs vs (n + ((pre ++ [k]).filter p).length) := by
  simp only [List.filter_append, List.filter_cons, List.filter_nil, hi, Bool.false_eq_true, if_false, List.append_nil]; exact h
section
local macro_rules | `(tactic| walk_at "call ref") => `(tactic| (k_here; k_dflt (refine' TellR.use (is_invalid_t) ?k1 ?k2 ?k3 ?k4 ?k5 ?kK ?kp ?ko ?kd ?ku ?k0 ?_; (case k1 => k_asm); (case k2 => k_asm); (case k3 => k_asm); (case k4 => k_asm); (case k5 => k_asm); (case kK => first | exact rfl | assumption); (case kp => tb_start); (case ko => tb_rel); (case kd => k_room); (case ku => k_units); (case k0 => first | exact (show 1 ≤ _ by (try dsimp only); omega) | exact Nat.zero_le _); intro r9 f9 h9 tk9 p9 F9 N9 hP9; obtain ⟨e1, e2⟩ := hP9; subst e1; subst e2; (try dsimp only [List.nil_append, List.cons_append] at N9); (try k_fold))))
local macro_rules | `(tactic| walk_at "exec For Name Name cons nil") => `(tactic| (k_here; (rename Fr _ _ _ _ => lF'); (with_unfolding_all refine' For_invVF lF' ?k1 ?k2 ?_; (case k1 => exact rfl); (case k2 => exact rfl); k_whole)))
theorem errors_t {w : World} {sx sd : Nat} {κ : Nat → Nat} {τ₀ τ₁ τ₂ τ₃ τ₄ : Nat} {ra nl tx el : Nat} {c : PySem.Str} {sz o pl pc : Int} {bf : Value} {x : PySem.Str} {tk : Nat} {vs : List Value} {ep : Nat} {n : Nat} (hv : Errs vs n) (hne : sx ≠ sd) (hne2 : el ≠ sx) (hne3 : el ≠ sd) (hsz : n + x.length ≤ 1048576) :
    TellR w 3 30 (.ref 148) [.ref sx, .str x tk] [(sx, instObj 166 sd), (sd, sdD w κ ra nl tx el c sz o pl pc bf τ₀ τ₁ τ₂ τ₃ τ₄), (el, W.listOf vs.toArray ep)]
      (fun r f' rest => ∃ vs' ep', r = .none ∧ Errs vs' (n + (x.cps.toList.filter fun (k : Nat) => decide (inv (k : Int))).length) ∧ f' = [(sx, instObj 166 sd), (sd, sdD w κ ra nl tx el c sz o pl pc bf τ₀ τ₁ τ₂ τ₃ τ₄), (el, W.listOf vs'.toArray ep')]) := by
  unfold TellR Tell KF PG
  k_fill
  intro rest off' mean mg mb dp un gd cn cs a ccd cl outer A₀ base h₀ L m s Q E B F X N T hk hd hu hret
  simp only [List.forall_mem_cons] at off'
  obtain ⟨o1, o2, o3, -⟩ := off'
  dsimp only [List.cons_append, List.nil_append] at N
  k_dflt ktr_enter
  k_steps
  (rename Fr _ _ _ _ => lF'); (rename News _ _ _ _ => lN')
  refine' str_loop (fun c' : List Value × Nat => [(sx, instObj 166 sd), (sd, sdD w κ ra nl tx el c sz o pl pc bf τ₀ τ₁ τ₂ τ₃ τ₄), (el, W.listOf c'.1.toArray c'.2)]) rest (fun _ => []) [] (fun pre c => Errs c.1 (n + (pre.filter fun (k : Nat) => decide (inv (k : Int))).length)) (vs, ep) rfl lF' lN' ?off ?ka ?kb ?turn ?done
  case off => tb_rel
  case ka => exact fun _ h => nomatch h
  case kb => exact hv
  case turn =>
    intro c' pre post nn t u h' tk' rest' hpre hP off' sub' F' N'
    simp only [List.forall_mem_cons] at off'
    obtain ⟨p1, p2, p3, -⟩ := off'
    dsimp only [List.cons_append, List.nil_append] at N'
    have hlen := hP.1
    have hlx : pre.length < x.length := by
      have h9 := congrArg List.length hpre
      simp only [List.length_append, List.length_cons, Array.length_toList] at h9
      show _ < x.cps.size
      omega
    have hfl := List.length_filter_le (fun (k : Nat) => decide (inv (k : Int))) pre
    clear lF' lN'
    try k_fold
    k_steps
    all_goals (
      (rename News _ _ _ _ => n9)
      (try simp only [List.push_toArray] at n9)
      refine ⟨(_, _), _, _, _, rfl, (by assumption), n9, (by tb_rel), (fun _ h => nomatch h), (fun z h1 h2 h3 => by simp [h1, kstB, h3]), (by first | exact errs_app hP (decide_eq_true (by assumption)) | exact errs_no hP (decide_eq_false (by assumption)))⟩)
  case done =>
    intro c' u h' tk' hP off' F' N'
    dsimp only [List.cons_append, List.nil_append] at N'
    clear lF' lN'
    k_steps
    all_goals (refine hret _ _ _ _ (by assumption) (by assumption) ⟨_, ⟨_, _, rfl, hP, rfl⟩, rfl⟩)
end
end Mine
namespace Mine
def lastOf (d : PySem.Str) : Nat := d.cps.toList.getLast?.getD 0
def cutq (d : PySem.Str) : Prop := 1 < d.length ∧ (lastOf d = 13 ∨ (55296 ≤ lastOf d ∧ lastOf d ≤ 56319))
instance (d : PySem.Str) : Decidable (cutq d) := by unfold cutq; infer_instance
def rdKeep (d : PySem.Str) : PySem.Str := if cutq d then ⟨d.cps.toList.dropLast.toArray⟩ else d
def rdBuf (d : PySem.Str) : Option Nat := if cutq d then some (lastOf d) else none
def nlz (d : PySem.Str) : PySem.Str := Txt.replace (Txt.replace d (PySem.Str.ofString "\r\n") (PySem.Str.ofString "\n")) (PySem.Str.ofString "\r") (PySem.Str.ofString "\n")
def BfV : Option Nat → Value → Prop
  | none, v => v = .none
  | some c, v => ∃ t, v = .str ⟨#[c]⟩ t
def bfS : Option Nat → PySem.Str
  | none => PySem.Str.empty
  | some c => ⟨#[c]⟩
def rdD (bo : Option Nat) (T0 : PySem.Str) (p k : Int) : PySem.Str := bfS bo ++ Txt.slice T0 (some p) (some (p + k))
def cntInv (d : PySem.Str) : Nat := (d.cps.toList.filter fun (k : Nat) => decide (inv (k : Int))).length
/-- the whole stream in the ledger -/
abbrev stL (w : World) (sx sd tx td ra el nl : Nat) (κ κ' : Nat → Nat) (τ₀ τ₁ τ₂ τ₃ τ₄ σ₀ σ₁ : Nat) (T0 : PySem.Str) (p : Int) (c : PySem.Str) (sz o pl pc : Int) (bf : Value) (vs : List Value) (ep : Nat) : List (Addr × Obj) :=
  [(sx, instObj 166 sd), (sd, sdD w κ ra nl tx el c sz o pl pc bf τ₀ τ₁ τ₂ τ₃ τ₄), (tx, instObj 73 td), (td, txD w κ' T0 p σ₀ σ₁), (ra, methodObj (.ref 148) (.ref sx)), (el, W.listOf vs.toArray ep)]
def Apart (l : List Nat) : Prop := l.Nodup
end Mine
namespace Mine
theorem noBool_method : typeLookup (.type "method") "__bool__" = pure none := by rw [typeLookup_type, builtinLookup_eq_fast]; kernel_rfl
theorem noLen_method : typeLookup (.type "method") "__len__" = pure none := by rw [typeLookup_type, builtinLookup_eq_fast]; kernel_rfl
theorem truthy_method {prog : Program} {w : World} {A : Around} {E : Value → Shared → Prop} {s : Shared} {q : Addr} {f self : Value} {h₀ : Heap} {L : Addr} {news : List (Addr × Obj)} {Q : Bool → Shared → Prop} (N : News h₀ L s.heap news) (hm : (q, methodObj f self) ∈ news) (h : Q true s) :
    wpAny (model prog w) A (truthy (.ref q)) Q E s := by
  have hT : s.TypeIs (.ref q) "method" := ⟨_, (N _ hm).1, rfl⟩
  unfold truthy
  first
    | refine wpAny_bind (wpAny_callSpecial?_none (name := Str.ofString "__bool__") hT noBool_method ?_)
    | refine wpAny_bind (wpAny_pure (wpAny_bind (wpAny_callSpecial?_none (name := Str.ofString "__bool__") hT noBool_method ?_)))
  first
    | refine wpAny_bind (wpAny_specialOf (name := Str.ofString "__len__") hT noLen_method ?_)
    | refine wpAny_bind (wpAny_pure (wpAny_bind (wpAny_specialOf (name := Str.ofString "__len__") hT noLen_method ?_)))
  exact wpAny_pure h
end Mine
namespace Mine
open PySem.Builtin PySem.Builtin.Str in
theorem replace_le (x : PySem.Str) {y z : PySem.Str} (hz : z.length ≤ y.length) : (Txt.replace x y z).length ≤ x.length := by
  unfold Txt.replace
  split
  · exact Nat.le_refl _
  · have hy : (glued y (partsBetween x (occurrences x y 0 x.length (x.length + 1)) y.length)).length = x.length := by rw [StrLaws.glued_between_self]
    rw [size_glued, length_partsBetween, Nat.add_sub_cancel] at hy
    rw [size_glued, length_partsBetween, Nat.add_sub_cancel]
    have h2 : (occurrences x y 0 x.length (x.length + 1)).length * z.length ≤ (occurrences x y 0 x.length (x.length + 1)).length * y.length := Nat.mul_le_mul_left _ hz
    omega
section
variable {prog : Program} {w : World} {A : Around} {E : Value → Shared → Prop} {s : Shared} {x y z : PySem.Str} {t u v : Nat} {Q : Value → Shared → Prop}
theorem replace_t (hu : 0 < u) (hv : 0 < v) (huv : u ≠ v) (hyz : (y == z) = false) (hl : decide (z.length ≤ y.length) = true) (hz : decide (z.length ≤ 14) = true) (hx : x.length ≤ 1048576)
    (hq : ∀ t' k, (Txt.replace x y z).length ≤ x.length → Q (.str (Txt.replace x y z) t') { s with toks := k }) : wpAny (model prog w) A (call (.builtin "str.replace") [.str x t, .str y u, .str z v]) Q E s :=
  SC.replaceW (Nat.ne_of_gt hu) (Nat.ne_of_gt hv) huv hyz hx (of_decide_eq_true hz) fun t' k => hq t' k (replace_le x (of_decide_eq_true hl))
end
end Mine
namespace Mine
section
variable {prog : Program} {w : World} {A : Around} {E : Value → Shared → Prop} {s : Shared} {h₀ : Heap} {L : Addr} {Q : Flow → Shared → Prop}
/-- what a statement leaves behind it -/
def MidEnd {σ : Type} (h₀ : Heap) (L : Addr) (ps : σ → List (PySem.Str × Value)) (led : σ → List (Addr × Obj)) (P : σ → Prop) (s : Shared) (Q : Flow → Shared → Prop) (f : Flow) (s' : Shared) : Prop :=
  match f with
  | .next => ∃ c h' tk m', s' = { s with heap := h', toks := tk } ∧ Fr h₀ L h' m' ∧ News h₀ L h' (led c) ∧ (∀ p ∈ ps c, m' p.1 = some p.2) ∧ P c
  | f => Q f s'
theorem kstB_self {m : PySem.Str → Option Value} : ∀ {ps : List (PySem.Str × Value)}, (∀ p ∈ ps, m p.1 = some p.2) → kstB m ps = m
  | [], _ => rfl
  | p :: r, h => by
    funext z
    show (if z = p.1 then some p.2 else kstB m r z) = m z
    by_cases e : z = p.1
    · rw [if_pos e, e]; exact (h p (.head _)).symm
    · rw [if_neg e, kstB_self fun q hq => h q (.tail _ hq)]
theorem mid_cut {t : Sem Flow} {σ : Type} (ps : σ → List (PySem.Str × Value)) (led : σ → List (Addr × Obj)) (P : σ → Prop) {m : PySem.Str → Option Value} (_F : Fr h₀ L s.heap m) (h0 : 0 < s.toks)
    (h : wpAny (model prog w) A t (MidEnd h₀ L ps led P s Q) E s)
    (k : ∀ (c : σ) (m' : PySem.Str → Option Value) (h' : Heap) (tk : Nat), 0 < tk → P c → Fr h₀ L h' (kstB m' (ps c)) → News h₀ L h' (led c) → Q .next { s with heap := h', toks := tk }) :
    wpAny (model prog w) A t Q E s := by
  refine wpAny_with_toks (n := 1) h0 (wpAny_mono h (fun f s' hm p => ?_) fun _ _ e _ => e)
  cases f with
  | next =>
    obtain ⟨c, h', tk, m', rfl, F, N, hps, hP⟩ := hm
    exact k c m' h' tk p hP (by rw [kstB_self hps]; exact F) N
  | brk => exact hm
  | cont => exact hm
  | ret v => exact hm
end
def tk8 (a b c d e f g h : Nat) : Nat → Nat | 0 => a | 1 => b | 2 => c | 3 => d | 4 => e | 5 => f | 6 => g | _ => h
theorem subCons {p : Addr × Obj} {a b : List (Addr × Obj)} (h : p ∈ b) (hs : ∀ q ∈ a, q ∈ b) : ∀ q ∈ p :: a, q ∈ b := fun q hq => by
  rcases List.mem_cons.mp hq with rfl | hq
  · exact h
  · exact hs q hq
theorem subTail {p : Addr × Obj} {a b : List (Addr × Obj)} (hs : ∀ q ∈ a, q ∈ b) : ∀ q ∈ a, q ∈ p :: b := fun q hq => .tail _ (hs q hq)
end Mine
namespace Mine
theorem lastOf_get {d : PySem.Str} (h : 0 < d.length) : d.cps[d.cps.size - 1]? = some (lastOf d) := by
  have h' : d.cps.toList ≠ [] := by
    intro e
    have := congrArg List.length e
    simp at this
    unfold PySem.Str.length at h
    simp [this] at h
  unfold lastOf
  rw [List.getLast?_eq_some_getLast h']
  simp only [Option.getD_some]
  rw [List.getLast_eq_getElem]
  simp only [Array.length_toList]
  have hs : d.cps.size - 1 < d.cps.size := by unfold PySem.Str.length at h; omega
  rw [Array.getElem?_eq_getElem hs]
  simp
theorem item_last {d : PySem.Str} (h : 0 < d.length) : Txt.item d (-1) = ⟨#[lastOf d]⟩ := by
  have e : (seqIndex? (-1) d.length).bind (d.cps[·]?) = some (lastOf d) := by
    rw [StrLaws.seqIndex_neg (by omega) (by omega)]
    show d.cps[((-1 : Int) + (d.length : Int)).toNat]? = _
    have e2 : ((-1 : Int) + (d.length : Int)).toNat = d.cps.size - 1 := by unfold PySem.Str.length at h ⊢; omega
    rw [e2]; exact lastOf_get h
  show (⟨#[((seqIndex? (-1) d.length).bind (d.cps[·]?)).getD 0]⟩ : PySem.Str) = _
  rw [e]; rfl
theorem slice_init {d : PySem.Str} (h : 0 < d.length) : Txt.slice d none (some (-1)) = ⟨d.cps.toList.dropLast.toArray⟩ := by
  show StrLaws.sliceText d none (some (-1)) = _
  rw [StrLaws.sliceText_neg_hi d none (by omega) (by omega), StrLaws.sliceText_to (by simp only [Array.length_toList]; unfold PySem.Str.length at h ⊢; omega)]
  congr 2
  rw [List.dropLast_eq_take]
  simp only [List.drop_zero, Array.length_toList]
  congr 1
  unfold PySem.Str.length at h ⊢; omega
theorem len0 {d : PySem.Str} (h : d.length = 0) : d = PySem.Str.ofString "" := by
  refine PySem.Str.ext' ?_
  have e : (PySem.Str.ofString "").cps = #[] := by decide +kernel
  rw [e]
  exact Array.eq_empty_of_size_eq_zero h
theorem nlz_nil : nlz (PySem.Str.ofString "") = PySem.Str.ofString "" := by decide +kernel
theorem rdKeep_nil : rdKeep (PySem.Str.ofString "") = PySem.Str.ofString "" := by decide +kernel
theorem rdBuf_nil : rdBuf (PySem.Str.ofString "") = none := by decide +kernel
theorem cntInv_nil : cntInv (PySem.Str.ofString "") = 0 := by decide +kernel
theorem len_nil : (PySem.Str.ofString "").length = 0 := by decide +kernel
theorem rd_yes {d : PySem.Str} (h : 1 < d.length) (hc : (((Txt.item d (-1)).cps.getD 0 0 : Nat) = 13 ∨ (55296 ≤ (Txt.item d (-1)).cps.getD 0 0 ∧ (Txt.item d (-1)).cps.getD 0 0 ≤ 56319))) :
    rdKeep d = Txt.slice d none (some (-1)) ∧ rdBuf d = some (lastOf d) ∧ Txt.item d (-1) = ⟨#[lastOf d]⟩ := by
  have e := item_last (d := d) (by omega)
  rw [e] at hc
  have hq : cutq d := ⟨h, hc⟩
  exact ⟨by unfold rdKeep; rw [if_pos hq, slice_init (by omega)], by unfold rdBuf; rw [if_pos hq], e⟩
theorem rd_no {d : PySem.Str} (h : ¬ (1 < d.length ∧ (((Txt.item d (-1)).cps.getD 0 0 : Nat) = 13 ∨ (55296 ≤ (Txt.item d (-1)).cps.getD 0 0 ∧ (Txt.item d (-1)).cps.getD 0 0 ≤ 56319)))) :
    rdKeep d = d ∧ rdBuf d = none := by
  have hq : ¬ cutq d := fun hq => by
    rw [item_last (d := d) (by have := hq.1; omega)] at h
    exact h ⟨hq.1, hq.2⟩
  exact ⟨by unfold rdKeep; rw [if_neg hq], by unfold rdBuf; rw [if_neg hq]⟩
theorem BfV_some {c t : Nat} {x : PySem.Str} (h : x = ⟨#[c]⟩) : BfV (some c) (.str x t) := ⟨t, by rw [h]⟩
theorem BfV_none : BfV none .none := rfl
end Mine
theorem Mine.off_c9 {M : Model} {A : Around} {env : Env} {Q : Flow → Shared → Prop} {E : Value → Shared → Prop} {s : Shared} (h : wpAny M A (execs [] env) Q E s) : wpAny M A (execs [] env) Q E s := by
  (try (walk1; fail "no"))
  w_top off
  exact h
namespace Mine
local macro_rules | `(tactic| k_ne) => `(tactic| first | exact (show Nq _ _ by with_reducible assumption) | exact Ne.symm (show Nq _ _ by with_reducible assumption) | (refine neN ?_; (try dsimp only); omega))
local macro_rules | `(tactic| k_room) => `(tactic| ((try simp only [depth_under_make, depth_under_kw, depth_in1, depth_deeper, depth_caller, ktrTop, recursionLimit] at *); omega))
local macro_rules | `(tactic| k_units) => `(tactic| ((have hcL9 := cLine_is); (try simp only [units_in1, units_deeper, Around.mark_units, units_caller, ktrTop] at *); omega))
local macro_rules | `(tactic| ktr_enter) => `(tactic| (refine' code_def ?k1 ?k2 ?k3 ?k4 ?k5 ?kA ?kF ?kK ?k6 ?k7 ?k8 ?k9 ?kB ?_ ?c2 ?c3 ?c4 ?c5; (case kA => exact rfl); (case kF => exact rfl); (case kK => first | exact rfl | assumption); (case k1 => k_asm); (case k2 => k_asm); (case k3 => k_asm); (case k4 => k_asm); (case k5 => k_asm); (case k6 => k_is); (case k7 => k_is); (case k8 => k_room); (case k9 => first | exact BindsTo.of_eq rfl | exact binds_K (by k_in) rfl (by k_is) rfl rfl rfl); (case c5 => decide); (case kB => exact locs rfl); (case c2 => exact rfl); (case c3 => exact rfl); (case c4 => exact rfl); k_whole; intro g' L' h' FG' F' N' B' X' T'; (try dsimp only); (try k_fold)))
local macro_rules | `(tactic| k_all) => `(tactic| (with_reducible assumption))
local macro_rules | `(tactic| tb_lt) => `(tactic| first | exact Pick.head | (refine' Pick.tail ?c; (case c => tb_lt)))
local macro_rules | `(tactic| tb_start) => `(tactic| first | exact Picks.nil | (refine' Picks.cons ?a ?b; (case a => tb_lt); (case b => tb_start)))
local macro_rules | `(tactic| tb_rel) => `(tactic| first | exact List.forall_mem_nil _ | (refine' List.forall_mem_cons.mpr ⟨?a, ?b⟩; (case a => k_all); (case b => tb_rel)))
local macro_rules | `(tactic| walk_at "TPost") => `(tactic| (dsimp only [TPost]))
local macro_rules | `(tactic| size_fits) => `(tactic| ((simp only [PySem.sizeLine_eq, List.size_toArray]); omega))
local macro_rules | `(tactic| k_gentoks) => `(tactic| (with_reducible refine' gen_toksP ?hp ?_; (case hp => first | omega | ((try simp only [List.length_cons]); omega)); intro tk htk))
local macro_rules | `(tactic| kstt_sub) => `(tactic| first | exact fun _ h => h | assumption | (refine' subCons ?a ?b; (case a => k_mem); (case b => kstt_sub)) | (refine' subTail ?a; (case a => kstt_sub)))
local macro_rules | `(tactic| kst_all) => `(tactic| first | exact List.forall_mem_nil _ | (refine' List.forall_mem_cons.mpr ⟨?a, ?b⟩; (case a => exact rfl); (case b => kst_all)))
local macro_rules | `(tactic| walk_at "MidEnd") => `(tactic| first
  | ((with_reducible show MidEnd _ _ _ _ _ _ _ Flow.next _); (refine' ⟨(tk8 _ _ _ _ _ _ _ _, _), _, _, _, rfl, ?F, ?N, ?ps, ?P⟩); (case F => assumption); (case N => (refine' nsub ?N1 ?N2; (case N1 => assumption); (case N2 => kstt_sub))); (case ps => kst_all); (case P => k_extra "mid"))
  | ((fail_if_success (with_reducible show MidEnd _ _ _ _ _ _ _ Flow.next _)); dsimp only [MidEnd]))
local macro_rules | `(tactic| walk_at "WEnd") => `(tactic| ((fail_if_success (with_reducible show WEnd _ _ _ _ _ _ _ _ _ Flow.next _)); dsimp only [WEnd]))
local macro_rules | `(tactic| walk_at "callWith") => `(tactic| (k_here; (with_reducible refine' callWith_method1 ?_ ?he ?hp); (case he => k_dflt rfl); (case hp => k_dflt rfl)))
local macro_rules | `(tactic| k_steps) => `(tactic| repeat' (first | (k_unfold; (try dsimp only)) | (k_end; wrow_close) | walk1 | (dsimp only [List.cons_append, List.nil_append]; walk1) | (dsimp only) | fail "no step"))
section
local macro_rules | `(tactic| walk_at "truthy ref") => `(tactic| (k_here; refine' truthy_method ?k1 ?k2 ?_; (case k1 => k_asm); (case k2 => k_mem)))
local macro_rules | `(tactic| walk_at "call builtin:str.replace") => `(tactic| (k_here; refine' replace_t ?u ?v ?uv ?yz ?hl ?hz ?hx ?_; (case u => omega); (case v => omega); (case uv => omega); (case yz => decide +kernel); (case hl => decide +kernel); (case hz => decide +kernel); (case hx => omega); intro tr kr lr))
local macro_rules | `(tactic| walk_at "call ref") => `(tactic| (k_here; k_dflt (refine' TellR.use (position0_t ?a1 ?a2) ?k1 ?k2 ?k3 ?k4 ?k5 ?kK ?kp ?ko ?kd ?ku ?k0 ?_; (case k1 => k_asm); (case k2 => k_asm); (case k3 => k_asm); (case k4 => k_asm); (case k5 => k_asm); (case kK => first | exact rfl | assumption); (case kp => tb_start); (case ko => tb_rel); (case a1 => k_ne); (case a2 => omega); (case kd => k_room); (case ku => k_units); (case k0 => first | exact (show 1 ≤ _ by (try dsimp only); omega) | exact Nat.zero_le _); intro r9 f9 h9 tk9 p9 F9 N9 hP9; obtain ⟨ta, t1, t2, e1, e2, l9⟩ := hP9; subst e1; subst e2; simp only [AllLt, and_true] at l9; (try dsimp only [List.nil_append, List.cons_append] at N9); (try k_fold))))
local macro_rules | `(tactic| walk_at "call ref") => `(tactic| (k_here; k_dflt (refine' TellR.use (read_t ?a1 ?a2) ?k1 ?k2 ?k3 ?k4 ?k5 ?kK ?kp ?ko ?kd ?ku ?k0 ?_; (case k1 => k_asm); (case k2 => k_asm); (case k3 => k_asm); (case k4 => k_asm); (case k5 => k_asm); (case kK => first | exact rfl | assumption); (case kp => tb_start); (case ko => tb_rel); (case a1 => k_ne); (case a2 => omega); (case kd => k_room); (case ku => k_units); (case k0 => first | exact (show 1 ≤ _ by (try dsimp only); omega) | exact Nat.zero_le _); intro r9 f9 h9 tk9 p9 F9 N9 hP9; obtain ⟨t, σ2, e1, e2, l9⟩ := hP9; subst e1; subst e2; (try dsimp only [List.nil_append, List.cons_append] at N9); (try k_fold))))
local macro_rules | `(tactic| walk_at "call ref") => `(tactic| (k_here; k_dflt (refine' TellR.useM (errors_t ?a1 ?a2 ?a3 ?a4 ?a5) ?k1 ?k2 ?k3 ?k4 ?k5 ?kK ?kM ?kp ?ko ?kd ?ku ?k0 ?_; (case k1 => k_asm); (case k2 => k_asm); (case k3 => k_asm); (case k4 => k_asm); (case k5 => k_asm); (case kK => first | exact rfl | assumption); (case kM => k_mem); (case kp => tb_start); (case ko => tb_rel); (case a1 => assumption); (case a2 => k_ne); (case a3 => k_ne); (case a4 => k_ne); (case a5 => omega); (case kd => k_room); (case ku => k_units); (case k0 => first | exact (show 1 ≤ _ by (try dsimp only); omega) | exact Nat.zero_le _); intro r9 f9 h9 tk9 p9 F9 N9 hP9; obtain ⟨vs2, ep2, e1, e3, e2⟩ := hP9; subst e1; subst e2; (try dsimp only [List.nil_append, List.cons_append] at N9); (try k_fold))))
theorem readChunk_t {w : World} {sx sd tx td ra el nl : Nat} {κ κ' : Nat → Nat} {τ₀ τ₁ τ₂ τ₃ τ₄ σ₀ σ₁ : Nat} {T0 : PySem.Str} {p : Int} {c : PySem.Str} {sz o pl pc : Int} {bf : Value} {vs : List Value} {ep n : Nat} {bo : Option Nat}
    (hv : Errs vs n) (hbf : BfV bo bf) (hsz : 0 ≤ sz) (hT : T0.length ≤ 100000) (hn : n ≤ 100000) (hnd : NQ6 sx sd tx td ra el) :
    TellR w 6 60 (.ref 141) [.ref sx] (stL w sx sd tx td ra el nl κ κ' τ₀ τ₁ τ₂ τ₃ τ₄ σ₀ σ₁ T0 p c sz o pl pc bf vs ep)
      (fun r f' rest => ∃ a0 a1 a2 a3 a4 b0 b1 bv vs' ep', r = .bool (decide (0 < (rdD bo T0 p 10240).length)) ∧ BfV (rdBuf (rdD bo T0 p 10240)) bv ∧ Errs vs' (n + cntInv (rdKeep (rdD bo T0 p 10240))) ∧
        f' = stL w sx sd tx td ra el nl κ κ' a0 a1 a2 a3 a4 b0 b1 T0 (p + (Txt.slice T0 (some p) (some (p + 10240))).length) (nlz (rdKeep (rdD bo T0 p 10240))) (nlz (rdKeep (rdD bo T0 p 10240))).length 0 (posL c pl sz) (posC c pc sz) bv vs' ep') := by
  have hq := hnd
  unfold NQ6 at hq
  obtain ⟨q1, q2, q3, q4, q5, q6, q7, q8, q9, q10, q11, q12, q13, q14, q15⟩ := hq
  unfold TellR Tell KF PG
  k_fill
  intro rest off' mean mg mb dp un gd cn cs a ccd cl outer A₀ base h₀ L m s Q E B F X N T hk hd hu hret
  simp only [List.forall_mem_cons] at off'
  obtain ⟨o1, o2, o3, o4, o5, o6, -⟩ := off'
  dsimp only [stL, List.cons_append, List.nil_append] at N
  k_dflt ktr_enter
  repeat' (first | ((fail_if_success (with_reducible show wpAny _ _ (PySem.exec (PySem.Stmt.If (PySem.Expr.Attribute _ _ _) _ _ _) _) _ _ _)); first | (k_unfold; (try dsimp only)) | (k_end; wrow_close) | walk1 | (dsimp only; walk1) | fail "no step"))
  (rename Fr _ _ _ _ => f8)
  refine mid_cut (fun c : (Nat → Nat) × Value => [(Str.ofString "self", .ref sx), (Str.ofString "data", .str (rdD bo T0 p 10240) (c.1 7))]) (fun c' => (sx, instObj 166 sd) :: (sd, sdD w κ ra nl tx el (Str.ofString "") 0 0 (posL c pl sz) (posC c pc sz) c'.2 (c'.1 0) (c'.1 1) (c'.1 2) (c'.1 3) (c'.1 4)) :: (tx, instObj 73 td) :: (td, txD w κ' T0 (p + (Txt.slice T0 (some p) (some (p + 10240))).length) (c'.1 5) (c'.1 6)) :: (ra, methodObj (.ref 148) (.ref sx)) :: (el, W.listOf vs.toArray ep) :: rest) (fun c => c.2 = .none ∧ 0 < (rdD bo T0 p 10240).length ∧ (rdD bo T0 p 10240).length ≤ 100001) f8 ?h0 ?h ?k
  case h0 => omega
  case h =>
    cases bo with
    | none =>
      have e : bf = .none := hbf
      subst e
      have ed : rdD none T0 p 10240 = Txt.slice T0 (some p) (some (p + 10240)) := PySem.Str.empty_append _
      rw [ed]
      k_with_none
      k_with "mid" => exact ⟨rfl, by omega, by omega⟩
      k_steps
      have hz : rdD none T0 p 10240 = Str.ofString "" := ed.trans (len0 (by omega))
      simp only [hz, rdKeep_nil, nlz_nil, rdBuf_nil, cntInv_nil, len_nil] at hret
      refine' hret _ _ _ _ (by assumption) ?S ⟨_, ⟨_, _, _, _, _, _, _, _, _, _, rfl, rfl, hv, rfl⟩, rfl⟩
      case S =>
        refine' nsub ?N1 ?N2
        case N1 => assumption
        case N2 => kstt_sub
    | some b =>
      obtain ⟨tb, e⟩ := hbf
      subst e
      have ed : (rdD (some b) T0 p 10240).length = 1 + (Txt.slice T0 (some p) (some (p + 10240))).length := PySem.Str.length_append _ _
      k_with_none
      k_with "mid" => exact ⟨rfl, by omega, by omega⟩
      k_steps
      all_goals (exfalso; (have h9 : (⟨#[b]⟩ : PySem.Str).length = 1 := rfl); omega)
  case k =>
    rintro ⟨c1, c2⟩ m8 h8 tk8' p8 ⟨e8, hd0, hdl⟩ F8 N8
    dsimp only at e8 N8 F8
    subst e8
    clear f8
    generalize hdd : rdD bo T0 p 10240 = d at *
    (try k_fold)
    repeat' (first | ((fail_if_success (with_reducible show wpAny _ _ (PySem.exec (PySem.Stmt.If (PySem.Expr.Compare _ _ _ _) _ _ _) _) _ _ _)); first | (k_unfold; (try dsimp only)) | (k_end; wrow_close) | walk1 | (dsimp only; walk1) | fail "no step"))
    (rename Fr _ _ _ _ => f8)
    refine mid_cut (fun c : (Nat → Nat) × Value => [(Str.ofString "self", .ref sx), (Str.ofString "data", .str (rdKeep d) (c.1 7))]) (fun c' => (sx, instObj 166 sd) :: (sd, sdD w κ ra nl tx el (Str.ofString "") 0 0 (posL c pl sz) (posC c pc sz) c'.2 (c'.1 0) (c'.1 1) (c'.1 2) (c'.1 3) (c'.1 4)) :: (tx, instObj 73 td) :: (td, txD w κ' T0 (p + (Txt.slice T0 (some p) (some (p + 10240))).length) (c'.1 5) (c'.1 6)) :: (ra, methodObj (.ref 148) (.ref sx)) :: (el, W.listOf vs.toArray ep) :: rest) (fun c => BfV (rdBuf d) c.2 ∧ (rdKeep d).length ≤ 100001) f8 ?h0 ?h ?k
    case h0 => omega
    case h =>
      k_with_none
      k_with "mid" => first | exact ⟨BfV_some (by assumption), by omega⟩ | exact ⟨BfV_none, by omega⟩
      repeat' (first | ((fail_if_success (with_reducible show MidEnd _ _ _ _ _ _ _ _ _)); first | (k_unfold; (try dsimp only)) | (k_end; wrow_close) | walk1 | (dsimp only; walk1) | fail "no step"))
      all_goals first
        | (obtain ⟨e1, e2, e3⟩ := rd_yes (d := d) (by omega) (by omega); rw [e1, e2]; walk_at "MidEnd")
        | (obtain ⟨e1, e2⟩ := rd_no (d := d) (by omega); rw [e1, e2]; walk_at "MidEnd")
    case k =>
      rintro ⟨c1, c2⟩ m8 h8 tk8' p8 ⟨e8, hdl2⟩ F8 N8
      dsimp only at N8 F8 e8
      clear f8
      (try k_fold)
      k_steps
      (rename Errs _ _ => e3)
      refine' hret _ _ _ _ (by assumption) ?S ⟨_, ⟨_, _, _, _, _, _, _, _, _, _, ?R, e8, e3, rfl⟩, rfl⟩
      case R => rw [decide_eq_true hd0]
      case S =>
        refine' nsub ?N1 ?N2
        case N1 => assumption
        case N2 => kstt_sub
end
end Mine
namespace Mine
structure SS where
  T : PySem.Str
  p : Int
  c : PySem.Str
  o : Int
  pl : Int
  pc : Int
  bo : Option Nat
  n : Nat
def rdS (k : Int) (S : SS) : SS :=
  { T := S.T, p := S.p + (Txt.slice S.T (some S.p) (some (S.p + k))).length, c := nlz (rdKeep (rdD S.bo S.T S.p k)), o := 0, pl := posL S.c S.pl S.c.length, pc := posC S.c S.pc S.c.length, bo := rdBuf (rdD S.bo S.T S.p k), n := S.n + cntInv (rdKeep (rdD S.bo S.T S.p k)) }
def rdB (k : Int) (S : SS) : Bool := decide (0 < (rdD S.bo S.T S.p k).length)
def chS (S : SS) : Option Nat × SS :=
  if S.o < S.c.length then (S.c.cps[S.o.toNat]?, { S with o := S.o + 1 })
  else if rdB 10240 S then ((rdS 10240 S).c.cps[0]?, { rdS 10240 S with o := 1 }) else (none, rdS 10240 S)
open PySem.Builtin PySem.Builtin.Str in
theorem replace_pos {x y z : PySem.Str} (hx : 0 < x.length) (hz : 0 < z.length) : 0 < (Txt.replace x y z).length := by
  unfold Txt.replace
  split
  · exact hx
  · rename_i h
    rw [size_glued, length_partsBetween, Nat.add_sub_cancel]
    simp only [Bool.or_eq_true, not_or] at h
    have h1 : 0 < (occurrences x y 0 x.length (x.length + 1)).length := by
      cases ho : occurrences x y 0 x.length (x.length + 1) with
      | nil => rw [ho] at h; simp at h
      | cons a r => simp
    have h2 := Nat.mul_pos h1 hz
    omega
theorem nl_len : (PySem.Str.ofString "\n").length = 1 := by decide +kernel
theorem cr_len : (PySem.Str.ofString "\r").length = 1 := by decide +kernel
theorem crnl_len : (PySem.Str.ofString "\r\n").length = 2 := by decide +kernel
theorem rdKeep_pos {d : PySem.Str} (h : 0 < d.length) : 0 < (rdKeep d).length := by
  unfold rdKeep
  split
  · rename_i hq
    have := hq.1
    unfold PySem.Str.length at this ⊢
    simp only [List.size_toArray, List.length_dropLast, Array.length_toList]
    omega
  · exact h
theorem nlz_pos {d : PySem.Str} (h : 0 < d.length) : 0 < (nlz d).length :=
  replace_pos (replace_pos h (by rw [nl_len]; decide)) (by rw [nl_len]; decide)
theorem rdKeep_le (d : PySem.Str) : (rdKeep d).length ≤ d.length := by
  unfold rdKeep
  split
  · unfold PySem.Str.length
    simp only [List.size_toArray, List.length_dropLast, Array.length_toList]
    omega
  · exact Nat.le_refl _
theorem nlz_le (d : PySem.Str) : (nlz d).length ≤ d.length :=
  Nat.le_trans (replace_le _ (by rw [nl_len, cr_len]; decide)) (replace_le _ (by rw [nl_len, crnl_len]; decide))
theorem item_at {x : PySem.Str} {i : Int} (h0 : 0 ≤ i) (h1 : i < x.length) : ∃ c, x.cps[i.toNat]? = some c ∧ Txt.item x i = ⟨#[c]⟩ := by
  obtain ⟨c, hc⟩ := StrLaws.some_at h0 h1
  refine ⟨c, hc, ?_⟩
  show (⟨#[((seqIndex? i x.length).bind (x.cps[·]?)).getD 0]⟩ : PySem.Str) = _
  rw [StrLaws.at_nonneg h0 hc]; rfl
end Mine
theorem Mine.off_c9s {M : Model} {A : Around} {env : Env} {Q : Flow → Shared → Prop} {E : Value → Shared → Prop} {s : Shared} (h : wpAny M A (execs [] env) Q E s) : wpAny M A (execs [] env) Q E s := by
  (try (walk1; fail "no"))
  w_top off
  exact h
namespace Mine
local macro_rules | `(tactic| k_ne) => `(tactic| first | exact (show Nq _ _ by with_reducible assumption) | exact Ne.symm (show Nq _ _ by with_reducible assumption) | (refine neN ?_; (try dsimp only); omega))
local macro_rules | `(tactic| k_room) => `(tactic| ((try simp only [depth_under_make, depth_under_kw, depth_in1, depth_deeper, depth_caller, ktrTop, recursionLimit] at *); omega))
local macro_rules | `(tactic| k_units) => `(tactic| ((have hcL9 := cLine_is); (try simp only [units_in1, units_deeper, Around.mark_units, units_caller, ktrTop] at *); omega))
local macro_rules | `(tactic| ktr_enter) => `(tactic| (refine' code_def ?k1 ?k2 ?k3 ?k4 ?k5 ?kA ?kF ?kK ?k6 ?k7 ?k8 ?k9 ?kB ?_ ?c2 ?c3 ?c4 ?c5; (case kA => exact rfl); (case kF => exact rfl); (case kK => first | exact rfl | assumption); (case k1 => k_asm); (case k2 => k_asm); (case k3 => k_asm); (case k4 => k_asm); (case k5 => k_asm); (case k6 => k_is); (case k7 => k_is); (case k8 => k_room); (case k9 => first | exact BindsTo.of_eq rfl | exact binds_K (by k_in) rfl (by k_is) rfl rfl rfl); (case c5 => decide); (case kB => exact locs rfl); (case c2 => exact rfl); (case c3 => exact rfl); (case c4 => exact rfl); k_whole; intro g' L' h' FG' F' N' B' X' T'; (try dsimp only); (try k_fold)))
local macro_rules | `(tactic| k_all) => `(tactic| (with_reducible assumption))
local macro_rules | `(tactic| tb_lt) => `(tactic| first | exact Pick.head | (refine' Pick.tail ?c; (case c => tb_lt)))
local macro_rules | `(tactic| tb_start) => `(tactic| first | exact Picks.nil | (refine' Picks.cons ?a ?b; (case a => tb_lt); (case b => tb_start)))
local macro_rules | `(tactic| tb_rel) => `(tactic| first | exact List.forall_mem_nil _ | (refine' List.forall_mem_cons.mpr ⟨?a, ?b⟩; (case a => k_all); (case b => tb_rel)))
local macro_rules | `(tactic| walk_at "TPost") => `(tactic| (dsimp only [TPost]))
local macro_rules | `(tactic| size_fits) => `(tactic| ((simp only [PySem.sizeLine_eq, List.size_toArray]); omega))
local macro_rules | `(tactic| k_gentoks) => `(tactic| (with_reducible refine' gen_toksP ?hp ?_; (case hp => first | omega | ((try simp only [List.length_cons]); omega)); intro tk htk))
local macro_rules | `(tactic| kstt_sub) => `(tactic| first | exact fun _ h => h | assumption | (refine' subCons ?a ?b; (case a => k_mem); (case b => kstt_sub)) | (refine' subTail ?a; (case a => kstt_sub)))
local macro_rules | `(tactic| kst_all) => `(tactic| first | exact List.forall_mem_nil _ | (refine' List.forall_mem_cons.mpr ⟨?a, ?b⟩; (case a => exact rfl); (case b => kst_all)))
local macro_rules | `(tactic| walk_at "MidEnd") => `(tactic| first
  | ((with_reducible show MidEnd _ _ _ _ _ _ _ Flow.next _); (refine' ⟨(tk8 _ _ _ _ _ _ _ _, _), _, _, _, rfl, ?F, ?N, ?ps, ?P⟩); (case F => assumption); (case N => (refine' nsub ?N1 ?N2; (case N1 => assumption); (case N2 => kstt_sub))); (case ps => kst_all); (case P => k_extra "mid"))
  | ((fail_if_success (with_reducible show MidEnd _ _ _ _ _ _ _ Flow.next _)); dsimp only [MidEnd]))
local macro_rules | `(tactic| walk_at "WEnd") => `(tactic| ((fail_if_success (with_reducible show WEnd _ _ _ _ _ _ _ _ _ Flow.next _)); dsimp only [WEnd]))
local macro_rules | `(tactic| walk_at "callWith") => `(tactic| (k_here; (with_reducible refine' callWith_method1 ?_ ?he ?hp); (case he => k_dflt rfl); (case hp => k_dflt rfl)))
local macro_rules | `(tactic| k_steps) => `(tactic| repeat' (first | (k_unfold; (try dsimp only)) | (k_end; wrow_close) | walk1 | (dsimp only [List.cons_append, List.nil_append]; walk1) | (dsimp only) | fail "no step"))
abbrev stS (w : World) (sx sd tx td ra el nl : Nat) (κ κ' : Nat → Nat) (τ₀ τ₁ τ₂ τ₃ τ₄ σ₀ σ₁ : Nat) (S : SS) (bf : Value) (vs : List Value) (ep : Nat) : List (Addr × Obj) :=
  stL w sx sd tx td ra el nl κ κ' τ₀ τ₁ τ₂ τ₃ τ₄ σ₀ σ₁ S.T S.p S.c S.c.length S.o S.pl S.pc bf vs ep
theorem readChunk_s {w : World} {sx sd tx td ra el nl : Nat} {κ κ' : Nat → Nat} {τ₀ τ₁ τ₂ τ₃ τ₄ σ₀ σ₁ : Nat} {S : SS} {bf : Value} {vs : List Value} {ep : Nat}
    (hv : Errs vs S.n) (hbf : BfV S.bo bf) (hT : S.T.length ≤ 100000) (hn : S.n ≤ 100000) (hnd : NQ6 sx sd tx td ra el) :
    TellR w 6 60 (.ref 141) [.ref sx] (stS w sx sd tx td ra el nl κ κ' τ₀ τ₁ τ₂ τ₃ τ₄ σ₀ σ₁ S bf vs ep)
      (fun r f' rest => ∃ (S' : SS) (a0 a1 a2 a3 a4 b0 b1 : Nat) (bv : Value) (vs' : List Value) (ep' : Nat), S' = rdS 10240 S ∧ r = .bool (rdB 10240 S) ∧ BfV S'.bo bv ∧ Errs vs' S'.n ∧ f' = stS w sx sd tx td ra el nl κ κ' a0 a1 a2 a3 a4 b0 b1 S' bv vs' ep') := by
  intro rest off mean mg mb dp un gd cn cs a ccd cl outer A₀ base h₀ L m s Q E B F X N T hk hd hu ret
  refine readChunk_t (nl := nl) hv hbf (Int.natCast_nonneg _) hT hn hnd rest off mean mg mb dp un gd cn cs a ccd cl outer A₀ base h₀ L m s Q E B F X N T hk hd hu fun r n' h' tk' F' N' hP => ?_
  obtain ⟨f', ⟨a0, a1, a2, a3, a4, b0, b1, bv, vs', ep', h1, h2, h3, h4⟩, e⟩ := hP
  exact ret r n' h' tk' F' N' ⟨f', ⟨rdS 10240 S, a0, a1, a2, a3, a4, b0, b1, bv, vs', ep', rfl, h1, h2, h3, h4⟩, e⟩
end Mine
theorem Mine.off_q0 {M : Model} {A : Around} {env : Env} {Q : Flow → Shared → Prop} {E : Value → Shared → Prop} {s : Shared} (h : wpAny M A (execs [] env) Q E s) : wpAny M A (execs [] env) Q E s := by
  (try (walk1; fail "no"))
  w_top off
  exact h
namespace Mine
local macro_rules | `(tactic| k_ne) => `(tactic| first | exact (show Nq _ _ by with_reducible assumption) | exact Ne.symm (show Nq _ _ by with_reducible assumption) | (refine neN ?_; (try dsimp only); omega))
local macro_rules | `(tactic| k_room) => `(tactic| ((try simp only [depth_under_make, depth_under_kw, depth_in1, depth_deeper, depth_caller, ktrTop, recursionLimit] at *); omega))
local macro_rules | `(tactic| k_units) => `(tactic| ((have hcL9 := cLine_is); (try simp only [units_in1, units_deeper, Around.mark_units, units_caller, ktrTop] at *); omega))
local macro_rules | `(tactic| ktr_enter) => `(tactic| (refine' code_def ?k1 ?k2 ?k3 ?k4 ?k5 ?kA ?kF ?kK ?k6 ?k7 ?k8 ?k9 ?kB ?_ ?c2 ?c3 ?c4 ?c5; (case kA => exact rfl); (case kF => exact rfl); (case kK => first | exact rfl | assumption); (case k1 => k_asm); (case k2 => k_asm); (case k3 => k_asm); (case k4 => k_asm); (case k5 => k_asm); (case k6 => k_is); (case k7 => k_is); (case k8 => k_room); (case k9 => first | exact BindsTo.of_eq rfl | exact binds_K (by k_in) rfl (by k_is) rfl rfl rfl); (case c5 => decide); (case kB => exact locs rfl); (case c2 => exact rfl); (case c3 => exact rfl); (case c4 => exact rfl); k_whole; intro g' L' h' FG' F' N' B' X' T'; (try dsimp only); (try k_fold)))
local macro_rules | `(tactic| k_all) => `(tactic| (with_reducible assumption))
local macro_rules | `(tactic| tb_lt) => `(tactic| first | exact Pick.head | (refine' Pick.tail ?c; (case c => tb_lt)))
local macro_rules | `(tactic| tb_start) => `(tactic| first | exact Picks.nil | (refine' Picks.cons ?a ?b; (case a => tb_lt); (case b => tb_start)))
local macro_rules | `(tactic| tb_rel) => `(tactic| first | exact List.forall_mem_nil _ | (refine' List.forall_mem_cons.mpr ⟨?a, ?b⟩; (case a => k_all); (case b => tb_rel)))
local macro_rules | `(tactic| walk_at "TPost") => `(tactic| (dsimp only [TPost]))
local macro_rules | `(tactic| size_fits) => `(tactic| ((simp only [PySem.sizeLine_eq, List.size_toArray]); omega))
local macro_rules | `(tactic| k_gentoks) => `(tactic| (with_reducible refine' gen_toksP ?hp ?_; (case hp => first | omega | ((try simp only [List.length_cons]); omega)); intro tk htk))
local macro_rules | `(tactic| kstt_sub) => `(tactic| first | exact fun _ h => h | assumption | (refine' subCons ?a ?b; (case a => k_mem); (case b => kstt_sub)) | (refine' subTail ?a; (case a => kstt_sub)))
local macro_rules | `(tactic| kst_all) => `(tactic| first | exact List.forall_mem_nil _ | (refine' List.forall_mem_cons.mpr ⟨?a, ?b⟩; (case a => exact rfl); (case b => kst_all)))
local macro_rules | `(tactic| walk_at "MidEnd") => `(tactic| first
  | ((with_reducible show MidEnd _ _ _ _ _ _ _ Flow.next _); (refine' ⟨(tk8 _ _ _ _ _ _ _ _, _), _, _, _, rfl, ?F, ?N, ?ps, ?P⟩); (case F => assumption); (case N => (refine' nsub ?N1 ?N2; (case N1 => assumption); (case N2 => kstt_sub))); (case ps => kst_all); (case P => k_extra "mid"))
  | ((fail_if_success (with_reducible show MidEnd _ _ _ _ _ _ _ Flow.next _)); dsimp only [MidEnd]))
local macro_rules | `(tactic| walk_at "WEnd") => `(tactic| ((fail_if_success (with_reducible show WEnd _ _ _ _ _ _ _ _ _ Flow.next _)); dsimp only [WEnd]))
local macro_rules | `(tactic| walk_at "callWith") => `(tactic| (k_here; (with_reducible refine' callWith_method1 ?_ ?he ?hp); (case he => k_dflt rfl); (case hp => k_dflt rfl)))
local macro_rules | `(tactic| k_steps) => `(tactic| repeat' (first | (k_unfold; (try dsimp only)) | (k_end; wrow_close) | walk1 | (dsimp only [List.cons_append, List.nil_append]; walk1) | (dsimp only) | fail "no step"))
/-! a function's body in pieces -/
def recOfLook {K : Frag} {f : Addr} {name qual : PySem.Str} {params : Arguments} {body : List Stmt} {scope : Scope} {dV kV doc pm cdv ct oc : Value} {an od : Option Addr} {osl : Array (Option Value)}
    (_h : K.lookup f = some ⟨oc, od, .func (fnOf name qual params body scope dV kV doc pm an cdv ct), osl⟩) : PySem.Str × List Stmt × Scope := (qual, body, scope)
/-- from the n-th statement of a function on it hands back what Post says, where the names ps and the objects led stand -/
def TailAt (w : World) (R : PySem.Str × List Stmt × Scope) (f : Addr) (D U n : Nat) (ps : List (PySem.Str × Value)) (led : List (Addr × Obj)) (Post : Value → List (Addr × Obj) → Prop) : Prop :=
  ∀ (mean : ExcName → Option Value) (mg mb : PySem.Str → Option Value) (dp un : Nat) (gd : Option (List Code)) (cn : PySem.Str) (cs : Scope) (L₀ a : Addr) (ccd : Value) (cl : List (PySem.Str × Addr)) (L : Addr) (cdv : Value) (outer : List Env) (base h₀ : Heap) (m : PySem.Str → Option Value) (s : Shared) (Q : Flow → Shared → Prop) (E : Value → Shared → Prop),
    Below (ktrTop dp un gd cn cs L₀ a ccd cl outer) base (envX cn cs L₀ a ccd cl :: outer) h₀ → Fr h₀ L s.heap m → (∀ p ∈ ps, m p.1 = some p.2) → (KF w).In h₀ → News h₀ L s.heap led → Top VW LZ mean mg mb h₀ → dp + D < recursionLimit → un + U < cLine → 0 < s.toks → PassesOwn (model PG w) ((ktrTop dp un gd cn cs L₀ a ccd cl outer).deeper (envOf R.1 R.2.2 L f cdv)) (envOf R.1 R.2.2 L f cdv) E →
    (∀ r news' h' tk' m', Fr h₀ L h' m' → News h₀ L h' news' → Post r news' → Q (.ret r) { s with heap := h', toks := tk' }) →
    wpAny (model PG w) ((ktrTop dp un gd cn cs L₀ a ccd cl outer).deeper (envOf R.1 R.2.2 L f cdv)) (execs (R.2.1.drop n) (envOf R.1 R.2.2 L f cdv)) Q E s
theorem TailAt.use {w : World} {R : PySem.Str × List Stmt × Scope} {f : Addr} {D U n : Nat} {ps : List (PySem.Str × Value)} {led news : List (Addr × Obj)} {Post : Value → List (Addr × Obj) → Prop} (hT : TailAt w R f D U n ps led Post)
    {mean : ExcName → Option Value} {mg mb : PySem.Str → Option Value} {dp un : Nat} {gd : Option (List Code)} {cn : PySem.Str} {cs : Scope} {L₀ a : Addr} {ccd : Value} {cl : List (PySem.Str × Addr)} {L : Addr} {cdv : Value} {outer : List Env} {base h₀ : Heap} {m : PySem.Str → Option Value} {s : Shared} {Q : Flow → Shared → Prop} {E : Value → Shared → Prop}
    (N : News h₀ L s.heap news) (hs : ∀ p ∈ led, p ∈ news) (F : Fr h₀ L s.heap m) (hps : ∀ p ∈ ps, m p.1 = some p.2) (B : Below (ktrTop dp un gd cn cs L₀ a ccd cl outer) base (envX cn cs L₀ a ccd cl :: outer) h₀) (X : (KF w).In h₀) (T : Top VW LZ mean mg mb h₀) (hd : dp + D < recursionLimit) (hu : un + U < cLine) (htk : 0 < s.toks) (hE : PassesOwn (model PG w) ((ktrTop dp un gd cn cs L₀ a ccd cl outer).deeper (envOf R.1 R.2.2 L f cdv)) (envOf R.1 R.2.2 L f cdv) E)
    (hret : ∀ r news' h' tk' m', Fr h₀ L h' m' → News h₀ L h' news' → Post r news' → Q (.ret r) { s with heap := h', toks := tk' }) :
    wpAny (model PG w) ((ktrTop dp un gd cn cs L₀ a ccd cl outer).deeper (envOf R.1 R.2.2 L f cdv)) (execs (R.2.1.drop n) (envOf R.1 R.2.2 L f cdv)) Q E s :=
  hT mean mg mb dp un gd cn cs L₀ a ccd cl L cdv outer base h₀ m s Q E B F hps X (nsub N hs) T hd hu htk hE hret
/-- a contract whose rest holds the objects O -/
def TellO (w : World) (D U : Nat) (f : Value) (args : List Value) (O front : List (Addr × Obj)) (Post : Value → List (Addr × Obj) → List (Addr × Obj) → Prop) : Prop :=
  ∀ rest : List (Addr × Obj), (∀ q ∈ O, q ∈ rest) → (∀ q ∈ front, ∀ p ∈ rest, p.1 ≠ q.1) → Tell w D U f args (front ++ rest) (fun r n' => ∃ f', Post r f' rest ∧ n' = f' ++ rest)
theorem TellO.use {w : World} {D U : Nat} {f : Value} {args : List Value} {O front news rest : List (Addr × Obj)} {Post : Value → List (Addr × Obj) → List (Addr × Obj) → Prop} {mean : ExcName → Option Value} {mg mb : PySem.Str → Option Value} {dp un : Nat} {gd : Option (List Code)} {cn : PySem.Str} {cs : Scope} {a : Addr} {ccd : Value} {cl : List (PySem.Str × Addr)} {outer : List Env} {A₀ : Around} {base h₀ : Heap} {L : Addr} {m : PySem.Str → Option Value} {s : Shared} {Q E : Value → Shared → Prop}
    (hT : TellO w D U f args O front Post) (B : Below A₀ base outer h₀) (F : Fr h₀ L s.heap m) (X : (KF w).In h₀) (N : News h₀ L s.heap news) (T : Top VW LZ mean mg mb h₀) (hk : cs.kind = .function)
    (hp : Picks front news rest) (hO : ∀ q ∈ O, q ∈ rest) (off : ∀ q ∈ front, ∀ p ∈ rest, p.1 ≠ q.1) (hd : dp + D < recursionLimit) (hu : un + U < cLine) {n : Nat} (h0 : n ≤ s.toks)
    (ret : ∀ r f' h' tk', n ≤ tk' → Fr h₀ L h' m → News h₀ L h' (f' ++ rest) → Post r f' rest → Q r { s with heap := h', toks := tk' }) :
    wpAny (model PG w) (ktrTop dp un gd cn cs L a ccd cl outer) (call f args) Q E s :=
  wpAny_call (codeAny_with_toks (n := n) h0 (codeAny_mono (hT rest hO off mean mg mb dp un gd cn cs a ccd cl outer A₀ base h₀ L m s (fun v s' => n ≤ s'.toks → Q v s') (fun v s' => n ≤ s'.toks → E v s') B F X (nsub N hp.sub) T hk hd hu fun r n' h' tk' F' N' ⟨f', hP, e⟩ p' => ret r f' h' tk' p' F' (e ▸ N') hP) use_out))
theorem TellO.useM {w : World} {D U : Nat} {f self : Value} {q : Addr} {args : List Value} {O front news rest : List (Addr × Obj)} {Post : Value → List (Addr × Obj) → List (Addr × Obj) → Prop} {mean : ExcName → Option Value} {mg mb : PySem.Str → Option Value} {dp un : Nat} {gd : Option (List Code)} {cn : PySem.Str} {cs : Scope} {a : Addr} {ccd : Value} {cl : List (PySem.Str × Addr)} {outer : List Env} {A₀ : Around} {base h₀ : Heap} {L : Addr} {m : PySem.Str → Option Value} {s : Shared} {Q E : Value → Shared → Prop}
    (hT : TellO w D U f (self :: args) O front Post) (B : Below A₀ base outer h₀) (F : Fr h₀ L s.heap m) (X : (KF w).In h₀) (N : News h₀ L s.heap news) (T : Top VW LZ mean mg mb h₀) (hk : cs.kind = .function) (hq : (q, methodObj f self) ∈ news)
    (hp : Picks front news rest) (hO : ∀ q ∈ O, q ∈ rest) (off : ∀ q ∈ front, ∀ p ∈ rest, p.1 ≠ q.1) (hd : dp + D < recursionLimit) (hu : un + U < cLine) {n : Nat} (h0 : n ≤ s.toks)
    (ret : ∀ r f' h' tk', n ≤ tk' → Fr h₀ L h' m → News h₀ L h' (f' ++ rest) → Post r f' rest → Q r { s with heap := h', toks := tk' }) :
    wpAny (model PG w) (ktrTop dp un gd cn cs L a ccd cl outer) (call (.ref q) args) Q E s :=
  call_meth N hq (codeAny_with_toks (n := n) h0 (codeAny_mono (hT rest hO off mean mg mb dp un gd cn cs a ccd cl outer A₀ base h₀ L m s (fun v s' => n ≤ s'.toks → Q v s') (fun v s' => n ≤ s'.toks → E v s') B F X (nsub N hp.sub) T hk hd hu fun r n' h' tk' F' N' ⟨f', hP, e⟩ p' => ret r f' h' tk' p' F' (e ▸ N') hP) use_out))
theorem TellR.toO {w : World} {D U : Nat} {f : Value} {args : List Value} {O front : List (Addr × Obj)} {Post : Value → List (Addr × Obj) → List (Addr × Obj) → Prop} (h : TellR w D U f args front Post) : TellO w D U f args O front Post := fun rest _ off => h rest off
end Mine
theorem Mine.off_c11 {M : Model} {A : Around} {env : Env} {Q : Flow → Shared → Prop} {E : Value → Shared → Prop} {s : Shared} (h : wpAny M A (execs [] env) Q E s) : wpAny M A (execs [] env) Q E s := by
  (try (walk1; fail "no"))
  w_top off
  exact h
namespace Mine
local macro_rules | `(tactic| k_ne) => `(tactic| first | exact (show Nq _ _ by with_reducible assumption) | exact Ne.symm (show Nq _ _ by with_reducible assumption) | (refine neN ?_; (try dsimp only); omega))
local macro_rules | `(tactic| k_room) => `(tactic| ((try simp only [depth_under_make, depth_under_kw, depth_in1, depth_deeper, depth_caller, ktrTop, recursionLimit] at *); omega))
local macro_rules | `(tactic| k_units) => `(tactic| ((have hcL9 := cLine_is); (try simp only [units_in1, units_deeper, Around.mark_units, units_caller, ktrTop] at *); omega))
local macro_rules | `(tactic| ktr_enter) => `(tactic| (refine' code_def ?k1 ?k2 ?k3 ?k4 ?k5 ?kA ?kF ?kK ?k6 ?k7 ?k8 ?k9 ?kB ?_ ?c2 ?c3 ?c4 ?c5; (case kA => exact rfl); (case kF => exact rfl); (case kK => first | exact rfl | assumption); (case k1 => k_asm); (case k2 => k_asm); (case k3 => k_asm); (case k4 => k_asm); (case k5 => k_asm); (case k6 => k_is); (case k7 => k_is); (case k8 => k_room); (case k9 => first | exact BindsTo.of_eq rfl | exact binds_K (by k_in) rfl (by k_is) rfl rfl rfl); (case c5 => decide); (case kB => exact locs rfl); (case c2 => exact rfl); (case c3 => exact rfl); (case c4 => exact rfl); k_whole; intro g' L' h' FG' F' N' B' X' T'; (try dsimp only); (try k_fold)))
local macro_rules | `(tactic| k_all) => `(tactic| (with_reducible assumption))
local macro_rules | `(tactic| tb_lt) => `(tactic| first | exact Pick.head | (refine' Pick.tail ?c; (case c => tb_lt)))
local macro_rules | `(tactic| tb_start) => `(tactic| first | exact Picks.nil | (refine' Picks.cons ?a ?b; (case a => tb_lt); (case b => tb_start)))
local macro_rules | `(tactic| tb_rel) => `(tactic| first | exact List.forall_mem_nil _ | (refine' List.forall_mem_cons.mpr ⟨?a, ?b⟩; (case a => k_all); (case b => tb_rel)))
local macro_rules | `(tactic| walk_at "TPost") => `(tactic| (dsimp only [TPost]))
local macro_rules | `(tactic| size_fits) => `(tactic| ((simp only [PySem.sizeLine_eq, List.size_toArray]); omega))
local macro_rules | `(tactic| k_gentoks) => `(tactic| (with_reducible refine' gen_toksP ?hp ?_; (case hp => first | omega | ((try simp only [List.length_cons]); omega)); intro tk htk))
local macro_rules | `(tactic| kstt_sub) => `(tactic| first | exact fun _ h => h | assumption | (refine' subCons ?a ?b; (case a => k_mem); (case b => kstt_sub)) | (refine' subTail ?a; (case a => kstt_sub)))
local macro_rules | `(tactic| kst_all) => `(tactic| first | exact List.forall_mem_nil _ | (refine' List.forall_mem_cons.mpr ⟨?a, ?b⟩; (case a => exact rfl); (case b => kst_all)))
local macro_rules | `(tactic| walk_at "MidEnd") => `(tactic| first
  | ((with_reducible show MidEnd _ _ _ _ _ _ _ Flow.next _); (refine' ⟨(tk8 _ _ _ _ _ _ _ _, _), _, _, _, rfl, ?F, ?N, ?ps, ?P⟩); (case F => assumption); (case N => (refine' nsub ?N1 ?N2; (case N1 => assumption); (case N2 => kstt_sub))); (case ps => kst_all); (case P => k_extra "mid"))
  | ((fail_if_success (with_reducible show MidEnd _ _ _ _ _ _ _ Flow.next _)); dsimp only [MidEnd]))
local macro_rules | `(tactic| walk_at "WEnd") => `(tactic| ((fail_if_success (with_reducible show WEnd _ _ _ _ _ _ _ _ _ Flow.next _)); dsimp only [WEnd]))
local macro_rules | `(tactic| walk_at "callWith") => `(tactic| (k_here; (with_reducible refine' callWith_method1 ?_ ?he ?hp); (case he => k_dflt rfl); (case hp => k_dflt rfl)))
local macro_rules | `(tactic| k_steps) => `(tactic| repeat' (first | (k_unfold; (try dsimp only)) | (k_end; wrow_close) | walk1 | (dsimp only [List.cons_append, List.nil_append]; walk1) | (dsimp only) | fail "no step"))
theorem rdS_o11 {S S' : SS} {k : Int} (h : S' = rdS k S) : S'.o = 0 := by rw [h]; rfl
theorem rdS_pos11 {S S' : SS} {k : Int} (hB : rdB k S = true) (h : S' = rdS k S) : 0 < S'.c.length := by rw [h]; exact nlz_pos (rdKeep_pos (of_decide_eq_true hB))
section
local macro_rules | `(tactic| walk_at "call ref") => `(tactic| (k_here; k_dflt (refine' TellR.use (readChunk_s ?a1 ?a2 ?a3 ?a4 ?a5) ?k1 ?k2 ?k3 ?k4 ?k5 ?kK ?kp ?ko ?kd ?ku ?k0 ?_; (case k1 => k_asm); (case k2 => k_asm); (case k3 => k_asm); (case k4 => k_asm); (case k5 => k_asm); (case kK => first | exact rfl | assumption); (case kp => tb_start); (case ko => tb_rel); (case a1 => assumption); (case a2 => assumption); (case a3 => assumption); (case a4 => assumption); (case a5 => assumption); (case kd => k_room); (case ku => k_units); (case k0 => first | exact (show 1 ≤ _ by (try dsimp only); omega) | exact Nat.zero_le _); intro r9 f9 h9 tk9 p9 F9 N9 hP9; obtain ⟨S2, a0, a1, a2, a3, a4, b0, b1, bv, vs2, ep2, eS2, e1, hb2, hv2, e2⟩ := hP9; subst e1; subst e2; dsimp only [stS, stL, List.cons_append, List.nil_append] at N9; k_extra "rd"; (try dsimp only [List.nil_append, List.cons_append] at N9); (try k_fold))))
theorem char_t {w : World} {sx sd tx td ra el nl : Nat} {κ κ' : Nat → Nat} {τ₀ τ₁ τ₂ τ₃ τ₄ σ₀ σ₁ : Nat} {S : SS} {bf : Value} {vs : List Value} {ep : Nat}
    (hv : Errs vs S.n) (hbf : BfV S.bo bf) (ho : 0 ≤ S.o) (hT : S.T.length ≤ 100000) (hn : S.n ≤ 100000) (hcl : S.c.length ≤ 1000000) (hnd : NQ6 sx sd tx td ra el) :
    TellR w 8 80 (.ref 133) [.ref sx] (stS w sx sd tx td ra el nl κ κ' τ₀ τ₁ τ₂ τ₃ τ₄ σ₀ σ₁ S bf vs ep)
      (fun r f' rest => ∃ (S' : SS) (a0 a1 a2 a3 a4 b0 b1 : Nat) (bv : Value) (vs' : List Value) (ep' : Nat), S' = (chS S).2 ∧ BfV (chS S).1 r ∧ BfV S'.bo bv ∧ Errs vs' S'.n ∧
        f' = stS w sx sd tx td ra el nl κ κ' a0 a1 a2 a3 a4 b0 b1 S' bv vs' ep') := by
  have hq := hnd
  unfold NQ6 at hq
  obtain ⟨q1, q2, q3, q4, q5, q6, q7, q8, q9, q10, q11, q12, q13, q14, q15⟩ := hq
  unfold TellR Tell KF PG
  k_fill
  intro rest off' mean mg mb dp un gd cn cs a ccd cl outer A₀ base h₀ L m s Q E B F X N T hk hd hu hret
  dsimp only [stS, stL, List.cons_append, List.nil_append] at off' N
  simp only [List.forall_mem_cons] at off'
  obtain ⟨o1, o2, o3, o4, o5, o6, -⟩ := off'
  k_with_none
  by_cases hlt : S.o < S.c.length
  · have e : chS S = (S.c.cps[S.o.toNat]?, { S with o := S.o + 1 }) := if_pos hlt
    obtain ⟨ch, hch, hit⟩ := item_at ho hlt
    k_dflt ktr_enter
    k_steps
    refine' hret _ _ _ _ (by assumption) ?S ⟨_, ⟨{ S with o := S.o + 1 }, _, _, _, _, _, _, _, _, _, _, by rw [e], by rw [e, hch]; exact BfV_some hit, hbf, hv, rfl⟩, rfl⟩
    case S =>
      dsimp only [stS, stL, List.cons_append, List.nil_append]
      refine' nsub ?N1 ?N2
      case N1 => assumption
      case N2 => kstt_sub
  · k_dflt ktr_enter
    by_cases hB : rdB 10240 S = true
    · have e : chS S = ((rdS 10240 S).c.cps[0]?, { rdS 10240 S with o := 1 }) := (if_neg hlt).trans (if_pos hB)
      k_with "rd" => ((rename _ = rdS _ _ => eS9); have hp9 := rdS_pos11 hB eS9; have ho9 := rdS_o11 eS9)
      k_steps
      (rename _ = rdS _ _ => eS)
      (rename 0 < _ => hpos)
      (rename SS.o _ = 0 => ho2)
      (rename BfV _ _ => hb2)
      (rename Errs _ _ => hv2)
      (rename SS => S2)
      rw [← eS] at e
      obtain ⟨ch, hch, hit⟩ := item_at (x := S2.c) (i := S2.o) (by omega) (by omega)
      have hch2 := hch
      rw [ho2] at hch2
      refine' hret _ _ _ _ (by assumption) ?S ⟨_, ⟨{ S2 with o := S2.o + 1 }, _, _, _, _, _, _, _, _, _, _, by rw [e, ho2]; rfl, by rw [e]; exact (show BfV (S2.c.cps[(0 : Int).toNat]?) _ by rw [hch2]; exact BfV_some hit), hb2, hv2, rfl⟩, rfl⟩
      case S =>
        dsimp only [stS, stL, List.cons_append, List.nil_append]
        refine' nsub ?N1 ?N2
        case N1 => assumption
        case N2 => kstt_sub
    · have hB' : rdB 10240 S = false := by simpa using hB
      have e : chS S = (none, rdS 10240 S) := (if_neg hlt).trans (if_neg hB)
      k_with "rd" => skip
      k_steps
      (rename _ = rdS _ _ => eS)
      (rename BfV _ _ => hb2)
      (rename Errs _ _ => hv2)
      refine' hret _ _ _ _ (by assumption) ?S ⟨_, ⟨_, _, _, _, _, _, _, _, _, _, _, by rw [e]; exact eS, by rw [e]; exact BfV_none, hb2, hv2, rfl⟩, rfl⟩
      case S =>
        dsimp only [stS, stL, List.cons_append, List.nil_append]
        refine' nsub ?N1 ?N2
        case N1 => assumption
        case N2 => kstt_sub
end
end Mine
namespace Mine
theorem item_str_t {prog : Program} {w : World} {A : Around} {E : Value → Shared → Prop} {s : Shared} {value slice : PySem.Expr} {x : PySem.Str} {t u : Nat} {i : Int} {Q : Value → Shared → Prop} (h0 : 0 ≤ i) (h1 : i < x.length) (hx : x.length ≤ 2000000)
    (h : ∀ t', Q (.str (Txt.item x i) t') { s with toks := s.toks + 1 })
    (hs : subscripted slice false (.str x t) (.int i u) = operate [.str x t, .int i u] (getItem (.str x t) (.int i u)) := by with_unfolding_all rfl) :
    wpAny (model prog w) A (subscriptTail value slice (.str x t) (.int i u)) Q E s :=
  tail_any (typeIs_str _ _ _) F.slot_str_getitem.lookup (SB.getItem (by unfold fitsSsize; simp only [Bool.not_eq_true', Bool.or_eq_false_iff, decide_eq_false_iff_not]; omega) (StrLaws.at_isSome (by omega) h1) (h _)) hs
theorem item_str_c {prog : Program} {w : World} {A : Around} {E : Value → Shared → Prop} {s : Shared} {value slice : PySem.Expr} {x : PySem.Str} {t u ch : Nat} {i : Int} {Q : Value → Shared → Prop} (hit : Txt.item x i = ⟨#[ch]⟩) (h0 : 0 ≤ i) (h1 : i < x.length) (hx : x.length ≤ 2000000)
    (h : ∀ t', Q (.str ⟨#[ch]⟩ t') { s with toks := s.toks + 1 })
    (hs : subscripted slice false (.str x t) (.int i u) = operate [.str x t, .int i u] (getItem (.str x t) (.int i u)) := by with_unfolding_all rfl) :
    wpAny (model prog w) A (subscriptTail value slice (.str x t) (.int i u)) Q E s :=
  item_str_t h0 h1 hx (fun t' => by rw [hit]; exact h t') hs
end Mine
theorem Mine.off_c12 {M : Model} {A : Around} {env : Env} {Q : Flow → Shared → Prop} {E : Value → Shared → Prop} {s : Shared} (h : wpAny M A (execs [] env) Q E s) : wpAny M A (execs [] env) Q E s := by
  (try (walk1; fail "no"))
  w_top off
  exact h
namespace Mine
local macro_rules | `(tactic| k_ne) => `(tactic| first | exact (show Nq _ _ by with_reducible assumption) | exact Ne.symm (show Nq _ _ by with_reducible assumption) | (refine neN ?_; (try dsimp only); omega))
local macro_rules | `(tactic| k_room) => `(tactic| ((try simp only [depth_under_make, depth_under_kw, depth_in1, depth_deeper, depth_caller, ktrTop, recursionLimit] at *); omega))
local macro_rules | `(tactic| k_units) => `(tactic| ((have hcL9 := cLine_is); (try simp only [units_in1, units_deeper, Around.mark_units, units_caller, ktrTop] at *); omega))
local macro_rules | `(tactic| ktr_enter) => `(tactic| (refine' code_def ?k1 ?k2 ?k3 ?k4 ?k5 ?kA ?kF ?kK ?k6 ?k7 ?k8 ?k9 ?kB ?_ ?c2 ?c3 ?c4 ?c5; (case kA => exact rfl); (case kF => exact rfl); (case kK => first | exact rfl | assumption); (case k1 => k_asm); (case k2 => k_asm); (case k3 => k_asm); (case k4 => k_asm); (case k5 => k_asm); (case k6 => k_is); (case k7 => k_is); (case k8 => k_room); (case k9 => first | exact BindsTo.of_eq rfl | exact binds_K (by k_in) rfl (by k_is) rfl rfl rfl); (case c5 => decide); (case kB => exact locs rfl); (case c2 => exact rfl); (case c3 => exact rfl); (case c4 => exact rfl); k_whole; intro g' L' h' FG' F' N' B' X' T'; (try dsimp only); (try k_fold)))
local macro_rules | `(tactic| k_all) => `(tactic| (with_reducible assumption))
local macro_rules | `(tactic| tb_lt) => `(tactic| first | exact Pick.head | (refine' Pick.tail ?c; (case c => tb_lt)))
local macro_rules | `(tactic| tb_start) => `(tactic| first | exact Picks.nil | (refine' Picks.cons ?a ?b; (case a => tb_lt); (case b => tb_start)))
local macro_rules | `(tactic| tb_rel) => `(tactic| first | exact List.forall_mem_nil _ | (refine' List.forall_mem_cons.mpr ⟨?a, ?b⟩; (case a => k_all); (case b => tb_rel)))
local macro_rules | `(tactic| walk_at "TPost") => `(tactic| (dsimp only [TPost]))
local macro_rules | `(tactic| size_fits) => `(tactic| ((simp only [PySem.sizeLine_eq, List.size_toArray]); omega))
local macro_rules | `(tactic| k_gentoks) => `(tactic| (with_reducible refine' gen_toksP ?hp ?_; (case hp => first | omega | ((try simp only [List.length_cons]); omega)); intro tk htk))
local macro_rules | `(tactic| kstt_sub) => `(tactic| first | exact fun _ h => h | assumption | (refine' subCons ?a ?b; (case a => k_mem); (case b => kstt_sub)) | (refine' subTail ?a; (case a => kstt_sub)))
local macro_rules | `(tactic| kst_all) => `(tactic| first | exact List.forall_mem_nil _ | (refine' List.forall_mem_cons.mpr ⟨?a, ?b⟩; (case a => exact rfl); (case b => kst_all)))
local macro_rules | `(tactic| walk_at "MidEnd") => `(tactic| first
  | ((with_reducible show MidEnd _ _ _ _ _ _ _ Flow.next _); (refine' ⟨(tk8 _ _ _ _ _ _ _ _, _), _, _, _, rfl, ?F, ?N, ?ps, ?P⟩); (case F => assumption); (case N => (refine' nsub ?N1 ?N2; (case N1 => assumption); (case N2 => kstt_sub))); (case ps => kst_all); (case P => k_extra "mid"))
  | ((fail_if_success (with_reducible show MidEnd _ _ _ _ _ _ _ Flow.next _)); dsimp only [MidEnd]))
local macro_rules | `(tactic| walk_at "WEnd") => `(tactic| ((fail_if_success (with_reducible show WEnd _ _ _ _ _ _ _ _ _ Flow.next _)); dsimp only [WEnd]))
local macro_rules | `(tactic| walk_at "callWith") => `(tactic| (k_here; (with_reducible refine' callWith_method1 ?_ ?he ?hp); (case he => k_dflt rfl); (case hp => k_dflt rfl)))
local macro_rules | `(tactic| k_steps) => `(tactic| repeat' (first | (k_unfold; (try dsimp only)) | (k_end; wrow_close) | walk1 | (dsimp only [List.cons_append, List.nil_append]; walk1) | (dsimp only) | fail "no step"))
section
local macro_rules | `(tactic| walk_at "subscriptTail") => `(tactic| (k_here; (with_reducible show wpAny _ _ (subscriptTail _ _ (Value.str _ _) (Value.int _ _)) _ _ _); refine' item_str_t ?i0 ?i1 ?i2 ?_; (case i0 => omega); (case i1 => omega); (case i2 => omega); intro ti))
theorem unget_t {w : World} {sx sd : Nat} {κ : Nat → Nat} {τ₀ τ₁ τ₂ τ₃ τ₄ : Nat} {ra nl tx el : Nat} {c : PySem.Str} {o pl pc : Int} {bf : Value} {ch tk : Nat}
    (hne : sx ≠ sd) (ho : 0 ≤ o) (hcl : c.length ≤ 1000000) (hch : 0 < o → c.cps[(o - 1).toNat]? = some ch) (hoc : o ≤ c.length) :
    TellR w 1 8 (.ref 163) [.ref sx, .str ⟨#[ch]⟩ tk] [(sx, instObj 166 sd), (sd, sdD w κ ra nl tx el c c.length o pl pc bf τ₀ τ₁ τ₂ τ₃ τ₄)]
      (fun r f' rest => ∃ a0 a1 a2 a3 a4, r = .none ∧ f' = [(sx, instObj 166 sd), (sd, sdD w κ ra nl tx el (if o = 0 then ⟨#[ch]⟩ ++ c else c) (if o = 0 then (⟨#[ch]⟩ ++ c : PySem.Str) else c).length (if o = 0 then 0 else o - 1) pl pc bf a0 a1 a2 a3 a4)]) := by
  unfold TellR Tell KF PG
  k_fill
  intro rest off' mean mg mb dp un gd cn cs a ccd cl outer A₀ base h₀ L m s Q E B F X N T hk hd hu hret
  simp only [List.forall_mem_cons] at off'
  obtain ⟨o1, o2, -⟩ := off'
  dsimp only [stL, List.cons_append, List.nil_append] at N
  by_cases h0 : o = 0
  · subst h0
    have e : (((⟨#[ch]⟩ ++ c : PySem.Str).length : Nat) : Int) = c.length + 1 := by
      rw [PySem.Str.length_append]; show (((1 + c.length : Nat)) : Int) = _; omega
    simp only [if_true, e] at hret
    have h1 : (⟨#[ch]⟩ : PySem.Str).length = 1 := rfl
    k_dflt ktr_enter
    k_steps
    all_goals first
      | (exfalso; omega)
      | (refine hret _ _ _ _ (by assumption) (by assumption) ⟨_, ⟨_, _, _, _, _, rfl, rfl⟩, rfl⟩)
      | (exfalso; (rename (Txt.item _ _ == _) = false => hf); rw [hit] at hf; exact absurd hf (by simp))
  · simp only [if_neg h0] at hret
    have hit : Txt.item c (o - 1) = ⟨#[ch]⟩ := by
      obtain ⟨d, hd', hi⟩ := item_at (x := c) (i := o - 1) (by omega) (by omega)
      rw [hch (by omega)] at hd'
      rw [hi, Option.some.inj hd']
    k_dflt ktr_enter
    k_steps
    all_goals first
      | (exfalso; omega)
      | (refine hret _ _ _ _ (by assumption) (by assumption) ⟨_, ⟨_, _, _, _, _, rfl, rfl⟩, rfl⟩)
      | (exfalso; (rename (Txt.item _ _ == _) = false => hf); rw [hit] at hf; exact absurd hf (by simp))
end
end Mine
namespace Mine
section
variable {prog : Program} {w : World} {A : Around} {E : Value → Shared → Prop} {env : Env} {h₀ : Heap} {L : Addr} {Q : Flow → Shared → Prop} {test : PySem.Expr} {body orelse : List Stmt}
/-- a while's turn: what it leaves -/
def WEnd {σ : Type} (h₀ : Heap) (L : Addr) (ps : σ → List (PySem.Str × Value)) (led : σ → List (Addr × Obj)) (P : σ → Prop) (mu : σ → Nat) (n : Nat) (s : Shared) (Q : Flow → Shared → Prop) (f : Flow) (s' : Shared) : Prop :=
  match f with
  | .next => ∃ c h' tk m', s' = { s with heap := h', toks := tk } ∧ Fr h₀ L h' m' ∧ News h₀ L h' (led c) ∧ (∀ p ∈ ps c, m' p.1 = some p.2) ∧ P c ∧ mu c < n
  | .cont => ∃ c h' tk m', s' = { s with heap := h', toks := tk } ∧ Fr h₀ L h' m' ∧ News h₀ L h' (led c) ∧ (∀ p ∈ ps c, m' p.1 = some p.2) ∧ P c ∧ mu c < n
  | .brk => Q .next s'
  | .ret v => Q (.ret v) s'
theorem whl_loop {σ : Type} {s : Shared} {m : PySem.Str → Option Value} (ps : σ → List (PySem.Str × Value)) (led : σ → List (Addr × Obj)) (P : σ → Prop) (mu : σ → Nat) (c₀ : σ) (hE : PassesOwn (model prog w) A env E) (h0 : 0 < s.toks) (F : Fr h₀ L s.heap m) (N : News h₀ L s.heap (led c₀)) (hps : ∀ p ∈ ps c₀, m p.1 = some p.2) (hP : P c₀)
    (turn : ∀ (c : σ) (m' : PySem.Str → Option Value) (h : Heap) (tk : Nat), 0 < tk → P c → Fr h₀ L h (kstB m' (ps c)) → News h₀ L h (led c) →
      wpAny (model prog w) A (isTrue test env (eval test env)) (fun b s₂ => WhlIf b (wpAny (model prog w) A (execs body env) (WEnd h₀ L ps led P mu (mu c) { s with heap := h, toks := tk } Q) E s₂) (wpAny (model prog w) A (execs orelse env) Q E s₂)) E { s with heap := h, toks := tk }) :
    WhlRest prog w A E env test body orelse Q 1 s := by
  have all : ∀ (n : Nat) (c : σ) (m : PySem.Str → Option Value) (h : Heap) (tk : Nat), mu c < n → 0 < tk → Fr h₀ L h m → News h₀ L h (led c) → (∀ p ∈ ps c, m p.1 = some p.2) → P c → WhlRest prog w A E env test body orelse Q 1 { s with heap := h, toks := tk } := by
    intro n
    induction n with
    | zero => intro c _ _ _ h; exact absurd h (Nat.not_lt_zero _)
    | succ n ih =>
      intro c m h tk hmu htk F N hps hP
      refine whl_turn (k := 0) hE (wpAny_with_toks (n := 1) htk (wpAny_mono (turn c m h tk htk hP (by rw [kstB_self hps]; exact F) N) (fun b s₂ h₂ p₂ => ?_) fun _ _ e _ => e))
      unfold WhlIf at h₂ ⊢
      cases b with
      | false => exact h₂
      | true =>
        rw [if_pos rfl] at h₂ ⊢
        refine wpAny_with_toks (n := 1) p₂ (wpAny_mono h₂ (fun f s' hf p' => ?_) fun _ _ e _ => e)
        cases f with
        | next =>
          obtain ⟨c', h', tk', m', rfl, F', N', hps', hP', hm'⟩ := hf
          exact ih c' m' h' tk' (by omega) p' F' N' hps' hP'
        | cont =>
          obtain ⟨c', h', tk', m', rfl, F', N', hps', hP', hm'⟩ := hf
          exact ih c' m' h' tk' (by omega) p' F' N' hps' hP'
        | brk => exact hf
        | ret v => exact hf
  exact all (mu c₀ + 1) c₀ m s.heap s.toks (Nat.lt_succ_self _) h0 F N hps hP
end
end Mine
namespace Mine
def flat (ws : List PySem.Str) : List Nat := ws.flatMap (·.cps.toList)
theorem join_flat : ∀ ws : List PySem.Str, (Str.join (PySem.Str.ofString "") ws).cps.toList = flat ws
  | [] => rfl
  | [x] => by show x.cps.toList = _; simp [flat]
  | x :: y :: r => by
    have e : (PySem.Str.ofString "").cps = #[] := by decide +kernel
    show ((x.cps ++ (PySem.Str.ofString "").cps) ++ (Str.join (PySem.Str.ofString "") (y :: r)).cps).toList = _
    rw [Array.toList_append, Array.toList_append, e, join_flat (y :: r)]
    simp [flat]
theorem flat_len : ∀ ws : List PySem.Str, (ws.map (·.length)).sum = (flat ws).length
  | [] => rfl
  | x :: r => by
    have := flat_len r
    simp only [flat, List.map_cons, List.sum_cons, List.flatMap_cons, List.length_append, Array.length_toList] at *
    rw [this]; rfl
theorem flat_snoc (ws : List PySem.Str) (x : PySem.Str) : flat (ws ++ [x]) = flat ws ++ x.cps.toList := by simp [flat]
theorem join_t {prog : Program} {w : World} {A : Around} {E : Value → Shared → Prop} {s : Shared} {t : Tok} {Q : Value → Shared → Prop} {h₀ : Heap} {L : Addr} {news : List (Addr × Obj)} {rv : Addr} {a : Array Value} {ep : Nat} {ws : List PySem.Str}
    (N : News h₀ L s.heap news) (hm : (rv, W.listOf a ep) ∈ news) (hs : StrsAre a.toList ws) (hb : (flat ws).length + ws.length ≤ 1048576)
    (h : ∀ t' k x, x.cps.toList = flat ws → Q (.str x t') { s with toks := k }) : wpAny (model prog w) A (call (.builtin "str.join") [.str (PySem.Str.ofString "") t, .ref rv]) Q E s := by
  have hl : s.heap.IsList rv a := ⟨_, (N _ hm).1, rfl, _, rfl⟩
  have e : (PySem.Str.ofString "").length = 0 := by decide +kernel
  refine join_listW hl hs (by rw [e]; decide) (by rw [flat_len]; exact hb) fun t' k => h t' k _ (by unfold Txt.join; rw [StrLaws.glued_eq_join]; exact join_flat ws)
theorem strs_push {us : List Value} {ws : List PySem.Str} {x : PySem.Str} {t : Nat} (h : StrsAre us ws) : StrsAre (us.toArray.push (.str x t)).toList (ws ++ [x]) := by
  have e : (us.toArray.push (.str x t)).toList = us ++ [.str x t] := by simp
  rw [e]
  exact h.append' (.cons _ _ .nil)
theorem strs_arr {us : List Value} {ws : List PySem.Str} (h : StrsAre us ws) : StrsAre us.toArray.toList ws := h
end Mine
namespace Mine
/-! texts as lists: replace -/
open PySem.Builtin PySem.Builtin.Str PySem.StrLaws in
theorem replF_gap {x y : PySem.Str} {F : List Nat → List Nat} (h2 : ∀ c r, ¬ ((c :: r).take y.length = y.cps.toList) → F (c :: r) = c :: F r) : ∀ (n a i : Nat), i = a + n → i ≤ x.length → (∀ k, a ≤ k → k < i → ¬ At x y x.length k) →
    F (x.cps.toList.drop a) = (x.cps.toList.drop a).take n ++ F (x.cps.toList.drop i)
  | 0, a, i, e, _, _ => by subst e; simp
  | n + 1, a, i, e, hi, hn => by
    have ha : a < x.cps.toList.length := by simp only [Array.length_toList]; unfold PySem.Str.length at hi; omega
    have ed : x.cps.toList.drop a = x.cps.toList[a] :: x.cps.toList.drop (a + 1) := List.drop_eq_getElem_cons ha
    have hno : ¬ ((x.cps.toList.drop a).take y.length = y.cps.toList) := fun h => hn a (Nat.le_refl _) (by omega) (by
      refine ⟨?_, ?_⟩
      · have h9 := congrArg List.length h
        simp only [List.length_take, List.length_drop, Array.length_toList] at h9
        have ha' : a < x.cps.size := by simpa using ha
        unfold PySem.Str.length at h9 ⊢
        omega
      · rw [subAt_eq]; exact beq_iff_eq.mpr h)
    have h1 := replF_gap h2 n (a + 1) i (by omega) hi fun k h1 h2' => hn k (by omega) h2'
    rw [ed] at hno ⊢
    rw [h2 _ _ hno, h1]
    simp
open PySem.Builtin PySem.Builtin.Str PySem.StrLaws in
theorem replF_parts {x y z : PySem.Str} {F : List Nat → List Nat} (h1 : ∀ r, F (y.cps.toList ++ r) = z.cps.toList ++ F r) (h2 : ∀ c r, ¬ ((c :: r).take y.length = y.cps.toList) → F (c :: r) = c :: F r) (h3 : F [] = []) :
    ∀ (cuts : List Nat) (a f : Nat), a ≤ x.length → ChainG x y x.length a cuts f → (∀ k, f ≤ k → ¬ At x y x.length k) → (Str.join z (partsFrom x y.length a cuts)).cps.toList = F (x.cps.toList.drop a)
  | [], a, f, ha, hc, hn => by
    have ef : f = a := hc
    subst ef
    show (strSub x f x.length).cps.toList = _
    rw [strSub_toList, replF_gap h2 (x.length - f) f x.length (by omega) (Nat.le_refl _) fun k h1 _ => hn k h1]
    rw [show x.cps.toList.drop x.length = [] from List.drop_of_length_le (by simp [PySem.Str.length]), h3, List.append_nil]
  | c :: r, a, f, ha, ⟨h4, h5, h6, h7⟩, hn => by
    have hc : c + y.length ≤ x.length := h5.1
    have ih := replF_parts h1 h2 h3 r (c + y.length) f hc h7 hn
    have hs := h5.2
    rw [subAt_eq] at hs
    have hs' := beq_iff_eq.mp hs
    have ej : (Str.join z (partsFrom x y.length a (c :: r))) = strSub x a c ++ z ++ Str.join z (partsFrom x y.length (c + y.length) r) := by
      show Str.join z (strSub x a c :: partsFrom x y.length (c + y.length) r) = _
      cases r with
      | nil => rfl
      | cons _ _ => rfl
    rw [ej]
    show ((strSub x a c).cps ++ z.cps ++ (Str.join z (partsFrom x y.length (c + y.length) r)).cps).toList = _
    rw [Array.toList_append, Array.toList_append, ih, strSub_toList, replF_gap h2 (c - a) a c (by omega) (by omega) h6]
    have ed : x.cps.toList.drop c = y.cps.toList ++ x.cps.toList.drop (c + y.length) := by
      rw [← hs', ← List.drop_drop]
      exact (List.take_append_drop _ _).symm
    rw [ed, h1, List.append_assoc]
open PySem.Builtin PySem.Builtin.Str PySem.StrLaws in
theorem replF {x y z : PySem.Str} {F : List Nat → List Nat} (hy : 1 ≤ y.length) (h1 : ∀ r, F (y.cps.toList ++ r) = z.cps.toList ++ F r) (h2 : ∀ c r, ¬ ((c :: r).take y.length = y.cps.toList) → F (c :: r) = c :: F r) (h3 : F [] = []) :
    (Txt.replace x y z).cps.toList = F x.cps.toList := by
  obtain ⟨f, hG, hn⟩ := occ_tight x y hy
  unfold Txt.replace
  split
  · rename_i h
    have h' : occurrences x y 0 x.length (x.length + 1) = [] := by
      rw [Bool.or_eq_true] at h
      rcases h with h | h
      · exact List.isEmpty_iff.mp h
      · simp only [Bool.and_eq_true, beq_iff_eq] at h; omega
    rw [h'] at hG
    have ef : f = 0 := hG
    subst ef
    have := replF_gap (x := x) h2 x.length 0 x.length (by omega) (Nat.le_refl _) fun k h1 _ => hn k h1
    rw [show x.cps.toList.drop x.length = [] from List.drop_of_length_le (by simp [PySem.Str.length]), h3, List.append_nil, List.drop_zero] at this
    rw [this, List.take_of_length_le (by simp [PySem.Str.length])]
  · rw [glued_eq_join, partsBetween_eq, replF_parts h1 h2 h3 _ 0 f (Nat.zero_le _) hG hn, List.drop_zero]
def crlf : List Nat → List Nat
  | [] => []
  | [a] => [a]
  | a :: b :: r => if a = 13 ∧ b = 10 then 10 :: crlf r else a :: crlf (b :: r)
theorem repl_crlf (x : PySem.Str) : (Txt.replace x (PySem.Str.ofString "\r\n") (PySem.Str.ofString "\n")).cps.toList = crlf x.cps.toList := by
  have ey : (PySem.Str.ofString "\r\n").cps.toList = [13, 10] := by decide +kernel
  have el : (PySem.Str.ofString "\r\n").length = 2 := by decide +kernel
  have ez : (PySem.Str.ofString "\n").cps.toList = [10] := by decide +kernel
  refine replF (by rw [el]; decide) ?_ ?_ rfl
  · intro r; rw [ey, ez]; show crlf (13 :: 10 :: r) = _; simp [crlf]
  · intro c r h
    rw [ey, el] at h
    cases r with
    | nil => rfl
    | cons b r =>
      have h' : ¬ (c = 13 ∧ b = 10) := fun e => h (by simp [e.1, e.2])
      simp only [crlf, if_neg h']
theorem repl_one (x y z : PySem.Str) {c e : Nat} (hy : y.cps.toList = [c]) (hz : z.cps.toList = [e]) : (Txt.replace x y z).cps.toList = x.cps.toList.map fun a => if a = c then e else a := by
  have el : y.length = 1 := by unfold PySem.Str.length; rw [← Array.length_toList, hy]; rfl
  refine replF (F := List.map fun a => if a = c then e else a) (by rw [el]; decide) ?_ ?_ rfl
  · intro r; rw [hy, hz]; simp
  · intro k r h
    rw [hy, el] at h
    have h' : k ≠ c := fun e => h (by simp [e])
    simp [h']
/-- line ends mended, b: the sign before was a carriage return -/
def mend : Bool → List Nat → List Nat
  | _, [] => []
  | b, a :: r => if a = 13 then 10 :: mend true r else if a = 10 ∧ b = true then mend false r else a :: mend false r
theorem crlf_mend : ∀ (n : Nat) (l : List Nat), l.length ≤ n → ((crlf l).map fun a => if a = 13 then 10 else a) = mend false l
  | _, [], _ => rfl
  | _, [a], _ => by
    simp only [crlf, List.map_cons, List.map_nil, mend, Bool.false_eq_true, and_false, if_false]
    by_cases h : a = 13 <;> simp [h]
  | 0, _ :: _ :: _, h => by simp at h
  | n + 1, a :: b :: r, h => by
    simp only [List.length_cons] at h
    by_cases h1 : a = 13 ∧ b = 10
    · obtain ⟨rfl, rfl⟩ := h1
      simp only [crlf, and_self, if_true, List.map_cons]
      rw [crlf_mend n r (by omega)]
      simp [mend]
    · have ih := crlf_mend n (b :: r) (by simp only [List.length_cons]; omega)
      simp only [crlf, if_neg h1, List.map_cons, ih]
      by_cases ha : a = 13
      · have hb : b ≠ 10 := fun e => h1 ⟨ha, e⟩
        simp only [ha, if_true, mend, hb, false_and, if_false]
      · simp only [ha, if_false, mend, Bool.false_eq_true, and_false]
theorem nlz_mend (d : PySem.Str) : (nlz d).cps.toList = mend false d.cps.toList := by
  have ey : (PySem.Str.ofString "\r").cps.toList = [13] := by decide +kernel
  have ez : (PySem.Str.ofString "\n").cps.toList = [10] := by decide +kernel
  unfold nlz
  rw [repl_one _ _ _ ey ez, repl_crlf]
  exact crlf_mend _ _ (Nat.le_refl _)
end Mine
namespace Mine
open PySem.Builtin PySem.Builtin.Str in
theorem sliceIdx_clamp {a b : Int} {len : Nat} (hb : 0 ≤ b) : strSliceIndices (some a) (some b) 1 len = strSliceIndices (some a) (some (min b len)) 1 len := by
  have h1 : ¬ (b < 0) := by omega
  have h2 : ¬ (min b (len : Int) < 0) := by omega
  have h3 : max (0 : Int) (min (min b len) len) = max 0 (min b len) := by omega
  simp only [strSliceIndices, h1, h2, if_false, h3, show ((1 : Int) > 0) = True from by simp, if_true]
theorem slice_list {x : PySem.Str} {i j : Int} (h0 : 0 ≤ i) (h1 : i ≤ x.length) (h2 : i ≤ j) : (Txt.slice x (some i) (some j)).cps.toList = (x.cps.toList.drop i.toNat).take (j - i).toNat := by
  have e : Txt.slice x (some i) (some j) = StrLaws.sliceText x (some i) (some (min j x.length)) := by
    show StrLaws.sliceText x (some i) (some j) = _
    unfold StrLaws.sliceText
    rw [sliceIdx_clamp (by omega)]
  rw [e, StrLaws.sliceText_plain (by simp only [Array.length_toList]; unfold PySem.Str.length at h1 ⊢; omega)]
  show (x.cps.toList.drop i.toNat).take (min j x.length - i).toNat = _
  by_cases hj : j ≤ x.length
  · rw [show min j (x.length : Int) = j from by omega]
  · rw [show min j (x.length : Int) = x.length from by omega]
    have hl : (x.cps.toList.drop i.toNat).length = x.length - i.toNat := by simp [PySem.Str.length]
    rw [List.take_of_length_le (by omega), List.take_of_length_le (by omega)]
/-- what is still to be read, as it stands in the source -/
def raw (S : SS) : List Nat := (bfS S.bo).cps.toList ++ S.T.cps.toList.drop S.p.toNat
/-- what is still to be handed out -/
def rem (S : SS) : List Nat := S.c.cps.toList.drop S.o.toNat ++ mend false (raw S)
def cntI (l : List Nat) : Nat := (l.filter fun (k : Nat) => decide (inv (k : Int))).length
structure WF (S : SS) : Prop where
  o0 : 0 ≤ S.o
  oc : S.o ≤ S.c.length
  p0 : 0 ≤ S.p
  pT : S.p ≤ S.T.length
  hT : S.T.length ≤ 10000
  hc : S.c.length ≤ 20000
  hn : S.n + cntI (raw S) ≤ 20000
theorem cntI_app (a b : List Nat) : cntI (a ++ b) = cntI a + cntI b := by simp [cntI]
theorem mend_cons (f : Bool) (x : Nat) (l : List Nat) : mend f (x :: l) = if x = 13 then 10 :: mend true l else if x = 10 ∧ f = true then mend false l else x :: mend false l := rfl
theorem mend_app : ∀ (a : List Nat) (f : Bool) (b : List Nat), (a.getLast? = some 13 → b.head? ≠ some 10) → (a = [] → f = true → b.head? ≠ some 10) → mend f (a ++ b) = mend f a ++ mend false b
  | [], f, b, _, h => by
    cases b with
    | nil => rfl
    | cons c r =>
      cases f with
      | false => rfl
      | true =>
        have hc : c ≠ 10 := fun e => h rfl rfl (by simp [e])
        simp [mend, hc]
  | [x], f, b, h, _ => by
    have hb : mend true b = mend false b ∨ x ≠ 13 := by
      by_cases hx : x = 13
      · left
        cases b with
        | nil => rfl
        | cons c r =>
          have hc : c ≠ 10 := fun e => h (by simp [hx]) (by simp [e])
          simp [mend, hc]
      · exact .inr hx
    show mend f (x :: b) = mend f [x] ++ mend false b
    by_cases hx : x = 13
    · simp only [mend, hx, if_true]
      rcases hb with e | e
      · rw [e]; rfl
      · exact absurd hx e
    · simp only [mend, hx, if_false]
      split <;> rfl
  | x :: y :: r, f, b, h, _ => by
    have h' : (y :: r).getLast? = some 13 → b.head? ≠ some 10 := fun e => h (by rw [List.getLast?_cons_cons]; exact e)
    show mend f (x :: ((y :: r) ++ b)) = mend f (x :: y :: r) ++ mend false b
    have ih : ∀ g, mend g ((y :: r) ++ b) = mend g (y :: r) ++ mend false b := fun g => mend_app (y :: r) g b h' (fun e => by cases e)
    rw [mend_cons, mend_cons]
    by_cases hx : x = 13
    · rw [if_pos hx, if_pos hx, ih]; rfl
    · rw [if_neg hx, if_neg hx]
      split
      · exact ih false
      · rw [ih]; rfl
theorem mend_len : ∀ (l : List Nat) (f : Bool), (mend f l).length ≤ l.length
  | [], _ => Nat.le_refl _
  | a :: r, f => by
    have h1 := mend_len r true
    have h2 := mend_len r false
    simp only [mend]
    split
    · simp only [List.length_cons]; omega
    · split <;> simp only [List.length_cons] <;> omega
theorem rdD_list {S : SS} {k : Int} (h : WF S) (hk : 0 ≤ k) : (rdD S.bo S.T S.p k).cps.toList = (bfS S.bo).cps.toList ++ (S.T.cps.toList.drop S.p.toNat).take k.toNat := by
  show ((bfS S.bo).cps ++ (Txt.slice S.T (some S.p) (some (S.p + k))).cps).toList = _
  rw [Array.toList_append, slice_list h.p0 h.pT (by omega), show (S.p + k - S.p).toNat = k.toNat from by omega]
theorem slice_len {S : SS} {k : Int} (h : WF S) (hk : 0 ≤ k) : (Txt.slice S.T (some S.p) (some (S.p + k))).length = min k.toNat (S.T.length - S.p.toNat) := by
  have e := congrArg List.length (slice_list h.p0 h.pT (show S.p ≤ S.p + k by omega))
  simp only [Array.length_toList, List.length_take, List.length_drop] at e
  show Array.size _ = _
  rw [e, show (S.p + k - S.p).toNat = k.toNat from by omega]
  rfl
/-- one chunk more: the same signs to be handed out -/
theorem rdS_raw {S : SS} {k : Int} (h : WF S) (hk : 2 ≤ k) : raw S = (rdKeep (rdD S.bo S.T S.p k)).cps.toList ++ raw (rdS k S) ∧ ((rdKeep (rdD S.bo S.T S.p k)).cps.toList.getLast? = some 13 → (raw (rdS k S)).head? ≠ some 10) := by
  have hd := rdD_list h (show 0 ≤ k by omega)
  have hl := slice_len h (show 0 ≤ k by omega)
  have hp := h.p0
  have hpT := h.pT
  have hr : raw S = (rdD S.bo S.T S.p k).cps.toList ++ S.T.cps.toList.drop (S.p.toNat + k.toNat) := by
    rw [hd, List.append_assoc, ← List.drop_drop, List.take_append_drop]; rfl
  have hn : (rdS k S).p.toNat = min (S.p.toNat + k.toNat) S.T.length := by
    show (S.p + ((Txt.slice S.T (some S.p) (some (S.p + k))).length : Nat)).toNat = _
    rw [hl]; omega
  have hdr : S.T.cps.toList.drop (rdS k S).p.toNat = S.T.cps.toList.drop (S.p.toNat + k.toNat) := by
    rw [hn]
    by_cases hh : S.p.toNat + k.toNat ≤ S.T.length
    · rw [Nat.min_eq_left hh]
    · rw [Nat.min_eq_right (by omega), List.drop_of_length_le (by simp [PySem.Str.length]), List.drop_of_length_le (by simp only [Array.length_toList]; unfold PySem.Str.length at hh; omega)]
  have hraw : raw (rdS k S) = (bfS (rdBuf (rdD S.bo S.T S.p k))).cps.toList ++ S.T.cps.toList.drop (S.p.toNat + k.toNat) := by
    show (bfS (rdBuf (rdD S.bo S.T S.p k))).cps.toList ++ S.T.cps.toList.drop (rdS k S).p.toNat = _
    rw [hdr]
  generalize hD : rdD S.bo S.T S.p k = d at *
  by_cases hq : cutq d
  · have e1 : (rdKeep d).cps.toList = d.cps.toList.dropLast := by unfold rdKeep; rw [if_pos hq]
    have e2 : (bfS (rdBuf d)).cps.toList = [lastOf d] := by unfold rdBuf; rw [if_pos hq]; rfl
    have hne : d.cps.toList ≠ [] := fun e => by
      have := hq.1
      unfold PySem.Str.length at this
      rw [← Array.length_toList, e] at this
      simp at this
    have e3 : d.cps.toList.dropLast ++ [lastOf d] = d.cps.toList := by
      unfold lastOf
      rw [List.getLast?_eq_some_getLast hne]
      exact List.dropLast_concat_getLast hne
    rw [e1, hraw, e2, hr]
    refine ⟨by rw [← List.append_assoc, e3], fun _ => ?_⟩
    simp only [List.cons_append, List.head?_cons, ne_eq, Option.some.injEq]
    rcases hq.2 with e | e <;> omega
  · have e1 : rdKeep d = d := by unfold rdKeep; rw [if_neg hq]
    have e2 : (bfS (rdBuf d)).cps.toList = [] := by unfold rdBuf; rw [if_neg hq]; rfl
    rw [e1, hraw, e2, hr]
    refine ⟨rfl, fun hl13 => ?_⟩
    by_cases h1 : 1 < d.length
    · exfalso
      refine hq ⟨h1, .inl ?_⟩
      unfold lastOf
      rw [hl13]; rfl
    · have hlen : d.length = (bfS S.bo).length + min k.toNat (S.T.length - S.p.toNat) := by
        rw [← hD, ← hl]; exact PySem.Str.length_append _ _
      rw [List.nil_append, List.drop_of_length_le (by simp only [Array.length_toList]; unfold PySem.Str.length at *; omega)]
      simp
end Mine
namespace Mine
def tot (S : SS) : Nat := S.n + cntI (raw S)
theorem rdS_wf {S : SS} {k : Int} (h : WF S) (hk : 2 ≤ k) : WF (rdS k S) ∧ rem (rdS k S) = mend false (raw S) ∧ tot (rdS k S) = tot S := by
  obtain ⟨e1, e2⟩ := rdS_raw h hk
  have ht : tot (rdS k S) = tot S := by
    show S.n + cntInv (rdKeep (rdD S.bo S.T S.p k)) + cntI (raw (rdS k S)) = S.n + cntI (raw S)
    rw [e1, cntI_app]
    show _ + cntI (rdKeep (rdD S.bo S.T S.p k)).cps.toList + _ = _
    omega
  have hl := slice_len h (show 0 ≤ k by omega)
  have hp := h.p0
  have hpT := h.pT
  have hT := h.hT
  have hdl : (rdD S.bo S.T S.p k).length ≤ 10001 := by
    have : (rdD S.bo S.T S.p k).length = (bfS S.bo).length + (Txt.slice S.T (some S.p) (some (S.p + k))).length := PySem.Str.length_append _ _
    have hb : (bfS S.bo).length ≤ 1 := by cases S.bo <;> simp [bfS, PySem.Str.length, PySem.Str.empty]
    omega
  refine ⟨⟨Int.le_refl _, Int.natCast_nonneg _, ?_, ?_, h.hT, ?_, ?_⟩, ?_, ht⟩
  · show 0 ≤ S.p + ((Txt.slice S.T (some S.p) (some (S.p + k))).length : Nat); omega
  · show S.p + ((Txt.slice S.T (some S.p) (some (S.p + k))).length : Nat) ≤ (S.T.length : Nat); omega
  · have h1 := nlz_le (rdKeep (rdD S.bo S.T S.p k))
    have h2 := rdKeep_le (rdD S.bo S.T S.p k)
    show (nlz (rdKeep (rdD S.bo S.T S.p k))).length ≤ 20000
    omega
  · have := h.hn
    show tot (rdS k S) ≤ 20000
    rw [ht]; exact this
  · show (nlz (rdKeep (rdD S.bo S.T S.p k))).cps.toList.drop 0 ++ mend false (raw (rdS k S)) = _
    rw [List.drop_zero, nlz_mend, e1, mend_app _ _ _ e2 (fun _ e => by cases e)]
theorem rdB_raw {S : SS} {k : Int} (h : WF S) (hk : 2 ≤ k) : (rdB k S = false → raw S = []) ∧ (rdB k S = true → 0 < (rdS k S).c.length) := by
  refine ⟨fun hb => ?_, fun hb => nlz_pos (rdKeep_pos (of_decide_eq_true hb))⟩
  have hb' : ¬ 0 < (rdD S.bo S.T S.p k).length := of_decide_eq_false hb
  have hd := rdD_list h (show 0 ≤ k by omega)
  have h0 : (rdD S.bo S.T S.p k).cps.toList = [] := by
    apply List.eq_nil_of_length_eq_zero
    simp only [Array.length_toList]
    unfold PySem.Str.length at hb'
    omega
  rw [h0] at hd
  have hd' := List.append_eq_nil_iff.mp hd.symm
  unfold raw
  rw [hd'.1, List.nil_append]
  have h2 := congrArg List.length hd'.2
  simp only [List.length_take, List.length_nil] at h2
  apply List.eq_nil_of_length_eq_zero
  omega
theorem drop_cons {l : List Nat} {i : Nat} {a : Nat} (h : l[i]? = some a) : l.drop i = a :: l.drop (i + 1) := by
  obtain ⟨hi, e⟩ := List.getElem?_eq_some_iff.mp h
  rw [List.drop_eq_getElem_cons hi, e]
theorem chS_rem {S : SS} (h : WF S) : WF (chS S).2 ∧ tot (chS S).2 = tot S ∧ (chS S).1 = (rem S).head? ∧ rem (chS S).2 = (rem S).tail := by
  have ho := h.o0
  have hoc := h.oc
  by_cases hlt : S.o < S.c.length
  · have e : chS S = (S.c.cps[S.o.toNat]?, { S with o := S.o + 1 }) := if_pos hlt
    obtain ⟨ch, hch, _⟩ := item_at ho hlt
    rw [e]
    have hd := drop_cons (l := S.c.cps.toList) (i := S.o.toNat) (a := ch) (by simpa using hch)
    have hr : rem S = ch :: (S.c.cps.toList.drop (S.o.toNat + 1) ++ mend false (raw S)) := by
      unfold rem; rw [hd]; rfl
    refine ⟨⟨?_, ?_, h.p0, h.pT, h.hT, h.hc, h.hn⟩, rfl, ?_, ?_⟩
    · show 0 ≤ S.o + 1; omega
    · show S.o + 1 ≤ (S.c.length : Nat); omega
    · rw [hr]; exact hch
    · rw [hr]
      show S.c.cps.toList.drop (S.o + 1).toNat ++ mend false (raw S) = _
      rw [show (S.o + 1).toNat = S.o.toNat + 1 from by omega]; rfl
  · obtain ⟨w1, w2, w3⟩ := rdS_wf (k := 10240) h (by decide)
    obtain ⟨b1, b2⟩ := rdB_raw (k := 10240) h (by decide)
    have hrem : rem S = mend false (raw S) := by
      unfold rem
      rw [List.drop_of_length_le (by simp only [Array.length_toList]; unfold PySem.Str.length at hlt; omega)]; rfl
    cases hb : rdB 10240 S with
    | false =>
      have e : chS S = (none, rdS 10240 S) := (if_neg hlt).trans (if_neg (by rw [hb]; exact Bool.false_ne_true))
      rw [e, hrem, w2, b1 hb]
      exact ⟨w1, w3, rfl, rfl⟩
    | true =>
      have e : chS S = ((rdS 10240 S).c.cps[0]?, { rdS 10240 S with o := 1 }) := (if_neg hlt).trans (if_pos hb)
      have hpos := b2 hb
      have ho' : (rdS 10240 S).o = 0 := rfl
      clear b1 b2
      generalize rdS 10240 S = S' at *
      obtain ⟨ch, hch, _⟩ := item_at (x := S'.c) (i := 0) (by omega) (by omega)
      have hch' : S'.c.cps[0]? = some ch := hch
      have hd := drop_cons (l := S'.c.cps.toList) (i := 0) (a := ch) (by simpa using hch')
      have hr : rem S = ch :: (S'.c.cps.toList.drop 1 ++ mend false (raw S')) := by
        rw [hrem, ← w2]
        unfold rem
        rw [ho']
        show S'.c.cps.toList.drop 0 ++ _ = _
        rw [hd]; rfl
      rw [e]
      refine ⟨⟨?_, ?_, w1.p0, w1.pT, w1.hT, w1.hc, w1.hn⟩, w3, ?_, ?_⟩
      · show (0 : Int) ≤ 1; decide
      · show (1 : Int) ≤ (S'.c.length : Nat); omega
      · rw [hr, hch']; rfl
      · rw [hr]; rfl
/-- a sign put back -/
def ugS (ch : Nat) (S : SS) : SS := { S with c := if S.o = 0 then ⟨#[ch]⟩ ++ S.c else S.c, o := if S.o = 0 then 0 else S.o - 1 }
theorem ugS_rem {S : SS} {ch : Nat} (h : WF S) (hc : 0 < S.o → S.c.cps[(S.o - 1).toNat]? = some ch) (hl : S.c.length ≤ 19999) : WF (ugS ch S) ∧ tot (ugS ch S) = tot S ∧ rem (ugS ch S) = ch :: rem S := by
  have ho := h.o0
  have hoc := h.oc
  by_cases h0 : S.o = 0
  · have e : ugS ch S = { S with c := ⟨#[ch]⟩ ++ S.c, o := 0 } := by unfold ugS; rw [if_pos h0, if_pos h0]
    have el : (⟨#[ch]⟩ ++ S.c : PySem.Str).length = 1 + S.c.length := PySem.Str.length_append _ _
    rw [e]
    refine ⟨⟨Int.le_refl _, Int.natCast_nonneg _, h.p0, h.pT, h.hT, ?_, h.hn⟩, rfl, ?_⟩
    · show (⟨#[ch]⟩ ++ S.c : PySem.Str).length ≤ 20000; omega
    · show ((⟨#[ch]⟩ : PySem.Str).cps ++ S.c.cps).toList.drop 0 ++ mend false (raw S) = ch :: (S.c.cps.toList.drop S.o.toNat ++ mend false (raw S))
      rw [h0, Array.toList_append]; rfl
  · have e : ugS ch S = { S with o := S.o - 1 } := by unfold ugS; rw [if_neg h0, if_neg h0]
    rw [e]
    have hd := drop_cons (l := S.c.cps.toList) (i := (S.o - 1).toNat) (a := ch) (by simpa using hc (by omega))
    refine ⟨⟨?_, ?_, h.p0, h.pT, h.hT, h.hc, h.hn⟩, rfl, ?_⟩
    · show 0 ≤ S.o - 1; omega
    · show S.o - 1 ≤ (S.c.length : Nat); omega
    · show S.c.cps.toList.drop (S.o - 1).toNat ++ mend false (raw S) = _
      rw [hd, show (S.o - 1).toNat + 1 = S.o.toNat from by omega]; rfl
end Mine
namespace Mine
/-! line and column -/
def colS (k : Int) (c : Nat) : Int := if c = 10 then 0 else k + 1
def lcL (l : List Nat) : Int := (l.count 10 : Nat)
def lcC (k : Int) (l : List Nat) : Int := l.foldl colS k
theorem lcC_app (k : Int) (a b : List Nat) : lcC k (a ++ b) = lcC (lcC k a) b := List.foldl_append
theorem lcL_app (a b : List Nat) : lcL (a ++ b) = lcL a + lcL b := by simp [lcL]
theorem lcC_none : ∀ (l : List Nat) (k : Int), 10 ∉ l → lcC k l = k + l.length
  | [], k, _ => by simp [lcC]
  | a :: r, k, h => by
    have ha : a ≠ 10 := fun e => h (by simp [e])
    show lcC (colS k a) r = _
    rw [lcC_none r _ (fun e => h (.tail _ e))]
    simp only [colS, if_neg ha, List.length_cons]; omega
open PySem.Builtin PySem.Builtin.Str PySem.StrLaws in
theorem at_one {x : PySem.Str} {c hi i : Nat} (hh : hi ≤ x.length) : At x ⟨#[c]⟩ hi i ↔ (x.cps.toList.take hi)[i]? = some c := by
  have h1 := subAt_one x c i
  have e1 : (⟨#[c]⟩ : PySem.Str).length = 1 := rfl
  rw [e1] at h1
  unfold At
  rw [e1, List.getElem?_take]
  constructor
  · rintro ⟨a, b⟩
    rw [if_pos (by omega)]
    exact h1.mp ⟨by omega, b⟩
  · intro h
    by_cases hlt : i < hi
    · rw [if_pos hlt] at h
      exact ⟨by omega, (h1.mpr h).2⟩
    · rw [if_neg hlt] at h; cases h
open PySem.Builtin PySem.Builtin.Str PySem.StrLaws in
theorem cnt_run {x : PySem.Str} {c hi limit : Nat} (hh : hi ≤ x.length) : ∀ (m cur : Nat) (st : Array Nat × Nat), st.snd ≤ cur → st.fst.size + m ≤ limit →
    (forIn (List.range' cur m) st (occBody x ⟨#[c]⟩ hi limit)).run.fst.size = st.fst.size + (((x.cps.toList.take hi).drop cur).take m).count c
  | 0, cur, st, _, _ => by simp
  | m + 1, cur, st, h1, h2 => by
    rw [List.range'_succ, List.forIn_cons]
    unfold occBody
    have e1 : (⟨#[c]⟩ : PySem.Str).length = 1 := rfl
    have hat := at_one (c := c) (i := cur) hh
    unfold At at hat
    split
    · rename_i hc
      have hx := hat.mp ⟨hc.1.2, hc.2⟩
      rw [drop_cons hx]
      have ih := cnt_run (c := c) (limit := limit) hh m (cur + 1) (st.fst.push cur, cur + (⟨#[c]⟩ : PySem.Str).length) (by rw [e1]; exact Nat.le_refl _) (by show (st.fst.push cur).size + m ≤ limit; rw [Array.size_push]; omega)
      refine (Eq.trans ih ?_)
      simp only [Array.size_push, List.take_succ_cons, List.count_cons_self]; omega
    · rename_i hc
      have ih := cnt_run (c := c) (limit := limit) hh m (cur + 1) (st.fst, st.snd) (by show st.snd ≤ cur + 1; omega) (by show st.fst.size + m ≤ limit; omega)
      refine (Eq.trans ih ?_)
      show st.fst.size + _ = st.fst.size + _
      have hx : ¬ (x.cps.toList.take hi)[cur]? = some c := fun e => hc ⟨⟨⟨by omega, h1⟩, (hat.mpr e).1⟩, (hat.mpr e).2⟩
      cases hg : (x.cps.toList.take hi)[cur]? with
      | none =>
        have hlen := List.getElem?_eq_none_iff.mp hg
        rw [List.drop_of_length_le hlen, List.drop_of_length_le (by omega)]; simp
      | some d =>
        rw [drop_cons hg]
        have hd : d ≠ c := fun e => hx (by rw [hg, e])
        simp [hd]
open PySem.Builtin PySem.Builtin.Str PySem.StrLaws in
theorem cnt4_list {x : PySem.Str} {j : Nat} (hj : j ≤ x.length) : (cnt4 x nlS 0 j : Int) = lcL (x.cps.toList.take j) := by
  have en : nlS = ⟨#[10]⟩ := by decide +kernel
  unfold cnt4 lcL
  rw [en, Nat.min_eq_left hj, occ_eq]
  have h := cnt_run (x := x) (c := 10) (hi := j) (limit := x.length + 1) hj (j + 1) 0 (#[], 0) (Nat.le_refl _) (by show 0 + (j + 1) ≤ _; omega)
  rw [Nat.sub_zero, Array.length_toList, h]
  simp only [List.drop_zero, List.size_toArray, List.length_nil, Nat.zero_add]
  rw [List.take_of_length_le (by rw [List.length_take]; omega)]
open PySem.Builtin PySem.Builtin.Str PySem.StrLaws in
theorem rf4_list {x : PySem.Str} {j : Nat} (hj : j ≤ x.length) :
    (rf4 x nlS 0 j = -1 ∧ 10 ∉ x.cps.toList.take j) ∨ ∃ a : Nat, rf4 x nlS 0 j = a ∧ (x.cps.toList.take j)[a]? = some 10 ∧ 10 ∉ (x.cps.toList.take j).drop (a + 1) := by
  have en : nlS = ⟨#[10]⟩ := by decide +kernel
  unfold rf4
  rw [en, Nat.min_eq_left hj, last_eq]
  have h := last_run x ⟨#[10]⟩ j (List.range' 0 (j + 1)) [] none (fun i hi => nomatch hi) (fun i hi => nomatch hi) (List.pairwise_lt_range' ..)
  rw [List.nil_append] at h
  rw [Nat.sub_zero]
  cases hr : (forIn (List.range' 0 (j + 1)) none (lastBody x ⟨#[10]⟩ j)).run with
  | none =>
    left
    rw [hr] at h
    refine ⟨rfl, fun hm => ?_⟩
    obtain ⟨i, hi⟩ := List.getElem?_of_mem hm
    have hlt : i < (x.cps.toList.take j).length := (List.getElem?_eq_some_iff.mp hi).1
    rw [List.length_take] at hlt
    exact h i (by rw [List.mem_range'_1]; omega) ((at_one hj).mpr hi)
  | some a =>
    right
    rw [hr] at h
    refine ⟨a, rfl, (at_one hj).mp h.1, fun hm => ?_⟩
    obtain ⟨i, hi⟩ := List.getElem?_of_mem hm
    rw [List.getElem?_drop] at hi
    have hlt : a + 1 + i < (x.cps.toList.take j).length := (List.getElem?_eq_some_iff.mp hi).1
    rw [List.length_take] at hlt
    exact h.2 (a + 1 + i) (by rw [List.mem_range'_1]; omega) (by omega) ((at_one hj).mpr hi)
theorem posL_list {x : PySem.Str} {pl o : Int} (h0 : 0 ≤ o) (h1 : o ≤ x.length) : posL x pl o = pl + lcL (x.cps.toList.take o.toNat) := by
  unfold posL
  rw [cnt4_list (by omega)]
theorem posC_list {x : PySem.Str} {pc o : Int} (h0 : 0 ≤ o) (h1 : o ≤ x.length) : posC x pc o = lcC pc (x.cps.toList.take o.toNat) := by
  have hl : (x.cps.toList.take o.toNat).length = o.toNat := by
    rw [List.length_take, Array.length_toList]; unfold PySem.Str.length at h1; omega
  unfold posC
  rcases rf4_list (x := x) (j := o.toNat) (by omega) with ⟨e, hn⟩ | ⟨a, e, ha, hn⟩
  · rw [if_pos e, lcC_none _ _ hn, hl]; omega
  · rw [if_neg (by rw [e]; omega), e]
    have hsp := (take_at ha).1
    have hlt : a < (x.cps.toList.take o.toNat).length := (List.getElem?_eq_some_iff.mp ha).1
    rw [hsp, lcC_app]
    show _ = lcC (colS _ 10) _
    rw [lcC_none _ _ hn]
    simp only [colS, if_true, List.length_drop, hl]
    omega
def PosOK (S : SS) (done : List Nat) : Prop := ∃ pre, done = pre ++ S.c.cps.toList.take S.o.toNat ∧ S.pl = lcL pre ∧ S.pc = lcC 0 pre
theorem PosOK.pos {S : SS} {done : List Nat} (h : PosOK S done) (hw : WF S) : posL S.c S.pl S.o = lcL done ∧ posC S.c S.pc S.o = lcC 0 done := by
  obtain ⟨pre, rfl, e1, e2⟩ := h
  rw [posL_list hw.o0 hw.oc, posC_list hw.o0 hw.oc, e1, e2, lcL_app, lcC_app]
  exact ⟨rfl, rfl⟩
theorem rdS_pos {S : SS} {done : List Nat} {k : Int} (h : PosOK S done) (ho : S.o = S.c.length) : PosOK (rdS k S) done := by
  obtain ⟨pre, rfl, e1, e2⟩ := h
  have ht : S.c.cps.toList.take S.o.toNat = S.c.cps.toList := List.take_of_length_le (by simp only [Array.length_toList]; unfold PySem.Str.length at ho; omega)
  have ht2 : S.c.cps.toList.take (S.c.length : Int).toNat = S.c.cps.toList := List.take_of_length_le (by simp only [Array.length_toList]; unfold PySem.Str.length; omega)
  refine ⟨pre ++ S.c.cps.toList, by rw [ht]; show _ = _ ++ List.take 0 _; simp, ?_, ?_⟩
  · show posL S.c S.pl S.c.length = _
    rw [posL_list (by omega) (Int.le_refl _), ht2, e1, lcL_app]
  · show posC S.c S.pc S.c.length = _
    rw [posC_list (by omega) (Int.le_refl _), ht2, e2, lcC_app]
end Mine
namespace Mine
/-- between the turns: what is taken, what is left -/
structure CUI (pr : Nat → Bool) (S₀ S : SS) (acc : List Nat) : Prop where
  all : ∀ a ∈ acc, pr a = true
  app : acc ++ rem S = rem S₀
  tot : tot S = tot S₀
  pos : ∀ done, PosOK S₀ done → PosOK S (done ++ acc)

theorem slice_from {x : PySem.Str} {i : Int} (h0 : 0 ≤ i) (h1 : i ≤ x.length) : (Txt.slice x (some i) none).cps.toList = x.cps.toList.drop i.toNat := by
  have e : Txt.slice x (some i) none = Txt.slice x (some i) (some (x.length : Int)) := by
    show StrLaws.sliceText x (some i) none = StrLaws.sliceText x (some i) (some (x.length : Int))
    unfold StrLaws.sliceText
    rw [StrLaws.sliceIdx_none_hi]
  rw [e, slice_list h0 h1 h1, List.take_of_length_le (by rw [List.length_drop, Array.length_toList]; unfold PySem.Str.length; omega)]
theorem CUI.step {pr : Nat → Bool} {S₀ S : SS} {acc : List Nat} {e : Int} (h : CUI pr S₀ S acc) (hw : WF S) (h1 : S.o ≤ e) (h2 : e ≤ S.c.length) (h3 : ∀ i, S.o.toNat ≤ i → i < e.toNat → ∃ ch, S.c.cps[i]? = some ch ∧ pr ch = true) :
    CUI pr S₀ { S with o := e } (acc ++ (S.c.cps.toList.drop S.o.toNat).take (e - S.o).toNat) ∧ WF { S with o := e } := by
  have ho := hw.o0
  have hsum : S.o.toNat + (e - S.o).toNat = e.toNat := by omega
  refine ⟨⟨?_, ?_, h.tot, ?_⟩, ⟨by show 0 ≤ e; omega, h2, hw.p0, hw.pT, hw.hT, hw.hc, hw.hn⟩⟩
  · intro a ha
    rcases List.mem_append.mp ha with ha | ha
    · exact h.all a ha
    · obtain ⟨i, hi⟩ := List.getElem?_of_mem ha
      rw [List.getElem?_take] at hi
      split at hi
      · rename_i hlt
        rw [List.getElem?_drop] at hi
        obtain ⟨ch, hc, hp⟩ := h3 (S.o.toNat + i) (by omega) (by omega)
        have hc' : S.c.cps.toList[S.o.toNat + i]? = some ch := by simpa using hc
        rw [hc'] at hi
        rw [← Option.some.inj hi]; exact hp
      · cases hi
  · rw [← h.app, List.append_assoc]
    congr 1
    show _ ++ (S.c.cps.toList.drop e.toNat ++ mend false (raw S)) = S.c.cps.toList.drop S.o.toNat ++ mend false (raw S)
    rw [← List.append_assoc, ← hsum, ← List.drop_drop, List.take_append_drop]
  · intro done hd
    obtain ⟨pre, ep, e1, e2⟩ := h.pos done hd
    refine ⟨pre, ?_, e1, e2⟩
    rw [← List.append_assoc, ep, List.append_assoc]
    show _ = pre ++ S.c.cps.toList.take e.toNat
    congr 1
    rw [← hsum, List.take_add]
theorem CUI.next {pr : Nat → Bool} {S₀ S : SS} {acc : List Nat} (h : CUI pr S₀ S acc) (hw : WF S) (ho : S.o = S.c.length) : CUI pr S₀ (rdS 10240 S) acc := by
  obtain ⟨w1, w2, w3⟩ := rdS_wf (k := 10240) hw (by decide)
  refine ⟨h.all, ?_, w3.trans h.tot, fun done hd => rdS_pos (h.pos done hd) ho⟩
  have e9 : rem S = mend false (raw S) := by
    unfold rem
    rw [List.drop_of_length_le (by simp only [Array.length_toList]; unfold PySem.Str.length at ho; omega)]; rfl
  rw [← h.app, w2, e9]
theorem takeWhile_all {pr : Nat → Bool} : ∀ {acc r : List Nat}, (∀ a ∈ acc, pr a = true) → (∀ a, r.head? = some a → pr a = false) → (acc ++ r).takeWhile pr = acc ∧ (acc ++ r).dropWhile pr = r
  | [], [], _, _ => ⟨rfl, rfl⟩
  | [], a :: r, _, h => by
    have := h a rfl
    simp [this]
  | a :: acc, r, h1, h2 => by
    have ha := h1 a (.head _)
    obtain ⟨e1, e2⟩ := takeWhile_all (acc := acc) (r := r) (fun b hb => h1 b (.tail _ hb)) h2
    simp [ha, e1, e2]
theorem CUI.fin {pr : Nat → Bool} {S₀ S : SS} {acc : List Nat} (h : CUI pr S₀ S acc) (hh : ∀ a, (rem S).head? = some a → pr a = false) : (rem S₀).takeWhile pr = acc ∧ (rem S₀).dropWhile pr = rem S := by
  rw [← h.app]; exact takeWhile_all h.all hh
theorem CUI.len {pr : Nat → Bool} {S₀ S : SS} {acc : List Nat} (h : CUI pr S₀ S acc) (hw : WF S₀) : acc.length ≤ 40000 := by
  have e := congrArg List.length h.app
  have h1 := mend_len (raw S₀) false
  have h2 : (rem S₀).length ≤ 20000 + (raw S₀).length := by
    unfold rem
    rw [List.length_append, List.length_drop, Array.length_toList]
    have := hw.hc
    unfold PySem.Str.length at this
    omega
  have h3 : (raw S₀).length ≤ 1 + 10000 := by
    unfold raw
    rw [List.length_append, List.length_drop, Array.length_toList, Array.length_toList]
    have := hw.hT
    have hb : (bfS S₀.bo).cps.size ≤ 1 := by cases S₀.bo <;> simp [bfS, PySem.Str.empty]
    unfold PySem.Str.length at this
    omega
  rw [List.length_append] at e
  omega
theorem raw_len {S : SS} (hw : WF S) : (raw S).length ≤ 10001 := by
  unfold raw
  rw [List.length_append, List.length_drop, Array.length_toList, Array.length_toList]
  have := hw.hT
  have hb : (bfS S.bo).cps.size ≤ 1 := by cases S.bo <;> simp [bfS, PySem.Str.empty]
  unfold PySem.Str.length at this
  omega
theorem raw_less {S : SS} (hw : WF S) (hb : rdB 10240 S = true) : (raw (rdS 10240 S)).length < (raw S).length := by
  obtain ⟨e, _⟩ := rdS_raw (k := 10240) hw (by decide)
  have h1 := rdKeep_pos (of_decide_eq_true hb)
  have e' := congrArg List.length e
  have e2 : (rdKeep (rdD S.bo S.T S.p 10240)).cps.toList.length = (rdKeep (rdD S.bo S.T S.p 10240)).cps.size := Array.length_toList
  rw [List.length_append, e2] at e'
  unfold PySem.Str.length at h1
  omega
theorem mend_rdS_nil {S : SS} (hw : WF S) (hb : rdB 10240 S = false) : rem (rdS 10240 S) = [] := by
  rw [(rdS_wf (k := 10240) hw (by decide)).2.1, (rdB_raw (k := 10240) hw (by decide)).1 hb]; rfl
end Mine
theorem Mine.off_c15 {M : Model} {A : Around} {env : Env} {Q : Flow → Shared → Prop} {E : Value → Shared → Prop} {s : Shared} (h : wpAny M A (execs [] env) Q E s) : wpAny M A (execs [] env) Q E s := by
  (try (walk1; fail "no"))
  w_top off
  exact h
namespace Mine
local macro_rules | `(tactic| k_ne) => `(tactic| first | exact (show Nq _ _ by with_reducible assumption) | exact Ne.symm (show Nq _ _ by with_reducible assumption) | (refine neN ?_; (try dsimp only); omega))
local macro_rules | `(tactic| k_room) => `(tactic| ((try simp only [depth_under_make, depth_under_kw, depth_in1, depth_deeper, depth_caller, ktrTop, recursionLimit] at *); omega))
local macro_rules | `(tactic| k_units) => `(tactic| ((have hcL9 := cLine_is); (try simp only [units_in1, units_deeper, Around.mark_units, units_caller, ktrTop] at *); omega))
local macro_rules | `(tactic| ktr_enter) => `(tactic| (refine' code_def ?k1 ?k2 ?k3 ?k4 ?k5 ?kA ?kF ?kK ?k6 ?k7 ?k8 ?k9 ?kB ?_ ?c2 ?c3 ?c4 ?c5; (case kA => exact rfl); (case kF => exact rfl); (case kK => first | exact rfl | assumption); (case k1 => k_asm); (case k2 => k_asm); (case k3 => k_asm); (case k4 => k_asm); (case k5 => k_asm); (case k6 => k_is); (case k7 => k_is); (case k8 => k_room); (case k9 => first | exact BindsTo.of_eq rfl | exact binds_K (by k_in) rfl (by k_is) rfl rfl rfl); (case c5 => decide); (case kB => exact locs rfl); (case c2 => exact rfl); (case c3 => exact rfl); (case c4 => exact rfl); k_whole; intro g' L' h' FG' F' N' B' X' T'; (try dsimp only); (try k_fold)))
local macro_rules | `(tactic| k_all) => `(tactic| (with_reducible assumption))
local macro_rules | `(tactic| tb_lt) => `(tactic| first | exact Pick.head | (refine' Pick.tail ?c; (case c => tb_lt)))
local macro_rules | `(tactic| tb_start) => `(tactic| first | exact Picks.nil | (refine' Picks.cons ?a ?b; (case a => tb_lt); (case b => tb_start)))
local macro_rules | `(tactic| tb_rel) => `(tactic| first | exact List.forall_mem_nil _ | (refine' List.forall_mem_cons.mpr ⟨?a, ?b⟩; (case a => k_all); (case b => tb_rel)))
local macro_rules | `(tactic| walk_at "TPost") => `(tactic| (dsimp only [TPost]))
local macro_rules | `(tactic| size_fits) => `(tactic| ((simp only [PySem.sizeLine_eq, List.size_toArray]); omega))
local macro_rules | `(tactic| k_gentoks) => `(tactic| (with_reducible refine' gen_toksP ?hp ?_; (case hp => first | omega | ((try simp only [List.length_cons]); omega)); intro tk htk))
local macro_rules | `(tactic| kstt_sub) => `(tactic| first | exact fun _ h => h | assumption | (refine' subCons ?a ?b; (case a => k_mem); (case b => kstt_sub)) | (refine' subTail ?a; (case a => kstt_sub)))
local macro_rules | `(tactic| kst_all) => `(tactic| first | exact List.forall_mem_nil _ | (refine' List.forall_mem_cons.mpr ⟨?a, ?b⟩; (case a => exact rfl); (case b => kst_all)))
local macro_rules | `(tactic| walk_at "MidEnd") => `(tactic| first
  | ((with_reducible show MidEnd _ _ _ _ _ _ _ Flow.next _); (refine' ⟨(tk8 _ _ _ _ _ _ _ _, _), _, _, _, rfl, ?F, ?N, ?ps, ?P⟩); (case F => assumption); (case N => (refine' nsub ?N1 ?N2; (case N1 => assumption); (case N2 => kstt_sub))); (case ps => kst_all); (case P => k_extra "mid"))
  | ((fail_if_success (with_reducible show MidEnd _ _ _ _ _ _ _ Flow.next _)); dsimp only [MidEnd]))
local macro_rules | `(tactic| walk_at "WEnd") => `(tactic| ((fail_if_success (with_reducible show WEnd _ _ _ _ _ _ _ _ _ Flow.next _)); dsimp only [WEnd]))
local macro_rules | `(tactic| walk_at "callWith") => `(tactic| (k_here; (with_reducible refine' callWith_method1 ?_ ?he ?hp); (case he => k_dflt rfl); (case hp => k_dflt rfl)))
local macro_rules | `(tactic| k_steps) => `(tactic| repeat' (first | (k_unfold; (try dsimp only)) | (k_end; wrow_close) | walk1 | (dsimp only [List.cons_append, List.nil_append]; walk1) | (dsimp only) | fail "no step"))
/-- membership in what is handed to charsUntil -/
def InBy (w : World) (cv : Value) (fr : List (Addr × Obj)) (q : Nat → Bool) : Prop :=
  ∀ (A : Around) (E : Value → Shared → Prop) (s : Shared) (h₀ : Heap) (L : Addr) (m : PySem.Str → Option Value) (news : List (Addr × Obj)) (ch t : Nat) (Q : Value → Shared → Prop), Fr h₀ L s.heap m → (KF w).In h₀ → News h₀ L s.heap news → (∀ p ∈ fr, p ∈ news) →
    (∀ tk, Q (.bool (q ch)) { s with toks := tk }) → wpAny (model PG w) A (compareOp .In (.str ⟨#[ch]⟩ t) cv) Q E s
theorem News.addr {h₀ h : Heap} {L : Addr} {a : Addr} {o : Obj} {r : List (Addr × Obj)} (_N : News h₀ L h ((a, o) :: r)) : ∃ b : Nat, b = a := ⟨a, rfl⟩
structure CUS where
  S : SS
  vs : List Value
  ep : Nat
  us : List Value
  ws : List PySem.Str
  uep : Nat
  t : Nat → Nat
  bv : Value
structure CUP (pr : Nat → Bool) (S₀ : SS) (c : CUS) : Prop where
  hv : Errs c.vs c.S.n
  hb : BfV c.S.bo c.bv
  hw : WF c.S
  hs : StrsAre c.us c.ws
  hi : CUI pr S₀ c.S (flat c.ws)
  hl : c.us.length + (raw c.S).length ≤ 10001
section
local macro_rules | `(tactic| walk_at "call ref") => `(tactic| (k_here; k_dflt (refine' TellR.use (readChunk_s ?a1 ?a2 ?a3 ?a4 ?a5) ?k1 ?k2 ?k3 ?k4 ?k5 ?kK ?kp ?ko ?kd ?ku ?k0 ?_; (case k1 => k_asm); (case k2 => k_asm); (case k3 => k_asm); (case k4 => k_asm); (case k5 => k_asm); (case kK => first | exact rfl | assumption); (case kp => tb_start); (case ko => tb_rel); (case a1 => assumption); (case a2 => assumption); (case a3 => omega); (case a4 => omega); (case a5 => assumption); (case kd => k_room); (case ku => k_units); (case k0 => first | exact (show 1 ≤ _ by (try dsimp only); omega) | exact Nat.zero_le _); intro r9 f9 h9 tk9 p9 F9 N9 hP9; obtain ⟨S2, a0, a1, a2, a3, a4, b0, b1, bv, vs2, ep2, eS2, e1, hb2, hv2, e2⟩ := hP9; subst e1; subst e2; dsimp only [stS, stL, List.cons_append, List.nil_append] at N9; (try dsimp only [List.nil_append, List.cons_append] at N9); (try k_fold))))
local macro_rules | `(tactic| walk_at "subscriptTail") => `(tactic| (k_here; (with_reducible show wpAny _ _ (subscriptTail _ _ (Value.str _ _) (Value.int _ _)) _ _ _); refine' item_str_c ?hit ?i0 ?i1 ?i2 ?_; (case hit => assumption); (case i0 => omega); (case i1 => omega); (case i2 => omega); intro ti))
local macro_rules | `(tactic| walk_at "execs cons") => `(tactic| (k_here; exfalso; omega))
local macro_rules | `(tactic| walk_at "call builtin:str.join") => `(tactic| (k_here; refine' join_t ?N ?hm ?hs ?hb ?_; (case N => assumption); (case hm => k_mem); (case hs => k_extra "js"); (case hb => k_extra "jb"); intro tj kj xj ej))
local macro_rules | `(tactic| walk_at "compareOp In") => `(tactic| (k_here; (with_reducible show wpAny _ _ (compareOp CmpOp.In (Value.str _ _) _) _ _ _); (rename InBy _ _ _ _ => hin9); refine' hin9 _ _ _ _ _ _ _ _ _ _ ?f ?x ?n ?fr ?_; (case f => assumption); (case x => assumption); (case n => assumption); (case fr => kstt_sub); intro tk9; (try dsimp only)))
noncomputable abbrev R156 (w : World) : PySem.Str × List Stmt × Scope := recOfLook (K := KF w) (f := 156) rfl
theorem cu_tail {w : World} {sx sd tx td ra el nl : Nat} {κ κ' : Nat → Nat} {τ₀ τ₁ τ₂ τ₃ τ₄ σ₀ σ₁ : Nat} {S : SS} {bf : Value} {vs : List Value} {ep : Nat} {cv : Value} {fr R : List (Addr × Obj)} {q : Nat → Bool} {b : Bool}
    (hin : InBy w cv fr q) (hR : ∀ p ∈ fr, p ∈ R) (o1 : ∀ p ∈ R, p.1 ≠ sx) (o2 : ∀ p ∈ R, p.1 ≠ sd) (o3 : ∀ p ∈ R, p.1 ≠ tx) (o4 : ∀ p ∈ R, p.1 ≠ td) (o5 : ∀ p ∈ R, p.1 ≠ ra) (o6 : ∀ p ∈ R, p.1 ≠ el)
    (hv : Errs vs S.n) (hbf : BfV S.bo bf) (hw : WF S) (hnd : NQ6 sx sd tx td ra el) :
    TailAt w (R156 w) 156 11 110 0 [(Str.ofString "self", .ref sx), (Str.ofString "characters", cv), (Str.ofString "opposite", .bool b)] (stS w sx sd tx td ra el nl κ κ' τ₀ τ₁ τ₂ τ₃ τ₄ σ₀ σ₁ S bf vs ep ++ R)
      (fun r n' => ∃ (S' : SS) (a0 a1 a2 a3 a4 b0 b1 : Nat) (bv : Value) (vs' : List Value) (ep' : Nat) (x : PySem.Str) (t : Nat), r = .str x t ∧ x.cps.toList = (rem S).takeWhile (fun ch => q ch == b) ∧ rem S' = (rem S).dropWhile (fun ch => q ch == b) ∧ WF S' ∧ tot S' = tot S ∧
        (∀ done, PosOK S done → PosOK S' (done ++ (rem S).takeWhile (fun ch => q ch == b))) ∧ BfV S'.bo bv ∧ Errs vs' S'.n ∧ n' = stS w sx sd tx td ra el nl κ κ' a0 a1 a2 a3 a4 b0 b1 S' bv vs' ep' ++ R) := by
  have hq := hnd
  unfold NQ6 at hq
  obtain ⟨q1, q2, q3, q4, q5, q6, q7, q8, q9, q10, q11, q12, q13, q14, q15⟩ := hq
  unfold TailAt KF PG
  k_fill
  intro mean mg mb dp un gd cn cs L₀ a ccd cl L cdv outer base h₀ m s Q E B F hps X N T hd hu htk hE hret
  rw [← kstB_self hps] at F
  clear hps
  dsimp only [stS, stL, List.cons_append, List.nil_append] at N
  simp only [R156, recOfLook, List.drop_succ_cons, List.drop_zero]
  (try k_fold)
  repeat' (first | ((fail_if_success (with_reducible show wpAny _ _ (PySem.exec (PySem.Stmt.While _ _ _ _) _) _ _ _)); first | (k_unfold; (try dsimp only)) | (k_end; wrow_close) | walk1 | (dsimp only; walk1) | fail "no step"))
  (rename Fr _ _ _ _ => f8)
  (rename News _ _ _ _ => n8)
  refine whl_start 1 ?_
  obtain ⟨rv, erv⟩ := News.addr n8
  subst erv
  refine' whl_loop (fun _ : CUS => [(Str.ofString "self", .ref sx), (Str.ofString "characters", cv), (Str.ofString "opposite", .bool b), (Str.ofString "rv", .ref rv)])
    (fun c => (rv, W.listOf c.us.toArray c.uep) :: (sx, instObj 166 sd) :: (sd, sdD w κ ra nl tx el c.S.c c.S.c.length c.S.o c.S.pl c.S.pc c.bv (c.t 0) (c.t 1) (c.t 2) (c.t 3) (c.t 4)) :: (tx, instObj 73 td) :: (td, txD w κ' c.S.T c.S.p (c.t 5) (c.t 6)) :: (ra, methodObj (.ref 148) (.ref sx)) :: (el, W.listOf c.vs.toArray c.ep) :: R)
    (CUP (fun ch => q ch == b) S) (fun c => (raw c.S).length) ⟨S, vs, ep, [], [], 0, tk8 τ₀ τ₁ τ₂ τ₃ τ₄ σ₀ σ₁ 0, bf⟩ ?hE ?h0 f8 n8 ?hps ?hP ?turn
  case hE => first | assumption | passes_own | with_unfolding_all passes_own
  case h0 => omega
  case hps => kst_all
  case hP => exact ⟨hv, hbf, hw, .nil, ⟨(fun _ h => nomatch h), rfl, rfl, fun done hd => by rw [show flat [] = [] from rfl, List.append_nil]; exact hd⟩, by have := raw_len hw; simp only [List.length_nil]; omega⟩
  case turn =>
    intro c m' h8 tk' htk hc F8 N8
    clear f8 n8
    obtain ⟨S1, vs1, ep1, us1, ws1, uep1, t1, bv1⟩ := c
    dsimp only at N8
    (try k_fold)
    repeat' (first | ((fail_if_success (with_reducible show wpAny _ _ (PySem.exec (PySem.Stmt.While _ _ _ _) _) _ _ _)); first | (k_unfold; (try dsimp only)) | (k_end; wrow_close) | walk1 | (dsimp only; walk1) | fail "no step"))
    (rename Fr _ _ _ _ => f9)
    (rename News _ _ _ _ => n9)
    have hw1 := hc.hw
    have ho0 := hw1.o0
    have hoc := hw1.oc
    have hcl := hw1.hc
    dsimp only at hw1 ho0 hoc hcl
    have hl1 := hc.hl
    have hv1 := hc.hv
    have hb1 := hc.hb
    have hs1 := hc.hs
    have hi1 := hc.hi
    have hT1 := hw1.hT
    have hn1 := hw1.hn
    have hlen1 := hi1.len hw
    have hwl : ws1.length = us1.length := hs1.length.symm
    dsimp only at hl1 hv1 hb1 hs1 hi1 hT1 hn1 hlen1
    refine mid_cut (fun e : Int × Nat => [(Str.ofString "self", .ref sx), (Str.ofString "characters", cv), (Str.ofString "opposite", .bool b), (Str.ofString "rv", .ref rv), (Str.ofString "end", .int e.1 e.2)])
      (fun _ => (rv, W.listOf us1.toArray uep1) :: (sx, instObj 166 sd) :: (sd, sdD w κ ra nl tx el S1.c S1.c.length S1.o S1.pl S1.pc bv1 (t1 0) (t1 1) (t1 2) (t1 3) (t1 4)) :: (tx, instObj 73 td) :: (td, txD w κ' S1.T S1.p (t1 5) (t1 6)) :: (ra, methodObj (.ref 148) (.ref sx)) :: (el, W.listOf vs1.toArray ep1) :: R)
      (fun e => S1.o ≤ e.1 ∧ e.1 ≤ S1.c.length ∧ (∀ i, S1.o.toNat ≤ i → i < e.1.toNat → ∃ ch, S1.c.cps[i]? = some ch ∧ (q ch == b) = true) ∧ (e.1 = S1.c.length ∨ ∃ ch, S1.c.cps[e.1.toNat]? = some ch ∧ (q ch == b) = false)) f9 ?h0 ?h ?k
    case h0 => omega
    case h =>
      refine whl_start 1 ?_
      refine' whl_loop (fun e : Int × Nat => [(Str.ofString "self", .ref sx), (Str.ofString "characters", cv), (Str.ofString "opposite", .bool b), (Str.ofString "rv", .ref rv), (Str.ofString "end", .int e.1 e.2)])
        (fun _ => (rv, W.listOf us1.toArray uep1) :: (sx, instObj 166 sd) :: (sd, sdD w κ ra nl tx el S1.c S1.c.length S1.o S1.pl S1.pc bv1 (t1 0) (t1 1) (t1 2) (t1 3) (t1 4)) :: (tx, instObj 73 td) :: (td, txD w κ' S1.T S1.p (t1 5) (t1 6)) :: (ra, methodObj (.ref 148) (.ref sx)) :: (el, W.listOf vs1.toArray ep1) :: R)
        (fun e => S1.o ≤ e.1 ∧ e.1 ≤ S1.c.length ∧ ∀ i, S1.o.toNat ≤ i → i < e.1.toNat → ∃ ch, S1.c.cps[i]? = some ch ∧ (q ch == b) = true) (fun e => (S1.c.length - e.1).toNat) (S1.o, t1 2) ?hE ?h0 f9 n9 ?hps ?hP ?turn
      case hE => first | assumption | passes_own | with_unfolding_all passes_own
      case h0 => omega
      case hps => kst_all
      case hP => exact ⟨Int.le_refl _, hoc, fun i h1 h2 => by dsimp only at h2; omega⟩
      case turn =>
        rintro ⟨e, te⟩ m9 h9 tk9 htk9 ⟨he1, he2, he3⟩ F9 N9
        dsimp only at he1 he2 he3 F9 N9
        clear f9 n9
        by_cases hend : e = S1.c.length
        · (try k_fold)
          k_steps
          all_goals first
            | (exfalso; omega)
            | exact ⟨(e, te), _, _, _, rfl, by assumption, by assumption, by kst_all, he1, he2, he3, Or.inl hend⟩
        · obtain ⟨ch, hch, hit⟩ := item_at (x := S1.c) (i := e) (by omega) (by omega)
          (try k_fold)
          k_steps
          all_goals first
            | (exfalso; omega)
            | exact ⟨(e + 1, _), _, _, _, rfl, by assumption, by assumption, by kst_all, ⟨by dsimp only; omega, by dsimp only; omega, fun i h1 h2 => by
                dsimp only at h2
                by_cases hi : i < e.toNat
                · exact he3 i h1 hi
                · exact ⟨ch, by rw [show i = e.toNat from by omega]; exact hch, by assumption⟩⟩, by dsimp only; omega⟩
            | exact ⟨(e, te), _, _, _, rfl, by assumption, by assumption, by kst_all, he1, he2, he3, Or.inr ⟨ch, hch, by assumption⟩⟩
    case k =>
      rintro ⟨e, te⟩ m9 h9 tk9 htk9 ⟨he1, he2, he3, he4⟩ F9 N9
      dsimp only at he1 he2 he3 he4 F9 N9
      clear f9 n9
      obtain ⟨hi2, hw2⟩ := hi1.step hw1 he1 he2 he3
      have hlen2 := hi2.len hw
      rw [List.length_append] at hlen2
      by_cases hend : e = S1.c.length
      · have hi3 : CUI (fun ch => q ch == b) S (rdS 10240 S1) (flat (ws1 ++ [Txt.slice S1.c (some S1.o) none])) := by
          have h9 := hi2.next hw2 hend
          rw [flat_snoc, slice_from ho0 hoc]
          have e9 : (S1.c.cps.toList.drop S1.o.toNat).take (e - S1.o).toNat = S1.c.cps.toList.drop S1.o.toNat := List.take_of_length_le (by rw [List.length_drop, Array.length_toList]; unfold PySem.Str.length at hend; omega)
          rw [e9] at h9
          exact h9
        have hlen3 := hi3.len hw
        obtain ⟨hw3, _, _⟩ := rdS_wf (k := 10240) hw1 (by decide)
        (try k_fold)
        k_with_none
        repeat' (first | ((fail_if_success (with_reducible show wpAny _ _ (PySem.exec (PySem.Stmt.If _ _ _ _) _) _ _ _)); first | (k_unfold; (try dsimp only)) | (k_end; wrow_close) | walk1 | (dsimp only; walk1) | fail "no step"))
        (rename Fr _ _ _ _ => f6)
        refine mid_cut (fun _ : Nat => [(Str.ofString "self", .ref sx), (Str.ofString "characters", cv), (Str.ofString "opposite", .bool b), (Str.ofString "rv", .ref rv), (Str.ofString "end", .int e te)])
          (fun _ => (rv, W.listOf us1.toArray uep1) :: (sx, instObj 166 sd) :: (sd, sdD w κ ra nl tx el S1.c S1.c.length S1.o S1.pl S1.pc bv1 (t1 0) (t1 1) (t1 2) (t1 3) (t1 4)) :: (tx, instObj 73 td) :: (td, txD w κ' S1.T S1.p (t1 5) (t1 6)) :: (ra, methodObj (.ref 148) (.ref sx)) :: (el, W.listOf vs1.toArray ep1) :: R)
          (fun _ => True) f6 ?h0 ?h ?k
        case h0 => omega
        case h =>
          repeat' (first | ((fail_if_success (with_reducible show MidEnd _ _ _ _ _ _ _ _ _)); first | (k_unfold; (try dsimp only)) | (k_end; wrow_close) | walk1 | (dsimp only; walk1) | fail "no step"))
          all_goals exact ⟨0, _, _, _, rfl, by assumption, by assumption, by kst_all, trivial⟩
        case k =>
          intro _ m7 h7 tk7 htk7 _ F7 N7
          (try dsimp only at F7 N7)
          clear f6 N9
          (try k_fold)
          k_with "js" => exact strs_push hs1
          k_with "jb" => (rw [List.length_append, List.length_singleton]; omega)
          k_steps
          · (rename News _ _ _ _ => n7)
            (rename BfV _ _ => hb2)
            (rename Errs _ _ => hv2)
            (rename _ = rdS _ _ => eS)
            (rename rdB _ _ = true => hb7)
            simp only [List.push_toArray] at n7
            have hless := raw_less hw1 hb7
            rw [← eS] at hless hw3 hi3
            refine' ⟨⟨_, _, _, _, ws1 ++ [Txt.slice S1.c (some S1.o) none], _, tk8 _ _ _ _ _ _ _ 0, _⟩, _, _, _, rfl, ?F, ?N, ?ps, ?P, ?mu⟩
            case F => assumption
            case N =>
              refine' nsub n7 ?N2
              case N2 => kstt_sub
            case ps => kst_all
            case P => exact ⟨hv2, hb2, hw3, hs1.append' (.cons _ _ .nil), hi3, by dsimp only; rw [List.length_append, List.length_singleton]; omega⟩
            case mu => exact hless
          · (rename PySem.Str => xj)
            (rename BfV _ _ => hb2)
            (rename Errs _ _ => hv2)
            (rename _ = rdS _ _ => eS)
            (rename rdB _ _ = false => hb7)
            obtain ⟨f1, f2⟩ := hi3.fin (fun a ha => by rw [mend_rdS_nil hw1 hb7] at ha; cases ha)
            rw [← eS] at hw3 hi3 f2
            refine' hret _ _ _ _ _ (by assumption) ?S9 ⟨_, _, _, _, _, _, _, _, _, _, _, _, _, rfl, (by rw [f1]; assumption), f2.symm, hw3, hi3.tot, (fun done hd => by rw [f1]; exact hi3.pos done hd), hb2, hv2, rfl⟩
            case S9 =>
              dsimp only [stS, stL, List.cons_append, List.nil_append]
              refine' nsub ?N1 ?N2
              case N1 => assumption
              case N2 => kstt_sub
      · have hh : ∀ a, (rem { S1 with o := e }).head? = some a → (q a == b) = false := by
          obtain h | ⟨ch, hch, hq⟩ := he4
          · exact absurd h hend
          · intro a ha
            have hd := drop_cons (l := S1.c.cps.toList) (i := e.toNat) (a := ch) (by simpa using hch)
            have hr : rem { S1 with o := e } = ch :: (S1.c.cps.toList.drop (e.toNat + 1) ++ mend false (raw S1)) := by
              show S1.c.cps.toList.drop e.toNat ++ mend false (raw S1) = _
              rw [hd]; rfl
            rw [hr] at ha
            cases ha
            exact hq
        by_cases heo : e = S1.o
        · have e9 : ({ S1 with o := e } : SS) = S1 := by rw [heo]
          rw [e9] at hh
          obtain ⟨f1, f2⟩ := hi1.fin hh
          (try k_fold)
          k_with_none
          k_with "js" => exact strs_arr hs1
          k_with "jb" => omega
          k_steps
          (rename PySem.Str => xj)
          refine' hret _ _ _ _ _ (by assumption) ?S9 ⟨S1, _, _, _, _, _, _, _, _, _, _, _, _, rfl, (by rw [f1]; assumption), f2.symm, hw1, hi1.tot, (fun done hd => by rw [f1]; exact hi1.pos done hd), hb1, hv1, rfl⟩
          case S9 =>
            dsimp only [stS, stL, List.cons_append, List.nil_append]
            refine' nsub ?N1 ?N2
            case N1 => assumption
            case N2 => kstt_sub
        · obtain ⟨f1, f2⟩ := hi2.fin hh
          have e8 : flat (ws1 ++ [Txt.slice S1.c (some S1.o) (some e)]) = flat ws1 ++ (S1.c.cps.toList.drop S1.o.toNat).take (e - S1.o).toNat := by
            rw [flat_snoc, slice_list ho0 hoc he1]
          (try k_fold)
          k_with_none
          k_with "js" => exact strs_push hs1
          k_with "jb" => (rw [e8, List.length_append, List.length_append, List.length_singleton]; omega)
          k_steps
          refine' hret _ _ _ _ _ (by assumption) ?S9 ⟨{ S1 with o := e }, _, _, _, _, _, _, _, _, _, _, _, _, rfl, (by rw [f1, ← e8]; assumption), f2.symm, hw2, hi2.tot, (fun done hd => by rw [f1]; exact hi2.pos done hd), hb1, hv1, rfl⟩
          case S9 =>
            dsimp only [stS, stL, List.cons_append, List.nil_append]
            refine' nsub ?N1 ?N2
            case N1 => assumption
            case N2 => kstt_sub
end
section
theorem charsUntil_t {w : World} {sx sd tx td ra el nl : Nat} {κ κ' : Nat → Nat} {τ₀ τ₁ τ₂ τ₃ τ₄ σ₀ σ₁ : Nat} {S : SS} {bf : Value} {vs : List Value} {ep : Nat} {cv : Value} {fr : List (Addr × Obj)} {q : Nat → Bool}
    (hin : InBy w cv fr q) (hfr : ∀ p ∈ fr, p.1 ≠ sx ∧ p.1 ≠ sd ∧ p.1 ≠ tx ∧ p.1 ≠ td ∧ p.1 ≠ ra ∧ p.1 ≠ el) (hv : Errs vs S.n) (hbf : BfV S.bo bf) (hw : WF S) (hnd : NQ6 sx sd tx td ra el) :
    TellR w 12 120 (.ref 156) [.ref sx, cv] (stS w sx sd tx td ra el nl κ κ' τ₀ τ₁ τ₂ τ₃ τ₄ σ₀ σ₁ S bf vs ep ++ fr)
      (fun r f' rest => ∃ (S' : SS) (a0 a1 a2 a3 a4 b0 b1 : Nat) (bv : Value) (vs' : List Value) (ep' : Nat) (x : PySem.Str) (t : Nat), r = .str x t ∧ x.cps.toList = (rem S).takeWhile (fun ch => q ch == false) ∧ rem S' = (rem S).dropWhile (fun ch => q ch == false) ∧ WF S' ∧ tot S' = tot S ∧
        (∀ done, PosOK S done → PosOK S' (done ++ (rem S).takeWhile (fun ch => q ch == false))) ∧ BfV S'.bo bv ∧ Errs vs' S'.n ∧ f' = stS w sx sd tx td ra el nl κ κ' a0 a1 a2 a3 a4 b0 b1 S' bv vs' ep' ++ fr) := by
  have hq := hnd
  unfold NQ6 at hq
  obtain ⟨q1, q2, q3, q4, q5, q6, q7, q8, q9, q10, q11, q12, q13, q14, q15⟩ := hq
  unfold TellR Tell KF PG
  k_fill
  intro rest off' mean mg mb dp un gd cn cs a ccd cl outer A₀ base h₀ L m s Q E B F X N T hk hd hu hret
  dsimp only [stS, stL, List.cons_append, List.nil_append] at off' N
  simp only [List.forall_mem_cons] at off'
  obtain ⟨o1, o2, o3, o4, o5, o6, o7⟩ := off'
  obtain ⟨R, eR⟩ : ∃ R, R = fr ++ rest := ⟨_, rfl⟩
  have hR : ∀ p ∈ fr, p ∈ R := fun p hp => eR ▸ List.mem_append_left _ hp
  have hRR : ∀ p ∈ fr ++ rest, p ∈ R := fun p hp => eR ▸ hp
  have aR : ∀ {a : Nat}, (∀ p ∈ fr, p.1 ≠ a) → (∀ p ∈ rest, p.1 ≠ a) → ∀ p ∈ R, p.1 ≠ a := fun h1 h2 p hp => by
    rw [eR] at hp
    exact (List.mem_append.mp hp).elim (h1 p) (h2 p)
  replace o1 := aR (fun p hp => (hfr p hp).1) o1
  replace o2 := aR (fun p hp => (hfr p hp).2.1) o2
  replace o3 := aR (fun p hp => (hfr p hp).2.2.1) o3
  replace o4 := aR (fun p hp => (hfr p hp).2.2.2.1) o4
  replace o5 := aR (fun p hp => (hfr p hp).2.2.2.2.1) o5
  replace o6 := aR (fun p hp => (hfr p hp).2.2.2.2.2) o6
  clear aR o7 hfr
  rw [← eR] at N
  k_dflt ktr_enter
  (rename Fr _ _ _ _ => f8)
  (rename News _ _ _ _ => n8)
  refine' TailAt.use (cu_tail (b := false) (R := R) (κ := κ) (κ' := κ') (nl := nl) hin hR o1 o2 o3 o4 o5 o6 hv hbf hw hnd) n8 ?ts f8 ?tp ?tB ?tX ?tT ?td ?tu ?tk ?tE ?tr
  case ts =>
    dsimp only [stS, stL, List.cons_append, List.nil_append]
    exact fun _ h => h
  case tp => exact (List.forall_mem_cons.mpr ⟨rfl, List.forall_mem_cons.mpr ⟨rfl, List.forall_mem_cons.mpr ⟨rfl, List.forall_mem_nil _⟩⟩⟩)
  case tB => assumption
  case tX => assumption
  case tT => assumption
  case td => omega
  case tu => omega
  case tk => exact (show 0 < s.toks + 3 from Nat.succ_pos _)
  case tE => first | passes_own | with_unfolding_all passes_own
  case tr =>
    rintro r news' h' tk' m' F' N' ⟨S', a0, a1, a2, a3, a4, b0, b1, bv, vs', ep', x, t, rfl, h1, h2, h3, h4, h5, h6, h7, rfl⟩
    k_steps
    rw [eR, ← List.append_assoc] at *
    exact hret _ _ _ _ (by assumption) (by assumption) ⟨_, ⟨S', a0, a1, a2, a3, a4, b0, b1, bv, vs', ep', x, t, rfl, h1, h2, h3, h4, h5, h6, h7, rfl⟩, rfl⟩
end
end Mine
namespace Mine
/-- what stands before the offset in the chunk was handed out last -/
def Suf (S : SS) (done : List Nat) : Prop := S.c.cps.toList.take S.o.toNat <:+ done
theorem take_snoc {l : List Nat} {i a : Nat} (h : l[i]? = some a) : l.take (i + 1) = l.take i ++ [a] := (take_at h).2
theorem rdS_clen {S : SS} (h : WF S) : (rdS 10240 S).c.length ≤ 10001 := by
  have h1 := nlz_le (rdKeep (rdD S.bo S.T S.p 10240))
  have h2 := rdKeep_le (rdD S.bo S.T S.p 10240)
  have hl := slice_len (k := 10240) h (by decide)
  have hT := h.hT
  have h3 : (rdD S.bo S.T S.p 10240).length = (bfS S.bo).length + (Txt.slice S.T (some S.p) (some (S.p + 10240))).length := PySem.Str.length_append _ _
  have hb : (bfS S.bo).length ≤ 1 := by cases S.bo <;> simp [bfS, PySem.Str.length, PySem.Str.empty]
  show (nlz (rdKeep (rdD S.bo S.T S.p 10240))).length ≤ 10001
  omega
theorem chS_more {S : SS} (h : WF S) : (∀ done, PosOK S done → PosOK (chS S).2 (done ++ (rem S).head?.toList)) ∧ (∀ done, Suf S done → Suf (chS S).2 (done ++ (rem S).head?.toList)) ∧ (S.c.length ≤ 10001 → (chS S).2.c.length ≤ 10001) := by
  have ho := h.o0
  have hoc := h.oc
  obtain ⟨_, _, e1, _⟩ := chS_rem h
  by_cases hlt : S.o < S.c.length
  · have e : chS S = (S.c.cps[S.o.toNat]?, { S with o := S.o + 1 }) := if_pos hlt
    obtain ⟨ch, hch, _⟩ := item_at ho hlt
    rw [← e1, e]
    have ht : S.c.cps.toList.take (S.o + 1).toNat = S.c.cps.toList.take S.o.toNat ++ [ch] := by
      rw [show (S.o + 1).toNat = S.o.toNat + 1 from by omega]
      exact take_snoc (by simpa using hch)
    have hh : (S.c.cps[S.o.toNat]?).toList = [ch] := by rw [hch]; rfl
    refine ⟨fun done hd => ?_, fun done hd => ?_, fun hl => hl⟩
    · obtain ⟨pre, rfl, p1, p2⟩ := hd
      refine ⟨pre, ?_, p1, p2⟩
      show _ = pre ++ S.c.cps.toList.take (S.o + 1).toNat
      rw [ht, ← List.append_assoc]
      show _ ++ (S.c.cps[S.o.toNat]?).toList = _
      rw [hh]
    · show S.c.cps.toList.take (S.o + 1).toNat <:+ done ++ (S.c.cps[S.o.toNat]?).toList
      rw [ht, hh]
      obtain ⟨pre, hp⟩ := hd
      exact ⟨pre, by rw [← hp, List.append_assoc]⟩
  · have hoe : S.o = S.c.length := by omega
    cases hb : rdB 10240 S with
    | false =>
      have e : chS S = (none, rdS 10240 S) := (if_neg hlt).trans (if_neg (by rw [hb]; exact Bool.false_ne_true))
      rw [← e1, e]
      refine ⟨fun done hd => ?_, fun done hd => ?_, fun _ => rdS_clen h⟩
      · show PosOK (rdS 10240 S) (done ++ [])
        rw [List.append_nil]; exact rdS_pos hd hoe
      · exact List.nil_suffix
    | true =>
      have e : chS S = ((rdS 10240 S).c.cps[0]?, { rdS 10240 S with o := 1 }) := (if_neg hlt).trans (if_pos hb)
      have hpos := (rdB_raw (k := 10240) h (by decide)).2 hb
      obtain ⟨ch, hch, _⟩ := item_at (x := (rdS 10240 S).c) (i := 0) (by omega) (by omega)
      have hch' : (rdS 10240 S).c.cps[0]? = some ch := hch
      have ht : (rdS 10240 S).c.cps.toList.take 1 = [ch] := by
        have := take_snoc (l := (rdS 10240 S).c.cps.toList) (i := 0) (a := ch) (by simpa using hch')
        simpa using this
      have hh : ((rdS 10240 S).c.cps[0]?).toList = [ch] := by rw [hch']; rfl
      rw [← e1, e]
      refine ⟨fun done hd => ?_, fun done hd => ?_, fun _ => rdS_clen h⟩
      · obtain ⟨pre, p0, p1, p2⟩ := rdS_pos (k := 10240) hd hoe
        refine ⟨pre, ?_, p1, p2⟩
        show done ++ ((rdS 10240 S).c.cps[0]?).toList = pre ++ (rdS 10240 S).c.cps.toList.take 1
        rw [hh, ht, p0]
        show _ = pre ++ [ch]
        rw [show (rdS 10240 S).c.cps.toList.take (rdS 10240 S).o.toNat = [] from by show List.take 0 _ = []; simp, List.append_nil]
      · show (rdS 10240 S).c.cps.toList.take 1 <:+ done ++ ((rdS 10240 S).c.cps[0]?).toList
        rw [hh, ht]
        exact List.suffix_append _ _
theorem PosOK.suf {S : SS} {done : List Nat} (h : PosOK S done) : Suf S done := by
  obtain ⟨pre, rfl, _, _⟩ := h
  exact List.suffix_append _ _
theorem Suf.last {S : SS} {done : List Nat} {ch : Nat} (h : Suf S (done ++ [ch])) (hw : WF S) (h0 : 0 < S.o) : S.c.cps[(S.o - 1).toNat]? = some ch := by
  have hoc := hw.oc
  have hs : S.o.toNat = (S.o - 1).toNat + 1 := by omega
  have hlt : (S.o - 1).toNat < S.c.cps.toList.length := by rw [Array.length_toList]; unfold PySem.Str.length at hoc; omega
  unfold Suf at h
  rw [hs, take_snoc (a := S.c.cps.toList[(S.o - 1).toNat]) (List.getElem?_eq_getElem hlt)] at h
  obtain ⟨pre, hp⟩ := h
  rw [← List.append_assoc] at hp
  have e := (List.append_inj' hp rfl).2
  have e' := List.cons.inj e
  have := List.getElem?_eq_getElem hlt
  rw [e'.1] at this
  simpa using this
theorem ugS_more {S : SS} {done : List Nat} {ch : Nat} (hw : WF S) (h : Suf S (done ++ [ch])) : Suf (ugS ch S) done ∧ (0 < S.o → PosOK S (done ++ [ch]) → PosOK (ugS ch S) done) ∧ (ugS ch S).c.length ≤ S.c.length + 1 ∧ (0 < S.o → (ugS ch S).c.length = S.c.length) := by
  have hoc := hw.oc
  have ho := hw.o0
  by_cases h0 : S.o = 0
  · have e : ugS ch S = { S with c := ⟨#[ch]⟩ ++ S.c, o := 0 } := by unfold ugS; rw [if_pos h0, if_pos h0]
    rw [e]
    refine ⟨List.nil_suffix, fun hp => absurd h0 (by omega), ?_, fun hp => absurd h0 (by omega)⟩
    show (⟨#[ch]⟩ ++ S.c : PySem.Str).length ≤ _
    have el : (⟨#[ch]⟩ ++ S.c : PySem.Str).length = 1 + S.c.length := PySem.Str.length_append _ _
    omega
  · have e : ugS ch S = { S with o := S.o - 1 } := by unfold ugS; rw [if_neg h0, if_neg h0]
    have hl := h.last hw (by omega)
    have ht : S.c.cps.toList.take S.o.toNat = S.c.cps.toList.take (S.o - 1).toNat ++ [ch] := by
      rw [show S.o.toNat = (S.o - 1).toNat + 1 from by omega]
      exact take_snoc (by simpa using hl)
    rw [e]
    refine ⟨?_, fun _ hp => ?_, Nat.le_succ _, fun _ => rfl⟩
    · obtain ⟨pre, hp⟩ := h
      rw [ht, ← List.append_assoc] at hp
      exact ⟨pre, (List.append_inj' hp rfl).1⟩
    · obtain ⟨pre, hp, p1, p2⟩ := hp
      rw [ht, ← List.append_assoc] at hp
      exact ⟨pre, (List.append_inj' hp rfl).1, p1, p2⟩
end Mine
theorem Mine.off_c16 {M : Model} {A : Around} {env : Env} {Q : Flow → Shared → Prop} {E : Value → Shared → Prop} {s : Shared} (h : wpAny M A (execs [] env) Q E s) : wpAny M A (execs [] env) Q E s := by
  (try (walk1; fail "no"))
  w_top off
  exact h
namespace Mine
local macro_rules | `(tactic| k_ne) => `(tactic| first | exact (show Nq _ _ by with_reducible assumption) | exact Ne.symm (show Nq _ _ by with_reducible assumption) | (refine neN ?_; (try dsimp only); omega))
local macro_rules | `(tactic| k_room) => `(tactic| ((try simp only [depth_under_make, depth_under_kw, depth_in1, depth_deeper, depth_caller, ktrTop, recursionLimit] at *); omega))
local macro_rules | `(tactic| k_units) => `(tactic| ((have hcL9 := cLine_is); (try simp only [units_in1, units_deeper, Around.mark_units, units_caller, ktrTop] at *); omega))
local macro_rules | `(tactic| ktr_enter) => `(tactic| (refine' code_def ?k1 ?k2 ?k3 ?k4 ?k5 ?kA ?kF ?kK ?k6 ?k7 ?k8 ?k9 ?kB ?_ ?c2 ?c3 ?c4 ?c5; (case kA => exact rfl); (case kF => exact rfl); (case kK => first | exact rfl | assumption); (case k1 => k_asm); (case k2 => k_asm); (case k3 => k_asm); (case k4 => k_asm); (case k5 => k_asm); (case k6 => k_is); (case k7 => k_is); (case k8 => k_room); (case k9 => first | exact BindsTo.of_eq rfl | exact binds_K (by k_in) rfl (by k_is) rfl rfl rfl); (case c5 => decide); (case kB => exact locs rfl); (case c2 => exact rfl); (case c3 => exact rfl); (case c4 => exact rfl); k_whole; intro g' L' h' FG' F' N' B' X' T'; (try dsimp only); (try k_fold)))
local macro_rules | `(tactic| k_all) => `(tactic| (with_reducible assumption))
local macro_rules | `(tactic| tb_lt) => `(tactic| first | exact Pick.head | (refine' Pick.tail ?c; (case c => tb_lt)))
local macro_rules | `(tactic| tb_start) => `(tactic| first | exact Picks.nil | (refine' Picks.cons ?a ?b; (case a => tb_lt); (case b => tb_start)))
local macro_rules | `(tactic| tb_rel) => `(tactic| first | exact List.forall_mem_nil _ | (refine' List.forall_mem_cons.mpr ⟨?a, ?b⟩; (case a => k_all); (case b => tb_rel)))
local macro_rules | `(tactic| walk_at "TPost") => `(tactic| (dsimp only [TPost]))
local macro_rules | `(tactic| size_fits) => `(tactic| ((simp only [PySem.sizeLine_eq, List.size_toArray]); omega))
local macro_rules | `(tactic| k_gentoks) => `(tactic| (with_reducible refine' gen_toksP ?hp ?_; (case hp => first | omega | ((try simp only [List.length_cons]); omega)); intro tk htk))
local macro_rules | `(tactic| kstt_sub) => `(tactic| first | exact fun _ h => h | assumption | (refine' subCons ?a ?b; (case a => k_mem); (case b => kstt_sub)) | (refine' subTail ?a; (case a => kstt_sub)))
local macro_rules | `(tactic| kst_all) => `(tactic| first | exact List.forall_mem_nil _ | (refine' List.forall_mem_cons.mpr ⟨?a, ?b⟩; (case a => exact rfl); (case b => kst_all)))
local macro_rules | `(tactic| walk_at "MidEnd") => `(tactic| first
  | ((with_reducible show MidEnd _ _ _ _ _ _ _ Flow.next _); (refine' ⟨(tk8 _ _ _ _ _ _ _ _, _), _, _, _, rfl, ?F, ?N, ?ps, ?P⟩); (case F => assumption); (case N => (refine' nsub ?N1 ?N2; (case N1 => assumption); (case N2 => kstt_sub))); (case ps => kst_all); (case P => k_extra "mid"))
  | ((fail_if_success (with_reducible show MidEnd _ _ _ _ _ _ _ Flow.next _)); dsimp only [MidEnd]))
local macro_rules | `(tactic| walk_at "WEnd") => `(tactic| ((fail_if_success (with_reducible show WEnd _ _ _ _ _ _ _ _ _ Flow.next _)); dsimp only [WEnd]))
local macro_rules | `(tactic| walk_at "callWith") => `(tactic| (k_here; (with_reducible refine' callWith_method1 ?_ ?he ?hp); (case he => k_dflt rfl); (case hp => k_dflt rfl)))
local macro_rules | `(tactic| k_steps) => `(tactic| repeat' (first | (k_unfold; (try dsimp only)) | (k_end; wrow_close) | walk1 | (dsimp only [List.cons_append, List.nil_append]; walk1) | (dsimp only) | fail "no step"))
theorem TellR.mono {w : World} {D U : Nat} {f : Value} {args : List Value} {front : List (Addr × Obj)} {Post Post' : Value → List (Addr × Obj) → List (Addr × Obj) → Prop} (h : TellR w D U f args front Post) (hp : ∀ r f' rest, Post r f' rest → Post' r f' rest) : TellR w D U f args front Post' :=
  fun rest off mean mg mb dp un gd cn cs a ccd cl outer A₀ base h₀ L m s Q E B F X N T hk hd hu ret =>
    h rest off mean mg mb dp un gd cn cs a ccd cl outer A₀ base h₀ L m s Q E B F X N T hk hd hu fun r n' h' tk' F' N' ⟨f', hP, e⟩ => ret r n' h' tk' F' N' ⟨f', hp r f' rest hP, e⟩
theorem char_s {w : World} {sx sd tx td ra el nl : Nat} {κ κ' : Nat → Nat} {τ₀ τ₁ τ₂ τ₃ τ₄ σ₀ σ₁ : Nat} {S : SS} {bf : Value} {vs : List Value} {ep : Nat}
    (hv : Errs vs S.n) (hbf : BfV S.bo bf) (hw : WF S) (hnd : NQ6 sx sd tx td ra el) :
    TellR w 8 80 (.ref 133) [.ref sx] (stS w sx sd tx td ra el nl κ κ' τ₀ τ₁ τ₂ τ₃ τ₄ σ₀ σ₁ S bf vs ep)
      (fun r f' rest => ∃ (S' : SS) (a0 a1 a2 a3 a4 b0 b1 : Nat) (bv : Value) (vs' : List Value) (ep' : Nat), BfV (rem S).head? r ∧ rem S' = (rem S).tail ∧ WF S' ∧ tot S' = tot S ∧ (∀ done, PosOK S done → PosOK S' (done ++ (rem S).head?.toList)) ∧
        (∀ done, Suf S done → Suf S' (done ++ (rem S).head?.toList)) ∧ (S.c.length ≤ 10001 → S'.c.length ≤ 10001) ∧ BfV S'.bo bv ∧ Errs vs' S'.n ∧ f' = stS w sx sd tx td ra el nl κ κ' a0 a1 a2 a3 a4 b0 b1 S' bv vs' ep') := by
  have hn := hw.hn
  have hT := hw.hT
  have hc := hw.hc
  refine TellR.mono (char_t hv hbf hw.o0 (by omega) (by omega) (by omega) hnd) ?_
  rintro r f' rest ⟨S', a0, a1, a2, a3, a4, b0, b1, bv, vs', ep', eS, h1, h2, h3, rfl⟩
  obtain ⟨w1, w2, w3, w4⟩ := chS_rem hw
  obtain ⟨m1, m2, m3⟩ := chS_more hw
  subst eS
  exact ⟨(chS S).2, a0, a1, a2, a3, a4, b0, b1, bv, vs', ep', w3 ▸ h1, w4, w1, w2, m1, m2, m3, h2, h3, rfl⟩
theorem unget_s {w : World} {sx sd tx td ra el nl : Nat} {κ κ' : Nat → Nat} {τ₀ τ₁ τ₂ τ₃ τ₄ σ₀ σ₁ : Nat} {S : SS} {bf : Value} {vs : List Value} {ep ch tk : Nat} {d : List Nat}
    (hw : WF S) (hs : Suf S (d ++ [ch])) (hl : S.c.length ≤ 19999) (hne : sx ≠ sd) :
    TellR w 1 8 (.ref 163) [.ref sx, .str ⟨#[ch]⟩ tk] [(sx, instObj 166 sd), (sd, sdD w κ ra nl tx el S.c S.c.length S.o S.pl S.pc bf τ₀ τ₁ τ₂ τ₃ τ₄)]
      (fun r f' rest => ∃ a0 a1 a2 a3 a4, r = .none ∧ f' = [(sx, instObj 166 sd), (sd, sdD w κ ra nl tx el (ugS ch S).c (ugS ch S).c.length (ugS ch S).o (ugS ch S).pl (ugS ch S).pc bf a0 a1 a2 a3 a4)]) :=
  unget_t hne hw.o0 (by have := hw.hc; omega) (fun h => hs.last hw h) hw.oc
end Mine
theorem Mine.off_c17 {M : Model} {A : Around} {env : Env} {Q : Flow → Shared → Prop} {E : Value → Shared → Prop} {s : Shared} (h : wpAny M A (execs [] env) Q E s) : wpAny M A (execs [] env) Q E s := by
  (try (walk1; fail "no"))
  w_top off
  exact h
namespace Mine
local macro_rules | `(tactic| k_ne) => `(tactic| first | exact (show Nq _ _ by with_reducible assumption) | exact Ne.symm (show Nq _ _ by with_reducible assumption) | (refine neN ?_; (try dsimp only); omega))
local macro_rules | `(tactic| k_room) => `(tactic| ((try simp only [depth_under_make, depth_under_kw, depth_in1, depth_deeper, depth_caller, ktrTop, recursionLimit] at *); omega))
local macro_rules | `(tactic| k_units) => `(tactic| ((have hcL9 := cLine_is); (try simp only [units_in1, units_deeper, Around.mark_units, units_caller, ktrTop] at *); omega))
local macro_rules | `(tactic| ktr_enter) => `(tactic| (refine' code_def ?k1 ?k2 ?k3 ?k4 ?k5 ?kA ?kF ?kK ?k6 ?k7 ?k8 ?k9 ?kB ?_ ?c2 ?c3 ?c4 ?c5; (case kA => exact rfl); (case kF => exact rfl); (case kK => first | exact rfl | assumption); (case k1 => k_asm); (case k2 => k_asm); (case k3 => k_asm); (case k4 => k_asm); (case k5 => k_asm); (case k6 => k_is); (case k7 => k_is); (case k8 => k_room); (case k9 => first | exact BindsTo.of_eq rfl | exact binds_K (by k_in) rfl (by k_is) rfl rfl rfl); (case c5 => decide); (case kB => exact locs rfl); (case c2 => exact rfl); (case c3 => exact rfl); (case c4 => exact rfl); k_whole; intro g' L' h' FG' F' N' B' X' T'; (try dsimp only); (try k_fold)))
local macro_rules | `(tactic| k_all) => `(tactic| (with_reducible assumption))
local macro_rules | `(tactic| tb_lt) => `(tactic| first | exact Pick.head | (refine' Pick.tail ?c; (case c => tb_lt)))
local macro_rules | `(tactic| tb_start) => `(tactic| first | exact Picks.nil | (refine' Picks.cons ?a ?b; (case a => tb_lt); (case b => tb_start)))
local macro_rules | `(tactic| tb_rel) => `(tactic| first | exact List.forall_mem_nil _ | (refine' List.forall_mem_cons.mpr ⟨?a, ?b⟩; (case a => k_all); (case b => tb_rel)))
local macro_rules | `(tactic| walk_at "TPost") => `(tactic| (dsimp only [TPost]))
local macro_rules | `(tactic| size_fits) => `(tactic| ((simp only [PySem.sizeLine_eq, List.size_toArray]); omega))
local macro_rules | `(tactic| k_gentoks) => `(tactic| (with_reducible refine' gen_toksP ?hp ?_; (case hp => first | omega | ((try simp only [List.length_cons]); omega)); intro tk htk))
local macro_rules | `(tactic| kstt_sub) => `(tactic| first | exact fun _ h => h | assumption | (refine' subCons ?a ?b; (case a => k_mem); (case b => kstt_sub)) | (refine' subTail ?a; (case a => kstt_sub)))
local macro_rules | `(tactic| kst_all) => `(tactic| first | exact List.forall_mem_nil _ | (refine' List.forall_mem_cons.mpr ⟨?a, ?b⟩; (case a => exact rfl); (case b => kst_all)))
local macro_rules | `(tactic| walk_at "MidEnd") => `(tactic| first
  | ((with_reducible show MidEnd _ _ _ _ _ _ _ Flow.next _); (refine' ⟨(tk8 _ _ _ _ _ _ _ _, _), _, _, _, rfl, ?F, ?N, ?ps, ?P⟩); (case F => assumption); (case N => (refine' nsub ?N1 ?N2; (case N1 => assumption); (case N2 => kstt_sub))); (case ps => kst_all); (case P => k_extra "mid"))
  | ((fail_if_success (with_reducible show MidEnd _ _ _ _ _ _ _ Flow.next _)); dsimp only [MidEnd]))
local macro_rules | `(tactic| walk_at "WEnd") => `(tactic| ((fail_if_success (with_reducible show WEnd _ _ _ _ _ _ _ _ _ Flow.next _)); dsimp only [WEnd]))
local macro_rules | `(tactic| walk_at "callWith") => `(tactic| (k_here; (with_reducible refine' callWith_method1 ?_ ?he ?hp); (case he => k_dflt rfl); (case hp => k_dflt rfl)))
local macro_rules | `(tactic| k_steps) => `(tactic| repeat' (first | (k_unfold; (try dsimp only)) | (k_end; wrow_close) | walk1 | (dsimp only [List.cons_append, List.nil_append]; walk1) | (dsimp only) | fail "no step"))
def tk10 (a b c d e f g h i j : Nat) : Nat → Nat | 0 => a | 1 => b | 2 => c | 3 => d | 4 => e | 5 => f | 6 => g | 7 => h | 8 => i | _ => j
abbrev hdD7 (w : World) (κ : Nat → Nat) (sx lf qq : Nat) : Obj :=
  dictOf [ent w "stream" (κ 0) (.ref sx), ent w "parser" (κ 1) .none, ent w "escapeFlag" (κ 2) (.bool false), ent w "lastFourChars" (κ 3) (.ref lf), ent w "state" (κ 4) (.ref qq), ent w "escape" (κ 5) (.bool false), ent w "currentToken" (κ 6) .none] 7
def startS (T0 : PySem.Str) : SS := ⟨T0, 0, Str.ofString "", 0, 0, 0, none, 0⟩
theorem make_code {prog : Program} {w : World} {A : Around} {E : Value → Shared → Prop} {s : Shared} {K : Frag} {C L : Addr} {h₀ : Heap} {m : PySem.Str → Option Value} {news : List (Addr × Obj)} {Q : Value → Shared → Prop} {pos : List Value} {kw : List (PySem.Str × Value)} {fI : Addr} (F : Fr h₀ L s.heap m) (X₀ : K.In h₀) (N : News h₀ L s.heap news) (hm : makesIn K C = true) (hi : findIn K (.ref C) "__init__" = some (some (.ref fI))) (hf : isFn K (.ref fI) = true)
    (h : ∀ x dx h', Fr h₀ L h' m → News h₀ L h' ((x, instObj C dx) :: (dx, dictOf [] 0) :: news) → (∀ p ∈ news, p.1 < dx) → dx < x →
      codeAny (model prog w) (A.under (.builtin "type.__call__" ⟨.ref C :: pos, kw⟩)) (.call (.ref fI) ⟨.ref x :: pos, kw⟩) (InitBack x fun r s' => match r with | .ok (.ret v) => Q v s' | .ok _ => False | .error e => E e s') { s with heap := h' }) :
    codeAny (model prog w) A (.call (.ref C) ⟨pos, kw⟩) (fun r s' => match r with | .ok (.ret v) => Q v s' | .ok _ => False | .error e => E e s') s := make_K F N (X₀.keeps F.keep) hm hi (beq_iff_eq.mp hf) h
theorem make_t {w : World} {T0 : PySem.Str} {tk : Nat} : TellR w 8 80 (.ref 762) [.str T0 tk] []
    (fun r f' rest => ∃ (hd hx sd sx ra nl td tx el lf qq : Nat) (κh κ κ' : Nat → Nat) (a0 a1 a2 a3 a4 b0 b1 c0 : Nat), r = .ref hx ∧ (AllLt hd rest ∧ hd < hx ∧ hx < sd ∧ sd < sx ∧ sx < ra ∧ ra < nl ∧ nl < td ∧ td < tx ∧ tx < el ∧ el < lf ∧ lf < qq) ∧
      f' = [(hx, instObj 762 hd), (hd, hdD7 w κh sx lf qq)] ++ stL w sx sd tx td ra el nl κ κ' a0 a1 a2 a3 a4 b0 b1 T0 0 (Str.ofString "") 0 0 0 0 .none [] 0 ++ [(nl, W.listOf #[.int 0 c0] 0), (lf, W.listOf #[] 0), (qq, methodObj (.ref 304) (.ref hx))]) := by
  unfold TellR Tell KF PG
  k_fill
  intro rest off' mean mg mb dp un gd cn cs a ccd cl outer A₀ base h₀ L m s Q E B F X N T hk hd hu hret
  dsimp only [List.cons_append, List.nil_append] at N
  k_dflt (refine' make_code F X N ?k4 ?k5 ?k6 ?_; (case k4 => k_is); (case k5 => k_is); (case k6 => k_is); intro x' d' h' F' N' l1 l2; (try k_lt l1); (try k_lt2 l2); (try k_sweep); ktr_enter)
  k_steps
  refine' hret _ _ _ _ (by assumption) ?S ⟨_, ⟨_, _, _, _, _, _, _, _, _, _, _, tk10 _ _ _ _ _ _ _ 0 0 0, tk10 _ _ _ _ _ _ _ _ _ _, tk10 _ _ 0 0 0 0 0 0 0 0, _, _, _, _, _, _, _, _, rfl, ?ord, rfl⟩, rfl⟩
  case S =>
    refine' nsub ?N1 ?N2
    case N1 => assumption
    case N2 => kstt_sub
  case ord => exact ⟨allLt_of (by assumption), by omega, by omega, by omega, by omega, by omega, by omega, by omega, by omega, by omega, by omega⟩
end Mine
theorem Mine.off_c18 {M : Model} {A : Around} {env : Env} {Q : Flow → Shared → Prop} {E : Value → Shared → Prop} {s : Shared} (h : wpAny M A (execs [] env) Q E s) : wpAny M A (execs [] env) Q E s := by
  (try (walk1; fail "no"))
  w_top off
  exact h
namespace Mine
local macro_rules | `(tactic| k_ne) => `(tactic| first | exact (show Nq _ _ by with_reducible assumption) | exact Ne.symm (show Nq _ _ by with_reducible assumption) | (refine neN ?_; (try dsimp only); omega))
local macro_rules | `(tactic| k_room) => `(tactic| ((try simp only [depth_under_make, depth_under_kw, depth_in1, depth_deeper, depth_caller, ktrTop, recursionLimit] at *); omega))
local macro_rules | `(tactic| k_units) => `(tactic| ((have hcL9 := cLine_is); (try simp only [units_in1, units_deeper, Around.mark_units, units_caller, ktrTop] at *); omega))
local macro_rules | `(tactic| ktr_enter) => `(tactic| (refine' code_def ?k1 ?k2 ?k3 ?k4 ?k5 ?kA ?kF ?kK ?k6 ?k7 ?k8 ?k9 ?kB ?_ ?c2 ?c3 ?c4 ?c5; (case kA => exact rfl); (case kF => exact rfl); (case kK => first | exact rfl | assumption); (case k1 => k_asm); (case k2 => k_asm); (case k3 => k_asm); (case k4 => k_asm); (case k5 => k_asm); (case k6 => k_is); (case k7 => k_is); (case k8 => k_room); (case k9 => first | exact BindsTo.of_eq rfl | exact binds_K (by k_in) rfl (by k_is) rfl rfl rfl); (case c5 => decide); (case kB => exact locs rfl); (case c2 => exact rfl); (case c3 => exact rfl); (case c4 => exact rfl); k_whole; intro g' L' h' FG' F' N' B' X' T'; (try dsimp only); (try k_fold)))
local macro_rules | `(tactic| k_all) => `(tactic| (with_reducible assumption))
local macro_rules | `(tactic| tb_lt) => `(tactic| first | exact Pick.head | (refine' Pick.tail ?c; (case c => tb_lt)))
local macro_rules | `(tactic| tb_start) => `(tactic| first | exact Picks.nil | (refine' Picks.cons ?a ?b; (case a => tb_lt); (case b => tb_start)))
local macro_rules | `(tactic| tb_rel) => `(tactic| first | exact List.forall_mem_nil _ | (refine' List.forall_mem_cons.mpr ⟨?a, ?b⟩; (case a => k_all); (case b => tb_rel)))
local macro_rules | `(tactic| walk_at "TPost") => `(tactic| (dsimp only [TPost]))
local macro_rules | `(tactic| size_fits) => `(tactic| ((simp only [PySem.sizeLine_eq, List.size_toArray]); omega))
local macro_rules | `(tactic| k_gentoks) => `(tactic| (with_reducible refine' gen_toksP ?hp ?_; (case hp => first | omega | ((try simp only [List.length_cons]); omega)); intro tk htk))
local macro_rules | `(tactic| kstt_sub) => `(tactic| first | exact fun _ h => h | assumption | (refine' subCons ?a ?b; (case a => k_mem); (case b => kstt_sub)) | (refine' subTail ?a; (case a => kstt_sub)))
local macro_rules | `(tactic| kst_all) => `(tactic| first | exact List.forall_mem_nil _ | (refine' List.forall_mem_cons.mpr ⟨?a, ?b⟩; (case a => exact rfl); (case b => kst_all)))
local macro_rules | `(tactic| walk_at "MidEnd") => `(tactic| first
  | ((with_reducible show MidEnd _ _ _ _ _ _ _ Flow.next _); (refine' ⟨(tk8 _ _ _ _ _ _ _ _, _), _, _, _, rfl, ?F, ?N, ?ps, ?P⟩); (case F => assumption); (case N => (refine' nsub ?N1 ?N2; (case N1 => assumption); (case N2 => kstt_sub))); (case ps => kst_all); (case P => k_extra "mid"))
  | ((fail_if_success (with_reducible show MidEnd _ _ _ _ _ _ _ Flow.next _)); dsimp only [MidEnd]))
local macro_rules | `(tactic| walk_at "WEnd") => `(tactic| ((fail_if_success (with_reducible show WEnd _ _ _ _ _ _ _ _ _ Flow.next _)); dsimp only [WEnd]))
local macro_rules | `(tactic| walk_at "callWith") => `(tactic| (k_here; (with_reducible refine' callWith_method1 ?_ ?he ?hp); (case he => k_dflt rfl); (case hp => k_dflt rfl)))
local macro_rules | `(tactic| k_steps) => `(tactic| repeat' (first | (k_unfold; (try dsimp only)) | (k_end; wrow_close) | walk1 | (dsimp only [List.cons_append, List.nil_append]; walk1) | (dsimp only) | fail "no step"))
theorem inby_gt {w : World} {t : Nat} : InBy w (.str (Str.ofString ">") t) [] (fun ch => decide (ch = 62)) := by
  intro A E s h₀ L m news ch u Q F X N hs h
  have e : (PySem.Str.ofString ">").cps.toList = [62] := by decide +kernel
  refine SB.contains ?_
  have e2 : Txt.contains (PySem.Str.ofString ">") ⟨#[ch]⟩ = decide (ch = 62) := by
    refine (StrLaws.found_one _ ch).trans ?_
    rw [e]; simp
  rw [e2]
  exact h s.toks
abbrev hdD8 (w : World) (κ : Nat → Nat) (sx lf tq : Nat) (st ct : Value) : Obj :=
  dictOf [ent w "stream" (κ 0) (.ref sx), ent w "parser" (κ 1) .none, ent w "escapeFlag" (κ 2) (.bool false), ent w "lastFourChars" (κ 3) (.ref lf), ent w "state" (κ 4) st, ent w "escape" (κ 5) (.bool false), ent w "currentToken" (κ 6) ct, ent w "tokenQueue" (κ 7) (.ref tq)] 8
def HQ (hx hd' tq sx sd tx td ra el : Nat) : Prop := Nq hx hd' ∧ Nq hd' sx ∧ Nq hd' sd ∧ Nq hd' tx ∧ Nq hd' td ∧ Nq hd' ra ∧ Nq hd' el ∧ Nq hd' tq ∧ Nq tq hx ∧ Nq tq sx ∧ Nq tq sd ∧ Nq tq tx ∧ Nq tq td ∧ Nq tq ra ∧ Nq tq el ∧ Nq hx sx ∧ Nq hx sd ∧ Nq hx tx ∧ Nq hx td ∧ Nq hx ra ∧ Nq hx el
theorem rem_len {S : SS} (hw : WF S) : (rem S).length ≤ 40000 := by
  have h1 := mend_len (raw S) false
  have h3 := raw_len hw
  unfold rem
  rw [List.length_append, List.length_drop, Array.length_toList]
  have := hw.hc
  unfold PySem.Str.length at this
  omega
theorem tw_len {S : SS} {pr : Nat → Bool} {x : PySem.Str} (hw : WF S) (h : x.cps.toList = (rem S).takeWhile pr) : x.length ≤ 40000 := by
  have h1 := congrArg List.length h
  have h2 := rem_len hw
  have h3 := (List.takeWhile_sublist (p := pr) (l := rem S)).length_le
  rw [Array.length_toList] at h1
  unfold PySem.Str.length
  omega
section
local macro_rules | `(tactic| walk_at "call builtin:str.replace") => `(tactic| (k_here; refine' replace_t ?u ?v ?uv ?yz ?hl ?hz ?hx ?_; (case u => omega); (case v => omega); (case uv => omega); (case yz => decide +kernel); (case hl => decide +kernel); (case hz => decide +kernel); (case hx => omega); intro tr kr lr))
local macro_rules | `(tactic| walk_at "call ref") => `(tactic| (k_here; k_dflt (refine' TellR.use (char_s ?a1 ?a2 ?a3 ?a4) ?k1 ?k2 ?k3 ?k4 ?k5 ?kK ?kp ?ko ?kd ?ku ?k0 ?_; (case k1 => k_asm); (case k2 => k_asm); (case k3 => k_asm); (case k4 => k_asm); (case k5 => k_asm); (case kK => first | exact rfl | assumption); (case kp => tb_start); (case ko => tb_rel); (case a1 => assumption); (case a2 => assumption); (case a3 => assumption); (case a4 => assumption); (case kd => k_room); (case ku => k_units); (case k0 => first | exact (show 1 ≤ _ by (try dsimp only); omega) | exact Nat.zero_le _); intro r9 f9 h9 tk9 p9 F9 N9 hP9; obtain ⟨S2, a0, a1, a2, a3, a4, b0, b1, bv2, vs2, ep2, hr2, hrem2, hw2, htot2, hpos2, hsuf2, hcl2, hb2, hv2, e2⟩ := hP9; subst e2; dsimp only [stS, stL, List.cons_append, List.nil_append] at N9; (try dsimp only [List.nil_append, List.cons_append] at N9); (try k_fold))))
local macro_rules | `(tactic| walk_at "call ref") => `(tactic| (k_here; k_dflt (refine' TellR.use (charsUntil_t inby_gt ?a0 ?a1 ?a2 ?a3 ?a4) ?k1 ?k2 ?k3 ?k4 ?k5 ?kK ?kp ?ko ?kd ?ku ?k0 ?_; (case k1 => k_asm); (case k2 => k_asm); (case k3 => k_asm); (case k4 => k_asm); (case k5 => k_asm); (case kK => first | exact rfl | assumption); (case kp => tb_start); (case ko => tb_rel); (case a0 => exact (fun _ h => nomatch h)); (case a1 => assumption); (case a2 => assumption); (case a3 => assumption); (case a4 => assumption); (case kd => k_room); (case ku => k_units); (case k0 => first | exact (show 1 ≤ _ by (try dsimp only); omega) | exact Nat.zero_le _); intro r9 f9 h9 tk9 p9 F9 N9 hP9; obtain ⟨S2, a0, a1, a2, a3, a4, b0, b1, bv2, vs2, ep2, x2, t2, e1, hx2, hrem2, hw2, htot2, hpos2, hb2, hv2, e2⟩ := hP9; subst e1; subst e2; (have hl9 := tw_len (by assumption) hx2); dsimp only [stS, stL, List.cons_append, List.nil_append] at N9; (try dsimp only [List.nil_append, List.cons_append] at N9); (try k_fold))))
theorem bogus_t {w : World} {hx hd' tq lf sx sd tx td ra el nl : Nat} {κh κ κ' : Nat → Nat} {τ₀ τ₁ τ₂ τ₃ τ₄ σ₀ σ₁ : Nat} {S : SS} {bf st ct : Value} {vs qs : List Value} {ep tep : Nat}
    (hv : Errs vs S.n) (hbf : BfV S.bo bf) (hw : WF S) (hqs : qs.length ≤ 100) (hnd : NQ6 sx sd tx td ra el) (hh : HQ hx hd' tq sx sd tx td ra el) :
    TellR w 20 200 (.ref 598) [.ref hx] ([(hx, instObj 762 hd'), (hd', hdD8 w κh sx lf tq st ct), (tq, W.listOf qs.toArray tep)] ++ stS w sx sd tx td ra el nl κ κ' τ₀ τ₁ τ₂ τ₃ τ₄ σ₀ σ₁ S bf vs ep)
      (fun r f' rest => ∃ (S' : SS) (a0 a1 a2 a3 a4 b0 b1 : Nat) (bv : Value) (vs' : List Value) (ep' : Nat) (da q' : Nat) (o' : Obj) (x : PySem.Str) (xt tt te : Nat), r = .bool true ∧ x.cps.toList = ((rem S).takeWhile (fun ch => decide (ch = 62) == false)).map (fun a => if a = 0 then 65533 else a) ∧
        rem S' = ((rem S).dropWhile (fun ch => decide (ch = 62) == false)).tail ∧ WF S' ∧ tot S' = tot S ∧ (∀ done, PosOK S done → PosOK S' ((done ++ (rem S).takeWhile (fun ch => decide (ch = 62) == false)) ++ ((rem S).dropWhile (fun ch => decide (ch = 62) == false)).head?.toList)) ∧ BfV S'.bo bv ∧ Errs vs' S'.n ∧
        (hx < da ∧ hd' < da ∧ tq < da ∧ sx < da ∧ sd < da ∧ tx < da ∧ td < da ∧ ra < da ∧ el < da ∧ AllLt da rest ∧ da < q' ∧ AllLt q' rest) ∧ Obj.IsDictOf (PySem.strKind PG w) o' [(Str.ofString "type", .int 6 tt), (Str.ofString "data", .str x xt)] ∧
        f' = [(hx, instObj 762 hd'), (hd', hdD8 w κh sx lf tq (.ref q') ct), (tq, W.listOf (qs.toArray.push (.ref da)) te)] ++ stS w sx sd tx td ra el nl κ κ' a0 a1 a2 a3 a4 b0 b1 S' bv vs' ep' ++ [(da, o'), (q', methodObj (.ref 304) (.ref hx))]) := by
  have hq := hnd
  unfold NQ6 at hq
  obtain ⟨q1, q2, q3, q4, q5, q6, q7, q8, q9, q10, q11, q12, q13, q14, q15⟩ := hq
  unfold HQ at hh
  obtain ⟨g1, g2, g3, g4, g5, g6, g7, g8, g9, g10, g11, g12, g13, g14, g15, g16, g17, g18, g19, g20, g21⟩ := hh
  unfold TellR Tell KF PG
  k_fill
  intro rest off' mean mg mb dp un gd cn cs a ccd cl outer A₀ base h₀ L m s Q E B F X N T hk hd hu hret
  dsimp only [stS, stL, List.cons_append, List.nil_append] at off' N
  simp only [List.forall_mem_cons] at off'
  obtain ⟨o1, o2, o3, o4, o5, o6, o7, o8, o9, -⟩ := off'
  k_dflt ktr_enter
  k_steps
  rename _ = List.takeWhile _ _ => e1
  rename rem _ = List.dropWhile _ _ => e2
  rename rem _ = List.tail _ => e3
  refine' hret _ _ _ _ (by assumption) ?S9 ⟨_, ⟨_, _, _, _, _, _, _, _, _, _, _, _, _, _, _, _, _, _, rfl, ?X, ?R, (by assumption), ?T, ?P, (by assumption), (by assumption), ?O, ?D, rfl⟩, rfl⟩
  case S9 =>
    refine' nsub ?N1 ?N2
    case N1 => assumption
    case N2 => kstt_sub
  case D => assumption
  case X => exact (repl_one _ _ _ (c := 0) (e := 65533) (by decide +kernel) (by decide +kernel)).trans (by rw [e1])
  case R => rw [e3, e2]
  case T => exact Eq.trans (by assumption) (by assumption)
  case P =>
    rename ∀ done, PosOK S done → _ => p1
    rename ∀ done, PosOK _ done → _ => p2
    intro done hp
    have h := p2 _ (p1 _ hp)
    rw [e2] at h
    exact h
  case O =>
    rename _ < _ ∧ _ => lq
    obtain ⟨k1, k2, k3, k4, k5, k6, k7, k8, k9, k10, k11⟩ := lq
    rename _ < _ ∧ _ => ld
    obtain ⟨m1, m2, m3, m4, m5, m6, m7, m8, m9, m10⟩ := ld
    exact ⟨m7, m8, m9, m1, m2, m3, m4, m5, m6, m10, (by assumption), k11⟩
end
end Mine
namespace Mine
/-! all signs in one chunk -/
def One (S : SS) (done : List Nat) : Prop := S.c.cps.toList.take S.o.toNat = done ∧ S.pl = 0 ∧ S.pc = 0 ∧ mend false (raw S) = []
def Fresh (S : SS) : Prop := S.c.cps.toList = [] ∧ S.o = 0 ∧ S.pl = 0 ∧ S.pc = 0 ∧ mend false (raw (rdS 10240 S)) = []
def Pos1 (S : SS) (done : List Nat) : Prop := One S done ∨ (done = [] ∧ Fresh S)
theorem Pos1.ok {S : SS} {done : List Nat} (h : Pos1 S done) : PosOK S done := by
  rcases h with ⟨h1, h2, h3, _⟩ | ⟨rfl, h1, h2, h3, h4, _⟩
  · exact ⟨[], by rw [h1]; rfl, h2, h3⟩
  · exact ⟨[], by rw [h1]; simp, h3, h4⟩
theorem Pos1.next {S : SS} {done : List Nat} (hw : WF S) (h : Pos1 S done) (hr : rem S ≠ []) : Pos1 (chS S).2 (done ++ (rem S).head?.toList) := by
  have ho := hw.o0
  have hoc := hw.oc
  obtain ⟨_, _, e1, _⟩ := chS_rem hw
  rcases h with ⟨h1, h2, h3, h4⟩ | ⟨rfl, h1, h2, h3, h4, h5⟩
  · have hlt : S.o < S.c.length := by
      apply Decidable.byContradiction
      intro hn
      apply hr
      unfold rem
      rw [h4, List.append_nil, List.drop_of_length_le (by simp only [Array.length_toList]; unfold PySem.Str.length at hn; omega)]
    have e : chS S = (S.c.cps[S.o.toNat]?, { S with o := S.o + 1 }) := if_pos hlt
    obtain ⟨ch, hch, _⟩ := item_at ho hlt
    rw [← e1, e]
    have ht : S.c.cps.toList.take (S.o + 1).toNat = S.c.cps.toList.take S.o.toNat ++ [ch] := by
      rw [show (S.o + 1).toNat = S.o.toNat + 1 from by omega]
      exact take_snoc (by simpa using hch)
    have hh : (S.c.cps[S.o.toNat]?).toList = [ch] := by rw [hch]; rfl
    refine .inl ⟨?_, h2, h3, h4⟩
    show S.c.cps.toList.take (S.o + 1).toNat = done ++ (S.c.cps[S.o.toNat]?).toList
    rw [ht, h1, hh]
  · have hl : S.c.length = 0 := by
      have h9 := congrArg List.length h1
      rw [Array.length_toList] at h9
      exact h9
    have hlt : ¬ S.o < S.c.length := by rw [hl, h2]; decide
    cases hb : rdB 10240 S with
    | false =>
      exfalso
      apply hr
      unfold rem
      rw [h1, (rdB_raw (k := 10240) hw (by decide)).1 hb, List.drop_nil]; rfl
    | true =>
      have e : chS S = ((rdS 10240 S).c.cps[0]?, { rdS 10240 S with o := 1 }) := (if_neg hlt).trans (if_pos hb)
      have hpos := (rdB_raw (k := 10240) hw (by decide)).2 hb
      obtain ⟨ch, hch, _⟩ := item_at (x := (rdS 10240 S).c) (i := 0) (by omega) (by omega)
      have hch' : (rdS 10240 S).c.cps[0]? = some ch := hch
      have ht : (rdS 10240 S).c.cps.toList.take 1 = [ch] := by
        have := take_snoc (l := (rdS 10240 S).c.cps.toList) (i := 0) (a := ch) (by simpa using hch')
        simpa using this
      have hh : ((rdS 10240 S).c.cps[0]?).toList = [ch] := by rw [hch']; rfl
      rw [← e1, e]
      refine .inl ⟨?_, ?_, ?_, h5⟩
      · show (rdS 10240 S).c.cps.toList.take 1 = [] ++ ((rdS 10240 S).c.cps[0]?).toList
        rw [hh, ht]; rfl
      · show posL S.c S.pl S.c.length = 0
        rw [posL_list (by omega) (Int.le_refl _), h1, h3]; simp [lcL]
      · show posC S.c S.pc S.c.length = 0
        rw [posC_list (by omega) (Int.le_refl _), h1, h4]; simp [lcC]
theorem Pos1.back {S : SS} {done : List Nat} {ch : Nat} (hw : WF S) (h : Pos1 S (done ++ [ch])) : Pos1 (ugS ch S) done := by
  have ho := hw.o0
  have hoc := hw.oc
  rcases h with ⟨h1, h2, h3, h4⟩ | ⟨h, _⟩
  · have h0 : S.o ≠ 0 := fun e => by rw [e] at h1; simp at h1
    have e : ugS ch S = { S with o := S.o - 1 } := by unfold ugS; rw [if_neg h0, if_neg h0]
    rw [e]
    have hs : S.o.toNat = (S.o - 1).toNat + 1 := by omega
    have hlt : (S.o - 1).toNat < S.c.cps.toList.length := by rw [Array.length_toList]; unfold PySem.Str.length at hoc; omega
    rw [hs, take_snoc (a := S.c.cps.toList[(S.o - 1).toNat]) (List.getElem?_eq_getElem hlt)] at h1
    exact .inl ⟨(List.append_inj' h1 rfl).1, h2, h3, h4⟩
  · simp at h
end Mine
theorem Mine.off_c19 {M : Model} {A : Around} {env : Env} {Q : Flow → Shared → Prop} {E : Value → Shared → Prop} {s : Shared} (h : wpAny M A (execs [] env) Q E s) : wpAny M A (execs [] env) Q E s := by
  (try (walk1; fail "no"))
  w_top off
  exact h
namespace Mine
local macro_rules | `(tactic| k_ne) => `(tactic| first | exact (show Nq _ _ by with_reducible assumption) | exact Ne.symm (show Nq _ _ by with_reducible assumption) | (refine neN ?_; (try dsimp only); omega))
local macro_rules | `(tactic| k_room) => `(tactic| ((try simp only [depth_under_make, depth_under_kw, depth_in1, depth_deeper, depth_caller, ktrTop, recursionLimit] at *); omega))
local macro_rules | `(tactic| k_units) => `(tactic| ((have hcL9 := cLine_is); (try simp only [units_in1, units_deeper, Around.mark_units, units_caller, ktrTop] at *); omega))
local macro_rules | `(tactic| ktr_enter) => `(tactic| (refine' code_def ?k1 ?k2 ?k3 ?k4 ?k5 ?kA ?kF ?kK ?k6 ?k7 ?k8 ?k9 ?kB ?_ ?c2 ?c3 ?c4 ?c5; (case kA => exact rfl); (case kF => exact rfl); (case kK => first | exact rfl | assumption); (case k1 => k_asm); (case k2 => k_asm); (case k3 => k_asm); (case k4 => k_asm); (case k5 => k_asm); (case k6 => k_is); (case k7 => k_is); (case k8 => k_room); (case k9 => first | exact BindsTo.of_eq rfl | exact binds_K (by k_in) rfl (by k_is) rfl rfl rfl); (case c5 => decide); (case kB => exact locs rfl); (case c2 => exact rfl); (case c3 => exact rfl); (case c4 => exact rfl); k_whole; intro g' L' h' FG' F' N' B' X' T'; (try dsimp only); (try k_fold)))
local macro_rules | `(tactic| k_all) => `(tactic| (with_reducible assumption))
local macro_rules | `(tactic| tb_lt) => `(tactic| first | exact Pick.head | (refine' Pick.tail ?c; (case c => tb_lt)))
local macro_rules | `(tactic| tb_start) => `(tactic| first | exact Picks.nil | (refine' Picks.cons ?a ?b; (case a => tb_lt); (case b => tb_start)))
local macro_rules | `(tactic| tb_rel) => `(tactic| first | exact List.forall_mem_nil _ | (refine' List.forall_mem_cons.mpr ⟨?a, ?b⟩; (case a => k_all); (case b => tb_rel)))
local macro_rules | `(tactic| walk_at "TPost") => `(tactic| (dsimp only [TPost]))
local macro_rules | `(tactic| size_fits) => `(tactic| ((simp only [PySem.sizeLine_eq, List.size_toArray]); omega))
local macro_rules | `(tactic| k_gentoks) => `(tactic| (with_reducible refine' gen_toksP ?hp ?_; (case hp => first | omega | ((try simp only [List.length_cons]); omega)); intro tk htk))
local macro_rules | `(tactic| kstt_sub) => `(tactic| first | exact fun _ h => h | assumption | (refine' subCons ?a ?b; (case a => k_mem); (case b => kstt_sub)) | (refine' subTail ?a; (case a => kstt_sub)))
local macro_rules | `(tactic| kst_all) => `(tactic| first | exact List.forall_mem_nil _ | (refine' List.forall_mem_cons.mpr ⟨?a, ?b⟩; (case a => exact rfl); (case b => kst_all)))
local macro_rules | `(tactic| walk_at "MidEnd") => `(tactic| first
  | ((with_reducible show MidEnd _ _ _ _ _ _ _ Flow.next _); (refine' ⟨(tk8 _ _ _ _ _ _ _ _, _), _, _, _, rfl, ?F, ?N, ?ps, ?P⟩); (case F => assumption); (case N => (refine' nsub ?N1 ?N2; (case N1 => assumption); (case N2 => kstt_sub))); (case ps => kst_all); (case P => k_extra "mid"))
  | ((fail_if_success (with_reducible show MidEnd _ _ _ _ _ _ _ Flow.next _)); dsimp only [MidEnd]))
local macro_rules | `(tactic| walk_at "WEnd") => `(tactic| ((fail_if_success (with_reducible show WEnd _ _ _ _ _ _ _ _ _ Flow.next _)); dsimp only [WEnd]))
local macro_rules | `(tactic| walk_at "callWith") => `(tactic| (k_here; (with_reducible refine' callWith_method1 ?_ ?he ?hp); (case he => k_dflt rfl); (case hp => k_dflt rfl)))
local macro_rules | `(tactic| k_steps) => `(tactic| repeat' (first | (k_unfold; (try dsimp only)) | (k_end; wrow_close) | walk1 | (dsimp only [List.cons_append, List.nil_append]; walk1) | (dsimp only) | fail "no step"))
def Go (S : SS) : Prop := (rem S).getLast? = some 120
theorem Go.ne {S : SS} (h : Go S) : ∃ c l, rem S = c :: l ∧ (c ≠ 120 → l.getLast? = some 120) := by
  unfold Go at h
  cases hr : rem S with
  | nil => rw [hr] at h; cases h
  | cons c l =>
    refine ⟨c, l, rfl, fun hc => ?_⟩
    rw [hr] at h
    cases l with
    | nil => exact absurd (by simpa using h) hc
    | cons d l => simpa using h
/-- from S₀ on the signs l were handed out -/
structure Got (S₀ S : SS) (l : List Nat) : Prop where
  app : rem S₀ = l ++ rem S
  tot : tot S = tot S₀
  pos : ∀ done, PosOK S₀ done → PosOK S (done ++ l)
  suf : ∀ done, Suf S₀ done → Suf S (done ++ l)
  one : ∀ done, Pos1 S₀ done → Pos1 S (done ++ l)
  len : S₀.c.length ≤ 10001 → S.c.length ≤ 10001
theorem Got.nil (S : SS) : Got S S [] := ⟨rfl, rfl, fun _ h => by rwa [List.append_nil], fun _ h => by rwa [List.append_nil], fun _ h => by rwa [List.append_nil], fun h => h⟩
theorem Got.more {S₀ S S' : SS} {l : List Nat} {c : Nat} (h : Got S₀ S l) (h' : Got S S' [c]) : Got S₀ S' (l ++ [c]) :=
  ⟨by rw [h.app, h'.app, List.append_assoc], h'.tot.trans h.tot, fun d hd => by rw [← List.append_assoc]; exact h'.pos _ (h.pos d hd), fun d hd => by rw [← List.append_assoc]; exact h'.suf _ (h.suf d hd), fun d hd => by rw [← List.append_assoc]; exact h'.one _ (h.one d hd), fun hl => h'.len (h.len hl)⟩
theorem char_go {w : World} {sx sd tx td ra el nl : Nat} {κ κ' : Nat → Nat} {τ₀ τ₁ τ₂ τ₃ τ₄ σ₀ σ₁ : Nat} {S₀ S : SS} {l : List Nat} {bf : Value} {vs : List Value} {ep : Nat}
    (hg : Go S) (hG : Got S₀ S l) (hv : Errs vs S.n) (hbf : BfV S.bo bf) (hw : WF S) (hnd : NQ6 sx sd tx td ra el) :
    TellR w 8 80 (.ref 133) [.ref sx] (stS w sx sd tx td ra el nl κ κ' τ₀ τ₁ τ₂ τ₃ τ₄ σ₀ σ₁ S bf vs ep)
      (fun r f' rest => ∃ (S' : SS) (a0 a1 a2 a3 a4 b0 b1 : Nat) (bv : Value) (vs' : List Value) (ep' : Nat) (c t : Nat), r = .str ⟨#[c]⟩ t ∧ (c ≠ 120 → Go S') ∧ WF S' ∧ Got S₀ S' (l ++ [c]) ∧ BfV S'.bo bv ∧ Errs vs' S'.n ∧ f' = stS w sx sd tx td ra el nl κ κ' a0 a1 a2 a3 a4 b0 b1 S' bv vs' ep') := by
  obtain ⟨c, r0, hl, hc⟩ := hg.ne
  have hn := hw.hn
  have hT := hw.hT
  have hcl := hw.hc
  refine TellR.mono (char_t hv hbf hw.o0 (by omega) (by omega) (by omega) hnd) ?_
  rintro r f' rest ⟨S', a0, a1, a2, a3, a4, b0, b1, bv, vs', ep', eS, h1, h2, h3, rfl⟩
  obtain ⟨w1, w2, w3, w4⟩ := chS_rem hw
  obtain ⟨m1, m2, m3⟩ := chS_more hw
  have m4 : ∀ done, Pos1 S done → Pos1 (chS S).2 (done ++ (rem S).head?.toList) := fun d hd => hd.next hw (by rw [hl]; exact fun e => nomatch e)
  subst eS
  rw [w3, hl] at h1
  obtain ⟨t, rfl⟩ := h1
  rw [hl] at w4 m1 m2 m4
  have w4' : rem (chS S).2 = r0 := w4
  exact ⟨(chS S).2, a0, a1, a2, a3, a4, b0, b1, bv, vs', ep', c, t, rfl, fun h => by unfold Go; rw [w4']; exact hc h, w1, hG.more ⟨by rw [hl, w4']; rfl, w2, m1, m2, m4, m3⟩, h2, h3, rfl⟩
end Mine
namespace Mine
section
variable {prog : Program} {w : World} {A : Around} {E : Value → Shared → Prop} {s : Shared} {env : Env} {h₀ : Heap} {L : Addr} {x : PySem.Str} {body : List Stmt}
theorem tuple_loop {σ : Type} {l : Addr} {lo : Obj} {vs : List Value} {n : Nat} {m₀ : PySem.Str → Option Value} {Q : Flow → Shared → Prop} (front : σ → List (Addr × Obj)) (rest : List (Addr × Obj)) (ps : σ → List (PySem.Str × Value)) (stored : List PySem.Str) (P : List Value → σ → Prop) (c₀ : σ)
    (hh : A.handled = none) (hm : (l, lo) ∈ rest) (hc : lo.cls = .type "tuple") (hd : lo.data = .seq vs.toArray n) (F : Fr h₀ env.locals s.heap m₀) (N : News h₀ env.locals s.heap (front c₀ ++ rest)) (off : ∀ q ∈ front c₀, ∀ p ∈ rest, p.1 ≠ q.1) (hk : ∀ p ∈ ps c₀, m₀ p.1 = some p.2) (hp : P [] c₀)
    (turn : ∀ (c : σ) (pre post : List Value) (v : Value) (u : PySem.Str → Option Value) (h : Heap) (tk : Nat) (rest' : List (Addr × Obj)), vs = pre ++ v :: post → P pre c → (∀ q ∈ front c, ∀ p ∈ rest', p.1 ≠ q.1) → (∀ p ∈ rest, p ∈ rest') →
      Fr h₀ env.locals h (fun y => if y = x then some v else kstB (fun z => if stored.contains z then u z else m₀ z) (ps c) y) → News h₀ env.locals h (front c ++ rest') →
      wpAny (model prog w) A (execs body env) (TPost h₀ env.locals front (KJ x ps stored m₀ (P (pre ++ [v]))) rest' { s with heap := h, toks := tk } Q) E { s with heap := h, toks := tk })
    (done : ∀ (c : σ) (u : PySem.Str → Option Value) (h : Heap) (tk : Nat), P vs c → (∀ q ∈ front c, ∀ p ∈ rest, p.1 ≠ q.1) → Fr h₀ env.locals h (fun y => if y = x then u y else kstB (fun z => if stored.contains z then u z else m₀ z) (ps c) y) → News h₀ env.locals h (front c ++ rest) →
      Q .next { s with heap := h, toks := tk }) :
    wpAny (model prog w) A (pyIter (.ref l)) (fun it s₂ => LoopAtV prog w A h₀ env x body Q E it s₂) E s := by
  have hlm := N (l, lo) (List.mem_append_right _ hm)
  have hl : s.heap.IsTuple l vs.toArray := ⟨lo, hlm.1, hc, n, hd⟩
  have hlt : l < s.heap.objs.size := Heap.lt_size hlm.1
  have hne : l ≠ s.heap.objs.size := Nat.ne_of_lt hlt
  have hI : ∀ q ∈ front c₀ ++ rest, q.1 ≠ s.heap.objs.size := fun q hq e => absurd (Heap.lt_size (N q hq).1) (e ▸ Nat.lt_irrefl _)
  have hlL : l ≠ env.locals := hlm.2.1
  refine wpAny_pyIter_tuple hl ?_
  have W := Walks.tuple (prog := prog) (w := w) hh s.heap.objs.size l hne vs.toArray
  have hlen : vs.toArray.size = vs.length := by simp
  rw [hlen] at W
  refine loop_gen front rest (fun i => KJ x ps stored m₀ (P (vs.take i))) c₀ W ?_ ?_ ?_ ⟨⟨_, Heap.get?_push_size _ rfl, rfl, rfl⟩, hl.at fun o e => Heap.get?_push_of_some _ e⟩ (F.push _) (fun p hp => ⟨Heap.get?_push_of_some _ (N p hp).1, (N p hp).2⟩) ?_ ?_ off ⟨hk, fun _ _ _ _ => rfl, by simpa using hp⟩ ?_ ?_
  · intro hm
    rcases List.mem_cons.mp hm with e | hm
    · exact absurd F.ns.lt (e ▸ Nat.lt_irrefl _)
    · exact hlL (List.mem_singleton.mp hm).symm
  · intro b' hb
    rw [List.mem_singleton.mp hb]
    exact next_is_new F
  · rintro i h ⟨⟨o, ho, _⟩, ⟨o', ho', _⟩⟩ b hb
    rcases List.mem_cons.mp hb with rfl | hb
    · exact ⟨o, ho⟩
    · rw [List.mem_singleton.mp hb]; exact ⟨o', ho'⟩
  · intro q hq hf
    rcases List.mem_cons.mp hf with e | hf
    · exact hI q (List.mem_append_left _ hq) e
    · exact off q hq _ hm (List.mem_singleton.mp hf).symm
  · intro q hq hf
    exact hI q (List.mem_append_right _ hq) (List.mem_singleton.mp hf)
  · rintro i v c m₁ h tk rest' hi hv ⟨h1, h2, hp'⟩ off' sub' F₁ N₁
    have hn' : vs[i]? = some v := by simpa using hv
    obtain ⟨e1, e2⟩ := take_at hn'
    rw [e2]
    exact turn c _ _ v m₁ h tk rest' e1 hp' off' sub' (kst_fr h1 h2 F₁) N₁
  · rintro c m₁ h tk ⟨h1, h2, hp'⟩ off' F₁ N₁
    rw [List.take_length] at hp'
    exact done c m₁ h tk hp' off' (kst_frOut h1 h2 F₁) N₁
theorem item_last_t {value slice : PySem.Expr} {l : Addr} {its : Array Value} {n u : Nat} {v : Value} {news : List (Addr × Obj)} {Q : Value → Shared → Prop} (N : News h₀ L s.heap news) (hm : (l, W.listOf its n) ∈ news) (hv : its.back? = some v) (h : Q v s)
    (hs : subscripted slice false (.ref l) (.int (-1) u) = operate [.ref l, .int (-1) u] (getItem (.ref l) (.int (-1) u)) := by with_unfolding_all rfl) :
    wpAny (model prog w) A (subscriptTail value slice (.ref l) (.int (-1) u)) Q E s := by
  have hl : s.heap.IsList l its := ⟨_, (N _ hm).1, rfl, _, rfl⟩
  have hv' : its[its.size - 1]? = some v := hv
  have h0 : its.size - 1 < its.size := (Array.getElem?_eq_some_iff.mp hv').1
  refine tail_any hl.typeIs PySem.F.slot_list_getitem.lookup (wpAny_getItem_list_neg hl (by decide) ?_ (by decide) ?_ h) hs
  · omega
  · rw [show ((-1 : Int) + (its.size : Int)).toNat = its.size - 1 from by omega]
    exact hv'
theorem truthy_snoc {l : Addr} {us : List Value} {v : Value} {n : Nat} {news : List (Addr × Obj)} {Q : Bool → Shared → Prop} (N : News h₀ L s.heap news) (hm : (l, W.listOf (us ++ [v]).toArray n) ∈ news) (hz : us.length ≤ 100000) (h : Q true { s with toks := s.toks + 1 + 1 }) :
    wpAny (model prog w) A (truthy (.ref l)) Q E s := by
  have hl : s.heap.IsList l (us ++ [v]).toArray := ⟨_, (N _ hm).1, rfl, _, rfl⟩
  refine wpAny_truthy_list hl (by rw [List.size_toArray, List.length_append, List.length_singleton]; omega) ?_
  have e : (!(us ++ [v]).toArray.isEmpty) = true := by simp
  rw [e]; exact h
theorem ncons {h : Heap} {p : Addr × Obj} {l : List (Addr × Obj)} (N : News h₀ L h l) (hm : p ∈ l) : News h₀ L h (p :: l) := nsub N (subCons hm fun _ h => h)
theorem News.head2 {h : Heap} {a : Addr} {o : Obj} {r : List (Addr × Obj)} (_N : News h₀ L h ((a, o) :: r)) : ∃ (b : Nat) (p : Obj), b = a ∧ p = o := ⟨a, o, rfl, rfl⟩
theorem truthy_made {l : Addr} {us : List Value} {n : Nat} {news : List (Addr × Obj)} {Q : Bool → Shared → Prop} (N : News h₀ L s.heap news) (hm : (l, W.listOf us.toArray n) ∈ news) (hz : us.length ≤ 1048576) (h : Q (decide (0 < us.length)) { s with toks := s.toks + 1 + 1 }) :
    wpAny (model prog w) A (truthy (.ref l)) Q E s := by
  have hl : s.heap.IsList l us.toArray := ⟨_, (N _ hm).1, rfl, _, rfl⟩
  refine wpAny_truthy_list hl (by rw [List.size_toArray]; omega) ?_
  have e : (!us.toArray.isEmpty) = decide (0 < us.length) := by cases us <;> simp
  rw [e]; exact h
theorem pop_made {D : Addr} {p : List Value} {y : Value} {n : Nat} {m : PySem.Str → Option Value} {news news' : List (Addr × Obj)} {Q : Value → Shared → Prop} (F : Fr h₀ L s.heap m) (N : News h₀ L s.heap news) (U : Upd D (W.listOf (p ++ [y]).toArray n) (W.listOf p.toArray (n + 1)) news news')
    (hz : p.length ≤ 100000) (h : ∀ h', Fr h₀ L h' m → News h₀ L h' news' → Q y { s with heap := h' }) : wpAny (model prog w) A (call (.builtin "list.pop") [.ref D]) Q E s :=
  kl_pop F N (p := p) (y := y) (by simpa using kpa_last y p) U (by rw [sizeLine_eq]; simp; omega) h
end
end Mine
namespace Mine
theorem one_eq {c d : Nat} {x : PySem.Str} (hx : x = ⟨#[d]⟩) : ((⟨#[c]⟩ : PySem.Str) == x) = decide (c = d) := by
  subst hx
  by_cases h : c = d
  · subst h; simp
  · rw [decide_eq_false h]
    refine beq_eq_false_iff_ne.mpr fun e => h ?_
    have e2 : (#[c] : Array Nat) = #[d] := congrArg PySem.Str.cps e
    simpa using e2
/-! the tables of signs -/
def ones (l : List Nat) : List PySem.Str := l.map fun c => ⟨#[c]⟩
def letC : List Nat := [97, 98, 99, 100, 101, 102, 103, 104, 105, 106, 107, 108, 109, 110, 111, 112, 113, 114, 115, 116, 117, 118, 119, 120, 121, 122, 65, 66, 67, 68, 69, 70, 71, 72, 73, 74, 75, 76, 77, 78, 79, 80, 81, 82, 83, 84, 85, 86, 87, 88, 89, 90]
def spcC : List Nat := [9, 10, 12, 32, 13]
theorem letters_K (w : World) : ∃ (l : List Value) (n : Nat), (KF w).lookup 27 = some { cls := .type "tuple", dict := none, data := .seq l.toArray n, slots := #[] } ∧ StrsAre l (ones letC) := by
  refine ⟨_, _, rfl, ?_⟩
  repeat' (first | exact StrsAre.nil | refine StrsAre.cons _ _ ?_)
theorem spaces_K (w : World) : ∃ (l : List Value) (n : Nat), (KF w).lookup 22 = some { cls := .type "tuple", dict := none, data := .seq l.toArray n, slots := #[] } ∧ StrsAre l (ones spcC) := by
  refine ⟨_, _, rfl, ?_⟩
  repeat' (first | exact StrsAre.nil | refine StrsAre.cons _ _ ?_)
theorem strs_mem : ∀ {l : List Value} {ws : List PySem.Str}, StrsAre l ws → ∀ v ∈ l, ∃ x t, v = .str x t
  | _, _, .nil, v, h => nomatch h
  | _, _, .cons x t h, v, hv => by
    rcases List.mem_cons.mp hv with rfl | hv
    · exact ⟨x, t, rfl⟩
    · exact strs_mem h v hv
def hitS (x : PySem.Str) : Value → Bool
  | .str y _ => y == x
  | _ => false
theorem strs_any {x : PySem.Str} : ∀ {l : List Value} {ws : List PySem.Str}, StrsAre l ws → l.any (hitS x) = ws.any (fun y => y == x)
  | _, _, .nil => rfl
  | _, _, .cons y t h => by rw [List.any_cons, List.any_cons, strs_any h]; rfl
theorem ones_any (c : Nat) : ∀ l : List Nat, (ones l).any (fun y => y == (⟨#[c]⟩ : PySem.Str)) = decide (c ∈ l)
  | [] => rfl
  | a :: l => by
    have h := ones_any c l
    unfold ones at h ⊢
    rw [List.map_cons, List.any_cons, h, one_eq rfl]
    by_cases e : a = c
    · subst e; simp
    · have e' : ¬ c = a := fun q => e q.symm
      simp [e, e']
section
variable {w : World} {A : Around} {E : Value → Shared → Prop} {s : Shared} {h₀ : Heap} {L : Addr} {m : PySem.Str → Option Value} {c t : Nat} {Q : Value → Shared → Prop}
theorem in_tupK {a n : Nat} {l : List Value} {cs : List Nat} (F : Fr h₀ L s.heap m) (X : (KF w).In h₀) (hl : (KF w).lookup a = some { cls := .type "tuple", dict := none, data := .seq l.toArray n, slots := #[] }) (hs : StrsAre l (ones cs)) (h : Q (.bool (decide (c ∈ cs))) s) :
    wpAny (model PG w) A (compareOp .In (.str ⟨#[c]⟩ t) (.ref a)) Q E s := by
  have ht : s.heap.IsTuple a l.toArray := ⟨_, (X.keeps F.keep) _ _ hl, rfl, _, rfl⟩
  refine PySem.SeqAt.in_tupleAt (hitS ⟨#[c]⟩) ht (fun y hy => ?_) ?_
  · obtain ⟨x, u, rfl⟩ := strs_mem hs y (by simpa using hy)
    exact PySem.SeqAt.EqAt.str_str x u ⟨#[c]⟩ t
  · have e : l.toArray.any (hitS ⟨#[c]⟩) = decide (c ∈ cs) := by rw [List.any_toArray, strs_any hs, ones_any]
    rw [e]; exact h
theorem in_letters (F : Fr h₀ L s.heap m) (X : (KF w).In h₀) (h : Q (.bool (decide (c ∈ letC))) s) : wpAny (model PG w) A (compareOp .In (.str ⟨#[c]⟩ t) (.ref 27)) Q E s := by
  obtain ⟨l, n, h1, h2⟩ := letters_K w
  exact in_tupK F X h1 h2 h
theorem in_spaces (F : Fr h₀ L s.heap m) (X : (KF w).In h₀) (h : Q (.bool (decide (c ∈ spcC))) s) : wpAny (model PG w) A (compareOp .In (.str ⟨#[c]⟩ t) (.ref 22)) Q E s := by
  obtain ⟨l, n, h1, h2⟩ := spaces_K w
  exact in_tupK F X h1 h2 h
end
theorem inby_letters {w : World} : InBy w (.ref 27) [] (fun ch => decide (ch ∈ letC)) := fun A E s h₀ L m news ch u Q F X N hs h => in_letters F X (h s.toks)
end Mine
theorem Mine.off_c15o {M : Model} {A : Around} {env : Env} {Q : Flow → Shared → Prop} {E : Value → Shared → Prop} {s : Shared} (h : wpAny M A (execs [] env) Q E s) : wpAny M A (execs [] env) Q E s := by
  (try (walk1; fail "no"))
  w_top off
  exact h
namespace Mine
local macro_rules | `(tactic| k_ne) => `(tactic| first | exact (show Nq _ _ by with_reducible assumption) | exact Ne.symm (show Nq _ _ by with_reducible assumption) | (refine neN ?_; (try dsimp only); omega))
local macro_rules | `(tactic| k_room) => `(tactic| ((try simp only [depth_under_make, depth_under_kw, depth_in1, depth_deeper, depth_caller, ktrTop, recursionLimit] at *); omega))
local macro_rules | `(tactic| k_units) => `(tactic| ((have hcL9 := cLine_is); (try simp only [units_in1, units_deeper, Around.mark_units, units_caller, ktrTop] at *); omega))
local macro_rules | `(tactic| ktr_enter) => `(tactic| (refine' code_def ?k1 ?k2 ?k3 ?k4 ?k5 ?kA ?kF ?kK ?k6 ?k7 ?k8 ?k9 ?kB ?_ ?c2 ?c3 ?c4 ?c5; (case kA => exact rfl); (case kF => exact rfl); (case kK => first | exact rfl | assumption); (case k1 => k_asm); (case k2 => k_asm); (case k3 => k_asm); (case k4 => k_asm); (case k5 => k_asm); (case k6 => k_is); (case k7 => k_is); (case k8 => k_room); (case k9 => first | exact BindsTo.of_eq rfl | exact binds_K (by k_in) rfl (by k_is) rfl rfl rfl); (case c5 => decide); (case kB => exact locs rfl); (case c2 => exact rfl); (case c3 => exact rfl); (case c4 => exact rfl); k_whole; intro g' L' h' FG' F' N' B' X' T'; (try dsimp only); (try k_fold)))
local macro_rules | `(tactic| k_all) => `(tactic| (with_reducible assumption))
local macro_rules | `(tactic| tb_lt) => `(tactic| first | exact Pick.head | (refine' Pick.tail ?c; (case c => tb_lt)))
local macro_rules | `(tactic| tb_start) => `(tactic| first | exact Picks.nil | (refine' Picks.cons ?a ?b; (case a => tb_lt); (case b => tb_start)))
local macro_rules | `(tactic| tb_rel) => `(tactic| first | exact List.forall_mem_nil _ | (refine' List.forall_mem_cons.mpr ⟨?a, ?b⟩; (case a => k_all); (case b => tb_rel)))
local macro_rules | `(tactic| walk_at "TPost") => `(tactic| (dsimp only [TPost]))
local macro_rules | `(tactic| size_fits) => `(tactic| ((simp only [PySem.sizeLine_eq, List.size_toArray]); omega))
local macro_rules | `(tactic| k_gentoks) => `(tactic| (with_reducible refine' gen_toksP ?hp ?_; (case hp => first | omega | ((try simp only [List.length_cons]); omega)); intro tk htk))
local macro_rules | `(tactic| kstt_sub) => `(tactic| first | exact fun _ h => h | assumption | (refine' subCons ?a ?b; (case a => k_mem); (case b => kstt_sub)) | (refine' subTail ?a; (case a => kstt_sub)))
local macro_rules | `(tactic| kst_all) => `(tactic| first | exact List.forall_mem_nil _ | (refine' List.forall_mem_cons.mpr ⟨?a, ?b⟩; (case a => exact rfl); (case b => kst_all)))
local macro_rules | `(tactic| walk_at "MidEnd") => `(tactic| first
  | ((with_reducible show MidEnd _ _ _ _ _ _ _ Flow.next _); (refine' ⟨(tk8 _ _ _ _ _ _ _ _, _), _, _, _, rfl, ?F, ?N, ?ps, ?P⟩); (case F => assumption); (case N => (refine' nsub ?N1 ?N2; (case N1 => assumption); (case N2 => kstt_sub))); (case ps => kst_all); (case P => k_extra "mid"))
  | ((fail_if_success (with_reducible show MidEnd _ _ _ _ _ _ _ Flow.next _)); dsimp only [MidEnd]))
local macro_rules | `(tactic| walk_at "WEnd") => `(tactic| ((fail_if_success (with_reducible show WEnd _ _ _ _ _ _ _ _ _ Flow.next _)); dsimp only [WEnd]))
local macro_rules | `(tactic| walk_at "callWith") => `(tactic| (k_here; (with_reducible refine' callWith_method1 ?_ ?he ?hp); (case he => k_dflt rfl); (case hp => k_dflt rfl)))
local macro_rules | `(tactic| k_steps) => `(tactic| repeat' (first | (k_unfold; (try dsimp only)) | (k_end; wrow_close) | walk1 | (dsimp only [List.cons_append, List.nil_append]; walk1) | (dsimp only) | fail "no step"))
section
theorem charsUntil_o {w : World} {sx sd tx td ra el nl : Nat} {κ κ' : Nat → Nat} {τ₀ τ₁ τ₂ τ₃ τ₄ σ₀ σ₁ : Nat} {S : SS} {bf : Value} {vs : List Value} {ep : Nat} {cv : Value} {fr : List (Addr × Obj)} {q : Nat → Bool}
    (hin : InBy w cv fr q) (hfr : ∀ p ∈ fr, p.1 ≠ sx ∧ p.1 ≠ sd ∧ p.1 ≠ tx ∧ p.1 ≠ td ∧ p.1 ≠ ra ∧ p.1 ≠ el) (hv : Errs vs S.n) (hbf : BfV S.bo bf) (hw : WF S) (hnd : NQ6 sx sd tx td ra el) :
    TellR w 12 120 (.ref 156) [.ref sx, cv, .bool true] (stS w sx sd tx td ra el nl κ κ' τ₀ τ₁ τ₂ τ₃ τ₄ σ₀ σ₁ S bf vs ep ++ fr)
      (fun r f' rest => ∃ (S' : SS) (a0 a1 a2 a3 a4 b0 b1 : Nat) (bv : Value) (vs' : List Value) (ep' : Nat) (x : PySem.Str) (t : Nat), r = .str x t ∧ x.cps.toList = (rem S).takeWhile (fun ch => q ch == true) ∧ rem S' = (rem S).dropWhile (fun ch => q ch == true) ∧ WF S' ∧ tot S' = tot S ∧
        (∀ done, PosOK S done → PosOK S' (done ++ (rem S).takeWhile (fun ch => q ch == true))) ∧ BfV S'.bo bv ∧ Errs vs' S'.n ∧ f' = stS w sx sd tx td ra el nl κ κ' a0 a1 a2 a3 a4 b0 b1 S' bv vs' ep' ++ fr) := by
  have hq := hnd
  unfold NQ6 at hq
  obtain ⟨q1, q2, q3, q4, q5, q6, q7, q8, q9, q10, q11, q12, q13, q14, q15⟩ := hq
  unfold TellR Tell KF PG
  k_fill
  intro rest off' mean mg mb dp un gd cn cs a ccd cl outer A₀ base h₀ L m s Q E B F X N T hk hd hu hret
  dsimp only [stS, stL, List.cons_append, List.nil_append] at off' N
  simp only [List.forall_mem_cons] at off'
  obtain ⟨o1, o2, o3, o4, o5, o6, o7⟩ := off'
  obtain ⟨R, eR⟩ : ∃ R, R = fr ++ rest := ⟨_, rfl⟩
  have hR : ∀ p ∈ fr, p ∈ R := fun p hp => eR ▸ List.mem_append_left _ hp
  have hRR : ∀ p ∈ fr ++ rest, p ∈ R := fun p hp => eR ▸ hp
  have aR : ∀ {a : Nat}, (∀ p ∈ fr, p.1 ≠ a) → (∀ p ∈ rest, p.1 ≠ a) → ∀ p ∈ R, p.1 ≠ a := fun h1 h2 p hp => by
    rw [eR] at hp
    exact (List.mem_append.mp hp).elim (h1 p) (h2 p)
  replace o1 := aR (fun p hp => (hfr p hp).1) o1
  replace o2 := aR (fun p hp => (hfr p hp).2.1) o2
  replace o3 := aR (fun p hp => (hfr p hp).2.2.1) o3
  replace o4 := aR (fun p hp => (hfr p hp).2.2.2.1) o4
  replace o5 := aR (fun p hp => (hfr p hp).2.2.2.2.1) o5
  replace o6 := aR (fun p hp => (hfr p hp).2.2.2.2.2) o6
  clear aR o7 hfr
  rw [← eR] at N
  k_dflt ktr_enter
  (rename Fr _ _ _ _ => f8)
  (rename News _ _ _ _ => n8)
  refine' TailAt.use (cu_tail (b := true) (R := R) (κ := κ) (κ' := κ') (nl := nl) hin hR o1 o2 o3 o4 o5 o6 hv hbf hw hnd) n8 ?ts f8 ?tp ?tB ?tX ?tT ?td ?tu ?tk ?tE ?tr
  case ts =>
    dsimp only [stS, stL, List.cons_append, List.nil_append]
    exact fun _ h => h
  case tp => exact (List.forall_mem_cons.mpr ⟨rfl, List.forall_mem_cons.mpr ⟨rfl, List.forall_mem_cons.mpr ⟨rfl, List.forall_mem_nil _⟩⟩⟩)
  case tB => assumption
  case tX => assumption
  case tT => assumption
  case td => omega
  case tu => omega
  case tk => exact (show 0 < s.toks + 3 from Nat.succ_pos _)
  case tE => first | passes_own | with_unfolding_all passes_own
  case tr =>
    rintro r news' h' tk' m' F' N' ⟨S', a0, a1, a2, a3, a4, b0, b1, bv, vs', ep', x, t, rfl, h1, h2, h3, h4, h5, h6, h7, rfl⟩
    k_steps
    rw [eR, ← List.append_assoc] at *
    exact hret _ _ _ _ (by assumption) (by assumption) ⟨_, ⟨S', a0, a1, a2, a3, a4, b0, b1, bv, vs', ep', x, t, rfl, h1, h2, h3, h4, h5, h6, h7, rfl⟩, rfl⟩
end
end Mine
namespace Mine
theorem if_yes {b : Bool} {P Q : Prop} (h : b = true) (p : P) : if b = true then P else Q := by rw [if_pos h]; exact p
theorem if_no {b : Bool} {P Q : Prop} (h : b = false) (q : Q) : if b = true then P else Q := by rw [if_neg (by rw [h]; decide)]; exact q
theorem back_snoc {us : List Value} {v : Value} : (us ++ [v]).toArray.back? = some v := by simp
theorem getItem_at {prog : Program} {w : World} {A : Around} {E : Value → Shared → Prop} {s : Shared} {h₀ : Heap} {L : Addr} {news : List (Addr × Obj)} {l : Addr} {us : List Value} {n u : Nat} {k : Int} {v : Value} {Q : Value → Shared → Prop} (N : News h₀ L s.heap news) (hm : (l, W.listOf us.toArray n) ∈ news) (h0 : 0 ≤ k) (hk : k < 2 ^ 63) (hv : us[k.toNat]? = some v) (h : Q v s) :
    wpAny (model prog w) A (getItem (.ref l) (.int k u)) Q E s := by
  have hl : s.heap.IsList l us.toArray := ⟨_, (N _ hm).1, rfl, _, rfl⟩
  exact wpAny_getItem_list hl h0 hk (by simpa using hv) h
abbrev ctRows (kd k1 : Nat) (nmT : PySem.Str) (k2 dl : Nat) (fl : Bool) : List (PySem.Str × Value) := [(Str.ofString "type", .int (kd : Int) k1), (Str.ofString "name", .str nmT k2), (Str.ofString "data", .ref dl), (Str.ofString "selfClosing", .bool fl)]
/-- the faults told: the queue's new items, their objects, their words -/
inductive Toks (w : World) : List Value → List (Addr × Obj) → List PySem.Str → Prop
  | nil : Toks w [] [] []
  | cons {a t1 t2 : Nat} {o : Obj} {word : PySem.Str} {r ex ws} : o.IsDictOf (PySem.strKind PG w) [(Str.ofString "type", .int 7 t1), (Str.ofString "data", .str word t2)] → Toks w r ex ws → Toks w (.ref a :: r) ((a, o) :: ex) (word :: ws)
theorem Toks.app {w : World} : ∀ {r ex ws r' ex' ws'}, Toks w r ex ws → Toks w r' ex' ws' → Toks w (r ++ r') (ex ++ ex') (ws ++ ws')
  | _, _, _, _, _, _, .nil, h => h
  | _, _, _, _, _, _, .cons h1 h2, h => .cons h1 (h2.app h)
def FreshA (hx hd' tq ct dl p sx sd tx td ra el : Nat) (rest : List (Addr × Obj)) (e : Nat) : Prop :=
  hx < e ∧ hd' < e ∧ tq < e ∧ ct < e ∧ dl < e ∧ p < e ∧ sx < e ∧ sd < e ∧ tx < e ∧ td < e ∧ ra < e ∧ el < e ∧ AllLt e rest
/-- the tag's dict, its list and the last pair, apart from all else -/
def AQ (hx hd' tq ct dl p sx sd tx td ra el : Nat) : Prop :=
  (Nq ct hx ∧ Nq ct hd' ∧ Nq ct tq ∧ Nq ct sx ∧ Nq ct sd ∧ Nq ct tx ∧ Nq ct td ∧ Nq ct ra ∧ Nq ct el) ∧ (Nq dl hx ∧ Nq dl hd' ∧ Nq dl tq ∧ Nq dl sx ∧ Nq dl sd ∧ Nq dl tx ∧ Nq dl td ∧ Nq dl ra ∧ Nq dl el) ∧
  (Nq p hx ∧ Nq p hd' ∧ Nq p tq ∧ Nq p sx ∧ Nq p sd ∧ Nq p tx ∧ Nq p td ∧ Nq p ra ∧ Nq p el) ∧ Nq ct dl ∧ Nq ct p ∧ Nq dl p
abbrev atF (w : World) (hx hd' tq lf ct dl p sx sd tx td ra el nl : Nat) (κh κ κ' : Nat → Nat) (τ₀ τ₁ τ₂ τ₃ τ₄ σ₀ σ₁ : Nat) (S : SS) (bf : Value) (vs : List Value) (ep : Nat) (st : Value) (qs : List Value) (tep : Nat) (oC : Obj) (us : List Value) (dep : Nat) (nm val : PySem.Str) (t1 t2 pep : Nat) : List (Addr × Obj) :=
  [(hx, instObj 762 hd'), (hd', hdD8 w κh sx lf tq st (.ref ct)), (tq, W.listOf qs.toArray tep), (ct, oC), (dl, W.listOf (us ++ [Value.ref p]).toArray dep), (p, W.listOf [Value.str nm t1, Value.str val t2].toArray pep)] ++ stS w sx sd tx td ra el nl κ κ' τ₀ τ₁ τ₂ τ₃ τ₄ σ₀ σ₁ S bf vs ep
theorem push_app {qs : List Value} {v : Value} : qs.toArray.push v = (qs ++ [v]).toArray := by simp
theorem app_rep {nm : PySem.Str} : (nm ++ PySem.Str.ofString "�" : PySem.Str).cps.toList = nm.cps.toList ++ [65533] := by
  have e : (PySem.Str.ofString "�").cps = #[65533] := by decide +kernel
  show (nm.cps ++ (PySem.Str.ofString "�").cps).toList = _
  rw [e]; simp
theorem app_let {nm x : PySem.Str} {c : Nat} {l : List Nat} (h : x.cps.toList = l) : (nm ++ (⟨#[c]⟩ ++ x) : PySem.Str).cps.toList = nm.cps.toList ++ (c :: l) := by
  show (nm.cps ++ (#[c] ++ x.cps)).toList = _
  rw [Array.toList_append, Array.toList_append, h]
  rfl
theorem app_one {nm : PySem.Str} {c : Nat} : (nm ++ ⟨#[c]⟩ : PySem.Str).cps.toList = nm.cps.toList ++ [c] := by
  show (nm.cps ++ #[c]).toList = _
  simp
theorem item_n {prog : Program} {w : World} {A : Around} {E : Value → Shared → Prop} {s : Shared} {h₀ : Heap} {L : Addr} {news : List (Addr × Obj)} {value slice : PySem.Expr} {l : Addr} {us : List Value} {n u : Nat} {k : Int} {v : Value} {Q : Value → Shared → Prop} (N : News h₀ L s.heap news) (hm : (l, W.listOf us.toArray n) ∈ news) (h0 : 0 ≤ k) (hk : k < 2 ^ 63) (hv : us[k.toNat]? = some v) (h : Q v s)
    (hs : subscripted slice false (.ref l) (.int k u) = operate [.ref l, .int k u] (getItem (.ref l) (.int k u)) := by with_unfolding_all rfl) :
    wpAny (model prog w) A (subscriptTail value slice (.ref l) (.int k u)) Q E s := by
  have hl : s.heap.IsList l us.toArray := ⟨_, (N _ hm).1, rfl, _, rfl⟩
  exact tail_any hl.typeIs PySem.F.slot_list_getitem.lookup (wpAny_getItem_list hl h0 hk (by simpa using hv) h) hs
end Mine
namespace Mine
/-! a comprehension over a text's signs -/
def SignSrc (P : PySem.Str → Shared → Prop) (xv : Value) (s₁ : Shared) : Prop := ∃ y t, xv = .str y t ∧ P y s₁
theorem SignSrc.intro {P : PySem.Str → Shared → Prop} {y : PySem.Str} {t : Nat} {s₁ : Shared} (h : P y s₁) : SignSrc P (.str y t) s₁ := ⟨y, t, rfl, h⟩
section
variable {prog : Program} {w : World} {A : Around} {E : Value → Shared → Prop} {s : Shared} {h₀ : Heap} {L : Addr} {m : PySem.Str → Option Value} {news : List (Addr × Obj)} {env : Env}
theorem paired_signs (g : Nat → PySem.Str) : ∀ {vs ys : List Value} {cs : List Nat}, vs.length = cs.length → (∀ (j : Nat) (v : Value), vs[j]? = some v → ∃ c u, cs[j]? = some c ∧ v = .str ⟨#[c]⟩ u) →
    Paired (fun v r => ∃ c u u', v = Value.str ⟨#[c]⟩ u ∧ r = Value.str (g c) u') vs ys → StrsAre ys (cs.map g)
  | [], ys, [], _, _, h => by cases h; exact .nil
  | [], _, _ :: _, hl, _, _ => by cases hl
  | _ :: _, _, [], hl, _, _ => by cases hl
  | v :: vs, ys, c :: cs, hl, hg, h => by
    cases h with
    | cons h1 h2 =>
      obtain ⟨c', u, u', e1, e2⟩ := h1
      obtain ⟨c2, u2, e3, e4⟩ := hg 0 v rfl
      have e5 : c = c2 := by simpa using e3
      subst e5
      rw [e1] at e4
      cases e4
      subst e2
      exact .cons _ _ (paired_signs g (by simpa using hl) (fun j v hv => hg (j + 1) v (by simpa using hv)) h2)
theorem comp_signs {elt iter : PySem.Expr} {x : PySem.Str} {px : Pos} {scope : Scope} {pos : Pos} {Q : Value → Shared → Prop} (g : Nat → PySem.Str) (_F : Fr h₀ L s.heap m) (_N : News h₀ L s.heap news)
    (hh : A.handled = none) (hfree : ∀ y ∈ scope.names, y.2 ≠ .free) (hcell : ∀ y ∈ scope.names, y.2 ≠ .cell) (hkind : scope.kind = .function)
    (hnames : ∀ y ∈ scope.names, y.2 = .local → scope.names.lookup y.1 = some .local) (hx : scope.names.lookup x = some .local) (hs : ∀ x, foldedSetIterable iter env x = pure x)
    (h : wpAny (model prog w) A (eval iter env) (SignSrc fun y s₁ => y.length ≤ sizeLine ∧ Fr h₀ L s₁.heap m ∧ News h₀ L s₁.heap news ∧
      (∀ C c u s₂ m₂ E', s₂.heap.Ns (compEnv scope C env).locals m₂ → m₂ x = some (.str ⟨#[c]⟩ u) → Fr h₀ L s₂.heap m → News h₀ L s₂.heap news → wpAny (model prog w) A (eval elt (compEnv scope C env)) (fun r s₃ => (∃ u', r = .str (g c) u') ∧ Keeps s₂ s₃) E' s₂) ∧
      (∀ D (ys : List Value) h' tk, Fr h₀ L h' m → News h₀ L h' news → h'.IsList D ys.toArray → StrsAre ys (y.cps.toList.map g) → Q (.ref D) { s₁ with heap := h', toks := tk })) E s) :
    wpAny (model prog w) A (eval (.ListComp elt [⟨.Name x px, iter, [], 0⟩] scope pos) env) Q E s := by
  refine wpAny_ListComp_walk (fun _ => true) (fun v r => ∃ c u u', v = Value.str ⟨#[c]⟩ u ∧ r = Value.str (g c) u') hfree hcell hkind hnames hx
    (wpAny_mono h (fun xv s₁ h₁ => ?_) fun _ _ e => e) hs
  obtain ⟨y, t, rfl, hsz, F, N, helt, hQ⟩ := h₁
  refine wpAny_pyIter_str fun o St W hst => ?_
  have up : ∀ (h' : Heap), (∀ b o', b ∉ [s₁.heap.objs.size] → (s₁.heap.push o).get? b = some o' → h'.get? b = some o') → ∀ b o', s₁.heap.get? b = some o' → h'.get? b = some o' :=
    fun h' hk b o' e => hk b o' (old_not_new e) (Heap.get?_push_of_some _ e)
  refine ⟨s₁.heap.objs.size, [s₁.heap.objs.size], [s₁.heap.objs.size], y.cps.size, SignAt y, St, rfl, W A hh, hsz, hst, ?_, ⟨?_, ?_⟩, ?_⟩
  · intro b hb
    show b < (s₁.heap.push o).objs.size
    rw [Heap.size_push, List.mem_singleton.mp hb]
    exact Nat.lt_succ_self _
  · intro C i v s₃ m₃ E' hP hn hm _ _
    exact wpAny_pure ⟨rfl, s₃.heap, s₃.toks, rfl, fun _ _ e => e⟩
  · intro C i v s₃ m₃ E' hP hp hn hm hk3 _
    obtain ⟨c, u, _, rfl⟩ := hP
    exact wpAny_mono (helt C c u s₃ m₃ E' hn hm (F.keeps (up _ hk3)) (N.grown (up _ hk3))) (fun r s₄ h₄ => ⟨⟨c, u, h₄.1.choose, rfl, h₄.1.choose_spec⟩, h₄.2⟩) fun _ _ e => e
  · intro D h' tk ys vs hnew hlD hplD hlen hP hF hk
    have hF' : Paired (fun v r => ∃ c u u', v = Value.str ⟨#[c]⟩ u ∧ r = Value.str (g c) u') vs ys.toList := by
      have e : vs.filter (fun _ => true) = vs := List.filter_eq_self.mpr fun _ _ => rfl
      rwa [e] at hF
    refine hQ D ys.toList h' tk (F.keeps (up h' hk)) (N.grown (up h' hk)) (by rw [Array.toArray_toList]; exact hlD) ?_
    exact paired_signs g (by rw [hlen, Array.length_toList]) (fun j v hv => by
      obtain ⟨c, u, h1, h2⟩ := hP j v hv
      exact ⟨c, u, by rw [Array.getElem?_toList]; exact h1, h2⟩) hF'
end
theorem nameG_B {M : Model} {A : Around} {E : Value → Shared → Prop} {s : Shared} {K : Frag} {h₀ : Heap} {L : Addr} {m mg mb : PySem.Str → Option Value} {env : Env} {p : Program} {loose : List PySem.Str}
    {x : PySem.Str} {pos : Pos} {v : Value} {Q : Value → Shared → Prop} (F : Fr h₀ L s.heap m) (X : K.In h₀) (T : TopRead p loose mg mb h₀) (e : nsIn K mainGlobals x = some none) (hv : bootBuiltins x = some v) (hn : x ≠ "__name__") (h : Q v s)
    (hg : env.globals = mainGlobals) (hb : env.builtins = builtinsNs) (hk : env.scope.kind = .function) (hx : env.kindOf x = some .globalImplicit) (hd : (x == ("__debug__" : PySem.Str)) = false) :
    wpAny M A (eval (.Name x pos) env) Q E s :=
  PySem.Calls.Name_function_global hk hx (PySem.Calls.loadGlobal_builtin (by rw [hg]; exact T.g.keeps F.keep) (mg_none_of X T.g e) (by rw [hb]; exact T.b.keeps F.keep) ((T.builtins x hn).trans hv) h) hd
theorem join_i {prog : Program} {w : World} {A : Around} {E : Value → Shared → Prop} {s : Shared} {t : Tok} {Q : Value → Shared → Prop} {rv : Addr} {a : Array Value} {ws : List PySem.Str}
    (hl : s.heap.IsList rv a) (hs : StrsAre a.toList ws) (hb : (flat ws).length + ws.length ≤ 1048576)
    (h : ∀ t' k x, x.cps.toList = flat ws → Q (.str x t') { s with toks := k }) : wpAny (model prog w) A (call (.builtin "str.join") [.str (PySem.Str.ofString "") t, .ref rv]) Q E s := by
  have e : (PySem.Str.ofString "").length = 0 := by decide +kernel
  refine join_listW hl hs (by rw [e]; decide) (by rw [flat_len]; exact hb) fun t' k => h t' k _ (by unfold Txt.join; rw [StrLaws.glued_eq_join]; exact join_flat ws)
theorem flat_ones (f : Nat → Nat) : ∀ l : List Nat, flat (l.map fun c => (⟨#[f c]⟩ : PySem.Str)) = l.map f
  | [] => rfl
  | c :: l => by
    have := flat_ones f l
    simp only [flat, List.map_cons, List.flatMap_cons] at this ⊢
    rw [this]; rfl
theorem lt_one {c d : Nat} {y : PySem.Str} (h : y.cps.toList = [d]) : (⟨#[c]⟩ : PySem.Str).cps.toList < y.cps.toList ↔ c < d := by
  rw [h]
  show ([c] : List Nat) < [d] ↔ _
  rw [List.cons_lt_cons_iff]
  exact ⟨fun h => h.elim id fun h => absurd h.2 (by exact fun h => nomatch h), .inl⟩
theorem gt_one {c d : Nat} {y : PySem.Str} (h : y.cps.toList = [d]) : y.cps.toList < (⟨#[c]⟩ : PySem.Str).cps.toList ↔ d < c := by
  rw [h]
  show ([d] : List Nat) < [c] ↔ _
  rw [List.cons_lt_cons_iff]
  exact ⟨fun h => h.elim id fun h => absurd h.2 (by exact fun h => nomatch h), .inl⟩
theorem cA : (PySem.Str.ofString "A").cps.toList = [65] := by decide +kernel
theorem cZ : (PySem.Str.ofString "Z").cps.toList = [90] := by decide +kernel
end Mine
namespace Mine
/-! what stands at the head of the rest -/
def lw (c : Nat) : Nat := if 65 ≤ c ∧ c ≤ 90 then c + 32 else c
def docW : List Nat := [100, 111, 99, 116, 121, 112, 101]
/-- neither two hyphens nor the word stands at the head -/
def NoHead (l : List Nat) : Prop := ∀ r : List Nat, (l ++ r).take 2 ≠ [45, 45] ∧ ((l ++ r).take 7).map lw ≠ docW
theorem lw_is {c d : Nat} (h : lw c = d) : c = d ∨ c + 32 = d := by
  unfold lw at h
  split at h <;> omega
theorem nohead_dash {c : Nat} (h : c ≠ 45) : NoHead [45, c] := fun r =>
  ⟨by simp [h], fun e => by
    have h9 := congrArg List.head? e
    simp [lw, docW] at h9⟩
theorem nohead_first {c : Nat} (h1 : c ≠ 45) (h2 : c ≠ 100) (h3 : c ≠ 68) : NoHead [c] := fun r =>
  ⟨fun e => by
    have h9 := congrArg List.head? e
    simp at h9
    exact h1 h9, fun e => by
    have h9 := congrArg List.head? e
    simp [docW] at h9
    rcases lw_is h9 with h | h <;> omega⟩
theorem nohead_doc {l : List Nat} {c d : Nat} (h : l.map lw = docW.take l.length) (h0 : 0 < l.length) (hl : l.length ≤ 6) (hd : docW[l.length]? = some d) (h1 : c ≠ d) (h2 : c + 32 ≠ d) : NoHead (l ++ [c]) := fun r => by
  refine ⟨fun e => ?_, fun e => ?_⟩
  · cases l with
    | nil => simp at h0
    | cons a l =>
      have h9 := congrArg List.head? e
      have h8 := congrArg List.head? h
      simp [docW] at h9 h8
      rw [h9] at h8
      simp [lw] at h8
  · have h9 := congrArg (fun x => x[l.length]?) e
    rw [hd, List.getElem?_map, List.getElem?_take, if_pos (by omega)] at h9
    rw [List.append_assoc, List.getElem?_append_right (Nat.le_refl _), Nat.sub_self] at h9
    simp only [List.cons_append, List.getElem?_cons_zero, Option.map_some, Option.some.injEq] at h9
    rcases lw_is h9 with h | h
    · exact h1 h
    · exact h2 h
theorem doc_more {l : List Nat} {c d : Nat} (h : l.map lw = docW.take l.length) (hd : docW[l.length]? = some d) (hc : lw c = d) : (l ++ [c]).map lw = docW.take (l ++ [c]).length := by
  rw [List.map_append, h, List.length_append, List.length_singleton, List.take_add_one, hd]
  simp [hc]
end Mine
theorem Mine.off_f7 {M : Model} {A : Around} {env : Env} {Q : Flow → Shared → Prop} {E : Value → Shared → Prop} {s : Shared} (h : wpAny M A (execs [] env) Q E s) : wpAny M A (execs [] env) Q E s := by
  (try (walk1; fail "no"))
  w_top off
  exact h
namespace Mine
local macro_rules | `(tactic| k_ne) => `(tactic| first | exact (show Nq _ _ by with_reducible assumption) | exact Ne.symm (show Nq _ _ by with_reducible assumption) | (refine neN ?_; (try dsimp only); omega))
local macro_rules | `(tactic| k_room) => `(tactic| ((try simp only [depth_under_make, depth_under_kw, depth_in1, depth_deeper, depth_caller, ktrTop, recursionLimit] at *); omega))
local macro_rules | `(tactic| k_units) => `(tactic| ((have hcL9 := cLine_is); (try simp only [units_in1, units_deeper, Around.mark_units, units_caller, ktrTop] at *); omega))
local macro_rules | `(tactic| ktr_enter) => `(tactic| (refine' code_def ?k1 ?k2 ?k3 ?k4 ?k5 ?kA ?kF ?kK ?k6 ?k7 ?k8 ?k9 ?kB ?_ ?c2 ?c3 ?c4 ?c5; (case kA => exact rfl); (case kF => exact rfl); (case kK => first | exact rfl | assumption); (case k1 => k_asm); (case k2 => k_asm); (case k3 => k_asm); (case k4 => k_asm); (case k5 => k_asm); (case k6 => k_is); (case k7 => k_is); (case k8 => k_room); (case k9 => first | exact BindsTo.of_eq rfl | exact binds_K (by k_in) rfl (by k_is) rfl rfl rfl); (case c5 => decide); (case kB => exact locs rfl); (case c2 => exact rfl); (case c3 => exact rfl); (case c4 => exact rfl); k_whole; intro g' L' h' FG' F' N' B' X' T'; (try dsimp only); (try k_fold)))
local macro_rules | `(tactic| k_all) => `(tactic| (with_reducible assumption))
local macro_rules | `(tactic| tb_lt) => `(tactic| first | exact Pick.head | (refine' Pick.tail ?c; (case c => tb_lt)))
local macro_rules | `(tactic| tb_start) => `(tactic| first | exact Picks.nil | (refine' Picks.cons ?a ?b; (case a => tb_lt); (case b => tb_start)))
local macro_rules | `(tactic| tb_rel) => `(tactic| first | exact List.forall_mem_nil _ | (refine' List.forall_mem_cons.mpr ⟨?a, ?b⟩; (case a => k_all); (case b => tb_rel)))
local macro_rules | `(tactic| walk_at "TPost") => `(tactic| (dsimp only [TPost]))
local macro_rules | `(tactic| size_fits) => `(tactic| ((simp only [PySem.sizeLine_eq, List.size_toArray]); omega))
local macro_rules | `(tactic| k_gentoks) => `(tactic| (with_reducible refine' gen_toksP ?hp ?_; (case hp => first | omega | ((try simp only [List.length_cons]); omega)); intro tk htk))
local macro_rules | `(tactic| kstt_sub) => `(tactic| first | exact fun _ h => h | assumption | (refine' subCons ?a ?b; (case a => k_mem); (case b => kstt_sub)) | (refine' subTail ?a; (case a => kstt_sub)))
local macro_rules | `(tactic| kst_all) => `(tactic| first | exact List.forall_mem_nil _ | (refine' List.forall_mem_cons.mpr ⟨?a, ?b⟩; (case a => exact rfl); (case b => kst_all)))
local macro_rules | `(tactic| walk_at "MidEnd") => `(tactic| first
  | ((with_reducible show MidEnd _ _ _ _ _ _ _ Flow.next _); (refine' ⟨(tk8 _ _ _ _ _ _ _ _, _), _, _, _, rfl, ?F, ?N, ?ps, ?P⟩); (case F => assumption); (case N => (refine' nsub ?N1 ?N2; (case N1 => assumption); (case N2 => kstt_sub))); (case ps => kst_all); (case P => k_extra "mid"))
  | ((fail_if_success (with_reducible show MidEnd _ _ _ _ _ _ _ Flow.next _)); dsimp only [MidEnd]))
local macro_rules | `(tactic| walk_at "WEnd") => `(tactic| ((fail_if_success (with_reducible show WEnd _ _ _ _ _ _ _ _ _ Flow.next _)); dsimp only [WEnd]))
local macro_rules | `(tactic| walk_at "callWith") => `(tactic| (k_here; (with_reducible refine' callWith_method1 ?_ ?he ?hp); (case he => k_dflt rfl); (case hp => k_dflt rfl)))
local macro_rules | `(tactic| k_steps) => `(tactic| repeat' (first | (k_unfold; (try dsimp only)) | (k_end; wrow_close) | walk1 | (dsimp only [List.cons_append, List.nil_append]; walk1) | (dsimp only) | fail "no step"))
/-- the sign in small -/
def smS (c : Nat) : PySem.Str := ⟨#[lw c]⟩
theorem low_len {x : PySem.Str} (h : x.length ≤ 2000) : (flat (x.cps.toList.map smS)).length + (x.cps.toList.map smS).length ≤ 1048576 := by
  have e : flat (x.cps.toList.map smS) = x.cps.toList.map lw := flat_ones lw _
  rw [e, List.length_map, List.length_map, Array.length_toList]
  have : x.cps.size = x.length := rfl
  omega
theorem low_lo {c u : Nat} (h : (⟨#[c]⟩ : PySem.Str).cps.toList < (PySem.Str.ofString "A").cps.toList) : Value.str ⟨#[c]⟩ u = Value.str (smS c) u := by
  have h1 := (lt_one cA).mp h
  unfold smS lw
  rw [if_neg (by omega)]
theorem low_hi {c u : Nat} (h : (PySem.Str.ofString "Z").cps.toList < (⟨#[c]⟩ : PySem.Str).cps.toList) : Value.str ⟨#[c]⟩ u = Value.str (smS c) u := by
  have h1 := (gt_one cZ).mp h
  unfold smS lw
  rw [if_neg (by omega)]
theorem low_mid {c u : Nat} (h1 : ¬ (⟨#[c]⟩ : PySem.Str).cps.toList < (PySem.Str.ofString "A").cps.toList) (h2 : ¬ (PySem.Str.ofString "Z").cps.toList < (⟨#[c]⟩ : PySem.Str).cps.toList) : Value.str ⟨#[((c : Int) + 32).toNat]⟩ u = Value.str (smS c) u := by
  have h3 := mt (lt_one cA).mpr h1
  have h4 := mt (gt_one cZ).mpr h2
  unfold smS lw
  rw [if_pos (by omega)]
  rw [show ((c : Int) + 32).toNat = c + 32 by omega]
section
local macro_rules | `(tactic| walk_at "eval ListComp") => `(tactic| (k_here; k_dflt (refine' comp_signs smS ?F0 ?N0 ?hh ?hfree ?hcell ?hkind ?hnames ?hx ?hs ?_; (case F0 => assumption); (case N0 => assumption); (case hh => exact rfl); (case hfree => decide); (case hcell => decide); (case hkind => exact rfl); (case hnames => decide); (case hx => exact rfl); (case hs => (intro _; exact rfl)))))
local macro_rules | `(tactic| walk_at "SignSrc") => `(tactic| k_dflt (refine' SignSrc.intro ⟨?sz, ?F, ?N, ?el, ?fin⟩; (case sz => size_fits); (case F => assumption); (case N => assumption); (case' el => (intro C c u s₂ m₂ E' hns hm F2 N2)); (case' fin => (intro D ys h' tk F' N' hl hs))))
local macro_rules | `(tactic| walk_at "eval Name") => `(tactic| (k_here; k_inBlock; k_dflt (refine' nameG_B ?k0 ?k1 ?k2 ?k3 ?k4 ?k5 ?_ ?h1 ?h2 ?h3 ?h4 ?h5; (case h1 => rfl); (case h2 => rfl); (case h3 => rfl); (case h4 => rfl); (case h5 => decide); (case k0 => assumption); (case k1 => k_asm); (case k2 => k_asm); (case k3 => k_is); (case k4 => boot_by_name); (case k5 => decide))))
local macro_rules | `(tactic| walk_at "call builtin:chr") => `(tactic| (k_here; k_dflt (refine' chr_of_range ?h0 ?h1 ?_; (case h0 => omega); (case h1 => k_extra "chr"))))
local macro_rules | `(tactic| walk_at "call builtin:str.join") => `(tactic| (k_here; k_dflt (refine' join_i ?hl ?hs ?hb ?_; (case hl => assumption); (case hs => assumption); (case hb => k_extra "jn")); intro tj kj xj ej))
theorem asciiLower_t {w : World} {x : PySem.Str} {tk : Nat} (hx : x.length ≤ 2000) : TellR w 3 30 (.ref 42) [.str x tk] []
    (fun r f' rest => ∃ (y : PySem.Str) (u : Nat), r = .str y u ∧ y.cps.toList = x.cps.toList.map lw ∧ f' = []) := by
  unfold TellR Tell KF PG
  k_fill
  intro rest off' mean mg mb dp un gd cn cs a ccd cl outer A₀ base h₀ L m s Q E B F X N T hk hd hu hret
  dsimp only [List.cons_append, List.nil_append] at N
  k_dflt ktr_enter
  k_with_none
  k_with "chr" => ((rename ¬ ((_ : List Nat) < _) => hz9); have hz8 := mt (gt_one cZ).mpr hz9; omega)
  k_with "jn" => exact low_len hx
  repeat' (first | ((fail_if_success (show (∃ u', _ = Value.str (smS _) u') ∧ _)); first | (k_unfold; (try dsimp only)) | (k_end; wrow_close) | walk1 | (dsimp only [List.cons_append, List.nil_append]; walk1) | (dsimp only) | fail "no step"))
  all_goals first
    | ((rename _ = flat _ => ej9); refine' hret _ _ _ _ (by assumption) ?S9 ⟨_, ⟨_, _, rfl, ?X9, rfl⟩, rfl⟩; (case S9 => assumption); (case X9 => exact ej9.trans (flat_ones lw _)))
    | (show (∃ u', _ = Value.str (smS _) u') ∧ _
       first
         | exact ⟨⟨_, low_mid (by assumption) (by assumption)⟩, _, _, rfl, fun _ _ e => e⟩
         | exact ⟨⟨_, low_hi (by assumption)⟩, _, _, rfl, fun _ _ e => e⟩
         | exact ⟨⟨_, low_lo (by assumption)⟩, _, _, rfl, fun _ _ e => e⟩)
end
end Mine
theorem Mine.off_f8 {M : Model} {A : Around} {env : Env} {Q : Flow → Shared → Prop} {E : Value → Shared → Prop} {s : Shared} (h : wpAny M A (execs [] env) Q E s) : wpAny M A (execs [] env) Q E s := by
  (try (walk1; fail "no"))
  w_top off
  exact h
namespace Mine
local macro_rules | `(tactic| k_ne) => `(tactic| first | exact (show Nq _ _ by with_reducible assumption) | exact Ne.symm (show Nq _ _ by with_reducible assumption) | (refine neN ?_; (try dsimp only); omega))
local macro_rules | `(tactic| k_room) => `(tactic| ((try simp only [depth_under_make, depth_under_kw, depth_in1, depth_deeper, depth_caller, ktrTop, recursionLimit] at *); omega))
local macro_rules | `(tactic| k_units) => `(tactic| ((have hcL9 := cLine_is); (try simp only [units_in1, units_deeper, Around.mark_units, units_caller, ktrTop] at *); omega))
local macro_rules | `(tactic| ktr_enter) => `(tactic| (refine' code_def ?k1 ?k2 ?k3 ?k4 ?k5 ?kA ?kF ?kK ?k6 ?k7 ?k8 ?k9 ?kB ?_ ?c2 ?c3 ?c4 ?c5; (case kA => exact rfl); (case kF => exact rfl); (case kK => first | exact rfl | assumption); (case k1 => k_asm); (case k2 => k_asm); (case k3 => k_asm); (case k4 => k_asm); (case k5 => k_asm); (case k6 => k_is); (case k7 => k_is); (case k8 => k_room); (case k9 => first | exact BindsTo.of_eq rfl | exact binds_K (by k_in) rfl (by k_is) rfl rfl rfl); (case c5 => decide); (case kB => exact locs rfl); (case c2 => exact rfl); (case c3 => exact rfl); (case c4 => exact rfl); k_whole; intro g' L' h' FG' F' N' B' X' T'; (try dsimp only); (try k_fold)))
local macro_rules | `(tactic| k_all) => `(tactic| (with_reducible assumption))
local macro_rules | `(tactic| tb_lt) => `(tactic| first | exact Pick.head | (refine' Pick.tail ?c; (case c => tb_lt)))
local macro_rules | `(tactic| tb_start) => `(tactic| first | exact Picks.nil | (refine' Picks.cons ?a ?b; (case a => tb_lt); (case b => tb_start)))
local macro_rules | `(tactic| tb_rel) => `(tactic| first | exact List.forall_mem_nil _ | (refine' List.forall_mem_cons.mpr ⟨?a, ?b⟩; (case a => k_all); (case b => tb_rel)))
local macro_rules | `(tactic| walk_at "TPost") => `(tactic| (dsimp only [TPost]))
local macro_rules | `(tactic| size_fits) => `(tactic| ((simp only [PySem.sizeLine_eq, List.size_toArray]); omega))
local macro_rules | `(tactic| k_gentoks) => `(tactic| (with_reducible refine' gen_toksP ?hp ?_; (case hp => first | omega | ((try simp only [List.length_cons]); omega)); intro tk htk))
local macro_rules | `(tactic| kstt_sub) => `(tactic| first | exact fun _ h => h | assumption | (refine' subCons ?a ?b; (case a => k_mem); (case b => kstt_sub)) | (refine' subTail ?a; (case a => kstt_sub)))
local macro_rules | `(tactic| kst_all) => `(tactic| first | exact List.forall_mem_nil _ | (refine' List.forall_mem_cons.mpr ⟨?a, ?b⟩; (case a => exact rfl); (case b => kst_all)))
local macro_rules | `(tactic| walk_at "MidEnd") => `(tactic| first
  | ((with_reducible show MidEnd _ _ _ _ _ _ _ Flow.next _); (refine' ⟨(tk8 _ _ _ _ _ _ _ _, _), _, _, _, rfl, ?F, ?N, ?ps, ?P⟩); (case F => assumption); (case N => (refine' nsub ?N1 ?N2; (case N1 => assumption); (case N2 => kstt_sub))); (case ps => kst_all); (case P => k_extra "mid"))
  | ((fail_if_success (with_reducible show MidEnd _ _ _ _ _ _ _ Flow.next _)); dsimp only [MidEnd]))
local macro_rules | `(tactic| walk_at "WEnd") => `(tactic| ((fail_if_success (with_reducible show WEnd _ _ _ _ _ _ _ _ _ Flow.next _)); dsimp only [WEnd]))
local macro_rules | `(tactic| walk_at "callWith") => `(tactic| (k_here; (with_reducible refine' callWith_method1 ?_ ?he ?hp); (case he => k_dflt rfl); (case hp => k_dflt rfl)))
local macro_rules | `(tactic| k_steps) => `(tactic| repeat' (first | (k_unfold; (try dsimp only)) | (k_end; wrow_close) | walk1 | (dsimp only [List.cons_append, List.nil_append]; walk1) | (dsimp only) | fail "no step"))
section
local macro_rules | `(tactic| walk_at "eval ListComp") => `(tactic| (k_here; k_dflt (refine' comp_signs smS ?F0 ?N0 ?hh ?hfree ?hcell ?hkind ?hnames ?hx ?hs ?_; (case F0 => assumption); (case N0 => assumption); (case hh => exact rfl); (case hfree => decide); (case hcell => decide); (case hkind => exact rfl); (case hnames => decide); (case hx => exact rfl); (case hs => (intro _; exact rfl)))))
local macro_rules | `(tactic| walk_at "SignSrc") => `(tactic| k_dflt (refine' SignSrc.intro ⟨?sz, ?F, ?N, ?el, ?fin⟩; (case sz => size_fits); (case F => assumption); (case N => assumption); (case' el => (intro C c u s₂ m₂ E' hns hm F2 N2)); (case' fin => (intro D ys h' tk F' N' hl hs))))
local macro_rules | `(tactic| walk_at "eval Name") => `(tactic| (k_here; k_inBlock; k_dflt (refine' nameG_B ?k0 ?k1 ?k2 ?k3 ?k4 ?k5 ?_ ?h1 ?h2 ?h3 ?h4 ?h5; (case h1 => rfl); (case h2 => rfl); (case h3 => rfl); (case h4 => rfl); (case h5 => decide); (case k0 => assumption); (case k1 => k_asm); (case k2 => k_asm); (case k3 => k_is); (case k4 => boot_by_name); (case k5 => decide))))
local macro_rules | `(tactic| walk_at "call builtin:chr") => `(tactic| (k_here; k_dflt (refine' chr_of_range ?h0 ?h1 ?_; (case h0 => omega); (case h1 => k_extra "chr"))))
local macro_rules | `(tactic| walk_at "call builtin:str.join") => `(tactic| (k_here; k_dflt (refine' join_i ?hl ?hs ?hb ?_; (case hl => assumption); (case hs => assumption); (case hb => k_extra "jn")); intro tj kj xj ej))
theorem small_t {w : World} {x : PySem.Str} {tk : Nat} (hx : x.length ≤ 2000) : TellR w 3 30 (.ref 772) [.str x tk] []
    (fun r f' rest => ∃ (y : PySem.Str) (u : Nat), r = .str y u ∧ y.cps.toList = x.cps.toList.map lw ∧ f' = []) := by
  unfold TellR Tell KF PG
  k_fill
  intro rest off' mean mg mb dp un gd cn cs a ccd cl outer A₀ base h₀ L m s Q E B F X N T hk hd hu hret
  dsimp only [List.cons_append, List.nil_append] at N
  k_dflt ktr_enter
  k_with_none
  k_with "chr" => ((rename ¬ ((_ : List Nat) < _) => hz9); have hz8 := mt (gt_one cZ).mpr hz9; omega)
  k_with "jn" => exact low_len hx
  repeat' (first | ((fail_if_success (show (∃ u', _ = Value.str (smS _) u') ∧ _)); first | (k_unfold; (try dsimp only)) | (k_end; wrow_close) | walk1 | (dsimp only [List.cons_append, List.nil_append]; walk1) | (dsimp only) | fail "no step"))
  all_goals first
    | ((rename _ = flat _ => ej9); refine' hret _ _ _ _ (by assumption) ?S9 ⟨_, ⟨_, _, rfl, ?X9, rfl⟩, rfl⟩; (case S9 => assumption); (case X9 => exact ej9.trans (flat_ones lw _)))
    | (show (∃ u', _ = Value.str (smS _) u') ∧ _
       first
         | exact ⟨⟨_, low_mid (by assumption) (by assumption)⟩, _, _, rfl, fun _ _ e => e⟩
         | exact ⟨⟨_, low_hi (by assumption)⟩, _, _, rfl, fun _ _ e => e⟩
         | exact ⟨⟨_, low_lo (by assumption)⟩, _, _, rfl, fun _ _ e => e⟩)
end
end Mine
namespace Mine
/-! a loop over a list, any target -/
section
variable {prog : Program} {w : World} {A : Around} {E : Value → Shared → Prop} {s : Shared} {env : Env} {h₀ : Heap} {L : Addr} {target : PySem.Expr} {body : List Stmt} {Q : Flow → Shared → Prop}
theorem turns_gen {σ : Type} {I : Addr} {fp wr : List Addr} {n : Nat} {Pv : Nat → Value → Prop} {Md : Nat → Value → Heap → Prop} {St : Nat → Heap → Prop} {m₀ : PySem.Str → Option Value} (front : σ → List (Addr × Obj)) (rest : List (Addr × Obj)) (J : Nat → σ → (PySem.Str → Option Value) → Prop) (c₀ : σ)
    (W : KTurns prog w A target I fp wr n (fun i v _ => Pv i v) Md St) (hLf : env.locals ∉ fp) (hwr : ∀ b ∈ wr, h₀.get? b = none) (hal : ∀ i h, St i h → ∀ b ∈ fp, ∃ o, h.get? b = some o) (hst : St 0 s.heap)
    (F : Fr h₀ env.locals s.heap m₀) (N : News h₀ env.locals s.heap (front c₀ ++ rest)) (hff : ∀ q ∈ front c₀, q.1 ∉ fp) (hfr : ∀ q ∈ rest, q.1 ∉ wr) (off : ∀ q ∈ front c₀, ∀ p ∈ rest, p.1 ≠ q.1) (hj : J 0 c₀ m₀)
    (turn : ∀ i v c m₁ h tk rest', i < n → Pv i v → J i c m₁ → (∀ q ∈ front c, ∀ p ∈ rest', p.1 ≠ q.1) → (∀ p ∈ rest, p ∈ rest') → Fr h₀ env.locals h m₁ → News h₀ env.locals h (front c ++ rest') →
      wpAny (model prog w) A (assign target env v) (fun _ s₃ => wpAny (model prog w) A (execs body env) (TPost h₀ env.locals front (J (i + 1)) rest' { s with heap := h, toks := tk } Q) E s₃) E { s with heap := h, toks := tk })
    (done : ∀ c m₁ h tk, J n c m₁ → (∀ q ∈ front c, ∀ p ∈ rest, p.1 ≠ q.1) → Fr h₀ env.locals h m₁ → News h₀ env.locals h (front c ++ rest) → Q .next { s with heap := h, toks := tk }) :
    TurnsAt prog w A h₀ env target body Q E (.ref I) s := by
  let J' : Nat → (PySem.Str → Option Value) → List (Addr × Obj) → Prop := fun i m nx => ∃ c, nx = front c ++ rest ∧ (∀ q ∈ front c, q.1 ∉ fp) ∧ (∀ q ∈ front c, ∀ p ∈ rest, p.1 ≠ q.1) ∧ J i c m
  have hwf : ∀ c, (∀ q ∈ front c, q.1 ∉ fp) → ∀ p ∈ front c ++ rest, p.1 ∉ wr := fun c hc p hp =>
    (List.mem_append.mp hp).elim (fun h q => hc p h (W.sub _ q)) (fun h => hfr p h)
  refine ⟨I, fp, wr, n, fun i v _ => Pv i v, Md, St, m₀, front c₀ ++ rest, J', rfl, W, hLf, hwr, hwf c₀ hff, hst, F, N, ⟨c₀, rfl, hff, off, hj⟩, ?_, ?_⟩
  · rintro i v m₁ _ hh' tk' own hin hP ⟨c, rfl, hcf, hco, hJ⟩ _ hown hgo hal' hst' F₁ N₁
    have N₂ : News h₀ env.locals hh' (front c ++ (rest ++ own)) := nsub N₁ fun p hp => by
      simp only [List.mem_append] at hp ⊢
      rcases hp with h | h | h
      · exact .inr (.inl h)
      · exact .inr (.inr h)
      · exact .inl h
    refine wpAny_mono (turn i v c m₁ hh' tk' (rest ++ own) hin hP hJ (fun q hq p hp => ?_) (fun p hp => List.mem_append_left _ hp) F₁ N₂) (fun _ s₃ p₃ => wpAny_mono p₃ (fun f s₂ p => ?_) fun _ _ e => e) fun _ _ e => e
    · rcases List.mem_append.mp hp with hp | hp
      · exact hco q hq p hp
      · intro e; exact hcf q hq (e ▸ hown p hp)
    have fin : TEnd h₀ env.locals front (J (i + 1)) (rest ++ own) { s with heap := hh', toks := tk' } s₂ → LoopStepU h₀ env.locals wr own (J' (i + 1)) { s with heap := hh', toks := tk' } .next s₂ := by
      rintro ⟨c', h', tk, m', e, F', N', o', hm⟩
      have hc' : ∀ q ∈ front c', q.1 ∉ fp := fun q hq hf => by
        have hn : h₀.get? q.1 = none := (N' q (List.mem_append_left _ hq)).2.2
        obtain ⟨o, ho⟩ := hal _ _ hst' q.1 hf
        exact o' q hq (q.1, o) (List.mem_append_right _ (hal' q.1 hf hn o ho)) rfl
      refine ⟨rfl, h', tk, m', front c' ++ rest, e, F', nsub N' fun p hp => ?_, hwf c' hc', c', rfl, hc', fun q hq p hp => o' q hq p (List.mem_append_left _ hp), hm⟩
      simp only [List.mem_append] at hp ⊢
      rcases hp with h | h | h
      · exact .inr (.inr h)
      · exact .inl h
      · exact .inr (.inl h)
    cases f with
    | ret v => exact p
    | brk => exact p
    | next => exact LoopStepV.next (fin p)
    | cont => exact LoopStepV.cont (fin p)
  · rintro h' tk m' news' F' N' _ ⟨c, rfl, _, hco, hJ⟩
    exact done c m' h' tk hJ hco F' N'
def KT {σ : Type} (ps : σ → List (PySem.Str × Value)) (stored : List PySem.Str) (m₀ : PySem.Str → Option Value) (P : σ → Prop) (c : σ) (m : PySem.Str → Option Value) : Prop :=
  (∀ p ∈ ps c, m p.1 = some p.2) ∧ (∀ z, (∀ p ∈ ps c, z ≠ p.1) → stored.contains z = false → m z = m₀ z) ∧ P c
theorem kstB_out {m : PySem.Str → Option Value} {z : PySem.Str} : ∀ {ps : List (PySem.Str × Value)}, (∀ p ∈ ps, z ≠ p.1) → kstB m ps z = m z
  | [], _ => rfl
  | p :: r, h => by
    show (if z = p.1 then some p.2 else kstB m r z) = m z
    rw [if_neg (h p (.head _)), kstB_out fun q hq => h q (.tail _ hq)]
theorem kstB_in {m m' : PySem.Str → Option Value} {z : PySem.Str} : ∀ {ps : List (PySem.Str × Value)}, (∀ p ∈ ps, m p.1 = some p.2) → (∃ p ∈ ps, z = p.1) → kstB m' ps z = m z
  | [], _, h => by obtain ⟨p, hp, _⟩ := h; cases hp
  | p :: r, h, hz => by
    show (if z = p.1 then some p.2 else kstB m' r z) = m z
    by_cases e : z = p.1
    · rw [if_pos e, e]; exact (h p (.head _)).symm
    · rw [if_neg e]
      obtain ⟨q, hq, hz⟩ := hz
      rcases List.mem_cons.mp hq with rfl | hq
      · exact absurd hz e
      · exact kstB_in (fun q hq => h q (.tail _ hq)) ⟨q, hq, hz⟩
theorem kt_fr {σ : Type} {ps : σ → List (PySem.Str × Value)} {stored : List PySem.Str} {m₀ m : PySem.Str → Option Value} {P : σ → Prop} {c : σ} {h : Heap} (hk : KT ps stored m₀ P c m) (F : Fr h₀ L h m) :
    Fr h₀ L h (kstB (fun z => if stored.contains z then m z else m₀ z) (ps c)) := by
  obtain ⟨h1, h2, _⟩ := hk
  have e : kstB (fun z => if stored.contains z then m z else m₀ z) (ps c) = m := by
    funext z
    by_cases hz : ∃ p ∈ ps c, z = p.1
    · exact kstB_in h1 hz
    · have hz' : ∀ p ∈ ps c, z ≠ p.1 := fun p hp e => hz ⟨p, hp, e⟩
      rw [kstB_out hz']
      cases hs : stored.contains z with
      | true => rfl
      | false => exact (h2 z hz' hs).symm
  rw [e]; exact F
theorem turns_list {σ : Type} {l : Addr} {vs : List Value} {m₀ : PySem.Str → Option Value} (front : σ → List (Addr × Obj)) (rest : List (Addr × Obj)) (ps : σ → List (PySem.Str × Value)) (stored : List PySem.Str) (P : List Value → σ → Prop) (c₀ : σ)
    (hh : A.handled = none) (hl : s.heap.IsList l vs.toArray) (hlr : (∃ o, (l, o) ∈ rest) ∨ ∃ o, h₀.get? l = some o) (F : Fr h₀ env.locals s.heap m₀) (N : News h₀ env.locals s.heap (front c₀ ++ rest)) (off : ∀ q ∈ front c₀, ∀ p ∈ rest, p.1 ≠ q.1) (hk : ∀ p ∈ ps c₀, m₀ p.1 = some p.2) (hp : P [] c₀)
    (turn : ∀ (c : σ) (pre post : List Value) (v : Value) (u : PySem.Str → Option Value) (h : Heap) (tk : Nat) (rest' : List (Addr × Obj)), vs = pre ++ v :: post → P pre c → (∀ q ∈ front c, ∀ p ∈ rest', p.1 ≠ q.1) → (∀ p ∈ rest, p ∈ rest') →
      Fr h₀ env.locals h (kstB (fun z => if stored.contains z then u z else m₀ z) (ps c)) → News h₀ env.locals h (front c ++ rest') →
      wpAny (model prog w) A (assign target env v) (fun _ s₃ => wpAny (model prog w) A (execs body env) (TPost h₀ env.locals front (KT ps stored m₀ (P (pre ++ [v]))) rest' { s with heap := h, toks := tk } Q) E s₃) E { s with heap := h, toks := tk })
    (done : ∀ (c : σ) (u : PySem.Str → Option Value) (h : Heap) (tk : Nat), P vs c → (∀ q ∈ front c, ∀ p ∈ rest, p.1 ≠ q.1) → Fr h₀ env.locals h (kstB (fun z => if stored.contains z then u z else m₀ z) (ps c)) → News h₀ env.locals h (front c ++ rest) →
      Q .next { s with heap := h, toks := tk }) :
    wpAny (model prog w) A (pyIter (.ref l)) (fun it s₂ => TurnsAt prog w A h₀ env target body Q E it s₂) E s := by
  obtain ⟨ol, hol, _⟩ := id hl
  have hlt : l < s.heap.objs.size := Heap.lt_size hol
  have hne : l ≠ s.heap.objs.size := Nat.ne_of_lt hlt
  have hI : ∀ q ∈ front c₀ ++ rest, q.1 ≠ s.heap.objs.size := fun q hq e => absurd (Heap.lt_size (N q hq).1) (e ▸ Nat.lt_irrefl _)
  have hlL : l ≠ env.locals := by
    rcases hlr with ⟨o, ho⟩ | ⟨o, ho⟩
    · exact (N (l, o) (List.mem_append_right _ ho)).2.1
    · exact Nat.ne_of_lt (Nat.lt_of_lt_of_le (Heap.lt_size ho) F.above)
  refine wpAny_pyIter_list hl ?_
  have W := Walks.list (prog := prog) (w := w) hh s.heap.objs.size l hne vs.toArray
  have hlen : vs.toArray.size = vs.length := by simp
  rw [hlen] at W
  refine turns_gen front rest (fun i => KT ps stored m₀ (P (vs.take i))) c₀ (KTurns.ofWalks W fun i v s Q E st q => letGo_listiter st.1 q) ?_ ?_ ?_ ⟨⟨_, Heap.get?_push_size _ rfl, rfl, rfl⟩, hl.at fun o e => Heap.get?_push_of_some _ e⟩ (F.push _) (fun p hp => ⟨Heap.get?_push_of_some _ (N p hp).1, (N p hp).2⟩) ?_ ?_ off ⟨hk, fun _ _ _ => rfl, by simpa using hp⟩ ?_ ?_
  · intro hm
    rcases List.mem_cons.mp hm with e | hm
    · exact absurd F.ns.lt (e ▸ Nat.lt_irrefl _)
    · exact hlL (List.mem_singleton.mp hm).symm
  · intro b' hb
    rw [List.mem_singleton.mp hb]
    exact next_is_new F
  · rintro i h ⟨⟨o, ho, _⟩, ⟨o', ho', _⟩⟩ b hb
    rcases List.mem_cons.mp hb with rfl | hb
    · exact ⟨o, ho⟩
    · rw [List.mem_singleton.mp hb]; exact ⟨o', ho'⟩
  · intro q hq hf
    rcases List.mem_cons.mp hf with e | hf
    · exact hI q (List.mem_append_left _ hq) e
    · have e := List.mem_singleton.mp hf
      rcases hlr with ⟨o, ho⟩ | ⟨o, ho⟩
      · exact off q hq _ ho e.symm
      · have := (N q (List.mem_append_left _ hq)).2.2
        rw [e, ho] at this
        cases this
  · intro q hq hf
    exact hI q (List.mem_append_right _ hq) (List.mem_singleton.mp hf)
  · rintro i v c m₁ h tk rest' hi hv hKT off' sub' F₁ N₁
    have hn' : vs[i]? = some v := by simpa using hv
    obtain ⟨e1, e2⟩ := take_at hn'
    rw [e2]
    exact turn c _ _ v m₁ h tk rest' e1 hKT.2.2 off' sub' (kt_fr hKT F₁) N₁
  · rintro c m₁ h tk hKT off' F₁ N₁
    have hp' := hKT.2.2
    rw [List.take_length] at hp'
    exact done c m₁ h tk hp' off' (kt_fr hKT F₁) N₁
end
end Mine
namespace Mine
/-! all but the last -/
theorem init_pick {us : List Value} {v : Value} : PySem.slicePick (us ++ [v]).toArray none (some (-1)) none = us.toArray := by
  have e : (-1 : Int) = -((1 : Nat) : Int) := rfl
  rw [e, PySem.slicePick_butLast _ 1 (by decide)]
  simp
theorem init_slice {prog : Program} {w : World} {A : Around} {E : Value → Shared → Prop} {s : Shared} {h₀ : Heap} {L : Addr} {m : PySem.Str → Option Value} {news : List (Addr × Obj)} {value slice : PySem.Expr} {l : Addr} {us : List Value} {v : Value} {n t : Nat} {ops : List Value} {Q : Value → Shared → Prop}
    (F : Fr h₀ L s.heap m) (N : News h₀ L s.heap news) (hm : (l, W.listOf (us ++ [v]).toArray n) ∈ news) (hz : us.length ≤ 1000)
    (h : ∀ (D : Nat) h', Fr h₀ L h' m → News h₀ L h' ((D, W.listOf us.toArray 0) :: news) → (∀ p ∈ news, p.1 < D) → Q (.ref D) { s with heap := h' })
    (hs : subscripted slice false (.ref l) (.ref s.heap.objs.size) = operate ops (getItem (.ref l) (.ref s.heap.objs.size)) := by with_unfolding_all rfl)
    (ht : ∀ r, letTemporaryGo value (.ref l) r = pure () := by intro _; with_unfolding_all rfl) :
    wpAny (model prog w) A (subscriptTail value slice (.ref l) (.ref s.heap.objs.size)) Q E { s with heap := s.heap.push { cls := .type "slice", data := .fields #[.none, .int (-1) t, .none] } } := by
  have hl : s.heap.IsList l (us ++ [v]).toArray := ⟨_, (N _ hm).1, rfl, _, rfl⟩
  refine slice_list3 F N hl .none (.int _ _) .none (by simp) (fun h' F' N' => ?_) hs ht (by simp [PySem.sizeLine_eq]; omega)
  rw [init_pick] at N'
  exact h _ h' F' N' fun p hp => Nat.lt_succ_of_lt (Heap.lt_size (N p hp).1)
theorem init_sliceG {prog : Program} {w : World} {A : Around} {E : Value → Shared → Prop} {h1 : Heap} {gg : Array GenState} {dd : Drawn} {tk : Nat} {oo : OsState} {h₀ : Heap} {L : Addr} {m : PySem.Str → Option Value} {news : List (Addr × Obj)} {value slice : PySem.Expr} {l : Addr} {us : List Value} {v : Value} {n t : Nat} {ops : List Value} {Q : Value → Shared → Prop}
    (F : Fr h₀ L h1 m) (N : News h₀ L h1 news) (hm : (l, W.listOf (us ++ [v]).toArray n) ∈ news) (hz : us.length ≤ 1000)
    (h : ∀ (D : Nat) h', Fr h₀ L h' m → News h₀ L h' ((D, W.listOf us.toArray 0) :: news) → (∀ p ∈ news, p.1 < D) → Q (.ref D) ⟨h', gg, dd, tk, oo⟩)
    (hs : subscripted slice false (.ref l) (.ref h1.objs.size) = operate ops (getItem (.ref l) (.ref h1.objs.size)))
    (ht : ∀ r, letTemporaryGo value (.ref l) r = pure ()) :
    wpAny (model prog w) A (subscriptTail value slice (.ref l) (.ref h1.objs.size)) Q E ⟨h1.push { cls := .type "slice", data := .fields #[.none, .int (-1) t, .none] }, gg, dd, tk, oo⟩ :=
  init_slice (s := ⟨h1, gg, dd, tk, oo⟩) F N hm hz h hs ht
end Mine
namespace Mine
/-! dict(list of pairs), dict.update(list of pairs) -/
section
open PySem.AutoSeq1 (wpAny_loadPart')
theorem plain_upd_loop : plainId "dict.update.loop" = true := by decide +kernel
theorem entry_upd_loop : entryFor table "dict.update.loop" = some Builtin.«dict.update.loop» := entryFor_of_fast (by kernel_rfl)
/-- the refs vs are lists of a text and a value -/
def PairsIn (h : Heap) (vs : List Value) (ps : List (PySem.Str × Value)) : Prop :=
  vs.length = ps.length ∧ ∀ (i : Nat) (v : Value) (q : PySem.Str × Value), vs[i]? = some v → ps[i]? = some q → ∃ a t, v = .ref a ∧ h.IsList a #[.str q.1 t, q.2]
theorem PairsIn.keep {h h' : Heap} {vs : List Value} {ps : List (PySem.Str × Value)} {bad : Addr → Prop} (hp : PairsIn h vs ps) (hb : ∀ a, .ref a ∈ vs → ¬ bad a) (hk : ∀ b o, ¬ bad b → h.get? b = some o → h'.get? b = some o) : PairsIn h' vs ps :=
  ⟨hp.1, fun i v q hv hq => by
    obtain ⟨a, t, rfl, ho⟩ := hp.2 i v q hv hq
    exact ⟨a, t, rfl, ho.at fun o e => hk a o (hb a (List.mem_of_getElem? hv)) e⟩⟩
theorem upd_loop {prog : Program} {w : World} {A : Around} {R : Result → Shared → Prop} {d it l : Addr} {vs : List Value} {ps : List (PySem.Str × Value)} {res : Value}
    (hh : A.handled = none) (hdl : d ≠ l) (hdi : d ≠ it) (hil : it ≠ l) (hap : ∀ a, .ref a ∈ vs → ¬ (a = d ∨ a = it)) (hz : ps.length ≤ 1000) :
    ∀ (k i : Nat) (s : Shared) (kvs : List (PySem.Str × Value)), vs.length - i = k → kvs.length ≤ 1000 + i → s.heap.DictOf (PySem.strKind prog w) d kvs → s.heap.IsListIter it l i → s.heap.IsList l vs.toArray → PairsIn s.heap vs ps →
      (∀ h' tk, h'.DictOf (PySem.strKind prog w) d (merged kvs (ps.drop i)) → (∀ b o, b ≠ d → b ≠ it → s.heap.get? b = some o → h'.get? b = some o) → R (.ok (.ret res)) { s with heap := h', toks := tk }) →
      wpAny (model prog w) A.in1 (Builtin.«dict.update.loop» ⟨[.ref d, .ref it, rawInt i, res], []⟩)
        (fun fin s' => match fin with | .done f => R (.ok f) s' | .again c' => c'.quiet = true ∧ codeAny (model prog w) A c' R s') (fun e s' => R (.error e) s') s := by
  intro k
  induction k with
  | zero =>
    intro i s kvs hk hkv hd hit hl hp h
    have hi : vs.toArray[i]? = none := by simp; omega
    have hpd : ps.drop i = [] := by
      have := hp.1
      exact List.drop_of_length_le (by omega)
    rw [hpd] at h
    unfold Builtin.«dict.update.loop»
    show wpAny _ _ (pyNext (.ref it) >>= _) _ _ s
    refine wpAny_bind (wpAny_pyNext_list_end hh hit hl hi fun h' hx => ?_)
    show wpAny _ _ (Builtin.Dict.addKeywords d [] >>= _) _ _ _
    refine wpAny_bind (wpAny_pure (wpAny_pure ?_))
    exact h h' s.toks (hd.at fun o e => hx d o hdi e) fun b o _ hb e => hx b o hb e
  | succ k ih =>
    intro i s kvs hk hkv hd hit hl hp h
    have hlt : i < vs.length := by omega
    have hlp : i < ps.length := by rw [← hp.1]; exact hlt
    obtain ⟨a, t, ev, ha⟩ := hp.2 i vs[i] ps[i] (by simp [hlt]) (by simp [hlp])
    have hi : vs.toArray[i]? = some (.ref a) := by simp [hlt, ev]
    have hda : a ≠ d ∧ a ≠ it := by
      have := hap a (by rw [← ev]; exact List.getElem_mem hlt)
      exact ⟨fun e => this (.inl e), fun e => this (.inr e)⟩
    have hpd : ps.drop i = ps[i] :: ps.drop (i + 1) := List.drop_eq_getElem_cons hlp
    rw [hpd] at h
    unfold Builtin.«dict.update.loop»
    show wpAny _ _ (pyNext (.ref it) >>= _) _ _ s
    refine wpAny_bind (wpAny_pyNext_list_item hit hl hi fun h1 hit1 hs1 => ?_)
    have ha1 : h1.IsList a #[.str ps[i].1 t, ps[i].2] := ha.at fun o e => hs1.extBut a o hda.2 e
    have hd1 : h1.DictOf (PySem.strKind prog w) d kvs := hd.extBut hs1.extBut hdi
    have hl1 : h1.IsList l vs.toArray := hl.at fun o e => hs1.extBut l o (Ne.symm hil) e
    have hp1 : PairsIn h1 vs ps := hp.keep (bad := fun b => b = it) (fun b hb e => hap b hb (.inr e)) fun b o hb e => hs1.extBut b o hb e
    show wpAny _ _ (holding [Value.ref a] _ >>= _) _ _ _
    refine wpAny_bind (wpAny_holding (wpAny_bind (wpAny_tryCatch ?_)))
    unfold Builtin.Dict.pairItems
    obtain ⟨oa, hoa, hca, na, hda'⟩ := id ha1
    refine wpAny_bind (wpAny_typeOf (T := "list") ⟨oa, hoa, hca⟩ ?_)
    rw [if_pos (by decide)]
    refine wpAny_bind (wpAny_seqItems hoa hda' ?_)
    refine wpAny_pure ?_
    show wpAny _ _ (holding [Value.str _ t, _] (dictSet d (Value.str ps[i].1 t) ps[i].2)) _ _ _
    refine wpAny_holding (wpAny_dictSet_pairs (PySem.strKind_is _ _ _ _) hd1 (fun h2 hd2 hs2 => ?_) (by rw [sizeLine_eq]; omega))
    have hc : ((i : Int) + 1) = ((i + 1 : Nat) : Int) := by push_cast; rfl
    show wpAny _ _ (again _) _ _ _
    refine wpAny_pure ?_
    rw [hc]
    refine ⟨plainId_quiet plain_upd_loop _, codeAny_builtin entry_upd_loop (by
      rw [Around.under_plainId plain_upd_loop _]
      refine ih (i + 1) _ (stored kvs ps[i].1 ps[i].2) (by omega) (by have := stored_length_le kvs ps[i].1 ps[i].2; omega) hd2 (hit1.extBut hs2.extBut (Ne.symm hdi)) (hl1.at fun o e => hs2.extBut l o (Ne.symm hdl) e) (hp1.keep (bad := fun b => b = d) (fun b hb e => hap b hb (.inl e)) fun b o hb e => hs2.extBut b o hb e) (fun h' tk hm hk' => ?_)
      refine h h' tk ?_ fun b o hb1 hb2 e => hk' b o hb1 hb2 (hs2.extBut b o hb1 (hs1.extBut b o hb2 e))
      have e : ps.drop i = ps[i] :: ps.drop (i + 1) := List.drop_eq_getElem_cons hlp
      have hm' : h'.DictOf (PySem.strKind prog w) d (merged kvs (ps[i] :: ps.drop (i + 1))) := hm
      first | exact hm' | (rw [e]; exact hm'))⟩
theorem list_keys_none : typeLookup (.type "list") "keys" = pure none := by rw [typeLookup_type, builtinLookup_eq_fast]; kernel_rfl
theorem no_keys {prog : Program} {w : World} {A : Around} {E : Value → Shared → Prop} {s : Shared} {a : Addr} {xs : Array Value} {k : Nat} {Q : Option Value → Shared → Prop} (hA : A.handled = none)
    (hx : s.heap.get? a = some (W.listOf xs k)) (h : ∀ h' tk, (∀ b o, s.heap.get? b = some o → h'.get? b = some o) → Q none { s with heap := h', toks := tk }) :
    wpAny (model prog w) A (getAttr? (.ref a) "keys") Q E s := by
  obtain ⟨hp, g, d, tk, os⟩ := s
  have hx' : hp.get? a = some { cls := .type "list", dict := none, data := .seq xs k, slots := #[] } := hx
  have hT : ∀ tk', (⟨hp, g, d, tk', os⟩ : Shared).TypeIs (.ref a) "list" := fun _ => ⟨_, hx', rfl⟩
  have f1 := sub_AttributeError
  have f3 := F.slot_list_getattribute.lookup
  have f4 := F.slot_list_getattribute.bind (.ref a)
  have f5 := am_list_getattr_none
  unfold getAttr? getAttrBy? getAttrBy
  repeat (any_goals (first | assumption | exact hT _ | ((with_reducible show wpAny _ _ (call (Value.builtin "list.__getattribute__") _ _) _ _ _); refine call_meets F.slot_list_getattribute (hT _) am_entry_list_getattribute (F.args_list_getattribute_2 _ _) (meets_getattribute_miss_list a xs k #[] "keys" _ list_keys_none (by decide +kernel)) ⟨hx', hA, fun h' tk' e hx' => ?_⟩) | wp_step))
  obtain ⟨t', u', he⟩ := hx'.there
  show wpAny _ _ (getattributeRaised _ _ _ _ _ _ _) _ _ _
  unfold getattributeRaised
  repeat (any_goals (first | assumption | wp_step))
  exact h _ _ fun b o e => hx'.keeps b o e
/-- what is done with a list of pairs -/
theorem from_pairs {prog : Program} {w : World} {A : Around} {R : Result → Shared → Prop} {s : Shared} {id : String} {d l : Addr} {xs : List Value} {k : Nat} {ps kvs : List (PySem.Str × Value)} {res : Value}
    (hh : A.handled = none) (hl : s.heap.get? l = some (W.listOf xs.toArray k)) (hd : s.heap.DictOf (PySem.strKind prog w) d kvs) (hp : PairsIn s.heap xs ps) (hap : ∀ a, .ref a ∈ xs → a ≠ d) (hz : ps.length ≤ 1000) (hkv : kvs.length ≤ 1000)
    (h : ∀ h' tk, h'.DictOf (PySem.strKind prog w) d (merged kvs ps) → (∀ b o, b ≠ d → s.heap.get? b = some o → h'.get? b = some o) → R (.ok (.ret res)) { s with heap := h', toks := tk }) :
    wpAny (model prog w) A.in1 (Builtin.Dict.updateFrom id d (.ref l) [] res)
        (fun fin s' => match fin with | .done f => R (.ok f) s' | .again c' => c'.quiet = true ∧ codeAny (model prog w) A c' R s') (fun e s' => R (.error e) s') s := by
  have hT : s.TypeIs (.ref l) "list" := ⟨_, hl, rfl⟩
  unfold Builtin.Dict.updateFrom
  refine wpAny_bind (wpAny_typeOf hT ?_)
  rw [if_pos (by decide)]
  refine wpAny_bind (no_keys hh hl fun h1 tk1 k1 => ?_)
  simp only [Option.isNone_none, if_true]
  refine wpAny_bind (wpAny_rule ?_)
  have hl1 : h1.IsList l xs.toArray := ⟨_, k1 _ _ hl, rfl, _, rfl⟩
  refine wpAny_bind (wpAny_pyIter_list (s := { s with heap := h1, toks := tk1 }) hl1 ?_)
  show wpAny _ _ (again _) _ _ _
  refine wpAny_pure ?_
  have hup : ∀ b o, s.heap.get? b = some o → (h1.push { cls := .type "list_iterator", data := .fields #[.ref l, .int 0 0] }).get? b = some o := fun b o e => Heap.get?_push_of_some _ (k1 b o e)
  have hdlt : d < h1.objs.size := by
    obtain ⟨o, _, _, ho, _⟩ := hd
    exact Heap.lt_size (k1 _ _ ho)
  have hllt : l < h1.objs.size := Heap.lt_size (k1 _ _ hl)
  have hdl : d ≠ l := by
    rintro rfl
    obtain ⟨o, _, _, ho, hc, _⟩ := hd
    rw [hl] at ho
    cases ho
    exact absurd (show Value.type "list" = Value.type "dict" from hc.1) (by decide)
  have hpl : ∀ a, Value.ref a ∈ xs → a < h1.objs.size := fun a ha => by
    obtain ⟨i, hi, e⟩ := List.getElem_of_mem ha
    have hq : xs[i]? = some (.ref a) := by rw [List.getElem?_eq_getElem hi, e]
    obtain ⟨a', t, e', o, ho, _⟩ := hp.2 i (.ref a) (ps[i]'(by rw [← hp.1]; exact hi)) hq (by rw [List.getElem?_eq_getElem])
    cases e'
    exact Heap.lt_size (k1 _ _ ho)
  refine ⟨plainId_quiet plain_upd_loop _, codeAny_builtin entry_upd_loop (by
    rw [Around.under_plainId plain_upd_loop _]
    refine upd_loop (it := h1.objs.size) (l := l) (vs := xs) (ps := ps) hh hdl (Nat.ne_of_lt hdlt) (Ne.symm (Nat.ne_of_lt hllt)) (fun a ha e => e.elim (fun e => hap a ha e) fun e => absurd (hpl a ha) (by rw [e]; exact Nat.lt_irrefl _)) hz _ 0 _ kvs rfl (by omega)
      (hd.keep hup) ⟨_, Heap.get?_push_size _ rfl, rfl, rfl⟩ (hl1.push _) (hp.keep (bad := fun _ => False) (fun _ _ e => e) fun b o _ e => hup b o e) fun h' tk hm hk => ?_
    refine h h' tk hm fun b o hb e => hk b o hb (fun e' => ?_) (hup b o e)
    have := Heap.lt_size (k1 _ _ e)
    rw [e'] at this
    exact absurd this (Nat.lt_irrefl _))⟩
theorem call_dict_pairs {prog : Program} {w : World} {A : Around} {E : Value → Shared → Prop} {s : Shared} {l : Addr} {xs : List Value} {k : Nat} {ps : List (PySem.Str × Value)} {Q : Value → Shared → Prop}
    (hh : A.handled = none) (hl : s.heap.get? l = some (W.listOf xs.toArray k)) (hp : PairsIn s.heap xs ps) (hz : ps.length ≤ 1000)
    (h : ∀ h' tk, h'.DictOf (PySem.strKind prog w) s.heap.objs.size (merged [] ps) → (∀ b o, s.heap.get? b = some o → h'.get? b = some o) → Q (.ref s.heap.objs.size) { s with heap := h', toks := tk }) :
    wpAny (model prog w) A (call (.type "dict") [.ref l]) Q E s := by
  refine callType_codes (Q₁ := fun obj s₁ => obj = .ref s.heap.objs.size ∧ s₁ = { s with heap := s.heap.push { cls := .type "dict", data := .dict #[] } }) F.kt_called_dict (F.kt_typeCall_dict_1 _) F.entry_dict_init (kt_code_dict_new _ ⟨rfl, rfl⟩) ?_
  rintro obj s₁ ⟨rfl, rfl⟩
  have hnew : (s.heap.push { cls := .type "dict", data := .dict #[] }).DictOf (PySem.strKind prog w) s.heap.objs.size [] := Heap.DictOf.new s.heap
  have hup : ∀ b o, s.heap.get? b = some o → (s.heap.push { cls := .type "dict", data := .dict #[] }).get? b = some o := fun b o e => Heap.get?_push_of_some _ e
  have hlt : ∀ b o, s.heap.get? b = some o → b ≠ s.heap.objs.size := fun b o e => Nat.ne_of_lt (Heap.lt_size e)
  refine ⟨hnew.typeIs, F.args_dict_init_2 _ _, ?_⟩
  unfold Builtin.«dict.__init__»
  refine wpAny_bind ?_
  unfold Builtin.Dict.selfAndRest
  refine wpAny_bind (wpAny_notOrdered_dict hnew.typeIs ?_)
  show wpAny _ _ (pure (s.heap.objs.size, [Value.ref l])) _ _ _
  refine wpAny_pure ?_
  show wpAny _ _ (Builtin.Dict.updateFrom "dict.__init__" s.heap.objs.size (.ref l) [] .none) _ _ _
  refine from_pairs (A := A.in1) (R := wants (fun r s₂ => r = .none ∧ Q (.ref s.heap.objs.size) s₂) E) (ps := ps) (kvs := []) hh (hup _ _ hl) hnew (hp.keep (bad := fun _ => False) (fun _ _ e => e) fun b o _ e => hup b o e) (fun a ha => ?_) hz (Nat.zero_le _) fun h' tk hm hk => ?_
  · obtain ⟨i, hi, e⟩ := List.getElem_of_mem ha
    have hq : xs[i]? = some (.ref a) := by rw [List.getElem?_eq_getElem hi, e]
    obtain ⟨a', t, e', o, ho, _⟩ := hp.2 i (.ref a) (ps[i]'(by rw [← hp.1]; exact hi)) hq (by rw [List.getElem?_eq_getElem])
    cases e'
    exact hlt _ _ ho
  · exact ⟨rfl, h h' tk hm fun b o e => hk b o (hlt b o e) (hup b o e)⟩
theorem call_update_pairs {prog : Program} {w : World} {A : Around} {E : Value → Shared → Prop} {s : Shared} {d l : Addr} {xs : List Value} {k : Nat} {kvs ps : List (PySem.Str × Value)} {Q : Value → Shared → Prop}
    (hh : A.handled = none) (hl : s.heap.get? l = some (W.listOf xs.toArray k)) (hd : s.heap.DictOf (PySem.strKind prog w) d kvs) (hp : PairsIn s.heap xs ps) (hap : ∀ a, .ref a ∈ xs → a ≠ d) (hz : ps.length ≤ 1000) (hkv : kvs.length ≤ 1000)
    (h : ∀ h' tk, h'.DictOf (PySem.strKind prog w) d (merged kvs ps) → (∀ b o, b ≠ d → s.heap.get? b = some o → h'.get? b = some o) → Q .none { s with heap := h', toks := tk }) :
    wpAny (model prog w) A (call (.builtin "dict.update") [.ref d, .ref l]) Q E s := by
  refine wpAny_call (codeAny_call_builtin PySem.F.slot_dict_update.plain PySem.F.entry_dict_update (PySem.F.slot_dict_update.check _ _ _ _ _ _ _ _ hd.typeIs (PySem.F.args_dict_update_2 _ _) ?_))
  unfold Builtin.«dict.update»
  refine wpAny_bind ?_
  unfold Builtin.Dict.selfAndRest
  refine wpAny_bind (wpAny_notOrdered_dict hd.typeIs ?_)
  show wpAny _ _ (pure (d, [Value.ref l])) _ _ s
  refine wpAny_pure ?_
  show wpAny _ _ (Builtin.Dict.updateFrom "dict.update" d (.ref l) [] .none) _ _ s
  exact from_pairs (A := A) (R := wants Q E) hh hl hd hp hap hz hkv h
end
end Mine
namespace Mine
/-! of equal keys the first one -/
section
variable {β : Type}
def kstep (kept : List (PySem.Str × β)) (p : PySem.Str × β) : List (PySem.Str × β) := if p.1 ∈ kept.map Prod.fst then kept else kept ++ [p]
def keepL (ps : List (PySem.Str × β)) : List (PySem.Str × β) := ps.foldl kstep []
theorem keepL_snoc (ps : List (PySem.Str × β)) (p : PySem.Str × β) : keepL (ps ++ [p]) = kstep (keepL ps) p := by unfold keepL; rw [List.foldl_append]; rfl
theorem snoc_ind {α : Type} {P : List α → Prop} (h0 : P []) (h1 : ∀ l a, P l → P (l ++ [a])) (l : List α) : P l := by
  have h : ∀ l : List α, P l.reverse := by
    intro l
    induction l with
    | nil => exact h0
    | cons a l ih => rw [List.reverse_cons]; exact h1 _ _ ih
  have := h l.reverse
  rwa [List.reverse_reverse] at this
theorem keepL_keys (ps : List (PySem.Str × β)) : ∀ p ∈ ps, p.1 ∈ (keepL ps).map Prod.fst := by
  induction ps using snoc_ind with
  | h0 => exact fun _ h => nomatch h
  | h1 ps p ih =>
    intro q hq
    rw [keepL_snoc]
    unfold kstep
    split
    · rename_i h
      rcases List.mem_append.mp hq with hq | hq
      · exact ih q hq
      · rw [List.mem_singleton.mp hq]; exact h
    · rw [List.map_append]
      rcases List.mem_append.mp hq with hq | hq
      · exact List.mem_append_left _ (ih q hq)
      · rw [List.mem_singleton.mp hq]; exact List.mem_append_right _ (.head _)
theorem keepL_len (ps : List (PySem.Str × β)) : (keepL ps).length ≤ ps.length ∧ ((keepL ps).length = ps.length → keepL ps = ps ∧ (ps.map Prod.fst).Nodup) := by
  induction ps using snoc_ind with
  | h0 => exact ⟨Nat.le_refl _, fun _ => ⟨rfl, .nil⟩⟩
  | h1 ps p ih =>
    obtain ⟨i1, i2⟩ := ih
    rw [keepL_snoc]
    unfold kstep
    rw [List.length_append, List.length_singleton]
    split
    · exact ⟨by omega, fun h => by omega⟩
    · rename_i hn
      rw [List.length_append, List.length_singleton]
      refine ⟨by omega, fun h => ?_⟩
      obtain ⟨e1, e2⟩ := i2 (by omega)
      rw [e1] at hn ⊢
      refine ⟨rfl, ?_⟩
      rw [List.map_append, List.nodup_append]
      refine ⟨e2, by simp, ?_⟩
      intro a ha b hb
      simp only [List.map_cons, List.map_nil, List.mem_singleton] at hb
      subst hb
      exact fun e => hn (e ▸ ha)
theorem keepL_nodup (ps : List (PySem.Str × β)) : ((keepL ps).map Prod.fst).Nodup := by
  induction ps using snoc_ind with
  | h0 => exact .nil
  | h1 ps p ih =>
    rw [keepL_snoc]
    unfold kstep
    split
    · exact ih
    · rename_i hn
      rw [List.map_append, List.nodup_append]
      refine ⟨ih, by simp, ?_⟩
      intro a ha b hb
      simp only [List.map_cons, List.map_nil, List.mem_singleton] at hb
      subst hb
      exact fun e => hn (e ▸ ha)
end
theorem any_key {kvs : List (PySem.Str × Value)} {k : PySem.Str} : (kvs.any fun x => decide (x.1 = k)) = true ↔ k ∈ kvs.map Prod.fst := by
  rw [List.any_eq_true, List.mem_map]
  exact ⟨fun ⟨x, h1, h2⟩ => ⟨x, h1, of_decide_eq_true h2⟩, fun ⟨x, h1, h2⟩ => ⟨x, h1, decide_eq_true h2⟩⟩
theorem stored_in {kvs : List (PySem.Str × Value)} {k : PySem.Str} {v : Value} (h : k ∈ kvs.map Prod.fst) : (stored kvs k v).map Prod.fst = kvs.map Prod.fst := by
  rw [stored, if_pos (any_key.mpr h)]
  exact keys_map_store kvs k v
theorem stored_out {kvs : List (PySem.Str × Value)} {k : PySem.Str} {v : Value} (h : k ∉ kvs.map Prod.fst) : stored kvs k v = kvs ++ [(k, v)] := by
  rw [stored, if_neg (fun e => h (any_key.mp e))]
theorem merged_snoc (kvs ps : List (PySem.Str × Value)) (p : PySem.Str × Value) : merged kvs (ps ++ [p]) = stored (merged kvs ps) p.1 p.2 := by
  unfold merged; rw [List.foldl_append]; rfl
theorem merged_keys (ps : List (PySem.Str × Value)) : (merged [] ps).map Prod.fst = (keepL ps).map Prod.fst := by
  induction ps using snoc_ind with
  | h0 => rfl
  | h1 ps p ih =>
    rw [merged_snoc, keepL_snoc]
    unfold kstep
    split
    · rename_i h
      rw [stored_in (by rw [ih]; exact h), ih]
    · rename_i h
      rw [stored_out (by rw [ih]; exact h), List.map_append, List.map_append, ih]
theorem stored_front {D X : List (PySem.Str × Value)} {k : PySem.Str} {v : Value} (h : k ∈ D.map Prod.fst) (hx : k ∉ X.map Prod.fst) : stored (D ++ X) k v = stored D k v ++ X := by
  have h' : k ∈ (D ++ X).map Prod.fst := by rw [List.map_append]; exact List.mem_append_left _ h
  rw [stored, stored, if_pos (any_key.mpr h'), if_pos (any_key.mpr h), List.map_append]
  congr 1
  conv => rhs; rw [← List.map_id X]
  refine List.map_congr_left fun x hxm => ?_
  have : x.1 ≠ k := fun e => hx (e ▸ List.mem_map.mpr ⟨x, hxm, rfl⟩)
  simp [this]
theorem merged_front {X : List (PySem.Str × Value)} : ∀ {qs D : List (PySem.Str × Value)}, (∀ q ∈ qs, q.1 ∈ D.map Prod.fst) → (∀ q ∈ qs, q.1 ∉ X.map Prod.fst) → merged (D ++ X) qs = merged D qs ++ X
  | [], _, _, _ => rfl
  | q :: qs, D, h, hx => by
    show merged (stored (D ++ X) q.1 q.2) qs = merged (stored D q.1 q.2) qs ++ X
    rw [stored_front (h q (.head _)) (hx q (.head _))]
    exact merged_front (fun r hr => by rw [stored_in (h q (.head _))]; exact h r (.tail _ hr)) fun r hr => hx r (.tail _ hr)
theorem stored_last {D : List (PySem.Str × Value)} {k : PySem.Str} {v v' : Value} (h : k ∉ D.map Prod.fst) : stored (D ++ [(k, v)]) k v' = D ++ [(k, v')] := by
  rw [stored, if_pos (any_key.mpr (by rw [List.map_append]; exact List.mem_append_right _ (.head _))), List.map_append]
  congr 1
  · conv => rhs; rw [← List.map_id D]
    refine List.map_congr_left fun x hxm => ?_
    have : x.1 ≠ k := fun e => h (e ▸ List.mem_map.mpr ⟨x, hxm, rfl⟩)
    simp [this]
  · simp
theorem keys_split {D : List (PySem.Str × Value)} {l : List PySem.Str} {k : PySem.Str} (h : D.map Prod.fst = l ++ [k]) : ∃ D0 v, D = D0 ++ [(k, v)] ∧ D0.map Prod.fst = l := by
  rcases List.eq_nil_or_concat D with rfl | ⟨D0, p, rfl⟩
  · exact absurd (congrArg List.length h) (by simp)
  · rw [List.concat_eq_append, List.map_append] at h
    have := List.append_inj' h rfl
    obtain ⟨k', v⟩ := p
    have e : k' = k := by simpa using this.2
    exact ⟨D0, v, by rw [List.concat_eq_append, e], this.1⟩
theorem merged_back (ps : List (PySem.Str × Value)) : ∀ D : List (PySem.Str × Value), D.map Prod.fst = (keepL ps).map Prod.fst → merged D ps.reverse = keepL ps := by
  induction ps using snoc_ind with
  | h0 => exact fun D h => by simpa [keepL, merged] using h
  | h1 ps p ih =>
    intro D h
    rw [List.reverse_append]
    show merged (stored D p.1 p.2) ps.reverse = _
    rw [keepL_snoc] at h ⊢
    unfold kstep at h ⊢
    split
    · rename_i hm
      rw [if_pos hm] at h
      exact ih _ (by rw [stored_in (by rw [h]; exact hm), h])
    · rename_i hm
      rw [if_neg hm, List.map_append] at h
      obtain ⟨D0, v, rfl, hD0⟩ := keys_split h
      rw [stored_last (by rw [hD0]; exact hm), merged_front, ih D0 hD0]
      · intro q hq
        rw [hD0]
        exact keepL_keys ps q (List.mem_reverse.mp hq)
      · intro q hq e
        have h1 := keepL_keys ps q (List.mem_reverse.mp hq)
        have e2 : q.1 = p.1 := by simpa using e
        exact hm (e2 ▸ h1)
theorem dict_more (ps : List (PySem.Str × Value)) : merged (merged [] ps) ps.reverse = keepL ps := merged_back ps _ (merged_keys ps)
theorem dict_len (ps : List (PySem.Str × Value)) : (merged [] ps).length = (keepL ps).length := by
  have := congrArg List.length (merged_keys ps)
  simpa using this
theorem dict_same (ps : List (PySem.Str × Value)) (h : ¬ (merged [] ps).length < ps.length) : merged [] ps = keepL ps := by
  rw [dict_len] at h
  obtain ⟨h1, h2⟩ := keepL_len ps
  obtain ⟨h3, h4⟩ := h2 (by omega)
  rw [merged_nil_of_nodup ps h4, h3]
end Mine
namespace Mine
/-! the same in a frame -/
theorem PairsIn.apart {h : Heap} {xs : List Value} {ps : List (PySem.Str × Value)} (hP : PairsIn h xs ps) : ∀ a, Value.ref a ∈ xs → a ≠ h.objs.size := fun a ha => by
  obtain ⟨i, hi, e⟩ := List.getElem_of_mem ha
  have hq : xs[i]? = some (.ref a) := by rw [List.getElem?_eq_getElem hi, e]
  obtain ⟨a', t, e', o, ho, _⟩ := hP.2 i (.ref a) (ps[i]'(by rw [← hP.1]; exact hi)) hq (by rw [List.getElem?_eq_getElem])
  cases e'
  exact Nat.ne_of_lt (Heap.lt_size ho)
theorem PairsIn.rev {h : Heap} {xs : List Value} {ps : List (PySem.Str × Value)} (hP : PairsIn h xs ps) : PairsIn h xs.reverse ps.reverse := by
  obtain ⟨h1, h2⟩ := hP
  refine ⟨by rw [List.length_reverse, List.length_reverse, h1], fun i v q hv hq => ?_⟩
  have hi : i < xs.length := by
    have := (List.getElem?_eq_some_iff.mp hv).1
    rwa [List.length_reverse] at this
  rw [List.getElem?_reverse hi] at hv
  rw [List.getElem?_reverse (by rw [← h1]; exact hi), ← h1] at hq
  exact h2 _ v q hv hq
section
variable {prog : Program} {w : World} {A : Around} {E : Value → Shared → Prop} {s : Shared} {h₀ : Heap} {L : Addr} {m : PySem.Str → Option Value} {news : List (Addr × Obj)}
theorem dict_t {l n : Nat} {xs : List Value} {ps : List (PySem.Str × Value)} {Q : Value → Shared → Prop} (hh : A.handled = none) (F : Fr h₀ L s.heap m) (N : News h₀ L s.heap news) (hbig : h₀.NoLimit) (hm : (l, W.listOf xs.toArray n) ∈ news) (hP : PairsIn s.heap xs ps) (hz : ps.length ≤ 1000)
    (k : ∀ (d : Nat) h' (o : Obj) tk, Fr h₀ L h' m → News h₀ L h' ((d, o) :: news) → (∀ p ∈ news, p.1 < d) → (d == sysModules) = false → o.IsDictOf (PySem.strKind prog w) (merged [] ps) → (∀ a, Value.ref a ∈ xs → a ≠ d) → Q (.ref d) { s with heap := h', toks := tk }) :
    wpAny (model prog w) A (call (.type "dict") [.ref l]) Q E s := by
  refine call_dict_pairs hh (N _ hm).1 hP hz fun h' tk hD hk => ?_
  obtain ⟨o, ho, hd⟩ := Heap.dictOf_iff.mp hD
  refine k _ h' o tk (F.keeps hk) (fun q hq => ?_) (fun p hp => Heap.lt_size (N p hp).1) (F.notModules (modules_low hbig)) hd hP.apart
  rcases List.mem_cons.mp hq with rfl | hq
  · exact ⟨ho, Nat.ne_of_gt F.ns.lt, next_is_new F⟩
  · exact N.grown hk q hq
theorem upd_t {d l n : Nat} {o : Obj} {g : Obj → List (Addr × Obj)} {xs : List Value} {kvs ps : List (PySem.Str × Value)} {Q : Value → Shared → Prop} (hh : A.handled = none) (F : Fr h₀ L s.heap m) (N : News h₀ L s.heap news) (U : UpdF d o news g) (hD : o.IsDictOf (PySem.strKind prog w) kvs) (hm : (l, W.listOf xs.toArray n) ∈ news) (hP : PairsIn s.heap xs ps)
    (hap : ∀ a, Value.ref a ∈ xs → a ≠ d) (hz : ps.length ≤ 1000) (hkv : kvs.length ≤ 1000)
    (k : ∀ h' (o' : Obj) tk, Fr h₀ L h' m → News h₀ L h' (g o') → o'.IsDictOf (PySem.strKind prog w) (merged kvs ps) → Q .none { s with heap := h', toks := tk }) :
    wpAny (model prog w) A (call (.builtin "dict.update") [.ref d, .ref l]) Q E s := by
  obtain ⟨pre, post, rfl, hg, a, b⟩ := U.split
  have hd := N (d, o) (List.mem_append_right _ (.head _))
  refine call_update_pairs hh (N _ hm).1 (Heap.dictOf_iff.mpr ⟨o, hd.1, hD⟩) hP hap hz hkv fun h' tk hD' hk => ?_
  obtain ⟨o', ho', hd'⟩ := Heap.dictOf_iff.mp hD'
  refine k h' o' tk ⟨F.ns.at fun o e => hk L o (Ne.symm hd.2.1) e, fun b x e => hk b x (fun e' => ?_) (F.keep b x e), F.above⟩ (fun q hq => ?_) hd'
  · have := hd.2.2
    rw [e'] at e
    rw [show h₀.get? d = none from this] at e
    cases e
  · rw [hg] at hq
    rcases List.mem_append.mp hq with h | h
    · exact ⟨hk _ _ (a q h) (N q (List.mem_append_left _ h)).1, (N q (List.mem_append_left _ h)).2⟩
    · rcases List.mem_cons.mp h with rfl | h
      · exact ⟨ho', hd.2⟩
      · exact ⟨hk _ _ (b q h) (N q (List.mem_append_right _ (.tail _ h))).1, (N q (List.mem_append_right _ (.tail _ h))).2⟩
theorem len_dict_t {d : Nat} {o : Obj} {kvs : List (PySem.Str × Value)} {Q : Value → Shared → Prop} (N : News h₀ L s.heap news) (hm : (d, o) ∈ news) (hD : o.IsDictOf (PySem.strKind prog w) kvs) (hs : (d == sysModules) = false) (hz : kvs.length ≤ 1000)
    (h : Q (.int kvs.length (s.toks + 1)) { s with toks := s.toks + 1 + 1 }) : wpAny (model prog w) A (call (.builtin "len") [.ref d]) Q E s :=
  call_len_dict hs (Heap.dictOf_iff.mpr ⟨o, (N _ hm).1, hD⟩) (by omega) h
theorem getM_update {d : Nat} {o : Obj} {kvs : List (PySem.Str × Value)} {pl : Sem Bool} {Q : Value × List Value → Shared → Prop} (N : News h₀ L s.heap news) (hm : (d, o) ∈ news) (hD : o.IsDictOf (PySem.strKind prog w) kvs) (h : Q (.builtin "dict.update", [.ref d]) s) :
    wpAny (model prog w) A (getMethod (.ref d) (PySem.Str.ofString "update") pl) Q E s := by
  have hd : s.heap.DictOf (PySem.strKind prog w) d kvs := Heap.dictOf_iff.mpr ⟨o, (N _ hm).1, hD⟩
  exact getMethod_builtin hd.typeIs PySem.F.plainAttrs_dict PySem.F.slot_dict_update PySem.F.type_dict_update hd.mapOf.noDict h
theorem len_list_t {l n : Nat} {xs : List Value} {Q : Value → Shared → Prop} (N : News h₀ L s.heap news) (hm : (l, W.listOf xs.toArray n) ∈ news) (hz : xs.length ≤ 1001)
    (h : Q (.int (xs.length : Nat) (s.toks + 1)) { s with toks := s.toks + 1 + 1 }) : wpAny (model prog w) A (call (.builtin "len") [.ref l]) Q E s :=
  PySem.Calls.call_len_list (items := xs.toArray) ⟨_, (N _ hm).1, rfl, _, rfl⟩ (by rw [List.size_toArray]; omega) (by rw [List.size_toArray]; exact h)
end
theorem rev_sliceG {prog : Program} {w : World} {A : Around} {E : Value → Shared → Prop} {h1 : Heap} {gg : Array GenState} {dd : Drawn} {tk : Nat} {oo : OsState} {h₀ : Heap} {L : Addr} {m : PySem.Str → Option Value} {news : List (Addr × Obj)} {value slice : PySem.Expr} {l : Addr} {us : List Value} {n t : Nat} {ops : List Value} {Q : Value → Shared → Prop}
    (F : Fr h₀ L h1 m) (N : News h₀ L h1 news) (hm : (l, W.listOf us.toArray n) ∈ news) (hz : us.length ≤ 1001)
    (h : ∀ (D : Nat) h', Fr h₀ L h' m → News h₀ L h' ((D, W.listOf us.reverse.toArray 0) :: news) → (∀ p ∈ news, p.1 < D) → Q (.ref D) ⟨h', gg, dd, tk, oo⟩)
    (hs : subscripted slice false (.ref l) (.ref h1.objs.size) = operate ops (getItem (.ref l) (.ref h1.objs.size)))
    (ht : ∀ r, letTemporaryGo value (.ref l) r = pure ()) :
    wpAny (model prog w) A (subscriptTail value slice (.ref l) (.ref h1.objs.size)) Q E ⟨h1.push { cls := .type "slice", data := .fields #[.none, .none, .int (-1) t] }, gg, dd, tk, oo⟩ :=
  krv_lit (s := ⟨h1, gg, dd, tk, oo⟩) (its := us.toArray) F N ⟨_, (N _ hm).1, rfl, _, rfl⟩ (.int _ _) rfl h hs ht (by rw [List.size_toArray, PySem.sizeLine_eq]; omega)
/-- pairs of texts: their values as objects -/
inductive SV : List (PySem.Str × Value) → List (PySem.Str × PySem.Str) → Prop
  | nil : SV [] []
  | cons {k v : PySem.Str} {u : Nat} {ps qs} : SV ps qs → SV ((k, .str v u) :: ps) ((k, v) :: qs)
theorem SV.snoc {k v : PySem.Str} {u : Nat} : ∀ {ps qs}, SV ps qs → SV (ps ++ [(k, .str v u)]) (qs ++ [(k, v)])
  | _, _, .nil => .cons .nil
  | _, _, .cons h => .cons h.snoc
theorem SV.keys : ∀ {ps qs}, SV ps qs → ps.map Prod.fst = qs.map Prod.fst
  | _, _, .nil => rfl
  | _, _, .cons h => by rw [List.map_cons, List.map_cons, h.keys]
theorem SV.len : ∀ {ps qs}, SV ps qs → ps.length = qs.length
  | _, _, .nil => rfl
  | _, _, .cons h => congrArg Nat.succ h.len
theorem SV.step {p : PySem.Str × Value} {q : PySem.Str × PySem.Str} {ps : List (PySem.Str × Value)} {qs : List (PySem.Str × PySem.Str)} (h : SV ps qs) (h1 : SV [p] [q]) : SV (kstep ps p) (kstep qs q) := by
  cases h1 with
  | cons h2 =>
    cases h2
    unfold kstep
    rw [h.keys]
    split
    · exact h
    · exact h.snoc
theorem SV.keep {ps : List (PySem.Str × Value)} {qs : List (PySem.Str × PySem.Str)} (h : SV ps qs) : SV (keepL ps) (keepL qs) := by
  unfold keepL
  have : ∀ {ps qs}, SV ps qs → ∀ {a b}, SV a b → SV (ps.foldl kstep a) (qs.foldl kstep b) := by
    intro ps qs h
    induction h with
    | nil => exact fun h => h
    | cons _ ih => exact fun h => ih (h.step (.cons .nil))
  exact this h .nil
end Mine
namespace Mine
/-- the pairs read so far -/
inductive Prs : List Value → List (Addr × Obj) → List (PySem.Str × PySem.Str) → Prop
  | nil : Prs [] [] []
  | cons {a n t u : Nat} {nm v : PySem.Str} {us O ps} : Prs us O ps → Prs (.ref a :: us) ((a, W.listOf [Value.str nm t, Value.str v u].toArray n) :: O) ((nm, v) :: ps)
theorem Prs.at : ∀ {us O ps}, Prs us O ps → ∀ (i : Nat) (v : Value), us[i]? = some v → ∃ (a n t u : Nat) (q : PySem.Str × PySem.Str), v = .ref a ∧ ps[i]? = some q ∧ (a, W.listOf [Value.str q.1 t, Value.str q.2 u].toArray n) ∈ O
  | _, _, _, .nil, i, v, h => by simp at h
  | _, _, _, .cons h, 0, v, e => by
    cases (Option.some.inj e : _ = v)
    exact ⟨_, _, _, _, _, rfl, rfl, .head _⟩
  | _, _, _, .cons h, i + 1, v, e => by
    obtain ⟨a, n, t, u, q, h1, h2, h3⟩ := h.at i v (by simpa using e)
    exact ⟨a, n, t, u, q, h1, by simpa using h2, .tail _ h3⟩
theorem Prs.len : ∀ {us O ps}, Prs us O ps → us.length = ps.length
  | _, _, _, .nil => rfl
  | _, _, _, .cons h => congrArg Nat.succ h.len
theorem Prs.vals : ∀ {us O prs}, Prs us O prs → ∃ ps, SV ps prs ∧ ∀ h : Heap, (∀ q ∈ O, h.get? q.1 = some q.2) → PairsIn h us ps
  | _, _, _, .nil => ⟨[], .nil, fun _ _ => ⟨rfl, fun i v q h => by simp at h⟩⟩
  | _, _, _, .cons (a := a) (n := n) (t := t) (u := u) h => by
    obtain ⟨ps, h1, h2⟩ := h.vals
    refine ⟨_, .cons (u := u) h1, fun hp hO => ?_⟩
    obtain ⟨k1, k2⟩ := h2 hp fun q hq => hO q (.tail _ hq)
    refine ⟨congrArg Nat.succ k1, fun i v q hv hq => ?_⟩
    cases i with
    | zero =>
      cases (Option.some.inj hv : _ = v)
      cases (Option.some.inj hq : _ = q)
      exact ⟨a, t, rfl, _, hO _ (.head _), rfl, _, rfl⟩
    | succ i => exact k2 i v q (by simpa using hv) (by simpa using hq)
theorem Prs.snoc {p n t u : Nat} {nm v : PySem.Str} : ∀ {us O prs}, Prs us O prs → Prs (us ++ [Value.ref p]) (O ++ [(p, W.listOf [Value.str nm t, Value.str v u].toArray n)]) (prs ++ [(nm, v)])
  | _, _, _, .nil => .cons .nil
  | _, _, _, .cons h => .cons h.snoc
end Mine
namespace Mine
/-! the table of the kinds of tokens -/
theorem tt_look (w : World) : ∃ es n, (KF w).lookup 48 = some ⟨.type "dict", none, .dict es n, #[]⟩ ∧ KeysLit w.params es.toList := by
  refine ⟨_, _, rfl, ?_⟩
  k_keys
section
variable {w : World} {A : Around} {E : Value → Shared → Prop} {s : Shared} {h₀ : Heap} {L : Addr} {m : PySem.Str → Option Value} {t : Nat} {value slice : PySem.Expr} {Q : Value → Shared → Prop}
theorem tt_item {x : PySem.Str} {v : Value} (F : Fr h₀ L s.heap m) (X : (KF w).In h₀) (e : nsIn (KF w) 48 x = some (some v)) (h : Q v { s with toks := s.toks + 1 })
    (hs : subscripted slice false (.ref 48) (.str x t) = operate [.ref 48, .str x t] (getItem (.ref 48) (.str x t)) := by with_unfolding_all rfl) :
    wpAny (model PG w) A (subscriptTail value slice (.ref 48) (.str x t)) Q E s := by
  obtain ⟨es, n, h1, h2⟩ := tt_look w
  exact topItem_K F X h1 h2 e h hs
theorem tt_err (F : Fr h₀ L s.heap m) (X : (KF w).In h₀) (h : ∀ u, Q (.int 7 u) { s with toks := s.toks + 1 })
    (hs : subscripted slice false (.ref 48) (.str (Str.ofString "ParseError") t) = operate [.ref 48, .str (Str.ofString "ParseError") t] (getItem (.ref 48) (.str (Str.ofString "ParseError") t)) := by with_unfolding_all rfl) :
    wpAny (model PG w) A (subscriptTail value slice (.ref 48) (.str (Str.ofString "ParseError") t)) Q E s := tt_item F X rfl (h _) hs
theorem tt_start (F : Fr h₀ L s.heap m) (X : (KF w).In h₀) (h : ∀ u, Q (.int 3 u) { s with toks := s.toks + 1 })
    (hs : subscripted slice false (.ref 48) (.str (Str.ofString "StartTag") t) = operate [.ref 48, .str (Str.ofString "StartTag") t] (getItem (.ref 48) (.str (Str.ofString "StartTag") t)) := by with_unfolding_all rfl) :
    wpAny (model PG w) A (subscriptTail value slice (.ref 48) (.str (Str.ofString "StartTag") t)) Q E s := tt_item F X rfl (h _) hs
theorem tt_end (F : Fr h₀ L s.heap m) (X : (KF w).In h₀) (h : ∀ u, Q (.int 4 u) { s with toks := s.toks + 1 })
    (hs : subscripted slice false (.ref 48) (.str (Str.ofString "EndTag") t) = operate [.ref 48, .str (Str.ofString "EndTag") t] (getItem (.ref 48) (.str (Str.ofString "EndTag") t)) := by with_unfolding_all rfl) :
    wpAny (model PG w) A (subscriptTail value slice (.ref 48) (.str (Str.ofString "EndTag") t)) Q E s := tt_item F X rfl (h _) hs
end
end Mine
theorem Mine.off_p4 {M : Model} {A : Around} {env : Env} {Q : Flow → Shared → Prop} {E : Value → Shared → Prop} {s : Shared} (h : wpAny M A (execs [] env) Q E s) : wpAny M A (execs [] env) Q E s := by
  (try (walk1; fail "no"))
  w_top off
  exact h
namespace Mine
local macro_rules | `(tactic| k_ne) => `(tactic| first | exact (show Nq _ _ by with_reducible assumption) | exact Ne.symm (show Nq _ _ by with_reducible assumption) | (refine neN ?_; (try dsimp only); omega))
local macro_rules | `(tactic| k_room) => `(tactic| ((try simp only [depth_under_make, depth_under_kw, depth_in1, depth_deeper, depth_caller, ktrTop, recursionLimit] at *); omega))
local macro_rules | `(tactic| k_units) => `(tactic| ((have hcL9 := cLine_is); (try simp only [units_in1, units_deeper, Around.mark_units, units_caller, ktrTop] at *); omega))
local macro_rules | `(tactic| ktr_enter) => `(tactic| (refine' code_def ?k1 ?k2 ?k3 ?k4 ?k5 ?kA ?kF ?kK ?k6 ?k7 ?k8 ?k9 ?kB ?_ ?c2 ?c3 ?c4 ?c5; (case kA => exact rfl); (case kF => exact rfl); (case kK => first | exact rfl | assumption); (case k1 => k_asm); (case k2 => k_asm); (case k3 => k_asm); (case k4 => k_asm); (case k5 => k_asm); (case k6 => k_is); (case k7 => k_is); (case k8 => k_room); (case k9 => first | exact BindsTo.of_eq rfl | exact binds_K (by k_in) rfl (by k_is) rfl rfl rfl); (case c5 => decide); (case kB => exact locs rfl); (case c2 => exact rfl); (case c3 => exact rfl); (case c4 => exact rfl); k_whole; intro g' L' h' FG' F' N' B' X' T'; (try dsimp only); (try k_fold)))
local macro_rules | `(tactic| k_all) => `(tactic| (with_reducible assumption))
local macro_rules | `(tactic| tb_lt) => `(tactic| first | exact Pick.head | (refine' Pick.tail ?c; (case c => tb_lt)))
local macro_rules | `(tactic| tb_start) => `(tactic| first | exact Picks.nil | (refine' Picks.cons ?a ?b; (case a => tb_lt); (case b => tb_start)))
local macro_rules | `(tactic| tb_rel) => `(tactic| first | exact List.forall_mem_nil _ | (refine' List.forall_mem_cons.mpr ⟨?a, ?b⟩; (case a => k_all); (case b => tb_rel)))
local macro_rules | `(tactic| walk_at "TPost") => `(tactic| (dsimp only [TPost]))
local macro_rules | `(tactic| size_fits) => `(tactic| ((simp only [PySem.sizeLine_eq, List.size_toArray]); omega))
local macro_rules | `(tactic| k_gentoks) => `(tactic| (with_reducible refine' gen_toksP ?hp ?_; (case hp => first | omega | ((try simp only [List.length_cons]); omega)); intro tk htk))
local macro_rules | `(tactic| kstt_sub) => `(tactic| first | exact fun _ h => h | assumption | (refine' subCons ?a ?b; (case a => k_mem); (case b => kstt_sub)) | (refine' subTail ?a; (case a => kstt_sub)))
local macro_rules | `(tactic| kst_all) => `(tactic| first | exact List.forall_mem_nil _ | (refine' List.forall_mem_cons.mpr ⟨?a, ?b⟩; (case a => exact rfl); (case b => kst_all)))
local macro_rules | `(tactic| walk_at "MidEnd") => `(tactic| first
  | ((with_reducible show MidEnd _ _ _ _ _ _ _ Flow.next _); (refine' ⟨(tk8 _ _ _ _ _ _ _ _, _), _, _, _, rfl, ?F, ?N, ?ps, ?P⟩); (case F => assumption); (case N => (refine' nsub ?N1 ?N2; (case N1 => assumption); (case N2 => kstt_sub))); (case ps => kst_all); (case P => k_extra "mid"))
  | ((fail_if_success (with_reducible show MidEnd _ _ _ _ _ _ _ Flow.next _)); dsimp only [MidEnd]))
local macro_rules | `(tactic| walk_at "WEnd") => `(tactic| ((fail_if_success (with_reducible show WEnd _ _ _ _ _ _ _ _ _ Flow.next _)); dsimp only [WEnd]))
local macro_rules | `(tactic| walk_at "callWith") => `(tactic| (k_here; (with_reducible refine' callWith_method1 ?_ ?he ?hp); (case he => k_dflt rfl); (case hp => k_dflt rfl)))
local macro_rules | `(tactic| k_steps) => `(tactic| repeat' (first | (k_unfold; (try dsimp only)) | (k_end; wrow_close) | walk1 | (dsimp only [List.cons_append, List.nil_append]; walk1) | (dsimp only) | fail "no step"))
theorem DName {prog : Program} {w : World} {o : Obj} {rows : List (PySem.Str × Value)} (_h : o.IsDictOf (PySem.strKind prog w) rows) : ∃ z, z = o := ⟨o, rfl⟩
def Hid (p : Prop) : Prop := p
abbrev emF (w : World) (hx hd' tq lf ct dl p sx : Nat) (κh : Nat → Nat) (st : Value) (qs : List Value) (tep : Nat) (oC : Obj) (us : List Value) (dep : Nat) (nm val : PySem.Str) (t1 t2 pep : Nat) : List (Addr × Obj) :=
  [(hx, instObj 762 hd'), (hd', hdD8 w κh sx lf tq st (.ref ct)), (tq, W.listOf qs.toArray tep), (ct, oC), (dl, W.listOf (us ++ [Value.ref p]).toArray dep), (p, W.listOf [Value.str nm t1, Value.str val t2].toArray pep)]
def EQ6 (hx hd' tq ct dl p : Nat) : Prop := Nq hx hd' ∧ Nq hd' tq ∧ Nq tq hx ∧ Nq ct hx ∧ Nq ct hd' ∧ Nq ct tq ∧ Nq dl hx ∧ Nq dl hd' ∧ Nq dl tq ∧ Nq p hx ∧ Nq p hd' ∧ Nq p tq ∧ Nq ct dl ∧ Nq ct p ∧ Nq dl p
def Fresh6 (hx hd' tq ct dl p : Nat) (rest : List (Addr × Obj)) (e : Nat) : Prop := hx < e ∧ hd' < e ∧ tq < e ∧ ct < e ∧ dl < e ∧ p < e ∧ AllLt e rest
theorem tags_K (w : World) : ∃ (l : List Value) (n : Nat), (KF w).lookup 49 = some { cls := .type "tuple", dict := none, data := .seq l.toArray n, slots := #[] } ∧ ∃ a b c, l = [.int 3 a, .int 4 b, .int 5 c] := ⟨_, _, rfl, _, _, _, rfl⟩
def hitI (k : Int) : Value → Bool
  | .int y _ => y == k
  | _ => false
theorem in_tags {w : World} {A : Around} {E : Value → Shared → Prop} {s : Shared} {h₀ : Heap} {L : Addr} {m : PySem.Str → Option Value} {k : Int} {t : Nat} {Q : Value → Shared → Prop} (F : Fr h₀ L s.heap m) (X : (KF w).In h₀) (hk : k = 3 ∨ k = 4) (h : Q (.bool true) s) :
    wpAny (model PG w) A (compareOp .In (.int k t) (.ref 49)) Q E s := by
  obtain ⟨l, n, hl, a, b, c, rfl⟩ := tags_K w
  have ht : s.heap.IsTuple 49 [Value.int 3 a, Value.int 4 b, Value.int 5 c].toArray := ⟨_, (X.keeps F.keep) _ _ hl, rfl, _, rfl⟩
  refine PySem.SeqAt.in_tupleAt (hitI k) ht (fun y hy => ?_) ?_
  · have hy' : y ∈ [Value.int 3 a, Value.int 4 b, Value.int 5 c] := by simpa using hy
    have : ∃ i u, y = .int i u := by
      simp only [List.mem_cons, List.not_mem_nil, or_false] at hy'
      rcases hy' with rfl | rfl | rfl <;> exact ⟨_, _, rfl⟩
    obtain ⟨i, u, rfl⟩ := this
    exact PySem.SeqAt.EqAt.int_int i u k t
  · have e : [Value.int 3 a, Value.int 4 b, Value.int 5 c].toArray.any (hitI k) = true := by
      rw [List.any_toArray]; rcases hk with rfl | rfl <;> rfl
    rw [e]; exact h
section
local macro_rules | `(tactic| walk_at "subscriptTail") => `(tactic| (k_here; (with_reducible show wpAny _ _ (subscriptTail _ _ (Value.ref 48) (Value.str (PySem.Str.ofString "ParseError") _)) _ _ _); k_dflt (refine' tt_err ?F ?X ?_; (case F => assumption); (case X => assumption)); intro u))
local macro_rules | `(tactic| walk_at "subscriptTail") => `(tactic| (k_here; (with_reducible show wpAny _ _ (subscriptTail _ _ (Value.ref 48) (Value.str (PySem.Str.ofString "StartTag") _)) _ _ _); k_dflt (refine' tt_start ?F ?X ?_; (case F => assumption); (case X => assumption)); intro u))
local macro_rules | `(tactic| walk_at "subscriptTail") => `(tactic| (k_here; (with_reducible show wpAny _ _ (subscriptTail _ _ (Value.ref 48) (Value.str (PySem.Str.ofString "EndTag") _)) _ _ _); k_dflt (refine' tt_end ?F ?X ?_; (case F => assumption); (case X => assumption)); intro u))
local macro_rules | `(tactic| walk_at "compareOp In") => `(tactic| (k_here; (with_reducible show wpAny _ _ (compareOp CmpOp.In (Value.int _ _) (Value.ref 49)) _ _ _); k_dflt (refine' in_tags ?f ?x ?k ?_; (case f => assumption); (case x => assumption); (case k => first | exact Or.inl rfl | exact Or.inr rfl))))
local macro_rules | `(tactic| walk_at "ite") => `(tactic| (k_here; first | (refine if_yes ?a ?_; (case a => with_reducible assumption)) | (refine if_no ?a ?_; (case a => with_reducible assumption))))
local macro_rules | `(tactic| walk_at "call type:dict") => `(tactic| (k_here; (with_reducible show wpAny _ _ (call (Value.type "dict") [Value.ref _]) _ _ _); k_dflt (refine' dict_t ?hh ?F ?N ?b ?hm ?P ?z ?_; (case hh => exact rfl); (case F => k_asm); (case N => k_asm); (case b => exact Top.nolimit (by k_asm)); (case hm => k_mem); (case P => k_extra "prs"); (case z => k_extra "prz")); intro d' h' o' tk' F' N' l1 lo' hd' hap'; (try k_lt l1)))
local macro_rules | `(tactic| walk_at "getMethod ref") => `(tactic| (k_here; (with_reducible show wpAny _ _ (getMethod (Value.ref _) (PySem.Str.ofString "update") _) _ _ _); k_dflt (refine' getM_update ?N ?hm ?D ?_; (case N => assumption); (case hm => k_mem); (case D => assumption))))
local macro_rules | `(tactic| walk_at "call builtin:len") => `(tactic| (k_here; (with_reducible show wpAny _ _ (call (Value.builtin "len") [Value.ref _]) _ _ _); k_dflt (first | (refine' len_dict_t ?N ?hm ?D ?s ?z ?_; (case N => assumption); (case hm => k_mem); (case D => assumption); (case s => assumption); (case z => k_extra "dz")) | (refine' len_list_t ?N ?hm ?z ?_; (case N => assumption); (case hm => k_mem); (case z => k_extra "lz")))))
local macro_rules | `(tactic| walk_at "subscriptTail Name Slice ref ref") => `(tactic| (k_here; (try dsimp only); (with_reducible show wpAny _ _ (subscriptTail _ _ (Value.ref _) (Value.ref _)) _ _ _); k_dflt (refine' rev_sliceG ?F ?N ?hm ?hz ?_ ?hs ?ht; (case F => assumption); (case N => assumption); (case hm => k_mem); (case hz => k_extra "lz"); (case hs => with_unfolding_all rfl); (case ht => (intro _; with_unfolding_all rfl))); intro D' h' F' N' l1; (try k_lt l1); (try k_sweep)))
local macro_rules | `(tactic| walk_at "call builtin:dict.update") => `(tactic| (k_here; (with_reducible show wpAny _ _ (call (Value.builtin "dict.update") [Value.ref _, Value.ref _]) _ _ _); k_dflt (refine' upd_t ?hh ?F ?N ?U ?D ?hm ?P ?ap ?z ?y ?_; (case hh => exact rfl); (case F => k_asm); (case N => k_asm); (case U => k_updF); (case D => assumption); (case hm => k_mem); (case P => k_extra "rps"); (case ap => k_extra "rap"); (case z => k_extra "rpz"); (case y => k_extra "dz")); intro h' o' tk' F' N' hd'))
local macro_rules | `(tactic| walk_at "call ref") => `(tactic| (k_here; k_dflt (refine' TellR.use (asciiLower_t ?a1) ?k1 ?k2 ?k3 ?k4 ?k5 ?kK ?kp ?ko ?kd ?ku ?k0 ?_; (case k1 => k_asm); (case k2 => k_asm); (case k3 => k_asm); (case k4 => k_asm); (case k5 => k_asm); (case kK => first | exact rfl | assumption); (case kp => tb_start); (case ko => tb_rel); (case a1 => omega); (case kd => k_room); (case ku => k_units); (case k0 => first | exact (show 1 ≤ _ by (try dsimp only); omega) | exact Nat.zero_le _); intro r9 f9 h9 tk9 p9 F9 N9 hP9; obtain ⟨y9, t9, e1, hy9, e2⟩ := hP9; subst e1; subst e2; (try dsimp only [List.nil_append, List.cons_append] at N9); (try k_fold))))
theorem emit_S {w : World} {hx hd' tq lf ct dl p sx : Nat} {κh : Nat → Nat} {st : Value} {qs us : List Value} {tep dep pep k1 k2 t1 t2 : Nat} {oC : Obj} {nmT nm val : PySem.Str} {fl : Bool} {O : List (Addr × Obj)} {prs : List (PySem.Str × PySem.Str)}
    (hpr : Prs us O prs) (hD : oC.IsDictOf (PySem.strKind PG w) (ctRows 3 k1 nmT k2 dl fl)) (hs : ((ct : Addr) == sysModules) = false) (hqs : qs.length ≤ 1000) (hus : us.length ≤ 900) (hnm : nmT.length ≤ 1000) (hq : EQ6 hx hd' tq ct dl p) :
    TellO w 12 120 (.ref 297) [.ref hx] O (emF w hx hd' tq lf ct dl p sx κh st qs tep oC us dep nm val t1 t2 pep)
      (fun rv f' rest => rv = .none ∧ ∃ (te q' da : Nat) (oC' oD : Obj) (y : PySem.Str) (u1 u2 : Nat) (ps : List (PySem.Str × Value)), y.cps.toList = nmT.cps.toList.map lw ∧ SV ps (prs ++ [(nm, val)]) ∧ oD.IsDictOf (PySem.strKind PG w) (keepL ps) ∧
        oC'.IsDictOf (PySem.strKind PG w) (ctRows 3 u1 y u2 da fl) ∧ Fresh6 hx hd' tq ct dl p rest da ∧ Fresh6 hx hd' tq ct dl p rest q' ∧ da < q' ∧
        f' = [(hx, instObj 762 hd'), (hd', hdD8 w κh sx lf tq (.ref q') (.ref ct)), (tq, W.listOf (qs ++ [Value.ref ct]).toArray te), (ct, oC'), (da, oD), (q', methodObj (.ref 304) (.ref hx))]) := by
  unfold EQ6 at hq
  obtain ⟨g1, g8, g9, u1, u2, u3, v1, v2, v3, w1, w2, w3, x1, x2, x3⟩ := hq
  obtain ⟨ps, hsv, hvals⟩ := (hpr.snoc (p := p) (n := pep) (t := t1) (u := t2) (nm := nm) (v := val)).vals
  have hpl := hsv.len
  have hpl2 := hpr.len
  rw [List.length_append, List.length_singleton] at hpl
  unfold TellO Tell KF PG
  k_fill
  intro rest hO off' mean mg mb dp un gd cn cs a ccd cl outer A₀ base h₀ L m s Q E B F X N T hk hd hu hret
  dsimp only [emF, List.cons_append, List.nil_append] at off' N
  simp only [List.forall_mem_cons] at off'
  obtain ⟨o1, o2, o3, o4, o5, o6, -⟩ := off'
  k_dflt ktr_enter
  k_with_none
  k_with "prs" => ((rename News _ _ _ _ => nP); exact hvals _ (fun q hq => (List.mem_append.mp hq).elim (fun h => (nP q (by simp only [List.mem_cons]; exact Or.inr (Or.inr (Or.inr (Or.inr (Or.inr (Or.inr (hO q h)))))))).1) (fun h => by cases List.mem_singleton.mp h; exact (nP _ (by k_mem)).1)))
  k_with "prz" => omega
  repeat' (first | ((fail_if_success (with_reducible show wpAny _ _ (PySem.exec (PySem.Stmt.If (PySem.Expr.Compare (PySem.Expr.Call _ _ _ _) _ _ _) _ _ _) _) _ _ _)); first | (k_unfold; (try dsimp only)) | (k_end; wrow_close) | walk1 | (dsimp only [List.cons_append, List.nil_append]; walk1) | (dsimp only) | fail "no step"))
  (rename Fr _ _ _ _ => f8)
  (rename News _ _ _ _ => n8)
  (rename _ < _ ∧ _ => l8)
  (rename Obj.IsDictOf _ _ (merged [] _) => hdm)
  (rename Obj.IsDictOf _ _ (_ :: _) => hdC)
  (rename (_ == sysModules) = false => hsd)
  (rename ∀ a, Value.ref a ∈ _ → a ≠ _ => hap9)
  (rename PySem.Str => y9)
  (rename _ = List.map lw _ => hy9)
  have hy9' : y9.cps.toList = nmT.cps.toList.map lw := hy9
  clear hy9
  obtain ⟨da, oD, e1, e2⟩ := News.head2 n8
  subst e1
  subst e2
  obtain ⟨oT, eT⟩ := DName hdC
  subst eT
  obtain ⟨l1, l2, l3, l4, l5, l6, l7⟩ := l8
  have o7 := tbn_neAll l7
  have c1 : Nq da hx := Nat.ne_of_gt l1
  have c2 : Nq da hd' := Nat.ne_of_gt l2
  have c3 : Nq da tq := Nat.ne_of_gt l3
  have c4 : Nq da ct := Nat.ne_of_gt l4
  have c5 : Nq da dl := Nat.ne_of_gt l5
  have c6 : Nq da p := Nat.ne_of_gt l6
  have hda : Hid (Fresh6 hx hd' tq ct dl p rest da) := ⟨l1, l2, l3, l4, l5, l6, l7⟩
  have hml := merged_length_le [] ps
  rw [List.length_nil, Nat.zero_add] at hml
  have hzl2 : (us ++ [Value.ref p]).length = ps.length := by rw [List.length_append, List.length_singleton]; omega
  have hzl : (us ++ [Value.ref p]).length ≤ 1001 := by rw [List.length_append, List.length_singleton]; omega
  refine mid_cut (fun _ : Obj × Nat => [(Str.ofString "self", .ref hx), (Str.ofString "token", .ref ct), (Str.ofString "raw", .ref dl), (Str.ofString "data", .ref da)])
    (fun c => (da, c.1) :: (hx, instObj 762 hd') :: (hd', hdD8 w κh sx lf tq st (.ref ct)) :: (tq, W.listOf qs.toArray tep) :: (ct, oT) :: (dl, W.listOf (us ++ [Value.ref p]).toArray dep) :: (p, W.listOf [Value.str nm t1, Value.str val t2].toArray pep) :: rest)
    (fun c => c.1.IsDictOf (PySem.strKind PG w) (keepL ps)) f8 ?h0 ?h ?k
  case h0 => omega
  case k =>
    rintro ⟨oE, t9⟩ m8 h8 tk8' p8 hE F8 N8
    dsimp only at F8 N8 hE
    clear f8 n8 hdm F N
    (try k_fold)
    k_with_none
    k_steps
    (rename News _ _ _ _ => n9)
    (rename Obj.IsDictOf _ _ _ => hC9)
    (rename _ < _ ∧ _ => l9)
    (try simp only [push_app] at n9)
    obtain ⟨z1, z2, z3, z4, z5, z6, z7, z8⟩ := l9
    refine' hret _ _ _ _ (by assumption) ?S9 ⟨_, ⟨rfl, _, _, _, _, _, y9, _, _, ps, hy9', hsv, hE, hC9, hda, ?G9, ?H9, rfl⟩, rfl⟩
    case S9 =>
      dsimp only [List.cons_append, List.nil_append]
      refine' nsub n9 ?N2
      case N2 => kstt_sub
    case G9 => exact ⟨z2, z3, z4, z5, z6, z7, z8⟩
    case H9 => exact z1
  case h =>
    k_with_none
    k_with "lz" => omega
    k_with "dz" => omega
    k_with "rps" => ((rename News _ _ _ _ => nP); exact (hvals _ (fun q hq => (List.mem_append.mp hq).elim (fun h => (nP q (by simp only [List.mem_cons]; exact Or.inr (Or.inr (Or.inr (Or.inr (Or.inr (Or.inr (Or.inr (Or.inr (hO q h)))))))))).1) (fun h => by cases List.mem_singleton.mp h; exact (nP _ (by k_mem)).1))).rev)
    k_with "rap" => exact fun a h => hap9 a (List.mem_reverse.mp h)
    k_with "rpz" => (rw [List.length_reverse]; omega)
    repeat' (first | ((fail_if_success (with_reducible show MidEnd _ _ _ _ _ _ _ _ _)); first | (k_unfold; (try dsimp only)) | (k_end; wrow_close) | walk1 | (dsimp only [List.cons_append, List.nil_append]; walk1) | (dsimp only) | fail "no step"))
    all_goals ((rename News _ _ _ _ => n9); (rename Obj.IsDictOf _ _ (merged _ _) => hd9); (refine' ⟨(_, 0), _, _, _, rfl, ?F, ?N, ?ps, ?P⟩); (case F => assumption); (case N => (refine' nsub n9 ?N2; (case N2 => kstt_sub))); (case ps => kst_all); (case P => (dsimp only; first | (rw [dict_more] at hd9; exact hd9) | (rw [dict_same ps (by omega)] at hd9; exact hd9))))
end
end Mine
theorem Mine.off_q1 {M : Model} {A : Around} {env : Env} {Q : Flow → Shared → Prop} {E : Value → Shared → Prop} {s : Shared} (h : wpAny M A (execs [] env) Q E s) : wpAny M A (execs [] env) Q E s := by
  (try (walk1; fail "no"))
  w_top off
  exact h
namespace Mine
local macro_rules | `(tactic| k_ne) => `(tactic| first | exact (show Nq _ _ by with_reducible assumption) | exact Ne.symm (show Nq _ _ by with_reducible assumption) | (refine neN ?_; (try dsimp only); omega))
local macro_rules | `(tactic| k_room) => `(tactic| ((try simp only [depth_under_make, depth_under_kw, depth_in1, depth_deeper, depth_caller, ktrTop, recursionLimit] at *); omega))
local macro_rules | `(tactic| k_units) => `(tactic| ((have hcL9 := cLine_is); (try simp only [units_in1, units_deeper, Around.mark_units, units_caller, ktrTop] at *); omega))
local macro_rules | `(tactic| ktr_enter) => `(tactic| (refine' code_def ?k1 ?k2 ?k3 ?k4 ?k5 ?kA ?kF ?kK ?k6 ?k7 ?k8 ?k9 ?kB ?_ ?c2 ?c3 ?c4 ?c5; (case kA => exact rfl); (case kF => exact rfl); (case kK => first | exact rfl | assumption); (case k1 => k_asm); (case k2 => k_asm); (case k3 => k_asm); (case k4 => k_asm); (case k5 => k_asm); (case k6 => k_is); (case k7 => k_is); (case k8 => k_room); (case k9 => first | exact BindsTo.of_eq rfl | exact binds_K (by k_in) rfl (by k_is) rfl rfl rfl); (case c5 => decide); (case kB => exact locs rfl); (case c2 => exact rfl); (case c3 => exact rfl); (case c4 => exact rfl); k_whole; intro g' L' h' FG' F' N' B' X' T'; (try dsimp only); (try k_fold)))
local macro_rules | `(tactic| k_all) => `(tactic| (with_reducible assumption))
local macro_rules | `(tactic| tb_lt) => `(tactic| first | exact Pick.head | (refine' Pick.tail ?c; (case c => tb_lt)))
local macro_rules | `(tactic| tb_start) => `(tactic| first | exact Picks.nil | (refine' Picks.cons ?a ?b; (case a => tb_lt); (case b => tb_start)))
local macro_rules | `(tactic| tb_rel) => `(tactic| first | exact List.forall_mem_nil _ | (refine' List.forall_mem_cons.mpr ⟨?a, ?b⟩; (case a => k_all); (case b => tb_rel)))
local macro_rules | `(tactic| walk_at "TPost") => `(tactic| (dsimp only [TPost]))
local macro_rules | `(tactic| size_fits) => `(tactic| ((simp only [PySem.sizeLine_eq, List.size_toArray]); omega))
local macro_rules | `(tactic| k_gentoks) => `(tactic| (with_reducible refine' gen_toksP ?hp ?_; (case hp => first | omega | ((try simp only [List.length_cons]); omega)); intro tk htk))
local macro_rules | `(tactic| kstt_sub) => `(tactic| first | exact fun _ h => h | assumption | (refine' subCons ?a ?b; (case a => k_mem); (case b => kstt_sub)) | (refine' subTail ?a; (case a => kstt_sub)))
local macro_rules | `(tactic| kst_all) => `(tactic| first | exact List.forall_mem_nil _ | (refine' List.forall_mem_cons.mpr ⟨?a, ?b⟩; (case a => exact rfl); (case b => kst_all)))
local macro_rules | `(tactic| walk_at "MidEnd") => `(tactic| first
  | ((with_reducible show MidEnd _ _ _ _ _ _ _ Flow.next _); (refine' ⟨(tk8 _ _ _ _ _ _ _ _, _), _, _, _, rfl, ?F, ?N, ?ps, ?P⟩); (case F => assumption); (case N => (refine' nsub ?N1 ?N2; (case N1 => assumption); (case N2 => kstt_sub))); (case ps => kst_all); (case P => k_extra "mid"))
  | ((fail_if_success (with_reducible show MidEnd _ _ _ _ _ _ _ Flow.next _)); dsimp only [MidEnd]))
local macro_rules | `(tactic| walk_at "WEnd") => `(tactic| ((fail_if_success (with_reducible show WEnd _ _ _ _ _ _ _ _ _ Flow.next _)); dsimp only [WEnd]))
local macro_rules | `(tactic| walk_at "callWith") => `(tactic| (k_here; (with_reducible refine' callWith_method1 ?_ ?he ?hp); (case he => k_dflt rfl); (case hp => k_dflt rfl)))
local macro_rules | `(tactic| k_steps) => `(tactic| repeat' (first | (k_unfold; (try dsimp only)) | (k_end; wrow_close) | walk1 | (dsimp only [List.cons_append, List.nil_append]; walk1) | (dsimp only) | fail "no step"))
noncomputable abbrev R542 (w : World) : PySem.Str × List Stmt × Scope := recOfLook (K := KF w) (f := 542) rfl
/-- the objects written out ahead of the rest -/
abbrev atL (w : World) (hx hd' tq lf ct dl p sx sd tx td ra el nl : Nat) (κh κ κ' : Nat → Nat) (τ₀ τ₁ τ₂ τ₃ τ₄ σ₀ σ₁ : Nat) (S : SS) (bf : Value) (vs : List Value) (ep : Nat) (st : Value) (qs : List Value) (tep : Nat) (oC : Obj) (us : List Value) (dep : Nat) (nm val : PySem.Str) (t1 t2 pep : Nat) (R : List (Addr × Obj)) : List (Addr × Obj) :=
  (hx, instObj 762 hd') :: (hd', hdD8 w κh sx lf tq st (.ref ct)) :: (tq, W.listOf qs.toArray tep) :: (ct, oC) :: (dl, W.listOf (us ++ [Value.ref p]).toArray dep) :: (p, W.listOf [Value.str nm t1, Value.str val t2].toArray pep) :: (stS w sx sd tx td ra el nl κ κ' τ₀ τ₁ τ₂ τ₃ τ₄ σ₀ σ₁ S bf vs ep ++ R)
def offR (hx hd' tq ct dl p sx sd tx td ra el : Nat) (R : List (Addr × Obj)) : Prop :=
  (∀ q ∈ R, q.1 ≠ hx) ∧ (∀ q ∈ R, q.1 ≠ hd') ∧ (∀ q ∈ R, q.1 ≠ tq) ∧ (∀ q ∈ R, q.1 ≠ ct) ∧ (∀ q ∈ R, q.1 ≠ dl) ∧ (∀ q ∈ R, q.1 ≠ p) ∧ (∀ q ∈ R, q.1 ≠ sx) ∧ (∀ q ∈ R, q.1 ≠ sd) ∧ (∀ q ∈ R, q.1 ≠ tx) ∧ (∀ q ∈ R, q.1 ≠ td) ∧ (∀ q ∈ R, q.1 ≠ ra) ∧ (∀ q ∈ R, q.1 ≠ el)
theorem offX {a : Nat} {ex R : List (Addr × Obj)} (h1 : ∀ q ∈ ex, a < q.1) (h2 : ∀ q ∈ R, q.1 ≠ a) : ∀ q ∈ ex ++ R, q.1 ≠ a := fun q hq => (List.mem_append.mp hq).elim (fun h => Nat.ne_of_gt (h1 q h)) (h2 q)
def dupW : PySem.Str := Str.ofString "duplicate-attribute"
section
local macro_rules | `(tactic| walk_at "ite") => `(tactic| (k_here; first | (refine if_yes ?a ?_; (case a => with_reducible assumption)) | (refine if_no ?a ?_; (case a => with_reducible assumption))))
local macro_rules | `(tactic| walk_at "compareOp In") => `(tactic| (k_here; (with_reducible show wpAny _ _ (compareOp CmpOp.In (Value.str _ _) (Value.ref 27)) _ _ _); k_dflt (refine' in_letters ?f ?x ?_; (case f => assumption); (case x => assumption))))
local macro_rules | `(tactic| walk_at "compareOp In") => `(tactic| (k_here; (with_reducible show wpAny _ _ (compareOp CmpOp.In (Value.str _ _) (Value.ref 22)) _ _ _); k_dflt (refine' in_spaces ?f ?x ?_; (case f => assumption); (case x => assumption))))
local macro_rules | `(tactic| walk_at "subscriptTail") => `(tactic| (k_here; (try dsimp only); (with_reducible show wpAny _ _ (subscriptTail _ _ (Value.ref _) (Value.int _ _)) _ _ _); k_dflt (refine' item_last_t ?N ?hm ?hv ?_; (case N => assumption); (case hm => k_mem); (case hv => exact back_snoc))))
local macro_rules | `(tactic| walk_at "subscriptTail") => `(tactic| (k_here; (try dsimp only); (with_reducible show wpAny _ _ (subscriptTail _ _ (Value.ref _) (Value.int 0 _)) _ _ _); k_dflt (refine' item_n ?N ?hm ?h0 ?hk ?hv ?_; (case N => assumption); (case hm => k_mem); (case h0 => decide); (case hk => decide); (case hv => rfl))))
local macro_rules | `(tactic| walk_at "getItem ref int") => `(tactic| (k_here; (try dsimp only); (with_reducible show wpAny _ _ (getItem (Value.ref _) (Value.int _ _)) _ _ _); k_dflt (refine' getItem_at ?N ?hm ?h0 ?hk ?hv ?_; (case N => assumption); (case hm => k_mem); (case h0 => decide); (case hk => decide); (case hv => rfl))))
local macro_rules | `(tactic| walk_at "exec For Tuple") => `(tactic| (k_here; k_dflt (refine' For_turns ?F ?_ ?hs ?hE; (case F => assumption); (case hs => (intro _; exact rfl)); (case hE => first | assumption | passes_own | with_unfolding_all passes_own))))
local macro_rules | `(tactic| walk_at "subscriptTail") => `(tactic| (k_here; (try dsimp only); (with_reducible show wpAny _ _ (subscriptTail _ _ (Value.ref _) (Value.ref _)) _ _ _); k_dflt (refine' init_sliceG ?F ?N ?hm ?hz ?_ ?hs ?ht; (case F => assumption); (case N => assumption); (case hm => k_mem); (case hz => omega); (case hs => with_unfolding_all rfl); (case ht => (intro _; with_unfolding_all rfl))); intro D' h' F' N' l1; (try k_lt l1); (try k_sweep)))
local macro_rules | `(tactic| walk_at "call ref") => `(tactic| (k_here; k_dflt (refine' TellR.use (asciiLower_t ?a1) ?k1 ?k2 ?k3 ?k4 ?k5 ?kK ?kp ?ko ?kd ?ku ?k0 ?_; (case k1 => k_asm); (case k2 => k_asm); (case k3 => k_asm); (case k4 => k_asm); (case k5 => k_asm); (case kK => first | exact rfl | assumption); (case kp => tb_start); (case ko => tb_rel); (case a1 => omega); (case kd => k_room); (case ku => k_units); (case k0 => first | exact (show 1 ≤ _ by (try dsimp only); omega) | exact Nat.zero_le _); intro r9 f9 h9 tk9 p9 F9 N9 hP9; obtain ⟨y9, t9, e1, hy9, e2⟩ := hP9; subst e1; subst e2; (try dsimp only [List.nil_append, List.cons_append] at N9); (try k_fold))))
local macro_rules | `(tactic| kpa_ne) => `(tactic| first | with_reducible assumption)
local macro_rules | `(tactic| kpa_room) => `(tactic| first | with_reducible assumption | (refine List.forall_mem_cons.mpr ⟨?a, ?b⟩; (case a => (dsimp only; first | with_reducible assumption | k_ne)); (case b => kpa_room)))
local macro_rules | `(tactic| kpa_letter) => `(tactic| first | exact List.forall_mem_nil _ | (refine' List.forall_mem_cons.mpr ⟨?a, ?b⟩; (case a => kpa_room); (case b => kpa_letter)))
local macro_rules | `(tactic| kstt_sub) => `(tactic| first | exact fun _ h => h | assumption | (refine' subCons ?a ?b; (case a => first | ((repeat refine' List.Mem.tail _ ?_); with_reducible assumption) | k_mem); (case b => kstt_sub)) | (refine' subTail ?a; (case a => kstt_sub)))
local macro_rules | `(tactic| walk_at "call ref") => `(tactic| (k_here; (with_reducible show wpAny _ _ (call (Value.ref 297) _) _ _ _); k_dflt (refine' TellO.use ?hT ?k1 ?k2 ?k3 ?k4 ?k5 ?kK ?kp ?kO ?ko ?kd ?ku ?k0 ?_; (case hT => k_extra "em"); (case k1 => k_asm); (case k2 => k_asm); (case k3 => k_asm); (case k4 => k_asm); (case k5 => k_asm); (case kK => first | exact rfl | assumption); (case kp => tb_start); (case kO => kstt_sub); (case ko => kpa_letter); (case kd => k_room); (case ku => k_units); (case k0 => first | exact (show 1 ≤ _ by (try dsimp only); omega) | exact Nat.zero_le _); intro r9 f9 h9 tk9 p9 F9 N9 hP9; (obtain ⟨e1, hP8⟩ := hP9; subst e1); (try k_fold))))
theorem tail_G {w : World} {hx hd' tq lf sx sd tx td ra el nl ct dl p : Nat} {κh κ κ' : Nat → Nat} {τ₀ τ₁ τ₂ τ₃ τ₄ σ₀ σ₁ : Nat} {S : SS} {bf st : Value} {vs qs us : List Value} {ep tep dep pep k1 k2 t1 t2 kd : Nat} {oC : Obj} {nmT nm val : PySem.Str} {fl : Bool} {em : Bool} {PE : PySem.Str → List Value → List (Addr × Obj) → (Nat → Nat) → List (Addr × Obj) → List (Addr × Obj) → Prop} {O R : List (Addr × Obj)} {prs : List (PySem.Str × PySem.Str)}
    (hpr : Prs us O prs) (hO : ∀ q ∈ O, q ∈ R) (hD : oC.IsDictOf (PySem.strKind PG w) (ctRows kd k1 nmT k2 dl fl)) (hs : ((ct : Addr) == sysModules) = false)
    (hqs : qs.length ≤ 1000) (hus : us.length ≤ 1000) (hnm : nm.length ≤ 1000) (hnd : NQ6 sx sd tx td ra el) (hh : HQ hx hd' tq sx sd tx td ra el) (hq : AQ hx hd' tq ct dl p sx sd tx td ra el) (hR : offR hx hd' tq ct dl p sx sd tx td ra el R)
    (hem : em = true → ∀ (y : PySem.Str) (refs : List Value) (ex : List (Addr × Obj)) (t : Nat → Nat), y.cps.toList = nm.cps.toList.map lw → Toks w refs ex (if y ∈ prs.map Prod.fst then [dupW] else []) → (∀ q ∈ ex, FreshA hx hd' tq ct dl p sx sd tx td ra el R q.1) →
      TellO w 12 120 (.ref 297) [.ref hx] O (emF w hx hd' tq lf ct dl p sx κh st (qs ++ refs) (t 0) oC us dep y val (t 1) t2 (t 2)) (fun rv f' rest => rv = .none ∧ PE y refs ex t f' rest)) :
    TailAt w (R542 w) 542 18 190 4 [(Str.ofString "self", .ref hx), (Str.ofString "leavingThisState", .bool true), (Str.ofString "emitToken", .bool em)]
      (atL w hx hd' tq lf ct dl p sx sd tx td ra el nl κh κ κ' τ₀ τ₁ τ₂ τ₃ τ₄ σ₀ σ₁ S bf vs ep st qs tep oC us dep nm val t1 t2 pep R)
      (fun rv n' => rv = .bool true ∧ ∃ (t : Nat → Nat) (nm' : PySem.Str) (refs : List Value) (ex : List (Addr × Obj)), nm'.cps.toList = nm.cps.toList.map lw ∧ Toks w refs ex (if nm' ∈ prs.map Prod.fst then [dupW] else []) ∧
        (∀ q ∈ ex, FreshA hx hd' tq ct dl p sx sd tx td ra el R q.1) ∧
        (if em then ∃ f', PE nm' refs ex t f' (stS w sx sd tx td ra el nl κ κ' τ₀ τ₁ τ₂ τ₃ τ₄ σ₀ σ₁ S bf vs ep ++ (ex ++ R)) ∧ n' = f' ++ (stS w sx sd tx td ra el nl κ κ' τ₀ τ₁ τ₂ τ₃ τ₄ σ₀ σ₁ S bf vs ep ++ (ex ++ R))
          else n' = atL w hx hd' tq lf ct dl p sx sd tx td ra el nl κh κ κ' τ₀ τ₁ τ₂ τ₃ τ₄ σ₀ σ₁ S bf vs ep st (qs ++ refs) (t 0) oC us dep nm' val (t 1) t2 (t 2) (ex ++ R))) := by
  have hq0 := hnd
  unfold NQ6 at hq0
  obtain ⟨q1, q2, q3, q4, q5, q6, q7, q8, q9, q10, q11, q12, q13, q14, q15⟩ := hq0
  unfold HQ at hh
  obtain ⟨g1, g2, g3, g4, g5, g6, g7, g8, g9, g10, g11, g12, g13, g14, g15, g16, g17, g18, g19, g20, g21⟩ := hh
  unfold AQ at hq
  obtain ⟨⟨u1, u2, u3, u4, u5, u6, u7, u8, u9⟩, ⟨v1, v2, v3, v4, v5, v6, v7, v8, v9⟩, ⟨w1, w2, w3, w4, w5, w6, w7, w8, w9⟩, x1, x2, x3⟩ := hq
  obtain ⟨o1, o2, o3, o4, o5, o6, o7, o8, o9, o10, o11, o12⟩ := hR
  unfold TailAt KF PG
  k_fill
  intro mean mg mb dp un gd cn cs L₀ a ccd cl L cdv outer base h₀ m s Q E B F hps X N T hd hu htk hE hret
  rw [← kstB_self hps] at F
  clear hps
  dsimp only [atL, stS, stL, List.cons_append, List.nil_append] at N
  simp only [R542, recOfLook, List.drop_succ_cons, List.drop_zero]
  (try k_fold)
  k_with_none
  repeat' (first | ((fail_if_success (with_reducible show wpAny _ _ (PySem.exec (PySem.Stmt.For _ _ _ _ _) _) _ _ _)); first | (k_unfold; (try dsimp only)) | (k_end; wrow_close) | walk1 | (dsimp only [List.cons_append, List.nil_append]; walk1) | (dsimp only) | fail "no step"))
  (rename Fr _ _ _ _ => f7)
  (rename PySem.Str => y9)
  (rename _ = List.map lw _ => hy9)
  have hy9' : y9.cps.toList = nm.cps.toList.map lw := hy9
  clear hy9
  clear N F
  refine mid_cut (fun _ : List Value × List (Addr × Obj) × (Nat → Nat) => [(Str.ofString "self", .ref hx), (Str.ofString "leavingThisState", .bool true), (Str.ofString "emitToken", .bool em)])
    (fun c => atL w hx hd' tq lf ct dl p sx sd tx td ra el nl κh κ κ' τ₀ τ₁ τ₂ τ₃ τ₄ σ₀ σ₁ S bf vs ep st (qs ++ c.1) (c.2.2 0) oC us dep y9 val (c.2.2 1) t2 (c.2.2 2) (c.2.1 ++ R))
    (fun c => Toks w c.1 c.2.1 (if y9 ∈ prs.map Prod.fst then [dupW] else []) ∧ (∀ q ∈ c.2.1, FreshA hx hd' tq ct dl p sx sd tx td ra el R q.1)) f7 ?h0 ?h ?k
  case h0 => omega
  case k =>
    rintro ⟨refs, ex, t⟩ m8 h8 tk8' p8 ⟨hT, hF⟩ F8 N8
    dsimp only at F8 N8 hT hF
    cases em with
    | false =>
      (try k_fold)
      k_with_none
      k_steps
      exact hret _ _ _ _ _ F8 N8 ⟨rfl, t, y9, refs, ex, hy9', hT, hF, rfl⟩
    | true =>
      have hO' : ∀ q ∈ O, q ∈ ex ++ R := fun q h => List.mem_append_right _ (hO q h)
      have z1 := offX (fun q h => (hF q h).1) o1
      have z2 := offX (fun q h => (hF q h).2.1) o2
      have z3 := offX (fun q h => (hF q h).2.2.1) o3
      have z4 := offX (fun q h => (hF q h).2.2.2.1) o4
      have z5 := offX (fun q h => (hF q h).2.2.2.2.1) o5
      have z6 := offX (fun q h => (hF q h).2.2.2.2.2.1) o6
      dsimp only [atL, stS, stL, List.cons_append, List.nil_append] at N8
      (try k_fold)
      k_with_none
      k_with "em" => exact hem rfl y9 refs ex t hy9' hT hF
      k_steps
      exact hret _ _ _ _ _ (by assumption) (by assumption) ⟨rfl, t, y9, refs, ex, hy9', hT, hF, _, (by assumption), rfl⟩
  case h =>
    repeat' (first | ((fail_if_success (with_reducible show wpAny _ _ (pyIter _) _ _ _)); first | (k_unfold; (try dsimp only)) | (k_end; wrow_close) | walk1 | (dsimp only [List.cons_append, List.nil_append]; walk1) | (dsimp only) | fail "no step"))
    (rename Fr _ _ _ _ => f8)
    (rename News _ _ _ _ => n8)
    (rename _ < _ ∧ _ => l8)
    obtain ⟨D9, eD⟩ := News.addr n8
    subst eD
    obtain ⟨m1, m2, m3, m4, m5, m6, m7, m8, m9, m10, m11, m12, m13⟩ := l8
    have dq : Nq D9 tq := Nat.ne_of_gt m3
    have hDl : Heap.IsList _ D9 us.toArray := ⟨_, (n8 _ (.head _)).1, rfl, _, rfl⟩
    refine' turns_list (fun _ : Unit => [(tq, W.listOf qs.toArray tep)])
      ((D9, W.listOf us.toArray 0) :: (hx, instObj 762 hd') :: (hd', hdD8 w κh sx lf tq st (.ref ct)) :: (ct, oC) :: (dl, W.listOf (us ++ [Value.ref p]).toArray dep) :: (p, W.listOf [Value.str y9 _, Value.str val t2].toArray pep) :: (stS w sx sd tx td ra el nl κ κ' τ₀ τ₁ τ₂ τ₃ τ₄ σ₀ σ₁ S bf vs ep ++ R))
      (fun _ => [(Str.ofString "self", .ref hx), (Str.ofString "leavingThisState", .bool true), (Str.ofString "emitToken", .bool em)]) [Str.ofString "name", Str.ofString "_"] (fun pre _ => y9 ∉ (prs.take pre.length).map Prod.fst) () rfl hDl (.inl ⟨_, .head _⟩) f8 ?N ?off ?hk ?hp ?turn ?done
    case N =>
      dsimp only [stS, stL, List.cons_append, List.nil_append]
      refine' nsub n8 ?N2
      case N2 => kstt_sub
    case off =>
      dsimp only [stS, stL, List.cons_append, List.nil_append]
      kpa_letter
    case hk => kst_all
    case hp => exact fun h => nomatch h
    case turn =>
      rintro ⟨⟩ pre post v u h' tk' rest' hpre hP off' sub' F' N'
      dsimp only [stS, stL, List.cons_append, List.nil_append] at F' N' hP off' sub'
      simp only [List.forall_mem_cons] at off' sub'
      obtain ⟨p1, -⟩ := off'
      obtain ⟨s1, s2, s3, s4, s5, s6, s7, s8, s9, s10, s11, s12, sR⟩ := sub'
      obtain ⟨a9, n9, ta, tb, q9, ev, hq9, hm9⟩ := hpr.at pre.length v (by rw [hpre]; simp)
      subst ev
      have hmr : List.Mem (a9, W.listOf [Value.str q9.1 ta, Value.str q9.2 tb].toArray n9) rest' := sR _ (hO _ hm9)
      have d1 : Nq a9 tq := p1 _ hmr
      have N2 := nsub N' (a := _) (subCons (.head _) (subCons (.tail _ hmr) (subCons (.tail _ s2) (subCons (.tail _ s3) (subCons (.tail _ s4) (subCons (.tail _ s5) (subCons (.tail _ s6) (fun q h => .tail _ h))))))))
      clear n8 f8 N'
      (try k_fold)
      k_with_none
      repeat' (first | ((fail_if_success (with_reducible show MidEnd _ _ _ _ _ _ _ _ _)); (fail_if_success (with_reducible show TEnd _ _ _ _ _ _ _)); first | (k_unfold; (try dsimp only)) | (k_end; wrow_close) | walk1 | (dsimp only [List.cons_append, List.nil_append]; walk1) | (dsimp only) | fail "no step"))
      · (rename News _ _ _ _ => n9)
        (rename Obj.IsDictOf _ _ _ => hdict)
        (rename _ < _ ∧ _ => lq)
        (rename (_ == _) = true => hb)
        obtain ⟨e1, e2, e3, e4, e5, e6, e7, eR⟩ := lq
        have s7' := (show List.Mem _ _ from s7)
        have s8' := (show List.Mem _ _ from s8)
        have s9' := (show List.Mem _ _ from s9)
        have s10' := (show List.Mem _ _ from s10)
        have s11' := (show List.Mem _ _ from s11)
        have s12' := (show List.Mem _ _ from s12)
        have hb' := eq_of_beq hb
        have hin : y9 ∈ prs.map Prod.fst := List.mem_map.mpr ⟨q9, List.mem_of_getElem? hq9, hb'.symm⟩
        simp only [push_app] at n9
        refine' ⟨([_], [_], tk8 _ _ _ 0 0 0 0 0), _, _, _, rfl, ?Fb, ?Nb, ?pb, ?Tb, ?Gb⟩
        case Fb => assumption
        case Nb =>
          dsimp only [atL, stS, stL, List.cons_append, List.nil_append]
          refine' nsub n9 ?N2b
          case N2b => kstt_sub
        case pb => kst_all
        case Tb =>
          rw [if_pos hin]
          exact .cons hdict .nil
        case Gb =>
          refine List.forall_mem_singleton.mpr ?_
          unfold FreshA
          dsimp only
          exact ⟨e3, e4, e1, e5, e6, e7, tb_ltOf eR _ s7, tb_ltOf eR _ s8, tb_ltOf eR _ s9, tb_ltOf eR _ s10, tb_ltOf eR _ s11, tb_ltOf eR _ s12, allLt_of fun q hq => tb_ltOf eR q (sR q hq)⟩
      · (rename News _ _ _ _ => n9)
        (rename (_ == _) = false => hb)
        refine' ⟨(), _, _, _, rfl, ?Fe, ?Ne, ?oe, ?pe, ?ne, ?Pe⟩
        case Fe => assumption
        case Ne =>
          dsimp only [List.cons_append, List.nil_append]
          refine' nsub n9 ?N2e
          case N2e => kstt_sub
        case oe => exact List.forall_mem_singleton.mpr p1
        case pe => kst_all
        case ne =>
          intro z h2 h3
          have h4 : z ≠ Str.ofString "name" := by rintro rfl; exact absurd h3 (by decide +kernel)
          have h5 : z ≠ Str.ofString "_" := by rintro rfl; exact absurd h3 (by decide +kernel)
          simp only [List.forall_mem_cons] at h2
          simp [h2, h3, h4, h5, kstB]
        case Pe =>
          rw [List.length_append, List.length_singleton, List.take_add_one, hq9, List.map_append, List.mem_append]
          rintro (h | h)
          · exact hP h
          · have e : y9 = q9.1 := by simpa using h
            rw [e] at hb
            simp at hb
    case done =>
      rintro ⟨⟩ u h' tk' hP off' F' N'
      dsimp only [stS, stL, List.cons_append, List.nil_append] at F' N' hP off'
      refine' ⟨([], [], tk8 tep _ pep 0 0 0 0 0), _, _, _, rfl, ?Fd, ?Nd, ?pd, ?Td, ?Gd⟩
      case Fd => exact F'
      case Nd =>
        dsimp only [atL, stS, stL, List.cons_append, List.nil_append]
        (try simp only [List.append_nil])
        refine' nsub N' ?N2d
        case N2d => kstt_sub
      case pd => kst_all
      case Td =>
        rw [hpr.len, List.take_length] at hP
        rw [if_neg hP]
        exact .nil
      case Gd => exact List.forall_mem_nil _
end
end Mine
theorem Mine.off_p5 {M : Model} {A : Around} {env : Env} {Q : Flow → Shared → Prop} {E : Value → Shared → Prop} {s : Shared} (h : wpAny M A (execs [] env) Q E s) : wpAny M A (execs [] env) Q E s := by
  (try (walk1; fail "no"))
  w_top off
  exact h
namespace Mine
local macro_rules | `(tactic| k_ne) => `(tactic| first | exact (show Nq _ _ by with_reducible assumption) | exact Ne.symm (show Nq _ _ by with_reducible assumption) | (refine neN ?_; (try dsimp only); omega))
local macro_rules | `(tactic| k_room) => `(tactic| ((try simp only [depth_under_make, depth_under_kw, depth_in1, depth_deeper, depth_caller, ktrTop, recursionLimit] at *); omega))
local macro_rules | `(tactic| k_units) => `(tactic| ((have hcL9 := cLine_is); (try simp only [units_in1, units_deeper, Around.mark_units, units_caller, ktrTop] at *); omega))
local macro_rules | `(tactic| ktr_enter) => `(tactic| (refine' code_def ?k1 ?k2 ?k3 ?k4 ?k5 ?kA ?kF ?kK ?k6 ?k7 ?k8 ?k9 ?kB ?_ ?c2 ?c3 ?c4 ?c5; (case kA => exact rfl); (case kF => exact rfl); (case kK => first | exact rfl | assumption); (case k1 => k_asm); (case k2 => k_asm); (case k3 => k_asm); (case k4 => k_asm); (case k5 => k_asm); (case k6 => k_is); (case k7 => k_is); (case k8 => k_room); (case k9 => first | exact BindsTo.of_eq rfl | exact binds_K (by k_in) rfl (by k_is) rfl rfl rfl); (case c5 => decide); (case kB => exact locs rfl); (case c2 => exact rfl); (case c3 => exact rfl); (case c4 => exact rfl); k_whole; intro g' L' h' FG' F' N' B' X' T'; (try dsimp only); (try k_fold)))
local macro_rules | `(tactic| k_all) => `(tactic| (with_reducible assumption))
local macro_rules | `(tactic| tb_lt) => `(tactic| first | exact Pick.head | (refine' Pick.tail ?c; (case c => tb_lt)))
local macro_rules | `(tactic| tb_start) => `(tactic| first | exact Picks.nil | (refine' Picks.cons ?a ?b; (case a => tb_lt); (case b => tb_start)))
local macro_rules | `(tactic| tb_rel) => `(tactic| first | exact List.forall_mem_nil _ | (refine' List.forall_mem_cons.mpr ⟨?a, ?b⟩; (case a => k_all); (case b => tb_rel)))
local macro_rules | `(tactic| walk_at "TPost") => `(tactic| (dsimp only [TPost]))
local macro_rules | `(tactic| size_fits) => `(tactic| ((simp only [PySem.sizeLine_eq, List.size_toArray]); omega))
local macro_rules | `(tactic| k_gentoks) => `(tactic| (with_reducible refine' gen_toksP ?hp ?_; (case hp => first | omega | ((try simp only [List.length_cons]); omega)); intro tk htk))
local macro_rules | `(tactic| kstt_sub) => `(tactic| first | exact fun _ h => h | assumption | (refine' subCons ?a ?b; (case a => k_mem); (case b => kstt_sub)) | (refine' subTail ?a; (case a => kstt_sub)))
local macro_rules | `(tactic| kst_all) => `(tactic| first | exact List.forall_mem_nil _ | (refine' List.forall_mem_cons.mpr ⟨?a, ?b⟩; (case a => exact rfl); (case b => kst_all)))
local macro_rules | `(tactic| walk_at "MidEnd") => `(tactic| first
  | ((with_reducible show MidEnd _ _ _ _ _ _ _ Flow.next _); (refine' ⟨(tk8 _ _ _ _ _ _ _ _, _), _, _, _, rfl, ?F, ?N, ?ps, ?P⟩); (case F => assumption); (case N => (refine' nsub ?N1 ?N2; (case N1 => assumption); (case N2 => kstt_sub))); (case ps => kst_all); (case P => k_extra "mid"))
  | ((fail_if_success (with_reducible show MidEnd _ _ _ _ _ _ _ Flow.next _)); dsimp only [MidEnd]))
local macro_rules | `(tactic| walk_at "WEnd") => `(tactic| ((fail_if_success (with_reducible show WEnd _ _ _ _ _ _ _ _ _ Flow.next _)); dsimp only [WEnd]))
local macro_rules | `(tactic| walk_at "callWith") => `(tactic| (k_here; (with_reducible refine' callWith_method1 ?_ ?he ?hp); (case he => k_dflt rfl); (case hp => k_dflt rfl)))
local macro_rules | `(tactic| k_steps) => `(tactic| repeat' (first | (k_unfold; (try dsimp only)) | (k_end; wrow_close) | walk1 | (dsimp only [List.cons_append, List.nil_append]; walk1) | (dsimp only) | fail "no step"))
section
local macro_rules | `(tactic| walk_at "subscriptTail") => `(tactic| (k_here; (with_reducible show wpAny _ _ (subscriptTail _ _ (Value.ref 48) (Value.str (PySem.Str.ofString "ParseError") _)) _ _ _); k_dflt (refine' tt_err ?F ?X ?_; (case F => assumption); (case X => assumption)); intro u))
local macro_rules | `(tactic| walk_at "subscriptTail") => `(tactic| (k_here; (with_reducible show wpAny _ _ (subscriptTail _ _ (Value.ref 48) (Value.str (PySem.Str.ofString "StartTag") _)) _ _ _); k_dflt (refine' tt_start ?F ?X ?_; (case F => assumption); (case X => assumption)); intro u))
local macro_rules | `(tactic| walk_at "subscriptTail") => `(tactic| (k_here; (with_reducible show wpAny _ _ (subscriptTail _ _ (Value.ref 48) (Value.str (PySem.Str.ofString "EndTag") _)) _ _ _); k_dflt (refine' tt_end ?F ?X ?_; (case F => assumption); (case X => assumption)); intro u))
local macro_rules | `(tactic| walk_at "compareOp In") => `(tactic| (k_here; (with_reducible show wpAny _ _ (compareOp CmpOp.In (Value.int _ _) (Value.ref 49)) _ _ _); k_dflt (refine' in_tags ?f ?x ?k ?_; (case f => assumption); (case x => assumption); (case k => first | exact Or.inl rfl | exact Or.inr rfl))))
local macro_rules | `(tactic| walk_at "ite") => `(tactic| (k_here; first | (refine if_yes ?a ?_; (case a => with_reducible assumption)) | (refine if_no ?a ?_; (case a => with_reducible assumption))))
local macro_rules | `(tactic| walk_at "truthy ref") => `(tactic| (k_here; k_dflt (refine' truthy_snoc ?N ?hm ?hz ?_; (case N => assumption); (case hm => k_mem); (case hz => omega))))
local macro_rules | `(tactic| walk_at "call ref") => `(tactic| (k_here; k_dflt (refine' TellR.use (asciiLower_t ?a1) ?k1 ?k2 ?k3 ?k4 ?k5 ?kK ?kp ?ko ?kd ?ku ?k0 ?_; (case k1 => k_asm); (case k2 => k_asm); (case k3 => k_asm); (case k4 => k_asm); (case k5 => k_asm); (case kK => first | exact rfl | assumption); (case kp => tb_start); (case ko => tb_rel); (case a1 => omega); (case kd => k_room); (case ku => k_units); (case k0 => first | exact (show 1 ≤ _ by (try dsimp only); omega) | exact Nat.zero_le _); intro r9 f9 h9 tk9 p9 F9 N9 hP9; obtain ⟨y9, t9, e1, hy9, e2⟩ := hP9; subst e1; subst e2; (try dsimp only [List.nil_append, List.cons_append] at N9); (try k_fold))))
theorem emit_E {w : World} {hx hd' tq lf ct dl p sx : Nat} {κh : Nat → Nat} {st : Value} {qs us : List Value} {tep dep pep k1 k2 t1 t2 : Nat} {oC : Obj} {nmT nm val : PySem.Str} {fl : Bool}
    (hD : oC.IsDictOf (PySem.strKind PG w) (ctRows 4 k1 nmT k2 dl fl)) (hs : ((ct : Addr) == sysModules) = false) (hqs : qs.length ≤ 1000) (hus : us.length ≤ 900) (hnm : nmT.length ≤ 1000) (hq : EQ6 hx hd' tq ct dl p) :
    TellR w 12 120 (.ref 297) [.ref hx] (emF w hx hd' tq lf ct dl p sx κh st qs tep oC us dep nm val t1 t2 pep)
      (fun rv f' rest => rv = .none ∧ ∃ (te q' : Nat) (oC' : Obj) (y : PySem.Str) (u1 u2 : Nat) (refs : List Value) (ex : List (Addr × Obj)), y.cps.toList = nmT.cps.toList.map lw ∧
        Toks w refs ex (Str.ofString "attributes-in-end-tag" :: (if fl then [Str.ofString "self-closing-flag-on-end-tag"] else [])) ∧
        oC'.IsDictOf (PySem.strKind PG w) (ctRows 4 u1 y u2 dl fl) ∧ (∀ q ∈ ex, Fresh6 hx hd' tq ct dl p rest q.1 ∧ q.1 < q') ∧ Fresh6 hx hd' tq ct dl p rest q' ∧
        f' = [(hx, instObj 762 hd'), (hd', hdD8 w κh sx lf tq (.ref q') (.ref ct)), (tq, W.listOf (qs ++ refs ++ [Value.ref ct]).toArray te), (ct, oC'), (dl, W.listOf (us ++ [Value.ref p]).toArray dep), (p, W.listOf [Value.str nm t1, Value.str val t2].toArray pep), (q', methodObj (.ref 304) (.ref hx))] ++ ex) := by
  unfold EQ6 at hq
  obtain ⟨g1, g8, g9, u1, u2, u3, v1, v2, v3, w1, w2, w3, x1, x2, x3⟩ := hq
  unfold TellR Tell KF PG
  k_fill
  intro rest off' mean mg mb dp un gd cn cs a ccd cl outer A₀ base h₀ L m s Q E B F X N T hk hd hu hret
  dsimp only [emF, List.cons_append, List.nil_append] at off' N
  simp only [List.forall_mem_cons] at off'
  obtain ⟨o1, o2, o3, o4, o5, o6, -⟩ := off'
  k_dflt ktr_enter
  k_with_none
  k_steps
  · (rename fl = true => hfl)
    subst hfl
    (rename News _ _ _ _ => n9)
    (rename _ < _ ∧ _ => lq)
    obtain ⟨m1, m2, m3, m4, m5, m6, m7, m8, m9⟩ := lq
    (rename _ < _ ∧ _ => lb)
    obtain ⟨n1, n2, n3, n4, n5, n6, n7, n8⟩ := lb
    (rename _ < _ ∧ _ => la)
    (rename Obj.IsDictOf _ _ [_, _, _, _] => hC9)
    (try simp only [push_app, List.append_assoc, List.cons_append, List.nil_append] at n9)
    refine' hret _ _ _ _ (by assumption) ?S9 ⟨_, ⟨rfl, _, _, _, _, _, _, [_, _], [_, _], (by assumption), .cons (by assumption) (.cons (by assumption) .nil), hC9, ?G9, ⟨m3, m4, m5, m6, m7, m8, m9⟩, rfl⟩, rfl⟩
    case S9 =>
      (try simp only [List.append_assoc, List.cons_append, List.nil_append])
      refine' nsub n9 ?N2
      case N2 => kstt_sub
    case G9 => exact List.forall_mem_cons.mpr ⟨⟨la, m2⟩, List.forall_mem_singleton.mpr ⟨⟨n2, n3, n4, n5, n6, n7, n8⟩, m1⟩⟩
  · (rename fl = false => hfl)
    subst hfl
    (rename News _ _ _ _ => n9)
    (rename _ < _ ∧ _ => lq)
    obtain ⟨m1, m3, m4, m5, m6, m7, m8, m9⟩ := lq
    (rename _ < _ ∧ _ => la)
    (rename Obj.IsDictOf _ _ [_, _, _, _] => hC9)
    (try simp only [push_app, List.append_assoc, List.cons_append, List.nil_append] at n9)
    refine' hret _ _ _ _ (by assumption) ?S9f ⟨_, ⟨rfl, _, _, _, _, _, _, [_], [_], (by assumption), .cons (by assumption) .nil, hC9, ?G9f, ⟨m3, m4, m5, m6, m7, m8, m9⟩, rfl⟩, rfl⟩
    case S9f =>
      (try simp only [List.append_assoc, List.cons_append, List.nil_append])
      refine' nsub n9 ?N2f
      case N2f => kstt_sub
    case G9f => exact List.forall_mem_singleton.mpr ⟨la, m1⟩
end
end Mine
theorem Mine.off_q2 {M : Model} {A : Around} {env : Env} {Q : Flow → Shared → Prop} {E : Value → Shared → Prop} {s : Shared} (h : wpAny M A (execs [] env) Q E s) : wpAny M A (execs [] env) Q E s := by
  (try (walk1; fail "no"))
  w_top off
  exact h
namespace Mine
local macro_rules | `(tactic| k_ne) => `(tactic| first | exact (show Nq _ _ by with_reducible assumption) | exact Ne.symm (show Nq _ _ by with_reducible assumption) | (refine neN ?_; (try dsimp only); omega))
local macro_rules | `(tactic| k_room) => `(tactic| ((try simp only [depth_under_make, depth_under_kw, depth_in1, depth_deeper, depth_caller, ktrTop, recursionLimit] at *); omega))
local macro_rules | `(tactic| k_units) => `(tactic| ((have hcL9 := cLine_is); (try simp only [units_in1, units_deeper, Around.mark_units, units_caller, ktrTop] at *); omega))
local macro_rules | `(tactic| ktr_enter) => `(tactic| (refine' code_def ?k1 ?k2 ?k3 ?k4 ?k5 ?kA ?kF ?kK ?k6 ?k7 ?k8 ?k9 ?kB ?_ ?c2 ?c3 ?c4 ?c5; (case kA => exact rfl); (case kF => exact rfl); (case kK => first | exact rfl | assumption); (case k1 => k_asm); (case k2 => k_asm); (case k3 => k_asm); (case k4 => k_asm); (case k5 => k_asm); (case k6 => k_is); (case k7 => k_is); (case k8 => k_room); (case k9 => first | exact BindsTo.of_eq rfl | exact binds_K (by k_in) rfl (by k_is) rfl rfl rfl); (case c5 => decide); (case kB => exact locs rfl); (case c2 => exact rfl); (case c3 => exact rfl); (case c4 => exact rfl); k_whole; intro g' L' h' FG' F' N' B' X' T'; (try dsimp only); (try k_fold)))
local macro_rules | `(tactic| k_all) => `(tactic| (with_reducible assumption))
local macro_rules | `(tactic| tb_lt) => `(tactic| first | exact Pick.head | (refine' Pick.tail ?c; (case c => tb_lt)))
local macro_rules | `(tactic| tb_start) => `(tactic| first | exact Picks.nil | (refine' Picks.cons ?a ?b; (case a => tb_lt); (case b => tb_start)))
local macro_rules | `(tactic| tb_rel) => `(tactic| first | exact List.forall_mem_nil _ | (refine' List.forall_mem_cons.mpr ⟨?a, ?b⟩; (case a => k_all); (case b => tb_rel)))
local macro_rules | `(tactic| walk_at "TPost") => `(tactic| (dsimp only [TPost]))
local macro_rules | `(tactic| size_fits) => `(tactic| ((simp only [PySem.sizeLine_eq, List.size_toArray]); omega))
local macro_rules | `(tactic| k_gentoks) => `(tactic| (with_reducible refine' gen_toksP ?hp ?_; (case hp => first | omega | ((try simp only [List.length_cons]); omega)); intro tk htk))
local macro_rules | `(tactic| kstt_sub) => `(tactic| first | exact fun _ h => h | assumption | (refine' subCons ?a ?b; (case a => k_mem); (case b => kstt_sub)) | (refine' subTail ?a; (case a => kstt_sub)))
local macro_rules | `(tactic| kst_all) => `(tactic| first | exact List.forall_mem_nil _ | (refine' List.forall_mem_cons.mpr ⟨?a, ?b⟩; (case a => exact rfl); (case b => kst_all)))
local macro_rules | `(tactic| walk_at "MidEnd") => `(tactic| first
  | ((with_reducible show MidEnd _ _ _ _ _ _ _ Flow.next _); (refine' ⟨(tk8 _ _ _ _ _ _ _ _, _), _, _, _, rfl, ?F, ?N, ?ps, ?P⟩); (case F => assumption); (case N => (refine' nsub ?N1 ?N2; (case N1 => assumption); (case N2 => kstt_sub))); (case ps => kst_all); (case P => k_extra "mid"))
  | ((fail_if_success (with_reducible show MidEnd _ _ _ _ _ _ _ Flow.next _)); dsimp only [MidEnd]))
local macro_rules | `(tactic| walk_at "WEnd") => `(tactic| ((fail_if_success (with_reducible show WEnd _ _ _ _ _ _ _ _ _ Flow.next _)); dsimp only [WEnd]))
local macro_rules | `(tactic| walk_at "callWith") => `(tactic| (k_here; (with_reducible refine' callWith_method1 ?_ ?he ?hp); (case he => k_dflt rfl); (case hp => k_dflt rfl)))
local macro_rules | `(tactic| k_steps) => `(tactic| repeat' (first | (k_unfold; (try dsimp only)) | (k_end; wrow_close) | walk1 | (dsimp only [List.cons_append, List.nil_append]; walk1) | (dsimp only) | fail "no step"))
section
local macro_rules | `(tactic| walk_at "subscriptTail") => `(tactic| (k_here; (with_reducible show wpAny _ _ (subscriptTail _ _ (Value.ref 48) (Value.str (PySem.Str.ofString "ParseError") _)) _ _ _); k_dflt (refine' tt_err ?F ?X ?_; (case F => assumption); (case X => assumption)); intro u))
local macro_rules | `(tactic| walk_at "subscriptTail") => `(tactic| (k_here; (with_reducible show wpAny _ _ (subscriptTail _ _ (Value.ref 48) (Value.str (PySem.Str.ofString "StartTag") _)) _ _ _); k_dflt (refine' tt_start ?F ?X ?_; (case F => assumption); (case X => assumption)); intro u))
local macro_rules | `(tactic| walk_at "subscriptTail") => `(tactic| (k_here; (with_reducible show wpAny _ _ (subscriptTail _ _ (Value.ref 48) (Value.str (PySem.Str.ofString "EndTag") _)) _ _ _); k_dflt (refine' tt_end ?F ?X ?_; (case F => assumption); (case X => assumption)); intro u))
local macro_rules | `(tactic| walk_at "ite") => `(tactic| (k_here; first | (refine if_yes ?a ?_; (case a => with_reducible assumption)) | (refine if_no ?a ?_; (case a => with_reducible assumption))))
local macro_rules | `(tactic| walk_at "compareOp In") => `(tactic| (k_here; (with_reducible show wpAny _ _ (compareOp CmpOp.In (Value.str _ _) (Value.ref 27)) _ _ _); k_dflt (refine' in_letters ?f ?x ?_; (case f => assumption); (case x => assumption))))
local macro_rules | `(tactic| walk_at "compareOp In") => `(tactic| (k_here; (with_reducible show wpAny _ _ (compareOp CmpOp.In (Value.str _ _) (Value.ref 22)) _ _ _); k_dflt (refine' in_spaces ?f ?x ?_; (case f => assumption); (case x => assumption))))
local macro_rules | `(tactic| walk_at "subscriptTail") => `(tactic| (k_here; (try dsimp only); (with_reducible show wpAny _ _ (subscriptTail _ _ (Value.ref _) (Value.int _ _)) _ _ _); k_dflt (refine' item_last_t ?N ?hm ?hv ?_; (case N => assumption); (case hm => k_mem); (case hv => exact back_snoc))))
local macro_rules | `(tactic| walk_at "getItem ref int") => `(tactic| (k_here; (try dsimp only); (with_reducible show wpAny _ _ (getItem (Value.ref _) (Value.int _ _)) _ _ _); k_dflt (refine' getItem_at ?N ?hm ?h0 ?hk ?hv ?_; (case N => assumption); (case hm => k_mem); (case h0 => decide); (case hk => decide); (case hv => rfl))))
local macro_rules | `(tactic| walk_at "call ref") => `(tactic| (k_here; k_dflt (refine' TellR.use (char_s ?a1 ?a2 ?a3 ?a4) ?k1 ?k2 ?k3 ?k4 ?k5 ?kK ?kp ?ko ?kd ?ku ?k0 ?_; (case k1 => k_asm); (case k2 => k_asm); (case k3 => k_asm); (case k4 => k_asm); (case k5 => k_asm); (case kK => first | exact rfl | assumption); (case kp => tb_start); (case ko => tb_rel); (case a1 => assumption); (case a2 => assumption); (case a3 => assumption); (case a4 => assumption); (case kd => k_room); (case ku => k_units); (case k0 => first | exact (show 1 ≤ _ by (try dsimp only); omega) | exact Nat.zero_le _); intro r9 f9 h9 tk9 p9 F9 N9 hP9; obtain ⟨S2, a0, a1, a2, a3, a4, b0, b1, bv2, vs2, ep2, hr2, hrem2, hw2, htot2, hpos2, hsuf2, hcl2, hb2, hv2, e2⟩ := hP9; subst e2; dsimp only [stS, stL, List.cons_append, List.nil_append] at N9; k_extra "ch"; (try dsimp only [List.nil_append, List.cons_append] at N9); (try k_fold))))
theorem FreshA.less {hx hd' tq ct dl p sx sd tx td ra el e : Nat} {q : Addr × Obj} {R : List (Addr × Obj)} (h : FreshA hx hd' tq ct dl p sx sd tx td ra el (q :: R) e) : FreshA hx hd' tq ct dl p sx sd tx td ra el R e := by
  unfold FreshA at h ⊢
  exact ⟨h.1, h.2.1, h.2.2.1, h.2.2.2.1, h.2.2.2.2.1, h.2.2.2.2.2.1, h.2.2.2.2.2.2.1, h.2.2.2.2.2.2.2.1, h.2.2.2.2.2.2.2.2.1, h.2.2.2.2.2.2.2.2.2.1, h.2.2.2.2.2.2.2.2.2.2.1, h.2.2.2.2.2.2.2.2.2.2.2.1, h.2.2.2.2.2.2.2.2.2.2.2.2.2⟩
theorem attr_X1 {w : World} {hx hd' tq lf sx sd tx td ra el nl ct dl p : Nat} {κh κ κ' : Nat → Nat} {τ₀ τ₁ τ₂ τ₃ τ₄ σ₀ σ₁ : Nat} {S : SS} {bf st : Value} {vs qs us : List Value} {ep tep dep pep k1 k2 t1 t2 kd : Nat} {oC : Obj} {nmT nm val : PySem.Str} {fl : Bool} {O : List (Addr × Obj)} {prs : List (PySem.Str × PySem.Str)} {c : Nat} {r : List Nat} (hc : rem S = c :: r) (h2 : decide (c ∈ letC) = false) (h3 : ((⟨#[c]⟩ : PySem.Str) == PySem.Str.ofString ">") = false)
    (hX : ((⟨#[c]⟩ : PySem.Str) == PySem.Str.ofString "=") = true ∨ (((⟨#[c]⟩ : PySem.Str) == PySem.Str.ofString "=") = false ∧ decide (c ∈ spcC) = true) ∨ (((⟨#[c]⟩ : PySem.Str) == PySem.Str.ofString "=") = false ∧ decide (c ∈ spcC) = false ∧ ((⟨#[c]⟩ : PySem.Str) == PySem.Str.ofString "/") = true))
    (hpr : Prs us O prs) (hD : oC.IsDictOf (PySem.strKind PG w) (ctRows kd k1 nmT k2 dl fl)) (hs : ((ct : Addr) == sysModules) = false)
    (hv : Errs vs S.n) (hbf : BfV S.bo bf) (hw : WF S) (hqs : qs.length ≤ 900) (hus : us.length ≤ 900) (hnm : nm.length ≤ 1000) (hnd : NQ6 sx sd tx td ra el) (hh : HQ hx hd' tq sx sd tx td ra el) (hq : AQ hx hd' tq ct dl p sx sd tx td ra el) :
    TellO w 20 200 (.ref 542) [.ref hx] O (atF w hx hd' tq lf ct dl p sx sd tx td ra el nl κh κ κ' τ₀ τ₁ τ₂ τ₃ τ₄ σ₀ σ₁ S bf vs ep st qs tep oC us dep nm val t1 t2 pep)
      (fun rv f' rest => rv = .bool true ∧ ∃ (S' : SS) (a0 a1 a2 a3 a4 b0 b1 : Nat) (bv : Value) (vs' : List Value) (ep' q' mr : Nat) (t : Nat → Nat) (nm' : PySem.Str) (refs : List Value) (ex : List (Addr × Obj)), nm'.cps.toList = nm.cps.toList.map lw ∧ rem S' = r ∧ WF S' ∧ BfV S'.bo bv ∧ Errs vs' S'.n ∧
        Toks w refs ex ((if nm' ∈ prs.map Prod.fst then [dupW] else [])) ∧ (∀ q ∈ ex, FreshA hx hd' tq ct dl p sx sd tx td ra el rest q.1) ∧ FreshA hx hd' tq ct dl p sx sd tx td ra el rest q' ∧
        f' = atF w hx hd' tq lf ct dl p sx sd tx td ra el nl κh κ κ' a0 a1 a2 a3 a4 b0 b1 S' bv vs' ep' (.ref q') (qs ++ refs) (t 0) oC us dep nm' val (t 1) t2 (t 2) ++ ex ++ [(q', methodObj (.ref mr) (.ref hx))]) := by
  have hq0 := hnd
  unfold NQ6 at hq0
  obtain ⟨q1, q2, q3, q4, q5, q6, q7, q8, q9, q10, q11, q12, q13, q14, q15⟩ := hq0
  have hh0 := hh
  unfold HQ at hh0
  obtain ⟨g1, g2, g3, g4, g5, g6, g7, g8, g9, g10, g11, g12, g13, g14, g15, g16, g17, g18, g19, g20, g21⟩ := hh0
  have hq9 := hq
  unfold AQ at hq9
  obtain ⟨⟨u1, u2, u3, u4, u5, u6, u7, u8, u9⟩, ⟨v1, v2, v3, v4, v5, v6, v7, v8, v9⟩, ⟨w1, w2, w3, w4, w5, w6, w7, w8, w9⟩, x1, x2, x3⟩ := hq9
  unfold TellO Tell KF PG
  k_fill
  intro rest hO off' mean mg mb dp un gd cn cs a ccd cl outer A₀ base h₀ L m s Q E B F X N T hk hd hu hret
  dsimp only [atF, stS, stL, List.cons_append, List.nil_append] at off' N
  simp only [List.forall_mem_cons] at off'
  obtain ⟨o1, o2, o3, o4, o5, o6, o7, o8, o9, o10, o11, o12, -⟩ := off'
  k_dflt ktr_enter
  k_with_none
  k_with "ch" => ((rename BfV (List.head? _) _ => hr9); rw [hc] at hr9; obtain ⟨t9, e9⟩ := hr9; subst e9)
  repeat' (first | ((fail_if_success (with_reducible show wpAny _ _ (PySem.exec (PySem.Stmt.If _ _ _ _) _) _ _ _)); first | (k_unfold; (try dsimp only)) | (k_end; wrow_close) | walk1 | (dsimp only [List.cons_append, List.nil_append]; walk1) | (dsimp only) | fail "no step"))
  (rename SS => S2)
  (rename rem _ = List.tail _ => hr8)
  rw [hc] at hr8
  have hr7 : rem S2 = r := hr8
  clear hr8
  rcases hX with h1 | ⟨h1, h4⟩ | ⟨h1, h4, h5⟩
  all_goals (
    repeat' (first | ((fail_if_success (with_reducible show wpAny _ _ (execs (_ :: _ :: []) _) _ _ _)); first | (k_unfold; (try dsimp only)) | (k_end; wrow_close) | walk1 | (dsimp only [List.cons_append, List.nil_append]; walk1) | (dsimp only) | fail "no step")))
  all_goals (
    dsimp only
    (rename Fr _ _ _ _ => f9)
    (rename News _ _ _ _ => n9)
    (rename _ < _ ∧ _ => lq)
    obtain ⟨q9, eq9⟩ := News.addr n9
    subst eq9
    obtain ⟨z7, z8, z9, z10, z11, z12, z1, z2, z3, z4, z5, z6, z13⟩ := lq
    have hR9 : ∀ {a : Nat}, a < q9 → (∀ q ∈ rest, q.1 ≠ a) → ∀ {o : Obj}, ∀ q ∈ (q9, o) :: rest, q.1 ≠ a := fun h1 h2 => List.forall_mem_cons.mpr ⟨Nat.ne_of_gt h1, h2⟩
    refine' TailAt.use (tail_G (em := false) (PE := fun _ _ _ _ _ _ => True) (S := S2) (O := O) (R := (q9, methodObj (.ref _) (.ref hx)) :: rest) (st := .ref q9) (κh := κh) (κ := κ) (κ' := κ') (nl := nl) (lf := lf) (qs := qs) hpr (fun q h => .tail _ (hO q h)) hD hs (by omega) (by omega) hnm hnd hh hq
      ⟨hR9 z1 o1, hR9 z2 o2, hR9 z3 o3, hR9 z4 o4, hR9 z5 o5, hR9 z6 o6, hR9 z7 o7, hR9 z8 o8, hR9 z9 o9, hR9 z10 o10, hR9 z11 o11, hR9 z12 o12⟩ (fun e => nomatch e)) n9 ?ts f9 ?tp ?tB ?tX ?tT ?td ?tu ?tk ?tE ?tr
    case ts =>
      dsimp only [atL, stS, stL, List.cons_append, List.nil_append]
      kstt_sub
    case tp => kst_all
    case tB => assumption
    case tX => assumption
    case tT => assumption
    case td => omega
    case tu => omega
    case tk => omega
    case tE => first | passes_own | with_unfolding_all passes_own
    case tr =>
      rintro r' news' h' tk' m' F' N' ⟨rfl, t, y, refs, ex, hy, hT, hF, rfl⟩
      k_steps
      (rename News _ _ _ _ => n6)
      refine' hret _ _ _ _ (by assumption) ?S9 ⟨_, ⟨rfl, S2, _, _, _, _, _, _, _, _, _, _, q9, _, t, y, refs, ex, hy, hr7, (by assumption), (by assumption), (by assumption), hT, (fun q h => (hF q h).less), ⟨z1, z2, z3, z4, z5, z6, z7, z8, z9, z10, z11, z12, z13⟩, rfl⟩, rfl⟩
      case S9 =>
        dsimp only [atL, atF, stS, stL, List.cons_append, List.nil_append] at n6 ⊢
        simp only [List.append_assoc, List.cons_append, List.nil_append] at n6 ⊢
        exact n6)
end
end Mine
theorem Mine.off_q3 {M : Model} {A : Around} {env : Env} {Q : Flow → Shared → Prop} {E : Value → Shared → Prop} {s : Shared} (h : wpAny M A (execs [] env) Q E s) : wpAny M A (execs [] env) Q E s := by
  (try (walk1; fail "no"))
  w_top off
  exact h
namespace Mine
local macro_rules | `(tactic| k_ne) => `(tactic| first | exact (show Nq _ _ by with_reducible assumption) | exact Ne.symm (show Nq _ _ by with_reducible assumption) | (refine neN ?_; (try dsimp only); omega))
local macro_rules | `(tactic| k_room) => `(tactic| ((try simp only [depth_under_make, depth_under_kw, depth_in1, depth_deeper, depth_caller, ktrTop, recursionLimit] at *); omega))
local macro_rules | `(tactic| k_units) => `(tactic| ((have hcL9 := cLine_is); (try simp only [units_in1, units_deeper, Around.mark_units, units_caller, ktrTop] at *); omega))
local macro_rules | `(tactic| ktr_enter) => `(tactic| (refine' code_def ?k1 ?k2 ?k3 ?k4 ?k5 ?kA ?kF ?kK ?k6 ?k7 ?k8 ?k9 ?kB ?_ ?c2 ?c3 ?c4 ?c5; (case kA => exact rfl); (case kF => exact rfl); (case kK => first | exact rfl | assumption); (case k1 => k_asm); (case k2 => k_asm); (case k3 => k_asm); (case k4 => k_asm); (case k5 => k_asm); (case k6 => k_is); (case k7 => k_is); (case k8 => k_room); (case k9 => first | exact BindsTo.of_eq rfl | exact binds_K (by k_in) rfl (by k_is) rfl rfl rfl); (case c5 => decide); (case kB => exact locs rfl); (case c2 => exact rfl); (case c3 => exact rfl); (case c4 => exact rfl); k_whole; intro g' L' h' FG' F' N' B' X' T'; (try dsimp only); (try k_fold)))
local macro_rules | `(tactic| k_all) => `(tactic| (with_reducible assumption))
local macro_rules | `(tactic| tb_lt) => `(tactic| first | exact Pick.head | (refine' Pick.tail ?c; (case c => tb_lt)))
local macro_rules | `(tactic| tb_start) => `(tactic| first | exact Picks.nil | (refine' Picks.cons ?a ?b; (case a => tb_lt); (case b => tb_start)))
local macro_rules | `(tactic| tb_rel) => `(tactic| first | exact List.forall_mem_nil _ | (refine' List.forall_mem_cons.mpr ⟨?a, ?b⟩; (case a => k_all); (case b => tb_rel)))
local macro_rules | `(tactic| walk_at "TPost") => `(tactic| (dsimp only [TPost]))
local macro_rules | `(tactic| size_fits) => `(tactic| ((simp only [PySem.sizeLine_eq, List.size_toArray]); omega))
local macro_rules | `(tactic| k_gentoks) => `(tactic| (with_reducible refine' gen_toksP ?hp ?_; (case hp => first | omega | ((try simp only [List.length_cons]); omega)); intro tk htk))
local macro_rules | `(tactic| kstt_sub) => `(tactic| first | exact fun _ h => h | assumption | (refine' subCons ?a ?b; (case a => k_mem); (case b => kstt_sub)) | (refine' subTail ?a; (case a => kstt_sub)))
local macro_rules | `(tactic| kst_all) => `(tactic| first | exact List.forall_mem_nil _ | (refine' List.forall_mem_cons.mpr ⟨?a, ?b⟩; (case a => exact rfl); (case b => kst_all)))
local macro_rules | `(tactic| walk_at "MidEnd") => `(tactic| first
  | ((with_reducible show MidEnd _ _ _ _ _ _ _ Flow.next _); (refine' ⟨(tk8 _ _ _ _ _ _ _ _, _), _, _, _, rfl, ?F, ?N, ?ps, ?P⟩); (case F => assumption); (case N => (refine' nsub ?N1 ?N2; (case N1 => assumption); (case N2 => kstt_sub))); (case ps => kst_all); (case P => k_extra "mid"))
  | ((fail_if_success (with_reducible show MidEnd _ _ _ _ _ _ _ Flow.next _)); dsimp only [MidEnd]))
local macro_rules | `(tactic| walk_at "WEnd") => `(tactic| ((fail_if_success (with_reducible show WEnd _ _ _ _ _ _ _ _ _ Flow.next _)); dsimp only [WEnd]))
local macro_rules | `(tactic| walk_at "callWith") => `(tactic| (k_here; (with_reducible refine' callWith_method1 ?_ ?he ?hp); (case he => k_dflt rfl); (case hp => k_dflt rfl)))
local macro_rules | `(tactic| k_steps) => `(tactic| repeat' (first | (k_unfold; (try dsimp only)) | (k_end; wrow_close) | walk1 | (dsimp only [List.cons_append, List.nil_append]; walk1) | (dsimp only) | fail "no step"))
theorem News.addr2 {h₀ h : Heap} {L : Addr} {a b : Addr} {o p : Obj} {r : List (Addr × Obj)} (_N : News h₀ L h ((a, o) :: (b, p) :: r)) : ∃ c : Nat, c = b := ⟨b, rfl⟩
inductive AllS : List Value → Prop
  | nil : AllS []
  | cons {x : PySem.Str} {t : Nat} {l} : AllS l → AllS (.str x t :: l)
theorem AllS.mem : ∀ {l}, AllS l → ∀ v ∈ l, ∃ x t, v = .str x t
  | _, .nil, v, h => nomatch h
  | _, .cons (x := x) (t := t) h, v, hv => by
    rcases List.mem_cons.mp hv with rfl | hv
    · exact ⟨x, t, rfl⟩
    · exact h.mem v hv
theorem AllS.of : ∀ {l ws}, StrsAre l ws → AllS l
  | _, _, .nil => .nil
  | _, _, .cons _ _ h => .cons (AllS.of h)
section
variable {w : World} {A : Around} {E : Value → Shared → Prop} {s : Shared} {h₀ : Heap} {L : Addr} {m : PySem.Str → Option Value} {Q : Value → Shared → Prop}
theorem in_strs_none {a : Addr} {l : List Value} (ht : s.heap.IsTuple a l.toArray) (hs : AllS l) (h : Q (.bool false) s) : wpAny (model PG w) A (compareOp .In .none (.ref a)) Q E s := by
  refine PySem.SeqAt.in_tupleAt (fun _ => false) ht (fun y hy => ?_) ?_
  · obtain ⟨x, u, rfl⟩ := hs.mem y (by simpa using hy)
    exact PySem.SeqAt.EqAt.str_none x u
  · have e : l.toArray.any (fun _ => false) = false := by rw [List.any_toArray]; simp
    rw [e]; exact h
theorem in_letters_none (F : Fr h₀ L s.heap m) (X : (KF w).In h₀) (h : Q (.bool false) s) : wpAny (model PG w) A (compareOp .In .none (.ref 27)) Q E s := by
  obtain ⟨l, n, h1, h2⟩ := letters_K w
  exact in_strs_none ⟨_, (X.keeps F.keep) _ _ h1, rfl, _, rfl⟩ (AllS.of h2) h
theorem in_spaces_none (F : Fr h₀ L s.heap m) (X : (KF w).In h₀) (h : Q (.bool false) s) : wpAny (model PG w) A (compareOp .In .none (.ref 22)) Q E s := by
  obtain ⟨l, n, h1, h2⟩ := spaces_K w
  exact in_strs_none ⟨_, (X.keeps F.keep) _ _ h1, rfl, _, rfl⟩ (AllS.of h2) h
theorem in_tup_none {news : List (Addr × Obj)} {d : Nat} {o : Obj} {l : List Value} {n : Nat} (N : News h₀ L s.heap news) (hm : (d, o) ∈ news) (hc : o.cls = .type "tuple") (hd : o.data = .seq l.toArray n) (hs : AllS l) (h : Q (.bool false) s) :
    wpAny (model PG w) A (compareOp .In .none (.ref d)) Q E s := by
  exact in_strs_none ⟨_, (N _ hm).1, hc, _, hd⟩ hs h
end
section
local macro_rules | `(tactic| walk_at "subscriptTail") => `(tactic| (k_here; (with_reducible show wpAny _ _ (subscriptTail _ _ (Value.ref 48) (Value.str (PySem.Str.ofString "ParseError") _)) _ _ _); k_dflt (refine' tt_err ?F ?X ?_; (case F => assumption); (case X => assumption)); intro u))
local macro_rules | `(tactic| walk_at "subscriptTail") => `(tactic| (k_here; (with_reducible show wpAny _ _ (subscriptTail _ _ (Value.ref 48) (Value.str (PySem.Str.ofString "StartTag") _)) _ _ _); k_dflt (refine' tt_start ?F ?X ?_; (case F => assumption); (case X => assumption)); intro u))
local macro_rules | `(tactic| walk_at "subscriptTail") => `(tactic| (k_here; (with_reducible show wpAny _ _ (subscriptTail _ _ (Value.ref 48) (Value.str (PySem.Str.ofString "EndTag") _)) _ _ _); k_dflt (refine' tt_end ?F ?X ?_; (case F => assumption); (case X => assumption)); intro u))
local macro_rules | `(tactic| walk_at "ite") => `(tactic| (k_here; first | (refine if_yes ?a ?_; (case a => with_reducible assumption)) | (refine if_no ?a ?_; (case a => with_reducible assumption))))
local macro_rules | `(tactic| walk_at "compareOp In") => `(tactic| (k_here; (with_reducible show wpAny _ _ (compareOp CmpOp.In (Value.str _ _) (Value.ref 27)) _ _ _); k_dflt (refine' in_letters ?f ?x ?_; (case f => assumption); (case x => assumption))))
local macro_rules | `(tactic| walk_at "compareOp In") => `(tactic| (k_here; (with_reducible show wpAny _ _ (compareOp CmpOp.In (Value.str _ _) (Value.ref 22)) _ _ _); k_dflt (refine' in_spaces ?f ?x ?_; (case f => assumption); (case x => assumption))))
local macro_rules | `(tactic| walk_at "subscriptTail") => `(tactic| (k_here; (try dsimp only); (with_reducible show wpAny _ _ (subscriptTail _ _ (Value.ref _) (Value.int _ _)) _ _ _); k_dflt (refine' item_last_t ?N ?hm ?hv ?_; (case N => assumption); (case hm => k_mem); (case hv => exact back_snoc))))
local macro_rules | `(tactic| walk_at "getItem ref int") => `(tactic| (k_here; (try dsimp only); (with_reducible show wpAny _ _ (getItem (Value.ref _) (Value.int _ _)) _ _ _); k_dflt (refine' getItem_at ?N ?hm ?h0 ?hk ?hv ?_; (case N => assumption); (case hm => k_mem); (case h0 => decide); (case hk => decide); (case hv => rfl))))
local macro_rules | `(tactic| walk_at "call ref") => `(tactic| (k_here; k_dflt (refine' TellR.use (char_s ?a1 ?a2 ?a3 ?a4) ?k1 ?k2 ?k3 ?k4 ?k5 ?kK ?kp ?ko ?kd ?ku ?k0 ?_; (case k1 => k_asm); (case k2 => k_asm); (case k3 => k_asm); (case k4 => k_asm); (case k5 => k_asm); (case kK => first | exact rfl | assumption); (case kp => tb_start); (case ko => tb_rel); (case a1 => assumption); (case a2 => assumption); (case a3 => assumption); (case a4 => assumption); (case kd => k_room); (case ku => k_units); (case k0 => first | exact (show 1 ≤ _ by (try dsimp only); omega) | exact Nat.zero_le _); intro r9 f9 h9 tk9 p9 F9 N9 hP9; obtain ⟨S2, a0, a1, a2, a3, a4, b0, b1, bv2, vs2, ep2, hr2, hrem2, hw2, htot2, hpos2, hsuf2, hcl2, hb2, hv2, e2⟩ := hP9; subst e2; dsimp only [stS, stL, List.cons_append, List.nil_append] at N9; k_extra "ch"; (try dsimp only [List.nil_append, List.cons_append] at N9); (try k_fold))))
local macro_rules | `(tactic| walk_at "compareOp In") => `(tactic| (k_here; (with_reducible show wpAny _ _ (compareOp CmpOp.In Value.none (Value.ref _)) _ _ _); k_dflt (first | (refine' in_tup_none ?N ?hm ?hc ?hd ?hs ?_; (case N => assumption); (case hm => k_mem); (case hc => exact rfl); (case hd => exact rfl); (case hs => repeat (first | exact AllS.nil | refine AllS.cons ?_))) | fail "none")))
local macro_rules | `(tactic| walk_at "compareOp In") => `(tactic| (k_here; (with_reducible show wpAny _ _ (compareOp CmpOp.In Value.none (Value.ref 27)) _ _ _); k_dflt (refine' in_letters_none ?f ?x ?_; (case f => assumption); (case x => assumption))))
local macro_rules | `(tactic| walk_at "compareOp In") => `(tactic| (k_here; (with_reducible show wpAny _ _ (compareOp CmpOp.In Value.none (Value.ref 22)) _ _ _); k_dflt (refine' in_spaces_none ?f ?x ?_; (case f => assumption); (case x => assumption))))
theorem sub_swap {A ex rest : List (Addr × Obj)} {a b : Addr × Obj} : ∀ q ∈ A ++ (b :: (ex ++ a :: rest)), q ∈ A ++ (ex ++ a :: b :: rest) := fun q h => by
  simp only [List.mem_append, List.mem_cons] at h ⊢
  rcases h with h | h | h | h | h <;> simp [h]
theorem attr_X2 {w : World} {hx hd' tq lf sx sd tx td ra el nl ct dl p : Nat} {κh κ κ' : Nat → Nat} {τ₀ τ₁ τ₂ τ₃ τ₄ σ₀ σ₁ : Nat} {S : SS} {bf st : Value} {vs qs us : List Value} {ep tep dep pep k1 k2 t1 t2 kd : Nat} {oC : Obj} {nmT nm val : PySem.Str} {fl : Bool} {O : List (Addr × Obj)} {prs : List (PySem.Str × PySem.Str)} (hc : rem S = [])
    (hpr : Prs us O prs) (hD : oC.IsDictOf (PySem.strKind PG w) (ctRows kd k1 nmT k2 dl fl)) (hs : ((ct : Addr) == sysModules) = false)
    (hv : Errs vs S.n) (hbf : BfV S.bo bf) (hw : WF S) (hqs : qs.length ≤ 900) (hus : us.length ≤ 900) (hnm : nm.length ≤ 1000) (hnd : NQ6 sx sd tx td ra el) (hh : HQ hx hd' tq sx sd tx td ra el) (hq : AQ hx hd' tq ct dl p sx sd tx td ra el) :
    TellO w 20 200 (.ref 542) [.ref hx] O (atF w hx hd' tq lf ct dl p sx sd tx td ra el nl κh κ κ' τ₀ τ₁ τ₂ τ₃ τ₄ σ₀ σ₁ S bf vs ep st qs tep oC us dep nm val t1 t2 pep)
      (fun rv f' rest => rv = .bool true ∧ ∃ (S' : SS) (a0 a1 a2 a3 a4 b0 b1 : Nat) (bv : Value) (vs' : List Value) (ep' q' mr : Nat) (t : Nat → Nat) (nm' : PySem.Str) (refs : List Value) (ex : List (Addr × Obj)), nm'.cps.toList = nm.cps.toList.map lw ∧ rem S' = [] ∧ WF S' ∧ BfV S'.bo bv ∧ Errs vs' S'.n ∧
        Toks w refs ex (Str.ofString "eof-in-attribute-name" :: (if nm' ∈ prs.map Prod.fst then [dupW] else [])) ∧ (∀ q ∈ ex, FreshA hx hd' tq ct dl p sx sd tx td ra el rest q.1) ∧ FreshA hx hd' tq ct dl p sx sd tx td ra el rest q' ∧
        f' = atF w hx hd' tq lf ct dl p sx sd tx td ra el nl κh κ κ' a0 a1 a2 a3 a4 b0 b1 S' bv vs' ep' (.ref q') (qs ++ refs) (t 0) oC us dep nm' val (t 1) t2 (t 2) ++ ex ++ [(q', methodObj (.ref mr) (.ref hx))]) := by
  have hq0 := hnd
  unfold NQ6 at hq0
  obtain ⟨q1, q2, q3, q4, q5, q6, q7, q8, q9, q10, q11, q12, q13, q14, q15⟩ := hq0
  have hh0 := hh
  unfold HQ at hh0
  obtain ⟨g1, g2, g3, g4, g5, g6, g7, g8, g9, g10, g11, g12, g13, g14, g15, g16, g17, g18, g19, g20, g21⟩ := hh0
  have hq9 := hq
  unfold AQ at hq9
  obtain ⟨⟨u1, u2, u3, u4, u5, u6, u7, u8, u9⟩, ⟨v1, v2, v3, v4, v5, v6, v7, v8, v9⟩, ⟨w1, w2, w3, w4, w5, w6, w7, w8, w9⟩, x1, x2, x3⟩ := hq9
  unfold TellO Tell KF PG
  k_fill
  intro rest hO off' mean mg mb dp un gd cn cs a ccd cl outer A₀ base h₀ L m s Q E B F X N T hk hd hu hret
  dsimp only [atF, stS, stL, List.cons_append, List.nil_append] at off' N
  simp only [List.forall_mem_cons] at off'
  obtain ⟨o1, o2, o3, o4, o5, o6, o7, o8, o9, o10, o11, o12, -⟩ := off'
  k_dflt ktr_enter
  k_with_none
  k_with "ch" => ((rename BfV (List.head? _) _ => hr9); rw [hc] at hr9; have e9 : _ = Value.none := hr9; subst e9)
  repeat' (first | ((fail_if_success (with_reducible show wpAny _ _ (execs (PySem.Stmt.If (PySem.Expr.Name _ _) _ _ _ :: _) _) _ _ _)); first | (k_unfold; (try dsimp only)) | (k_end; wrow_close) | walk1 | (dsimp only [List.cons_append, List.nil_append]; walk1) | (dsimp only) | fail "no step"))
  all_goals (
    dsimp only
    (rename Fr _ _ _ _ => f9)
    (rename News _ _ _ _ => n9)
    (rename SS => S2)
    (rename rem _ = List.tail _ => hr8)
    rw [hc] at hr8
    have hr7 : rem S2 = [] := hr8
    clear hr8
    (rename Obj.IsDictOf _ _ _ => hd9)
    (rename _ < _ ∧ _ => lq)
    obtain ⟨q9, eq9⟩ := News.addr n9
    subst eq9
    obtain ⟨d9, ed9⟩ := News.addr2 n9
    subst ed9
    obtain ⟨oX9, eo9⟩ := DName hd9
    subst eo9
    obtain ⟨zd, zt, z7, z8, z9, z10, z11, z12, z1, z2, z3, z4, z5, z6, z13⟩ := lq
    (rename _ < _ ∧ _ => ld)
    obtain ⟨yt, y7, y8, y9, y10, y11, y12, y1, y2, y3, y4, y5, y6, y13⟩ := ld
    (try simp only [push_app] at n9)
    have hR9 : ∀ {a : Nat}, a < q9 → (∀ q ∈ rest, q.1 ≠ a) → a < d9 → ∀ {o : Obj}, ∀ q ∈ (q9, o) :: (d9, oX9) :: rest, q.1 ≠ a := fun h1 h2 h3 => List.forall_mem_cons.mpr ⟨Nat.ne_of_gt h1, List.forall_mem_cons.mpr ⟨Nat.ne_of_gt h3, h2⟩⟩
    refine' TailAt.use (tail_G (em := false) (PE := fun _ _ _ _ _ _ => True) (S := S2) (O := O) (R := (q9, methodObj (.ref _) (.ref hx)) :: (d9, oX9) :: rest) (st := .ref q9) (κh := κh) (κ := κ) (κ' := κ') (nl := nl) (lf := lf) (qs := qs ++ [Value.ref d9]) hpr (fun q h => .tail _ (.tail _ (hO q h))) hD hs (by rw [List.length_append, List.length_singleton]; omega) (by omega) hnm hnd hh hq
      ⟨hR9 z1 o1 y1, hR9 z2 o2 y2, hR9 z3 o3 y3, hR9 z4 o4 y4, hR9 z5 o5 y5, hR9 z6 o6 y6, hR9 z7 o7 y7, hR9 z8 o8 y8, hR9 z9 o9 y9, hR9 z10 o10 y10, hR9 z11 o11 y11, hR9 z12 o12 y12⟩ (fun e => nomatch e)) n9 ?ts f9 ?tp ?tB ?tX ?tT ?td ?tu ?tk ?tE ?tr
    case ts =>
      dsimp only [atL, stS, stL, List.cons_append, List.nil_append]
      kstt_sub
    case tp => kst_all
    case tB => assumption
    case tX => assumption
    case tT => assumption
    case td => omega
    case tu => omega
    case tk => omega
    case tE => first | passes_own | with_unfolding_all passes_own
    case tr =>
      rintro r' news' h' tk' m' F' N' ⟨rfl, t, y, refs, ex, hy, hT, hF, rfl⟩
      k_steps
      (rename News _ _ _ _ => n6)
      refine' hret _ _ _ _ (by assumption) ?S9 ⟨_, ⟨rfl, S2, _, _, _, _, _, _, _, _, _, _, q9, _, t, y, .ref d9 :: refs, (d9, oX9) :: ex, hy, hr7, (by assumption), (by assumption), (by assumption), .cons hd9 hT, List.forall_mem_cons.mpr ⟨⟨y1, y2, y3, y4, y5, y6, y7, y8, y9, y10, y11, y12, y13⟩, fun q h => (hF q h).less.less⟩, ⟨z1, z2, z3, z4, z5, z6, z7, z8, z9, z10, z11, z12, z13⟩, rfl⟩, rfl⟩
      case S9 =>
        have n5 : News _ _ _ (atF w hx hd' tq lf ct dl p sx sd tx td ra el nl κh κ κ' _ _ _ _ _ _ _ S2 _ _ _ _ _ _ oC us dep _ val _ t2 _ ++ (ex ++ (q9, _) :: (d9, oX9) :: rest)) := n6
        have n4 := nsub n5 (a := _) sub_swap
        simp only [List.append_assoc, List.cons_append, List.nil_append] at n4 ⊢
        exact n4)
end
end Mine
theorem Mine.off_q4 {M : Model} {A : Around} {env : Env} {Q : Flow → Shared → Prop} {E : Value → Shared → Prop} {s : Shared} (h : wpAny M A (execs [] env) Q E s) : wpAny M A (execs [] env) Q E s := by
  (try (walk1; fail "no"))
  w_top off
  exact h
namespace Mine
local macro_rules | `(tactic| k_ne) => `(tactic| first | exact (show Nq _ _ by with_reducible assumption) | exact Ne.symm (show Nq _ _ by with_reducible assumption) | (refine neN ?_; (try dsimp only); omega))
local macro_rules | `(tactic| k_room) => `(tactic| ((try simp only [depth_under_make, depth_under_kw, depth_in1, depth_deeper, depth_caller, ktrTop, recursionLimit] at *); omega))
local macro_rules | `(tactic| k_units) => `(tactic| ((have hcL9 := cLine_is); (try simp only [units_in1, units_deeper, Around.mark_units, units_caller, ktrTop] at *); omega))
local macro_rules | `(tactic| ktr_enter) => `(tactic| (refine' code_def ?k1 ?k2 ?k3 ?k4 ?k5 ?kA ?kF ?kK ?k6 ?k7 ?k8 ?k9 ?kB ?_ ?c2 ?c3 ?c4 ?c5; (case kA => exact rfl); (case kF => exact rfl); (case kK => first | exact rfl | assumption); (case k1 => k_asm); (case k2 => k_asm); (case k3 => k_asm); (case k4 => k_asm); (case k5 => k_asm); (case k6 => k_is); (case k7 => k_is); (case k8 => k_room); (case k9 => first | exact BindsTo.of_eq rfl | exact binds_K (by k_in) rfl (by k_is) rfl rfl rfl); (case c5 => decide); (case kB => exact locs rfl); (case c2 => exact rfl); (case c3 => exact rfl); (case c4 => exact rfl); k_whole; intro g' L' h' FG' F' N' B' X' T'; (try dsimp only); (try k_fold)))
local macro_rules | `(tactic| k_all) => `(tactic| (with_reducible assumption))
local macro_rules | `(tactic| tb_lt) => `(tactic| first | exact Pick.head | (refine' Pick.tail ?c; (case c => tb_lt)))
local macro_rules | `(tactic| tb_start) => `(tactic| first | exact Picks.nil | (refine' Picks.cons ?a ?b; (case a => tb_lt); (case b => tb_start)))
local macro_rules | `(tactic| tb_rel) => `(tactic| first | exact List.forall_mem_nil _ | (refine' List.forall_mem_cons.mpr ⟨?a, ?b⟩; (case a => k_all); (case b => tb_rel)))
local macro_rules | `(tactic| walk_at "TPost") => `(tactic| (dsimp only [TPost]))
local macro_rules | `(tactic| size_fits) => `(tactic| ((simp only [PySem.sizeLine_eq, List.size_toArray]); omega))
local macro_rules | `(tactic| k_gentoks) => `(tactic| (with_reducible refine' gen_toksP ?hp ?_; (case hp => first | omega | ((try simp only [List.length_cons]); omega)); intro tk htk))
local macro_rules | `(tactic| kstt_sub) => `(tactic| first | exact fun _ h => h | assumption | (refine' subCons ?a ?b; (case a => k_mem); (case b => kstt_sub)) | (refine' subTail ?a; (case a => kstt_sub)))
local macro_rules | `(tactic| kst_all) => `(tactic| first | exact List.forall_mem_nil _ | (refine' List.forall_mem_cons.mpr ⟨?a, ?b⟩; (case a => exact rfl); (case b => kst_all)))
local macro_rules | `(tactic| walk_at "MidEnd") => `(tactic| first
  | ((with_reducible show MidEnd _ _ _ _ _ _ _ Flow.next _); (refine' ⟨(tk8 _ _ _ _ _ _ _ _, _), _, _, _, rfl, ?F, ?N, ?ps, ?P⟩); (case F => assumption); (case N => (refine' nsub ?N1 ?N2; (case N1 => assumption); (case N2 => kstt_sub))); (case ps => kst_all); (case P => k_extra "mid"))
  | ((fail_if_success (with_reducible show MidEnd _ _ _ _ _ _ _ Flow.next _)); dsimp only [MidEnd]))
local macro_rules | `(tactic| walk_at "WEnd") => `(tactic| ((fail_if_success (with_reducible show WEnd _ _ _ _ _ _ _ _ _ Flow.next _)); dsimp only [WEnd]))
local macro_rules | `(tactic| walk_at "callWith") => `(tactic| (k_here; (with_reducible refine' callWith_method1 ?_ ?he ?hp); (case he => k_dflt rfl); (case hp => k_dflt rfl)))
local macro_rules | `(tactic| k_steps) => `(tactic| repeat' (first | (k_unfold; (try dsimp only)) | (k_end; wrow_close) | walk1 | (dsimp only [List.cons_append, List.nil_append]; walk1) | (dsimp only) | fail "no step"))
theorem Toks.len {w : World} : ∀ {r ex ws}, Toks w r ex ws → r.length = ws.length
  | _, _, _, .nil => rfl
  | _, _, _, .cons _ h => congrArg Nat.succ h.len
theorem allR {e : Nat} : ∀ {a b : List (Addr × Obj)}, AllLt e (a ++ b) → AllLt e b
  | [], _, h => h
  | _ :: a, _, h => allR (a := a) h.2
theorem sub_emS {A B ex rest : List (Addr × Obj)} {a b : Addr × Obj} : ∀ q ∈ A ++ (B ++ (ex ++ [a, b])) ++ rest, q ∈ A ++ [a, b] ++ (B ++ (ex ++ rest)) := fun q h => by
  simp only [List.mem_append, List.mem_cons, List.not_mem_nil, or_false] at h ⊢
  rcases h with (h | h | h | h | h) | h <;> simp only [h, true_or, or_true]
theorem sub_emE {A B ex ex2 rest : List (Addr × Obj)} {a : Addr × Obj} : ∀ q ∈ A ++ (B ++ ((ex ++ ex2) ++ [a])) ++ rest, q ∈ A ++ [a] ++ ex2 ++ (B ++ (ex ++ rest)) := fun q h => by
  simp only [List.mem_append, List.mem_cons, List.not_mem_nil, or_false] at h ⊢
  rcases h with (h | h | (h | h) | h) | h <;> simp only [h, true_or, or_true]
section
local macro_rules | `(tactic| walk_at "subscriptTail") => `(tactic| (k_here; (with_reducible show wpAny _ _ (subscriptTail _ _ (Value.ref 48) (Value.str (PySem.Str.ofString "ParseError") _)) _ _ _); k_dflt (refine' tt_err ?F ?X ?_; (case F => assumption); (case X => assumption)); intro u))
local macro_rules | `(tactic| walk_at "subscriptTail") => `(tactic| (k_here; (with_reducible show wpAny _ _ (subscriptTail _ _ (Value.ref 48) (Value.str (PySem.Str.ofString "StartTag") _)) _ _ _); k_dflt (refine' tt_start ?F ?X ?_; (case F => assumption); (case X => assumption)); intro u))
local macro_rules | `(tactic| walk_at "subscriptTail") => `(tactic| (k_here; (with_reducible show wpAny _ _ (subscriptTail _ _ (Value.ref 48) (Value.str (PySem.Str.ofString "EndTag") _)) _ _ _); k_dflt (refine' tt_end ?F ?X ?_; (case F => assumption); (case X => assumption)); intro u))
local macro_rules | `(tactic| walk_at "ite") => `(tactic| (k_here; first | (refine if_yes ?a ?_; (case a => with_reducible assumption)) | (refine if_no ?a ?_; (case a => with_reducible assumption))))
local macro_rules | `(tactic| walk_at "compareOp In") => `(tactic| (k_here; (with_reducible show wpAny _ _ (compareOp CmpOp.In (Value.str _ _) (Value.ref 27)) _ _ _); k_dflt (refine' in_letters ?f ?x ?_; (case f => assumption); (case x => assumption))))
local macro_rules | `(tactic| walk_at "compareOp In") => `(tactic| (k_here; (with_reducible show wpAny _ _ (compareOp CmpOp.In (Value.str _ _) (Value.ref 22)) _ _ _); k_dflt (refine' in_spaces ?f ?x ?_; (case f => assumption); (case x => assumption))))
local macro_rules | `(tactic| walk_at "subscriptTail") => `(tactic| (k_here; (try dsimp only); (with_reducible show wpAny _ _ (subscriptTail _ _ (Value.ref _) (Value.int _ _)) _ _ _); k_dflt (refine' item_last_t ?N ?hm ?hv ?_; (case N => assumption); (case hm => k_mem); (case hv => exact back_snoc))))
local macro_rules | `(tactic| walk_at "getItem ref int") => `(tactic| (k_here; (try dsimp only); (with_reducible show wpAny _ _ (getItem (Value.ref _) (Value.int _ _)) _ _ _); k_dflt (refine' getItem_at ?N ?hm ?h0 ?hk ?hv ?_; (case N => assumption); (case hm => k_mem); (case h0 => decide); (case hk => decide); (case hv => rfl))))
local macro_rules | `(tactic| walk_at "call ref") => `(tactic| (k_here; k_dflt (refine' TellR.use (char_s ?a1 ?a2 ?a3 ?a4) ?k1 ?k2 ?k3 ?k4 ?k5 ?kK ?kp ?ko ?kd ?ku ?k0 ?_; (case k1 => k_asm); (case k2 => k_asm); (case k3 => k_asm); (case k4 => k_asm); (case k5 => k_asm); (case kK => first | exact rfl | assumption); (case kp => tb_start); (case ko => tb_rel); (case a1 => assumption); (case a2 => assumption); (case a3 => assumption); (case a4 => assumption); (case kd => k_room); (case ku => k_units); (case k0 => first | exact (show 1 ≤ _ by (try dsimp only); omega) | exact Nat.zero_le _); intro r9 f9 h9 tk9 p9 F9 N9 hP9; obtain ⟨S2, a0, a1, a2, a3, a4, b0, b1, bv2, vs2, ep2, hr2, hrem2, hw2, htot2, hpos2, hsuf2, hcl2, hb2, hv2, e2⟩ := hP9; subst e2; dsimp only [stS, stL, List.cons_append, List.nil_append] at N9; k_extra "ch"; (try dsimp only [List.nil_append, List.cons_append] at N9); (try k_fold))))
theorem attr_X3S {w : World} {hx hd' tq lf sx sd tx td ra el nl ct dl p : Nat} {κh κ κ' : Nat → Nat} {τ₀ τ₁ τ₂ τ₃ τ₄ σ₀ σ₁ : Nat} {S : SS} {bf st : Value} {vs qs us : List Value} {ep tep dep pep k1 k2 t1 t2 : Nat} {oC : Obj} {nmT nm val : PySem.Str} {fl : Bool} {O : List (Addr × Obj)} {prs : List (PySem.Str × PySem.Str)} {c : Nat} {r : List Nat} (hc : rem S = c :: r) (h1 : ((⟨#[c]⟩ : PySem.Str) == PySem.Str.ofString "=") = false) (h2 : decide (c ∈ letC) = false) (h3 : ((⟨#[c]⟩ : PySem.Str) == PySem.Str.ofString ">") = true)
    (hpr : Prs us O prs) (hD : oC.IsDictOf (PySem.strKind PG w) (ctRows 3 k1 nmT k2 dl fl)) (hs : ((ct : Addr) == sysModules) = false)
    (hv : Errs vs S.n) (hbf : BfV S.bo bf) (hw : WF S) (hqs : qs.length ≤ 900) (hus : us.length ≤ 900) (hnm : nm.length ≤ 1000) (hnT : nmT.length ≤ 1000) (hnd : NQ6 sx sd tx td ra el) (hh : HQ hx hd' tq sx sd tx td ra el) (hq : AQ hx hd' tq ct dl p sx sd tx td ra el) :
    TellO w 20 200 (.ref 542) [.ref hx] O (atF w hx hd' tq lf ct dl p sx sd tx td ra el nl κh κ κ' τ₀ τ₁ τ₂ τ₃ τ₄ σ₀ σ₁ S bf vs ep st qs tep oC us dep nm val t1 t2 pep)
      (fun rv f' rest => rv = .bool true ∧ ∃ (S' : SS) (a0 a1 a2 a3 a4 b0 b1 : Nat) (bv : Value) (vs' : List Value) (ep' te q' : Nat) (oC' : Obj) (nm' y : PySem.Str) (u1 u2 : Nat) (refs : List Value) (ex : List (Addr × Obj)), nm'.cps.toList = nm.cps.toList.map lw ∧ y.cps.toList = nmT.cps.toList.map lw ∧ rem S' = r ∧ WF S' ∧ BfV S'.bo bv ∧ Errs vs' S'.n ∧
        Toks w refs ex (if nm' ∈ prs.map Prod.fst then [dupW] else []) ∧ (∀ q ∈ ex, FreshA hx hd' tq ct dl p sx sd tx td ra el rest q.1) ∧ FreshA hx hd' tq ct dl p sx sd tx td ra el rest q' ∧
        ∃ (da : Nat) (oD : Obj) (ps : List (PySem.Str × Value)), SV ps (prs ++ [(nm', val)]) ∧ oD.IsDictOf (PySem.strKind PG w) (keepL ps) ∧ oC'.IsDictOf (PySem.strKind PG w) (ctRows 3 u1 y u2 da fl) ∧ FreshA hx hd' tq ct dl p sx sd tx td ra el rest da ∧
        f' = [(hx, instObj 762 hd'), (hd', hdD8 w κh sx lf tq (.ref q') (.ref ct)), (tq, W.listOf (qs ++ refs ++ [Value.ref ct]).toArray te), (ct, oC')] ++ (stS w sx sd tx td ra el nl κ κ' a0 a1 a2 a3 a4 b0 b1 S' bv vs' ep' ++ (ex ++ [(da, oD), (q', methodObj (.ref 304) (.ref hx))]))) := by
  have hq0 := hnd
  unfold NQ6 at hq0
  obtain ⟨q1, q2, q3, q4, q5, q6, q7, q8, q9, q10, q11, q12, q13, q14, q15⟩ := hq0
  have hh0 := hh
  unfold HQ at hh0
  obtain ⟨g1, g2, g3, g4, g5, g6, g7, g8, g9, g10, g11, g12, g13, g14, g15, g16, g17, g18, g19, g20, g21⟩ := hh0
  have hq9 := hq
  unfold AQ at hq9
  obtain ⟨⟨u1, u2, u3, u4, u5, u6, u7, u8, u9⟩, ⟨v1, v2, v3, v4, v5, v6, v7, v8, v9⟩, ⟨w1, w2, w3, w4, w5, w6, w7, w8, w9⟩, x1, x2, x3⟩ := hq9
  unfold TellO Tell KF PG
  k_fill
  intro rest hO off' mean mg mb dp un gd cn cs a ccd cl outer A₀ base h₀ L m s Q E B F X N T hk hd hu hret
  dsimp only [atF, stS, stL, List.cons_append, List.nil_append] at off' N
  simp only [List.forall_mem_cons] at off'
  obtain ⟨o1, o2, o3, o4, o5, o6, o7, o8, o9, o10, o11, o12, -⟩ := off'
  k_dflt ktr_enter
  k_with_none
  k_with "ch" => ((rename BfV (List.head? _) _ => hr9); rw [hc] at hr9; obtain ⟨t9, e9⟩ := hr9; subst e9)
  repeat' (first | ((fail_if_success (with_reducible show wpAny _ _ (execs (PySem.Stmt.If (PySem.Expr.Name _ _) _ _ _ :: _) _) _ _ _)); first | (k_unfold; (try dsimp only)) | (k_end; wrow_close) | walk1 | (dsimp only [List.cons_append, List.nil_append]; walk1) | (dsimp only) | fail "no step"))
  all_goals (
    (rename SS => S2)
    (rename rem _ = List.tail _ => hr8)
    rw [hc] at hr8
    have hr7 : rem S2 = r := hr8
    clear hr8
    dsimp only
    (rename Fr _ _ _ _ => f9)
    (rename News _ _ _ _ => n9)
    refine' TailAt.use (tail_G (em := true) (PE := fun y refs ex t f' rest => ∃ (te q' da : Nat) (oC' oD : Obj) (z : PySem.Str) (u1 u2 : Nat) (ps : List (PySem.Str × Value)), z.cps.toList = nmT.cps.toList.map lw ∧ SV ps (prs ++ [(y, val)]) ∧ oD.IsDictOf (PySem.strKind PG w) (keepL ps) ∧
        oC'.IsDictOf (PySem.strKind PG w) (ctRows 3 u1 z u2 da fl) ∧ Fresh6 hx hd' tq ct dl p rest da ∧ Fresh6 hx hd' tq ct dl p rest q' ∧ da < q' ∧
        f' = [(hx, instObj 762 hd'), (hd', hdD8 w κh sx lf tq (.ref q') (.ref ct)), (tq, W.listOf (qs ++ refs ++ [Value.ref ct]).toArray te), (ct, oC'), (da, oD), (q', methodObj (.ref 304) (.ref hx))]) (S := S2) (O := O) (R := rest) (st := st) (κh := κh) (κ := κ) (κ' := κ') (nl := nl) (lf := lf) (qs := qs) (dep := dep) (t1 := t1) (t2 := t2) (tep := tep) (pep := pep) (val := val) hpr hO hD hs (by omega) (by omega) hnm hnd hh hq
      ⟨o1, o2, o3, o4, o5, o6, o7, o8, o9, o10, o11, o12⟩ ?hem) n9 ?ts f9 ?tp ?tB ?tX ?tT ?td ?tu ?tk ?tE ?tr
    case hem =>
      intro _ y refs ex t hy hT hF
      have hrl := hT.len
      have hrl2 : refs.length ≤ 1 := by rw [hrl]; split <;> simp
      exact emit_S (qs := qs ++ refs) (nm := y) (t1 := t 1) (pep := t 2) (tep := t 0) (dep := dep) (t2 := t2) hpr hD hs (by rw [List.length_append]; omega) hus hnT ⟨g1, g8, g9, u1, u2, u3, v1, v2, v3, w1, w2, w3, x1, x2, x3⟩
    case ts =>
      dsimp only [atL, stS, stL, List.cons_append, List.nil_append]
      kstt_sub
    case tp => kst_all
    case tB => assumption
    case tX => assumption
    case tT => assumption
    case td => omega
    case tu => omega
    case tk => omega
    case tE => first | passes_own | with_unfolding_all passes_own
    case tr =>
      rintro r' news' h' tk' m' F' N' ⟨rfl, t, y, refs, ex, hy, hT, hF, f', hPE, rfl⟩
      k_steps
      (rename News _ _ _ _ => n6)
      obtain ⟨te, q9, da, oC9, oD, z, ua, ub, ps, hz, hsv, hE9, hC9, hda, hq9, hlt, rfl⟩ := hPE
      obtain ⟨c1, c2, c3, c4, c5, c6, c7, c8, c9, c10, c11, c12, cR⟩ := hda
      obtain ⟨k1', k2', k3, k4, k5, k6, k7, k8, k9, k10, k11, k12, kR⟩ := hq9
      refine' hret _ _ _ _ (by assumption) ?S9 ⟨_, ⟨rfl, S2, _, _, _, _, _, _, _, _, _, _, te, q9, oC9, y, z, ua, ub, refs, ex, hy, hz, hr7, (by assumption), (by assumption), (by assumption), hT, hF, ⟨k1', k2', k3, k4, k5, k6, k7, k8, k9, k10, k11, k12, (allR (a := ex) kR)⟩, da, oD, ps, hsv, hE9, hC9, ⟨c1, c2, c3, c4, c5, c6, c7, c8, c9, c10, c11, c12, (allR (a := ex) cR)⟩, rfl⟩, rfl⟩
      case S9 =>
        have n5 := nsub n6 (a := _) (sub_emS (A := [_, _, _, _]) (B := stS w sx sd tx td ra el nl κ κ' _ _ _ _ _ _ _ S2 _ _ _) (ex := ex) (rest := rest))
        simp only [List.append_assoc, List.cons_append, List.nil_append] at n5 ⊢
        exact n5)
end
end Mine
theorem Mine.off_q5 {M : Model} {A : Around} {env : Env} {Q : Flow → Shared → Prop} {E : Value → Shared → Prop} {s : Shared} (h : wpAny M A (execs [] env) Q E s) : wpAny M A (execs [] env) Q E s := by
  (try (walk1; fail "no"))
  w_top off
  exact h
namespace Mine
local macro_rules | `(tactic| k_ne) => `(tactic| first | exact (show Nq _ _ by with_reducible assumption) | exact Ne.symm (show Nq _ _ by with_reducible assumption) | (refine neN ?_; (try dsimp only); omega))
local macro_rules | `(tactic| k_room) => `(tactic| ((try simp only [depth_under_make, depth_under_kw, depth_in1, depth_deeper, depth_caller, ktrTop, recursionLimit] at *); omega))
local macro_rules | `(tactic| k_units) => `(tactic| ((have hcL9 := cLine_is); (try simp only [units_in1, units_deeper, Around.mark_units, units_caller, ktrTop] at *); omega))
local macro_rules | `(tactic| ktr_enter) => `(tactic| (refine' code_def ?k1 ?k2 ?k3 ?k4 ?k5 ?kA ?kF ?kK ?k6 ?k7 ?k8 ?k9 ?kB ?_ ?c2 ?c3 ?c4 ?c5; (case kA => exact rfl); (case kF => exact rfl); (case kK => first | exact rfl | assumption); (case k1 => k_asm); (case k2 => k_asm); (case k3 => k_asm); (case k4 => k_asm); (case k5 => k_asm); (case k6 => k_is); (case k7 => k_is); (case k8 => k_room); (case k9 => first | exact BindsTo.of_eq rfl | exact binds_K (by k_in) rfl (by k_is) rfl rfl rfl); (case c5 => decide); (case kB => exact locs rfl); (case c2 => exact rfl); (case c3 => exact rfl); (case c4 => exact rfl); k_whole; intro g' L' h' FG' F' N' B' X' T'; (try dsimp only); (try k_fold)))
local macro_rules | `(tactic| k_all) => `(tactic| (with_reducible assumption))
local macro_rules | `(tactic| tb_lt) => `(tactic| first | exact Pick.head | (refine' Pick.tail ?c; (case c => tb_lt)))
local macro_rules | `(tactic| tb_start) => `(tactic| first | exact Picks.nil | (refine' Picks.cons ?a ?b; (case a => tb_lt); (case b => tb_start)))
local macro_rules | `(tactic| tb_rel) => `(tactic| first | exact List.forall_mem_nil _ | (refine' List.forall_mem_cons.mpr ⟨?a, ?b⟩; (case a => k_all); (case b => tb_rel)))
local macro_rules | `(tactic| walk_at "TPost") => `(tactic| (dsimp only [TPost]))
local macro_rules | `(tactic| size_fits) => `(tactic| ((simp only [PySem.sizeLine_eq, List.size_toArray]); omega))
local macro_rules | `(tactic| k_gentoks) => `(tactic| (with_reducible refine' gen_toksP ?hp ?_; (case hp => first | omega | ((try simp only [List.length_cons]); omega)); intro tk htk))
local macro_rules | `(tactic| kstt_sub) => `(tactic| first | exact fun _ h => h | assumption | (refine' subCons ?a ?b; (case a => k_mem); (case b => kstt_sub)) | (refine' subTail ?a; (case a => kstt_sub)))
local macro_rules | `(tactic| kst_all) => `(tactic| first | exact List.forall_mem_nil _ | (refine' List.forall_mem_cons.mpr ⟨?a, ?b⟩; (case a => exact rfl); (case b => kst_all)))
local macro_rules | `(tactic| walk_at "MidEnd") => `(tactic| first
  | ((with_reducible show MidEnd _ _ _ _ _ _ _ Flow.next _); (refine' ⟨(tk8 _ _ _ _ _ _ _ _, _), _, _, _, rfl, ?F, ?N, ?ps, ?P⟩); (case F => assumption); (case N => (refine' nsub ?N1 ?N2; (case N1 => assumption); (case N2 => kstt_sub))); (case ps => kst_all); (case P => k_extra "mid"))
  | ((fail_if_success (with_reducible show MidEnd _ _ _ _ _ _ _ Flow.next _)); dsimp only [MidEnd]))
local macro_rules | `(tactic| walk_at "WEnd") => `(tactic| ((fail_if_success (with_reducible show WEnd _ _ _ _ _ _ _ _ _ Flow.next _)); dsimp only [WEnd]))
local macro_rules | `(tactic| walk_at "callWith") => `(tactic| (k_here; (with_reducible refine' callWith_method1 ?_ ?he ?hp); (case he => k_dflt rfl); (case hp => k_dflt rfl)))
local macro_rules | `(tactic| k_steps) => `(tactic| repeat' (first | (k_unfold; (try dsimp only)) | (k_end; wrow_close) | walk1 | (dsimp only [List.cons_append, List.nil_append]; walk1) | (dsimp only) | fail "no step"))
section
local macro_rules | `(tactic| walk_at "subscriptTail") => `(tactic| (k_here; (with_reducible show wpAny _ _ (subscriptTail _ _ (Value.ref 48) (Value.str (PySem.Str.ofString "ParseError") _)) _ _ _); k_dflt (refine' tt_err ?F ?X ?_; (case F => assumption); (case X => assumption)); intro u))
local macro_rules | `(tactic| walk_at "subscriptTail") => `(tactic| (k_here; (with_reducible show wpAny _ _ (subscriptTail _ _ (Value.ref 48) (Value.str (PySem.Str.ofString "StartTag") _)) _ _ _); k_dflt (refine' tt_start ?F ?X ?_; (case F => assumption); (case X => assumption)); intro u))
local macro_rules | `(tactic| walk_at "subscriptTail") => `(tactic| (k_here; (with_reducible show wpAny _ _ (subscriptTail _ _ (Value.ref 48) (Value.str (PySem.Str.ofString "EndTag") _)) _ _ _); k_dflt (refine' tt_end ?F ?X ?_; (case F => assumption); (case X => assumption)); intro u))
local macro_rules | `(tactic| walk_at "ite") => `(tactic| (k_here; first | (refine if_yes ?a ?_; (case a => with_reducible assumption)) | (refine if_no ?a ?_; (case a => with_reducible assumption))))
local macro_rules | `(tactic| walk_at "compareOp In") => `(tactic| (k_here; (with_reducible show wpAny _ _ (compareOp CmpOp.In (Value.str _ _) (Value.ref 27)) _ _ _); k_dflt (refine' in_letters ?f ?x ?_; (case f => assumption); (case x => assumption))))
local macro_rules | `(tactic| walk_at "compareOp In") => `(tactic| (k_here; (with_reducible show wpAny _ _ (compareOp CmpOp.In (Value.str _ _) (Value.ref 22)) _ _ _); k_dflt (refine' in_spaces ?f ?x ?_; (case f => assumption); (case x => assumption))))
local macro_rules | `(tactic| walk_at "subscriptTail") => `(tactic| (k_here; (try dsimp only); (with_reducible show wpAny _ _ (subscriptTail _ _ (Value.ref _) (Value.int _ _)) _ _ _); k_dflt (refine' item_last_t ?N ?hm ?hv ?_; (case N => assumption); (case hm => k_mem); (case hv => exact back_snoc))))
local macro_rules | `(tactic| walk_at "getItem ref int") => `(tactic| (k_here; (try dsimp only); (with_reducible show wpAny _ _ (getItem (Value.ref _) (Value.int _ _)) _ _ _); k_dflt (refine' getItem_at ?N ?hm ?h0 ?hk ?hv ?_; (case N => assumption); (case hm => k_mem); (case h0 => decide); (case hk => decide); (case hv => rfl))))
local macro_rules | `(tactic| walk_at "call ref") => `(tactic| (k_here; k_dflt (refine' TellR.use (char_s ?a1 ?a2 ?a3 ?a4) ?k1 ?k2 ?k3 ?k4 ?k5 ?kK ?kp ?ko ?kd ?ku ?k0 ?_; (case k1 => k_asm); (case k2 => k_asm); (case k3 => k_asm); (case k4 => k_asm); (case k5 => k_asm); (case kK => first | exact rfl | assumption); (case kp => tb_start); (case ko => tb_rel); (case a1 => assumption); (case a2 => assumption); (case a3 => assumption); (case a4 => assumption); (case kd => k_room); (case ku => k_units); (case k0 => first | exact (show 1 ≤ _ by (try dsimp only); omega) | exact Nat.zero_le _); intro r9 f9 h9 tk9 p9 F9 N9 hP9; obtain ⟨S2, a0, a1, a2, a3, a4, b0, b1, bv2, vs2, ep2, hr2, hrem2, hw2, htot2, hpos2, hsuf2, hcl2, hb2, hv2, e2⟩ := hP9; subst e2; dsimp only [stS, stL, List.cons_append, List.nil_append] at N9; k_extra "ch"; (try dsimp only [List.nil_append, List.cons_append] at N9); (try k_fold))))
theorem attr_X3E {w : World} {hx hd' tq lf sx sd tx td ra el nl ct dl p : Nat} {κh κ κ' : Nat → Nat} {τ₀ τ₁ τ₂ τ₃ τ₄ σ₀ σ₁ : Nat} {S : SS} {bf st : Value} {vs qs us : List Value} {ep tep dep pep k1 k2 t1 t2 : Nat} {oC : Obj} {nmT nm val : PySem.Str} {fl : Bool} {O : List (Addr × Obj)} {prs : List (PySem.Str × PySem.Str)} {c : Nat} {r : List Nat} (hc : rem S = c :: r) (h1 : ((⟨#[c]⟩ : PySem.Str) == PySem.Str.ofString "=") = false) (h2 : decide (c ∈ letC) = false) (h3 : ((⟨#[c]⟩ : PySem.Str) == PySem.Str.ofString ">") = true)
    (hpr : Prs us O prs) (hD : oC.IsDictOf (PySem.strKind PG w) (ctRows 4 k1 nmT k2 dl fl)) (hs : ((ct : Addr) == sysModules) = false)
    (hv : Errs vs S.n) (hbf : BfV S.bo bf) (hw : WF S) (hqs : qs.length ≤ 900) (hus : us.length ≤ 900) (hnm : nm.length ≤ 1000) (hnT : nmT.length ≤ 1000) (hnd : NQ6 sx sd tx td ra el) (hh : HQ hx hd' tq sx sd tx td ra el) (hq : AQ hx hd' tq ct dl p sx sd tx td ra el) :
    TellO w 20 200 (.ref 542) [.ref hx] O (atF w hx hd' tq lf ct dl p sx sd tx td ra el nl κh κ κ' τ₀ τ₁ τ₂ τ₃ τ₄ σ₀ σ₁ S bf vs ep st qs tep oC us dep nm val t1 t2 pep)
      (fun rv f' rest => rv = .bool true ∧ ∃ (S' : SS) (a0 a1 a2 a3 a4 b0 b1 : Nat) (bv : Value) (vs' : List Value) (ep' te q' : Nat) (oC' : Obj) (nm' y : PySem.Str) (u1 u2 : Nat) (refs : List Value) (ex : List (Addr × Obj)), nm'.cps.toList = nm.cps.toList.map lw ∧ y.cps.toList = nmT.cps.toList.map lw ∧ rem S' = r ∧ WF S' ∧ BfV S'.bo bv ∧ Errs vs' S'.n ∧
        Toks w refs ex ((if nm' ∈ prs.map Prod.fst then [dupW] else []) ++ (Str.ofString "attributes-in-end-tag" :: (if fl then [Str.ofString "self-closing-flag-on-end-tag"] else []))) ∧ (∀ q ∈ ex, FreshA hx hd' tq ct dl p sx sd tx td ra el rest q.1) ∧ FreshA hx hd' tq ct dl p sx sd tx td ra el rest q' ∧
        ∃ (pep' t1' : Nat), oC'.IsDictOf (PySem.strKind PG w) (ctRows 4 u1 y u2 dl fl) ∧
        f' = [(hx, instObj 762 hd'), (hd', hdD8 w κh sx lf tq (.ref q') (.ref ct)), (tq, W.listOf (qs ++ refs ++ [Value.ref ct]).toArray te), (ct, oC'), (dl, W.listOf (us ++ [Value.ref p]).toArray dep), (p, W.listOf [Value.str nm' t1', Value.str val t2].toArray pep')] ++ (stS w sx sd tx td ra el nl κ κ' a0 a1 a2 a3 a4 b0 b1 S' bv vs' ep' ++ (ex ++ [(q', methodObj (.ref 304) (.ref hx))]))) := by
  have hq0 := hnd
  unfold NQ6 at hq0
  obtain ⟨q1, q2, q3, q4, q5, q6, q7, q8, q9, q10, q11, q12, q13, q14, q15⟩ := hq0
  have hh0 := hh
  unfold HQ at hh0
  obtain ⟨g1, g2, g3, g4, g5, g6, g7, g8, g9, g10, g11, g12, g13, g14, g15, g16, g17, g18, g19, g20, g21⟩ := hh0
  have hq9 := hq
  unfold AQ at hq9
  obtain ⟨⟨u1, u2, u3, u4, u5, u6, u7, u8, u9⟩, ⟨v1, v2, v3, v4, v5, v6, v7, v8, v9⟩, ⟨w1, w2, w3, w4, w5, w6, w7, w8, w9⟩, x1, x2, x3⟩ := hq9
  unfold TellO Tell KF PG
  k_fill
  intro rest hO off' mean mg mb dp un gd cn cs a ccd cl outer A₀ base h₀ L m s Q E B F X N T hk hd hu hret
  dsimp only [atF, stS, stL, List.cons_append, List.nil_append] at off' N
  simp only [List.forall_mem_cons] at off'
  obtain ⟨o1, o2, o3, o4, o5, o6, o7, o8, o9, o10, o11, o12, -⟩ := off'
  k_dflt ktr_enter
  k_with_none
  k_with "ch" => ((rename BfV (List.head? _) _ => hr9); rw [hc] at hr9; obtain ⟨t9, e9⟩ := hr9; subst e9)
  repeat' (first | ((fail_if_success (with_reducible show wpAny _ _ (execs (PySem.Stmt.If (PySem.Expr.Name _ _) _ _ _ :: _) _) _ _ _)); first | (k_unfold; (try dsimp only)) | (k_end; wrow_close) | walk1 | (dsimp only [List.cons_append, List.nil_append]; walk1) | (dsimp only) | fail "no step"))
  all_goals (
    (rename SS => S2)
    (rename rem _ = List.tail _ => hr8)
    rw [hc] at hr8
    have hr7 : rem S2 = r := hr8
    clear hr8
    dsimp only
    (rename Fr _ _ _ _ => f9)
    (rename News _ _ _ _ => n9)
    refine' TailAt.use (tail_G (em := true) (PE := fun y refs ex t f' rest => ∃ (te q' : Nat) (oC' : Obj) (z : PySem.Str) (u1 u2 : Nat) (refs2 : List Value) (ex2 : List (Addr × Obj)), z.cps.toList = nmT.cps.toList.map lw ∧
        Toks w refs2 ex2 (Str.ofString "attributes-in-end-tag" :: (if fl then [Str.ofString "self-closing-flag-on-end-tag"] else [])) ∧
        oC'.IsDictOf (PySem.strKind PG w) (ctRows 4 u1 z u2 dl fl) ∧ (∀ q ∈ ex2, Fresh6 hx hd' tq ct dl p rest q.1 ∧ q.1 < q') ∧ Fresh6 hx hd' tq ct dl p rest q' ∧
        f' = [(hx, instObj 762 hd'), (hd', hdD8 w κh sx lf tq (.ref q') (.ref ct)), (tq, W.listOf (qs ++ refs ++ refs2 ++ [Value.ref ct]).toArray te), (ct, oC'), (dl, W.listOf (us ++ [Value.ref p]).toArray dep), (p, W.listOf [Value.str y (t 1), Value.str val t2].toArray (t 2)), (q', methodObj (.ref 304) (.ref hx))] ++ ex2) (S := S2) (O := O) (R := rest) (st := st) (κh := κh) (κ := κ) (κ' := κ') (nl := nl) (lf := lf) (qs := qs) (dep := dep) (t1 := t1) (t2 := t2) (tep := tep) (pep := pep) (val := val) hpr hO hD hs (by omega) (by omega) hnm hnd hh hq
      ⟨o1, o2, o3, o4, o5, o6, o7, o8, o9, o10, o11, o12⟩ ?hem) n9 ?ts f9 ?tp ?tB ?tX ?tT ?td ?tu ?tk ?tE ?tr
    case hem =>
      intro _ y refs ex t hy hT hF
      have hrl := hT.len
      have hrl2 : refs.length ≤ 1 := by rw [hrl]; split <;> simp
      exact (emit_E (qs := qs ++ refs) (nm := y) (t1 := t 1) (pep := t 2) (tep := t 0) (dep := dep) (t2 := t2) hD hs (by rw [List.length_append]; omega) hus hnT ⟨g1, g8, g9, u1, u2, u3, v1, v2, v3, w1, w2, w3, x1, x2, x3⟩).toO
    case ts =>
      dsimp only [atL, stS, stL, List.cons_append, List.nil_append]
      kstt_sub
    case tp => kst_all
    case tB => assumption
    case tX => assumption
    case tT => assumption
    case td => omega
    case tu => omega
    case tk => omega
    case tE => first | passes_own | with_unfolding_all passes_own
    case tr =>
      rintro r' news' h' tk' m' F' N' ⟨rfl, t, y, refs, ex, hy, hT, hF, f', hPE, rfl⟩
      k_steps
      (rename News _ _ _ _ => n6)
      obtain ⟨te, q9, oC9, z, ua, ub, refs2, ex2, hz, hT2, hC9, hx2, hq9, rfl⟩ := hPE
      obtain ⟨k1', k2', k3, k4, k5, k6, k7, k8, k9, k10, k11, k12, kR⟩ := hq9
      have hx3 : ∀ q ∈ ex2, FreshA hx hd' tq ct dl p sx sd tx td ra el rest q.1 := fun q h => by
        obtain ⟨⟨e1, e2, e3, e4, e5, e6, e7, e8, e9, e10, e11, e12, eR⟩, _⟩ := hx2 q h
        exact ⟨e1, e2, e3, e4, e5, e6, e7, e8, e9, e10, e11, e12, (allR (a := ex) eR)⟩
      refine' hret _ _ _ _ (by assumption) ?S9 ⟨_, ⟨rfl, S2, _, _, _, _, _, _, _, _, _, _, te, q9, oC9, y, z, ua, ub, refs ++ refs2, ex ++ ex2, hy, hz, hr7, (by assumption), (by assumption), (by assumption), hT.app hT2, (fun q h => (List.mem_append.mp h).elim (hF q) (hx3 q)), ⟨k1', k2', k3, k4, k5, k6, k7, k8, k9, k10, k11, k12, (allR (a := ex) kR)⟩, _, _, hC9, rfl⟩, rfl⟩
      case S9 =>
        have n5 := nsub n6 (a := _) (sub_emE (A := [_, _, _, _, _, _]) (B := stS w sx sd tx td ra el nl κ κ' _ _ _ _ _ _ _ S2 _ _ _) (ex := ex) (ex2 := ex2) (rest := rest))
        simp only [List.append_assoc, List.cons_append, List.nil_append] at n5 ⊢
        exact n5)
end
end Mine
theorem Mine.off_r1 {M : Model} {A : Around} {env : Env} {Q : Flow → Shared → Prop} {E : Value → Shared → Prop} {s : Shared} (h : wpAny M A (execs [] env) Q E s) : wpAny M A (execs [] env) Q E s := by
  (try (walk1; fail "no"))
  w_top off
  exact h
namespace Mine
local macro_rules | `(tactic| k_ne) => `(tactic| first | exact (show Nq _ _ by with_reducible assumption) | exact Ne.symm (show Nq _ _ by with_reducible assumption) | (refine neN ?_; (try dsimp only); omega))
local macro_rules | `(tactic| k_room) => `(tactic| ((try simp only [depth_under_make, depth_under_kw, depth_in1, depth_deeper, depth_caller, ktrTop, recursionLimit] at *); omega))
local macro_rules | `(tactic| k_units) => `(tactic| ((have hcL9 := cLine_is); (try simp only [units_in1, units_deeper, Around.mark_units, units_caller, ktrTop] at *); omega))
local macro_rules | `(tactic| ktr_enter) => `(tactic| (refine' code_def ?k1 ?k2 ?k3 ?k4 ?k5 ?kA ?kF ?kK ?k6 ?k7 ?k8 ?k9 ?kB ?_ ?c2 ?c3 ?c4 ?c5; (case kA => exact rfl); (case kF => exact rfl); (case kK => first | exact rfl | assumption); (case k1 => k_asm); (case k2 => k_asm); (case k3 => k_asm); (case k4 => k_asm); (case k5 => k_asm); (case k6 => k_is); (case k7 => k_is); (case k8 => k_room); (case k9 => first | exact BindsTo.of_eq rfl | exact binds_K (by k_in) rfl (by k_is) rfl rfl rfl); (case c5 => decide); (case kB => exact locs rfl); (case c2 => exact rfl); (case c3 => exact rfl); (case c4 => exact rfl); k_whole; intro g' L' h' FG' F' N' B' X' T'; (try dsimp only); (try k_fold)))
local macro_rules | `(tactic| k_all) => `(tactic| (with_reducible assumption))
local macro_rules | `(tactic| tb_lt) => `(tactic| first | exact Pick.head | (refine' Pick.tail ?c; (case c => tb_lt)))
local macro_rules | `(tactic| tb_start) => `(tactic| first | exact Picks.nil | (refine' Picks.cons ?a ?b; (case a => tb_lt); (case b => tb_start)))
local macro_rules | `(tactic| tb_rel) => `(tactic| first | exact List.forall_mem_nil _ | (refine' List.forall_mem_cons.mpr ⟨?a, ?b⟩; (case a => k_all); (case b => tb_rel)))
local macro_rules | `(tactic| walk_at "TPost") => `(tactic| (dsimp only [TPost]))
local macro_rules | `(tactic| size_fits) => `(tactic| ((simp only [PySem.sizeLine_eq, List.size_toArray]); omega))
local macro_rules | `(tactic| k_gentoks) => `(tactic| (with_reducible refine' gen_toksP ?hp ?_; (case hp => first | omega | ((try simp only [List.length_cons]); omega)); intro tk htk))
local macro_rules | `(tactic| kstt_sub) => `(tactic| first | exact fun _ h => h | assumption | (refine' subCons ?a ?b; (case a => k_mem); (case b => kstt_sub)) | (refine' subTail ?a; (case a => kstt_sub)))
local macro_rules | `(tactic| kst_all) => `(tactic| first | exact List.forall_mem_nil _ | (refine' List.forall_mem_cons.mpr ⟨?a, ?b⟩; (case a => exact rfl); (case b => kst_all)))
local macro_rules | `(tactic| walk_at "MidEnd") => `(tactic| first
  | ((with_reducible show MidEnd _ _ _ _ _ _ _ Flow.next _); (refine' ⟨(tk8 _ _ _ _ _ _ _ _, _), _, _, _, rfl, ?F, ?N, ?ps, ?P⟩); (case F => assumption); (case N => (refine' nsub ?N1 ?N2; (case N1 => assumption); (case N2 => kstt_sub))); (case ps => kst_all); (case P => k_extra "mid"))
  | ((fail_if_success (with_reducible show MidEnd _ _ _ _ _ _ _ Flow.next _)); dsimp only [MidEnd]))
local macro_rules | `(tactic| walk_at "WEnd") => `(tactic| ((fail_if_success (with_reducible show WEnd _ _ _ _ _ _ _ _ _ Flow.next _)); dsimp only [WEnd]))
local macro_rules | `(tactic| walk_at "callWith") => `(tactic| (k_here; (with_reducible refine' callWith_method1 ?_ ?he ?hp); (case he => k_dflt rfl); (case hp => k_dflt rfl)))
local macro_rules | `(tactic| k_steps) => `(tactic| repeat' (first | (k_unfold; (try dsimp only)) | (k_end; wrow_close) | walk1 | (dsimp only [List.cons_append, List.nil_append]; walk1) | (dsimp only) | fail "no step"))
/-! the law's own reading of a name -/
def icW : PySem.Str := Str.ofString "invalid-codepoint"
def qcW : PySem.Str := Str.ofString "invalid-character-in-attribute-name"
def fltC (c : Nat) : List PySem.Str := if c = 0 then [icW] else if c ∈ [39, 34, 60] then [qcW] else []
def fltW (l : List Nat) : List PySem.Str := l.flatMap fltC
theorem fltW_snoc (l : List Nat) (c : Nat) : fltW (l ++ [c]) = fltW l ++ fltC c := by simp [fltW]
def isL (c : Nat) : Bool := decide (c ∈ letC)
def stepP (s : Nat × Bool) (c : Nat) : Nat × Bool := (s.1 + (if isL c && s.2 then 0 else 1), isL c)
def partsF (l : List Nat) : Nat × Bool := l.foldl stepP (0, false)
theorem partsF_snoc (l : List Nat) (c : Nat) : partsF (l ++ [c]) = stepP (partsF l) c := by unfold partsF; rw [List.foldl_append]; rfl
abbrev fltObj (word : PySem.Str) (t1 t2 : Nat) : Obj := { cls := .type "tuple", data := .seq #[.int 7 t1, .str word t2] 0 }
theorem zero_is : PySem.Str.ofString "\x00" = ⟨#[0]⟩ := by decide +kernel
theorem quote_is : [PySem.Str.ofString "'", PySem.Str.ofString "\"", PySem.Str.ofString "<"] = ones [39, 34, 60] := by decide +kernel
theorem subTr9 {A B C : List (Addr × Obj)} (h1 : ∀ q ∈ A, q ∈ B) (h2 : ∀ q ∈ B, q ∈ C) : ∀ q ∈ A, q ∈ C := fun q hq => h2 q (h1 q hq)
theorem allR9 {e : Nat} : ∀ {a b : List (Addr × Obj)}, AllLt e (a ++ b) → AllLt e b
  | [], _, h => h
  | _ :: a, _, h => allR9 (a := a) h.2
/-- what a statement leaves behind it, the other names unchanged -/
def MidEndK {σ : Type} (h₀ : Heap) (L : Addr) (m : PySem.Str → Option Value) (ps : σ → List (PySem.Str × Value)) (led : σ → List (Addr × Obj)) (P : σ → Prop) (s : Shared) (Q : Flow → Shared → Prop) (f : Flow) (s' : Shared) : Prop :=
  match f with
  | .next => ∃ c h' tk m', s' = { s with heap := h', toks := tk } ∧ Fr h₀ L h' m' ∧ News h₀ L h' (led c) ∧ (∀ p ∈ ps c, m' p.1 = some p.2) ∧ (∀ z, (∀ p ∈ ps c, z ≠ p.1) → m' z = m z) ∧ P c
  | f => Q f s'
theorem kstB_is {m m' : PySem.Str → Option Value} {ps : List (PySem.Str × Value)} (h1 : ∀ p ∈ ps, m' p.1 = some p.2) (h2 : ∀ z, (∀ p ∈ ps, z ≠ p.1) → m' z = m z) : kstB m ps = m' := by
  funext z
  by_cases hz : ∃ p ∈ ps, z = p.1
  · exact kstB_in h1 hz
  · have hz' : ∀ p ∈ ps, z ≠ p.1 := fun p hp e => hz ⟨p, hp, e⟩
    rw [kstB_out hz', h2 z hz']
theorem mid_cutK {prog : Program} {w : World} {A : Around} {E : Value → Shared → Prop} {s : Shared} {h₀ : Heap} {L : Addr} {Q : Flow → Shared → Prop} {t : Sem Flow} {σ : Type} (ps : σ → List (PySem.Str × Value)) (led : σ → List (Addr × Obj)) (P : σ → Prop) {m : PySem.Str → Option Value} (_F : Fr h₀ L s.heap m)
    (h : wpAny (model prog w) A t (MidEndK h₀ L m ps led P s Q) E s)
    (k : ∀ (c : σ) (h' : Heap) (tk : Nat), P c → Fr h₀ L h' (kstB m (ps c)) → News h₀ L h' (led c) → Q .next { s with heap := h', toks := tk }) :
    wpAny (model prog w) A t Q E s := by
  refine wpAny_mono h (fun f s' hm => ?_) fun _ _ e => e
  cases f with
  | next =>
    obtain ⟨c, h', tk, m', rfl, F, N, hps, hm', hP⟩ := hm
    exact k c h' tk hP (by rw [kstB_is hps hm']; exact F) N
  | brk => exact hm
  | cont => exact hm
  | ret v => exact hm
/-- a list's items as objects of one make -/
structure Its {α : Type} (mk : α → Nat → Nat → Obj) (us : List Value) (tl : List (Addr × Obj)) (ws : List α) : Prop where
  len : us.length = ws.length
  at' : ∀ (i : Nat) (x : α), ws[i]? = some x → ∃ a t1 t2, us[i]? = some (.ref a) ∧ (a, mk x t1 t2) ∈ tl
section
variable {α : Type} {mk : α → Nat → Nat → Obj}
theorem Its.nil {tl : List (Addr × Obj)} : Its mk [] tl [] := ⟨rfl, fun i x h => by simp at h⟩
theorem Its.mono {us : List Value} {tl tl' : List (Addr × Obj)} {ws : List α} (h : Its mk us tl ws) (hs : ∀ p ∈ tl, p ∈ tl') : Its mk us tl' ws :=
  ⟨h.len, fun i x e => by obtain ⟨a, t1, t2, h1, h2⟩ := h.at' i x e; exact ⟨a, t1, t2, h1, hs _ h2⟩⟩
theorem Its.app {us us' : List Value} {tl : List (Addr × Obj)} {ws ws' : List α} (h : Its mk us tl ws) (h' : Its mk us' tl ws') : Its mk (us ++ us') tl (ws ++ ws') := by
  refine ⟨by rw [List.length_append, List.length_append, h.len, h'.len], fun i x e => ?_⟩
  by_cases hi : i < ws.length
  · rw [List.getElem?_append_left hi] at e
    obtain ⟨a, t1, t2, h1, h2⟩ := h.at' i x e
    exact ⟨a, t1, t2, by rw [List.getElem?_append_left (by rw [h.len]; exact hi)]; exact h1, h2⟩
  · rw [List.getElem?_append_right (by omega)] at e
    obtain ⟨a, t1, t2, h1, h2⟩ := h'.at' _ x e
    exact ⟨a, t1, t2, by rw [List.getElem?_append_right (by rw [h.len]; omega), h.len]; exact h1, h2⟩
theorem Its.one {a t1 t2 : Nat} {x : α} {tl : List (Addr × Obj)} (h : (a, mk x t1 t2) ∈ tl) : Its mk [.ref a] tl [x] := by
  refine ⟨rfl, fun i y e => ?_⟩
  cases i with
  | zero =>
    have e' : x = y := by simpa using e
    subst e'
    exact ⟨a, t1, t2, rfl, h⟩
  | succ i => simp at e
end
/-- faults told as tuples -/
abbrev Flts (us : List Value) (tl : List (Addr × Obj)) (ws : List PySem.Str) : Prop := Its fltObj us tl ws
section
local macro_rules | `(tactic| walk_at "subscriptTail") => `(tactic| (k_here; (with_reducible show wpAny _ _ (subscriptTail _ _ (Value.ref 48) (Value.str (PySem.Str.ofString "ParseError") _)) _ _ _); k_dflt (refine' tt_err ?F ?X ?_; (case F => assumption); (case X => assumption)); intro u))
local macro_rules | `(tactic| walk_at "subscriptTail") => `(tactic| (k_here; (with_reducible show wpAny _ _ (subscriptTail _ _ (Value.ref 48) (Value.str (PySem.Str.ofString "StartTag") _)) _ _ _); k_dflt (refine' tt_start ?F ?X ?_; (case F => assumption); (case X => assumption)); intro u))
local macro_rules | `(tactic| walk_at "subscriptTail") => `(tactic| (k_here; (with_reducible show wpAny _ _ (subscriptTail _ _ (Value.ref 48) (Value.str (PySem.Str.ofString "EndTag") _)) _ _ _); k_dflt (refine' tt_end ?F ?X ?_; (case F => assumption); (case X => assumption)); intro u))
def letS : PySem.Str := Str.ofString "abcdefghijklmnopqrstuvwxyzABCDEFGHIJKLMNOPQRSTUVWXYZ"
theorem letS_is : (Str.ofString "abcdefghijklmnopqrstuvwxyzABCDEFGHIJKLMNOPQRSTUVWXYZ").cps.toList = letC := by decide +kernel
section
variable {w : World} {A : Around} {E : Value → Shared → Prop} {s : Shared} {c t u : Nat} {Q : Value → Shared → Prop}
theorem has_letS : Txt.contains (Str.ofString "abcdefghijklmnopqrstuvwxyzABCDEFGHIJKLMNOPQRSTUVWXYZ") ⟨#[c]⟩ = isL c := by
  refine (StrLaws.found_one _ c).trans ?_
  rw [letS_is]
  unfold isL
  simp
theorem in_letS (h : Q (.bool (isL c)) s) : wpAny (model PG w) A (compareOp .In (.str ⟨#[c]⟩ u) (.str (Str.ofString "abcdefghijklmnopqrstuvwxyzABCDEFGHIJKLMNOPQRSTUVWXYZ") t)) Q E s := by
  refine SB.contains ?_
  rw [has_letS]; exact h
theorem notin_letS (h : Q (.bool (!isL c)) s) : wpAny (model PG w) A (compareOp .NotIn (.str ⟨#[c]⟩ u) (.str (Str.ofString "abcdefghijklmnopqrstuvwxyzABCDEFGHIJKLMNOPQRSTUVWXYZ") t)) Q E s := by
  refine SB.notContains ?_
  rw [has_letS]; exact h
end
theorem fault_t {w : World} {x : PySem.Str} {tk : Nat} : TellR w 3 30 (.ref 779) [.str x tk] []
    (fun r f' rest => ∃ a t1 t2, r = .ref a ∧ AllLt a rest ∧ f' = [(a, fltObj x t1 t2)]) := by
  unfold TellR Tell KF PG
  k_fill
  intro rest off' mean mg mb dp un gd cn cs a ccd cl outer A₀ base h₀ L m s Q E B F X N T hk hd hu hret
  dsimp only [List.cons_append, List.nil_append] at N
  k_dflt ktr_enter
  k_with_none
  k_steps
  (rename ∀ p ∈ rest, p.1 < _ => l9)
  exact hret _ _ _ _ (by assumption) (by assumption) ⟨_, ⟨_, _, _, rfl, allLt_of l9, rfl⟩, rfl⟩
end
section
local macro_rules | `(tactic| walk_at "subscriptTail") => `(tactic| (k_here; (with_reducible show wpAny _ _ (subscriptTail _ _ (Value.ref 48) (Value.str (PySem.Str.ofString "ParseError") _)) _ _ _); k_dflt (refine' tt_err ?F ?X ?_; (case F => assumption); (case X => assumption)); intro u))
local macro_rules | `(tactic| walk_at "subscriptTail") => `(tactic| (k_here; (with_reducible show wpAny _ _ (subscriptTail _ _ (Value.ref 48) (Value.str (PySem.Str.ofString "StartTag") _)) _ _ _); k_dflt (refine' tt_start ?F ?X ?_; (case F => assumption); (case X => assumption)); intro u))
local macro_rules | `(tactic| walk_at "subscriptTail") => `(tactic| (k_here; (with_reducible show wpAny _ _ (subscriptTail _ _ (Value.ref 48) (Value.str (PySem.Str.ofString "EndTag") _)) _ _ _); k_dflt (refine' tt_end ?F ?X ?_; (case F => assumption); (case X => assumption)); intro u))
local macro_rules | `(tactic| walk_at "exec For Name Name cons nil") => `(tactic| (k_here; k_dflt (refine' For_invVF ?F ?k1 ?k2 ?_ ?k3 ?k4; (case F => assumption); (case k1 => exact rfl); (case k2 => exact rfl); (case k3 => (intro _; exact rfl)); (case k4 => first | assumption | passes_own | with_unfolding_all passes_own))))
local macro_rules | `(tactic| walk_at "compareOp NotIn str str") => `(tactic| (k_here; (with_reducible show wpAny _ _ (compareOp CmpOp.NotIn (Value.str _ _) (Value.str _ _)) _ _ _); k_dflt (refine' notin_letS ?_)))
local macro_rules | `(tactic| walk_at "compareOp In str str") => `(tactic| (k_here; (with_reducible show wpAny _ _ (compareOp CmpOp.In (Value.str _ _) (Value.str _ _)) _ _ _); k_dflt (refine' in_letS ?_)))
local macro_rules | `(tactic| walk_at "call ref") => `(tactic| (k_here; k_dflt (refine' TellR.use (fault_t ) ?k1 ?k2 ?k3 ?k4 ?k5 ?kK ?kp ?ko ?kd ?ku ?k0 ?_; (case k1 => k_asm); (case k2 => k_asm); (case k3 => k_asm); (case k4 => k_asm); (case k5 => k_asm); (case kK => first | exact rfl | assumption); (case kp => tb_start); (case ko => tb_rel); (case kd => k_room); (case ku => k_units); (case k0 => first | exact (show 1 ≤ _ by (try dsimp only); omega) | exact Nat.zero_le _); intro r9 f9 h9 tk9 p9 F9 N9 hP9; obtain ⟨a9, t1, t2, e1, hl9, e2⟩ := hP9; subst e1; subst e2; (try simp only [AllLt] at hl9); (try dsimp only [List.nil_append, List.cons_append] at N9); (try k_fold))))
theorem parts_t {w : World} {x : PySem.Str} {tk : Nat} (hx : x.length ≤ 2000) : TellR w 6 60 (.ref 786) [.str x tk] []
    (fun r f' rest => ∃ (tp fl ep t1 : Nat) (us : List Value) (tl : List (Addr × Obj)), r = .ref tp ∧ Flts us tl (fltW x.cps.toList) ∧ us.length ≤ 2000 ∧ (∀ p ∈ tl, AllLt p.1 rest) ∧ AllLt fl rest ∧ AllLt tp rest ∧ (∀ p ∈ tl, p.1 ≠ fl ∧ p.1 ≠ tp) ∧ fl ≠ tp ∧
      f' = (tp, { cls := .type "tuple", data := .seq #[.int ((partsF x.cps.toList).1 : Nat) t1, .ref fl] 0 }) :: (fl, W.listOf us.toArray ep) :: tl) := by
  unfold TellR Tell KF PG
  k_fill
  intro rest off' mean mg mb dp un gd cn cs a ccd cl outer A₀ base h₀ L m s Q E B F X N T hk hd hu hret
  dsimp only [List.cons_append, List.nil_append] at N
  k_dflt ktr_enter
  k_with_none
  repeat' (first | ((fail_if_success (with_reducible show wpAny _ _ (pyIter _) _ _ _)); first | (k_unfold; (try dsimp only)) | (k_end; wrow_close) | walk1 | (dsimp only [List.cons_append, List.nil_append]; walk1) | (dsimp only) | fail "no step"))
  (rename Fr _ _ _ _ => f8)
  (rename News _ _ _ _ => n8)
  (rename ∀ p ∈ rest, p.1 < _ => l8)
  obtain ⟨fl, efl⟩ := News.addr n8
  subst efl
  refine' str_loop (fun c : List Value × Nat × List (Addr × Obj) × Nat × Nat × Bool => (fl, W.listOf c.1.toArray c.2.1) :: c.2.2.1) rest (fun c => [(Str.ofString "deeds", .int (c.2.2.2.1 : Nat) c.2.2.2.2.1), (Str.ofString "faults", .ref fl), (Str.ofString "letter", .bool c.2.2.2.2.2)]) [Str.ofString "deeds", Str.ofString "letter"]
    (fun pre c => Flts c.1 c.2.2.1 (fltW pre) ∧ c.1.length ≤ pre.length ∧ (∀ p ∈ c.2.2.1, p.1 ≠ fl ∧ AllLt p.1 rest) ∧ (c.2.2.2.1, c.2.2.2.2.2) = partsF pre) ([], _, [], 0, _, false) rfl f8 ?N ?off ?hk ?hp ?turn ?done
  case N => exact n8
  case off => exact List.forall_mem_cons.mpr ⟨fun p hp => Nat.ne_of_lt (l8 p hp), List.forall_mem_nil _⟩
  case hk => kst_all
  case hp => exact ⟨.nil, Nat.le_refl _, List.forall_mem_nil _, rfl⟩
  case turn =>
    rintro ⟨us, ep, tl, dd, dt, lt⟩ pre post c t u h' tk' rest' hpre ⟨hF, hl, ho, hd⟩ off' sub' F' N'
    dsimp only [List.cons_append, List.nil_append] at N' F' hF hl ho hd off'
    have hlx : pre.length < x.length := by
      have h9 := congrArg List.length hpre
      simp only [List.length_append, List.length_cons, Array.length_toList] at h9
      show _ < x.cps.size
      omega
    obtain ⟨R, eR⟩ : ∃ R, R = tl ++ rest' := ⟨_, rfl⟩
    rw [← eR] at N'
    have hfl := off' _ (.head _)
    dsimp only at hfl
    have hRfl : ∀ p ∈ R, p.1 ≠ fl := fun p hp => by
      rw [eR] at hp
      exact (List.mem_append.mp hp).elim (fun h => (ho p h).1) (hfl p)
    clear f8 n8
    (try k_fold)
    k_with_none
    (rename Fr _ _ _ _ => f7)
    repeat' (first | ((fail_if_success (with_reducible show wpAny _ _ (PySem.exec (PySem.Stmt.If _ _ _ _) _) _ _ _)); first | (k_unfold; (try dsimp only)) | (k_end; wrow_close) | walk1 | (dsimp only [List.cons_append, List.nil_append]; walk1) | (dsimp only) | fail "no step"))
    refine mid_cutK (fun d : Nat × Nat => [(Str.ofString "c", .str ⟨#[c]⟩ t), (Str.ofString "deeds", .int (d.1 : Nat) d.2), (Str.ofString "faults", .ref fl), (Str.ofString "letter", .bool lt)])
      (fun _ => (fl, W.listOf us.toArray ep) :: R) (fun d => d.1 = dd + (if isL c && lt then 0 else 1)) f7 ?h ?k
    case h =>
      repeat' (first | ((fail_if_success (with_reducible show MidEndK _ _ _ _ _ _ _ _ _ _)); first | (k_unfold; (try dsimp only)) | (k_end; wrow_close) | walk1 | (dsimp only [List.cons_append, List.nil_append]; walk1) | (dsimp only) | fail "no step"))
      · (rename News _ _ _ _ => n9)
        exact ⟨(dd, _), _, _, _, rfl, (by assumption), n9, (by kst_all), (fun z h2 => by simp only [List.forall_mem_cons] at h2; simp [h2, kstB]), by dsimp only; simp only [*]; rfl⟩
      · (rename News _ _ _ _ => n9)
        exact ⟨(dd + 1, _), _, _, _, rfl, (by assumption), n9, (by kst_all), (fun z h2 => by simp only [List.forall_mem_cons] at h2; simp [h2, kstB]), by dsimp only; simp only [*]; rfl⟩
      · (rename News _ _ _ _ => n9)
        exact ⟨(dd + 1, _), _, _, _, rfl, (by assumption), n9, (by kst_all), (fun z h2 => by simp only [List.forall_mem_cons] at h2; simp [h2, kstB]), by dsimp only; simp only [*]; rfl⟩
    case k =>
      rintro ⟨d1, d2⟩ h8 tk8' hd1 F8 N8
      dsimp only at F8 N8 hd1
      clear f7 N'
      (try k_fold)
      repeat' (first | ((fail_if_success (with_reducible show TEnd _ _ _ _ _ _ _)); first | (k_unfold; (try dsimp only)) | (k_end; wrow_close) | walk1 | (dsimp only [List.cons_append, List.nil_append]; walk1) | (dsimp only) | fail "no step"))
      · (rename News _ _ _ _ => n9)
        (rename _ < _ ∧ _ => l9)
        (rename (_ == _) = true => ha)
        have hc9 : fltC c = [icW] := by
          rw [one_eq zero_is, decide_eq_true_eq] at ha
          unfold fltC; rw [if_pos ha]
        obtain ⟨a9, ea9⟩ := News.addr n9
        subst ea9
        obtain ⟨z1, z2⟩ := l9
        simp only [push_app] at n9
        have hr9 : AllLt a9 rest' := allLt_of fun p hp => tb_ltOf z2 p (eR ▸ List.mem_append_right _ hp)
        refine' ⟨(us ++ [.ref a9], _, (a9, fltObj _ _ _) :: tl, d1, d2, isL c), _, _, _, rfl, (by assumption), ?N1, ?of1, (by kst_all), (fun z h1 h2 h3 => by simp only [List.forall_mem_cons] at h2; simp [h1, h2, h3, kstB]), ?P1⟩
        case N1 => refine nsub n9 (subCons (by k_mem) (subCons (by k_mem) (subTr9 (B := R) (fun q hq => by rw [eR]; exact hq) (by kstt_sub))))
        case of1 => exact List.forall_mem_cons.mpr ⟨hfl, List.forall_mem_cons.mpr ⟨tbn_neAll hr9, fun q hq => off' q (.tail _ hq)⟩⟩
        case P1 =>
          refine ⟨?_, by rw [List.length_append, List.length_append]; exact Nat.add_le_add_right hl 1, List.forall_mem_cons.mpr ⟨⟨Nat.ne_of_gt z1, allLt_of fun p hp => tb_ltOf hr9 p (sub' p hp)⟩, ho⟩, ?_⟩
          · rw [fltW_snoc, hc9]
            exact (hF.mono fun p hp => .tail _ hp).app (.one (.head _))
          · rw [partsF_snoc, ← hd, hd1]; rfl
      · (rename News _ _ _ _ => n9)
        (rename _ < _ ∧ _ => l9)
        (rename (List.any _ _) = true => hb)
        (rename (_ == _) = false => ha)
        have hc9 : fltC c = [qcW] := by
          rw [one_eq zero_is, decide_eq_false_iff_not] at ha
          rw [quote_is, ones_any, decide_eq_true_eq] at hb
          unfold fltC; rw [if_neg ha, if_pos hb]
        obtain ⟨a9, ea9⟩ := News.addr n9
        subst ea9
        obtain ⟨z1, z2⟩ := (show fl < a9 ∧ AllLt a9 R from l9.2)
        simp only [push_app] at n9
        have hr9 : AllLt a9 rest' := allLt_of fun p hp => tb_ltOf z2 p (eR ▸ List.mem_append_right _ hp)
        refine' ⟨(us ++ [.ref a9], _, (a9, fltObj _ _ _) :: tl, d1, d2, isL c), _, _, _, rfl, (by assumption), ?N2, ?of2, (by kst_all), (fun z h1 h2 h3 => by simp only [List.forall_mem_cons] at h2; simp [h1, h2, h3, kstB]), ?P2⟩
        case N2 => refine nsub n9 (subCons (by k_mem) (subCons (by k_mem) (subTr9 (B := R) (fun q hq => by rw [eR]; exact hq) (by kstt_sub))))
        case of2 => exact List.forall_mem_cons.mpr ⟨hfl, List.forall_mem_cons.mpr ⟨tbn_neAll hr9, fun q hq => off' q (.tail _ hq)⟩⟩
        case P2 =>
          refine ⟨?_, by rw [List.length_append, List.length_append]; exact Nat.add_le_add_right hl 1, List.forall_mem_cons.mpr ⟨⟨Nat.ne_of_gt z1, allLt_of fun p hp => tb_ltOf hr9 p (sub' p hp)⟩, ho⟩, ?_⟩
          · rw [fltW_snoc, hc9]
            exact (hF.mono fun p hp => .tail _ hp).app (.one (.head _))
          · rw [partsF_snoc, ← hd, hd1]; rfl
      · (rename News _ _ _ _ => n9)
        (rename (List.any _ _) = false => hb)
        (rename (_ == _) = false => ha)
        have hc9 : fltC c = [] := by
          rw [one_eq zero_is, decide_eq_false_iff_not] at ha
          rw [quote_is, ones_any, decide_eq_false_iff_not] at hb
          unfold fltC; rw [if_neg ha, if_neg hb]
        refine' ⟨(us, _, tl, d1, d2, isL c), _, _, _, rfl, (by assumption), ?N3, ?of3, (by kst_all), (fun z h1 h2 h3 => by simp only [List.forall_mem_cons] at h2; simp [h1, h2, h3, kstB]), ?P3⟩
        case N3 => refine nsub n9 (subCons (by k_mem) (subTr9 (B := R) (fun q hq => by rw [eR]; exact hq) (by kstt_sub)))
        case of3 => exact off'
        case P3 =>
          refine ⟨?_, by rw [List.length_append]; exact Nat.le_add_right_of_le hl, ho, ?_⟩
          · rw [fltW_snoc, hc9, List.append_nil]; exact hF
          · rw [partsF_snoc, ← hd, hd1]; rfl
  case done =>
    rintro ⟨us, ep, tl, dd, dt, lt⟩ u h' tk' ⟨hF, hl, ho, hd⟩ off' F' N'
    dsimp only [List.cons_append, List.nil_append] at N' F' hF hl ho hd off'
    clear f8 n8
    (try k_fold)
    k_with_none
    k_steps
    (rename News _ _ _ _ => n9)
    (rename _ < _ ∧ _ => l9)
    obtain ⟨tp, etp⟩ := News.addr n9
    subst etp
    obtain ⟨z1, z2⟩ := l9
    have hd' : (partsF x.cps.toList).1 = dd := by rw [← hd]
    refine' hret _ _ _ _ (by assumption) ?S9 ⟨_, ⟨tp, fl, ep, dt, us, tl, rfl, hF, by have := x.cps.toList.length; have h9 : x.cps.toList.length = x.length := Array.length_toList; omega, fun p hp => (ho p hp).2, allLt_of l8, allR9 z2, fun p hp => ⟨(ho p hp).1, Nat.ne_of_lt (tb_ltOf z2 p (List.mem_append_left _ hp))⟩, Nat.ne_of_lt z1, rfl⟩, rfl⟩
    case S9 =>
      rw [hd']
      exact n9
end
end Mine
namespace Mine
/-! comprehensions that make tuples; keys of a dict; names of pairs -/
abbrev rowObj (q : PySem.Str × PySem.Str) (t1 t2 : Nat) : Obj := { cls := .type "tuple", data := .seq #[.str q.1 t1, .str q.2 t2] 0 }
section
variable {prog : Program} {w : World} {A : Around} {E : Value → Shared → Prop} {s : Shared} {h₀ : Heap} {L : Addr} {m : PySem.Str → Option Value} {env : Env}
theorem rest_rows {elt : PySem.Expr} {x : PySem.Str} {scope : Scope} {cl : List (PySem.Str × Addr)} {S : List (Addr × Obj) → Prop} {P : Nat → Value → Prop} {Fin : List Value → List (Addr × Obj) → Prop} {news : List (Addr × Obj)} {rows : List (PySem.Str × PySem.Str)} {n : Nat}
    (hn : rows.length = n) (hS : ∀ nw p, S nw → S (p :: nw)) (h0 : S news)
    (turn : ∀ (i : Nat) (q : PySem.Str × PySem.Str) v I oI C oC D m₂ ys h tk (E' : Value → Shared → Prop) nw, rows[i]? = some q → P i v → LCg.NsObj oC m₂ → m₂ x = some v → Fr h₀ L h m → News h₀ L h ((I, oI) :: (C, oC) :: (D, LCg.lst ys) :: nw) → LCg.Off3 I C D nw → ((@Ne Nat I C) ∧ (@Ne Nat I D) ∧ (@Ne Nat C D)) → S nw → (∀ p ∈ news, p ∈ nw) →
      wpAny (model prog w) A (eval elt (compEnvC scope cl C env)) (LCg.CompEnd h₀ L m { s with heap := h, toks := tk } I oI C oC D (LCg.lst ys) S (fun y nw' => ∃ d t1 t2, y = .ref d ∧ AllLt d nw ∧ nw' = (d, rowObj q t1 t2) :: nw)) E' { s with heap := h, toks := tk })
    (fin : ∀ ys tl, Its rowObj ys tl rows → (∀ p ∈ tl, AllLt p.1 news) → Fin ys (tl ++ news)) : LCg.CompRest prog w A h₀ L m env elt x scope cl s S P Fin n 0 [] news := by
  have key : ∀ (j i : Nat) (ys : List Value) (tl : List (Addr × Obj)), i + j = n → Its rowObj ys tl (rows.take i) → S (tl ++ news) → (∀ p ∈ tl, AllLt p.1 news) → LCg.CompRest prog w A h₀ L m env elt x scope cl s S P Fin j i ys (tl ++ news) := by
    intro j
    induction j with
    | zero =>
      intro i ys tl hi hI hSt hl
      have e : rows.take i = rows := List.take_of_length_le (by omega)
      rw [e] at hI
      exact LCg.CompRest.zero (fin ys tl hI hl)
    | succ j ih =>
      intro i ys tl hi hI hSt hl
      refine LCg.CompRest.succ ?_
      intro v I oI C oC D m₂ h tk E' hv hC hx F N off ne
      have hlt : i < rows.length := by omega
      have hq : rows[i]? = some rows[i] := List.getElem?_eq_getElem hlt
      refine wpAny_mono (turn i _ v I oI C oC D m₂ ys h tk E' _ hq hv hC hx F N off ne hSt fun p hp => List.mem_append_right _ hp) (fun y s₂ hy => ?_) fun _ _ e => e
      obtain ⟨h', tk', nw, e, F', N', off', hS', d, t1, t2, rfl, hd, rfl⟩ := hy
      refine ⟨h', tk', _, e, F', N', off', hS', ?_⟩
      refine ih (i + 1) _ ((d, rowObj rows[i] t1 t2) :: tl) (by omega) ?_ hS' ?_
      · rw [List.take_add_one, hq]
        exact (hI.mono fun p hp => .tail _ hp).app (.one (.head _))
      · exact List.forall_mem_cons.mpr ⟨allLt_of fun p hp => tb_ltOf hd p (List.mem_append_right _ hp), hl⟩
  exact key n 0 [] [] (by omega) .nil h0 (List.forall_mem_nil _)
theorem rest_names {elt : PySem.Expr} {x x₂ : PySem.Str} {scope : Scope} {cl : List (PySem.Str × Addr)} {S : List (Addr × Obj) → Prop} {P : Nat → Value → Prop} {Fin : List Value → List (Addr × Obj) → Prop} {news : List (Addr × Obj)} {rows : List (PySem.Str × PySem.Str)} {n : Nat}
    (hn : rows.length = n) (hP : ∀ (i : Nat) v, P i v → ∃ (q : PySem.Str × PySem.Str) (a t1 t2 : Nat), rows[i]? = some q ∧ v = .ref a ∧ (a, rowObj q t1 t2) ∈ news)
    (turn : ∀ (q : PySem.Str × PySem.Str) (t1 t2 : Nat) I oI C oC D m₂ ys h tk (E' : Value → Shared → Prop), LCg.NsObj oC m₂ → m₂ x = some (.str q.1 t1) → m₂ x₂ = some (.str q.2 t2) → Fr h₀ L h m → News h₀ L h ((I, oI) :: (C, oC) :: (D, LCg.lst ys) :: news) → LCg.Off3 I C D news → ((@Ne Nat I C) ∧ (@Ne Nat I D) ∧ (@Ne Nat C D)) →
      wpAny (model prog w) A (eval elt (compEnvC scope cl C env)) (LCg.CompEnd h₀ L m { s with heap := h, toks := tk } I oI C oC D (LCg.lst ys) S (fun y nw' => y = .str q.1 t1 ∧ nw' = news)) E' { s with heap := h, toks := tk })
    (fin : ∀ ys, StrsAre ys (rows.map Prod.fst) → Fin ys news) : LCp.CompRestP prog w A h₀ L m env elt x x₂ scope cl s S P Fin n 0 [] news := by
  have key : ∀ (j i : Nat) (ys : List Value), i + j = n → StrsAre ys ((rows.take i).map Prod.fst) → LCp.CompRestP prog w A h₀ L m env elt x x₂ scope cl s S P Fin j i ys news := by
    intro j
    induction j with
    | zero =>
      intro i ys hi hy
      have e : rows.take i = rows := List.take_of_length_le (by omega)
      rw [e] at hy
      exact LCp.CompRestP.zero (fin ys hy)
    | succ j ih =>
      intro i ys hi hy
      refine LCp.CompRestP.succ ?_
      intro v hv
      obtain ⟨q, a, t1, t2, hq, rfl, hm⟩ := hP i v hv
      refine ⟨a, _, .str q.1 t1, .str q.2 t2, 0, rfl, hm, rfl, rfl, ?_⟩
      intro I oI C oC D m₂ h tk E' hC h1 h2 F N off ne
      refine wpAny_mono (turn q t1 t2 I oI C oC D m₂ ys h tk E' hC h1 h2 F N off ne) (fun y s₂ hz => ?_) fun _ _ e => e
      obtain ⟨h', tk', nw, e, F', N', off', hS', rfl, rfl⟩ := hz
      refine ⟨h', tk', _, e, F', N', off', hS', ih (i + 1) _ (by omega) ?_⟩
      rw [List.take_add_one, hq, List.map_append]
      exact hy.append' (.cons _ _ .nil)
  exact key n 0 [] (by omega) (by simp only [List.take_zero, List.map_nil]; exact .nil)
theorem dict_st {d I : Addr} {od : Obj} {kvs : List (PySem.Str × Value)} {ep : Nat} (hA : ∀ h : Heap, h.get? d = some od → h.DictAt (PySem.strKind prog w) d kvs ep) : ∀ i (h h' : Heap) (o : Obj) (nw : List (Addr × Obj)), (h.IsKeyIter I d i kvs.length ep ∧ h.DictAt (PySem.strKind prog w) d kvs ep) → h.get? I = some o → h'.get? I = some o → (∀ b o, h₀.get? b = some o → h'.get? b = some o) → News h₀ L h' nw → (d, od) ∈ nw → (h'.IsKeyIter I d i kvs.length ep ∧ h'.DictAt (PySem.strKind prog w) d kvs ep) :=
  fun i h h' o nw st e e' _ N S => ⟨by obtain ⟨o', q, r⟩ := st.1; rw [e] at q; cases q; exact ⟨o, e', r⟩, hA h' (N _ S).1⟩
theorem ListComp_D {elt iter : PySem.Expr} {x : PySem.Str} {px : Pos} {scope : Scope} {cl : List (PySem.Str × Addr)} {pos : Pos} {Q : Value → Shared → Prop} (F₀ : Fr h₀ L s.heap m)
    (hclos : closureFor scope env = pure cl) (hcell : ∀ y ∈ scope.names, y.2 ≠ .cell) (hkind : scope.kind = .function)
    (hnames : ∀ y ∈ scope.names, y.2 = .local → scope.names.lookup y.1 = some .local) (hx : scope.names.lookup x = some .local)
    (h : wpAny (model prog w) A (eval iter env) (fun xv s₁ => ∃ (d : Addr) (od : Obj) (kvs : List (PySem.Str × Value)) (news : List (Addr × Obj)), xv = .ref d ∧ A.handled = none ∧ Fr h₀ L s₁.heap m ∧ News h₀ L s₁.heap news ∧ (d, od) ∈ news ∧ (d == sysModules) = false ∧ od.IsDictOf (PySem.strKind prog w) kvs ∧ kvs.length ≤ sizeLine ∧
      ∀ s₂ : Shared, (∃ h, s₂ = { s₁ with heap := h }) → LCg.CompRest prog w A h₀ L m env elt x scope cl s₂ (fun nw => (d, od) ∈ nw) (fun i v => ∃ k y, kvs[i]? = some (k, y) ∧ (PySem.strKind prog w).is k v = true) (LCg.FinE h₀ L m s₂ Q) kvs.length 0 [] news) E s)
    (hs : ∀ x, foldedSetIterable iter env x = pure x := by intro _; rfl) :
    wpAny (model prog w) A (eval (.ListComp elt [⟨.Name x px, iter, [], 0⟩] scope pos) env) Q E s := by
  rw [eval_ListComp]
  refine wpAny_comprehension_free (use := none) rfl hs hclos hkind hnames (wpAny_mono h (fun xv s₁ h₁ => ?_) fun _ _ e => e)
  obtain ⟨d, od, kvs, news, rfl, hh, F, N, hm, hds, hD, hsz, R⟩ := h₁
  have hDo : s₁.heap.DictOf (PySem.strKind prog w) d kvs := Heap.dictOf_iff.mpr ⟨od, (N _ hm).1, hD⟩
  obtain ⟨ep, hat⟩ := hDo.dictAt
  have hat0 := hat
  obtain ⟨o', es, ho', hr⟩ := hat0
  have eo : o' = od := Option.some.inj (ho'.symm.trans (N _ hm).1)
  subst eo
  have hlt : d < s₁.heap.objs.size := Heap.lt_size (N _ hm).1
  refine wpAny_pyIter_dict hds hat ?_
  have up : ∀ b o, s₁.heap.get? b = some o → (s₁.heap.push { cls := .type "dict_keyiterator", data := .fields #[.ref d, .int 0 0, .int kvs.length 0, .int ep 0] }).get? b = some o := fun b o e => Heap.get?_push_of_some _ e
  refine LCg.block_U (Walks.dictKeys hh s₁.heap.objs.size d (Nat.ne_of_lt hlt) kvs ep) hsz (fun i h st => by obtain ⟨o, e, _⟩ := st.1; exact ⟨o, e⟩) (dict_st fun h e => ⟨o', es, e, hr⟩) hcell hkind hx ⟨⟨_, Heap.get?_push_size _ rfl, rfl, rfl⟩, hat.at' fun o e => up _ _ e⟩ (fun b hb => ?_)
    (F.keeps up) (N.grown up) (Nat.ne_of_lt F.ns.lt) (next_is_new F) (fun p hp => Nat.ne_of_lt (Heap.lt_size (N p hp).1)) hm (R _ ⟨_, rfl⟩) ?_
  · show b < (s₁.heap.push _).objs.size
    rw [Heap.size_push]
    rcases List.mem_cons.mp hb with rfl | hb
    · exact Nat.lt_succ_self _
    · rw [List.mem_singleton.mp hb]; exact Nat.lt_succ_of_lt hlt
  · intro D C h tk m' ys news' F' N' o1 hn hC₀ hD₀ hCL hDL hCD offC fin
    refine ⟨m', hn, fun h'' hs'' => fin D h'' tk (F'.change hs'' hCL hC₀) (fun p hp => ?_) o1⟩
    refine ⟨hs''.extBut _ _ ?_ (N' p hp).1, (N' p hp).2⟩
    rcases List.mem_cons.mp hp with rfl | hp
    · exact Ne.symm hCD
    · exact offC p hp
end
end Mine
theorem Mine.off_r4 {M : Model} {A : Around} {env : Env} {Q : Flow → Shared → Prop} {E : Value → Shared → Prop} {s : Shared} (h : wpAny M A (execs [] env) Q E s) : wpAny M A (execs [] env) Q E s := by
  (try (walk1; fail "no"))
  w_top off
  exact h
namespace Mine
local macro_rules | `(tactic| k_ne) => `(tactic| first | exact (show Nq _ _ by with_reducible assumption) | exact Ne.symm (show Nq _ _ by with_reducible assumption) | (refine neN ?_; (try dsimp only); omega))
local macro_rules | `(tactic| k_room) => `(tactic| ((try simp only [depth_under_make, depth_under_kw, depth_in1, depth_deeper, depth_caller, ktrTop, recursionLimit] at *); omega))
local macro_rules | `(tactic| k_units) => `(tactic| ((have hcL9 := cLine_is); (try simp only [units_in1, units_deeper, Around.mark_units, units_caller, ktrTop] at *); omega))
local macro_rules | `(tactic| ktr_enter) => `(tactic| (refine' code_def ?k1 ?k2 ?k3 ?k4 ?k5 ?kA ?kF ?kK ?k6 ?k7 ?k8 ?k9 ?kB ?_ ?c2 ?c3 ?c4 ?c5; (case kA => exact rfl); (case kF => exact rfl); (case kK => first | exact rfl | assumption); (case k1 => k_asm); (case k2 => k_asm); (case k3 => k_asm); (case k4 => k_asm); (case k5 => k_asm); (case k6 => k_is); (case k7 => k_is); (case k8 => k_room); (case k9 => first | exact BindsTo.of_eq rfl | exact binds_K (by k_in) rfl (by k_is) rfl rfl rfl); (case c5 => decide); (case kB => exact locs rfl); (case c2 => exact rfl); (case c3 => exact rfl); (case c4 => exact rfl); k_whole; intro g' L' h' FG' F' N' B' X' T'; (try dsimp only); (try k_fold)))
local macro_rules | `(tactic| k_all) => `(tactic| (with_reducible assumption))
local macro_rules | `(tactic| tb_lt) => `(tactic| first | exact Pick.head | (refine' Pick.tail ?c; (case c => tb_lt)))
local macro_rules | `(tactic| tb_start) => `(tactic| first | exact Picks.nil | (refine' Picks.cons ?a ?b; (case a => tb_lt); (case b => tb_start)))
local macro_rules | `(tactic| tb_rel) => `(tactic| first | exact List.forall_mem_nil _ | (refine' List.forall_mem_cons.mpr ⟨?a, ?b⟩; (case a => k_all); (case b => tb_rel)))
local macro_rules | `(tactic| walk_at "TPost") => `(tactic| (dsimp only [TPost]))
local macro_rules | `(tactic| size_fits) => `(tactic| ((simp only [PySem.sizeLine_eq, List.size_toArray]); omega))
local macro_rules | `(tactic| k_gentoks) => `(tactic| (with_reducible refine' gen_toksP ?hp ?_; (case hp => first | omega | ((try simp only [List.length_cons]); omega)); intro tk htk))
local macro_rules | `(tactic| kstt_sub) => `(tactic| first | exact fun _ h => h | assumption | (refine' subCons ?a ?b; (case a => k_mem); (case b => kstt_sub)) | (refine' subTail ?a; (case a => kstt_sub)))
local macro_rules | `(tactic| kst_all) => `(tactic| first | exact List.forall_mem_nil _ | (refine' List.forall_mem_cons.mpr ⟨?a, ?b⟩; (case a => exact rfl); (case b => kst_all)))
local macro_rules | `(tactic| walk_at "MidEnd") => `(tactic| first
  | ((with_reducible show MidEnd _ _ _ _ _ _ _ Flow.next _); (refine' ⟨(tk8 _ _ _ _ _ _ _ _, _), _, _, _, rfl, ?F, ?N, ?ps, ?P⟩); (case F => assumption); (case N => (refine' nsub ?N1 ?N2; (case N1 => assumption); (case N2 => kstt_sub))); (case ps => kst_all); (case P => k_extra "mid"))
  | ((fail_if_success (with_reducible show MidEnd _ _ _ _ _ _ _ Flow.next _)); dsimp only [MidEnd]))
local macro_rules | `(tactic| walk_at "WEnd") => `(tactic| ((fail_if_success (with_reducible show WEnd _ _ _ _ _ _ _ _ _ Flow.next _)); dsimp only [WEnd]))
local macro_rules | `(tactic| walk_at "callWith") => `(tactic| (k_here; (with_reducible refine' callWith_method1 ?_ ?he ?hp); (case he => k_dflt rfl); (case hp => k_dflt rfl)))
local macro_rules | `(tactic| k_steps) => `(tactic| repeat' (first | (k_unfold; (try dsimp only)) | (k_end; wrow_close) | walk1 | (dsimp only [List.cons_append, List.nil_append]; walk1) | (dsimp only) | fail "no step"))
/-! what the law reads off the queue -/
def flagW (b : Bool) : PySem.Str := if b then Str.ofString "yes" else Str.ofString "no"
theorem flag_t {w : World} {b : Bool} : TellR w 3 30 (.ref 793) [.bool b] []
    (fun r f' rest => ∃ u, r = .str (flagW b) u ∧ f' = []) := by
  unfold TellR Tell KF PG
  k_fill
  intro rest off' mean mg mb dp un gd cn cs a ccd cl outer A₀ base h₀ L m s Q E B F X N T hk hd hu hret
  dsimp only [List.cons_append, List.nil_append] at N
  cases b
  · k_dflt ktr_enter
    k_with_none
    k_steps
    exact hret _ _ _ _ (by assumption) (by assumption) ⟨_, ⟨_, rfl, rfl⟩, rfl⟩
  · k_dflt ktr_enter
    k_with_none
    k_steps
    exact hret _ _ _ _ (by assumption) (by assumption) ⟨_, ⟨_, rfl, rfl⟩, rfl⟩
/-- the told tag's tuple -/
abbrev tagObj (kd : Nat) (y : PySem.Str) (kl : Addr) (fl : Bool) (t1 t2 t3 : Nat) : Obj := { cls := .type "tuple", data := .seq #[.int (kd : Int) t1, .str y t2, .ref kl, .str (flagW fl) t3] 0 }
/-- the tag in the queue: none, a start tag, an end tag -/
inductive TagQ (w : World) : List Value → List (Addr × Obj) → Option (Nat × PySem.Str × List (PySem.Str × PySem.Str) × Bool) → Prop
  | none : TagQ w [] [] none
  | start {ct da : Addr} {oC oD : Obj} {k1 k2 : Nat} {y : PySem.Str} {fl : Bool} {ps prs} : oC.IsDictOf (PySem.strKind PG w) (ctRows 3 k1 y k2 da fl) → oD.IsDictOf (PySem.strKind PG w) ps → SV ps prs → ps.length ≤ 100 → (da == sysModules) = false → TagQ w [.ref ct] [(ct, oC), (da, oD)] (some (3, y, prs, fl))
  | fin {ct dl : Addr} {oC : Obj} {k1 k2 n : Nat} {y : PySem.Str} {fl : Bool} {us O prs} : oC.IsDictOf (PySem.strKind PG w) (ctRows 4 k1 y k2 dl fl) → Prs us O prs → us.length ≤ 100 → TagQ w [.ref ct] ((ct, oC) :: (dl, W.listOf us.toArray n) :: O) (some (4, y, prs, fl))
theorem Toks.at' {w : World} : ∀ {us ex ws}, Toks w us ex ws → ∀ (i : Nat) (v : Value), us[i]? = some v → ∃ (a : Nat) (o : Obj) (x : PySem.Str) (t1 t2 : Nat), v = .ref a ∧ ws[i]? = some x ∧ (a, o) ∈ ex ∧ o.IsDictOf (PySem.strKind PG w) [(Str.ofString "type", .int 7 t1), (Str.ofString "data", .str x t2)]
  | _, _, _, .nil, i, v, h => by simp at h
  | _, _, _, .cons h1 h, 0, v, e => by
    cases (Option.some.inj e : _ = v)
    exact ⟨_, _, _, _, _, rfl, rfl, .head _, h1⟩
  | _, _, _, .cons h1 h, i + 1, v, e => by
    obtain ⟨a, o, x, t1, t2, h2, h3, h4, h5⟩ := h.at' i v (by simpa using e)
    exact ⟨a, o, x, t1, t2, h2, by simpa using h3, .tail _ h4, h5⟩
theorem FrName {h₀ h : Heap} {L : Addr} {m : PySem.Str → Option Value} (_F : Fr h₀ L h m) : ∃ z : Nat, z = L := ⟨L, rfl⟩
theorem CellName {o : Obj} {x : Option Value} (_h : o.data = .cell x) : ∃ z, z = o := ⟨o, rfl⟩
theorem SV.at : ∀ {ps : List (PySem.Str × Value)} {qs : List (PySem.Str × PySem.Str)}, SV ps qs → ∀ {i : Nat} {k : PySem.Str} {v : Value} {q : PySem.Str × PySem.Str}, ps[i]? = some (k, v) → qs[i]? = some q → ∃ u, k = q.1 ∧ v = .str q.2 u
  | _, _, .nil, i, k, v, q, h, _ => by simp at h
  | _, _, .cons h, 0, k, v, q, h1, h2 => by
    cases (Option.some.inj h1 : _ = (k, v))
    cases (Option.some.inj h2 : _ = q)
    exact ⟨_, rfl, rfl⟩
  | _, _, .cons h, i + 1, k, v, q, h1, h2 => h.at (by simpa using h1) (by simpa using h2)
theorem valueAt_of_get9 {kvs : List (PySem.Str × Value)} {prog : Program} {w : World} {o : Obj} (h : o.IsDictOf (PySem.strKind prog w) kvs) {i : Nat} {k : PySem.Str} {v : Value} (hx : kvs[i]? = some (k, v)) : valueAt kvs k = some v :=
  valueAt_of_get (keysNodup_of_isDictOf h) hx
/-- what is told of the queue's first signs: the faults, and the tag at the end -/
def TagT (told : List Value) (tl : List (Addr × Obj)) (tag : Option (Nat × PySem.Str × List (PySem.Str × PySem.Str) × Bool)) : Prop :=
  match tag with
  | none => told = []
  | some (kd, y, prs, fl) => ∃ (a kl t1 t2 t3 n : Nat) (ks : List Value), told = [.ref a] ∧ (a, tagObj kd y kl fl t1 t2 t3) ∈ tl ∧ (kl, W.listOf ks.toArray n) ∈ tl ∧ Its rowObj ks tl prs
section
local macro_rules | `(tactic| walk_at "subscriptTail") => `(tactic| (k_here; (with_reducible show wpAny _ _ (subscriptTail _ _ (Value.ref 48) (Value.str (PySem.Str.ofString "ParseError") _)) _ _ _); k_dflt (refine' tt_err ?F ?X ?_; (case F => assumption); (case X => assumption)); intro u))
local macro_rules | `(tactic| walk_at "subscriptTail") => `(tactic| (k_here; (with_reducible show wpAny _ _ (subscriptTail _ _ (Value.ref 48) (Value.str (PySem.Str.ofString "StartTag") _)) _ _ _); k_dflt (refine' tt_start ?F ?X ?_; (case F => assumption); (case X => assumption)); intro u))
local macro_rules | `(tactic| walk_at "subscriptTail") => `(tactic| (k_here; (with_reducible show wpAny _ _ (subscriptTail _ _ (Value.ref 48) (Value.str (PySem.Str.ofString "EndTag") _)) _ _ _); k_dflt (refine' tt_end ?F ?X ?_; (case F => assumption); (case X => assumption)); intro u))
local macro_rules | `(tactic| ktr_enter) => `(tactic| (refine' code_defC ?k1 ?k2 ?k3 ?k4 ?k5 ?kA ?kF ?kK ?k6 ?k7 ?k8 ?k9 ?kB ?kD ?_ ?c2 ?c3 ?c4; (case kA => exact rfl); (case kF => exact rfl); (case kK => first | exact rfl | assumption); (case k1 => k_asm); (case k2 => k_asm); (case k3 => k_asm); (case k4 => k_asm); (case k5 => k_asm); (case k6 => k_is); (case k7 => k_is); (case k8 => k_room); (case k9 => first | exact BindsTo.of_eq rfl | exact binds_K (by k_in) rfl (by k_is) rfl rfl rfl); (case kB => exact rfl); (case kD => decide +kernel); (case c2 => exact rfl); (case c3 => exact rfl); (case c4 => exact rfl); k_whole; intro g' L' h' tk' cells' FG' F' N' Y' B' X' T' l1; (try k_lt l1); k_cells Y'; (try simp only [List.cons_append, List.nil_append] at N'); (try dsimp only); (try k_fold)))
local macro_rules | `(tactic| walk_at "exec For Name Name cons nil") => `(tactic| (k_here; k_dflt (refine' For_turns ?F ?_ ?hs ?hE; (case F => assumption); (case hs => (intro _; exact rfl)); (case hE => first | assumption | passes_own | with_unfolding_all passes_own))))
local macro_rules | `(tactic| walk_at "call ref") => `(tactic| (k_here; k_dflt (refine' TellR.use (flag_t ) ?k1 ?k2 ?k3 ?k4 ?k5 ?kK ?kp ?ko ?kd ?ku ?k0 ?_; (case k1 => k_asm); (case k2 => k_asm); (case k3 => k_asm); (case k4 => k_asm); (case k5 => k_asm); (case kK => first | exact rfl | assumption); (case kp => tb_start); (case ko => tb_rel); (case kd => k_room); (case ku => k_units); (case k0 => first | exact (show 1 ≤ _ by (try dsimp only); omega) | exact Nat.zero_le _); intro r9 f9 h9 tk9 p9 F9 N9 hP9; obtain ⟨u9, e1, e2⟩ := hP9; subst e1; subst e2; (try dsimp only [List.nil_append, List.cons_append] at N9); (try k_fold))))
theorem queue_t {w : World} {tq tep : Nat} {qs tg : List Value} {exq tgo : List (Addr × Obj)} {ws : List PySem.Str} {tag : Option (Nat × PySem.Str × List (PySem.Str × PySem.Str) × Bool)} (hT : Toks w qs exq ws) (hG : TagQ w tg tgo tag) (hz : qs.length ≤ 200) :
    TellO w 8 80 (.ref 798) [.ref tq] ((tq, W.listOf (qs ++ tg).toArray tep) :: (exq ++ tgo)) []
      (fun r f' rest => ∃ (to ep : Nat) (us tg' : List Value) (tl : List (Addr × Obj)), r = .ref to ∧ Flts us tl ws ∧ TagT tg' tl tag ∧ (∀ p ∈ rest, p.1 ≠ to ∧ ∀ q ∈ tl, p.1 ≠ q.1) ∧ f' = (to, W.listOf (us ++ tg').toArray ep) :: tl) := by
  unfold TellO Tell KF PG
  k_fill
  intro rest hO off' mean mg mb dp un gd cn cs a ccd cl outer A₀ base h₀ L m s Q E B F X N T hk hd hu hret
  dsimp only [List.cons_append, List.nil_append] at N
  obtain ⟨hq, hO2⟩ := List.forall_mem_cons.mp hO
  k_dflt ktr_enter
  k_with_none
  repeat' (first | ((fail_if_success (with_reducible show wpAny _ _ (pyIter _) _ _ _)); first | (k_unfold; (try dsimp only)) | (k_end; wrow_close) | walk1 | (dsimp only [List.cons_append, List.nil_append]; walk1) | (dsimp only) | fail "no step"))
  (rename Fr _ _ _ _ => f8)
  (rename News _ _ _ _ => n8)
  (rename _ < _ ∧ _ => l8)
  (rename Obj.data _ = Data.cell _ => hcl)
  obtain ⟨to, eto⟩ := News.addr n8
  subst eto
  obtain ⟨L9, eL9⟩ := FrName f8
  subst eL9
  obtain ⟨oc0, eoc⟩ := CellName hcl
  subst eoc
  (rename ∀ p ∈ rest, p.1 < _ => l1)
  obtain ⟨l81, l82⟩ := l8
  have hTl := hT.len
  have hcAr : ∀ p ∈ rest, p.1 ≠ (L9 + 1) := fun p hp => by
    exact Nat.ne_of_lt (Nat.lt_succ_of_lt (l1 p hp))
  have hql : Heap.IsList _ tq (qs ++ tg).toArray := ⟨_, (n8 _ (.tail _ (.tail _ hq))).1, rfl, _, rfl⟩
  refine' turns_list (fun c : List Value × Nat × List (Addr × Obj) × Obj => (to, W.listOf c.1.toArray c.2.1) :: ((L9 + 1), c.2.2.2) :: c.2.2.1) rest (fun c => [(Str.ofString "told", .ref to)]) []
    (fun pre c => (∀ p ∈ c.2.2.1, p.1 ≠ to ∧ p.1 ≠ (L9 + 1)) ∧ (∃ x, c.2.2.2.data = .cell x) ∧ ((pre.length ≤ qs.length ∧ Flts c.1 c.2.2.1 (ws.take pre.length)) ∨ (pre.length = qs.length + 1 ∧ ∃ us tg', c.1 = us ++ tg' ∧ Flts us c.2.2.1 ws ∧ TagT tg' c.2.2.1 tag))) ([], _, [], oc0) rfl hql (.inl ⟨_, hq⟩) f8 ?N ?off ?hk ?hp ?turn ?done
  case N => exact n8
  case off => exact List.forall_mem_cons.mpr ⟨tbn_neAll l82, List.forall_mem_cons.mpr ⟨hcAr, List.forall_mem_nil _⟩⟩
  case hk => kst_all
  case hp => exact ⟨List.forall_mem_nil _, ⟨_, hcl⟩, .inl ⟨Nat.zero_le _, .nil⟩⟩
  case turn =>
    rintro ⟨us, ep, tl, oc⟩ pre post v u h' tk' rest' hpre ⟨ho, ⟨cx, hcx⟩, hP⟩ off' sub' F' N'
    dsimp only [List.cons_append, List.nil_append] at N' F' ho hcx hP off'
    obtain ⟨R, eR⟩ : ∃ R, R = tl ++ rest' := ⟨_, rfl⟩
    rw [← eR] at N'
    have hto := off' _ (.head _)
    have hcA' := off' _ (.tail _ (.head _))
    dsimp only at hto hcA'
    have hRto : ∀ p ∈ R, p.1 ≠ to := fun p hp => by
      rw [eR] at hp
      exact (List.mem_append.mp hp).elim (fun h => (ho p h).1) (hto p)
    have hRcA : ∀ p ∈ R, p.1 ≠ (L9 + 1) := fun p hp => by
      rw [eR] at hp
      exact (List.mem_append.mp hp).elim (fun h => (ho p h).2) (hcA' p)
    have hac : Nq to (L9 + 1) := Nat.ne_of_gt l81
    have hv : (qs ++ tg)[pre.length]? = some v := by rw [hpre]; simp
    clear f8 n8
    by_cases hlt : pre.length < qs.length
    · rw [List.getElem?_append_left hlt] at hv
      obtain ⟨a9, o9, x9, ta, tb, rfl, hx9, hm9, hd9⟩ := hT.at' _ _ hv
      have hmR : (a9, o9) ∈ R := eR ▸ List.mem_append_right _ (sub' _ (hO2 _ (List.mem_append_left _ hm9)))
      have d1 : Nq a9 to := hRto _ hmR
      have d2 : Nq a9 (L9 + 1) := hRcA _ hmR
      have N2 := ncons (p := (a9, o9)) N' (.tail _ (.tail _ hmR))
      clear N'
      have hF : Flts us tl (ws.take pre.length) := by
        rcases hP with ⟨_, h2⟩ | ⟨h1, _⟩
        · exact h2
        · omega
      have hul : us.length ≤ 200 := by rw [hF.len, List.length_take]; omega
      (try k_fold)
      k_with_none
      repeat' (first | ((fail_if_success (with_reducible show TEnd _ _ _ _ _ _ _)); first | (k_unfold; (try dsimp only)) | (k_end; wrow_close) | walk1 | (dsimp only [List.cons_append, List.nil_append]; walk1) | (dsimp only) | fail "no step"))
      (rename News _ _ _ _ => n9)
      (rename _ < _ ∧ _ => l9)
      (rename Obj.data _ = Data.cell _ => hcl9)
      obtain ⟨oc9, eoc⟩ := CellName hcl9
      subst eoc
      obtain ⟨D9, eD9⟩ := News.addr n9
      subst eD9
      obtain ⟨z1, z2, z3, z4⟩ := l9
      simp only [push_app] at n9
      have hr9 : AllLt D9 rest' := allLt_of fun p hp => tb_ltOf z4 p (eR ▸ List.mem_append_right _ hp)
      refine' ⟨(us ++ [.ref D9], _, (D9, fltObj _ _ _) :: tl, oc9), _, _, _, rfl, (by assumption), ?N1, ?of1, (by kst_all), (fun z h2 h3 => by simp only [List.forall_mem_cons] at h2; simp [h2, kstB]), ?P1⟩
      case N1 => refine nsub n9 (subCons (by k_mem) (subCons (by k_mem) (subCons (by k_mem) (subTr9 (B := R) (fun q hq => by rw [eR]; exact hq) (by kstt_sub)))))
      case of1 => exact List.forall_mem_cons.mpr ⟨hto, List.forall_mem_cons.mpr ⟨hcA', List.forall_mem_cons.mpr ⟨tbn_neAll hr9, fun q hq => off' q (.tail _ (.tail _ hq))⟩⟩⟩
      case P1 =>
        refine ⟨List.forall_mem_cons.mpr ⟨⟨Nat.ne_of_gt z2, Nat.ne_of_gt z3⟩, ho⟩, ⟨_, hcl9⟩, .inl ⟨by rw [List.length_append, List.length_singleton]; omega, ?_⟩⟩
        rw [List.length_append, List.length_singleton, List.take_add_one, hx9]
        exact (hF.mono fun p hp => .tail _ hp).app (.one (.head _))
    · have hpl : pre.length = qs.length := by
        rcases hP with ⟨h1, _⟩ | ⟨h1, _⟩
        · omega
        · have h9 := congrArg List.length hpre
          simp only [List.length_append, List.length_cons] at h9
          have : tg.length ≤ 1 := by cases hG <;> simp
          omega
      have hF : Flts us tl ws := by
        rcases hP with ⟨_, h2⟩ | ⟨h1, _⟩
        · rw [hpl, hTl, List.take_length] at h2; exact h2
        · omega
      have hul : us.length ≤ 200 := by rw [hF.len]; omega
      rw [List.getElem?_append_right (by omega), hpl, Nat.sub_self] at hv
      cases hG with
      | none => simp at hv
      | @start ct da oC oD k1 k2 y fl ps prs hC hD hsv hpl2 hds =>
        cases (Option.some.inj hv : _ = v)
        have hmC : (ct, oC) ∈ R := eR ▸ List.mem_append_right _ (sub' _ (hO2 _ (List.mem_append_right _ (.head _))))
        have hmD : (da, oD) ∈ R := eR ▸ List.mem_append_right _ (sub' _ (hO2 _ (List.mem_append_right _ (.tail _ (.head _)))))
        have d1 : Nq ct to := hRto _ hmC
        have d2 : Nq ct (L9 + 1) := hRcA _ hmC
        have d3 : Nq da to := hRto _ hmD
        have d4 : Nq da (L9 + 1) := hRcA _ hmD
        have N2 := ncons (p := (ct, oC)) (ncons (p := (da, oD)) N' (.tail _ (.tail _ hmD))) (.tail _ (.tail _ (.tail _ hmC)))
        clear N'
        (try k_fold)
        k_with_none
        repeat' (first | ((fail_if_success (with_reducible show wpAny _ _ (eval (PySem.Expr.ListComp _ _ _ _) _) _ _ _)); first | (k_unfold; (try dsimp only)) | (k_end; wrow_close) | walk1 | (dsimp only [List.cons_append, List.nil_append]; walk1) | (dsimp only) | fail "no step"))
        (rename Fr _ _ _ _ => f9)
        (rename News _ _ _ _ => n9)
        (rename Obj.data _ = Data.cell (some _) => hcl9)
        obtain ⟨oc9, eoc⟩ := CellName hcl9
        subst eoc
        refine' ListComp_D (x := Str.ofString "key") f9 ?hclos9 ?hcell9 ?hkind9 ?hnames9 ?hx9 ?_ ?hs9
        case hclos9 => with_unfolding_all rfl
        case hcell9 => decide
        case hkind9 => rfl
        case hnames9 => decide
        case hx9 => rfl
        case hs9 => (intro _; rfl)
        repeat' (first | ((fail_if_success (with_reducible show Exists _)); first | (k_unfold; (try dsimp only)) | (k_end; wrow_close) | walk1 | (dsimp only [List.cons_append, List.nil_append]; walk1) | (dsimp only) | fail "no step"))
        refine' ⟨da, oD, ps, _, rfl, rfl, (by assumption), (by assumption), (by k_mem), hds, hD, Nat.le_trans hpl2 (by decide), fun s₂ hs₂ => ?_⟩
        refine' rest_rows (rows := prs) hsv.len.symm (fun nw p h => .tail _ h) (by k_mem) ?turn9 ?fin9
        case turn9 =>
          intro i q v I oI C oC2 D m₂ ys h2 tk2 E2 nw hq hv hC2 hm2 F2 N2 off2 ne2 hS2 hsub2
          obtain ⟨k9, y9, hki, hkv⟩ := hv
          obtain ⟨t9, rfl⟩ := Value.isStrOf_shape hkv
          obtain ⟨u9, rfl, rfl⟩ := hsv.at hki hq
          have hva := valueAt_of_get9 hD hki
          have N3 := ncons (p := (ct, oC)) (ncons (p := (da, oD)) (ncons (p := (L9 + 1, oc9)) N2 (.tail _ (.tail _ (.tail _ (hsub2 _ (by k_mem)))))) (.tail _ (.tail _ (.tail _ (.tail _ (hsub2 _ (by k_mem))))))) (.tail _ (.tail _ (.tail _ (.tail _ (.tail _ (hsub2 _ (by k_mem)))))))
          clear N2
          repeat' (first | ((fail_if_success (with_reducible show wpAny _ _ (getItem (Value.ref da) _) _ _ _)); first | (k_unfold; (try dsimp only)) | (k_end; wrow_close) | walk1 | (dsimp only [List.cons_append, List.nil_append]; walk1) | (dsimp only) | fail "no step"))
          refine' kdt_getItem N3 (by k_mem) hD hkv hva ?_
          repeat' (first | ((fail_if_success (with_reducible show LCg.CompEnd _ _ _ _ _ _ _ _ _ _ _ _ _)); first | (k_unfold; (try dsimp only)) | (k_end; wrow_close) | walk1 | (dsimp only [List.cons_append, List.nil_append]; walk1) | (dsimp only) | fail "no step"))
          (rename News _ _ _ _ => n9)
          (rename ct < _ ∧ _ => l9)
          obtain ⟨D9, eD9⟩ := News.addr n9
          subst eD9
          obtain ⟨z1, z2, z3, z4, z5, z6, z7⟩ := l9
          refine' ⟨_, _, (D9, rowObj q t9 u9) :: nw, rfl, (by assumption), nsub n9 fun q hq => ?_, ⟨⟨Nat.ne_of_gt z4, Nat.ne_of_gt z5, Nat.ne_of_gt z6⟩, off2⟩, .tail _ hS2, D9, _, _, rfl, z7, rfl⟩
          simp only [List.mem_cons] at hq ⊢
          rcases hq with h | h | h | h | h
          · exact .inr (.inr (.inr (.inr (.inl h))))
          · exact .inr (.inr (.inr (.inr (.inr (.inl h)))))
          · exact .inr (.inr (.inr (.inr (.inr (.inr (.inl h))))))
          · exact .inl h
          · exact .inr (.inr (.inr (.inr (.inr (.inr (.inr h))))))
        case fin9 =>
          intro ys tl2 hI hl2 D2 h2 tk2 F2 N2 off2
          obtain ⟨hx2, rfl⟩ := hs₂
          dsimp only
          have ho2 : ∀ p ∈ tl2 ++ (ct, oC) :: (da, oD) :: (to, W.listOf us.toArray ep) :: (L9 + 1, oc9) :: R, p.1 ≠ D2 := by
            intro p hp
            have : ∀ {l : List (Addr × Obj)}, LCg.Off1 D2 l → ∀ p ∈ l, p.1 ≠ D2 := fun {l} => by
              induction l with
              | nil => intro _ p h; simp at h
              | cons q l ih => intro h p hp; rcases List.mem_cons.mp hp with rfl | hp; exact h.1; exact ih h.2 p hp
            exact this off2 p hp
          obtain ⟨R2, eR2⟩ : ∃ R2, R2 = tl2 ++ R := ⟨_, rfl⟩
          have N3 : News _ _ h2 ((D2, LCg.lst ys) :: (ct, oC) :: (to, W.listOf us.toArray ep) :: (L9 + 1, oc9) :: R2) := nsub N2 fun q hq => by
            rw [eR2] at hq
            simp only [List.mem_cons, List.mem_append] at hq ⊢
            rcases hq with h | h | h | h | h | h
            · exact .inl h
            · exact .inr (.inr (.inl h))
            · exact .inr (.inr (.inr (.inr (.inl h))))
            · exact .inr (.inr (.inr (.inr (.inr (.inl h)))))
            · exact .inr (.inl h)
            · exact .inr (.inr (.inr (.inr (.inr (.inr h)))))
          have d5 : Nq D2 ct := fun e => ho2 (ct, oC) (List.mem_append_right _ (.head _)) e.symm
          have d6 : Nq D2 to := fun e => ho2 (to, W.listOf us.toArray ep) (List.mem_append_right _ (.tail _ (.tail _ (.head _)))) e.symm
          have d7 : Nq D2 (L9 + 1) := fun e => ho2 (L9 + 1, oc9) (List.mem_append_right _ (.tail _ (.tail _ (.tail _ (.head _))))) e.symm
          have hl3 : ∀ p ∈ tl2, AllLt p.1 R := fun p hp => (hl2 p hp).2.2.2.2
          have hl4 : ∀ p ∈ tl2, p.1 ≠ to ∧ p.1 ≠ L9 + 1 := fun p hp => ⟨Nat.ne_of_gt (hl2 p hp).2.2.1, Nat.ne_of_gt (hl2 p hp).2.2.2.1⟩
          have hR2to : ∀ p ∈ R2, p.1 ≠ to := fun p hp => by
            rw [eR2] at hp
            exact (List.mem_append.mp hp).elim (fun h => (hl4 p h).1) (hRto p)
          have hR2cA : ∀ p ∈ R2, p.1 ≠ (L9 + 1) := fun p hp => by
            rw [eR2] at hp
            exact (List.mem_append.mp hp).elim (fun h => (hl4 p h).2) (hRcA p)
          clear N2 n9
          repeat' (first | ((fail_if_success (with_reducible show TEnd _ _ _ _ _ _ _)); first | (k_unfold; (try dsimp only)) | (k_end; wrow_close) | walk1 | (dsimp only [List.cons_append, List.nil_append]; walk1) | (dsimp only) | fail "no step"))
          (rename News _ _ _ _ => n9)
          (rename D2 < _ ∧ _ => l9)
          obtain ⟨D9, eD9⟩ := News.addr n9
          subst eD9
          obtain ⟨z1, z2, z3, z4, z5⟩ := l9
          simp only [push_app] at n9
          have hr9 : AllLt D9 rest' := allLt_of fun p hp => tb_ltOf z5 p (eR2 ▸ List.mem_append_right _ (eR ▸ List.mem_append_right _ hp))
          refine' ⟨(us ++ [.ref D9], _, (D9, tagObj 3 y D2 fl _ _ _) :: (D2, LCg.lst ys) :: (tl2 ++ tl), oc9), _, _, _, rfl, (by assumption), ?N19, ?of19, (by kst_all), (fun z h2 h3 => by simp only [List.forall_mem_cons] at h2; simp [h2, kstB]), ?P19⟩
          case N19 =>
            refine nsub n9 (subCons (by k_mem) (subCons (by k_mem) (subCons (by k_mem) (subCons (by k_mem) fun q hq => .tail _ (.tail _ (.tail _ (.tail _ (.tail _ ?_))))))))
            rw [eR2, eR, ← List.append_assoc]
            exact hq
          case of19 =>
            refine List.forall_mem_cons.mpr ⟨hto, List.forall_mem_cons.mpr ⟨hcA', List.forall_mem_cons.mpr ⟨tbn_neAll hr9, List.forall_mem_cons.mpr ⟨fun p hp => ?_, fun q hq => ?_⟩⟩⟩⟩
            · exact ho2 p (List.mem_append_right _ (.tail _ (.tail _ (.tail _ (.tail _ (eR ▸ List.mem_append_right _ hp))))))
            · rcases List.mem_append.mp hq with h | h
              · exact fun p hp => Nat.ne_of_lt (tb_ltOf (hl3 q h) p (eR ▸ List.mem_append_right _ hp))
              · exact off' q (.tail _ (.tail _ h))
          case P19 =>
            refine ⟨List.forall_mem_cons.mpr ⟨⟨Nat.ne_of_gt z3, Nat.ne_of_gt z4⟩, List.forall_mem_cons.mpr ⟨⟨d6, d7⟩, fun p hp => (List.mem_append.mp hp).elim (hl4 p) (ho p)⟩⟩, ⟨_, hcl9⟩, .inr ⟨by rw [List.length_append, List.length_singleton, hpl], us, _, rfl, hF.mono fun p hp => .tail _ (.tail _ (List.mem_append_right _ hp)), D9, D2, _, _, _, _, ys, rfl, .head _, .tail _ (.head _), hI.mono fun p hp => .tail _ (.tail _ (List.mem_append_left _ hp))⟩⟩
      | @fin ct dl oC k1 k2 ne y fl pv Op prs hC hpr hul2 =>
        cases (Option.some.inj hv : _ = v)
        have hmC : (ct, oC) ∈ R := eR ▸ List.mem_append_right _ (sub' _ (hO2 _ (List.mem_append_right _ (.head _))))
        have hmD : (dl, W.listOf pv.toArray ne) ∈ R := eR ▸ List.mem_append_right _ (sub' _ (hO2 _ (List.mem_append_right _ (.tail _ (.head _)))))
        have hmO : ∀ p ∈ Op, p ∈ R := fun p hp => eR ▸ List.mem_append_right _ (sub' _ (hO2 _ (List.mem_append_right _ (.tail _ (.tail _ hp)))))
        have d1 : Nq ct to := hRto _ hmC
        have d2 : Nq ct (L9 + 1) := hRcA _ hmC
        have d3 : Nq dl to := hRto _ hmD
        have d4 : Nq dl (L9 + 1) := hRcA _ hmD
        have N2 := ncons (p := (ct, oC)) (ncons (p := (dl, W.listOf pv.toArray ne)) N' (.tail _ (.tail _ hmD))) (.tail _ (.tail _ (.tail _ hmC)))
        clear N'
        (try k_fold)
        k_with_none
        repeat' (first | ((fail_if_success (with_reducible show wpAny _ _ (eval (PySem.Expr.ListComp _ _ _ _) _) _ _ _)); first | (k_unfold; (try dsimp only)) | (k_end; wrow_close) | walk1 | (dsimp only [List.cons_append, List.nil_append]; walk1) | (dsimp only) | fail "no step"))
        (rename Fr _ _ _ _ => f9)
        (rename News _ _ _ _ => n9)
        (rename Obj.data _ = Data.cell (some _) => hcl9)
        obtain ⟨oc9, eoc⟩ := CellName hcl9
        subst eoc
        refine' LCg.ListComp_U (x := Str.ofString "pair") f9 ?hclos9 ?hcell9 ?hkind9 ?hnames9 ?hx9 ?_ ?hs9
        case hclos9 => with_unfolding_all rfl
        case hcell9 => decide
        case hkind9 => rfl
        case hnames9 => decide
        case hx9 => rfl
        case hs9 => (intro _; rfl)
        repeat' (first | ((fail_if_success (with_reducible show LCg.CompSrc _ _ _ _ _ _ _ _ _ _ _ _ _ _)); first | (k_unfold; (try dsimp only)) | (k_end; wrow_close) | walk1 | (dsimp only [List.cons_append, List.nil_append]; walk1) | (dsimp only) | fail "no step"))
        refine' LCg.CompSrc.ledger rfl (by assumption) (by assumption) (by k_mem) (by rw [List.size_toArray]; exact Nat.le_trans hul2 (by decide)) fun hx2 => ?_
        refine' rest_rows (rows := prs) (by rw [List.size_toArray]; exact hpr.len.symm) (fun nw p h => h.elim .inl fun ⟨o, h1, h2⟩ => .inr ⟨o, .tail _ h1, h2⟩) (.inr ⟨_, (by k_mem), rfl, _, rfl⟩) ?turn9 ?fin9
        case turn9 =>
          intro i q v I oI C oC2 D m₂ ys h2 tk2 E2 nw hq hv hC2 hm2 F2 N2 off2 ne2 hS2 hsub2
          obtain ⟨a9, n9, t9, u9, q9, rfl, hq9, hm9⟩ := hpr.at i v (by simpa using hv)
          obtain rfl : q9 = q := Option.some.inj (hq9.symm.trans hq)
          have N3 := ncons (p := (a9, W.listOf [Value.str q9.1 t9, Value.str q9.2 u9].toArray n9)) N2 (.tail _ (.tail _ (.tail _ (hsub2 _ (.tail _ (.tail _ (.tail _ (.tail _ (hmO _ hm9)))))))))
          clear N2
          repeat' (first | ((fail_if_success (with_reducible show LCg.CompEnd _ _ _ _ _ _ _ _ _ _ _ _ _ _)); first | (k_unfold; (try dsimp only)) | (k_end; wrow_close) | walk1 | (dsimp only [List.cons_append, List.nil_append]; walk1) | (dsimp only) | fail "no step"))
          (rename News _ _ _ _ => n9)
          (rename a9 < _ ∧ _ => l9)
          obtain ⟨D9, eD9⟩ := News.addr n9
          subst eD9
          obtain ⟨z1, z4, z5, z6, z7⟩ := l9
          refine' ⟨_, _, (D9, rowObj q9 t9 u9) :: nw, rfl, (by assumption), nsub n9 fun q hq => ?_, ⟨⟨Nat.ne_of_gt z4, Nat.ne_of_gt z5, Nat.ne_of_gt z6⟩, off2⟩, hS2.elim .inl fun ⟨o, h1, h2⟩ => .inr ⟨o, .tail _ h1, h2⟩, D9, _, _, rfl, z7, rfl⟩
          simp only [List.mem_cons] at hq ⊢
          rcases hq with h | h | h | h | h
          · exact .inr (.inr (.inl h))
          · exact .inr (.inr (.inr (.inl h)))
          · exact .inr (.inr (.inr (.inr (.inl h))))
          · exact .inl h
          · exact .inr (.inr (.inr (.inr (.inr h))))
        case fin9 =>
          intro ys tl2 hI hl2 D2 h2 tk2 F2 N2 off2
          dsimp only
          have ho2 : ∀ p ∈ tl2 ++ (ct, oC) :: (dl, W.listOf pv.toArray ne) :: (to, W.listOf us.toArray ep) :: (L9 + 1, oc9) :: R, p.1 ≠ D2 := by
            intro p hp
            have : ∀ {l : List (Addr × Obj)}, LCg.Off1 D2 l → ∀ p ∈ l, p.1 ≠ D2 := fun {l} => by
              induction l with
              | nil => intro _ p h; simp at h
              | cons q l ih => intro h p hp; rcases List.mem_cons.mp hp with rfl | hp; exact h.1; exact ih h.2 p hp
            exact this off2 p hp
          obtain ⟨R2, eR2⟩ : ∃ R2, R2 = tl2 ++ R := ⟨_, rfl⟩
          have N3 : News _ _ h2 ((D2, LCg.lst ys) :: (ct, oC) :: (to, W.listOf us.toArray ep) :: (L9 + 1, oc9) :: R2) := nsub N2 fun q hq => by
            rw [eR2] at hq
            simp only [List.mem_cons, List.mem_append] at hq ⊢
            rcases hq with h | h | h | h | h | h
            · exact .inl h
            · exact .inr (.inr (.inl h))
            · exact .inr (.inr (.inr (.inr (.inl h))))
            · exact .inr (.inr (.inr (.inr (.inr (.inl h)))))
            · exact .inr (.inl h)
            · exact .inr (.inr (.inr (.inr (.inr (.inr h)))))
          have d5 : Nq D2 ct := fun e => ho2 (ct, oC) (List.mem_append_right _ (.head _)) e.symm
          have d6 : Nq D2 to := fun e => ho2 (to, W.listOf us.toArray ep) (List.mem_append_right _ (.tail _ (.tail _ (.head _)))) e.symm
          have d7 : Nq D2 (L9 + 1) := fun e => ho2 (L9 + 1, oc9) (List.mem_append_right _ (.tail _ (.tail _ (.tail _ (.head _))))) e.symm
          have hl3 : ∀ p ∈ tl2, AllLt p.1 R := fun p hp => (hl2 p hp).2.2.2.2
          have hl4 : ∀ p ∈ tl2, p.1 ≠ to ∧ p.1 ≠ L9 + 1 := fun p hp => ⟨Nat.ne_of_gt (hl2 p hp).2.2.1, Nat.ne_of_gt (hl2 p hp).2.2.2.1⟩
          have hR2to : ∀ p ∈ R2, p.1 ≠ to := fun p hp => by
            rw [eR2] at hp
            exact (List.mem_append.mp hp).elim (fun h => (hl4 p h).1) (hRto p)
          have hR2cA : ∀ p ∈ R2, p.1 ≠ (L9 + 1) := fun p hp => by
            rw [eR2] at hp
            exact (List.mem_append.mp hp).elim (fun h => (hl4 p h).2) (hRcA p)
          clear N2 n9
          repeat' (first | ((fail_if_success (with_reducible show TEnd _ _ _ _ _ _ _)); first | (k_unfold; (try dsimp only)) | (k_end; wrow_close) | walk1 | (dsimp only [List.cons_append, List.nil_append]; walk1) | (dsimp only) | fail "no step"))
          (rename News _ _ _ _ => n9)
          (rename D2 < _ ∧ _ => l9)
          obtain ⟨D9, eD9⟩ := News.addr n9
          subst eD9
          obtain ⟨z1, z2, z3, z4, z5⟩ := l9
          simp only [push_app] at n9
          have hr9 : AllLt D9 rest' := allLt_of fun p hp => tb_ltOf z5 p (eR2 ▸ List.mem_append_right _ (eR ▸ List.mem_append_right _ hp))
          refine' ⟨(us ++ [.ref D9], _, (D9, tagObj 4 y D2 fl _ _ _) :: (D2, LCg.lst ys) :: (tl2 ++ tl), oc9), _, _, _, rfl, (by assumption), ?N19, ?of19, (by kst_all), (fun z h2 h3 => by simp only [List.forall_mem_cons] at h2; simp [h2, kstB]), ?P19⟩
          case N19 =>
            refine nsub n9 (subCons (by k_mem) (subCons (by k_mem) (subCons (by k_mem) (subCons (by k_mem) fun q hq => .tail _ (.tail _ (.tail _ (.tail _ (.tail _ ?_))))))))
            rw [eR2, eR, ← List.append_assoc]
            exact hq
          case of19 =>
            refine List.forall_mem_cons.mpr ⟨hto, List.forall_mem_cons.mpr ⟨hcA', List.forall_mem_cons.mpr ⟨tbn_neAll hr9, List.forall_mem_cons.mpr ⟨fun p hp => ?_, fun q hq => ?_⟩⟩⟩⟩
            · exact ho2 p (List.mem_append_right _ (.tail _ (.tail _ (.tail _ (.tail _ (eR ▸ List.mem_append_right _ hp))))))
            · rcases List.mem_append.mp hq with h | h
              · exact fun p hp => Nat.ne_of_lt (tb_ltOf (hl3 q h) p (eR ▸ List.mem_append_right _ hp))
              · exact off' q (.tail _ (.tail _ h))
          case P19 =>
            refine ⟨List.forall_mem_cons.mpr ⟨⟨Nat.ne_of_gt z3, Nat.ne_of_gt z4⟩, List.forall_mem_cons.mpr ⟨⟨d6, d7⟩, fun p hp => (List.mem_append.mp hp).elim (hl4 p) (ho p)⟩⟩, ⟨_, hcl9⟩, .inr ⟨by rw [List.length_append, List.length_singleton, hpl], us, _, rfl, hF.mono fun p hp => .tail _ (.tail _ (List.mem_append_right _ hp)), D9, D2, _, _, _, _, ys, rfl, .head _, .tail _ (.head _), hI.mono fun p hp => .tail _ (.tail _ (List.mem_append_left _ hp))⟩⟩
  case done =>
    rintro ⟨us, ep, tl, oc⟩ u h' tk' ⟨ho, hcx, hP⟩ off' F' N'
    dsimp only [List.cons_append, List.nil_append] at N' F' ho hP off'
    clear f8 n8
    (try k_fold)
    k_with_none
    k_steps
    have hfin : ∃ us1 tg', us = us1 ++ tg' ∧ Flts us1 tl ws ∧ TagT tg' tl tag := by
      rcases hP with ⟨h1, h2⟩ | ⟨h1, h2⟩
      · cases hG with
        | none =>
          refine ⟨us, [], (List.append_nil _).symm, ?_, rfl⟩
          rw [List.take_of_length_le (by rw [List.length_append, ← hTl]; simp)] at h2
          exact h2
        | start => rw [List.length_append, List.length_singleton] at h1; omega
        | fin => rw [List.length_append, List.length_singleton] at h1; omega
      · exact h2
    obtain ⟨us1, tg', rfl, h3, h4⟩ := hfin
    (rename News _ _ _ _ => n9)
    refine' hret _ _ _ _ (by assumption) ?S9 ⟨_, ⟨to, ep, us1, tg', tl, rfl, h3, h4, fun p hp => ⟨off' _ (.head _) p hp, fun q hq => off' q (.tail _ (.tail _ hq)) p hp⟩, rfl⟩, rfl⟩
    case S9 => exact nsub n9 (subCons (.head _) fun q h => .tail _ (.tail _ h))
end
end Mine
namespace Mine
/-! lists of tuples as data -/
def rowD (q : PySem.Str × PySem.Str) : PyData := .tuple [.str q.1, .str q.2]
def fltD (x : PySem.Str) : PyData := .tuple [.int 7, .str x]
def tagD (t : Nat × PySem.Str × List (PySem.Str × PySem.Str) × Bool) : PyData := .tuple [.int (t.1 : Int), .str t.2.1, .list (t.2.2.1.map rowD), .str (flagW t.2.2.2)]
def toldD (ws : List PySem.Str) (tag : Option (Nat × PySem.Str × List (PySem.Str × PySem.Str) × Bool)) : PyData := .list (ws.map fltD ++ tag.toList.map tagD)
theorem rowD_of {h : Heap} (q : PySem.Str × PySem.Str) (a t1 t2 : Nat) (e : h.get? a = some (rowObj q t1 t2)) : Reads h (.ref a) (rowD q) [] :=
  Reads.tuple e rfl rfl (ReadsAll.cons (Reads.str _ _) (ReadsAll.cons (Reads.str _ _) ReadsAll.nil))
theorem fltD_of {h : Heap} (x : PySem.Str) (a t1 t2 : Nat) (e : h.get? a = some (fltObj x t1 t2)) : Reads h (.ref a) (fltD x) [] :=
  Reads.tuple e rfl rfl (ReadsAll.cons (Reads.int _ _) (ReadsAll.cons (Reads.str _ _) ReadsAll.nil))
theorem Its.reads {α : Type} {mk : α → Nat → Nat → Obj} {rd : α → PyData} {h : Heap} (hr : ∀ (x : α) (a t1 t2 : Nat), h.get? a = some (mk x t1 t2) → Reads h (.ref a) (rd x) []) {tl : List (Addr × Obj)} (ht : ∀ p ∈ tl, h.get? p.1 = some p.2) :
    ∀ {us : List Value} {ws : List α}, Its mk us tl ws → ReadsAll h us (ws.map rd) []
  | [], [], _ => ReadsAll.nil
  | [], _ :: _, h => by have := h.len; simp at this
  | _ :: _, [], h => by have := h.len; simp at this
  | u :: us, x :: ws, hI => by
    obtain ⟨a, t1, t2, h1, h2⟩ := hI.at' 0 x rfl
    obtain rfl : u = .ref a := Option.some.inj h1
    exact ReadsAll.cons (as := []) (hr x a t1 t2 (ht _ h2)) (Its.reads hr ht ⟨Nat.succ.inj hI.len, fun i y e => hI.at' (i + 1) y e⟩)
theorem readsAll_app {h : Heap} : ∀ {xs : List Value} {ds : List PyData} {as : List Addr}, ReadsAll h xs ds as → ∀ {ys es bs}, ReadsAll h ys es bs → ReadsAll h (xs ++ ys) (ds ++ es) (as ++ bs)
  | _, _, _, .nil, _, _, _, h2 => h2
  | _, _, _, .cons h1 h, _, _, _, h2 => by
    rw [List.append_assoc]
    exact .cons h1 (readsAll_app h h2)
theorem TagT.reads {h : Heap} {told : List Value} {tl : List (Addr × Obj)} {tag : Option (Nat × PySem.Str × List (PySem.Str × PySem.Str) × Bool)} (hT : TagT told tl tag) (ht : ∀ p ∈ tl, h.get? p.1 = some p.2) : ∃ as, ReadsAll h told (tag.toList.map tagD) as := by
  cases tag with
  | none =>
    obtain rfl : told = [] := hT
    exact ⟨[], .nil⟩
  | some t =>
    obtain ⟨kd, y, prs, fl⟩ := t
    obtain ⟨a, kl, t1, t2, t3, n, ks, rfl, h1, h2, h3⟩ := hT
    exact ⟨_, .cons (Reads.tuple (ht _ h1) rfl rfl (.cons (Reads.int _ _) (.cons (Reads.str _ _) (.cons (Reads.list (ht _ h2) rfl rfl (Its.reads rowD_of ht h3)) (.cons (Reads.str _ _) .nil))))) .nil⟩
theorem told_reads {h : Heap} {to n : Nat} {us tg : List Value} {tl : List (Addr × Obj)} {ws : List PySem.Str} {tag : Option (Nat × PySem.Str × List (PySem.Str × PySem.Str) × Bool)} (hF : Flts us tl ws) (hT : TagT tg tl tag) (ho : h.get? to = some (W.listOf (us ++ tg).toArray n)) (ht : ∀ p ∈ tl, h.get? p.1 = some p.2) :
    ∃ as, Reads h (.ref to) (toldD ws tag) as := by
  obtain ⟨as, h2⟩ := hT.reads ht
  exact ⟨_, Reads.list ho rfl rfl (readsAll_app (Its.reads fltD_of ht hF) h2)⟩
def OkP (prs : List (PySem.Str × PySem.Str)) : Prop := ∀ q ∈ prs, PyData.strOk q.1 = true ∧ PyData.strOk q.2 = true
theorem rows_ok : ∀ {prs : List (PySem.Str × PySem.Str)}, OkP prs → PyData.canLayAll0 (prs.map rowD) = true ∧ PyData.depthAll (prs.map rowD) ≤ 1
  | [], _ => ⟨rfl, Nat.zero_le _⟩
  | q :: r, h => by
    obtain ⟨h1, h2⟩ := rows_ok (prs := r) fun p hp => h p (.tail _ hp)
    obtain ⟨h3, h4⟩ := h q (.head _)
    refine ⟨?_, ?_⟩
    · rw [List.map_cons]
      simp only [PyData.canLayAll0, rowD, PyData.canLay0, h3, h4, h1, Bool.and_self]
    · rw [List.map_cons]
      simp only [PyData.depthAll, rowD, PyData.depth]
      omega
theorem flts_ok : ∀ {ws : List PySem.Str}, (∀ x ∈ ws, PyData.strOk x = true) → PyData.canLayAll0 (ws.map fltD) = true ∧ PyData.depthAll (ws.map fltD) ≤ 1
  | [], _ => ⟨rfl, Nat.zero_le _⟩
  | q :: r, h => by
    obtain ⟨h1, h2⟩ := flts_ok (ws := r) fun p hp => h p (.tail _ hp)
    have h3 := h q (.head _)
    refine ⟨?_, ?_⟩
    · rw [List.map_cons]
      simp only [PyData.canLayAll0, fltD, PyData.canLay0, h3, h1, Bool.and_self]
    · rw [List.map_cons]
      simp only [PyData.depthAll, fltD, PyData.depth]
      omega
theorem lay_app : ∀ (a b : List PyData), PyData.canLayAll0 (a ++ b) = (PyData.canLayAll0 a && PyData.canLayAll0 b)
  | [], b => by simp [PyData.canLayAll0]
  | x :: a, b => by simp only [List.cons_append, PyData.canLayAll0, lay_app a b, Bool.and_assoc]
theorem depth_app : ∀ (a b : List PyData), PyData.depthAll (a ++ b) = max (PyData.depthAll a) (PyData.depthAll b)
  | [], b => by simp [PyData.depthAll]
  | x :: a, b => by simp only [List.cons_append, PyData.depthAll, depth_app a b]; omega
theorem flag_ok (b : Bool) : PyData.strOk (flagW b) = true := by cases b <;> decide +kernel
def OkT (tag : Option (Nat × PySem.Str × List (PySem.Str × PySem.Str) × Bool)) : Prop := match tag with | none => True | some t => PyData.strOk t.2.1 = true ∧ OkP t.2.2.1
theorem told_shaped {ws : List PySem.Str} {tag : Option (Nat × PySem.Str × List (PySem.Str × PySem.Str) × Bool)} (h1 : ∀ x ∈ ws, PyData.strOk x = true) (h2 : OkT tag) : PySem.SeqAt.shaped (toldD ws tag) = true := by
  obtain ⟨a1, a2⟩ := flts_ok h1
  have h3 : PyData.canLayAll0 (tag.toList.map tagD) = true ∧ PyData.depthAll (tag.toList.map tagD) ≤ 3 := by
    cases tag with
    | none => exact ⟨rfl, Nat.zero_le _⟩
    | some t =>
      obtain ⟨kd, y, prs, fl⟩ := t
      obtain ⟨b1, b2⟩ := h2
      obtain ⟨c1, c2⟩ := rows_ok b2
      dsimp only at b1 c1 c2
      refine ⟨?_, ?_⟩
      · simp only [Option.toList, List.map_cons, List.map_nil, PyData.canLayAll0, tagD, PyData.canLay0, b1, c1, flag_ok, Bool.and_self]
      · simp only [Option.toList, List.map_cons, List.map_nil, PyData.depthAll, tagD, PyData.depth]
        omega
  unfold PySem.SeqAt.shaped toldD
  rw [Bool.and_eq_true]
  refine ⟨?_, ?_⟩
  · show PyData.canLayAll0 _ = true
    rw [lay_app, a1, h3.1]; rfl
  · rw [decide_eq_true_eq]
    show PyData.depthAll _ + 1 ≤ 64
    rw [depth_app]
    have := h3.2
    omega
theorem rows_shaped {prs : List (PySem.Str × PySem.Str)} (h : OkP prs) : PySem.SeqAt.shaped (.list (prs.map rowD)) = true := by
  obtain ⟨c1, c2⟩ := rows_ok h
  unfold PySem.SeqAt.shaped
  rw [Bool.and_eq_true]
  refine ⟨c1, ?_⟩
  rw [decide_eq_true_eq]
  show PyData.depthAll _ + 1 ≤ 64
  omega
section
variable {prog : Program} {w : World} {A : Around} {E : Value → Shared → Prop} {s : Shared} {h₀ : Heap} {L a b : Addr} {news : List (Addr × Obj)} {Q : Value → Shared → Prop}
theorem told_eq {n n' : Nat} {us tg us' tg' : List Value} {tl tl' : List (Addr × Obj)} {ws : List PySem.Str} {tag : Option (Nat × PySem.Str × List (PySem.Str × PySem.Str) × Bool)} (N : News h₀ L s.heap news)
    (ha : (a, W.listOf (us ++ tg).toArray n) ∈ news) (hb : (b, W.listOf (us' ++ tg').toArray n') ∈ news) (hF : Flts us tl ws) (hT : TagT tg tl tag) (hF' : Flts us' tl' ws) (hT' : TagT tg' tl' tag) (h1 : ∀ p ∈ tl, p ∈ news) (h2 : ∀ p ∈ tl', p ∈ news)
    (ok1 : ∀ x ∈ ws, PyData.strOk x = true) (ok2 : OkT tag) (hu : A.units + 64 < cLine) (h : Q (.bool true) s) : wpAny (model prog w) A (compareOp .Eq (.ref a) (.ref b)) Q E s := by
  obtain ⟨as, r1⟩ := told_reads hF hT (N _ ha).1 fun p hp => (N _ (h1 p hp)).1
  obtain ⟨bs, r2⟩ := told_reads hF' hT' (N _ hb).1 fun p hp => (N _ (h2 p hp)).1
  have hs := told_shaped ok1 ok2
  refine eq_dataH r1 r2 hs hs hu ?_
  rw [PySem.SeqAt.eqv_refl _ (PySem.SeqAt.canLay_of_shaped hs)]
  exact h
theorem rows_ne {n n' : Nat} {us us' : List Value} {tl tl' : List (Addr × Obj)} {prs : List (PySem.Str × PySem.Str)} (N : News h₀ L s.heap news)
    (ha : (a, W.listOf us.toArray n) ∈ news) (hb : (b, W.listOf us'.toArray n') ∈ news) (hF : Its rowObj us tl prs) (hF' : Its rowObj us' tl' prs) (h1 : ∀ p ∈ tl, p ∈ news) (h2 : ∀ p ∈ tl', p ∈ news)
    (ok : OkP prs) (hu : A.units + 64 < cLine) (h : Q (.bool false) s) : wpAny (model prog w) A (compareOp .NotEq (.ref a) (.ref b)) Q E s := by
  have hs := rows_shaped ok
  refine ne_dataH (Reads.list (N _ ha).1 rfl rfl (Its.reads rowD_of (fun p hp => (N _ (h1 p hp)).1) hF)) (Reads.list (N _ hb).1 rfl rfl (Its.reads rowD_of (fun p hp => (N _ (h2 p hp)).1) hF')) hs hs hu ?_
  rw [PySem.SeqAt.eqv_refl _ (PySem.SeqAt.canLay_of_shaped hs)]
  exact h
end
end Mine
theorem Mine.off_u1 {M : Model} {A : Around} {env : Env} {Q : Flow → Shared → Prop} {E : Value → Shared → Prop} {s : Shared} (h : wpAny M A (execs [] env) Q E s) : wpAny M A (execs [] env) Q E s := by
  (try (walk1; fail "no"))
  w_top off
  exact h
namespace Mine
local macro_rules | `(tactic| k_ne) => `(tactic| first | exact (show Nq _ _ by with_reducible assumption) | exact Ne.symm (show Nq _ _ by with_reducible assumption) | (refine neN ?_; (try dsimp only); omega))
local macro_rules | `(tactic| k_room) => `(tactic| ((try simp only [depth_under_make, depth_under_kw, depth_in1, depth_deeper, depth_caller, ktrTop, recursionLimit] at *); omega))
local macro_rules | `(tactic| k_units) => `(tactic| ((have hcL9 := cLine_is); (try simp only [units_in1, units_deeper, Around.mark_units, units_caller, ktrTop] at *); omega))
local macro_rules | `(tactic| ktr_enter) => `(tactic| (refine' code_def ?k1 ?k2 ?k3 ?k4 ?k5 ?kA ?kF ?kK ?k6 ?k7 ?k8 ?k9 ?kB ?_ ?c2 ?c3 ?c4 ?c5; (case kA => exact rfl); (case kF => exact rfl); (case kK => first | exact rfl | assumption); (case k1 => k_asm); (case k2 => k_asm); (case k3 => k_asm); (case k4 => k_asm); (case k5 => k_asm); (case k6 => k_is); (case k7 => k_is); (case k8 => k_room); (case k9 => first | exact BindsTo.of_eq rfl | exact binds_K (by k_in) rfl (by k_is) rfl rfl rfl); (case c5 => decide); (case kB => exact locs rfl); (case c2 => exact rfl); (case c3 => exact rfl); (case c4 => exact rfl); k_whole; intro g' L' h' FG' F' N' B' X' T'; (try dsimp only); (try k_fold)))
local macro_rules | `(tactic| k_all) => `(tactic| (with_reducible assumption))
local macro_rules | `(tactic| tb_lt) => `(tactic| first | exact Pick.head | (refine' Pick.tail ?c; (case c => tb_lt)))
local macro_rules | `(tactic| tb_start) => `(tactic| first | exact Picks.nil | (refine' Picks.cons ?a ?b; (case a => tb_lt); (case b => tb_start)))
local macro_rules | `(tactic| tb_rel) => `(tactic| first | exact List.forall_mem_nil _ | (refine' List.forall_mem_cons.mpr ⟨?a, ?b⟩; (case a => k_all); (case b => tb_rel)))
local macro_rules | `(tactic| walk_at "TPost") => `(tactic| (dsimp only [TPost]))
local macro_rules | `(tactic| size_fits) => `(tactic| ((simp only [PySem.sizeLine_eq, List.size_toArray]); omega))
local macro_rules | `(tactic| k_gentoks) => `(tactic| (with_reducible refine' gen_toksP ?hp ?_; (case hp => first | omega | ((try simp only [List.length_cons]); omega)); intro tk htk))
local macro_rules | `(tactic| kstt_sub) => `(tactic| first | exact fun _ h => h | assumption | (refine' subCons ?a ?b; (case a => k_mem); (case b => kstt_sub)) | (refine' subTail ?a; (case a => kstt_sub)))
local macro_rules | `(tactic| kst_all) => `(tactic| first | exact List.forall_mem_nil _ | (refine' List.forall_mem_cons.mpr ⟨?a, ?b⟩; (case a => exact rfl); (case b => kst_all)))
local macro_rules | `(tactic| walk_at "MidEnd") => `(tactic| first
  | ((with_reducible show MidEnd _ _ _ _ _ _ _ Flow.next _); (refine' ⟨(tk8 _ _ _ _ _ _ _ _, _), _, _, _, rfl, ?F, ?N, ?ps, ?P⟩); (case F => assumption); (case N => (refine' nsub ?N1 ?N2; (case N1 => assumption); (case N2 => kstt_sub))); (case ps => kst_all); (case P => k_extra "mid"))
  | ((fail_if_success (with_reducible show MidEnd _ _ _ _ _ _ _ Flow.next _)); dsimp only [MidEnd]))
local macro_rules | `(tactic| walk_at "WEnd") => `(tactic| ((fail_if_success (with_reducible show WEnd _ _ _ _ _ _ _ _ _ Flow.next _)); dsimp only [WEnd]))
local macro_rules | `(tactic| walk_at "callWith") => `(tactic| (k_here; (with_reducible refine' callWith_method1 ?_ ?he ?hp); (case he => k_dflt rfl); (case hp => k_dflt rfl)))
local macro_rules | `(tactic| k_steps) => `(tactic| repeat' (first | (k_unfold; (try dsimp only)) | (k_end; wrow_close) | walk1 | (dsimp only [List.cons_append, List.nil_append]; walk1) | (dsimp only) | fail "no step"))
/-! the law's body in pieces -/
def recOfWalk {q : Program} {loose : List PySem.Str} {XP : (PySem.Str → Option Value) → Heap → Prop} {YP : World → Heap → Prop} {r : RowW} {d : DefRec} {kwd : List (PySem.Str × PySem.Expr)} {run : Value → List Value → Sem Value} {R : Prop} (_h : WalkO q loose XP YP r d kwd run → R) : DefRec := d
noncomputable abbrev LR : DefRec := recOfWalk hd12
/-- from the n-th statement on the law hands back True, where the names ps and the objects led stand -/
def LawC (w : World) (n : Nat) (ps : List (PySem.Str × Value)) (led : List (Addr × Obj)) : Prop :=
  ∀ (mean : ExcName → Option Value) (mg mb : PySem.Str → Option Value) (base h₀ : Heap) (L fa : Addr) (cd : Value) (m : PySem.Str → Option Value) (s : Shared) (Q : Flow → Shared → Prop) (E : Value → Shared → Prop),
    Below callerA base [] h₀ → Fr h₀ L s.heap m → (∀ p ∈ ps, m p.1 = some p.2) → (KF w).In h₀ → News h₀ L s.heap led → Top VW LZ mean mg mb h₀ → PassesOwn (model PG w) (callerA.deeper (envOfC (Str.ofString "law") LR.scope L fa cd)) (envOfC (Str.ofString "law") LR.scope L fa cd) E →
    (∀ h' tk' m', Fr h₀ L h' m' → Q (.ret (.bool true)) { s with heap := h', toks := tk' }) →
    wpAny (model PG w) (callerA.deeper (envOfC (Str.ofString "law") LR.scope L fa cd)) (execs (LR.body.drop n) (envOfC (Str.ofString "law") LR.scope L fa cd)) Q E s
theorem LawC.use {w : World} {n : Nat} {ps : List (PySem.Str × Value)} {led news : List (Addr × Obj)} (hT : LawC w n ps led) {mean : ExcName → Option Value} {mg mb : PySem.Str → Option Value} {base h₀ : Heap} {L fa : Addr} {cd : Value} {m : PySem.Str → Option Value} {s : Shared} {Q : Flow → Shared → Prop} {E : Value → Shared → Prop}
    (N : News h₀ L s.heap news) (hs : ∀ p ∈ led, p ∈ news) (F : Fr h₀ L s.heap m) (hps : ∀ p ∈ ps, m p.1 = some p.2) (B : Below callerA base [] h₀) (X : (KF w).In h₀) (T : Top VW LZ mean mg mb h₀) (hE : PassesOwn (model PG w) (callerA.deeper (envOfC (Str.ofString "law") LR.scope L fa cd)) (envOfC (Str.ofString "law") LR.scope L fa cd) E)
    (hret : ∀ h' tk' m', Fr h₀ L h' m' → Q (.ret (.bool true)) { s with heap := h', toks := tk' }) :
    wpAny (model PG w) (callerA.deeper (envOfC (Str.ofString "law") LR.scope L fa cd)) (execs (LR.body.drop n) (envOfC (Str.ofString "law") LR.scope L fa cd)) Q E s :=
  hT mean mg mb base h₀ L fa cd m s Q E B F hps X (nsub N hs) T hE hret
theorem law_re {h₀ h : Heap} {L : Addr} {a : Addr × Obj} {tl X R : List (Addr × Obj)} (N : News h₀ L h (a :: (tl ++ (X ++ R)))) (ho : ∀ p ∈ X ++ R, p.1 ≠ a.1 ∧ ∀ q ∈ tl, p.1 ≠ q.1) :
    ∃ R', News h₀ L h (X ++ R') ∧ ∀ x ∈ X, (∀ p ∈ R, p.1 ≠ x.1) → ∀ p ∈ R', p.1 ≠ x.1 := by
  refine ⟨a :: (tl ++ R), nsub N fun q hq => ?_, fun x hx hR => List.forall_mem_cons.mpr ⟨?_, fun p hp => ?_⟩⟩
  · rcases List.mem_append.mp hq with h | h
    · exact .tail _ (List.mem_append_right _ (List.mem_append_left _ h))
    · rcases List.mem_cons.mp h with rfl | h
      · exact .head _
      · rcases List.mem_append.mp h with h | h
        · exact .tail _ (List.mem_append_left _ h)
        · exact .tail _ (List.mem_append_right _ (List.mem_append_right _ h))
  · exact Ne.symm (ho x (List.mem_append_left _ hx)).1
  · rcases List.mem_append.mp hp with h | h
    · exact Ne.symm ((ho x (List.mem_append_left _ hx)).2 p h)
    · exact hR p h
theorem inby_nil {w : World} {e : Addr} {n : Nat} : InBy w (.ref e) [(e, { cls := .type "tuple", data := .seq #[] n })] (fun _ => false) := by
  intro A E s h₀ L m news ch u Q F X N hs h
  have hl : s.heap.IsTuple e #[] := ⟨_, (N _ (hs _ (.head _))).1, rfl, _, rfl⟩
  exact PySem.SeqAt.in_tupleAt (fun _ => false) hl (fun y hy => absurd hy (by simp)) (by rw [Array.any_empty]; exact h s.toks)
theorem str_nil {x : PySem.Str} (h : x.cps.toList = []) : x = Str.ofString "" := by
  have e : (Str.ofString "").cps = #[] := by decide +kernel
  obtain ⟨c⟩ := x
  have h1 : c = #[] := Array.toList_eq_nil_iff.mp h
  have h2 : (Str.ofString "") = ⟨#[]⟩ := by rw [← e]
  rw [h2, h1]
section
local macro_rules | `(tactic| walk_at "call ref") => `(tactic| (k_here; k_dflt (refine' TellO.use (queue_t ?q1 ?q2 ?q3) ?k1 ?k2 ?k3 ?k4 ?k5 ?kK ?kp ?kO ?ko ?kd ?ku ?k0 ?_; (case k1 => k_asm); (case k2 => k_asm); (case k3 => k_asm); (case k4 => k_asm); (case k5 => k_asm); (case kK => first | exact rfl | assumption); (case kp => tb_start); (case kO => k_extra "kO"); (case ko => tb_rel); (case q1 => assumption); (case q2 => assumption); (case q3 => omega); (case kd => k_room); (case ku => k_units); (case k0 => first | exact (show 1 ≤ _ by (try dsimp only); omega) | exact Nat.zero_le _); intro r9 f9 h9 tk9 p9 F9 N9 hP9; obtain ⟨to9, ep9, us9, tg9, tl9, e1, hF9, hT9, ho9, e2⟩ := hP9; subst e1; subst e2; (try dsimp only [List.nil_append, List.cons_append] at N9); (try k_fold))))
local macro_rules | `(tactic| walk_at "call ref") => `(tactic| (k_here; k_dflt (refine' TellR.use (charsUntil_t inby_nil ?c2 ?c3 ?c4 ?c5 ?c6) ?k1 ?k2 ?k3 ?k4 ?k5 ?kK ?kp ?ko ?kd ?ku ?k0 ?_; (case k1 => k_asm); (case k2 => k_asm); (case k3 => k_asm); (case k4 => k_asm); (case k5 => k_asm); (case kK => first | exact rfl | assumption); (case kp => tb_start); (case ko => tb_rel); (case c2 => (refine List.forall_mem_cons.mpr ⟨⟨?_, ?_, ?_, ?_, ?_, ?_⟩, List.forall_mem_nil _⟩) <;> k_ne); (case c3 => assumption); (case c4 => assumption); (case c5 => assumption); (case c6 => assumption); (case kd => k_room); (case ku => k_units); (case k0 => first | exact (show 1 ≤ _ by (try dsimp only); omega) | exact Nat.zero_le _); intro r9 f9 h9 tk9 p9 F9 N9 hP9; obtain ⟨S9, a0, a1, a2, a3, a4, b0, b1, bv9, vs9, ep9, x9, t9, e1, hx9, hr9, hw9, ht9, hp9, hb9, hv9, e2⟩ := hP9; subst e1; subst e2; (rename rem _ = [] => hrem9); rw [hrem9] at hx9; have hx8 := str_nil hx9; subst hx8; dsimp only [stS, stL, List.cons_append, List.nil_append] at N9; (try dsimp only [List.nil_append, List.cons_append] at N9); (try k_fold))))
theorem l_ret {w : World} {hx hd' tq lf du sx sd tx td ra el nl tep dep : Nat} {κh κ κ' : Nat → Nat} {τ₀ τ₁ τ₂ τ₃ τ₄ σ₀ σ₁ : Nat} {S : SS} {bf st cv : Value} {vs qs tg us tg2 : List Value} {ep : Nat} {exq tgo R : List (Addr × Obj)} {ws : List PySem.Str} {tag : Option (Nat × PySem.Str × List (PySem.Str × PySem.Str) × Bool)}
    (hT : Toks w qs exq ws) (hG : TagQ w tg tgo tag) (hz : qs.length ≤ 200) (hF : Flts us R ws) (hD : TagT tg2 R tag) (ok1 : ∀ x ∈ ws, PyData.strOk x = true) (ok2 : OkT tag) (hrem : rem S = []) (hv : Errs vs S.n) (hbf : BfV S.bo bf) (hw : WF S) (hnd : NQ6 sx sd tx td ra el) (hh : HQ hx hd' tq sx sd tx td ra el) (hdu : Nq du sx ∧ Nq du sd ∧ Nq du tx ∧ Nq du td ∧ Nq du ra ∧ Nq du el)
    (hRR : ∀ p ∈ exq ++ tgo, p ∈ R) (hR : ∀ p ∈ R, p.1 ≠ sx ∧ p.1 ≠ sd ∧ p.1 ≠ tx ∧ p.1 ≠ td ∧ p.1 ≠ ra ∧ p.1 ≠ el) :
    LawC w 17 [(Str.ofString "t", .ref hx), (Str.ofString "due", .ref du)] ((hx, instObj 762 hd') :: (hd', hdD8 w κh sx lf tq st cv) :: (tq, W.listOf (qs ++ tg).toArray tep) :: (du, W.listOf (us ++ tg2).toArray dep) :: (stS w sx sd tx td ra el nl κ κ' τ₀ τ₁ τ₂ τ₃ τ₄ σ₀ σ₁ S bf vs ep ++ R)) := by
  unfold LawC KF PG
  k_fill
  intro mean mg mb base h₀ L fa cd m s Q E B F hps X N T hE hret
  rw [← kstB_self hps] at F
  clear hps
  dsimp only [stS, stL, List.cons_append, List.nil_append] at N
  simp only [LR, recOfWalk, List.drop_succ_cons, List.drop_zero]
  (try k_fold)
  have hR9 : ∀ q ∈ exq ++ tgo, List.Mem q R := hRR
  k_with_none
  k_with "kO" => (intro q hq; rcases List.mem_cons.mp hq with rfl | hq; (k_mem); ((repeat refine' List.Mem.tail _ ?_); exact hR9 q hq))
  repeat' (first | ((fail_if_success (with_reducible show wpAny _ _ (compareOp CmpOp.Eq (Value.ref _) (Value.ref _)) _ _ _)); first | (k_unfold; (try dsimp only)) | (k_end; wrow_close) | walk1 | (dsimp only [List.cons_append, List.nil_append]; walk1) | (dsimp only) | fail "no step"))
  repeat' (first | ((fail_if_success (with_reducible show wpAny _ _ (compareOp CmpOp.Eq (Value.ref _) (Value.ref _)) _ _ _)); first | (k_unfold; (try dsimp only)) | (k_end; wrow_close) | walk1 | (dsimp only [List.cons_append, List.nil_append]; walk1) | (dsimp only) | fail "no step"))
  (rename News _ _ _ _ => n9)
  (rename Flts _ _ _ => hF2)
  (rename TagT _ _ _ => hT2)
  (rename ∀ p ∈ _, _ ∧ ∀ q ∈ _, _ => ho2)
  obtain ⟨to, eto⟩ := News.addr n9
  subst eto
  refine' told_eq n9 (.head _) (.tail _ (List.mem_append_right _ (by k_mem))) hF2 hT2 hF hD ?h1 ?h2 ok1 ok2 ?hu ?_
  case h1 => exact fun p hp => .tail _ (List.mem_append_left _ hp)
  case h2 => exact fun p hp => .tail _ (List.mem_append_right _ (by (repeat refine' List.Mem.tail _ ?_); exact hp))
  case hu => ke_room
  obtain ⟨R10, n10, hr10⟩ := law_re (X := [_, _, _, _, _, _, _, _, _, _]) n9 ho2
  clear n9
  dsimp only [List.cons_append, List.nil_append] at n10
  have r1 := hr10 (sx, _) (.tail _ (.tail _ (.tail _ (.tail _ (.head _))))) fun p hp => (hR p hp).1
  have r2 := hr10 (sd, _) (.tail _ (.tail _ (.tail _ (.tail _ (.tail _ (.head _)))))) fun p hp => (hR p hp).2.1
  have r3 := hr10 (tx, _) (.tail _ (.tail _ (.tail _ (.tail _ (.tail _ (.tail _ (.head _))))))) fun p hp => (hR p hp).2.2.1
  have r4 := hr10 (td, _) (.tail _ (.tail _ (.tail _ (.tail _ (.tail _ (.tail _ (.tail _ (.head _)))))))) fun p hp => (hR p hp).2.2.2.1
  have r5 := hr10 (ra, _) (.tail _ (.tail _ (.tail _ (.tail _ (.tail _ (.tail _ (.tail _ (.tail _ (.head _))))))))) fun p hp => (hR p hp).2.2.2.2.1
  have r6 := hr10 (el, _) (.tail _ (.tail _ (.tail _ (.tail _ (.tail _ (.tail _ (.tail _ (.tail _ (.tail _ (.head _)))))))))) fun p hp => (hR p hp).2.2.2.2.2
  clear hr10 ho2 N
  have hnd' := hnd
  unfold NQ6 at hnd'
  obtain ⟨q1, q2, q3, q4, q5, q6, q7, q8, q9, q10, q11, q12, q13, q14, q15⟩ := hnd'
  unfold HQ at hh
  obtain ⟨g1, g2, g3, g4, g5, g6, g7, g8, g9, g10, g11, g12, g13, g14, g15, g16, g17, g18, g19, g20, g21⟩ := hh
  obtain ⟨d1, d2, d3, d4, d5, d6⟩ := hdu
  repeat' (first | ((fail_if_success (with_reducible show False)); first | (k_unfold; (try dsimp only)) | (k_end; wrow_close) | walk1 | (dsimp only [List.cons_append, List.nil_append]; walk1) | (dsimp only) | fail "no step"))
  rw [beq_self_eq_true]
  exact hret _ _ _ (by assumption)
end
end Mine
theorem Mine.off_u2 {M : Model} {A : Around} {env : Env} {Q : Flow → Shared → Prop} {E : Value → Shared → Prop} {s : Shared} (h : wpAny M A (execs [] env) Q E s) : wpAny M A (execs [] env) Q E s := by
  (try (walk1; fail "no"))
  w_top off
  exact h
namespace Mine
local macro_rules | `(tactic| k_ne) => `(tactic| first | exact (show Nq _ _ by with_reducible assumption) | exact Ne.symm (show Nq _ _ by with_reducible assumption) | (refine neN ?_; (try dsimp only); omega))
local macro_rules | `(tactic| k_room) => `(tactic| ((try simp only [depth_under_make, depth_under_kw, depth_in1, depth_deeper, depth_caller, ktrTop, recursionLimit] at *); omega))
local macro_rules | `(tactic| k_units) => `(tactic| ((have hcL9 := cLine_is); (try simp only [units_in1, units_deeper, Around.mark_units, units_caller, ktrTop] at *); omega))
local macro_rules | `(tactic| ktr_enter) => `(tactic| (refine' code_def ?k1 ?k2 ?k3 ?k4 ?k5 ?kA ?kF ?kK ?k6 ?k7 ?k8 ?k9 ?kB ?_ ?c2 ?c3 ?c4 ?c5; (case kA => exact rfl); (case kF => exact rfl); (case kK => first | exact rfl | assumption); (case k1 => k_asm); (case k2 => k_asm); (case k3 => k_asm); (case k4 => k_asm); (case k5 => k_asm); (case k6 => k_is); (case k7 => k_is); (case k8 => k_room); (case k9 => first | exact BindsTo.of_eq rfl | exact binds_K (by k_in) rfl (by k_is) rfl rfl rfl); (case c5 => decide); (case kB => exact locs rfl); (case c2 => exact rfl); (case c3 => exact rfl); (case c4 => exact rfl); k_whole; intro g' L' h' FG' F' N' B' X' T'; (try dsimp only); (try k_fold)))
local macro_rules | `(tactic| k_all) => `(tactic| (with_reducible assumption))
local macro_rules | `(tactic| tb_lt) => `(tactic| first | exact Pick.head | (refine' Pick.tail ?c; (case c => tb_lt)))
local macro_rules | `(tactic| tb_start) => `(tactic| first | exact Picks.nil | (refine' Picks.cons ?a ?b; (case a => tb_lt); (case b => tb_start)))
local macro_rules | `(tactic| tb_rel) => `(tactic| first | exact List.forall_mem_nil _ | (refine' List.forall_mem_cons.mpr ⟨?a, ?b⟩; (case a => k_all); (case b => tb_rel)))
local macro_rules | `(tactic| walk_at "TPost") => `(tactic| (dsimp only [TPost]))
local macro_rules | `(tactic| size_fits) => `(tactic| ((simp only [PySem.sizeLine_eq, List.size_toArray]); omega))
local macro_rules | `(tactic| k_gentoks) => `(tactic| (with_reducible refine' gen_toksP ?hp ?_; (case hp => first | omega | ((try simp only [List.length_cons]); omega)); intro tk htk))
local macro_rules | `(tactic| kstt_sub) => `(tactic| first | exact fun _ h => h | assumption | (refine' subCons ?a ?b; (case a => k_mem); (case b => kstt_sub)) | (refine' subTail ?a; (case a => kstt_sub)))
local macro_rules | `(tactic| kst_all) => `(tactic| first | exact List.forall_mem_nil _ | (refine' List.forall_mem_cons.mpr ⟨?a, ?b⟩; (case a => exact rfl); (case b => kst_all)))
local macro_rules | `(tactic| walk_at "MidEnd") => `(tactic| first
  | ((with_reducible show MidEnd _ _ _ _ _ _ _ Flow.next _); (refine' ⟨(tk8 _ _ _ _ _ _ _ _, _), _, _, _, rfl, ?F, ?N, ?ps, ?P⟩); (case F => assumption); (case N => (refine' nsub ?N1 ?N2; (case N1 => assumption); (case N2 => kstt_sub))); (case ps => kst_all); (case P => k_extra "mid"))
  | ((fail_if_success (with_reducible show MidEnd _ _ _ _ _ _ _ Flow.next _)); dsimp only [MidEnd]))
local macro_rules | `(tactic| walk_at "WEnd") => `(tactic| ((fail_if_success (with_reducible show WEnd _ _ _ _ _ _ _ _ _ Flow.next _)); dsimp only [WEnd]))
local macro_rules | `(tactic| walk_at "callWith") => `(tactic| (k_here; (with_reducible refine' callWith_method1 ?_ ?he ?hp); (case he => k_dflt rfl); (case hp => k_dflt rfl)))
local macro_rules | `(tactic| k_steps) => `(tactic| repeat' (first | (k_unfold; (try dsimp only)) | (k_end; wrow_close) | walk1 | (dsimp only [List.cons_append, List.nil_append]; walk1) | (dsimp only) | fail "no step"))
/-! the law's statement 16: what is due of the tag -/
section
theorem l_16n {w : World} {hx hd' tq lf du sx sd tx td ra el nl tep dep : Nat} {κh κ κ' : Nat → Nat} {τ₀ τ₁ τ₂ τ₃ τ₄ σ₀ σ₁ : Nat} {S : SS} {bf st cv : Value} {vs qs us : List Value} {ep : Nat} {exq R : List (Addr × Obj)} {ws : List PySem.Str}
    (hT : Toks w qs exq ws) (hz : qs.length ≤ 200) (hF : Flts us R ws) (ok1 : ∀ x ∈ ws, PyData.strOk x = true) (hrem : rem S = []) (hv : Errs vs S.n) (hbf : BfV S.bo bf) (hw : WF S) (hnd : NQ6 sx sd tx td ra el) (hh : HQ hx hd' tq sx sd tx td ra el) (hdu : Nq du sx ∧ Nq du sd ∧ Nq du tx ∧ Nq du td ∧ Nq du ra ∧ Nq du el)
    (hRR : ∀ p ∈ exq, p ∈ R) (hR : ∀ p ∈ R, p.1 ≠ sx ∧ p.1 ≠ sd ∧ p.1 ≠ tx ∧ p.1 ≠ td ∧ p.1 ≠ ra ∧ p.1 ≠ el) :
    LawC w 16 [(Str.ofString "t", .ref hx), (Str.ofString "due", .ref du), (Str.ofString "done", .bool false)] ((hx, instObj 762 hd') :: (hd', hdD8 w κh sx lf tq st cv) :: (tq, W.listOf qs.toArray tep) :: (du, W.listOf us.toArray dep) :: (stS w sx sd tx td ra el nl κ κ' τ₀ τ₁ τ₂ τ₃ τ₄ σ₀ σ₁ S bf vs ep ++ R)) := by
  unfold LawC KF PG
  k_fill
  intro mean mg mb base h₀ L fa cd m s Q E B F hps X N T hE hret
  rw [← kstB_self hps] at F
  clear hps
  dsimp only [stS, stL, List.cons_append, List.nil_append] at N
  simp only [LR, recOfWalk, List.drop_succ_cons, List.drop_zero]
  (try k_fold)
  k_with_none
  repeat' (first | ((fail_if_success (with_reducible show wpAny _ _ (execs (PySem.Stmt.Return _ _ :: []) _) _ _ _)); first | (k_unfold; (try dsimp only)) | (k_end; wrow_close) | walk1 | (dsimp only [List.cons_append, List.nil_append]; walk1) | (dsimp only) | fail "no step"))
  (rename Fr _ _ _ _ => f9)
  (rename News _ _ _ _ => n9)
  have e0 : qs = qs ++ [] := (List.append_nil _).symm
  have e1 : us = us ++ [] := (List.append_nil _).symm
  refine' LawC.use (l_ret (qs := qs) (tg := []) (us := us) (tg2 := []) (exq := exq) (tgo := []) (tag := none) (R := R) hT .none hz hF rfl ok1 trivial hrem hv hbf hw hnd hh hdu ?rr hR) n9 ?ts f9 ?tps B X T hE ?tret
  case rr => intro p hp; rw [List.append_nil] at hp; exact hRR p hp
  case ts => (rw [← e0, ← e1]; (dsimp only [stS, stL, List.cons_append, List.nil_append]); kstt_sub)
  case tps => kst_all
  case tret => exact fun h' tk' m' hF => hret h' tk' m' hF
end
end Mine
theorem Mine.off_u3 {M : Model} {A : Around} {env : Env} {Q : Flow → Shared → Prop} {E : Value → Shared → Prop} {s : Shared} (h : wpAny M A (execs [] env) Q E s) : wpAny M A (execs [] env) Q E s := by
  (try (walk1; fail "no"))
  w_top off
  exact h
namespace Mine
local macro_rules | `(tactic| k_ne) => `(tactic| first | exact (show Nq _ _ by with_reducible assumption) | exact Ne.symm (show Nq _ _ by with_reducible assumption) | (refine neN ?_; (try dsimp only); omega))
local macro_rules | `(tactic| k_room) => `(tactic| ((try simp only [depth_under_make, depth_under_kw, depth_in1, depth_deeper, depth_caller, ktrTop, recursionLimit] at *); omega))
local macro_rules | `(tactic| k_units) => `(tactic| ((have hcL9 := cLine_is); (try simp only [units_in1, units_deeper, Around.mark_units, units_caller, ktrTop] at *); omega))
local macro_rules | `(tactic| ktr_enter) => `(tactic| (refine' code_def ?k1 ?k2 ?k3 ?k4 ?k5 ?kA ?kF ?kK ?k6 ?k7 ?k8 ?k9 ?kB ?_ ?c2 ?c3 ?c4 ?c5; (case kA => exact rfl); (case kF => exact rfl); (case kK => first | exact rfl | assumption); (case k1 => k_asm); (case k2 => k_asm); (case k3 => k_asm); (case k4 => k_asm); (case k5 => k_asm); (case k6 => k_is); (case k7 => k_is); (case k8 => k_room); (case k9 => first | exact BindsTo.of_eq rfl | exact binds_K (by k_in) rfl (by k_is) rfl rfl rfl); (case c5 => decide); (case kB => exact locs rfl); (case c2 => exact rfl); (case c3 => exact rfl); (case c4 => exact rfl); k_whole; intro g' L' h' FG' F' N' B' X' T'; (try dsimp only); (try k_fold)))
local macro_rules | `(tactic| k_all) => `(tactic| (with_reducible assumption))
local macro_rules | `(tactic| tb_lt) => `(tactic| first | exact Pick.head | (refine' Pick.tail ?c; (case c => tb_lt)))
local macro_rules | `(tactic| tb_start) => `(tactic| first | exact Picks.nil | (refine' Picks.cons ?a ?b; (case a => tb_lt); (case b => tb_start)))
local macro_rules | `(tactic| tb_rel) => `(tactic| first | exact List.forall_mem_nil _ | (refine' List.forall_mem_cons.mpr ⟨?a, ?b⟩; (case a => k_all); (case b => tb_rel)))
local macro_rules | `(tactic| walk_at "TPost") => `(tactic| (dsimp only [TPost]))
local macro_rules | `(tactic| size_fits) => `(tactic| ((simp only [PySem.sizeLine_eq, List.size_toArray]); omega))
local macro_rules | `(tactic| k_gentoks) => `(tactic| (with_reducible refine' gen_toksP ?hp ?_; (case hp => first | omega | ((try simp only [List.length_cons]); omega)); intro tk htk))
local macro_rules | `(tactic| kstt_sub) => `(tactic| first | exact fun _ h => h | assumption | (refine' subCons ?a ?b; (case a => k_mem); (case b => kstt_sub)) | (refine' subTail ?a; (case a => kstt_sub)))
local macro_rules | `(tactic| kst_all) => `(tactic| first | exact List.forall_mem_nil _ | (refine' List.forall_mem_cons.mpr ⟨?a, ?b⟩; (case a => exact rfl); (case b => kst_all)))
local macro_rules | `(tactic| walk_at "MidEnd") => `(tactic| first
  | ((with_reducible show MidEnd _ _ _ _ _ _ _ Flow.next _); (refine' ⟨(tk8 _ _ _ _ _ _ _ _, _), _, _, _, rfl, ?F, ?N, ?ps, ?P⟩); (case F => assumption); (case N => (refine' nsub ?N1 ?N2; (case N1 => assumption); (case N2 => kstt_sub))); (case ps => kst_all); (case P => k_extra "mid"))
  | ((fail_if_success (with_reducible show MidEnd _ _ _ _ _ _ _ Flow.next _)); dsimp only [MidEnd]))
local macro_rules | `(tactic| walk_at "WEnd") => `(tactic| ((fail_if_success (with_reducible show WEnd _ _ _ _ _ _ _ _ _ Flow.next _)); dsimp only [WEnd]))
local macro_rules | `(tactic| walk_at "callWith") => `(tactic| (k_here; (with_reducible refine' callWith_method1 ?_ ?he ?hp); (case he => k_dflt rfl); (case hp => k_dflt rfl)))
local macro_rules | `(tactic| k_steps) => `(tactic| repeat' (first | (k_unfold; (try dsimp only)) | (k_end; wrow_close) | walk1 | (dsimp only [List.cons_append, List.nil_append]; walk1) | (dsimp only) | fail "no step"))
theorem News.addr3 {h₀ h : Heap} {L : Addr} {a b c : Addr} {o1 o2 o3 : Obj} {r : List (Addr × Obj)} (_N : News h₀ L h ((a, o1) :: (b, o2) :: (c, o3) :: r)) : ∃ a' b' c' : Nat, a' = a ∧ b' = b ∧ c' = c := ⟨a, b, c, rfl, rfl, rfl⟩
theorem News.addr2b {h₀ h : Heap} {L : Addr} {a b : Addr} {o1 o2 : Obj} {r : List (Addr × Obj)} (_N : News h₀ L h ((a, o1) :: (b, o2) :: r)) : ∃ a' b' : Nat, a' = a ∧ b' = b := ⟨a, b, rfl, rfl⟩
theorem etag_ok : PyData.strOk (Str.ofString "Étag") = true := by decide +kernel
theorem Toks.ok {w : World} {qs : List Value} {ex : List (Addr × Obj)} {ws : List PySem.Str} (_h : Toks w qs ex ws) : True := trivial
section
local macro_rules | `(tactic| walk_at "call ref") => `(tactic| (k_here; k_dflt (refine' TellR.use (fault_t ) ?k1 ?k2 ?k3 ?k4 ?k5 ?kK ?kp ?ko ?kd ?ku ?k0 ?_; (case k1 => k_asm); (case k2 => k_asm); (case k3 => k_asm); (case k4 => k_asm); (case k5 => k_asm); (case kK => first | exact rfl | assumption); (case kp => tb_start); (case ko => tb_rel); (case kd => k_room); (case ku => k_units); (case k0 => first | exact (show 1 ≤ _ by (try dsimp only); omega) | exact Nat.zero_le _); intro r9 f9 h9 tk9 p9 F9 N9 hP9; obtain ⟨a9, t1, t2, e1, hl9, e2⟩ := hP9; subst e1; subst e2; (try simp only [AllLt] at hl9); (try dsimp only [List.nil_append, List.cons_append] at N9); (try k_fold))))
local macro_rules | `(tactic| walk_at "call ref") => `(tactic| (k_here; k_dflt (refine' TellR.use (flag_t ) ?k1 ?k2 ?k3 ?k4 ?k5 ?kK ?kp ?ko ?kd ?ku ?k0 ?_; (case k1 => k_asm); (case k2 => k_asm); (case k3 => k_asm); (case k4 => k_asm); (case k5 => k_asm); (case kK => first | exact rfl | assumption); (case kp => tb_start); (case ko => tb_rel); (case kd => k_room); (case ku => k_units); (case k0 => first | exact (show 1 ≤ _ by (try dsimp only); omega) | exact Nat.zero_le _); intro r9 f9 h9 tk9 p9 F9 N9 hP9; obtain ⟨u9, e1, e2⟩ := hP9; subst e1; subst e2; (try dsimp only [List.nil_append, List.cons_append] at N9); (try k_fold))))
local macro_rules | `(tactic| walk_at "subscriptTail") => `(tactic| (k_here; (with_reducible show wpAny _ _ (subscriptTail _ _ (Value.ref 48) (Value.str (PySem.Str.ofString "StartTag") _)) _ _ _); k_dflt (refine' tt_start ?F ?X ?_; (case F => assumption); (case X => assumption)); intro u))
def atW : PySem.Str := Str.ofString "attributes-in-end-tag"
def scW : PySem.Str := Str.ofString "self-closing-flag-on-end-tag"
theorem l_16e {w : World} {hx hd' tq lf du rw' sx sd tx td ra el nl tep dep rep kt : Nat} {κh κ κ' : Nat → Nat} {τ₀ τ₁ τ₂ τ₃ τ₄ σ₀ σ₁ : Nat} {S : SS} {bf st cv : Value} {vs qs tg us rus : List Value} {ep : Nat} {exq tgo R : List (Addr × Obj)} {ws : List PySem.Str} {prs : List (PySem.Str × PySem.Str)} {fl : Bool}
    (hT : Toks w qs exq (ws ++ (atW :: if fl then [scW] else []))) (hG : TagQ w tg tgo (some (4, Str.ofString "Étag", prs, fl))) (hz : qs.length ≤ 200) (hF : Flts us R ws) (hr : Its rowObj rus R prs) (ok1 : ∀ x ∈ ws, PyData.strOk x = true) (ok2 : OkP prs) (hrem : rem S = []) (hv : Errs vs S.n) (hbf : BfV S.bo bf) (hw : WF S) (hnd : NQ6 sx sd tx td ra el) (hh : HQ hx hd' tq sx sd tx td ra el)
    (hdu : Nq du sx ∧ Nq du sd ∧ Nq du tx ∧ Nq du td ∧ Nq du ra ∧ Nq du el) (hdu2 : Nq du hx ∧ Nq du hd' ∧ Nq du tq ∧ Nq du rw') (hrw : Nq rw' sx ∧ Nq rw' sd ∧ Nq rw' tx ∧ Nq rw' td ∧ Nq rw' ra ∧ Nq rw' el)
    (hRR : ∀ p ∈ exq ++ tgo, p ∈ R) (hRd : ∀ p ∈ R, p.1 ≠ du) (hR : ∀ p ∈ R, p.1 ≠ sx ∧ p.1 ≠ sd ∧ p.1 ≠ tx ∧ p.1 ≠ td ∧ p.1 ≠ ra ∧ p.1 ≠ el) :
    LawC w 16 [(Str.ofString "t", .ref hx), (Str.ofString "due", .ref du), (Str.ofString "done", .bool true), (Str.ofString "kind", .int 4 kt), (Str.ofString "flag", .bool fl), (Str.ofString "row", .ref rw')] ((hx, instObj 762 hd') :: (hd', hdD8 w κh sx lf tq st cv) :: (tq, W.listOf (qs ++ tg).toArray tep) :: (du, W.listOf us.toArray dep) :: (rw', W.listOf rus.toArray rep) :: (stS w sx sd tx td ra el nl κ κ' τ₀ τ₁ τ₂ τ₃ τ₄ σ₀ σ₁ S bf vs ep ++ R)) := by
  unfold LawC KF PG
  k_fill
  intro mean mg mb base h₀ L fa cd m s Q E B F hps X N T hE hret
  rw [← kstB_self hps] at F
  clear hps
  dsimp only [stS, stL, List.cons_append, List.nil_append] at N
  have hdu' := hdu
  obtain ⟨d1, d2, d3, d4, d5, d6⟩ := hdu'
  obtain ⟨d7, d8, d9, d10⟩ := hdu2
  have hul : us.length ≤ 200 := by
    have h1 := hT.len
    have h2 := hF.len
    rw [List.length_append] at h1
    omega
  simp only [LR, recOfWalk, List.drop_succ_cons, List.drop_zero]
  cases fl
  · (try k_fold)
    k_with_none
    repeat' (first | ((fail_if_success (with_reducible show wpAny _ _ (execs (PySem.Stmt.Return _ _ :: []) _) _ _ _)); first | (k_unfold; (try dsimp only)) | (k_end; wrow_close) | walk1 | (dsimp only [List.cons_append, List.nil_append]; walk1) | (dsimp only) | fail "no step"))
    (try dsimp only)
    (rename Fr _ _ _ _ => f9)
    (rename News _ _ _ _ => n9)
    obtain ⟨D9, a1, e1, e3⟩ := News.addr2b n9
    subst e1
    subst e3
    (rename a1 < D9 ∧ _ => z1)
    (rename hx < a1 ∧ _ => z3)
    obtain ⟨-, -, -, -, -, -, y1, y2, y3, y4, y5, y6, -⟩ := z1
    obtain ⟨-, -, -, -, -, v1, v2, v3, v4, v5, v6, -⟩ := z3
    simp only [push_app] at n9
    refine' LawC.use (l_ret (du := du) (qs := qs) (tg := tg) (us := us ++ [.ref a1]) (tg2 := [.ref D9]) (exq := exq) (tgo := tgo)  (R := (D9, tagObj 4 (Str.ofString "Étag") rw' false _ _ _) :: (a1, fltObj atW _ _) :: (rw', W.listOf rus.toArray rep) :: R) hT hG hz ?fl ?tg ?okw ⟨etag_ok, ok2⟩ hrem hv hbf hw hnd hh hdu ?rr ?ra) n9 ?ts f9 ?tps B X T hE ?tret
    case ts =>
      dsimp only [stS, stL, List.cons_append, List.nil_append]
      simp only [List.append_assoc, List.cons_append, List.nil_append]
      kstt_sub
    case fl =>
      exact (hF.mono fun p hp => .tail _ (.tail _ (.tail _ hp))).app (.one (.tail _ (.head _)))
    case tg => exact ⟨D9, rw', _, _, _, _, rus, rfl, .head _, by k_mem, hr.mono fun p hp => .tail _ (.tail _ (.tail _ hp))⟩
    case okw =>
      intro x hx9
      rcases List.mem_append.mp hx9 with h | h
      · exact ok1 x h
      · simp at h
        subst h; decide +kernel
    case rr => exact fun p hp => .tail _ (.tail _ (.tail _ (hRR p hp)))
    case ra =>
      refine List.forall_mem_cons.mpr ⟨⟨Nat.ne_of_gt y1, Nat.ne_of_gt y2, Nat.ne_of_gt y3, Nat.ne_of_gt y4, Nat.ne_of_gt y5, Nat.ne_of_gt y6⟩, List.forall_mem_cons.mpr ⟨⟨Nat.ne_of_gt v1, Nat.ne_of_gt v2, Nat.ne_of_gt v3, Nat.ne_of_gt v4, Nat.ne_of_gt v5, Nat.ne_of_gt v6⟩, List.forall_mem_cons.mpr ⟨hrw, hR⟩⟩⟩
    case tps => kst_all
    case tret => exact fun h' tk' m' hF => hret h' tk' m' hF
  · (try k_fold)
    k_with_none
    repeat' (first | ((fail_if_success (with_reducible show wpAny _ _ (execs (PySem.Stmt.Return _ _ :: []) _) _ _ _)); first | (k_unfold; (try dsimp only)) | (k_end; wrow_close) | walk1 | (dsimp only [List.cons_append, List.nil_append]; walk1) | (dsimp only) | fail "no step"))
    (try dsimp only)
    (rename Fr _ _ _ _ => f9)
    (rename News _ _ _ _ => n9)
    obtain ⟨D9, a2, a1, e1, e2, e3⟩ := News.addr3 n9
    subst e1
    subst e2
    subst e3
    (rename a2 < D9 ∧ _ => z1)
    (rename a1 < a2 ∧ _ => z2)
    (rename hx < a1 ∧ _ => z3)
    obtain ⟨-, -, -, -, -, -, -, y1, y2, y3, y4, y5, y6, -⟩ := z1
    obtain ⟨-, -, -, -, -, -, x1, x2, x3, x4, x5, x6, -⟩ := z2
    obtain ⟨-, -, -, -, -, v1, v2, v3, v4, v5, v6, -⟩ := z3
    simp only [push_app] at n9
    refine' LawC.use (l_ret (du := du) (qs := qs) (tg := tg) (us := us ++ ([.ref a1] ++ [.ref a2])) (tg2 := [.ref D9]) (exq := exq) (tgo := tgo)  (R := (D9, tagObj 4 (Str.ofString "Étag") rw' true _ _ _) :: (a2, fltObj scW _ _) :: (a1, fltObj atW _ _) :: (rw', W.listOf rus.toArray rep) :: R) hT hG hz ?fl ?tg ?okw ⟨etag_ok, ok2⟩ hrem hv hbf hw hnd hh hdu ?rr ?ra) n9 ?ts f9 ?tps B X T hE ?tret
    case ts =>
      dsimp only [stS, stL, List.cons_append, List.nil_append]
      simp only [List.append_assoc, List.cons_append, List.nil_append]
      kstt_sub
    case fl =>
      exact (hF.mono fun p hp => .tail _ (.tail _ (.tail _ (.tail _ hp)))).app ((Its.one (.tail _ (.tail _ (.head _)))).app (.one (.tail _ (.head _))))
    case tg => exact ⟨D9, rw', _, _, _, _, rus, rfl, .head _, by k_mem, hr.mono fun p hp => .tail _ (.tail _ (.tail _ (.tail _ hp)))⟩
    case okw =>
      intro x hx9
      rcases List.mem_append.mp hx9 with h | h
      · exact ok1 x h
      · simp at h
        rcases h with rfl | rfl <;> decide +kernel
    case rr => exact fun p hp => .tail _ (.tail _ (.tail _ (.tail _ (hRR p hp))))
    case ra =>
      refine List.forall_mem_cons.mpr ⟨⟨Nat.ne_of_gt y1, Nat.ne_of_gt y2, Nat.ne_of_gt y3, Nat.ne_of_gt y4, Nat.ne_of_gt y5, Nat.ne_of_gt y6⟩, List.forall_mem_cons.mpr ⟨⟨Nat.ne_of_gt x1, Nat.ne_of_gt x2, Nat.ne_of_gt x3, Nat.ne_of_gt x4, Nat.ne_of_gt x5, Nat.ne_of_gt x6⟩, List.forall_mem_cons.mpr ⟨⟨Nat.ne_of_gt v1, Nat.ne_of_gt v2, Nat.ne_of_gt v3, Nat.ne_of_gt v4, Nat.ne_of_gt v5, Nat.ne_of_gt v6⟩, List.forall_mem_cons.mpr ⟨hrw, hR⟩⟩⟩⟩
    case tps => kst_all
    case tret => exact fun h' tk' m' hF => hret h' tk' m' hF
end
end Mine
theorem Mine.off_u4 {M : Model} {A : Around} {env : Env} {Q : Flow → Shared → Prop} {E : Value → Shared → Prop} {s : Shared} (h : wpAny M A (execs [] env) Q E s) : wpAny M A (execs [] env) Q E s := by
  (try (walk1; fail "no"))
  w_top off
  exact h
namespace Mine
local macro_rules | `(tactic| k_ne) => `(tactic| first | exact (show Nq _ _ by with_reducible assumption) | exact Ne.symm (show Nq _ _ by with_reducible assumption) | (refine neN ?_; (try dsimp only); omega))
local macro_rules | `(tactic| k_room) => `(tactic| ((try simp only [depth_under_make, depth_under_kw, depth_in1, depth_deeper, depth_caller, ktrTop, recursionLimit] at *); omega))
local macro_rules | `(tactic| k_units) => `(tactic| ((have hcL9 := cLine_is); (try simp only [units_in1, units_deeper, Around.mark_units, units_caller, ktrTop] at *); omega))
local macro_rules | `(tactic| ktr_enter) => `(tactic| (refine' code_def ?k1 ?k2 ?k3 ?k4 ?k5 ?kA ?kF ?kK ?k6 ?k7 ?k8 ?k9 ?kB ?_ ?c2 ?c3 ?c4 ?c5; (case kA => exact rfl); (case kF => exact rfl); (case kK => first | exact rfl | assumption); (case k1 => k_asm); (case k2 => k_asm); (case k3 => k_asm); (case k4 => k_asm); (case k5 => k_asm); (case k6 => k_is); (case k7 => k_is); (case k8 => k_room); (case k9 => first | exact BindsTo.of_eq rfl | exact binds_K (by k_in) rfl (by k_is) rfl rfl rfl); (case c5 => decide); (case kB => exact locs rfl); (case c2 => exact rfl); (case c3 => exact rfl); (case c4 => exact rfl); k_whole; intro g' L' h' FG' F' N' B' X' T'; (try dsimp only); (try k_fold)))
local macro_rules | `(tactic| k_all) => `(tactic| (with_reducible assumption))
local macro_rules | `(tactic| tb_lt) => `(tactic| first | exact Pick.head | (refine' Pick.tail ?c; (case c => tb_lt)))
local macro_rules | `(tactic| tb_start) => `(tactic| first | exact Picks.nil | (refine' Picks.cons ?a ?b; (case a => tb_lt); (case b => tb_start)))
local macro_rules | `(tactic| tb_rel) => `(tactic| first | exact List.forall_mem_nil _ | (refine' List.forall_mem_cons.mpr ⟨?a, ?b⟩; (case a => k_all); (case b => tb_rel)))
local macro_rules | `(tactic| walk_at "TPost") => `(tactic| (dsimp only [TPost]))
local macro_rules | `(tactic| size_fits) => `(tactic| ((simp only [PySem.sizeLine_eq, List.size_toArray]); omega))
local macro_rules | `(tactic| k_gentoks) => `(tactic| (with_reducible refine' gen_toksP ?hp ?_; (case hp => first | omega | ((try simp only [List.length_cons]); omega)); intro tk htk))
local macro_rules | `(tactic| kstt_sub) => `(tactic| first | exact fun _ h => h | assumption | (refine' subCons ?a ?b; (case a => k_mem); (case b => kstt_sub)) | (refine' subTail ?a; (case a => kstt_sub)))
local macro_rules | `(tactic| kst_all) => `(tactic| first | exact List.forall_mem_nil _ | (refine' List.forall_mem_cons.mpr ⟨?a, ?b⟩; (case a => exact rfl); (case b => kst_all)))
local macro_rules | `(tactic| walk_at "MidEnd") => `(tactic| first
  | ((with_reducible show MidEnd _ _ _ _ _ _ _ Flow.next _); (refine' ⟨(tk8 _ _ _ _ _ _ _ _, _), _, _, _, rfl, ?F, ?N, ?ps, ?P⟩); (case F => assumption); (case N => (refine' nsub ?N1 ?N2; (case N1 => assumption); (case N2 => kstt_sub))); (case ps => kst_all); (case P => k_extra "mid"))
  | ((fail_if_success (with_reducible show MidEnd _ _ _ _ _ _ _ Flow.next _)); dsimp only [MidEnd]))
local macro_rules | `(tactic| walk_at "WEnd") => `(tactic| ((fail_if_success (with_reducible show WEnd _ _ _ _ _ _ _ _ _ Flow.next _)); dsimp only [WEnd]))
local macro_rules | `(tactic| walk_at "callWith") => `(tactic| (k_here; (with_reducible refine' callWith_method1 ?_ ?he ?hp); (case he => k_dflt rfl); (case hp => k_dflt rfl)))
local macro_rules | `(tactic| k_steps) => `(tactic| repeat' (first | (k_unfold; (try dsimp only)) | (k_end; wrow_close) | walk1 | (dsimp only [List.cons_append, List.nil_append]; walk1) | (dsimp only) | fail "no step"))
theorem kstep_ok {a : List (PySem.Str × PySem.Str)} {q : PySem.Str × PySem.Str} (h : OkP a) (hq : PyData.strOk q.1 = true ∧ PyData.strOk q.2 = true) : OkP (kstep a q) := by
  unfold kstep
  split
  · exact h
  · intro p hp
    rcases List.mem_append.mp hp with h1 | h1
    · exact h p h1
    · rw [List.mem_singleton.mp h1]; exact hq
theorem keepL_ok {prs : List (PySem.Str × PySem.Str)} (h : OkP prs) : OkP (keepL prs) := by
  have : ∀ (l : List (PySem.Str × PySem.Str)) (a : List (PySem.Str × PySem.Str)), OkP a → OkP l → OkP (l.foldl kstep a) := by
    intro l
    induction l with
    | nil => exact fun a h _ => h
    | cons q l ih => exact fun a h1 h2 => ih _ (kstep_ok h1 (h2 q (.head _))) fun p hp => h2 p (.tail _ hp)
  exact this prs [] (fun p hp => by cases hp) h
theorem law_re2 {h₀ h : Heap} {L : Addr} {a : Addr × Obj} {tl X R : List (Addr × Obj)} (N : News h₀ L h (a :: (tl ++ (X ++ R)))) (ho : ∀ p ∈ X ++ R, p.1 ≠ a.1 ∧ ∀ q ∈ tl, p.1 ≠ q.1) :
    ∃ R', R' = a :: (tl ++ R) ∧ News h₀ L h (X ++ R') ∧ ∀ x ∈ X, (∀ p ∈ R, p.1 ≠ x.1) → ∀ p ∈ R', p.1 ≠ x.1 := by
  refine ⟨a :: (tl ++ R), rfl, nsub N fun q hq => ?_, fun x hx hR => List.forall_mem_cons.mpr ⟨?_, fun p hp => ?_⟩⟩
  · rcases List.mem_append.mp hq with h | h
    · exact .tail _ (List.mem_append_right _ (List.mem_append_left _ h))
    · rcases List.mem_cons.mp h with rfl | h
      · exact .head _
      · rcases List.mem_append.mp h with h | h
        · exact .tail _ (List.mem_append_left _ h)
        · exact .tail _ (List.mem_append_right _ (List.mem_append_right _ h))
  · exact Ne.symm (ho x (List.mem_append_left _ hx)).1
  · rcases List.mem_append.mp hp with h | h
    · exact Ne.symm ((ho x (List.mem_append_left _ hx)).2 p h)
    · exact hR p h
theorem News.tl9 {h₀ h : Heap} {L : Addr} {a : Addr × Obj} {r : List (Addr × Obj)} (N : News h₀ L h (a :: r)) : ∃ r', r' = r ∧ News h₀ L h (a :: r') := ⟨r, rfl, N⟩
section
local macro_rules | `(tactic| walk_at "call ref") => `(tactic| (k_here; k_dflt (refine' TellR.use (flag_t ) ?k1 ?k2 ?k3 ?k4 ?k5 ?kK ?kp ?ko ?kd ?ku ?k0 ?_; (case k1 => k_asm); (case k2 => k_asm); (case k3 => k_asm); (case k4 => k_asm); (case k5 => k_asm); (case kK => first | exact rfl | assumption); (case kp => tb_start); (case ko => tb_rel); (case kd => k_room); (case ku => k_units); (case k0 => first | exact (show 1 ≤ _ by (try dsimp only); omega) | exact Nat.zero_le _); intro r9 f9 h9 tk9 p9 F9 N9 hP9; obtain ⟨u9, e1, e2⟩ := hP9; subst e1; subst e2; (try dsimp only [List.nil_append, List.cons_append] at N9); (try k_fold))))
local macro_rules | `(tactic| walk_at "subscriptTail") => `(tactic| (k_here; (with_reducible show wpAny _ _ (subscriptTail _ _ (Value.ref 48) (Value.str (PySem.Str.ofString "StartTag") _)) _ _ _); k_dflt (refine' tt_start ?F ?X ?_; (case F => assumption); (case X => assumption)); intro u))
theorem l_16s {w : World} {hx hd' tq lf du rw' sx sd tx td ra el nl tep dep rep kt : Nat} {κh κ κ' : Nat → Nat} {τ₀ τ₁ τ₂ τ₃ τ₄ σ₀ σ₁ : Nat} {S : SS} {bf st cv : Value} {vs qs tg us rus : List Value} {ep : Nat} {exq tgo R : List (Addr × Obj)} {ws : List PySem.Str} {prs : List (PySem.Str × PySem.Str)} {fl : Bool}
    (hT : Toks w qs exq ws) (hG : TagQ w tg tgo (some (3, Str.ofString "Étag", keepL prs, fl))) (hz : qs.length ≤ 200) (hF : Flts us R ws) (hr : Its rowObj rus R prs) (hrl : rus.length ≤ 100) (ok1 : ∀ x ∈ ws, PyData.strOk x = true) (ok2 : OkP prs) (hrem : rem S = []) (hv : Errs vs S.n) (hbf : BfV S.bo bf) (hw : WF S) (hnd : NQ6 sx sd tx td ra el) (hh : HQ hx hd' tq sx sd tx td ra el)
    (hdu : Nq du sx ∧ Nq du sd ∧ Nq du tx ∧ Nq du td ∧ Nq du ra ∧ Nq du el) (hdu2 : Nq du hx ∧ Nq du hd' ∧ Nq du tq ∧ Nq du rw') (hrw : Nq rw' sx ∧ Nq rw' sd ∧ Nq rw' tx ∧ Nq rw' td ∧ Nq rw' ra ∧ Nq rw' el)
    (hRR : ∀ p ∈ exq ++ tgo, p ∈ R) (hRd : ∀ p ∈ R, p.1 ≠ du) (hR : ∀ p ∈ R, p.1 ≠ sx ∧ p.1 ≠ sd ∧ p.1 ≠ tx ∧ p.1 ≠ td ∧ p.1 ≠ ra ∧ p.1 ≠ el) :
    LawC w 16 [(Str.ofString "t", .ref hx), (Str.ofString "due", .ref du), (Str.ofString "done", .bool true), (Str.ofString "kind", .int 3 kt), (Str.ofString "flag", .bool fl), (Str.ofString "row", .ref rw')] ((hx, instObj 762 hd') :: (hd', hdD8 w κh sx lf tq st cv) :: (tq, W.listOf (qs ++ tg).toArray tep) :: (du, W.listOf us.toArray dep) :: (rw', W.listOf rus.toArray rep) :: (stS w sx sd tx td ra el nl κ κ' τ₀ τ₁ τ₂ τ₃ τ₄ σ₀ σ₁ S bf vs ep ++ R)) := by
  unfold LawC KF PG
  k_fill
  intro mean mg mb base h₀ L fa cd m s Q E B F hps X N T hE hret
  rw [← kstB_self hps] at F
  clear hps
  dsimp only [stS, stL, List.cons_append, List.nil_append] at N
  have hdu' := hdu
  obtain ⟨d1, d2, d3, d4, d5, d6⟩ := hdu'
  obtain ⟨d7, d8, d9, d10⟩ := hdu2
  have hul : us.length ≤ 200 := by
    have h1 := hT.len
    have h2 := hF.len
    omega
  simp only [LR, recOfWalk, List.drop_succ_cons, List.drop_zero]
  (try k_fold)
  k_with_none
  repeat' (first | ((fail_if_success (with_reducible show wpAny _ _ (exec (PySem.Stmt.For _ _ _ _ _) _) _ _ _)); first | (k_unfold; (try dsimp only)) | (k_end; wrow_close) | walk1 | (dsimp only [List.cons_append, List.nil_append]; walk1) | (dsimp only) | fail "no step"))
  (rename Fr _ _ _ _ => f8)
  (rename News _ _ _ _ => n8)
  (rename hx < _ ∧ _ => l8)
  obtain ⟨kp, ekp⟩ := News.addr n8
  subst ekp
  refine' For_turns f8 ?_ ?hs ?hE
  case hs => (intro _; rfl)
  case hE => first | assumption | passes_own | with_unfolding_all passes_own
  repeat' (first | ((fail_if_success (with_reducible show wpAny _ _ (pyIter _) _ _ _)); first | (k_unfold; (try dsimp only)) | (k_end; wrow_close) | walk1 | (dsimp only [List.cons_append, List.nil_append]; walk1) | (dsimp only) | fail "no step"))
  have hrL := hr.len
  obtain ⟨RR, eRR, n8⟩ := News.tl9 n8
  have hmr : (rw', W.listOf rus.toArray rep) ∈ RR := by rw [eRR]; exact .tail _ (.tail _ (.tail _ (.tail _ (.head _))))
  have hql : Heap.IsList _ rw' rus.toArray := ⟨_, (n8 _ (.tail _ hmr)).1, rfl, _, rfl⟩
  refine' turns_list (vs := rus) (fun c : List Value × Nat × List (Addr × Obj) => (kp, W.listOf c.1.toArray c.2.1) :: c.2.2) RR (fun c => [(Str.ofString "t", .ref hx), (Str.ofString "due", .ref du), (Str.ofString "done", .bool true), (Str.ofString "kind", .int 3 kt), (Str.ofString "flag", .bool fl), (Str.ofString "row", .ref rw'), (Str.ofString "kept", .ref kp)]) [Str.ofString "name", Str.ofString "value"]
    (fun pre c => c.1.length ≤ pre.length ∧ Its rowObj c.1 c.2.2 (keepL (prs.take pre.length)) ∧ (∀ p ∈ c.2.2, p.1 ≠ kp)) ([], _, []) rfl hql (.inl ⟨_, hmr⟩) f8 ?N ?off ?hk ?hp ?turn ?done
  case N => exact n8
  case off => exact List.forall_mem_cons.mpr ⟨by rw [eRR]; exact tbn_neAll l8, List.forall_mem_nil _⟩
  case hk => kst_all
  case hp => exact ⟨Nat.zero_le _, .nil, List.forall_mem_nil _⟩
  case turn =>
    rintro ⟨ks, kep, ktl⟩ pre post v u h' tk' rest' hpre ⟨hlk, hI, ho⟩ off' sub' F' N'
    dsimp only [List.cons_append, List.nil_append] at N' F' hlk hI ho off'
    obtain ⟨R1, eR1⟩ : ∃ R1, R1 = ktl ++ rest' := ⟨_, rfl⟩
    rw [← eR1] at N'
    have hkp := off' _ (.head _)
    dsimp only at hkp
    have hRkp : ∀ p ∈ R1, p.1 ≠ kp := fun p hp => by
      rw [eR1] at hp
      exact (List.mem_append.mp hp).elim (ho p) (hkp p)
    have hv : rus[pre.length]? = some v := by rw [hpre]; simp
    have hlt : pre.length < prs.length := by rw [← hrL, hpre]; simp
    have hq : prs[pre.length]? = some prs[pre.length] := List.getElem?_eq_getElem hlt
    obtain ⟨q, eq⟩ : ∃ q, q = prs[pre.length] := ⟨_, rfl⟩
    rw [← eq] at hq
    obtain ⟨a9, t1, t2, e9, hm9⟩ := hr.at' _ _ hq
    obtain rfl : v = .ref a9 := Option.some.inj (hv.symm.trans e9)
    have hmR : (a9, rowObj q t1 t2) ∈ R1 := eR1 ▸ List.mem_append_right _ (sub' _ (by rw [eRR]; (repeat refine' List.Mem.tail _ ?_); exact hm9))
    have d20 : Nq a9 kp := hRkp _ hmR
    have N2 := ncons (p := (a9, rowObj q t1 t2)) N' (.tail _ hmR)
    have hkl : keepL (prs.take (pre.length + 1)) = kstep (keepL (prs.take pre.length)) q := by
      rw [List.take_add_one, hq]; exact keepL_snoc _ _
    clear N' f8 hql n8
    (try k_fold)
    k_with_none
    repeat' (first | ((fail_if_success (with_reducible show wpAny _ _ (eval (PySem.Expr.ListComp _ _ _ _) _) _ _ _)); first | (k_unfold; (try dsimp only)) | (k_end; wrow_close) | walk1 | (dsimp only [List.cons_append, List.nil_append]; walk1) | (dsimp only) | fail "no step"))
    (rename Fr _ _ _ _ => f9)
    (rename News _ _ _ _ => n9)
    refine' LCp.ListComp_P (x := Str.ofString "one") (x₂ := Str.ofString "other") f9 ?hclos ?hcell ?hkind ?hnames ?hx ?hx2 ?hxx ?_ ?hs9
    case hclos => with_unfolding_all rfl
    case hcell => decide
    case hkind => rfl
    case hnames => decide
    case hx => rfl
    case hx2 => rfl
    case hxx => decide
    case hs9 => (intro _; rfl)
    repeat' (first | ((fail_if_success (with_reducible show LCp.SrcLP _ _ _ _ _ _ _ _ _ _ _ _ _ _ _)); first | (k_unfold; (try dsimp only)) | (k_end; wrow_close) | walk1 | (dsimp only [List.cons_append, List.nil_append]; walk1) | (dsimp only) | fail "no step"))
    have hkz : ks.length ≤ 100 := by omega
    refine' LCp.SrcLP.ledger rfl (by assumption) (by assumption) (by k_mem) (by rw [List.size_toArray]; exact Nat.le_trans hkz (by decide)) fun hx2 => ?_
    refine' rest_names (rows := keepL (prs.take pre.length)) (by rw [List.size_toArray]; exact hI.len.symm) ?hP ?turn9 ?fin9
    case hP =>
      intro i v hv2
      have hv3 : ks[i]? = some v := by simpa using hv2
      have hil : i < (keepL (prs.take pre.length)).length := by rw [← hI.len]; exact (List.getElem?_eq_some_iff.mp hv3).1
      obtain ⟨a, u1, u2, h1, h2⟩ := hI.at' i _ (List.getElem?_eq_getElem hil)
      obtain rfl : v = .ref a := Option.some.inj (hv3.symm.trans h1)
      exact ⟨_, a, u1, u2, List.getElem?_eq_getElem hil, rfl, .tail _ (.tail _ (eR1 ▸ List.mem_append_left _ h2))⟩
    case turn9 =>
      intro q1 u1 u2 I oI C oC2 D m₂ ys h2 tk2 E2 hC2 hm2 hm3 F2 N3 off2 ne2
      repeat' (first | ((fail_if_success (with_reducible show LCg.CompEnd _ _ _ _ _ _ _ _ _ _ _ _ _ _)); first | (k_unfold; (try dsimp only)) | (k_end; wrow_close) | walk1 | (dsimp only [List.cons_append, List.nil_append]; walk1) | (dsimp only) | fail "no step"))
      exact ⟨_, _, _, rfl, (by assumption), N3, off2, .inr ⟨_, (by k_mem), rfl, _, rfl⟩, rfl, rfl⟩
    case fin9 =>
      intro ys hys D2 h2 tk2 F2 N3 off2
      simp only [LCg.Off1] at off2
      repeat' (first | ((fail_if_success (with_reducible show TEnd _ _ _ _ _ _ _)); first | (k_unfold; (try dsimp only)) | (k_end; wrow_close) | walk1 | (dsimp only [List.cons_append, List.nil_append]; walk1) | (dsimp only) | fail "no step"))
      · (rename List.any _ _ = true => hin)
        have hin' : q.1 ∈ (keepL (prs.take pre.length)).map Prod.fst := by
          obtain ⟨y, hy, e⟩ := List.any_eq_true.mp hin
          rw [← eq_of_beq e]; exact hy
        have hst : keepL (prs.take (pre.length + 1)) = keepL (prs.take pre.length) := by rw [hkl]; unfold kstep; rw [if_pos hin']
        refine' ⟨(ks, kep, ktl), _, _, _, rfl, (by assumption), ?N1, off', (by kst_all), (fun z h2 h3 => by simp only [List.forall_mem_cons] at h2; simp only [List.contains_eq_mem, decide_eq_false_iff_not, List.mem_cons, not_or] at h3; simp [h2, h3, kstB]), ?P1⟩
        case N1 => exact nsub N3 (subCons (.tail _ (.tail _ (.head _))) fun p hp => .tail _ (.tail _ (.tail _ (eR1 ▸ hp))))
        case P1 => exact ⟨by rw [List.length_append]; exact Nat.le_add_right_of_le hlk, by rw [List.length_append, List.length_singleton, hst]; exact hI, ho⟩
      · (rename List.any _ _ = false => hin)
        have hin' : ¬ q.1 ∈ (keepL (prs.take pre.length)).map Prod.fst := fun h => by
          rw [List.any_eq_false] at hin
          exact hin _ h (beq_self_eq_true _)
        have hst : keepL (prs.take (pre.length + 1)) = keepL (prs.take pre.length) ++ [q] := by rw [hkl]; unfold kstep; rw [if_neg hin']
        (rename News _ _ _ _ => n10)
        (rename D2 < _ ∧ _ => l10)
        obtain ⟨D9, eD9⟩ := News.addr n10
        subst eD9
        obtain ⟨-, z2, z3, z4⟩ := l10
        simp only [push_app] at n10
        have hr9 : AllLt D9 rest' := allLt_of fun p hp => tb_ltOf z4 p (eR1 ▸ List.mem_append_right _ hp)
        refine' ⟨(ks ++ [.ref D9], kep + 1, (D9, rowObj q t1 t2) :: ktl), _, _, _, rfl, (by assumption), ?N2, ?of2, (by kst_all), (fun z h2 h3 => by simp only [List.forall_mem_cons] at h2; simp only [List.contains_eq_mem, decide_eq_false_iff_not, List.mem_cons, not_or] at h3; simp [h2, h3, kstB]), ?P2⟩
        case N2 => exact nsub n10 (subCons (.tail _ (.tail _ (.tail _ (.head _)))) (subCons (.head _) fun p hp => .tail _ (.tail _ (.tail _ (.tail _ (eR1 ▸ hp))))))
        case of2 => exact List.forall_mem_cons.mpr ⟨hkp, List.forall_mem_cons.mpr ⟨tbn_neAll hr9, fun q hq => off' q (.tail _ hq)⟩⟩
        case P2 =>
          refine ⟨by rw [List.length_append, List.length_append]; exact Nat.add_le_add_right hlk 1, ?_, List.forall_mem_cons.mpr ⟨Nat.ne_of_gt z3, ho⟩⟩
          rw [List.length_append, List.length_singleton, hst]
          exact (hI.mono fun p hp => .tail _ hp).app (.one (.head _))
  case done =>
    rintro ⟨ks, kep, ktl⟩ u h' tk' ⟨hlk, hI, ho⟩ off' F' N'
    dsimp only [List.cons_append, List.nil_append] at N' F' hlk hI ho off'
    rw [List.take_of_length_le (by omega)] at hI
    clear f8 hql n8
    rw [eRR] at N'
    have ho2 : ∀ p ∈ RR, p.1 ≠ kp ∧ ∀ q ∈ ktl, p.1 ≠ q.1 := fun p hp => ⟨off' _ (.head _) p hp, fun q hq => off' q (.tail _ hq) p hp⟩
    rw [eRR] at ho2
    obtain ⟨R2, eR2, N2, hr2⟩ := law_re2 (X := [_, _, _, _, _, _, _, _, _, _, _]) N' ho2
    dsimp only [List.cons_append, List.nil_append] at N2
    have rd : ∀ p ∈ R2, p.1 ≠ du := hr2 (du, _) (.tail _ (.tail _ (.tail _ (.head _)))) hRd
    have r1 := hr2 (sx, _) (.tail _ (.tail _ (.tail _ (.tail _ (.tail _ (.head _)))))) fun p hp => (hR p hp).1
    have r2 := hr2 (sd, _) (.tail _ (.tail _ (.tail _ (.tail _ (.tail _ (.tail _ (.head _))))))) fun p hp => (hR p hp).2.1
    have r3 := hr2 (tx, _) (.tail _ (.tail _ (.tail _ (.tail _ (.tail _ (.tail _ (.tail _ (.head _)))))))) fun p hp => (hR p hp).2.2.1
    have r4 := hr2 (td, _) (.tail _ (.tail _ (.tail _ (.tail _ (.tail _ (.tail _ (.tail _ (.tail _ (.head _))))))))) fun p hp => (hR p hp).2.2.2.1
    have r5 := hr2 (ra, _) (.tail _ (.tail _ (.tail _ (.tail _ (.tail _ (.tail _ (.tail _ (.tail _ (.tail _ (.head _)))))))))) fun p hp => (hR p hp).2.2.2.2.1
    have r6 := hr2 (el, _) (.tail _ (.tail _ (.tail _ (.tail _ (.tail _ (.tail _ (.tail _ (.tail _ (.tail _ (.tail _ (.head _))))))))))) fun p hp => (hR p hp).2.2.2.2.2
    have hR2 : ∀ p ∈ R, p ∈ R2 := fun p hp => by rw [eR2]; exact .tail _ (List.mem_append_right _ hp)
    clear N' hr2 ho2 off'
    (try k_fold)
    k_with_none
    repeat' (first | ((fail_if_success (with_reducible show wpAny _ _ (execs (PySem.Stmt.Return _ _ :: []) _) _ _ _)); first | (k_unfold; (try dsimp only)) | (k_end; wrow_close) | walk1 | (dsimp only [List.cons_append, List.nil_append]; walk1) | (dsimp only) | fail "no step"))
    (try dsimp only)
    (rename Fr _ _ _ _ => f9)
    (rename News _ _ _ _ => n9)
    (rename hx < _ ∧ _ => z1)
    obtain ⟨D9, e1⟩ := News.addr n9
    subst e1
    obtain ⟨-, -, -, -, -, y1, y2, y3, y4, y5, y6, -⟩ := z1
    simp only [push_app] at n9
    refine' LawC.use (l_ret (du := du) (qs := qs) (tg := tg) (us := us) (tg2 := [.ref D9]) (exq := exq) (tgo := tgo) (R := (D9, tagObj 3 (Str.ofString "Étag") kp fl _ _ _) :: (rw', W.listOf rus.toArray rep) :: R2) hT hG hz ?fl ?tg ok1 ⟨etag_ok, keepL_ok ok2⟩ hrem hv hbf hw hnd hh hdu ?rr ?ra) n9 ?ts f9 ?tps B X T hE ?tret
    case ts =>
      dsimp only [stS, stL, List.cons_append, List.nil_append]
      kstt_sub
    case fl => exact hF.mono fun p hp => .tail _ (.tail _ (hR2 p hp))
    case tg => exact ⟨D9, kp, _, _, _, _, ks, rfl, .head _, .tail _ (.tail _ (by rw [eR2]; exact .head _)), hI.mono fun p hp => .tail _ (.tail _ (by rw [eR2]; exact .tail _ (List.mem_append_left _ hp)))⟩
    case rr => exact fun p hp => .tail _ (.tail _ (hR2 p (hRR p hp)))
    case ra =>
      refine List.forall_mem_cons.mpr ⟨⟨Nat.ne_of_gt y1, Nat.ne_of_gt y2, Nat.ne_of_gt y3, Nat.ne_of_gt y4, Nat.ne_of_gt y5, Nat.ne_of_gt y6⟩, List.forall_mem_cons.mpr ⟨hrw, fun p hp => ⟨r1 p hp, r2 p hp, r3 p hp, r4 p hp, r5 p hp, r6 p hp⟩⟩⟩
    case tps => kst_all
    case tret => exact fun h' tk' m' hF => hret h' tk' m' hF
end
end Mine
namespace Mine
/-! a loop over range(n) -/
section
variable {prog : Program} {w : World} {A : Around} {E : Value → Shared → Prop} {s : Shared} {env : Env} {h₀ : Heap} {x : PySem.Str} {body : List Stmt} {Q : Flow → Shared → Prop}
theorem range_loop {σ : Type} {r : Addr} {n : Nat} {t u v : Tok} {m₀ : PySem.Str → Option Value} (front : σ → List (Addr × Obj)) (rest : List (Addr × Obj)) (J : Nat → σ → (PySem.Str → Option Value) → Prop) (c₀ : σ)
    (hh : A.handled = none) (hr : IsRange s.heap r 0 (n : Int) 1 t u v) (hn : n ≤ 100000) (F : Fr h₀ env.locals s.heap m₀) (N : News h₀ env.locals s.heap (front c₀ ++ rest)) (off : ∀ q ∈ front c₀, ∀ p ∈ rest, p.1 ≠ q.1) (hj : J 0 c₀ m₀)
    (turn : ∀ i t c m₁ h tk rest', i < n → J i c m₁ → (∀ q ∈ front c, ∀ p ∈ rest', p.1 ≠ q.1) → (∀ p ∈ rest, p ∈ rest') → Fr h₀ env.locals h (fun y => if y = x then some (.int (i : Int) t) else m₁ y) → News h₀ env.locals h (front c ++ rest') →
      wpAny (model prog w) A (execs body env) (TPost h₀ env.locals front (J (i + 1)) rest' { s with heap := h, toks := tk } Q) E { s with heap := h, toks := tk })
    (done : ∀ c m₁ h tk, J n c m₁ → (∀ q ∈ front c, ∀ p ∈ rest, p.1 ≠ q.1) → Fr h₀ env.locals h m₁ → News h₀ env.locals h (front c ++ rest) → Q .next { s with heap := h, toks := tk }) :
    wpAny (model prog w) A (pyIter (.ref r)) (fun it s₂ => LoopAtV prog w A h₀ env x body Q E it s₂) E s := by
  have hI : ∀ q ∈ front c₀ ++ rest, q.1 ≠ s.heap.objs.size := fun q hq e => absurd (Heap.lt_size (N q hq).1) (e ▸ Nat.lt_irrefl _)
  have hz : Builtin.Range.rangeSize 0 (n : Int) 1 = (n : Int) := by
    rw [rangeSize_one]
    split <;> omega
  refine wpAny_pyIter_range hr (small_one (by omega) (by omega) (by omega) (by omega)) ?_
  have W := LCg.range_walks (prog := prog) (w := w) (I := s.heap.objs.size) hh 0 n
  refine loop_gen front rest J c₀ W ?_ ?_ ?_ ?_ (F.push _) (fun p hp => ⟨Heap.get?_push_of_some _ (N p hp).1, (N p hp).2⟩) ?_ ?_ off hj ?_ ?_
  · intro hm
    exact absurd F.ns.lt ((List.mem_singleton.mp hm) ▸ Nat.lt_irrefl _)
  · intro b' hb
    rw [List.mem_singleton.mp hb]
    exact next_is_new F
  · intro i h hs b hb
    rw [List.mem_singleton.mp hb]
    exact ⟨_, hs⟩
  · rw [hz]
    simpa using Heap.get?_push_size s.heap rfl
  · intro q hq hf
    exact hI q (List.mem_append_left _ hq) (List.mem_singleton.mp hf)
  · intro q hq hf
    exact hI q (List.mem_append_right _ hq) (List.mem_singleton.mp hf)
  · rintro i v c m₁ h tk rest' hi ⟨t, rfl⟩ hJ off' sub' F₁ N₁
    rw [Int.zero_add] at F₁
    exact turn i t c m₁ h tk rest' hi hJ off' sub' F₁ N₁
  · exact done
end
end Mine
theorem Mine.off_u6 {M : Model} {A : Around} {env : Env} {Q : Flow → Shared → Prop} {E : Value → Shared → Prop} {s : Shared} (h : wpAny M A (execs [] env) Q E s) : wpAny M A (execs [] env) Q E s := by
  (try (walk1; fail "no"))
  w_top off
  exact h
namespace Mine
local macro_rules | `(tactic| k_ne) => `(tactic| first | exact (show Nq _ _ by with_reducible assumption) | exact Ne.symm (show Nq _ _ by with_reducible assumption) | (refine neN ?_; (try dsimp only); omega))
local macro_rules | `(tactic| k_room) => `(tactic| ((try simp only [depth_under_make, depth_under_kw, depth_in1, depth_deeper, depth_caller, ktrTop, recursionLimit] at *); omega))
local macro_rules | `(tactic| k_units) => `(tactic| ((have hcL9 := cLine_is); (try simp only [units_in1, units_deeper, Around.mark_units, units_caller, ktrTop] at *); omega))
local macro_rules | `(tactic| ktr_enter) => `(tactic| (refine' code_def ?k1 ?k2 ?k3 ?k4 ?k5 ?kA ?kF ?kK ?k6 ?k7 ?k8 ?k9 ?kB ?_ ?c2 ?c3 ?c4 ?c5; (case kA => exact rfl); (case kF => exact rfl); (case kK => first | exact rfl | assumption); (case k1 => k_asm); (case k2 => k_asm); (case k3 => k_asm); (case k4 => k_asm); (case k5 => k_asm); (case k6 => k_is); (case k7 => k_is); (case k8 => k_room); (case k9 => first | exact BindsTo.of_eq rfl | exact binds_K (by k_in) rfl (by k_is) rfl rfl rfl); (case c5 => decide); (case kB => exact locs rfl); (case c2 => exact rfl); (case c3 => exact rfl); (case c4 => exact rfl); k_whole; intro g' L' h' FG' F' N' B' X' T'; (try dsimp only); (try k_fold)))
local macro_rules | `(tactic| k_all) => `(tactic| (with_reducible assumption))
local macro_rules | `(tactic| tb_lt) => `(tactic| first | exact Pick.head | (refine' Pick.tail ?c; (case c => tb_lt)))
local macro_rules | `(tactic| tb_start) => `(tactic| first | exact Picks.nil | (refine' Picks.cons ?a ?b; (case a => tb_lt); (case b => tb_start)))
local macro_rules | `(tactic| tb_rel) => `(tactic| first | exact List.forall_mem_nil _ | (refine' List.forall_mem_cons.mpr ⟨?a, ?b⟩; (case a => k_all); (case b => tb_rel)))
local macro_rules | `(tactic| walk_at "TPost") => `(tactic| (dsimp only [TPost]))
local macro_rules | `(tactic| size_fits) => `(tactic| ((simp only [PySem.sizeLine_eq, List.size_toArray]); omega))
local macro_rules | `(tactic| k_gentoks) => `(tactic| (with_reducible refine' gen_toksP ?hp ?_; (case hp => first | omega | ((try simp only [List.length_cons]); omega)); intro tk htk))
local macro_rules | `(tactic| kstt_sub) => `(tactic| first | exact fun _ h => h | assumption | (refine' subCons ?a ?b; (case a => k_mem); (case b => kstt_sub)) | (refine' subTail ?a; (case a => kstt_sub)))
local macro_rules | `(tactic| kst_all) => `(tactic| first | exact List.forall_mem_nil _ | (refine' List.forall_mem_cons.mpr ⟨?a, ?b⟩; (case a => exact rfl); (case b => kst_all)))
local macro_rules | `(tactic| walk_at "MidEnd") => `(tactic| first
  | ((with_reducible show MidEnd _ _ _ _ _ _ _ Flow.next _); (refine' ⟨(tk8 _ _ _ _ _ _ _ _, _), _, _, _, rfl, ?F, ?N, ?ps, ?P⟩); (case F => assumption); (case N => (refine' nsub ?N1 ?N2; (case N1 => assumption); (case N2 => kstt_sub))); (case ps => kst_all); (case P => k_extra "mid"))
  | ((fail_if_success (with_reducible show MidEnd _ _ _ _ _ _ _ Flow.next _)); dsimp only [MidEnd]))
local macro_rules | `(tactic| walk_at "WEnd") => `(tactic| ((fail_if_success (with_reducible show WEnd _ _ _ _ _ _ _ _ _ Flow.next _)); dsimp only [WEnd]))
local macro_rules | `(tactic| walk_at "callWith") => `(tactic| (k_here; (with_reducible refine' callWith_method1 ?_ ?he ?hp); (case he => k_dflt rfl); (case hp => k_dflt rfl)))
local macro_rules | `(tactic| k_steps) => `(tactic| repeat' (first | (k_unfold; (try dsimp only)) | (k_end; wrow_close) | walk1 | (dsimp only [List.cons_append, List.nil_append]; walk1) | (dsimp only) | fail "no step"))
/-! the body of the law's loop, in pieces -/
def forBody : List Stmt → List Stmt
  | .For _ _ b _ _ :: _ => b
  | _ => []
noncomputable abbrev LB : List Stmt := forBody (LR.body.drop 15)
/-- from the body's n-th statement on the flow goes on, and Post holds of what then stands -/
def BodyC (w : World) (n : Nat) (ps : List (PySem.Str × Value)) (led : List (Addr × Obj)) (Post : (PySem.Str → Option Value) → List (Addr × Obj) → Prop) : Prop :=
  ∀ (mean : ExcName → Option Value) (mg mb : PySem.Str → Option Value) (base h₀ : Heap) (L fa : Addr) (cd : Value) (m : PySem.Str → Option Value) (s : Shared) (Q : Flow → Shared → Prop) (E : Value → Shared → Prop),
    Below callerA base [] h₀ → Fr h₀ L s.heap m → (∀ p ∈ ps, m p.1 = some p.2) → (KF w).In h₀ → News h₀ L s.heap led → Top VW LZ mean mg mb h₀ → PassesOwn (model PG w) (callerA.deeper (envOfC (Str.ofString "law") LR.scope L fa cd)) (envOfC (Str.ofString "law") LR.scope L fa cd) E →
    (∀ h' tk' m' news', Fr h₀ L h' m' → News h₀ L h' news' → Post m' news' → Q .next { s with heap := h', toks := tk' }) →
    wpAny (model PG w) (callerA.deeper (envOfC (Str.ofString "law") LR.scope L fa cd)) (execs (LB.drop n) (envOfC (Str.ofString "law") LR.scope L fa cd)) Q E s
theorem BodyC.use {w : World} {n : Nat} {ps : List (PySem.Str × Value)} {led news : List (Addr × Obj)} {Post : (PySem.Str → Option Value) → List (Addr × Obj) → Prop} (hT : BodyC w n ps led Post) {mean : ExcName → Option Value} {mg mb : PySem.Str → Option Value} {base h₀ : Heap} {L fa : Addr} {cd : Value} {m : PySem.Str → Option Value} {s : Shared} {Q : Flow → Shared → Prop} {E : Value → Shared → Prop}
    (N : News h₀ L s.heap news) (hs : ∀ p ∈ led, p ∈ news) (F : Fr h₀ L s.heap m) (hps : ∀ p ∈ ps, m p.1 = some p.2) (B : Below callerA base [] h₀) (X : (KF w).In h₀) (T : Top VW LZ mean mg mb h₀) (hE : PassesOwn (model PG w) (callerA.deeper (envOfC (Str.ofString "law") LR.scope L fa cd)) (envOfC (Str.ofString "law") LR.scope L fa cd) E)
    (hret : ∀ h' tk' m' news', Fr h₀ L h' m' → News h₀ L h' news' → Post m' news' → Q .next { s with heap := h', toks := tk' }) :
    wpAny (model PG w) (callerA.deeper (envOfC (Str.ofString "law") LR.scope L fa cd)) (execs (LB.drop n) (envOfC (Str.ofString "law") LR.scope L fa cd)) Q E s :=
  hT mean mg mb base h₀ L fa cd m s Q E B F hps X (nsub N hs) T hE hret
/-- the same, where tokens are known to have begun -/
def BodyT (w : World) (n : Nat) (ps : List (PySem.Str × Value)) (led : List (Addr × Obj)) (Post : (PySem.Str → Option Value) → List (Addr × Obj) → Prop) : Prop :=
  ∀ (mean : ExcName → Option Value) (mg mb : PySem.Str → Option Value) (base h₀ : Heap) (L fa : Addr) (cd : Value) (m : PySem.Str → Option Value) (s : Shared) (Q : Flow → Shared → Prop) (E : Value → Shared → Prop),
    Below callerA base [] h₀ → Fr h₀ L s.heap m → (∀ p ∈ ps, m p.1 = some p.2) → (KF w).In h₀ → News h₀ L s.heap led → Top VW LZ mean mg mb h₀ → PassesOwn (model PG w) (callerA.deeper (envOfC (Str.ofString "law") LR.scope L fa cd)) (envOfC (Str.ofString "law") LR.scope L fa cd) E → 1 ≤ s.toks →
    (∀ h' tk' m' news', Fr h₀ L h' m' → News h₀ L h' news' → Post m' news' → Q .next { s with heap := h', toks := tk' }) →
    wpAny (model PG w) (callerA.deeper (envOfC (Str.ofString "law") LR.scope L fa cd)) (execs (LB.drop n) (envOfC (Str.ofString "law") LR.scope L fa cd)) Q E s
theorem BodyT.use {w : World} {n : Nat} {ps : List (PySem.Str × Value)} {led news : List (Addr × Obj)} {Post : (PySem.Str → Option Value) → List (Addr × Obj) → Prop} (hT : BodyT w n ps led Post) {mean : ExcName → Option Value} {mg mb : PySem.Str → Option Value} {base h₀ : Heap} {L fa : Addr} {cd : Value} {m : PySem.Str → Option Value} {s : Shared} {Q : Flow → Shared → Prop} {E : Value → Shared → Prop}
    (N : News h₀ L s.heap news) (hs : ∀ p ∈ led, p ∈ news) (F : Fr h₀ L s.heap m) (hps : ∀ p ∈ ps, m p.1 = some p.2) (B : Below callerA base [] h₀) (X : (KF w).In h₀) (T : Top VW LZ mean mg mb h₀) (hE : PassesOwn (model PG w) (callerA.deeper (envOfC (Str.ofString "law") LR.scope L fa cd)) (envOfC (Str.ofString "law") LR.scope L fa cd) E) (htk : 1 ≤ s.toks)
    (hret : ∀ h' tk' m' news', Fr h₀ L h' m' → News h₀ L h' news' → Post m' news' → Q .next { s with heap := h', toks := tk' }) :
    wpAny (model PG w) (callerA.deeper (envOfC (Str.ofString "law") LR.scope L fa cd)) (execs (LB.drop n) (envOfC (Str.ofString "law") LR.scope L fa cd)) Q E s :=
  hT mean mg mb base h₀ L fa cd m s Q E B F hps X (nsub N hs) T hE htk hret
theorem with_toksQ {α : Type} {M : Model} {A : Around} {s : Shared} {t : Sem α} {Q : α → Shared → Prop} {E : Value → Shared → Prop} {n : Nat} (hn : n ≤ s.toks) (h : wpAny M A t (fun a s' => n ≤ s'.toks → Q a s') E s) : wpAny M A t Q E s :=
  wpAny_mono (wpAny_toks_of hn h) (fun _ _ x => x.2 x.1) (fun _ _ x => x.2)
theorem Picks.self {r : List (Addr × Obj)} : ∀ f : List (Addr × Obj), Picks f (f ++ r) r
  | [] => .nil
  | _ :: f => .cons .head (Picks.self f)
section
theorem b3 {w : World} {hx hd' D dt : Nat} {O R f : List (Addr × Obj)} {Stt : Nat → List (Addr × Obj) → Prop} {ps : List (PySem.Str × Value)} {Post : (PySem.Str → Option Value) → List (Addr × Obj) → Prop}
    (hform : ∀ j f, j ≤ D → Stt j f → ∃ (κh : Nat → Nat) (sx lf tq : Nat) (st cv : Value) (f2 : List (Addr × Obj)), f = (hx, instObj 762 hd') :: (hd', hdD8 w κh sx lf tq st cv) :: f2)
    (hcall : ∀ j f, j ≤ D → Stt j f → TellO w 20 200 (.ref 542) [.ref hx] O f (fun r f' rest => r = .bool true ∧ Stt (j + 1) f' ∧ ∀ q ∈ f', ∀ p ∈ rest, p.1 ≠ q.1))
    (hD : D ≤ 2000) (hO : ∀ q ∈ O, q ∈ R) (off : ∀ q ∈ f, ∀ p ∈ R, p.1 ≠ q.1) (h0 : Stt 0 f) (hp1 : (Str.ofString "t", Value.ref hx) ∈ ps) (hp2 : (Str.ofString "deeds", Value.int (D : Nat) dt) ∈ ps) (hp3 : ∀ p ∈ ps, p.1 ≠ Str.ofString "_")
    (hnext : ∀ f', Stt (D + 1) f' → (∀ q ∈ f', ∀ p ∈ R, p.1 ≠ q.1) → BodyT w 4 ps (f' ++ R) Post) :
    BodyT w 3 ps (f ++ R) Post := by
  unfold BodyT KF PG
  k_fill
  intro mean mg mb base h₀ L fa cd m s Q E B F hps X N T hE htk hret
  have mt := hps _ hp1
  have md := hps _ hp2
  have F1 : Fr h₀ L s.heap (kstB m [(Str.ofString "t", .ref hx), (Str.ofString "deeds", .int (D : Nat) dt)]) := by
    rw [kstB_self (List.forall_mem_cons.mpr ⟨mt, List.forall_mem_cons.mpr ⟨md, List.forall_mem_nil _⟩⟩)]; exact F
  simp only [LB, forBody, LR, recOfWalk, List.drop_succ_cons, List.drop_zero]
  (try k_fold)
  k_with_none
  repeat' (first | ((fail_if_success (with_reducible show wpAny _ _ (exec (PySem.Stmt.For _ _ _ _ _) _) _ _ _)); first | (k_unfold; (try dsimp only)) | (k_end; wrow_close) | walk1 | (dsimp only [List.cons_append, List.nil_append]; walk1) | (dsimp only) | fail "no step"))
  refine with_toksQ (n := 1) htk ?_
  refine' For_invVF ?F ?k1 ?k2 ?_ ?k3 ?k4
  case F => exact F1
  case k1 => rfl
  case k2 => rfl
  case k3 => (intro _; rfl)
  case k4 => first | assumption | passes_own | with_unfolding_all passes_own
  repeat' (first | ((fail_if_success (with_reducible show wpAny _ _ (pyIter _) _ _ _)); first | (k_unfold; (try dsimp only)) | (k_end; wrow_close) | walk1 | (dsimp only [List.cons_append, List.nil_append]; walk1) | (dsimp only) | fail "no step"))
  (rename IsRange _ _ _ _ _ _ _ _ => hr9)
  (rename Fr _ _ _ _ => f8)
  (rename News _ _ _ _ => n8)
  refine' range_loop (n := D + 1) (fun c : List (Addr × Obj) => c) R (fun i c m1 => Stt i c ∧ ∀ p ∈ ps, m1 p.1 = some p.2) f rfl (by rw [show ((D + 1 : Nat) : Int) = (D : Int) + 1 from rfl]; exact hr9) (by omega) f8 n8 off ⟨h0, ?hn0⟩ ?turn ?done
  case hn0 =>
    rw [kstB_self (List.forall_mem_cons.mpr ⟨mt, List.forall_mem_cons.mpr ⟨md, List.forall_mem_nil _⟩⟩)]
    exact hps
  case turn =>
    intro i t c m₁ h tk rest' hi ⟨hSt, hps1⟩ off' sub' F2 N2
    obtain ⟨κh, sx, lf, tq, st, cv, f2, rfl⟩ := hform i c (by omega) hSt
    obtain ⟨m3, em3⟩ : ∃ m3 : PySem.Str → Option Value, m3 = fun y => if y = Str.ofString "_" then some (.int (i : Int) t) else m₁ y := ⟨_, rfl⟩
    have hps3 : ∀ p ∈ ps, m3 p.1 = some p.2 := fun p hp => by
      rw [em3]
      show (if p.1 = Str.ofString "_" then _ else m₁ p.1) = _
      rw [if_neg (hp3 p hp)]
      exact hps1 p hp
    have F3 : Fr h₀ L h (kstB m3 [(Str.ofString "t", .ref hx)]) := by
      rw [kstB_self (List.forall_mem_cons.mpr ⟨hps3 _ hp1, List.forall_mem_nil _⟩), em3]; exact F2
    clear F2 f8 n8 hr9
    dsimp only [List.cons_append] at N2
    (try k_fold)
    k_with_none
    repeat' (first | ((fail_if_success (with_reducible show wpAny _ _ (call (Value.ref 542) _) _ _ _)); first | (k_unfold; (try dsimp only)) | (k_end; wrow_close) | walk1 | (dsimp only [List.cons_append, List.nil_append]; walk1) | (dsimp only) | fail "no step"))
    refine' TellO.use (hcall i _ (by omega) hSt) ?b1 ?b2 ?b3 ?b4 ?b5 ?bK ?bp ?bO ?bo ?bd ?bu ?b0 ?_
    case b1 => k_asm
    case b2 => k_asm
    case b3 => k_asm
    case b4 => k_asm
    case b5 => k_asm
    case bK => rfl
    case bp => exact Picks.self ((hx, instObj 762 hd') :: (hd', hdD8 w κh sx lf tq st cv) :: f2)
    case bO => exact fun q hq => sub' q (hO q hq)
    case bo => exact off'
    case bd => k_room
    case bu => k_units
    case b0 => exact Nat.zero_le _
    rintro r9 f9 h9 tk9 p9 F9 N9 ⟨rfl, hSt9, off9⟩
    clear N2 F3
    repeat' (first | ((fail_if_success (with_reducible show TEnd _ _ _ _ _ _ _)); first | (k_unfold; (try dsimp only)) | (k_end; wrow_close) | walk1 | (dsimp only [List.cons_append, List.nil_append]; walk1) | (dsimp only) | fail "no step"))
    refine' ⟨f9, _, _, _, rfl, (by assumption), (by assumption), off9, hSt9, ?ps9⟩
    rw [kstB_self (List.forall_mem_cons.mpr ⟨hps3 _ hp1, List.forall_mem_nil _⟩)]
    exact hps3
  case done =>
    intro c m₁ h tk ⟨hSt, hps1⟩ off' F2 N2
    dsimp only
    intro htk2
    refine' BodyT.use (hnext c hSt off') N2 (fun _ h => h) F2 hps1 B X T hE htk2 ?ret
    exact fun h' tk' m' news' hF hN hP => hret h' tk' m' news' hF hN hP
end
end Mine
theorem Mine.off_f2 {M : Model} {A : Around} {env : Env} {Q : Flow → Shared → Prop} {E : Value → Shared → Prop} {s : Shared} (h : wpAny M A (execs [] env) Q E s) : wpAny M A (execs [] env) Q E s := by
  (try (walk1; fail "no"))
  w_top off
  exact h
namespace Mine
local macro_rules | `(tactic| k_ne) => `(tactic| first | exact (show Nq _ _ by with_reducible assumption) | exact Ne.symm (show Nq _ _ by with_reducible assumption) | (refine neN ?_; (try dsimp only); omega))
local macro_rules | `(tactic| k_room) => `(tactic| ((try simp only [depth_under_make, depth_under_kw, depth_in1, depth_deeper, depth_caller, ktrTop, recursionLimit] at *); omega))
local macro_rules | `(tactic| k_units) => `(tactic| ((have hcL9 := cLine_is); (try simp only [units_in1, units_deeper, Around.mark_units, units_caller, ktrTop] at *); omega))
local macro_rules | `(tactic| ktr_enter) => `(tactic| (refine' code_def ?k1 ?k2 ?k3 ?k4 ?k5 ?kA ?kF ?kK ?k6 ?k7 ?k8 ?k9 ?kB ?_ ?c2 ?c3 ?c4 ?c5; (case kA => exact rfl); (case kF => exact rfl); (case kK => first | exact rfl | assumption); (case k1 => k_asm); (case k2 => k_asm); (case k3 => k_asm); (case k4 => k_asm); (case k5 => k_asm); (case k6 => k_is); (case k7 => k_is); (case k8 => k_room); (case k9 => first | exact BindsTo.of_eq rfl | exact binds_K (by k_in) rfl (by k_is) rfl rfl rfl); (case c5 => decide); (case kB => exact locs rfl); (case c2 => exact rfl); (case c3 => exact rfl); (case c4 => exact rfl); k_whole; intro g' L' h' FG' F' N' B' X' T'; (try dsimp only); (try k_fold)))
local macro_rules | `(tactic| k_all) => `(tactic| (with_reducible assumption))
local macro_rules | `(tactic| tb_lt) => `(tactic| first | exact Pick.head | (refine' Pick.tail ?c; (case c => tb_lt)))
local macro_rules | `(tactic| tb_start) => `(tactic| first | exact Picks.nil | (refine' Picks.cons ?a ?b; (case a => tb_lt); (case b => tb_start)))
local macro_rules | `(tactic| tb_rel) => `(tactic| first | exact List.forall_mem_nil _ | (refine' List.forall_mem_cons.mpr ⟨?a, ?b⟩; (case a => k_all); (case b => tb_rel)))
local macro_rules | `(tactic| walk_at "TPost") => `(tactic| (dsimp only [TPost]))
local macro_rules | `(tactic| size_fits) => `(tactic| ((simp only [PySem.sizeLine_eq, List.size_toArray]); omega))
local macro_rules | `(tactic| k_gentoks) => `(tactic| (with_reducible refine' gen_toksP ?hp ?_; (case hp => first | omega | ((try simp only [List.length_cons]); omega)); intro tk htk))
local macro_rules | `(tactic| kstt_sub) => `(tactic| first | exact fun _ h => h | assumption | (refine' subCons ?a ?b; (case a => k_mem); (case b => kstt_sub)) | (refine' subTail ?a; (case a => kstt_sub)))
local macro_rules | `(tactic| kst_all) => `(tactic| first | exact List.forall_mem_nil _ | (refine' List.forall_mem_cons.mpr ⟨?a, ?b⟩; (case a => exact rfl); (case b => kst_all)))
local macro_rules | `(tactic| walk_at "MidEnd") => `(tactic| first
  | ((with_reducible show MidEnd _ _ _ _ _ _ _ Flow.next _); (refine' ⟨(tk8 _ _ _ _ _ _ _ _, _), _, _, _, rfl, ?F, ?N, ?ps, ?P⟩); (case F => assumption); (case N => (refine' nsub ?N1 ?N2; (case N1 => assumption); (case N2 => kstt_sub))); (case ps => kst_all); (case P => k_extra "mid"))
  | ((fail_if_success (with_reducible show MidEnd _ _ _ _ _ _ _ Flow.next _)); dsimp only [MidEnd]))
local macro_rules | `(tactic| walk_at "WEnd") => `(tactic| ((fail_if_success (with_reducible show WEnd _ _ _ _ _ _ _ _ _ Flow.next _)); dsimp only [WEnd]))
local macro_rules | `(tactic| walk_at "callWith") => `(tactic| (k_here; (with_reducible refine' callWith_method1 ?_ ?he ?hp); (case he => k_dflt rfl); (case hp => k_dflt rfl)))
local macro_rules | `(tactic| k_steps) => `(tactic| repeat' (first | (k_unfold; (try dsimp only)) | (k_end; wrow_close) | walk1 | (dsimp only [List.cons_append, List.nil_append]; walk1) | (dsimp only) | fail "no step"))
section
local macro_rules | `(tactic| walk_at "ite") => `(tactic| (k_here; first | (refine if_yes ?a ?_; (case a => with_reducible assumption)) | (refine if_no ?a ?_; (case a => with_reducible assumption))))
local macro_rules | `(tactic| walk_at "compareOp In") => `(tactic| (k_here; (with_reducible show wpAny _ _ (compareOp CmpOp.In (Value.str _ _) (Value.ref 27)) _ _ _); k_dflt (refine' in_letters ?f ?x ?_; (case f => assumption); (case x => assumption))))
local macro_rules | `(tactic| walk_at "compareOp In") => `(tactic| (k_here; (with_reducible show wpAny _ _ (compareOp CmpOp.In (Value.str _ _) (Value.ref 22)) _ _ _); k_dflt (refine' in_spaces ?f ?x ?_; (case f => assumption); (case x => assumption))))
local macro_rules | `(tactic| walk_at "subscriptTail") => `(tactic| (k_here; (try dsimp only); (with_reducible show wpAny _ _ (subscriptTail _ _ (Value.ref _) (Value.int _ _)) _ _ _); k_dflt (refine' item_last_t ?N ?hm ?hv ?_; (case N => assumption); (case hm => k_mem); (case hv => exact back_snoc))))
local macro_rules | `(tactic| walk_at "getItem ref int") => `(tactic| (k_here; (try dsimp only); (with_reducible show wpAny _ _ (getItem (Value.ref _) (Value.int _ _)) _ _ _); k_dflt (refine' getItem_at ?N ?hm ?h0 ?hk ?hv ?_; (case N => assumption); (case hm => k_mem); (case h0 => decide); (case hk => decide); (case hv => rfl))))
local macro_rules | `(tactic| walk_at "call ref") => `(tactic| (k_here; k_dflt (refine' TellR.use (char_s ?a1 ?a2 ?a3 ?a4) ?k1 ?k2 ?k3 ?k4 ?k5 ?kK ?kp ?ko ?kd ?ku ?k0 ?_; (case k1 => k_asm); (case k2 => k_asm); (case k3 => k_asm); (case k4 => k_asm); (case k5 => k_asm); (case kK => first | exact rfl | assumption); (case kp => tb_start); (case ko => tb_rel); (case a1 => assumption); (case a2 => assumption); (case a3 => assumption); (case a4 => assumption); (case kd => k_room); (case ku => k_units); (case k0 => first | exact (show 1 ≤ _ by (try dsimp only); omega) | exact Nat.zero_le _); intro r9 f9 h9 tk9 p9 F9 N9 hP9; obtain ⟨S2, a0, a1, a2, a3, a4, b0, b1, bv2, vs2, ep2, hr2, hrem2, hw2, htot2, hpos2, hsuf2, hcl2, hb2, hv2, e2⟩ := hP9; subst e2; dsimp only [stS, stL, List.cons_append, List.nil_append] at N9; k_extra "ch"; (try dsimp only [List.nil_append, List.cons_append] at N9); (try k_fold))))
theorem attr_O {w : World} {hx hd' tq lf sx sd tx td ra el nl ct dl p : Nat} {κh κ κ' : Nat → Nat} {τ₀ τ₁ τ₂ τ₃ τ₄ σ₀ σ₁ : Nat} {S : SS} {bf st : Value} {vs qs us : List Value} {ep tep dep pep k1 k2 t1 t2 kd : Nat} {oC : Obj} {nmT nm val : PySem.Str} {fl : Bool} {c : Nat} {r : List Nat}
    (hc : rem S = c :: r) (h1 : ((⟨#[c]⟩ : PySem.Str) == PySem.Str.ofString "=") = false) (h2 : decide (c ∈ letC) = false) (h3 : ((⟨#[c]⟩ : PySem.Str) == PySem.Str.ofString ">") = false) (h4 : decide (c ∈ spcC) = false) (h5 : ((⟨#[c]⟩ : PySem.Str) == PySem.Str.ofString "/") = false) (h6 : ((⟨#[c]⟩ : PySem.Str) == PySem.Str.ofString "\x00") = false) (h7 : ([PySem.Str.ofString "'", PySem.Str.ofString "\"", PySem.Str.ofString "<"].any fun x => x == (⟨#[c]⟩ : PySem.Str)) = false)
    (hD : oC.IsDictOf (PySem.strKind PG w) (ctRows kd k1 nmT k2 dl fl)) (hs : ((ct : Addr) == sysModules) = false)
    (hv : Errs vs S.n) (hbf : BfV S.bo bf) (hw : WF S) (hqs : qs.length ≤ 1000) (hus : us.length ≤ 1000) (hnm : nm.length ≤ 1000) (hnd : NQ6 sx sd tx td ra el) (hh : HQ hx hd' tq sx sd tx td ra el) (hq : AQ hx hd' tq ct dl p sx sd tx td ra el) :
    TellR w 20 200 (.ref 542) [.ref hx] (atF w hx hd' tq lf ct dl p sx sd tx td ra el nl κh κ κ' τ₀ τ₁ τ₂ τ₃ τ₄ σ₀ σ₁ S bf vs ep st qs tep oC us dep nm val t1 t2 pep)
      (fun rv f' rest => rv = .bool true ∧ ∃ (S' : SS) (a0 a1 a2 a3 a4 b0 b1 : Nat) (bv : Value) (vs' : List Value) (ep' te' pep' t1' : Nat) (nm' : PySem.Str) (refs : List Value) (ex : List (Addr × Obj)), nm'.cps.toList = nm.cps.toList ++ [c] ∧ rem S' = r ∧ WF S' ∧ BfV S'.bo bv ∧ Errs vs' S'.n ∧ Toks w refs ex [] ∧
        (∀ q ∈ ex, FreshA hx hd' tq ct dl p sx sd tx td ra el rest q.1) ∧ f' = atF w hx hd' tq lf ct dl p sx sd tx td ra el nl κh κ κ' a0 a1 a2 a3 a4 b0 b1 S' bv vs' ep' st (qs ++ refs) te' oC us dep nm' val t1' t2 pep' ++ ex) := by
  have hq0 := hnd
  unfold NQ6 at hq0
  obtain ⟨q1, q2, q3, q4, q5, q6, q7, q8, q9, q10, q11, q12, q13, q14, q15⟩ := hq0
  unfold HQ at hh
  obtain ⟨g1, g2, g3, g4, g5, g6, g7, g8, g9, g10, g11, g12, g13, g14, g15, g16, g17, g18, g19, g20, g21⟩ := hh
  unfold AQ at hq
  obtain ⟨⟨u1, u2, u3, u4, u5, u6, u7, u8, u9⟩, ⟨v1, v2, v3, v4, v5, v6, v7, v8, v9⟩, ⟨w1, w2, w3, w4, w5, w6, w7, w8, w9⟩, x1, x2, x3⟩ := hq
  unfold TellR Tell KF PG
  k_fill
  intro rest off' mean mg mb dp un gd cn cs a ccd cl outer A₀ base h₀ L m s Q E B F X N T hk hd hu hret
  dsimp only [atF, stS, stL, List.cons_append, List.nil_append] at off' N
  simp only [List.forall_mem_cons] at off'
  obtain ⟨o1, o2, o3, o4, o5, o6, o7, o8, o9, o10, o11, o12, -⟩ := off'
  k_dflt ktr_enter
  k_with_none
  k_with "ch" => ((rename BfV (List.head? _) _ => hr9); rw [hc] at hr9; obtain ⟨t9, e9⟩ := hr9; subst e9)
  k_steps
  all_goals (
    (rename rem _ = List.tail _ => hr8)
    rw [hc] at hr8
    (rename News _ _ _ _ => n9)
    (try simp only [push_app] at n9)
    refine' hret _ _ _ _ (by assumption) ?S9 ⟨_, ⟨rfl, _, _, _, _, _, _, _, _, _, _, _, _, _, _, _, [], [], ?X9, hr8, (by assumption), (by assumption), (by assumption), ?T9, ?F9, rfl⟩, rfl⟩
    case S9 =>
      dsimp only [atF, stS, stL, List.cons_append, List.nil_append]
      (try simp only [List.append_nil])
      refine' nsub n9 ?N2
      case N2 => kstt_sub
    case X9 => exact app_one
    case T9 => exact .nil
    case F9 => exact List.forall_mem_nil _)
end
end Mine
theorem Mine.off_f3 {M : Model} {A : Around} {env : Env} {Q : Flow → Shared → Prop} {E : Value → Shared → Prop} {s : Shared} (h : wpAny M A (execs [] env) Q E s) : wpAny M A (execs [] env) Q E s := by
  (try (walk1; fail "no"))
  w_top off
  exact h
namespace Mine
local macro_rules | `(tactic| k_ne) => `(tactic| first | exact (show Nq _ _ by with_reducible assumption) | exact Ne.symm (show Nq _ _ by with_reducible assumption) | (refine neN ?_; (try dsimp only); omega))
local macro_rules | `(tactic| k_room) => `(tactic| ((try simp only [depth_under_make, depth_under_kw, depth_in1, depth_deeper, depth_caller, ktrTop, recursionLimit] at *); omega))
local macro_rules | `(tactic| k_units) => `(tactic| ((have hcL9 := cLine_is); (try simp only [units_in1, units_deeper, Around.mark_units, units_caller, ktrTop] at *); omega))
local macro_rules | `(tactic| ktr_enter) => `(tactic| (refine' code_def ?k1 ?k2 ?k3 ?k4 ?k5 ?kA ?kF ?kK ?k6 ?k7 ?k8 ?k9 ?kB ?_ ?c2 ?c3 ?c4 ?c5; (case kA => exact rfl); (case kF => exact rfl); (case kK => first | exact rfl | assumption); (case k1 => k_asm); (case k2 => k_asm); (case k3 => k_asm); (case k4 => k_asm); (case k5 => k_asm); (case k6 => k_is); (case k7 => k_is); (case k8 => k_room); (case k9 => first | exact BindsTo.of_eq rfl | exact binds_K (by k_in) rfl (by k_is) rfl rfl rfl); (case c5 => decide); (case kB => exact locs rfl); (case c2 => exact rfl); (case c3 => exact rfl); (case c4 => exact rfl); k_whole; intro g' L' h' FG' F' N' B' X' T'; (try dsimp only); (try k_fold)))
local macro_rules | `(tactic| k_all) => `(tactic| (with_reducible assumption))
local macro_rules | `(tactic| tb_lt) => `(tactic| first | exact Pick.head | (refine' Pick.tail ?c; (case c => tb_lt)))
local macro_rules | `(tactic| tb_start) => `(tactic| first | exact Picks.nil | (refine' Picks.cons ?a ?b; (case a => tb_lt); (case b => tb_start)))
local macro_rules | `(tactic| tb_rel) => `(tactic| first | exact List.forall_mem_nil _ | (refine' List.forall_mem_cons.mpr ⟨?a, ?b⟩; (case a => k_all); (case b => tb_rel)))
local macro_rules | `(tactic| walk_at "TPost") => `(tactic| (dsimp only [TPost]))
local macro_rules | `(tactic| size_fits) => `(tactic| ((simp only [PySem.sizeLine_eq, List.size_toArray]); omega))
local macro_rules | `(tactic| k_gentoks) => `(tactic| (with_reducible refine' gen_toksP ?hp ?_; (case hp => first | omega | ((try simp only [List.length_cons]); omega)); intro tk htk))
local macro_rules | `(tactic| kstt_sub) => `(tactic| first | exact fun _ h => h | assumption | (refine' subCons ?a ?b; (case a => k_mem); (case b => kstt_sub)) | (refine' subTail ?a; (case a => kstt_sub)))
local macro_rules | `(tactic| kst_all) => `(tactic| first | exact List.forall_mem_nil _ | (refine' List.forall_mem_cons.mpr ⟨?a, ?b⟩; (case a => exact rfl); (case b => kst_all)))
local macro_rules | `(tactic| walk_at "MidEnd") => `(tactic| first
  | ((with_reducible show MidEnd _ _ _ _ _ _ _ Flow.next _); (refine' ⟨(tk8 _ _ _ _ _ _ _ _, _), _, _, _, rfl, ?F, ?N, ?ps, ?P⟩); (case F => assumption); (case N => (refine' nsub ?N1 ?N2; (case N1 => assumption); (case N2 => kstt_sub))); (case ps => kst_all); (case P => k_extra "mid"))
  | ((fail_if_success (with_reducible show MidEnd _ _ _ _ _ _ _ Flow.next _)); dsimp only [MidEnd]))
local macro_rules | `(tactic| walk_at "WEnd") => `(tactic| ((fail_if_success (with_reducible show WEnd _ _ _ _ _ _ _ _ _ Flow.next _)); dsimp only [WEnd]))
local macro_rules | `(tactic| walk_at "callWith") => `(tactic| (k_here; (with_reducible refine' callWith_method1 ?_ ?he ?hp); (case he => k_dflt rfl); (case hp => k_dflt rfl)))
local macro_rules | `(tactic| k_steps) => `(tactic| repeat' (first | (k_unfold; (try dsimp only)) | (k_end; wrow_close) | walk1 | (dsimp only [List.cons_append, List.nil_append]; walk1) | (dsimp only) | fail "no step"))
section
local macro_rules | `(tactic| walk_at "ite") => `(tactic| (k_here; first | (refine if_yes ?a ?_; (case a => with_reducible assumption)) | (refine if_no ?a ?_; (case a => with_reducible assumption))))
local macro_rules | `(tactic| walk_at "compareOp In") => `(tactic| (k_here; (with_reducible show wpAny _ _ (compareOp CmpOp.In (Value.str _ _) (Value.ref 27)) _ _ _); k_dflt (refine' in_letters ?f ?x ?_; (case f => assumption); (case x => assumption))))
local macro_rules | `(tactic| walk_at "compareOp In") => `(tactic| (k_here; (with_reducible show wpAny _ _ (compareOp CmpOp.In (Value.str _ _) (Value.ref 22)) _ _ _); k_dflt (refine' in_spaces ?f ?x ?_; (case f => assumption); (case x => assumption))))
local macro_rules | `(tactic| walk_at "subscriptTail") => `(tactic| (k_here; (try dsimp only); (with_reducible show wpAny _ _ (subscriptTail _ _ (Value.ref _) (Value.int _ _)) _ _ _); k_dflt (refine' item_last_t ?N ?hm ?hv ?_; (case N => assumption); (case hm => k_mem); (case hv => exact back_snoc))))
local macro_rules | `(tactic| walk_at "getItem ref int") => `(tactic| (k_here; (try dsimp only); (with_reducible show wpAny _ _ (getItem (Value.ref _) (Value.int _ _)) _ _ _); k_dflt (refine' getItem_at ?N ?hm ?h0 ?hk ?hv ?_; (case N => assumption); (case hm => k_mem); (case h0 => decide); (case hk => decide); (case hv => rfl))))
local macro_rules | `(tactic| walk_at "call ref") => `(tactic| (k_here; k_dflt (refine' TellR.use (char_s ?a1 ?a2 ?a3 ?a4) ?k1 ?k2 ?k3 ?k4 ?k5 ?kK ?kp ?ko ?kd ?ku ?k0 ?_; (case k1 => k_asm); (case k2 => k_asm); (case k3 => k_asm); (case k4 => k_asm); (case k5 => k_asm); (case kK => first | exact rfl | assumption); (case kp => tb_start); (case ko => tb_rel); (case a1 => assumption); (case a2 => assumption); (case a3 => assumption); (case a4 => assumption); (case kd => k_room); (case ku => k_units); (case k0 => first | exact (show 1 ≤ _ by (try dsimp only); omega) | exact Nat.zero_le _); intro r9 f9 h9 tk9 p9 F9 N9 hP9; obtain ⟨S2, a0, a1, a2, a3, a4, b0, b1, bv2, vs2, ep2, hr2, hrem2, hw2, htot2, hpos2, hsuf2, hcl2, hb2, hv2, e2⟩ := hP9; subst e2; dsimp only [stS, stL, List.cons_append, List.nil_append] at N9; k_extra "ch"; (try dsimp only [List.nil_append, List.cons_append] at N9); (try k_fold))))
theorem attr_Q {w : World} {hx hd' tq lf sx sd tx td ra el nl ct dl p : Nat} {κh κ κ' : Nat → Nat} {τ₀ τ₁ τ₂ τ₃ τ₄ σ₀ σ₁ : Nat} {S : SS} {bf st : Value} {vs qs us : List Value} {ep tep dep pep k1 k2 t1 t2 kd : Nat} {oC : Obj} {nmT nm val : PySem.Str} {fl : Bool} {c : Nat} {r : List Nat}
    (hc : rem S = c :: r) (h1 : ((⟨#[c]⟩ : PySem.Str) == PySem.Str.ofString "=") = false) (h2 : decide (c ∈ letC) = false) (h3 : ((⟨#[c]⟩ : PySem.Str) == PySem.Str.ofString ">") = false) (h4 : decide (c ∈ spcC) = false) (h5 : ((⟨#[c]⟩ : PySem.Str) == PySem.Str.ofString "/") = false) (h6 : ((⟨#[c]⟩ : PySem.Str) == PySem.Str.ofString "\x00") = false) (h7 : ([PySem.Str.ofString "'", PySem.Str.ofString "\"", PySem.Str.ofString "<"].any fun x => x == (⟨#[c]⟩ : PySem.Str)) = true)
    (hD : oC.IsDictOf (PySem.strKind PG w) (ctRows kd k1 nmT k2 dl fl)) (hs : ((ct : Addr) == sysModules) = false)
    (hv : Errs vs S.n) (hbf : BfV S.bo bf) (hw : WF S) (hqs : qs.length ≤ 1000) (hus : us.length ≤ 1000) (hnm : nm.length ≤ 1000) (hnd : NQ6 sx sd tx td ra el) (hh : HQ hx hd' tq sx sd tx td ra el) (hq : AQ hx hd' tq ct dl p sx sd tx td ra el) :
    TellR w 20 200 (.ref 542) [.ref hx] (atF w hx hd' tq lf ct dl p sx sd tx td ra el nl κh κ κ' τ₀ τ₁ τ₂ τ₃ τ₄ σ₀ σ₁ S bf vs ep st qs tep oC us dep nm val t1 t2 pep)
      (fun rv f' rest => rv = .bool true ∧ ∃ (S' : SS) (a0 a1 a2 a3 a4 b0 b1 : Nat) (bv : Value) (vs' : List Value) (ep' te' pep' t1' : Nat) (nm' : PySem.Str) (refs : List Value) (ex : List (Addr × Obj)), nm'.cps.toList = nm.cps.toList ++ [c] ∧ rem S' = r ∧ WF S' ∧ BfV S'.bo bv ∧ Errs vs' S'.n ∧ Toks w refs ex [Str.ofString "invalid-character-in-attribute-name"] ∧
        (∀ q ∈ ex, FreshA hx hd' tq ct dl p sx sd tx td ra el rest q.1) ∧ f' = atF w hx hd' tq lf ct dl p sx sd tx td ra el nl κh κ κ' a0 a1 a2 a3 a4 b0 b1 S' bv vs' ep' st (qs ++ refs) te' oC us dep nm' val t1' t2 pep' ++ ex) := by
  have hq0 := hnd
  unfold NQ6 at hq0
  obtain ⟨q1, q2, q3, q4, q5, q6, q7, q8, q9, q10, q11, q12, q13, q14, q15⟩ := hq0
  unfold HQ at hh
  obtain ⟨g1, g2, g3, g4, g5, g6, g7, g8, g9, g10, g11, g12, g13, g14, g15, g16, g17, g18, g19, g20, g21⟩ := hh
  unfold AQ at hq
  obtain ⟨⟨u1, u2, u3, u4, u5, u6, u7, u8, u9⟩, ⟨v1, v2, v3, v4, v5, v6, v7, v8, v9⟩, ⟨w1, w2, w3, w4, w5, w6, w7, w8, w9⟩, x1, x2, x3⟩ := hq
  unfold TellR Tell KF PG
  k_fill
  intro rest off' mean mg mb dp un gd cn cs a ccd cl outer A₀ base h₀ L m s Q E B F X N T hk hd hu hret
  dsimp only [atF, stS, stL, List.cons_append, List.nil_append] at off' N
  simp only [List.forall_mem_cons] at off'
  obtain ⟨o1, o2, o3, o4, o5, o6, o7, o8, o9, o10, o11, o12, -⟩ := off'
  k_dflt ktr_enter
  k_with_none
  k_with "ch" => ((rename BfV (List.head? _) _ => hr9); rw [hc] at hr9; obtain ⟨t9, e9⟩ := hr9; subst e9)
  k_steps
  all_goals (
    (rename rem _ = List.tail _ => hr8)
    rw [hc] at hr8
    (rename News _ _ _ _ => n9)
    (try simp only [push_app] at n9)
    refine' hret _ _ _ _ (by assumption) ?S9 ⟨_, ⟨rfl, _, _, _, _, _, _, _, _, _, _, _, _, _, _, _, [_], [_], ?X9, hr8, (by assumption), (by assumption), (by assumption), ?T9, ?F9, rfl⟩, rfl⟩
    case S9 =>
      dsimp only [atF, stS, stL, List.cons_append, List.nil_append]
      (try simp only [List.append_nil])
      refine' nsub n9 ?N2
      case N2 => kstt_sub
    case X9 => exact app_one
    case T9 => exact .cons (by assumption) .nil
    case F9 => (refine List.forall_mem_singleton.mpr ?_; (rename _ < _ ∧ _ => lq); unfold FreshA; dsimp only; refine ⟨?_, ?_, ?_, ?_, ?_, ?_, ?_, ?_, ?_, ?_, ?_, ?_, ?_⟩ <;> (first | omega | (simp only [lq]) | assumption)))
end
end Mine
theorem Mine.off_f4 {M : Model} {A : Around} {env : Env} {Q : Flow → Shared → Prop} {E : Value → Shared → Prop} {s : Shared} (h : wpAny M A (execs [] env) Q E s) : wpAny M A (execs [] env) Q E s := by
  (try (walk1; fail "no"))
  w_top off
  exact h
namespace Mine
local macro_rules | `(tactic| k_ne) => `(tactic| first | exact (show Nq _ _ by with_reducible assumption) | exact Ne.symm (show Nq _ _ by with_reducible assumption) | (refine neN ?_; (try dsimp only); omega))
local macro_rules | `(tactic| k_room) => `(tactic| ((try simp only [depth_under_make, depth_under_kw, depth_in1, depth_deeper, depth_caller, ktrTop, recursionLimit] at *); omega))
local macro_rules | `(tactic| k_units) => `(tactic| ((have hcL9 := cLine_is); (try simp only [units_in1, units_deeper, Around.mark_units, units_caller, ktrTop] at *); omega))
local macro_rules | `(tactic| ktr_enter) => `(tactic| (refine' code_def ?k1 ?k2 ?k3 ?k4 ?k5 ?kA ?kF ?kK ?k6 ?k7 ?k8 ?k9 ?kB ?_ ?c2 ?c3 ?c4 ?c5; (case kA => exact rfl); (case kF => exact rfl); (case kK => first | exact rfl | assumption); (case k1 => k_asm); (case k2 => k_asm); (case k3 => k_asm); (case k4 => k_asm); (case k5 => k_asm); (case k6 => k_is); (case k7 => k_is); (case k8 => k_room); (case k9 => first | exact BindsTo.of_eq rfl | exact binds_K (by k_in) rfl (by k_is) rfl rfl rfl); (case c5 => decide); (case kB => exact locs rfl); (case c2 => exact rfl); (case c3 => exact rfl); (case c4 => exact rfl); k_whole; intro g' L' h' FG' F' N' B' X' T'; (try dsimp only); (try k_fold)))
local macro_rules | `(tactic| k_all) => `(tactic| (with_reducible assumption))
local macro_rules | `(tactic| tb_lt) => `(tactic| first | exact Pick.head | (refine' Pick.tail ?c; (case c => tb_lt)))
local macro_rules | `(tactic| tb_start) => `(tactic| first | exact Picks.nil | (refine' Picks.cons ?a ?b; (case a => tb_lt); (case b => tb_start)))
local macro_rules | `(tactic| tb_rel) => `(tactic| first | exact List.forall_mem_nil _ | (refine' List.forall_mem_cons.mpr ⟨?a, ?b⟩; (case a => k_all); (case b => tb_rel)))
local macro_rules | `(tactic| walk_at "TPost") => `(tactic| (dsimp only [TPost]))
local macro_rules | `(tactic| size_fits) => `(tactic| ((simp only [PySem.sizeLine_eq, List.size_toArray]); omega))
local macro_rules | `(tactic| k_gentoks) => `(tactic| (with_reducible refine' gen_toksP ?hp ?_; (case hp => first | omega | ((try simp only [List.length_cons]); omega)); intro tk htk))
local macro_rules | `(tactic| kstt_sub) => `(tactic| first | exact fun _ h => h | assumption | (refine' subCons ?a ?b; (case a => k_mem); (case b => kstt_sub)) | (refine' subTail ?a; (case a => kstt_sub)))
local macro_rules | `(tactic| kst_all) => `(tactic| first | exact List.forall_mem_nil _ | (refine' List.forall_mem_cons.mpr ⟨?a, ?b⟩; (case a => exact rfl); (case b => kst_all)))
local macro_rules | `(tactic| walk_at "MidEnd") => `(tactic| first
  | ((with_reducible show MidEnd _ _ _ _ _ _ _ Flow.next _); (refine' ⟨(tk8 _ _ _ _ _ _ _ _, _), _, _, _, rfl, ?F, ?N, ?ps, ?P⟩); (case F => assumption); (case N => (refine' nsub ?N1 ?N2; (case N1 => assumption); (case N2 => kstt_sub))); (case ps => kst_all); (case P => k_extra "mid"))
  | ((fail_if_success (with_reducible show MidEnd _ _ _ _ _ _ _ Flow.next _)); dsimp only [MidEnd]))
local macro_rules | `(tactic| walk_at "WEnd") => `(tactic| ((fail_if_success (with_reducible show WEnd _ _ _ _ _ _ _ _ _ Flow.next _)); dsimp only [WEnd]))
local macro_rules | `(tactic| walk_at "callWith") => `(tactic| (k_here; (with_reducible refine' callWith_method1 ?_ ?he ?hp); (case he => k_dflt rfl); (case hp => k_dflt rfl)))
local macro_rules | `(tactic| k_steps) => `(tactic| repeat' (first | (k_unfold; (try dsimp only)) | (k_end; wrow_close) | walk1 | (dsimp only [List.cons_append, List.nil_append]; walk1) | (dsimp only) | fail "no step"))
section
local macro_rules | `(tactic| walk_at "ite") => `(tactic| (k_here; first | (refine if_yes ?a ?_; (case a => with_reducible assumption)) | (refine if_no ?a ?_; (case a => with_reducible assumption))))
local macro_rules | `(tactic| walk_at "compareOp In") => `(tactic| (k_here; (with_reducible show wpAny _ _ (compareOp CmpOp.In (Value.str _ _) (Value.ref 27)) _ _ _); k_dflt (refine' in_letters ?f ?x ?_; (case f => assumption); (case x => assumption))))
local macro_rules | `(tactic| walk_at "compareOp In") => `(tactic| (k_here; (with_reducible show wpAny _ _ (compareOp CmpOp.In (Value.str _ _) (Value.ref 22)) _ _ _); k_dflt (refine' in_spaces ?f ?x ?_; (case f => assumption); (case x => assumption))))
local macro_rules | `(tactic| walk_at "subscriptTail") => `(tactic| (k_here; (try dsimp only); (with_reducible show wpAny _ _ (subscriptTail _ _ (Value.ref _) (Value.int _ _)) _ _ _); k_dflt (refine' item_last_t ?N ?hm ?hv ?_; (case N => assumption); (case hm => k_mem); (case hv => exact back_snoc))))
local macro_rules | `(tactic| walk_at "getItem ref int") => `(tactic| (k_here; (try dsimp only); (with_reducible show wpAny _ _ (getItem (Value.ref _) (Value.int _ _)) _ _ _); k_dflt (refine' getItem_at ?N ?hm ?h0 ?hk ?hv ?_; (case N => assumption); (case hm => k_mem); (case h0 => decide); (case hk => decide); (case hv => rfl))))
local macro_rules | `(tactic| walk_at "call ref") => `(tactic| (k_here; k_dflt (refine' TellR.use (char_s ?a1 ?a2 ?a3 ?a4) ?k1 ?k2 ?k3 ?k4 ?k5 ?kK ?kp ?ko ?kd ?ku ?k0 ?_; (case k1 => k_asm); (case k2 => k_asm); (case k3 => k_asm); (case k4 => k_asm); (case k5 => k_asm); (case kK => first | exact rfl | assumption); (case kp => tb_start); (case ko => tb_rel); (case a1 => assumption); (case a2 => assumption); (case a3 => assumption); (case a4 => assumption); (case kd => k_room); (case ku => k_units); (case k0 => first | exact (show 1 ≤ _ by (try dsimp only); omega) | exact Nat.zero_le _); intro r9 f9 h9 tk9 p9 F9 N9 hP9; obtain ⟨S2, a0, a1, a2, a3, a4, b0, b1, bv2, vs2, ep2, hr2, hrem2, hw2, htot2, hpos2, hsuf2, hcl2, hb2, hv2, e2⟩ := hP9; subst e2; dsimp only [stS, stL, List.cons_append, List.nil_append] at N9; k_extra "ch"; (try dsimp only [List.nil_append, List.cons_append] at N9); (try k_fold))))
theorem attr_N {w : World} {hx hd' tq lf sx sd tx td ra el nl ct dl p : Nat} {κh κ κ' : Nat → Nat} {τ₀ τ₁ τ₂ τ₃ τ₄ σ₀ σ₁ : Nat} {S : SS} {bf st : Value} {vs qs us : List Value} {ep tep dep pep k1 k2 t1 t2 kd : Nat} {oC : Obj} {nmT nm val : PySem.Str} {fl : Bool} {c : Nat} {r : List Nat}
    (hc : rem S = c :: r) (h1 : ((⟨#[c]⟩ : PySem.Str) == PySem.Str.ofString "=") = false) (h2 : decide (c ∈ letC) = false) (h3 : ((⟨#[c]⟩ : PySem.Str) == PySem.Str.ofString ">") = false) (h4 : decide (c ∈ spcC) = false) (h5 : ((⟨#[c]⟩ : PySem.Str) == PySem.Str.ofString "/") = false) (h6 : ((⟨#[c]⟩ : PySem.Str) == PySem.Str.ofString "\x00") = true)
    (hD : oC.IsDictOf (PySem.strKind PG w) (ctRows kd k1 nmT k2 dl fl)) (hs : ((ct : Addr) == sysModules) = false)
    (hv : Errs vs S.n) (hbf : BfV S.bo bf) (hw : WF S) (hqs : qs.length ≤ 1000) (hus : us.length ≤ 1000) (hnm : nm.length ≤ 1000) (hnd : NQ6 sx sd tx td ra el) (hh : HQ hx hd' tq sx sd tx td ra el) (hq : AQ hx hd' tq ct dl p sx sd tx td ra el) :
    TellR w 20 200 (.ref 542) [.ref hx] (atF w hx hd' tq lf ct dl p sx sd tx td ra el nl κh κ κ' τ₀ τ₁ τ₂ τ₃ τ₄ σ₀ σ₁ S bf vs ep st qs tep oC us dep nm val t1 t2 pep)
      (fun rv f' rest => rv = .bool true ∧ ∃ (S' : SS) (a0 a1 a2 a3 a4 b0 b1 : Nat) (bv : Value) (vs' : List Value) (ep' te' pep' t1' : Nat) (nm' : PySem.Str) (refs : List Value) (ex : List (Addr × Obj)), nm'.cps.toList = nm.cps.toList ++ [65533] ∧ rem S' = r ∧ WF S' ∧ BfV S'.bo bv ∧ Errs vs' S'.n ∧ Toks w refs ex [Str.ofString "invalid-codepoint"] ∧
        (∀ q ∈ ex, FreshA hx hd' tq ct dl p sx sd tx td ra el rest q.1) ∧ f' = atF w hx hd' tq lf ct dl p sx sd tx td ra el nl κh κ κ' a0 a1 a2 a3 a4 b0 b1 S' bv vs' ep' st (qs ++ refs) te' oC us dep nm' val t1' t2 pep' ++ ex) := by
  have hq0 := hnd
  unfold NQ6 at hq0
  obtain ⟨q1, q2, q3, q4, q5, q6, q7, q8, q9, q10, q11, q12, q13, q14, q15⟩ := hq0
  unfold HQ at hh
  obtain ⟨g1, g2, g3, g4, g5, g6, g7, g8, g9, g10, g11, g12, g13, g14, g15, g16, g17, g18, g19, g20, g21⟩ := hh
  unfold AQ at hq
  obtain ⟨⟨u1, u2, u3, u4, u5, u6, u7, u8, u9⟩, ⟨v1, v2, v3, v4, v5, v6, v7, v8, v9⟩, ⟨w1, w2, w3, w4, w5, w6, w7, w8, w9⟩, x1, x2, x3⟩ := hq
  unfold TellR Tell KF PG
  k_fill
  intro rest off' mean mg mb dp un gd cn cs a ccd cl outer A₀ base h₀ L m s Q E B F X N T hk hd hu hret
  dsimp only [atF, stS, stL, List.cons_append, List.nil_append] at off' N
  simp only [List.forall_mem_cons] at off'
  obtain ⟨o1, o2, o3, o4, o5, o6, o7, o8, o9, o10, o11, o12, -⟩ := off'
  k_dflt ktr_enter
  k_with_none
  k_with "ch" => ((rename BfV (List.head? _) _ => hr9); rw [hc] at hr9; obtain ⟨t9, e9⟩ := hr9; subst e9)
  k_steps
  all_goals (
    (rename rem _ = List.tail _ => hr8)
    rw [hc] at hr8
    (rename News _ _ _ _ => n9)
    (try simp only [push_app] at n9)
    refine' hret _ _ _ _ (by assumption) ?S9 ⟨_, ⟨rfl, _, _, _, _, _, _, _, _, _, _, _, _, _, _, _, [_], [_], ?X9, hr8, (by assumption), (by assumption), (by assumption), ?T9, ?F9, rfl⟩, rfl⟩
    case S9 =>
      dsimp only [atF, stS, stL, List.cons_append, List.nil_append]
      (try simp only [List.append_nil])
      refine' nsub n9 ?N2
      case N2 => kstt_sub
    case X9 => exact app_rep
    case T9 => exact .cons (by assumption) .nil
    case F9 => (refine List.forall_mem_singleton.mpr ?_; (rename _ < _ ∧ _ => lq); unfold FreshA; dsimp only; refine ⟨?_, ?_, ?_, ?_, ?_, ?_, ?_, ?_, ?_, ?_, ?_, ?_, ?_⟩ <;> (first | omega | (simp only [lq]) | assumption)))
end
end Mine
theorem Mine.off_f5 {M : Model} {A : Around} {env : Env} {Q : Flow → Shared → Prop} {E : Value → Shared → Prop} {s : Shared} (h : wpAny M A (execs [] env) Q E s) : wpAny M A (execs [] env) Q E s := by
  (try (walk1; fail "no"))
  w_top off
  exact h
namespace Mine
local macro_rules | `(tactic| k_ne) => `(tactic| first | exact (show Nq _ _ by with_reducible assumption) | exact Ne.symm (show Nq _ _ by with_reducible assumption) | (refine neN ?_; (try dsimp only); omega))
local macro_rules | `(tactic| k_room) => `(tactic| ((try simp only [depth_under_make, depth_under_kw, depth_in1, depth_deeper, depth_caller, ktrTop, recursionLimit] at *); omega))
local macro_rules | `(tactic| k_units) => `(tactic| ((have hcL9 := cLine_is); (try simp only [units_in1, units_deeper, Around.mark_units, units_caller, ktrTop] at *); omega))
local macro_rules | `(tactic| ktr_enter) => `(tactic| (refine' code_def ?k1 ?k2 ?k3 ?k4 ?k5 ?kA ?kF ?kK ?k6 ?k7 ?k8 ?k9 ?kB ?_ ?c2 ?c3 ?c4 ?c5; (case kA => exact rfl); (case kF => exact rfl); (case kK => first | exact rfl | assumption); (case k1 => k_asm); (case k2 => k_asm); (case k3 => k_asm); (case k4 => k_asm); (case k5 => k_asm); (case k6 => k_is); (case k7 => k_is); (case k8 => k_room); (case k9 => first | exact BindsTo.of_eq rfl | exact binds_K (by k_in) rfl (by k_is) rfl rfl rfl); (case c5 => decide); (case kB => exact locs rfl); (case c2 => exact rfl); (case c3 => exact rfl); (case c4 => exact rfl); k_whole; intro g' L' h' FG' F' N' B' X' T'; (try dsimp only); (try k_fold)))
local macro_rules | `(tactic| k_all) => `(tactic| (with_reducible assumption))
local macro_rules | `(tactic| tb_lt) => `(tactic| first | exact Pick.head | (refine' Pick.tail ?c; (case c => tb_lt)))
local macro_rules | `(tactic| tb_start) => `(tactic| first | exact Picks.nil | (refine' Picks.cons ?a ?b; (case a => tb_lt); (case b => tb_start)))
local macro_rules | `(tactic| tb_rel) => `(tactic| first | exact List.forall_mem_nil _ | (refine' List.forall_mem_cons.mpr ⟨?a, ?b⟩; (case a => k_all); (case b => tb_rel)))
local macro_rules | `(tactic| walk_at "TPost") => `(tactic| (dsimp only [TPost]))
local macro_rules | `(tactic| size_fits) => `(tactic| ((simp only [PySem.sizeLine_eq, List.size_toArray]); omega))
local macro_rules | `(tactic| k_gentoks) => `(tactic| (with_reducible refine' gen_toksP ?hp ?_; (case hp => first | omega | ((try simp only [List.length_cons]); omega)); intro tk htk))
local macro_rules | `(tactic| kstt_sub) => `(tactic| first | exact fun _ h => h | assumption | (refine' subCons ?a ?b; (case a => k_mem); (case b => kstt_sub)) | (refine' subTail ?a; (case a => kstt_sub)))
local macro_rules | `(tactic| kst_all) => `(tactic| first | exact List.forall_mem_nil _ | (refine' List.forall_mem_cons.mpr ⟨?a, ?b⟩; (case a => exact rfl); (case b => kst_all)))
local macro_rules | `(tactic| walk_at "MidEnd") => `(tactic| first
  | ((with_reducible show MidEnd _ _ _ _ _ _ _ Flow.next _); (refine' ⟨(tk8 _ _ _ _ _ _ _ _, _), _, _, _, rfl, ?F, ?N, ?ps, ?P⟩); (case F => assumption); (case N => (refine' nsub ?N1 ?N2; (case N1 => assumption); (case N2 => kstt_sub))); (case ps => kst_all); (case P => k_extra "mid"))
  | ((fail_if_success (with_reducible show MidEnd _ _ _ _ _ _ _ Flow.next _)); dsimp only [MidEnd]))
local macro_rules | `(tactic| walk_at "WEnd") => `(tactic| ((fail_if_success (with_reducible show WEnd _ _ _ _ _ _ _ _ _ Flow.next _)); dsimp only [WEnd]))
local macro_rules | `(tactic| walk_at "callWith") => `(tactic| (k_here; (with_reducible refine' callWith_method1 ?_ ?he ?hp); (case he => k_dflt rfl); (case hp => k_dflt rfl)))
local macro_rules | `(tactic| k_steps) => `(tactic| repeat' (first | (k_unfold; (try dsimp only)) | (k_end; wrow_close) | walk1 | (dsimp only [List.cons_append, List.nil_append]; walk1) | (dsimp only) | fail "no step"))
section
local macro_rules | `(tactic| walk_at "ite") => `(tactic| (k_here; first | (refine if_yes ?a ?_; (case a => with_reducible assumption)) | (refine if_no ?a ?_; (case a => with_reducible assumption))))
local macro_rules | `(tactic| walk_at "compareOp In") => `(tactic| (k_here; (with_reducible show wpAny _ _ (compareOp CmpOp.In (Value.str _ _) (Value.ref 27)) _ _ _); k_dflt (refine' in_letters ?f ?x ?_; (case f => assumption); (case x => assumption))))
local macro_rules | `(tactic| walk_at "compareOp In") => `(tactic| (k_here; (with_reducible show wpAny _ _ (compareOp CmpOp.In (Value.str _ _) (Value.ref 22)) _ _ _); k_dflt (refine' in_spaces ?f ?x ?_; (case f => assumption); (case x => assumption))))
local macro_rules | `(tactic| walk_at "subscriptTail") => `(tactic| (k_here; (try dsimp only); (with_reducible show wpAny _ _ (subscriptTail _ _ (Value.ref _) (Value.int _ _)) _ _ _); k_dflt (refine' item_last_t ?N ?hm ?hv ?_; (case N => assumption); (case hm => k_mem); (case hv => exact back_snoc))))
local macro_rules | `(tactic| walk_at "getItem ref int") => `(tactic| (k_here; (try dsimp only); (with_reducible show wpAny _ _ (getItem (Value.ref _) (Value.int _ _)) _ _ _); k_dflt (refine' getItem_at ?N ?hm ?h0 ?hk ?hv ?_; (case N => assumption); (case hm => k_mem); (case h0 => decide); (case hk => decide); (case hv => rfl))))
local macro_rules | `(tactic| walk_at "call ref") => `(tactic| (k_here; k_dflt (refine' TellR.use (char_s ?a1 ?a2 ?a3 ?a4) ?k1 ?k2 ?k3 ?k4 ?k5 ?kK ?kp ?ko ?kd ?ku ?k0 ?_; (case k1 => k_asm); (case k2 => k_asm); (case k3 => k_asm); (case k4 => k_asm); (case k5 => k_asm); (case kK => first | exact rfl | assumption); (case kp => tb_start); (case ko => tb_rel); (case a1 => assumption); (case a2 => assumption); (case a3 => assumption); (case a4 => assumption); (case kd => k_room); (case ku => k_units); (case k0 => first | exact (show 1 ≤ _ by (try dsimp only); omega) | exact Nat.zero_le _); intro r9 f9 h9 tk9 p9 F9 N9 hP9; obtain ⟨S2, a0, a1, a2, a3, a4, b0, b1, bv2, vs2, ep2, hr2, hrem2, hw2, htot2, hpos2, hsuf2, hcl2, hb2, hv2, e2⟩ := hP9; subst e2; dsimp only [stS, stL, List.cons_append, List.nil_append] at N9; k_extra "ch"; (try dsimp only [List.nil_append, List.cons_append] at N9); (try k_fold))))
local macro_rules | `(tactic| walk_at "call ref") => `(tactic| (k_here; k_dflt (refine' TellR.use (charsUntil_o inby_letters ?a0 ?a1 ?a2 ?a3 ?a4) ?k1 ?k2 ?k3 ?k4 ?k5 ?kK ?kp ?ko ?kd ?ku ?k0 ?_; (case k1 => k_asm); (case k2 => k_asm); (case k3 => k_asm); (case k4 => k_asm); (case k5 => k_asm); (case kK => first | exact rfl | assumption); (case kp => tb_start); (case ko => tb_rel); (case a0 => exact (fun _ h => nomatch h)); (case a1 => assumption); (case a2 => assumption); (case a3 => assumption); (case a4 => assumption); (case kd => k_room); (case ku => k_units); (case k0 => first | exact (show 1 ≤ _ by (try dsimp only); omega) | exact Nat.zero_le _); intro r9 f9 h9 tk9 p9 F9 N9 hP9; obtain ⟨S2, a0, a1, a2, a3, a4, b0, b1, bv2, vs2, ep2, x2, t2, e1, hx2, hrem2, hw2, htot2, hpos2, hb2, hv2, e2⟩ := hP9; subst e1; subst e2; (have hl9 := tw_len (by assumption) hx2); dsimp only [stS, stL, List.cons_append, List.nil_append] at N9; (try dsimp only [List.nil_append, List.cons_append] at N9); (try k_fold))))
theorem attr_L {w : World} {hx hd' tq lf sx sd tx td ra el nl ct dl p : Nat} {κh κ κ' : Nat → Nat} {τ₀ τ₁ τ₂ τ₃ τ₄ σ₀ σ₁ : Nat} {S : SS} {bf st : Value} {vs qs us : List Value} {ep tep dep pep k1 k2 t1 t2 kd : Nat} {oC : Obj} {nmT nm val : PySem.Str} {fl : Bool} {c : Nat} {r : List Nat}
    (hc : rem S = c :: r) (h1 : ((⟨#[c]⟩ : PySem.Str) == PySem.Str.ofString "=") = false) (h2 : decide (c ∈ letC) = true)
    (hD : oC.IsDictOf (PySem.strKind PG w) (ctRows kd k1 nmT k2 dl fl)) (hs : ((ct : Addr) == sysModules) = false)
    (hv : Errs vs S.n) (hbf : BfV S.bo bf) (hw : WF S) (hqs : qs.length ≤ 1000) (hus : us.length ≤ 1000) (hnm : nm.length ≤ 1000) (hnd : NQ6 sx sd tx td ra el) (hh : HQ hx hd' tq sx sd tx td ra el) (hq : AQ hx hd' tq ct dl p sx sd tx td ra el) :
    TellR w 20 200 (.ref 542) [.ref hx] (atF w hx hd' tq lf ct dl p sx sd tx td ra el nl κh κ κ' τ₀ τ₁ τ₂ τ₃ τ₄ σ₀ σ₁ S bf vs ep st qs tep oC us dep nm val t1 t2 pep)
      (fun rv f' rest => rv = .bool true ∧ ∃ (S' : SS) (a0 a1 a2 a3 a4 b0 b1 : Nat) (bv : Value) (vs' : List Value) (ep' te' pep' t1' : Nat) (nm' : PySem.Str) (refs : List Value) (ex : List (Addr × Obj)), nm'.cps.toList = nm.cps.toList ++ (c :: r.takeWhile (fun ch => decide (ch ∈ letC) == true)) ∧ rem S' = r.dropWhile (fun ch => decide (ch ∈ letC) == true) ∧ WF S' ∧ BfV S'.bo bv ∧ Errs vs' S'.n ∧ Toks w refs ex [] ∧
        (∀ q ∈ ex, FreshA hx hd' tq ct dl p sx sd tx td ra el rest q.1) ∧ f' = atF w hx hd' tq lf ct dl p sx sd tx td ra el nl κh κ κ' a0 a1 a2 a3 a4 b0 b1 S' bv vs' ep' st (qs ++ refs) te' oC us dep nm' val t1' t2 pep' ++ ex) := by
  have hq0 := hnd
  unfold NQ6 at hq0
  obtain ⟨q1, q2, q3, q4, q5, q6, q7, q8, q9, q10, q11, q12, q13, q14, q15⟩ := hq0
  unfold HQ at hh
  obtain ⟨g1, g2, g3, g4, g5, g6, g7, g8, g9, g10, g11, g12, g13, g14, g15, g16, g17, g18, g19, g20, g21⟩ := hh
  unfold AQ at hq
  obtain ⟨⟨u1, u2, u3, u4, u5, u6, u7, u8, u9⟩, ⟨v1, v2, v3, v4, v5, v6, v7, v8, v9⟩, ⟨w1, w2, w3, w4, w5, w6, w7, w8, w9⟩, x1, x2, x3⟩ := hq
  unfold TellR Tell KF PG
  k_fill
  intro rest off' mean mg mb dp un gd cn cs a ccd cl outer A₀ base h₀ L m s Q E B F X N T hk hd hu hret
  dsimp only [atF, stS, stL, List.cons_append, List.nil_append] at off' N
  simp only [List.forall_mem_cons] at off'
  obtain ⟨o1, o2, o3, o4, o5, o6, o7, o8, o9, o10, o11, o12, -⟩ := off'
  k_dflt ktr_enter
  k_with_none
  k_with "ch" => ((rename BfV (List.head? _) _ => hr9); rw [hc] at hr9; obtain ⟨t9, e9⟩ := hr9; subst e9)
  k_steps
  all_goals (
    (rename rem _ = List.tail _ => hr8)
    (rename rem _ = List.dropWhile _ _ => hr7)
    (rename _ = List.takeWhile _ _ => hx7)
    rw [hc] at hr8
    rw [hr8] at hr7 hx7
    (rename News _ _ _ _ => n9)
    (try simp only [push_app] at n9)
    refine' hret _ _ _ _ (by assumption) ?S9 ⟨_, ⟨rfl, _, _, _, _, _, _, _, _, _, _, _, _, _, _, _, [], [], ?X9, hr7, (by assumption), (by assumption), (by assumption), .nil, List.forall_mem_nil _, rfl⟩, rfl⟩
    case S9 =>
      dsimp only [atF, stS, stL, List.cons_append, List.nil_append]
      (try simp only [List.append_nil])
      refine' nsub n9 ?N2
      case N2 => kstt_sub
    case X9 => exact app_let hx7)
end
end Mine
theorem Mine.off_r2 {M : Model} {A : Around} {env : Env} {Q : Flow → Shared → Prop} {E : Value → Shared → Prop} {s : Shared} (h : wpAny M A (execs [] env) Q E s) : wpAny M A (execs [] env) Q E s := by
  (try (walk1; fail "no"))
  w_top off
  exact h
namespace Mine
local macro_rules | `(tactic| k_ne) => `(tactic| first | exact (show Nq _ _ by with_reducible assumption) | exact Ne.symm (show Nq _ _ by with_reducible assumption) | (refine neN ?_; (try dsimp only); omega))
local macro_rules | `(tactic| k_room) => `(tactic| ((try simp only [depth_under_make, depth_under_kw, depth_in1, depth_deeper, depth_caller, ktrTop, recursionLimit] at *); omega))
local macro_rules | `(tactic| k_units) => `(tactic| ((have hcL9 := cLine_is); (try simp only [units_in1, units_deeper, Around.mark_units, units_caller, ktrTop] at *); omega))
local macro_rules | `(tactic| ktr_enter) => `(tactic| (refine' code_def ?k1 ?k2 ?k3 ?k4 ?k5 ?kA ?kF ?kK ?k6 ?k7 ?k8 ?k9 ?kB ?_ ?c2 ?c3 ?c4 ?c5; (case kA => exact rfl); (case kF => exact rfl); (case kK => first | exact rfl | assumption); (case k1 => k_asm); (case k2 => k_asm); (case k3 => k_asm); (case k4 => k_asm); (case k5 => k_asm); (case k6 => k_is); (case k7 => k_is); (case k8 => k_room); (case k9 => first | exact BindsTo.of_eq rfl | exact binds_K (by k_in) rfl (by k_is) rfl rfl rfl); (case c5 => decide); (case kB => exact locs rfl); (case c2 => exact rfl); (case c3 => exact rfl); (case c4 => exact rfl); k_whole; intro g' L' h' FG' F' N' B' X' T'; (try dsimp only); (try k_fold)))
local macro_rules | `(tactic| k_all) => `(tactic| (with_reducible assumption))
local macro_rules | `(tactic| tb_lt) => `(tactic| first | exact Pick.head | (refine' Pick.tail ?c; (case c => tb_lt)))
local macro_rules | `(tactic| tb_start) => `(tactic| first | exact Picks.nil | (refine' Picks.cons ?a ?b; (case a => tb_lt); (case b => tb_start)))
local macro_rules | `(tactic| tb_rel) => `(tactic| first | exact List.forall_mem_nil _ | (refine' List.forall_mem_cons.mpr ⟨?a, ?b⟩; (case a => k_all); (case b => tb_rel)))
local macro_rules | `(tactic| walk_at "TPost") => `(tactic| (dsimp only [TPost]))
local macro_rules | `(tactic| size_fits) => `(tactic| ((simp only [PySem.sizeLine_eq, List.size_toArray]); omega))
local macro_rules | `(tactic| k_gentoks) => `(tactic| (with_reducible refine' gen_toksP ?hp ?_; (case hp => first | omega | ((try simp only [List.length_cons]); omega)); intro tk htk))
local macro_rules | `(tactic| kstt_sub) => `(tactic| first | exact fun _ h => h | assumption | (refine' subCons ?a ?b; (case a => k_mem); (case b => kstt_sub)) | (refine' subTail ?a; (case a => kstt_sub)))
local macro_rules | `(tactic| kst_all) => `(tactic| first | exact List.forall_mem_nil _ | (refine' List.forall_mem_cons.mpr ⟨?a, ?b⟩; (case a => exact rfl); (case b => kst_all)))
local macro_rules | `(tactic| walk_at "MidEnd") => `(tactic| first
  | ((with_reducible show MidEnd _ _ _ _ _ _ _ Flow.next _); (refine' ⟨(tk8 _ _ _ _ _ _ _ _, _), _, _, _, rfl, ?F, ?N, ?ps, ?P⟩); (case F => assumption); (case N => (refine' nsub ?N1 ?N2; (case N1 => assumption); (case N2 => kstt_sub))); (case ps => kst_all); (case P => k_extra "mid"))
  | ((fail_if_success (with_reducible show MidEnd _ _ _ _ _ _ _ Flow.next _)); dsimp only [MidEnd]))
local macro_rules | `(tactic| walk_at "WEnd") => `(tactic| ((fail_if_success (with_reducible show WEnd _ _ _ _ _ _ _ _ _ Flow.next _)); dsimp only [WEnd]))
local macro_rules | `(tactic| walk_at "callWith") => `(tactic| (k_here; (with_reducible refine' callWith_method1 ?_ ?he ?hp); (case he => k_dflt rfl); (case hp => k_dflt rfl)))
local macro_rules | `(tactic| k_steps) => `(tactic| repeat' (first | (k_unfold; (try dsimp only)) | (k_end; wrow_close) | walk1 | (dsimp only [List.cons_append, List.nil_append]; walk1) | (dsimp only) | fail "no step"))
/-! attributeNameState at any sign of a name -/
def exitC : List Nat := [61, 62, 47, 9, 10, 12, 32, 13]
def isL' (c : Nat) : Bool := decide (c ∈ letC)
def pieceN (c : Nat) (r : List Nat) : List Nat × List Nat := if isL c = true then (c :: r.takeWhile isL, r.dropWhile isL) else ([if c = 0 then 65533 else c], r)
theorem eq_is : PySem.Str.ofString "=" = ⟨#[61]⟩ := by decide +kernel
theorem gt_is : PySem.Str.ofString ">" = ⟨#[62]⟩ := by decide +kernel
theorem sl_is : PySem.Str.ofString "/" = ⟨#[47]⟩ := by decide +kernel
theorem let_ok {c : Nat} (h : isL c = true) : fltC c = [] ∧ c ∉ exitC := by
  have hc : c ∈ letC := of_decide_eq_true h
  have hall : ∀ d ∈ letC, fltC d = [] ∧ d ∉ exitC := by decide +kernel
  exact hall c hc
theorem tw_eq (r : List Nat) : r.takeWhile (fun ch => decide (ch ∈ letC) == true) = r.takeWhile isL := by
  congr 1
  funext ch
  unfold isL
  cases decide (ch ∈ letC) <;> rfl
theorem dw_eq (r : List Nat) : r.dropWhile (fun ch => decide (ch ∈ letC) == true) = r.dropWhile isL := by
  congr 1
  funext ch
  unfold isL
  cases decide (ch ∈ letC) <;> rfl
theorem attr_in {w : World} {hx hd' tq lf sx sd tx td ra el nl ct dl p : Nat} {κh κ κ' : Nat → Nat} {τ₀ τ₁ τ₂ τ₃ τ₄ σ₀ σ₁ : Nat} {S : SS} {bf st : Value} {vs qs us : List Value} {ep tep dep pep k1 k2 t1 t2 kd : Nat} {oC : Obj} {nmT nm val : PySem.Str} {fl : Bool} {c : Nat} {r : List Nat}
    (hc : rem S = c :: r) (hce : c ∉ exitC)
    (hD : oC.IsDictOf (PySem.strKind PG w) (ctRows kd k1 nmT k2 dl fl)) (hs : ((ct : Addr) == sysModules) = false)
    (hv : Errs vs S.n) (hbf : BfV S.bo bf) (hw : WF S) (hqs : qs.length ≤ 1000) (hus : us.length ≤ 1000) (hnm : nm.length ≤ 1000) (hnd : NQ6 sx sd tx td ra el) (hh : HQ hx hd' tq sx sd tx td ra el) (hq : AQ hx hd' tq ct dl p sx sd tx td ra el) :
    TellR w 20 200 (.ref 542) [.ref hx] (atF w hx hd' tq lf ct dl p sx sd tx td ra el nl κh κ κ' τ₀ τ₁ τ₂ τ₃ τ₄ σ₀ σ₁ S bf vs ep st qs tep oC us dep nm val t1 t2 pep)
      (fun rv f' rest => rv = .bool true ∧ ∃ (S' : SS) (a0 a1 a2 a3 a4 b0 b1 : Nat) (bv : Value) (vs' : List Value) (ep' te' pep' t1' : Nat) (nm' : PySem.Str) (refs : List Value) (ex : List (Addr × Obj)), nm'.cps.toList = nm.cps.toList ++ (pieceN c r).1 ∧ rem S' = (pieceN c r).2 ∧ WF S' ∧ BfV S'.bo bv ∧ Errs vs' S'.n ∧ Toks w refs ex (fltC c) ∧
        (∀ q ∈ ex, FreshA hx hd' tq ct dl p sx sd tx td ra el rest q.1) ∧ f' = atF w hx hd' tq lf ct dl p sx sd tx td ra el nl κh κ κ' a0 a1 a2 a3 a4 b0 b1 S' bv vs' ep' st (qs ++ refs) te' oC us dep nm' val t1' t2 pep' ++ ex) := by
  have ne1 : ∀ d : Nat, d ∈ exitC → ∀ x : PySem.Str, x = ⟨#[d]⟩ → ((⟨#[c]⟩ : PySem.Str) == x) = false := fun d hd x e => by
    rw [one_eq e, decide_eq_false_iff_not]
    rintro rfl
    exact hce hd
  have h1 := ne1 61 (by decide) _ eq_is
  have h3 := ne1 62 (by decide) _ gt_is
  have h5 := ne1 47 (by decide) _ sl_is
  have h4 : decide (c ∈ spcC) = false := by
    rw [decide_eq_false_iff_not]
    intro h
    refine hce ?_
    have hall : ∀ d ∈ spcC, d ∈ exitC := by decide
    exact hall c h
  cases hl : isL c with
  | true =>
    have e : pieceN c r = (c :: r.takeWhile isL, r.dropWhile isL) := by unfold pieceN; rw [if_pos hl]
    rw [e, (let_ok hl).1, ← tw_eq, ← dw_eq]
    exact attr_L hc h1 hl hD hs hv hbf hw hqs hus hnm hnd hh hq
  | false =>
    have e : pieceN c r = ([if c = 0 then 65533 else c], r) := by unfold pieceN; rw [if_neg (by rw [hl]; decide)]
    rw [e]
    by_cases h0 : c = 0
    · have h6 : ((⟨#[c]⟩ : PySem.Str) == PySem.Str.ofString "\x00") = true := by rw [one_eq zero_is, decide_eq_true_eq]; exact h0
      rw [if_pos h0, show fltC c = [icW] from by unfold fltC; rw [if_pos h0]]
      exact attr_N hc h1 hl h3 h4 h5 h6 hD hs hv hbf hw hqs hus hnm hnd hh hq
    · have h6 : ((⟨#[c]⟩ : PySem.Str) == PySem.Str.ofString "\x00") = false := by rw [one_eq zero_is, decide_eq_false_iff_not]; exact h0
      rw [if_neg h0]
      by_cases h7 : c ∈ [39, 34, 60]
      · rw [show fltC c = [qcW] from by unfold fltC; rw [if_neg h0, if_pos h7]]
        exact attr_Q hc h1 hl h3 h4 h5 h6 (by rw [quote_is, ones_any, decide_eq_true_eq]; exact h7) hD hs hv hbf hw hqs hus hnm hnd hh hq
      · rw [show fltC c = [] from by unfold fltC; rw [if_neg h0, if_neg h7]]
        exact attr_O hc h1 hl h3 h4 h5 h6 (by rw [quote_is, ones_any, decide_eq_false_iff_not]; exact h7) hD hs hv hbf hw hqs hus hnm hnd hh hq
/-! the pieces of a name -/
def partsN (l : List Nat) (b : Bool) : Nat := match l with
  | [] => 0
  | c :: r => (if isL c && b then 0 else 1) + partsN r (isL c)
theorem parts_fold (l : List Nat) : ∀ (d : Nat) (b : Bool), (l.foldl stepP (d, b)).1 = d + partsN l b := by
  induction l with
  | nil => intro d b; rfl
  | cons c r ih =>
    intro d b
    show (r.foldl stepP (stepP (d, b) c)).1 = _
    rw [show stepP (d, b) c = (d + (if isL c && b then 0 else 1), isL c) from rfl, ih]
    show d + (if isL c && b then 0 else 1) + partsN r (isL c) = d + ((if isL c && b then 0 else 1) + partsN r (isL c))
    omega
theorem partsF_is (l : List Nat) : (partsF l).1 = partsN l false := by
  unfold partsF
  rw [parts_fold]; omega
theorem partsN_drop (l : List Nat) : partsN l true = partsN (l.dropWhile isL) false := by
  induction l with
  | nil => rfl
  | cons c r ih =>
    cases hl : isL c with
    | true =>
      show (if isL c && true then 0 else 1) + partsN r (isL c) = _
      rw [List.dropWhile_cons_of_pos hl, hl, ih]; simp
    | false =>
      rw [List.dropWhile_cons_of_neg (by rw [hl]; decide)]
      show (if isL c && true then 0 else 1) + partsN r (isL c) = (if isL c && false then 0 else 1) + partsN r (isL c)
      rw [hl]; rfl
theorem partsN_piece (c : Nat) (r : List Nat) : partsN (c :: r) false = partsN (pieceN c r).2 false + 1 := by
  show (if isL c && false then 0 else 1) + partsN r (isL c) = _
  unfold pieceN
  cases hl : isL c with
  | true => rw [if_pos rfl, partsN_drop]; simp; omega
  | false => rw [if_neg (show ¬ (false = true) by decide)]; simp; omega
theorem mem_tw {pr : Nat → Bool} {d : Nat} : ∀ {l : List Nat}, d ∈ l.takeWhile pr → pr d = true
  | [], h => nomatch h
  | a :: l, h => by
    cases ha : pr a with
    | true =>
      rw [List.takeWhile_cons_of_pos ha] at h
      rcases List.mem_cons.mp h with rfl | h
      · exact ha
      · exact mem_tw h
    | false =>
      rw [List.takeWhile_cons_of_neg (by rw [ha]; decide)] at h
      cases h
/-- a name's sign, mended -/
def fixC (c : Nat) : Nat := if c = 0 then 65533 else c
theorem piece_app (c : Nat) (r more : List Nat) (hm : ∀ d, more.head? = some d → isL d = false) :
    (pieceN c (r ++ more)).1 = (pieceN c r).1 ∧ (pieceN c (r ++ more)).2 = (pieceN c r).2 ++ more := by
  unfold pieceN
  cases hl : isL c with
  | true =>
    rw [if_pos rfl, if_pos rfl]
    have key : ∀ l : List Nat, (l ++ more).takeWhile isL = l.takeWhile isL ∧ (l ++ more).dropWhile isL = l.dropWhile isL ++ more := by
      intro l
      induction l with
      | nil =>
        cases more with
        | nil => exact ⟨rfl, rfl⟩
        | cons d t =>
          have hd := hm d rfl
          exact ⟨List.takeWhile_cons_of_neg (by rw [hd]; decide), List.dropWhile_cons_of_neg (by rw [hd]; decide)⟩
      | cons d t ih =>
        cases hd : isL d with
        | true => exact ⟨by rw [List.cons_append, List.takeWhile_cons_of_pos hd, List.takeWhile_cons_of_pos hd, ih.1], by rw [List.cons_append, List.dropWhile_cons_of_pos hd, List.dropWhile_cons_of_pos hd, ih.2]⟩
        | false => exact ⟨by rw [List.cons_append, List.takeWhile_cons_of_neg (by rw [hd]; decide), List.takeWhile_cons_of_neg (by rw [hd]; decide)], by rw [List.cons_append, List.dropWhile_cons_of_neg (by rw [hd]; decide), List.dropWhile_cons_of_neg (by rw [hd]; decide)]; rfl⟩
    obtain ⟨k1, k2⟩ := key r
    exact ⟨by rw [k1], k2⟩
  | false =>
    rw [if_neg (show ¬ (false = true) by decide), if_neg (show ¬ (false = true) by decide)]
    exact ⟨rfl, rfl⟩
theorem piece_split (c : Nat) (r : List Nat) : (pieceN c r).1 ++ (pieceN c r).2.map fixC = (c :: r).map fixC := by
  unfold pieceN
  cases hl : isL c with
  | true =>
    rw [if_pos rfl]
    have h0 : ∀ d, isL d = true → fixC d = d := fun d hd => by
      have hall : ∀ e ∈ letC, fixC e = e := by decide +kernel
      exact hall d (of_decide_eq_true hd)
    have h1 : ∀ l : List Nat, (l.takeWhile isL).map fixC = l.takeWhile isL := fun l => by
      have : ∀ e ∈ l.takeWhile isL, fixC e = e := fun e he => h0 e (mem_tw he)
      exact (List.map_congr_left this).trans (List.map_id _)
    show (c :: r.takeWhile isL) ++ (r.dropWhile isL).map fixC = fixC c :: r.map fixC
    rw [h0 c hl, List.cons_append]
    conv => lhs; rw [← h1 r]
    rw [← List.map_append, List.takeWhile_append_dropWhile]
  | false =>
    rw [if_neg (show ¬ (false = true) by decide)]; rfl
theorem piece_faults (c : Nat) (r : List Nat) : fltC c ++ fltW (pieceN c r).2 = fltW (c :: r) := by
  have e0 : fltW (c :: r) = fltC c ++ fltW r := rfl
  rw [e0]
  unfold pieceN
  cases hl : isL c with
  | true =>
    rw [if_pos rfl]
    congr 1
    have h1 : ∀ l : List Nat, fltW (l.takeWhile isL) = [] := fun l => by
      unfold fltW
      rw [List.flatMap_eq_nil_iff]
      exact fun e he => (let_ok (mem_tw he)).1
    have h2 : fltW r = fltW (r.takeWhile isL ++ r.dropWhile isL) := by rw [List.takeWhile_append_dropWhile]
    rw [h2]
    unfold fltW
    rw [List.flatMap_append]
    have := h1 r
    unfold fltW at this
    rw [this]; rfl
  | false => rw [if_neg (show ¬ (false = true) by decide)]
end Mine
theorem Mine.off_u7 {M : Model} {A : Around} {env : Env} {Q : Flow → Shared → Prop} {E : Value → Shared → Prop} {s : Shared} (h : wpAny M A (execs [] env) Q E s) : wpAny M A (execs [] env) Q E s := by
  (try (walk1; fail "no"))
  w_top off
  exact h
namespace Mine
local macro_rules | `(tactic| k_ne) => `(tactic| first | exact (show Nq _ _ by with_reducible assumption) | exact Ne.symm (show Nq _ _ by with_reducible assumption) | (refine neN ?_; (try dsimp only); omega))
local macro_rules | `(tactic| k_room) => `(tactic| ((try simp only [depth_under_make, depth_under_kw, depth_in1, depth_deeper, depth_caller, ktrTop, recursionLimit] at *); omega))
local macro_rules | `(tactic| k_units) => `(tactic| ((have hcL9 := cLine_is); (try simp only [units_in1, units_deeper, Around.mark_units, units_caller, ktrTop] at *); omega))
local macro_rules | `(tactic| ktr_enter) => `(tactic| (refine' code_def ?k1 ?k2 ?k3 ?k4 ?k5 ?kA ?kF ?kK ?k6 ?k7 ?k8 ?k9 ?kB ?_ ?c2 ?c3 ?c4 ?c5; (case kA => exact rfl); (case kF => exact rfl); (case kK => first | exact rfl | assumption); (case k1 => k_asm); (case k2 => k_asm); (case k3 => k_asm); (case k4 => k_asm); (case k5 => k_asm); (case k6 => k_is); (case k7 => k_is); (case k8 => k_room); (case k9 => first | exact BindsTo.of_eq rfl | exact binds_K (by k_in) rfl (by k_is) rfl rfl rfl); (case c5 => decide); (case kB => exact locs rfl); (case c2 => exact rfl); (case c3 => exact rfl); (case c4 => exact rfl); k_whole; intro g' L' h' FG' F' N' B' X' T'; (try dsimp only); (try k_fold)))
local macro_rules | `(tactic| k_all) => `(tactic| (with_reducible assumption))
local macro_rules | `(tactic| tb_lt) => `(tactic| first | exact Pick.head | (refine' Pick.tail ?c; (case c => tb_lt)))
local macro_rules | `(tactic| tb_start) => `(tactic| first | exact Picks.nil | (refine' Picks.cons ?a ?b; (case a => tb_lt); (case b => tb_start)))
local macro_rules | `(tactic| tb_rel) => `(tactic| first | exact List.forall_mem_nil _ | (refine' List.forall_mem_cons.mpr ⟨?a, ?b⟩; (case a => k_all); (case b => tb_rel)))
local macro_rules | `(tactic| walk_at "TPost") => `(tactic| (dsimp only [TPost]))
local macro_rules | `(tactic| size_fits) => `(tactic| ((simp only [PySem.sizeLine_eq, List.size_toArray]); omega))
local macro_rules | `(tactic| k_gentoks) => `(tactic| (with_reducible refine' gen_toksP ?hp ?_; (case hp => first | omega | ((try simp only [List.length_cons]); omega)); intro tk htk))
local macro_rules | `(tactic| kstt_sub) => `(tactic| first | exact fun _ h => h | assumption | (refine' subCons ?a ?b; (case a => k_mem); (case b => kstt_sub)) | (refine' subTail ?a; (case a => kstt_sub)))
local macro_rules | `(tactic| kst_all) => `(tactic| first | exact List.forall_mem_nil _ | (refine' List.forall_mem_cons.mpr ⟨?a, ?b⟩; (case a => exact rfl); (case b => kst_all)))
local macro_rules | `(tactic| walk_at "MidEnd") => `(tactic| first
  | ((with_reducible show MidEnd _ _ _ _ _ _ _ Flow.next _); (refine' ⟨(tk8 _ _ _ _ _ _ _ _, _), _, _, _, rfl, ?F, ?N, ?ps, ?P⟩); (case F => assumption); (case N => (refine' nsub ?N1 ?N2; (case N1 => assumption); (case N2 => kstt_sub))); (case ps => kst_all); (case P => k_extra "mid"))
  | ((fail_if_success (with_reducible show MidEnd _ _ _ _ _ _ _ Flow.next _)); dsimp only [MidEnd]))
local macro_rules | `(tactic| walk_at "WEnd") => `(tactic| ((fail_if_success (with_reducible show WEnd _ _ _ _ _ _ _ _ _ Flow.next _)); dsimp only [WEnd]))
local macro_rules | `(tactic| walk_at "callWith") => `(tactic| (k_here; (with_reducible refine' callWith_method1 ?_ ?he ?hp); (case he => k_dflt rfl); (case hp => k_dflt rfl)))
local macro_rules | `(tactic| k_steps) => `(tactic| repeat' (first | (k_unfold; (try dsimp only)) | (k_end; wrow_close) | walk1 | (dsimp only [List.cons_append, List.nil_append]; walk1) | (dsimp only) | fail "no step"))
theorem add_len9 {x y : PySem.Str} {a b : Nat} (h1 : x.length ≤ a) (h2 : y.length ≤ b) : (x ++ y).length ≤ a + b := by
  show (x.cps ++ y.cps).size ≤ a + b
  rw [Array.size_append]
  exact Nat.add_le_add h1 h2
theorem rep_fix (x : PySem.Str) : (Txt.replace x (Str.ofString "\x00") (Str.ofString "\ufffd")).cps.toList = x.cps.toList.map fixC := by
  have e0 : (Str.ofString "\x00").cps.toList = [0] := by decide +kernel
  have e1 : (Str.ofString "\ufffd").cps.toList = [65533] := by decide +kernel
  have e2 : (Str.ofString "\x00").length = 1 := by decide +kernel
  refine replF (F := fun l => l.map fixC) (by rw [e2]; exact Nat.le_refl _) (fun r => ?_) (fun c r h => ?_) rfl
  · rw [e0, e1]
    show (([0] ++ r).map fixC) = [65533] ++ r.map fixC
    simp [fixC]
  · have hc : c ≠ 0 := fun e => h (by rw [e0, e2, e]; rfl)
    show fixC c :: r.map fixC = c :: r.map fixC
    unfold fixC
    rw [if_neg hc]
theorem add_t {prog : Program} {w : World} {A : Around} {E : Value → Shared → Prop} {s : Shared} {h₀ : Heap} {L : Addr} {m : PySem.Str → Option Value} {news : List (Addr × Obj)} {l b n k : Nat} {vs ws : List Value} {Q : Value → Shared → Prop} (F : Fr h₀ L s.heap m) (N : News h₀ L s.heap news) (hl : (l, W.listOf vs.toArray n) ∈ news) (hb : (b, W.listOf ws.toArray k) ∈ news) (hz : vs.length + ws.length ≤ 1001)
    (h : ∀ (D : Nat) h', Fr h₀ L h' m → News h₀ L h' ((D, W.listOf (vs ++ ws).toArray 0) :: news) → AllLt D news → Q (.ref D) { s with heap := h' }) :
    wpAny (model prog w) A (binaryOp .Add (.ref l) (.ref b)) Q E s :=
  add_lists F N ⟨_, (N _ hl).1, rfl, _, rfl⟩ ⟨_, (N _ hb).1, rfl, _, rfl⟩ (fun h' F' N' => h _ h' F' N' (allLt_of fun p hp => Heap.lt_size (N p hp).1)) (by rw [PySem.sizeLine_eq]; omega)
section
local macro_rules | `(tactic| walk_at "call builtin:str.replace") => `(tactic| (k_here; refine' replace_t ?u ?v ?uv ?yz ?hl ?hz ?hx ?_; (case u => omega); (case v => omega); (case uv => omega); (case yz => decide +kernel); (case hl => decide +kernel); (case hz => decide +kernel); (case hx => omega); intro tr kr hrle))
local macro_rules | `(tactic| walk_at "call builtin:len") => `(tactic| (k_here; (with_reducible show wpAny _ _ (call (Value.builtin "len") [Value.ref _]) _ _ _); k_dflt (refine' len_list_t ?N ?hm ?z ?_; (case N => assumption); (case hm => k_mem); (case z => (try dsimp only [List.length_append]); omega))))
local macro_rules | `(tactic| walk_at "binaryOp Add ref ref") => `(tactic| (k_here; (with_reducible show wpAny _ _ (binaryOp _ (Value.ref _) (Value.ref _)) _ _ _); k_dflt (refine' add_t ?F ?N ?hl ?hb ?hz ?_; (case F => assumption); (case N => assumption); (case hl => k_mem); (case hb => k_mem); (case hz => omega)); intro d9 h9 F9 N9 l9))
local macro_rules | `(tactic| walk_at "call ref") => `(tactic| (k_here; k_dflt (refine' TellR.use (small_t ?s1) ?k1 ?k2 ?k3 ?k4 ?k5 ?kK ?kp ?ko ?kd ?ku ?k0 ?_; (case k1 => k_asm); (case k2 => k_asm); (case k3 => k_asm); (case k4 => k_asm); (case k5 => k_asm); (case kK => first | exact rfl | assumption); (case kp => tb_start); (case ko => tb_rel); (case s1 => k_extra "sl"); (case kd => k_room); (case ku => k_units); (case k0 => first | exact (show 1 ≤ _ by (try dsimp only); omega) | exact Nat.zero_le _); intro r9 f9 h9 tk9 p9 F9 N9 hP9; obtain ⟨y9, u9, e1, hy9, e2⟩ := hP9; subst e1; subst e2; (try dsimp only [List.nil_append, List.cons_append] at N9); (try k_fold))))
theorem b4 {w : World} {du rw' fp hp : Nat} {dep rep fep hep : Nat} {us rus fus hvs : List Value} {A : List (Addr × Obj)} {v1 v2 v3 : Value} {dn : Bool} {sx rx : PySem.Str} {st rt : Nat} {Post : (PySem.Str → Option Value) → List (Addr × Obj) → Prop}
    (hs : sx.length ≤ 100) (hr : rx.length ≤ 100) (hul : us.length ≤ 200) (hfl : fus.length ≤ 200) (hrl : rus.length ≤ 100) (hhl : hvs.length ≤ 100)
    (hnext : ∀ (du' dep' : Nat) (y : PySem.Str) (yt : Nat), y.cps.toList = (sx.cps.toList ++ rx.cps.toList.map fixC).map lw → AllLt du' ((du, W.listOf us.toArray dep) :: (rw', W.listOf rus.toArray rep) :: (fp, W.listOf fus.toArray fep) :: (hp, W.listOf hvs.toArray hep) :: A) →
      BodyC w 7 [(Str.ofString "t", v1), (Str.ofString "kind", v2), (Str.ofString "flag", v3), (Str.ofString "done", .bool dn), (Str.ofString "heads", .ref hp), (Str.ofString "due", .ref du'), (Str.ofString "row", .ref rw'), (Str.ofString "name", .str y yt), (Str.ofString "last", .bool (((rus.length : Nat) : Int) + 1 == ((hvs.length : Nat) : Int)))]
        ((du', W.listOf (us ++ fus).toArray dep') :: (rw', W.listOf rus.toArray rep) :: (hp, W.listOf hvs.toArray hep) :: A) Post) :
    BodyT w 4 [(Str.ofString "t", v1), (Str.ofString "kind", v2), (Str.ofString "flag", v3), (Str.ofString "done", .bool dn), (Str.ofString "heads", .ref hp), (Str.ofString "due", .ref du), (Str.ofString "row", .ref rw'), (Str.ofString "start", .str sx st), (Str.ofString "rest", .str rx rt), (Str.ofString "faults", .ref fp)]
      ((du, W.listOf us.toArray dep) :: (rw', W.listOf rus.toArray rep) :: (fp, W.listOf fus.toArray fep) :: (hp, W.listOf hvs.toArray hep) :: A) Post := by
  unfold BodyT KF PG
  k_fill
  intro mean mg mb base h₀ L fa cd m s Q E B F hps X N T hE htk hret
  rw [← kstB_self hps] at F
  clear hps
  simp only [LB, forBody, LR, recOfWalk, List.drop_succ_cons, List.drop_zero]
  (try k_fold)
  k_with_none
  k_with "sl" => ((rename (Txt.replace _ _ _).length ≤ _ => hz9); exact Nat.le_trans (add_len9 hs (Nat.le_trans hz9 hr)) (by decide))
  repeat' (first | ((fail_if_success (with_reducible show wpAny _ _ (execs (PySem.Stmt.If _ _ _ _ :: _) _) _ _ _)); first | (k_unfold; (try dsimp only)) | (k_end; wrow_close) | walk1 | (dsimp only [List.cons_append, List.nil_append]; walk1) | (dsimp only) | fail "no step"))
  (rename Fr _ _ _ _ => f9)
  (rename News _ _ _ _ => n9)
  (rename AllLt _ _ => l9)
  (rename _ = List.map lw _ => hy9)
  obtain ⟨D9, eD9⟩ := News.addr n9
  subst eD9
  have hy8 := hy9
  rw [show (sx ++ Txt.replace rx (Str.ofString "\x00") (Str.ofString "\ufffd") : PySem.Str).cps.toList = sx.cps.toList ++ rx.cps.toList.map fixC from by
    rw [← rep_fix]; show (sx.cps ++ _).toList = _; rw [Array.toList_append]] at hy8
  refine' BodyC.use (hnext D9 0 _ _ hy8 l9) n9 ?ts f9 ?tps B X T hE ?tret
  case ts => kstt_sub
  case tps => kst_all
  case tret => exact fun h' tk' m' news' hF hN hP => hret h' tk' m' news' hF hN hP
end
end Mine
theorem Mine.off_v1 {M : Model} {A : Around} {env : Env} {Q : Flow → Shared → Prop} {E : Value → Shared → Prop} {s : Shared} (h : wpAny M A (execs [] env) Q E s) : wpAny M A (execs [] env) Q E s := by
  (try (walk1; fail "no"))
  w_top off
  exact h
namespace Mine
local macro_rules | `(tactic| k_ne) => `(tactic| first | exact (show Nq _ _ by with_reducible assumption) | exact Ne.symm (show Nq _ _ by with_reducible assumption) | (refine neN ?_; (try dsimp only); omega))
local macro_rules | `(tactic| k_room) => `(tactic| ((try simp only [depth_under_make, depth_under_kw, depth_in1, depth_deeper, depth_caller, ktrTop, recursionLimit] at *); omega))
local macro_rules | `(tactic| k_units) => `(tactic| ((have hcL9 := cLine_is); (try simp only [units_in1, units_deeper, Around.mark_units, units_caller, ktrTop] at *); omega))
local macro_rules | `(tactic| ktr_enter) => `(tactic| (refine' code_def ?k1 ?k2 ?k3 ?k4 ?k5 ?kA ?kF ?kK ?k6 ?k7 ?k8 ?k9 ?kB ?_ ?c2 ?c3 ?c4 ?c5; (case kA => exact rfl); (case kF => exact rfl); (case kK => first | exact rfl | assumption); (case k1 => k_asm); (case k2 => k_asm); (case k3 => k_asm); (case k4 => k_asm); (case k5 => k_asm); (case k6 => k_is); (case k7 => k_is); (case k8 => k_room); (case k9 => first | exact BindsTo.of_eq rfl | exact binds_K (by k_in) rfl (by k_is) rfl rfl rfl); (case c5 => decide); (case kB => exact locs rfl); (case c2 => exact rfl); (case c3 => exact rfl); (case c4 => exact rfl); k_whole; intro g' L' h' FG' F' N' B' X' T'; (try dsimp only); (try k_fold)))
local macro_rules | `(tactic| k_all) => `(tactic| (with_reducible assumption))
local macro_rules | `(tactic| tb_lt) => `(tactic| first | exact Pick.head | (refine' Pick.tail ?c; (case c => tb_lt)))
local macro_rules | `(tactic| tb_start) => `(tactic| first | exact Picks.nil | (refine' Picks.cons ?a ?b; (case a => tb_lt); (case b => tb_start)))
local macro_rules | `(tactic| tb_rel) => `(tactic| first | exact List.forall_mem_nil _ | (refine' List.forall_mem_cons.mpr ⟨?a, ?b⟩; (case a => k_all); (case b => tb_rel)))
local macro_rules | `(tactic| walk_at "TPost") => `(tactic| (dsimp only [TPost]))
local macro_rules | `(tactic| size_fits) => `(tactic| ((simp only [PySem.sizeLine_eq, List.size_toArray]); omega))
local macro_rules | `(tactic| k_gentoks) => `(tactic| (with_reducible refine' gen_toksP ?hp ?_; (case hp => first | omega | ((try simp only [List.length_cons]); omega)); intro tk htk))
local macro_rules | `(tactic| kstt_sub) => `(tactic| first | exact fun _ h => h | assumption | (refine' subCons ?a ?b; (case a => k_mem); (case b => kstt_sub)) | (refine' subTail ?a; (case a => kstt_sub)))
local macro_rules | `(tactic| kst_all) => `(tactic| first | exact List.forall_mem_nil _ | (refine' List.forall_mem_cons.mpr ⟨?a, ?b⟩; (case a => exact rfl); (case b => kst_all)))
local macro_rules | `(tactic| walk_at "MidEnd") => `(tactic| first
  | ((with_reducible show MidEnd _ _ _ _ _ _ _ Flow.next _); (refine' ⟨(tk8 _ _ _ _ _ _ _ _, _), _, _, _, rfl, ?F, ?N, ?ps, ?P⟩); (case F => assumption); (case N => (refine' nsub ?N1 ?N2; (case N1 => assumption); (case N2 => kstt_sub))); (case ps => kst_all); (case P => k_extra "mid"))
  | ((fail_if_success (with_reducible show MidEnd _ _ _ _ _ _ _ Flow.next _)); dsimp only [MidEnd]))
local macro_rules | `(tactic| walk_at "WEnd") => `(tactic| ((fail_if_success (with_reducible show WEnd _ _ _ _ _ _ _ _ _ Flow.next _)); dsimp only [WEnd]))
local macro_rules | `(tactic| walk_at "callWith") => `(tactic| (k_here; (with_reducible refine' callWith_method1 ?_ ?he ?hp); (case he => k_dflt rfl); (case hp => k_dflt rfl)))
local macro_rules | `(tactic| k_steps) => `(tactic| repeat' (first | (k_unfold; (try dsimp only)) | (k_end; wrow_close) | walk1 | (dsimp only [List.cons_append, List.nil_append]; walk1) | (dsimp only) | fail "no step"))
/-! the calls of one turn -/
theorem TellO.grow {w : World} {D U : Nat} {f : Value} {args : List Value} {O front ex : List (Addr × Obj)} {Post Post' : Value → List (Addr × Obj) → List (Addr × Obj) → Prop} (h : TellO w D U f args O front Post) (he : ∀ q ∈ front, ∀ p ∈ ex, p.1 ≠ q.1)
    (hP : ∀ r f' rest, (∀ q ∈ front ++ ex, ∀ p ∈ rest, p.1 ≠ q.1) → Post r f' (ex ++ rest) → Post' r (f' ++ ex) rest) : TellO w D U f args O (front ++ ex) Post' := by
  intro rest hO off mean mg mb dp un gd cn cs a ccd cl outer A₀ base h₀ L m s Q E B F X N T hk hd hu ret
  rw [List.append_assoc] at N
  refine h (ex ++ rest) (fun q hq => List.mem_append_right _ (hO q hq)) (fun q hq p hp => ?_) mean mg mb dp un gd cn cs a ccd cl outer A₀ base h₀ L m s Q E B F X N T hk hd hu fun r n' h' tk' F' N' ⟨f', hP', e⟩ => ret r n' h' tk' F' N' ⟨f' ++ ex, hP r f' rest off hP', by rw [e, List.append_assoc]⟩
  rcases List.mem_append.mp hp with h1 | h1
  · exact he q hq p h1
  · exact off q (List.mem_append_left _ hq) p h1
theorem off_left {f1 f2 rest : List (Addr × Obj)} (h : ∀ q ∈ f1 ++ f2, ∀ p ∈ rest, p.1 ≠ q.1) : ∀ q ∈ f1, ∀ p ∈ rest, p.1 ≠ q.1 := fun q hq => h q (List.mem_append_left _ hq)
theorem off_same {f1 f2 rest : List (Addr × Obj)} (h : ∀ q ∈ f1, ∀ p ∈ rest, p.1 ≠ q.1) (e : f1.map Prod.fst = f2.map Prod.fst) : ∀ q ∈ f2, ∀ p ∈ rest, p.1 ≠ q.1 := by
  intro q hq p hp
  have h1 : q.1 ∈ f1.map Prod.fst := by rw [e]; exact List.mem_map_of_mem hq
  obtain ⟨q', hq', e'⟩ := List.mem_map.mp h1
  rw [← e']; exact h q' hq' p hp
theorem off_in {f rest : List (Addr × Obj)} {l : List Addr} (h : ∀ a ∈ l, ∀ p ∈ rest, p.1 ≠ a) (e : f.map Prod.fst = l) : ∀ q ∈ f, ∀ p ∈ rest, p.1 ≠ q.1 :=
  fun q hq p hp => h q.1 (e ▸ List.mem_map_of_mem hq) p hp
theorem off_app {f g rest : List (Addr × Obj)} (h1 : ∀ q ∈ f, ∀ p ∈ rest, p.1 ≠ q.1) (h2 : ∀ q ∈ g, ∀ p ∈ rest, p.1 ≠ q.1) : ∀ q ∈ f ++ g, ∀ p ∈ rest, p.1 ≠ q.1 :=
  fun q hq => (List.mem_append.mp hq).elim (h1 q) (h2 q)
/-- new objects of a turn, apart from the tag's and the reader's -/
def Apt (hx hd' tq ct dl p sx sd tx td ra el : Nat) (ex : List (Addr × Obj)) : Prop := ∀ q ∈ ex, FreshA hx hd' tq ct dl p sx sd tx td ra el [] q.1
theorem FreshA.nil {hx hd' tq ct dl p sx sd tx td ra el e : Nat} {R : List (Addr × Obj)} (h : FreshA hx hd' tq ct dl p sx sd tx td ra el R e) : FreshA hx hd' tq ct dl p sx sd tx td ra el [] e := by
  obtain ⟨h1, h2, h3, h4, h5, h6, h7, h8, h9, h10, h11, h12, -⟩ := h
  exact ⟨h1, h2, h3, h4, h5, h6, h7, h8, h9, h10, h11, h12, trivial⟩
theorem FreshA.lt {hx hd' tq ct dl p sx sd tx td ra el e : Nat} {R : List (Addr × Obj)} (h : FreshA hx hd' tq ct dl p sx sd tx td ra el R e) : ∀ a ∈ [hx, hd', tq, ct, dl, p, sx, sd, tx, td, ra, el], a < e := by
  obtain ⟨h1, h2, h3, h4, h5, h6, h7, h8, h9, h10, h11, h12, -⟩ := h
  intro a ha
  simp only [List.mem_cons, List.not_mem_nil, or_false] at ha
  rcases ha with rfl | rfl | rfl | rfl | rfl | rfl | rfl | rfl | rfl | rfl | rfl | rfl <;> assumption
theorem FreshA.all {hx hd' tq ct dl p sx sd tx td ra el e : Nat} {R : List (Addr × Obj)} (h : FreshA hx hd' tq ct dl p sx sd tx td ra el R e) : ∀ q ∈ R, q.1 < e := by
  obtain ⟨-, -, -, -, -, -, -, -, -, -, -, -, h⟩ := h
  exact tb_ltOf h
theorem apt_off {hx hd' tq ct dl p sx sd tx td ra el : Nat} {ex f : List (Addr × Obj)} (h : Apt hx hd' tq ct dl p sx sd tx td ra el ex) (e : ∀ a ∈ f.map Prod.fst, a ∈ [hx, hd', tq, ct, dl, p, sx, sd, tx, td, ra, el]) : ∀ q ∈ f, ∀ r ∈ ex, r.1 ≠ q.1 :=
  fun q hq r hr => Nat.ne_of_gt ((h r hr).lt q.1 (e q.1 (List.mem_map_of_mem hq)))
theorem fresh_off {hx hd' tq ct dl p sx sd tx td ra el : Nat} {ex R rest : List (Addr × Obj)} (h : ∀ q ∈ ex, FreshA hx hd' tq ct dl p sx sd tx td ra el R q.1) (hs : ∀ q ∈ rest, q ∈ R) : ∀ q ∈ ex, ∀ r ∈ rest, r.1 ≠ q.1 :=
  fun q hq r hr => Nat.ne_of_lt ((h q hq).all r (hs r hr))
/-- what stands after j calls of attributeNameState within one name -/
def Run (w : World) (hx hd' tq lf ct dl p sx sd tx td ra el nl : Nat) (κh κ κ' : Nat → Nat) (st : Value) (qs : List Value) (oC : Obj) (us : List Value) (dep : Nat) (val : PySem.Str) (t2 : Nat) (s0 tl r : List Nat) (j : Nat) (f : List (Addr × Obj)) : Prop :=
  ∃ (a0 a1 a2 a3 a4 b0 b1 : Nat) (S : SS) (bf : Value) (vs : List Value) (ep te pep t1 : Nat) (nm : PySem.Str) (refs : List Value) (exq ex : List (Addr × Obj)) (ws : List PySem.Str) (q : List Nat),
    rem S = q ++ tl ∧ partsN q false + j = partsN r false ∧ nm.cps.toList ++ q.map fixC = s0 ++ r.map fixC ∧ ws ++ fltW q = fltW r ∧ Toks w refs exq ws ∧ (∀ q ∈ exq, q ∈ ex) ∧ WF S ∧ BfV S.bo bf ∧ Errs vs S.n ∧ Apt hx hd' tq ct dl p sx sd tx td ra el ex ∧ (∀ c ∈ q, c ∉ exitC) ∧
    f = atF w hx hd' tq lf ct dl p sx sd tx td ra el nl κh κ κ' a0 a1 a2 a3 a4 b0 b1 S bf vs ep st (qs ++ refs) te oC us dep nm val t1 t2 pep ++ ex
theorem fltW_len (l : List Nat) : (fltW l).length ≤ l.length := by
  induction l with
  | nil => exact Nat.le_refl _
  | cons c r ih =>
    have e0 : fltW (c :: r) = fltC c ++ fltW r := rfl
    have h1 : (fltC c).length ≤ 1 := by
      unfold fltC
      split
      · exact Nat.le_refl _
      · split
        · exact Nat.le_refl _
        · exact Nat.zero_le _
    rw [e0, List.length_append, List.length_cons]; omega
theorem str_len9 (x : PySem.Str) : x.cps.toList.length = x.length := Array.length_toList
theorem piece2_in {c d : Nat} {r : List Nat} (h : d ∈ (pieceN c r).2) : d ∈ r := by
  unfold pieceN at h
  cases hl : isL c with
  | true => rw [hl, if_pos rfl] at h; exact (List.dropWhile_sublist _).subset h
  | false => rw [hl, if_neg (by decide)] at h; exact h
theorem run_step {w : World} {hx hd' tq lf ct dl p sx sd tx td ra el nl : Nat} {κh κ κ' : Nat → Nat} {st : Value} {qs us : List Value} {oC : Obj} {dep t2 k1 k2 kd : Nat} {val nmT : PySem.Str} {fl : Bool} {s0 tl r : List Nat} {O : List (Addr × Obj)} {j : Nat} {f : List (Addr × Obj)}
    (hD : oC.IsDictOf (PySem.strKind PG w) (ctRows kd k1 nmT k2 dl fl)) (hs : ((ct : Addr) == sysModules) = false) (hqs : qs.length ≤ 500) (hus : us.length ≤ 500) (hsl : s0.length + r.length ≤ 100) (hnd : NQ6 sx sd tx td ra el) (hh : HQ hx hd' tq sx sd tx td ra el) (hq : AQ hx hd' tq ct dl p sx sd tx td ra el)
    (htl : ∀ d, tl.head? = some d → isL d = false) (hj : j < partsN r false) (hR : Run w hx hd' tq lf ct dl p sx sd tx td ra el nl κh κ κ' st qs oC us dep val t2 s0 tl r j f) :
    TellO w 20 200 (.ref 542) [.ref hx] O f (fun rv f' rest => rv = .bool true ∧ Run w hx hd' tq lf ct dl p sx sd tx td ra el nl κh κ κ' st qs oC us dep val t2 s0 tl r (j + 1) f' ∧ ∀ q ∈ f', ∀ p ∈ rest, p.1 ≠ q.1) := by
  obtain ⟨a0, a1, a2, a3, a4, b0, b1, S, bf, vs, ep, te, pep, t1, nm, refs, exq, ex, ws, q, h1, h2, h3, h4, h5, hex, h6, h7, h8, h9, h10, rfl⟩ := hR
  cases q with
  | nil => exfalso; have e0 : partsN [] false = 0 := rfl; omega
  | cons c q =>
    obtain ⟨k1', k2'⟩ := piece_app c q tl htl
    have hnl : nm.length ≤ 100 := by
      have h9 := congrArg List.length h3
      simp only [List.length_append, List.length_map] at h9
      rw [str_len9] at h9; omega
    have hrl : refs.length ≤ 100 := by
      have h9 := congrArg List.length h4
      have h10 := fltW_len r
      rw [List.length_append] at h9
      rw [h5.len]; omega
    refine TellO.grow (TellR.toO (attr_in (r := q ++ tl) (by rw [h1]; rfl) (h10 c (.head _)) hD hs h8 h7 h6 (by rw [List.length_append]; omega) (by omega) (by omega) hnd hh hq)) (apt_off h9 (by intro a ha; exact ha)) ?_
    rintro rv f' rest off ⟨rfl, S', c0, c1, c2, c3, c4, d0, d1, bv, vs', ep', te', pep', t1', nm', refs', ex', i1, i2, i3, i4, i5, i6, i7, rfl⟩
    refine ⟨rfl, ⟨c0, c1, c2, c3, c4, d0, d1, S', bv, vs', ep', te', pep', t1', nm', refs ++ refs', exq ++ ex', ex' ++ ex, ws ++ fltC c, (pieceN c q).2, ?_, ?_, ?_, ?_, h5.app i6, ?_, i3, i4, i5, ?_, ?_, ?_⟩, ?_⟩
    · rw [i2, k2']
    · have := partsN_piece c q; omega
    · rw [i1, k1', List.append_assoc, piece_split]; exact h3
    · rw [List.append_assoc, piece_faults]; exact h4
    · intro x hx
      rcases List.mem_append.mp hx with h | h
      · exact List.mem_append_right _ (hex x h)
      · exact List.mem_append_left _ h
    · intro x hx
      rcases List.mem_append.mp hx with h | h
      · exact (i7 x h).nil
      · exact h9 x h
    · exact fun d hd => h10 d (.tail _ (piece2_in hd))
    · simp only [List.append_assoc]
    · refine off_app (off_app (off_same (off_left off) rfl) (fresh_off i7 fun q hq => List.mem_append_right _ hq)) fun q hq => off q (List.mem_append_right _ hq)
end Mine
namespace Mine
/-! the last call of a turn -/
def dupL (nm : PySem.Str) (prs : List (PySem.Str × PySem.Str)) : List PySem.Str := if nm ∈ prs.map Prod.fst then [dupW] else []
def eofW : PySem.Str := Str.ofString "eof-in-attribute-name"
/-- what stands behind a name that did not end the tag -/
def Out0 (w : World) (hx hd' tq lf ct dl p sx sd tx td ra el nl : Nat) (κh κ κ' : Nat → Nat) (qs : List Value) (oC : Obj) (us : List Value) (dep : Nat) (val : PySem.Str) (t2 : Nat) (nmL tl : List Nat) (ws : List PySem.Str) (prs : List (PySem.Str × PySem.Str)) (f : List (Addr × Obj)) : Prop :=
  ∃ (a0 a1 a2 a3 a4 b0 b1 : Nat) (S : SS) (bf : Value) (vs : List Value) (ep te pep t1 q' : Nat) (nm : PySem.Str) (refs : List Value) (exq ex : List (Addr × Obj)),
    rem S = tl ∧ nm.cps.toList = nmL ∧ Toks w refs exq (ws ++ dupL nm prs) ∧ (∀ q ∈ exq, q ∈ ex) ∧ WF S ∧ BfV S.bo bf ∧ Errs vs S.n ∧ Apt hx hd' tq ct dl p sx sd tx td ra el ex ∧
    f = atF w hx hd' tq lf ct dl p sx sd tx td ra el nl κh κ κ' a0 a1 a2 a3 a4 b0 b1 S bf vs ep (.ref q') (qs ++ refs) te oC us dep nm val t1 t2 pep ++ ex
/-- what stands behind the end of a start tag -/
def OutS (w : World) (hx hd' tq lf ct dl p sx sd tx td ra el nl : Nat) (κh κ κ' : Nat → Nat) (qs : List Value) (val : PySem.Str) (fl : Bool) (yL nmL : List Nat) (ws : List PySem.Str) (prs : List (PySem.Str × PySem.Str)) (f : List (Addr × Obj)) : Prop :=
  ∃ (a0 a1 a2 a3 a4 b0 b1 : Nat) (S : SS) (bf : Value) (vs : List Value) (ep te q' da u1 u2 : Nat) (oC' oD : Obj) (nm y : PySem.Str) (ps : List (PySem.Str × Value)) (refs : List Value) (exq ex : List (Addr × Obj)),
    rem S = [] ∧ nm.cps.toList = nmL ∧ y.cps.toList = yL ∧ Toks w refs exq (ws ++ dupL nm prs) ∧ (∀ q ∈ exq, q ∈ ex) ∧ WF S ∧ BfV S.bo bf ∧ Errs vs S.n ∧ Apt hx hd' tq ct dl p sx sd tx td ra el ex ∧
    SV ps (prs ++ [(nm, val)]) ∧ oD.IsDictOf (PySem.strKind PG w) (keepL ps) ∧ oC'.IsDictOf (PySem.strKind PG w) (ctRows 3 u1 y u2 da fl) ∧ (da, oD) ∈ ex ∧
    f = [(hx, instObj 762 hd'), (hd', hdD8 w κh sx lf tq (.ref q') (.ref ct)), (tq, W.listOf (qs ++ refs ++ [Value.ref ct]).toArray te), (ct, oC')] ++ (stS w sx sd tx td ra el nl κ κ' a0 a1 a2 a3 a4 b0 b1 S bf vs ep ++ ex)
/-- what stands behind the end of an end tag -/
def OutE (w : World) (hx hd' tq lf ct dl p sx sd tx td ra el nl : Nat) (κh κ κ' : Nat → Nat) (qs us : List Value) (dep : Nat) (val : PySem.Str) (t2 : Nat) (fl : Bool) (yL nmL : List Nat) (ws : List PySem.Str) (prs : List (PySem.Str × PySem.Str)) (f : List (Addr × Obj)) : Prop :=
  ∃ (a0 a1 a2 a3 a4 b0 b1 : Nat) (S : SS) (bf : Value) (vs : List Value) (ep te pep t1 q' u1 u2 : Nat) (oC' : Obj) (nm y : PySem.Str) (refs : List Value) (exq ex : List (Addr × Obj)),
    rem S = [] ∧ nm.cps.toList = nmL ∧ y.cps.toList = yL ∧ Toks w refs exq (ws ++ dupL nm prs ++ (atW :: if fl then [scW] else [])) ∧ (∀ q ∈ exq, q ∈ ex) ∧ WF S ∧ BfV S.bo bf ∧ Errs vs S.n ∧ Apt hx hd' tq ct dl p sx sd tx td ra el ex ∧
    oC'.IsDictOf (PySem.strKind PG w) (ctRows 4 u1 y u2 dl fl) ∧
    f = atF w hx hd' tq lf ct dl p sx sd tx td ra el nl κh κ κ' a0 a1 a2 a3 a4 b0 b1 S bf vs ep (.ref q') (qs ++ refs ++ [Value.ref ct]) te oC' us dep nm val t1 t2 pep ++ ex
section
variable {w : World} {hx hd' tq lf ct dl p sx sd tx td ra el nl : Nat} {κh κ κ' : Nat → Nat} {st : Value} {qs us : List Value} {oC : Obj} {dep t2 k1 k2 kd : Nat} {val nmT : PySem.Str} {fl : Bool} {s0 tl r : List Nat} {O : List (Addr × Obj)} {prs : List (PySem.Str × PySem.Str)} {f : List (Addr × Obj)}
theorem run_end (hsl : s0.length + r.length ≤ 100) (hR : Run w hx hd' tq lf ct dl p sx sd tx td ra el nl κh κ κ' st qs oC us dep val t2 s0 tl r (partsN r false) f) :
    ∃ (a0 a1 a2 a3 a4 b0 b1 : Nat) (S : SS) (bf : Value) (vs : List Value) (ep te pep t1 : Nat) (nm : PySem.Str) (refs : List Value) (exq ex : List (Addr × Obj)),
    rem S = tl ∧ nm.cps.toList = s0 ++ r.map fixC ∧ Toks w refs exq (fltW r) ∧ (∀ q ∈ exq, q ∈ ex) ∧ WF S ∧ BfV S.bo bf ∧ Errs vs S.n ∧ Apt hx hd' tq ct dl p sx sd tx td ra el ex ∧ nm.length ≤ 100 ∧ refs.length ≤ 100 ∧
    f = atF w hx hd' tq lf ct dl p sx sd tx td ra el nl κh κ κ' a0 a1 a2 a3 a4 b0 b1 S bf vs ep st (qs ++ refs) te oC us dep nm val t1 t2 pep ++ ex := by
  obtain ⟨a0, a1, a2, a3, a4, b0, b1, S, bf, vs, ep, te, pep, t1, nm, refs, exq, ex, ws, q, h1, h2, h3, h4, h5, hex, h6, h7, h8, h9, h10, rfl⟩ := hR
  have hq : q = [] := by
    cases q with
    | nil => rfl
    | cons c q => exfalso; have := partsN_piece c q; omega
  subst hq
  have e0 : fltW [] = [] := rfl
  rw [e0, List.append_nil] at h4
  rw [List.map_nil, List.append_nil] at h3
  subst h4
  refine ⟨a0, a1, a2, a3, a4, b0, b1, S, bf, vs, ep, te, pep, t1, nm, refs, exq, ex, h1, h3, h5, hex, h6, h7, h8, h9, ?_, ?_, rfl⟩
  · have h9 := congrArg List.length h3
    simp only [List.length_append, List.length_map] at h9
    rw [str_len9] at h9; omega
  · rw [h5.len]; have := fltW_len r; omega
theorem exit_1 {e : Nat} {more : List Nat} (he : e = 61 ∨ e = 47 ∨ e = 32 ∨ e = 12)
    (hpr : Prs us O prs) (hD : oC.IsDictOf (PySem.strKind PG w) (ctRows kd k1 nmT k2 dl fl)) (hs : ((ct : Addr) == sysModules) = false) (hqs : qs.length ≤ 500) (hus : us.length ≤ 500) (hsl : s0.length + r.length ≤ 100) (hnd : NQ6 sx sd tx td ra el) (hh : HQ hx hd' tq sx sd tx td ra el) (hq : AQ hx hd' tq ct dl p sx sd tx td ra el)
    (hR : Run w hx hd' tq lf ct dl p sx sd tx td ra el nl κh κ κ' st qs oC us dep val t2 s0 (e :: more) r (partsN r false) f) :
    TellO w 20 200 (.ref 542) [.ref hx] O f (fun rv f' rest => rv = .bool true ∧ Out0 w hx hd' tq lf ct dl p sx sd tx td ra el nl κh κ κ' qs oC us dep val t2 ((s0 ++ r.map fixC).map lw) more (fltW r) prs f' ∧ ∀ q ∈ f', ∀ p ∈ rest, p.1 ≠ q.1) := by
  obtain ⟨a0, a1, a2, a3, a4, b0, b1, S, bf, vs, ep, te, pep, t1, nm, refs, exq, ex, h1, h3, h5, hex, h6, h7, h8, h9, hnl, hrl, rfl⟩ := run_end hsl hR
  have g2 : decide (e ∈ letC) = false := by rcases he with rfl | rfl | rfl | rfl <;> decide +kernel
  have g3 : ((⟨#[e]⟩ : PySem.Str) == PySem.Str.ofString ">") = false := by rw [one_eq gt_is, decide_eq_false_iff_not]; omega
  have gX : ((⟨#[e]⟩ : PySem.Str) == PySem.Str.ofString "=") = true ∨ (((⟨#[e]⟩ : PySem.Str) == PySem.Str.ofString "=") = false ∧ decide (e ∈ spcC) = true) ∨ (((⟨#[e]⟩ : PySem.Str) == PySem.Str.ofString "=") = false ∧ decide (e ∈ spcC) = false ∧ ((⟨#[e]⟩ : PySem.Str) == PySem.Str.ofString "/") = true) := by
    rw [one_eq eq_is, one_eq sl_is]
    rcases he with rfl | rfl | rfl | rfl
    · exact .inl (by decide)
    · exact .inr (.inr (by decide))
    · exact .inr (.inl (by decide))
    · exact .inr (.inl (by decide))
  refine TellO.grow (attr_X1 (prs := prs) h1 g2 g3 gX hpr hD hs h8 h7 h6 (by rw [List.length_append]; omega) (by omega) (by omega) hnd hh hq) (apt_off h9 (by intro a ha; exact ha)) ?_
  rintro rv f' rest off ⟨rfl, S', c0, c1, c2, c3, c4, d0, d1, bv, vs', ep', q', mr, t, nm', refs', ex', i1, i2, i3, i4, i5, i6, i7, i8, rfl⟩
  refine ⟨rfl, ⟨c0, c1, c2, c3, c4, d0, d1, S', bv, vs', ep', t 0, t 2, t 1, q', nm', refs ++ refs', exq ++ ex', ex' ++ [(q', methodObj (.ref mr) (.ref hx))] ++ ex, i2, ?_, ?_, ?_, i3, i4, i5, ?_, ?_⟩, ?_⟩
  · rw [i1, h3]
  · exact h5.app i6
  · intro x hx
    rcases List.mem_append.mp hx with h | h
    · exact List.mem_append_right _ (hex x h)
    · exact List.mem_append_left _ (List.mem_append_left _ h)
  · intro x hx
    rcases List.mem_append.mp hx with h | h
    · rcases List.mem_append.mp h with h | h
      · exact (i7 x h).nil
      · rw [List.mem_singleton.mp h]; exact i8.nil
    · exact h9 x h
  · simp only [List.append_assoc]
  · refine off_app (off_app (off_app (off_same (off_left off) rfl) (fresh_off i7 fun q hq => List.mem_append_right _ hq)) ?_) fun q hq => off q (List.mem_append_right _ hq)
    intro q hq z hz
    rw [List.mem_singleton.mp hq]
    exact Nat.ne_of_lt (i8.all z (List.mem_append_right _ hz))
theorem exit_2 (hpr : Prs us O prs) (hD : oC.IsDictOf (PySem.strKind PG w) (ctRows kd k1 nmT k2 dl fl)) (hs : ((ct : Addr) == sysModules) = false) (hqs : qs.length ≤ 500) (hus : us.length ≤ 500) (hsl : s0.length + r.length ≤ 100) (hnd : NQ6 sx sd tx td ra el) (hh : HQ hx hd' tq sx sd tx td ra el) (hq : AQ hx hd' tq ct dl p sx sd tx td ra el)
    (hR : Run w hx hd' tq lf ct dl p sx sd tx td ra el nl κh κ κ' st qs oC us dep val t2 s0 [] r (partsN r false) f) :
    TellO w 20 200 (.ref 542) [.ref hx] O f (fun rv f' rest => rv = .bool true ∧ Out0 w hx hd' tq lf ct dl p sx sd tx td ra el nl κh κ κ' qs oC us dep val t2 ((s0 ++ r.map fixC).map lw) [] (fltW r ++ [eofW]) prs f' ∧ ∀ q ∈ f', ∀ p ∈ rest, p.1 ≠ q.1) := by
  obtain ⟨a0, a1, a2, a3, a4, b0, b1, S, bf, vs, ep, te, pep, t1, nm, refs, exq, ex, h1, h3, h5, hex, h6, h7, h8, h9, hnl, hrl, rfl⟩ := run_end hsl hR
  refine TellO.grow (attr_X2 (prs := prs) h1 hpr hD hs h8 h7 h6 (by rw [List.length_append]; omega) (by omega) (by omega) hnd hh hq) (apt_off h9 (by intro a ha; exact ha)) ?_
  rintro rv f' rest off ⟨rfl, S', c0, c1, c2, c3, c4, d0, d1, bv, vs', ep', q', mr, t, nm', refs', ex', i1, i2, i3, i4, i5, i6, i7, i8, rfl⟩
  refine ⟨rfl, ⟨c0, c1, c2, c3, c4, d0, d1, S', bv, vs', ep', t 0, t 2, t 1, q', nm', refs ++ refs', exq ++ ex', ex' ++ [(q', methodObj (.ref mr) (.ref hx))] ++ ex, i2, ?_, ?_, ?_, i3, i4, i5, ?_, ?_⟩, ?_⟩
  · rw [i1, h3]
  · rw [List.append_assoc]; exact h5.app i6
  · intro x hx
    rcases List.mem_append.mp hx with h | h
    · exact List.mem_append_right _ (hex x h)
    · exact List.mem_append_left _ (List.mem_append_left _ h)
  · intro x hx
    rcases List.mem_append.mp hx with h | h
    · rcases List.mem_append.mp h with h | h
      · exact (i7 x h).nil
      · rw [List.mem_singleton.mp h]; exact i8.nil
    · exact h9 x h
  · simp only [List.append_assoc]
  · refine off_app (off_app (off_app (off_same (off_left off) rfl) (fresh_off i7 fun q hq => List.mem_append_right _ hq)) ?_) fun q hq => off q (List.mem_append_right _ hq)
    intro q hq z hz
    rw [List.mem_singleton.mp hq]
    exact Nat.ne_of_lt (i8.all z (List.mem_append_right _ hz))
theorem exit_S (hpr : Prs us O prs) (hD : oC.IsDictOf (PySem.strKind PG w) (ctRows 3 k1 nmT k2 dl fl)) (hs : ((ct : Addr) == sysModules) = false) (hqs : qs.length ≤ 500) (hus : us.length ≤ 500) (hnT : nmT.length ≤ 1000) (hsl : s0.length + r.length ≤ 100) (hnd : NQ6 sx sd tx td ra el) (hh : HQ hx hd' tq sx sd tx td ra el) (hq : AQ hx hd' tq ct dl p sx sd tx td ra el)
    (hR : Run w hx hd' tq lf ct dl p sx sd tx td ra el nl κh κ κ' st qs oC us dep val t2 s0 [62] r (partsN r false) f) :
    TellO w 20 200 (.ref 542) [.ref hx] O f (fun rv f' rest => rv = .bool true ∧ OutS w hx hd' tq lf ct dl p sx sd tx td ra el nl κh κ κ' qs val fl (nmT.cps.toList.map lw) ((s0 ++ r.map fixC).map lw) (fltW r) prs f' ∧ ∀ q ∈ f', ∀ p ∈ rest, p.1 ≠ q.1) := by
  obtain ⟨a0, a1, a2, a3, a4, b0, b1, S, bf, vs, ep, te, pep, t1, nm, refs, exq, ex, h1, h3, h5, hex, h6, h7, h8, h9, hnl, hrl, rfl⟩ := run_end hsl hR
  have g1 : ((⟨#[62]⟩ : PySem.Str) == PySem.Str.ofString "=") = false := by rw [one_eq eq_is]; decide
  have g2 : decide (62 ∈ letC) = false := by decide +kernel
  have g3 : ((⟨#[62]⟩ : PySem.Str) == PySem.Str.ofString ">") = true := by rw [one_eq gt_is]; decide
  refine TellO.grow (attr_X3S (prs := prs) h1 g1 g2 g3 hpr hD hs h8 h7 h6 (by rw [List.length_append]; omega) (by omega) (by omega) hnT hnd hh hq) (apt_off h9 (by intro a ha; exact ha)) ?_
  rintro rv f' rest off ⟨rfl, S', c0, c1, c2, c3, c4, d0, d1, bv, vs', ep', te', q', oC', nm', y, u1, u2, refs', ex', i1, iy, i2, i3, i4, i5, i6, i7, i8, da, oD, ps, j1, j2, j3, j4, rfl⟩
  refine ⟨rfl, ⟨c0, c1, c2, c3, c4, d0, d1, S', bv, vs', ep', te', q', da, u1, u2, oC', oD, nm', y, ps, refs ++ refs', exq ++ ex', ex' ++ [(da, oD), (q', methodObj (.ref 304) (.ref hx))] ++ ex, i2, ?_, iy, ?_, ?_, i3, i4, i5, ?_, j1, j2, j3, ?_, ?_⟩, ?_⟩
  · rw [i1, h3]
  · exact h5.app i6
  · intro x hx
    rcases List.mem_append.mp hx with h | h
    · exact List.mem_append_right _ (hex x h)
    · exact List.mem_append_left _ (List.mem_append_left _ h)
  · intro x hx
    rcases List.mem_append.mp hx with h | h
    · rcases List.mem_append.mp h with h | h
      · exact (i7 x h).nil
      · rcases List.mem_cons.mp h with rfl | h
        · exact j4.nil
        · rw [List.mem_singleton.mp h]; exact i8.nil
    · exact h9 x h
  · exact List.mem_append_left _ (List.mem_append_right _ (.head _))
  · simp only [List.append_assoc]
  · have oF : ∀ a ∈ [hx, hd', tq, ct, dl, p, sx, sd, tx, td, ra, el], ∀ z ∈ rest, z.1 ≠ a := by
      intro a ha
      obtain ⟨q, hq, e⟩ := List.mem_map.mp (show a ∈ (atF w hx hd' tq lf ct dl p sx sd tx td ra el nl κh κ κ' a0 a1 a2 a3 a4 b0 b1 S bf vs ep st (qs ++ refs) te oC us dep nm val t1 t2 pep).map Prod.fst from ha)
      rw [← e]; exact off q (List.mem_append_left _ hq)
    refine off_app (off_app ?_ (off_app ?_ (off_app (fresh_off i7 fun q hq => List.mem_append_right _ hq) ?_))) fun q hq => off q (List.mem_append_right _ hq)
    · refine off_in (l := [hx, hd', tq, ct]) (fun a ha => oF a ?_) rfl
      simp only [List.mem_cons, List.not_mem_nil, or_false] at ha ⊢
      rcases ha with h | h | h | h <;> simp [h]
    · refine off_in (l := [sx, sd, tx, td, ra, el]) (fun a ha => oF a ?_) rfl
      simp only [List.mem_cons, List.not_mem_nil, or_false] at ha ⊢
      rcases ha with h | h | h | h | h | h <;> simp [h]
    · intro q hq z hz
      rcases List.mem_cons.mp hq with rfl | hq
      · exact Nat.ne_of_lt (j4.all z (List.mem_append_right _ hz))
      · rw [List.mem_singleton.mp hq]
        exact Nat.ne_of_lt (i8.all z (List.mem_append_right _ hz))
theorem exit_E (hpr : Prs us O prs) (hD : oC.IsDictOf (PySem.strKind PG w) (ctRows 4 k1 nmT k2 dl fl)) (hs : ((ct : Addr) == sysModules) = false) (hqs : qs.length ≤ 500) (hus : us.length ≤ 500) (hnT : nmT.length ≤ 1000) (hsl : s0.length + r.length ≤ 100) (hnd : NQ6 sx sd tx td ra el) (hh : HQ hx hd' tq sx sd tx td ra el) (hq : AQ hx hd' tq ct dl p sx sd tx td ra el)
    (hR : Run w hx hd' tq lf ct dl p sx sd tx td ra el nl κh κ κ' st qs oC us dep val t2 s0 [62] r (partsN r false) f) :
    TellO w 20 200 (.ref 542) [.ref hx] O f (fun rv f' rest => rv = .bool true ∧ OutE w hx hd' tq lf ct dl p sx sd tx td ra el nl κh κ κ' qs us dep val t2 fl (nmT.cps.toList.map lw) ((s0 ++ r.map fixC).map lw) (fltW r) prs f' ∧ ∀ q ∈ f', ∀ p ∈ rest, p.1 ≠ q.1) := by
  obtain ⟨a0, a1, a2, a3, a4, b0, b1, S, bf, vs, ep, te, pep, t1, nm, refs, exq, ex, h1, h3, h5, hex, h6, h7, h8, h9, hnl, hrl, rfl⟩ := run_end hsl hR
  have g1 : ((⟨#[62]⟩ : PySem.Str) == PySem.Str.ofString "=") = false := by rw [one_eq eq_is]; decide
  have g2 : decide (62 ∈ letC) = false := by decide +kernel
  have g3 : ((⟨#[62]⟩ : PySem.Str) == PySem.Str.ofString ">") = true := by rw [one_eq gt_is]; decide
  refine TellO.grow (attr_X3E (prs := prs) h1 g1 g2 g3 hpr hD hs h8 h7 h6 (by rw [List.length_append]; omega) (by omega) (by omega) hnT hnd hh hq) (apt_off h9 (by intro a ha; exact ha)) ?_
  rintro rv f' rest off ⟨rfl, S', c0, c1, c2, c3, c4, d0, d1, bv, vs', ep', te', q', oC', nm', y, u1, u2, refs', ex', i1, iy, i2, i3, i4, i5, i6, i7, i8, pep', t1', j3, rfl⟩
  refine ⟨rfl, ⟨c0, c1, c2, c3, c4, d0, d1, S', bv, vs', ep', te', pep', t1', q', u1, u2, oC', nm', y, refs ++ refs', exq ++ ex', ex' ++ [(q', methodObj (.ref 304) (.ref hx))] ++ ex, i2, ?_, iy, ?_, ?_, i3, i4, i5, ?_, j3, ?_⟩, ?_⟩
  · rw [i1, h3]
  · rw [List.append_assoc]; exact h5.app i6
  · intro x hx
    rcases List.mem_append.mp hx with h | h
    · exact List.mem_append_right _ (hex x h)
    · exact List.mem_append_left _ (List.mem_append_left _ h)
  · intro x hx
    rcases List.mem_append.mp hx with h | h
    · rcases List.mem_append.mp h with h | h
      · exact (i7 x h).nil
      · rw [List.mem_singleton.mp h]; exact i8.nil
    · exact h9 x h
  · simp only [atF, List.append_assoc, List.cons_append, List.nil_append]
  · have oF : ∀ a ∈ [hx, hd', tq, ct, dl, p, sx, sd, tx, td, ra, el], ∀ z ∈ rest, z.1 ≠ a := by
      intro a ha
      obtain ⟨q, hq, e⟩ := List.mem_map.mp (show a ∈ (atF w hx hd' tq lf ct dl p sx sd tx td ra el nl κh κ κ' a0 a1 a2 a3 a4 b0 b1 S bf vs ep st (qs ++ refs) te oC us dep nm val t1 t2 pep).map Prod.fst from ha)
      rw [← e]; exact off q (List.mem_append_left _ hq)
    refine off_app (off_app ?_ (off_app ?_ (off_app (fresh_off i7 fun q hq => List.mem_append_right _ hq) ?_))) fun q hq => off q (List.mem_append_right _ hq)
    · refine off_in (l := [hx, hd', tq, ct, dl, p]) (fun a ha => oF a ?_) rfl
      simp only [List.mem_cons, List.not_mem_nil, or_false] at ha ⊢
      rcases ha with h | h | h | h | h | h <;> simp [h]
    · refine off_in (l := [sx, sd, tx, td, ra, el]) (fun a ha => oF a ?_) rfl
      simp only [List.mem_cons, List.not_mem_nil, or_false] at ha ⊢
      rcases ha with h | h | h | h | h | h <;> simp [h]
    · intro q hq z hz
      rw [List.mem_singleton.mp hq]
      exact Nat.ne_of_lt (i8.all z (List.mem_append_right _ hz))
end
end Mine
theorem Mine.off_w7 {M : Model} {A : Around} {env : Env} {Q : Flow → Shared → Prop} {E : Value → Shared → Prop} {s : Shared} (h : wpAny M A (execs [] env) Q E s) : wpAny M A (execs [] env) Q E s := by
  (try (walk1; fail "no"))
  w_top off
  exact h
namespace Mine
local macro_rules | `(tactic| k_ne) => `(tactic| first | exact (show Nq _ _ by with_reducible assumption) | exact Ne.symm (show Nq _ _ by with_reducible assumption) | (refine neN ?_; (try dsimp only); omega))
local macro_rules | `(tactic| k_room) => `(tactic| ((try simp only [depth_under_make, depth_under_kw, depth_in1, depth_deeper, depth_caller, ktrTop, recursionLimit] at *); omega))
local macro_rules | `(tactic| k_units) => `(tactic| ((have hcL9 := cLine_is); (try simp only [units_in1, units_deeper, Around.mark_units, units_caller, ktrTop] at *); omega))
local macro_rules | `(tactic| ktr_enter) => `(tactic| (refine' code_def ?k1 ?k2 ?k3 ?k4 ?k5 ?kA ?kF ?kK ?k6 ?k7 ?k8 ?k9 ?kB ?_ ?c2 ?c3 ?c4 ?c5; (case kA => exact rfl); (case kF => exact rfl); (case kK => first | exact rfl | assumption); (case k1 => k_asm); (case k2 => k_asm); (case k3 => k_asm); (case k4 => k_asm); (case k5 => k_asm); (case k6 => k_is); (case k7 => k_is); (case k8 => k_room); (case k9 => first | exact BindsTo.of_eq rfl | exact binds_K (by k_in) rfl (by k_is) rfl rfl rfl); (case c5 => decide); (case kB => exact locs rfl); (case c2 => exact rfl); (case c3 => exact rfl); (case c4 => exact rfl); k_whole; intro g' L' h' FG' F' N' B' X' T'; (try dsimp only); (try k_fold)))
local macro_rules | `(tactic| k_all) => `(tactic| (with_reducible assumption))
local macro_rules | `(tactic| tb_lt) => `(tactic| first | exact Pick.head | (refine' Pick.tail ?c; (case c => tb_lt)))
local macro_rules | `(tactic| tb_start) => `(tactic| first | exact Picks.nil | (refine' Picks.cons ?a ?b; (case a => tb_lt); (case b => tb_start)))
local macro_rules | `(tactic| tb_rel) => `(tactic| first | exact List.forall_mem_nil _ | (refine' List.forall_mem_cons.mpr ⟨?a, ?b⟩; (case a => k_all); (case b => tb_rel)))
local macro_rules | `(tactic| walk_at "TPost") => `(tactic| (dsimp only [TPost]))
local macro_rules | `(tactic| size_fits) => `(tactic| ((simp only [PySem.sizeLine_eq, List.size_toArray]); omega))
local macro_rules | `(tactic| k_gentoks) => `(tactic| (with_reducible refine' gen_toksP ?hp ?_; (case hp => first | omega | ((try simp only [List.length_cons]); omega)); intro tk htk))
local macro_rules | `(tactic| kstt_sub) => `(tactic| first | exact fun _ h => h | assumption | (refine' subCons ?a ?b; (case a => k_mem); (case b => kstt_sub)) | (refine' subTail ?a; (case a => kstt_sub)))
local macro_rules | `(tactic| kst_all) => `(tactic| first | exact List.forall_mem_nil _ | (refine' List.forall_mem_cons.mpr ⟨?a, ?b⟩; (case a => exact rfl); (case b => kst_all)))
local macro_rules | `(tactic| walk_at "MidEnd") => `(tactic| first
  | ((with_reducible show MidEnd _ _ _ _ _ _ _ Flow.next _); (refine' ⟨(tk8 _ _ _ _ _ _ _ _, _), _, _, _, rfl, ?F, ?N, ?ps, ?P⟩); (case F => assumption); (case N => (refine' nsub ?N1 ?N2; (case N1 => assumption); (case N2 => kstt_sub))); (case ps => kst_all); (case P => k_extra "mid"))
  | ((fail_if_success (with_reducible show MidEnd _ _ _ _ _ _ _ Flow.next _)); dsimp only [MidEnd]))
local macro_rules | `(tactic| walk_at "WEnd") => `(tactic| ((fail_if_success (with_reducible show WEnd _ _ _ _ _ _ _ _ _ Flow.next _)); dsimp only [WEnd]))
local macro_rules | `(tactic| walk_at "callWith") => `(tactic| (k_here; (with_reducible refine' callWith_method1 ?_ ?he ?hp); (case he => k_dflt rfl); (case hp => k_dflt rfl)))
local macro_rules | `(tactic| k_steps) => `(tactic| repeat' (first | (k_unfold; (try dsimp only)) | (k_end; wrow_close) | walk1 | (dsimp only [List.cons_append, List.nil_append]; walk1) | (dsimp only) | fail "no step"))
abbrev psB (v1 v2 v3 : Value) (dn : Bool) (hp du rw' : Nat) (y : PySem.Str) (yt : Nat) (la : Bool) : List (PySem.Str × Value) :=
  [(Str.ofString "t", v1), (Str.ofString "kind", v2), (Str.ofString "flag", v3), (Str.ofString "done", .bool dn), (Str.ofString "heads", .ref hp), (Str.ofString "due", .ref du), (Str.ofString "row", .ref rw'), (Str.ofString "name", .str y yt), (Str.ofString "last", .bool la)]
theorem flt_name {h₀ h : Heap} {L : Addr} {b t1 t2 : Nat} {x : PySem.Str} {r : List (Addr × Obj)} (_N : News h₀ L h ((b, fltObj x t1 t2) :: r)) : ∃ b' u1 u2 : Nat, b' = b ∧ u1 = t1 ∧ u2 = t2 := ⟨b, t1, t2, rfl, rfl, rfl⟩
def eoL (la dn : Bool) : List PySem.Str := if la && !dn then [eofW] else []
section
local macro_rules | `(tactic| walk_at "call ref") => `(tactic| (k_here; k_dflt (refine' TellR.use (fault_t ) ?k1 ?k2 ?k3 ?k4 ?k5 ?kK ?kp ?ko ?kd ?ku ?k0 ?_; (case k1 => k_asm); (case k2 => k_asm); (case k3 => k_asm); (case k4 => k_asm); (case k5 => k_asm); (case kK => first | exact rfl | assumption); (case kp => tb_start); (case ko => tb_rel); (case kd => k_room); (case ku => k_units); (case k0 => first | exact (show 1 ≤ _ by (try dsimp only); omega) | exact Nat.zero_le _); intro r9 f9 h9 tk9 p9 F9 N9 hP9; obtain ⟨a9, t1, t2, e1, hl9, e2⟩ := hP9; subst e1; subst e2; (try simp only [AllLt] at hl9); (try dsimp only [List.nil_append, List.cons_append] at N9); (try k_fold))))
theorem b7 {w : World} {du rw' hp dep rep hep : Nat} {us rus hvs : List Value} {A T : List (Addr × Obj)} {v1 v2 v3 : Value} {dn la : Bool} {y : PySem.Str} {yt : Nat} {ws : List PySem.Str} {Post : (PySem.Str → Option Value) → List (Addr × Obj) → Prop}
    (hul : us.length ≤ 200) (hF : Flts us T ws) (d1 : Nq du rw') (d2 : Nq du hp) (d3 : ∀ p ∈ A, p.1 ≠ du)
    (hnext : ∀ (us' : List Value) (dep' : Nat) (ex : List (Addr × Obj)), Flts us' (ex ++ T) (ws ++ eoL la dn) → us'.length ≤ us.length + 1 → (∀ q ∈ ex, du < q.1 ∧ rw' < q.1 ∧ hp < q.1 ∧ AllLt q.1 A) →
      BodyC w 8 (psB v1 v2 v3 dn hp du rw' y yt la) ((du, W.listOf us'.toArray dep') :: (rw', W.listOf rus.toArray rep) :: (hp, W.listOf hvs.toArray hep) :: (ex ++ A)) Post) :
    BodyC w 7 (psB v1 v2 v3 dn hp du rw' y yt la) ((du, W.listOf us.toArray dep) :: (rw', W.listOf rus.toArray rep) :: (hp, W.listOf hvs.toArray hep) :: A) Post := by
  unfold BodyC KF PG
  k_fill
  intro mean mg mb base h₀ L fa cd m s Q E B F hps X N hT hE hret
  rw [← kstB_self hps] at F
  have hps' := hps
  clear hps
  simp only [LB, forBody, LR, recOfWalk, List.drop_succ_cons, List.drop_zero]
  (try k_fold)
  by_cases hc : (la = true ∧ dn = false)
  · obtain ⟨rfl, rfl⟩ := hc
    k_with_none
    repeat' (first | ((fail_if_success (with_reducible show wpAny _ _ (execs (_ :: _ :: _ :: []) _) _ _ _)); first | (k_unfold; (try dsimp only)) | (k_end; wrow_close) | walk1 | (dsimp only [List.cons_append, List.nil_append]; walk1) | (dsimp only) | fail "no step"))
    (rename Fr _ _ _ _ => f9)
    (rename News _ _ _ _ => n9)
    (rename du < _ ∧ _ => z9)
    obtain ⟨b1, u1, u2, e1, e2, e3⟩ := flt_name n9
    subst e1 e2 e3
    simp only [push_app] at n9
    refine' BodyC.use (hnext (us ++ [.ref b1]) (dep + 1) [(b1, fltObj (Str.ofString "eof-in-attribute-name") u1 u2)] ?fl ?ln ?fr) n9 ?ts f9 ?tps B X hT hE ?tret
    case ts =>
      simp only [List.cons_append, List.nil_append]
      exact subCons (.tail _ (.head _)) (subCons (.tail _ (.tail _ (.head _))) (subCons (.tail _ (.tail _ (.tail _ (.head _)))) (subCons (.head _) fun _ h => .tail _ (.tail _ (.tail _ (.tail _ h))))))
    case fl => exact (hF.mono fun p hp => .tail _ hp).app (.one (x := eofW) (.head _))
    case ln => rw [List.length_append]; exact Nat.le_refl _
    case fr => exact List.forall_mem_cons.mpr ⟨z9, List.forall_mem_nil _⟩
    case tps => kst_all
    case tret => exact fun h' tk' m' news' hF hN hP => hret h' tk' m' news' hF hN hP
  · have he : eoL la dn = [] := by
      unfold eoL
      cases la <;> cases dn <;> simp at hc ⊢
    have hgo := hnext us dep [] (by rw [he, List.append_nil]; exact hF) (Nat.le_succ _) (List.forall_mem_nil _)
    rw [List.nil_append] at hgo
    cases la
    · k_with_none
      repeat' (first | ((fail_if_success (with_reducible show wpAny _ _ (execs (_ :: _ :: _ :: []) _) _ _ _)); first | (k_unfold; (try dsimp only)) | (k_end; wrow_close) | walk1 | (dsimp only [List.cons_append, List.nil_append]; walk1) | (dsimp only) | fail "no step"))
      (rename Fr _ _ _ _ => f9)
      (rename News _ _ _ _ => n9)
      exact BodyC.use hgo n9 (fun _ h => h) f9 (by kst_all) B X hT hE fun h' tk' m' news' hF hN hP => hret h' tk' m' news' hF hN hP
    · cases dn
      · exact absurd ⟨rfl, rfl⟩ hc
      · k_with_none
        repeat' (first | ((fail_if_success (with_reducible show wpAny _ _ (execs (_ :: _ :: _ :: []) _) _ _ _)); first | (k_unfold; (try dsimp only)) | (k_end; wrow_close) | walk1 | (dsimp only [List.cons_append, List.nil_append]; walk1) | (dsimp only) | fail "no step"))
        (rename Fr _ _ _ _ => f9)
        (rename News _ _ _ _ => n9)
        exact BodyC.use hgo n9 (fun _ h => h) f9 (by kst_all) B X hT hE fun h' tk' m' news' hF hN hP => hret h' tk' m' news' hF hN hP
end
end Mine
theorem Mine.off_w8 {M : Model} {A : Around} {env : Env} {Q : Flow → Shared → Prop} {E : Value → Shared → Prop} {s : Shared} (h : wpAny M A (execs [] env) Q E s) : wpAny M A (execs [] env) Q E s := by
  (try (walk1; fail "no"))
  w_top off
  exact h
namespace Mine
local macro_rules | `(tactic| k_ne) => `(tactic| first | exact (show Nq _ _ by with_reducible assumption) | exact Ne.symm (show Nq _ _ by with_reducible assumption) | (refine neN ?_; (try dsimp only); omega))
local macro_rules | `(tactic| k_room) => `(tactic| ((try simp only [depth_under_make, depth_under_kw, depth_in1, depth_deeper, depth_caller, ktrTop, recursionLimit] at *); omega))
local macro_rules | `(tactic| k_units) => `(tactic| ((have hcL9 := cLine_is); (try simp only [units_in1, units_deeper, Around.mark_units, units_caller, ktrTop] at *); omega))
local macro_rules | `(tactic| ktr_enter) => `(tactic| (refine' code_def ?k1 ?k2 ?k3 ?k4 ?k5 ?kA ?kF ?kK ?k6 ?k7 ?k8 ?k9 ?kB ?_ ?c2 ?c3 ?c4 ?c5; (case kA => exact rfl); (case kF => exact rfl); (case kK => first | exact rfl | assumption); (case k1 => k_asm); (case k2 => k_asm); (case k3 => k_asm); (case k4 => k_asm); (case k5 => k_asm); (case k6 => k_is); (case k7 => k_is); (case k8 => k_room); (case k9 => first | exact BindsTo.of_eq rfl | exact binds_K (by k_in) rfl (by k_is) rfl rfl rfl); (case c5 => decide); (case kB => exact locs rfl); (case c2 => exact rfl); (case c3 => exact rfl); (case c4 => exact rfl); k_whole; intro g' L' h' FG' F' N' B' X' T'; (try dsimp only); (try k_fold)))
local macro_rules | `(tactic| k_all) => `(tactic| (with_reducible assumption))
local macro_rules | `(tactic| tb_lt) => `(tactic| first | exact Pick.head | (refine' Pick.tail ?c; (case c => tb_lt)))
local macro_rules | `(tactic| tb_start) => `(tactic| first | exact Picks.nil | (refine' Picks.cons ?a ?b; (case a => tb_lt); (case b => tb_start)))
local macro_rules | `(tactic| tb_rel) => `(tactic| first | exact List.forall_mem_nil _ | (refine' List.forall_mem_cons.mpr ⟨?a, ?b⟩; (case a => k_all); (case b => tb_rel)))
local macro_rules | `(tactic| walk_at "TPost") => `(tactic| (dsimp only [TPost]))
local macro_rules | `(tactic| size_fits) => `(tactic| ((simp only [PySem.sizeLine_eq, List.size_toArray]); omega))
local macro_rules | `(tactic| k_gentoks) => `(tactic| (with_reducible refine' gen_toksP ?hp ?_; (case hp => first | omega | ((try simp only [List.length_cons]); omega)); intro tk htk))
local macro_rules | `(tactic| kstt_sub) => `(tactic| first | exact fun _ h => h | assumption | (refine' subCons ?a ?b; (case a => k_mem); (case b => kstt_sub)) | (refine' subTail ?a; (case a => kstt_sub)))
local macro_rules | `(tactic| kst_all) => `(tactic| first | exact List.forall_mem_nil _ | (refine' List.forall_mem_cons.mpr ⟨?a, ?b⟩; (case a => exact rfl); (case b => kst_all)))
local macro_rules | `(tactic| walk_at "MidEnd") => `(tactic| first
  | ((with_reducible show MidEnd _ _ _ _ _ _ _ Flow.next _); (refine' ⟨(tk8 _ _ _ _ _ _ _ _, _), _, _, _, rfl, ?F, ?N, ?ps, ?P⟩); (case F => assumption); (case N => (refine' nsub ?N1 ?N2; (case N1 => assumption); (case N2 => kstt_sub))); (case ps => kst_all); (case P => k_extra "mid"))
  | ((fail_if_success (with_reducible show MidEnd _ _ _ _ _ _ _ Flow.next _)); dsimp only [MidEnd]))
local macro_rules | `(tactic| walk_at "WEnd") => `(tactic| ((fail_if_success (with_reducible show WEnd _ _ _ _ _ _ _ _ _ Flow.next _)); dsimp only [WEnd]))
local macro_rules | `(tactic| walk_at "callWith") => `(tactic| (k_here; (with_reducible refine' callWith_method1 ?_ ?he ?hp); (case he => k_dflt rfl); (case hp => k_dflt rfl)))
local macro_rules | `(tactic| k_steps) => `(tactic| repeat' (first | (k_unfold; (try dsimp only)) | (k_end; wrow_close) | walk1 | (dsimp only [List.cons_append, List.nil_append]; walk1) | (dsimp only) | fail "no step"))
section
local macro_rules | `(tactic| walk_at "call ref") => `(tactic| (k_here; k_dflt (refine' TellR.use (fault_t ) ?k1 ?k2 ?k3 ?k4 ?k5 ?kK ?kp ?ko ?kd ?ku ?k0 ?_; (case k1 => k_asm); (case k2 => k_asm); (case k3 => k_asm); (case k4 => k_asm); (case k5 => k_asm); (case kK => first | exact rfl | assumption); (case kp => tb_start); (case ko => tb_rel); (case kd => k_room); (case ku => k_units); (case k0 => first | exact (show 1 ≤ _ by (try dsimp only); omega) | exact Nat.zero_le _); intro r9 f9 h9 tk9 p9 F9 N9 hP9; obtain ⟨a9, t1, t2, e1, hl9, e2⟩ := hP9; subst e1; subst e2; (try simp only [AllLt] at hl9); (try dsimp only [List.nil_append, List.cons_append] at N9); (try k_fold))))
theorem b8 {w : World} {du rw' hp dep rep hep : Nat} {us rus hvs : List Value} {A T : List (Addr × Obj)} {v1 v2 v3 : Value} {dn la : Bool} {y : PySem.Str} {yt : Nat} {ws : List PySem.Str} {prs : List (PySem.Str × PySem.Str)} {Post : (PySem.Str → Option Value) → List (Addr × Obj) → Prop}
    (hul : us.length ≤ 200) (hrl : rus.length ≤ 100) (hF : Flts us T ws) (hr : Its rowObj rus A prs) (d1 : Nq du rw') (d2 : Nq du hp) (d3 : ∀ p ∈ A, p.1 ≠ du)
    (hnext : ∀ (us' : List Value) (dep' : Nat) (ex : List (Addr × Obj)), Flts us' (ex ++ T) (ws ++ dupL y prs) → us'.length ≤ us.length + 1 → (∀ q ∈ ex, du < q.1 ∧ rw' < q.1 ∧ hp < q.1 ∧ AllLt q.1 A) →
      BodyC w 9 (psB v1 v2 v3 dn hp du rw' y yt la) ((du, W.listOf us'.toArray dep') :: (rw', W.listOf rus.toArray rep) :: (hp, W.listOf hvs.toArray hep) :: (ex ++ A)) Post) :
    BodyC w 8 (psB v1 v2 v3 dn hp du rw' y yt la) ((du, W.listOf us.toArray dep) :: (rw', W.listOf rus.toArray rep) :: (hp, W.listOf hvs.toArray hep) :: A) Post := by
  unfold BodyC KF PG
  k_fill
  intro mean mg mb base h₀ L fa cd m s Q E B F hps X N hT hE hret
  rw [← kstB_self hps] at F
  clear hps
  simp only [LB, forBody, LR, recOfWalk, List.drop_succ_cons, List.drop_zero]
  (try k_fold)
  k_with_none
  repeat' (first | ((fail_if_success (with_reducible show wpAny _ _ (eval (PySem.Expr.ListComp _ _ _ _) _) _ _ _)); first | (k_unfold; (try dsimp only)) | (k_end; wrow_close) | walk1 | (dsimp only [List.cons_append, List.nil_append]; walk1) | (dsimp only) | fail "no step"))
  (rename Fr _ _ _ _ => f9)
  refine' LCp.ListComp_P (x := Str.ofString "one") (x₂ := Str.ofString "value") f9 ?hclos ?hcell ?hkind ?hnames ?hx ?hx2 ?hxx ?_ ?hs9
  case hclos => with_unfolding_all rfl
  case hcell => decide
  case hkind => rfl
  case hnames => decide
  case hx => rfl
  case hx2 => rfl
  case hxx => decide
  case hs9 => (intro _; rfl)
  repeat' (first | ((fail_if_success (with_reducible show LCp.SrcLP _ _ _ _ _ _ _ _ _ _ _ _ _ _ _)); first | (k_unfold; (try dsimp only)) | (k_end; wrow_close) | walk1 | (dsimp only [List.cons_append, List.nil_append]; walk1) | (dsimp only) | fail "no step"))
  refine' LCp.SrcLP.ledger rfl (by assumption) (by assumption) (.tail _ (.head _)) (by rw [List.size_toArray]; exact Nat.le_trans hrl (by decide)) fun hx2 => ?_
  refine' rest_names (rows := prs) (by rw [List.size_toArray]; exact hr.len.symm) ?hP ?turn9 ?fin9
  case hP =>
    intro i v hv2
    have hv3 : rus[i]? = some v := by simpa using hv2
    have hil : i < prs.length := by rw [← hr.len]; exact (List.getElem?_eq_some_iff.mp hv3).1
    obtain ⟨a, u1, u2, h1, h2⟩ := hr.at' i _ (List.getElem?_eq_getElem hil)
    obtain rfl : v = .ref a := Option.some.inj (hv3.symm.trans h1)
    exact ⟨_, a, u1, u2, List.getElem?_eq_getElem hil, rfl, .tail _ (.tail _ (.tail _ h2))⟩
  case turn9 =>
    intro q1 u1 u2 I oI C oC2 D m₂ ys h2 tk2 E2 hC2 hm2 hm3 F2 N3 off2 ne2
    repeat' (first | ((fail_if_success (with_reducible show LCg.CompEnd _ _ _ _ _ _ _ _ _ _ _ _ _ _)); first | (k_unfold; (try dsimp only)) | (k_end; wrow_close) | walk1 | (dsimp only [List.cons_append, List.nil_append]; walk1) | (dsimp only) | fail "no step"))
    exact ⟨_, _, _, rfl, (by assumption), N3, off2, .inr ⟨_, (.tail _ (.head _)), rfl, _, rfl⟩, rfl, rfl⟩
  case fin9 =>
    intro ys hys D2 h2 tk2 F2 N3 off2
    simp only [LCg.Off1] at off2
    repeat' (first | ((fail_if_success (with_reducible show wpAny _ _ (execs (_ :: _ :: []) _) _ _ _)); first | (k_unfold; (try dsimp only)) | (k_end; wrow_close) | walk1 | (dsimp only [List.cons_append, List.nil_append]; walk1) | (dsimp only) | fail "no step"))
    · (rename List.any _ _ = true => hin)
      have hin' : y ∈ prs.map Prod.fst := by
        obtain ⟨z, hz, e⟩ := List.any_eq_true.mp hin
        rw [← eq_of_beq e]; exact hz
      have he : dupL y prs = [dupW] := by unfold dupL; rw [if_pos hin']
      (rename Fr _ _ _ _ => f8)
      (rename News _ _ _ _ => n9)
      (rename D2 < _ ∧ _ => z9)
      obtain ⟨b1, u1, u2, e1, e2, e3⟩ := flt_name n9
      subst e1 e2 e3
      simp only [push_app] at n9
      obtain ⟨-, z1⟩ := z9
      refine' BodyC.use (hnext (us ++ [.ref b1]) (dep + 1) [(b1, fltObj (Str.ofString "duplicate-attribute") u1 u2)] ?fl ?ln ?fr) n9 ?ts f8 ?tps B X hT hE ?tret
      case ts =>
        simp only [List.cons_append, List.nil_append]
        exact subCons (.tail _ (.tail _ (.head _))) (subCons (.tail _ (.tail _ (.tail _ (.head _)))) (subCons (.tail _ (.tail _ (.tail _ (.tail _ (.head _))))) (subCons (.head _) fun _ h => .tail _ (.tail _ (.tail _ (.tail _ (.tail _ h)))))))
      case fl => rw [he]; exact (hF.mono fun p hp => .tail _ hp).app (.one (x := dupW) (.head _))
      case ln => rw [List.length_append]; exact Nat.le_refl _
      case fr => exact List.forall_mem_cons.mpr ⟨z1, List.forall_mem_nil _⟩
      case tps => kst_all
      case tret => exact fun h' tk' m' news' hF hN hP => hret h' tk' m' news' hF hN hP
    · (rename List.any _ _ = false => hin)
      have hin' : ¬ y ∈ prs.map Prod.fst := fun h => by
        rw [List.any_eq_false] at hin
        exact hin _ h (beq_self_eq_true _)
      have he : dupL y prs = [] := by unfold dupL; rw [if_neg hin']
      have hgo := hnext us dep [] (by rw [he, List.append_nil]; exact hF) (Nat.le_succ _) (List.forall_mem_nil _)
      rw [List.nil_append] at hgo
      (rename Fr _ _ _ _ => f8)
      (rename News _ _ _ _ => n9)
      exact BodyC.use hgo n9 (fun _ h => .tail _ h) f8 (by kst_all) B X hT hE fun h' tk' m' news' hF hN hP => hret h' tk' m' news' hF hN hP
end
end Mine
theorem Mine.off_w9 {M : Model} {A : Around} {env : Env} {Q : Flow → Shared → Prop} {E : Value → Shared → Prop} {s : Shared} (h : wpAny M A (execs [] env) Q E s) : wpAny M A (execs [] env) Q E s := by
  (try (walk1; fail "no"))
  w_top off
  exact h
namespace Mine
local macro_rules | `(tactic| k_ne) => `(tactic| first | exact (show Nq _ _ by with_reducible assumption) | exact Ne.symm (show Nq _ _ by with_reducible assumption) | (refine neN ?_; (try dsimp only); omega))
local macro_rules | `(tactic| k_room) => `(tactic| ((try simp only [depth_under_make, depth_under_kw, depth_in1, depth_deeper, depth_caller, ktrTop, recursionLimit] at *); omega))
local macro_rules | `(tactic| k_units) => `(tactic| ((have hcL9 := cLine_is); (try simp only [units_in1, units_deeper, Around.mark_units, units_caller, ktrTop] at *); omega))
local macro_rules | `(tactic| ktr_enter) => `(tactic| (refine' code_def ?k1 ?k2 ?k3 ?k4 ?k5 ?kA ?kF ?kK ?k6 ?k7 ?k8 ?k9 ?kB ?_ ?c2 ?c3 ?c4 ?c5; (case kA => exact rfl); (case kF => exact rfl); (case kK => first | exact rfl | assumption); (case k1 => k_asm); (case k2 => k_asm); (case k3 => k_asm); (case k4 => k_asm); (case k5 => k_asm); (case k6 => k_is); (case k7 => k_is); (case k8 => k_room); (case k9 => first | exact BindsTo.of_eq rfl | exact binds_K (by k_in) rfl (by k_is) rfl rfl rfl); (case c5 => decide); (case kB => exact locs rfl); (case c2 => exact rfl); (case c3 => exact rfl); (case c4 => exact rfl); k_whole; intro g' L' h' FG' F' N' B' X' T'; (try dsimp only); (try k_fold)))
local macro_rules | `(tactic| k_all) => `(tactic| (with_reducible assumption))
local macro_rules | `(tactic| tb_lt) => `(tactic| first | exact Pick.head | (refine' Pick.tail ?c; (case c => tb_lt)))
local macro_rules | `(tactic| tb_start) => `(tactic| first | exact Picks.nil | (refine' Picks.cons ?a ?b; (case a => tb_lt); (case b => tb_start)))
local macro_rules | `(tactic| tb_rel) => `(tactic| first | exact List.forall_mem_nil _ | (refine' List.forall_mem_cons.mpr ⟨?a, ?b⟩; (case a => k_all); (case b => tb_rel)))
local macro_rules | `(tactic| walk_at "TPost") => `(tactic| (dsimp only [TPost]))
local macro_rules | `(tactic| size_fits) => `(tactic| ((simp only [PySem.sizeLine_eq, List.size_toArray]); omega))
local macro_rules | `(tactic| k_gentoks) => `(tactic| (with_reducible refine' gen_toksP ?hp ?_; (case hp => first | omega | ((try simp only [List.length_cons]); omega)); intro tk htk))
local macro_rules | `(tactic| kstt_sub) => `(tactic| first | exact fun _ h => h | assumption | (refine' subCons ?a ?b; (case a => k_mem); (case b => kstt_sub)) | (refine' subTail ?a; (case a => kstt_sub)))
local macro_rules | `(tactic| kst_all) => `(tactic| first | exact List.forall_mem_nil _ | (refine' List.forall_mem_cons.mpr ⟨?a, ?b⟩; (case a => exact rfl); (case b => kst_all)))
local macro_rules | `(tactic| walk_at "MidEnd") => `(tactic| first
  | ((with_reducible show MidEnd _ _ _ _ _ _ _ Flow.next _); (refine' ⟨(tk8 _ _ _ _ _ _ _ _, _), _, _, _, rfl, ?F, ?N, ?ps, ?P⟩); (case F => assumption); (case N => (refine' nsub ?N1 ?N2; (case N1 => assumption); (case N2 => kstt_sub))); (case ps => kst_all); (case P => k_extra "mid"))
  | ((fail_if_success (with_reducible show MidEnd _ _ _ _ _ _ _ Flow.next _)); dsimp only [MidEnd]))
local macro_rules | `(tactic| walk_at "WEnd") => `(tactic| ((fail_if_success (with_reducible show WEnd _ _ _ _ _ _ _ _ _ Flow.next _)); dsimp only [WEnd]))
local macro_rules | `(tactic| walk_at "callWith") => `(tactic| (k_here; (with_reducible refine' callWith_method1 ?_ ?he ?hp); (case he => k_dflt rfl); (case hp => k_dflt rfl)))
local macro_rules | `(tactic| k_steps) => `(tactic| repeat' (first | (k_unfold; (try dsimp only)) | (k_end; wrow_close) | walk1 | (dsimp only [List.cons_append, List.nil_append]; walk1) | (dsimp only) | fail "no step"))
def valS (i : Nat) : PySem.Str := Str.ofString "value " ++ Str.ofString (toString ((i : Nat) : Int))
theorem row_name {h₀ h : Heap} {L : Addr} {b t1 t2 : Nat} {q : PySem.Str × PySem.Str} {r : List (Addr × Obj)} (_N : News h₀ L h ((b, rowObj q t1 t2) :: r)) : ∃ b' u1 u2 : Nat, b' = b ∧ u1 = t1 ∧ u2 = t2 := ⟨b, t1, t2, rfl, rfl, rfl⟩
section
local macro_rules | `(tactic| walk_at "call builtin:len") => `(tactic| (k_here; (with_reducible show wpAny _ _ (call (Value.builtin "len") [Value.ref _]) _ _ _); k_dflt (refine' len_list_t ?N ?hm ?z ?_; (case N => assumption); (case hm => k_mem); (case z => (try dsimp only [List.length_append]); omega))))
theorem b9 {w : World} {du rw' hp dep rep hep : Nat} {us rus hvs : List Value} {A : List (Addr × Obj)} {v1 v2 v3 : Value} {dn la : Bool} {y : PySem.Str} {yt : Nat} {prs : List (PySem.Str × PySem.Str)} {Post : (PySem.Str → Option Value) → List (Addr × Obj) → Prop}
    (hrl : rus.length ≤ 100) (hr : Its rowObj rus A prs) (d1 : Nq du rw') (d2 : Nq rw' hp) (d3 : ∀ p ∈ A, p.1 ≠ rw')
    (hnext : ∀ (D t1 t2 : Nat), (du < D ∧ rw' < D ∧ hp < D ∧ AllLt D A) →
      BodyC w 10 (psB v1 v2 v3 dn hp du rw' y yt la) ((D, rowObj (y, valS rus.length) t1 t2) :: (du, W.listOf us.toArray dep) :: (rw', W.listOf (rus ++ [Value.ref D]).toArray (rep + 1)) :: (hp, W.listOf hvs.toArray hep) :: A) Post) :
    BodyC w 9 (psB v1 v2 v3 dn hp du rw' y yt la) ((du, W.listOf us.toArray dep) :: (rw', W.listOf rus.toArray rep) :: (hp, W.listOf hvs.toArray hep) :: A) Post := by
  unfold BodyC KF PG
  k_fill
  intro mean mg mb base h₀ L fa cd m s Q E B F hps X N hT hE hret
  rw [← kstB_self hps] at F
  clear hps
  simp only [LB, forBody, LR, recOfWalk, List.drop_succ_cons, List.drop_zero]
  (try k_fold)
  k_with_none
  repeat' (first | ((fail_if_success (with_reducible show wpAny _ _ (execs (_ :: []) _) _ _ _)); first | (k_unfold; (try dsimp only)) | (k_end; wrow_close) | walk1 | (dsimp only [List.cons_append, List.nil_append]; walk1) | (dsimp only) | fail "no step"))
  (rename Fr _ _ _ _ => f8)
  (rename News _ _ _ _ => n9)
  (rename du < _ ∧ _ => z9)
  replace n9 := (show News _ _ _ ((_, rowObj (y, valS rus.length) _ _) :: _) from n9)
  obtain ⟨b1, u1, u2, e1, e2, e3⟩ := row_name n9
  subst e1 e2 e3
  simp only [push_app] at n9
  exact BodyC.use (hnext b1 _ _ z9) n9 (fun _ h => h) f8 (by kst_all) B X hT hE fun h' tk' m' news' hF hN hP => hret h' tk' m' news' hF hN hP
end
end Mine
theorem Mine.off_w10 {M : Model} {A : Around} {env : Env} {Q : Flow → Shared → Prop} {E : Value → Shared → Prop} {s : Shared} (h : wpAny M A (execs [] env) Q E s) : wpAny M A (execs [] env) Q E s := by
  (try (walk1; fail "no"))
  w_top off
  exact h
namespace Mine
local macro_rules | `(tactic| k_ne) => `(tactic| first | exact (show Nq _ _ by with_reducible assumption) | exact Ne.symm (show Nq _ _ by with_reducible assumption) | (refine neN ?_; (try dsimp only); omega))
local macro_rules | `(tactic| k_room) => `(tactic| ((try simp only [depth_under_make, depth_under_kw, depth_in1, depth_deeper, depth_caller, ktrTop, recursionLimit] at *); omega))
local macro_rules | `(tactic| k_units) => `(tactic| ((have hcL9 := cLine_is); (try simp only [units_in1, units_deeper, Around.mark_units, units_caller, ktrTop] at *); omega))
local macro_rules | `(tactic| ktr_enter) => `(tactic| (refine' code_def ?k1 ?k2 ?k3 ?k4 ?k5 ?kA ?kF ?kK ?k6 ?k7 ?k8 ?k9 ?kB ?_ ?c2 ?c3 ?c4 ?c5; (case kA => exact rfl); (case kF => exact rfl); (case kK => first | exact rfl | assumption); (case k1 => k_asm); (case k2 => k_asm); (case k3 => k_asm); (case k4 => k_asm); (case k5 => k_asm); (case k6 => k_is); (case k7 => k_is); (case k8 => k_room); (case k9 => first | exact BindsTo.of_eq rfl | exact binds_K (by k_in) rfl (by k_is) rfl rfl rfl); (case c5 => decide); (case kB => exact locs rfl); (case c2 => exact rfl); (case c3 => exact rfl); (case c4 => exact rfl); k_whole; intro g' L' h' FG' F' N' B' X' T'; (try dsimp only); (try k_fold)))
local macro_rules | `(tactic| k_all) => `(tactic| (with_reducible assumption))
local macro_rules | `(tactic| tb_lt) => `(tactic| first | exact Pick.head | (refine' Pick.tail ?c; (case c => tb_lt)))
local macro_rules | `(tactic| tb_start) => `(tactic| first | exact Picks.nil | (refine' Picks.cons ?a ?b; (case a => tb_lt); (case b => tb_start)))
local macro_rules | `(tactic| tb_rel) => `(tactic| first | exact List.forall_mem_nil _ | (refine' List.forall_mem_cons.mpr ⟨?a, ?b⟩; (case a => k_all); (case b => tb_rel)))
local macro_rules | `(tactic| walk_at "TPost") => `(tactic| (dsimp only [TPost]))
local macro_rules | `(tactic| size_fits) => `(tactic| ((simp only [PySem.sizeLine_eq, List.size_toArray]); omega))
local macro_rules | `(tactic| k_gentoks) => `(tactic| (with_reducible refine' gen_toksP ?hp ?_; (case hp => first | omega | ((try simp only [List.length_cons]); omega)); intro tk htk))
local macro_rules | `(tactic| kstt_sub) => `(tactic| first | exact fun _ h => h | assumption | (refine' subCons ?a ?b; (case a => k_mem); (case b => kstt_sub)) | (refine' subTail ?a; (case a => kstt_sub)))
local macro_rules | `(tactic| kst_all) => `(tactic| first | exact List.forall_mem_nil _ | (refine' List.forall_mem_cons.mpr ⟨?a, ?b⟩; (case a => exact rfl); (case b => kst_all)))
local macro_rules | `(tactic| walk_at "MidEnd") => `(tactic| first
  | ((with_reducible show MidEnd _ _ _ _ _ _ _ Flow.next _); (refine' ⟨(tk8 _ _ _ _ _ _ _ _, _), _, _, _, rfl, ?F, ?N, ?ps, ?P⟩); (case F => assumption); (case N => (refine' nsub ?N1 ?N2; (case N1 => assumption); (case N2 => kstt_sub))); (case ps => kst_all); (case P => k_extra "mid"))
  | ((fail_if_success (with_reducible show MidEnd _ _ _ _ _ _ _ Flow.next _)); dsimp only [MidEnd]))
local macro_rules | `(tactic| walk_at "WEnd") => `(tactic| ((fail_if_success (with_reducible show WEnd _ _ _ _ _ _ _ _ _ Flow.next _)); dsimp only [WEnd]))
local macro_rules | `(tactic| walk_at "callWith") => `(tactic| (k_here; (with_reducible refine' callWith_method1 ?_ ?he ?hp); (case he => k_dflt rfl); (case hp => k_dflt rfl)))
local macro_rules | `(tactic| k_steps) => `(tactic| repeat' (first | (k_unfold; (try dsimp only)) | (k_end; wrow_close) | walk1 | (dsimp only [List.cons_append, List.nil_append]; walk1) | (dsimp only) | fail "no step"))
theorem b10s {w : World} {du rw' hp : Nat} {v1 v2 v3 : Value} {y : PySem.Str} {yt : Nat} {led : List (Addr × Obj)} {Post : (PySem.Str → Option Value) → List (Addr × Obj) → Prop}
    (hpost : ∀ m' news', (∀ p ∈ psB v1 v2 v3 true hp du rw' y yt true, m' p.1 = some p.2) → (∀ q ∈ led, q ∈ news') → Post m' news') :
    BodyC w 10 (psB v1 v2 v3 true hp du rw' y yt true) led Post := by
  unfold BodyC KF PG
  k_fill
  intro mean mg mb base h₀ L fa cd m s Q E B F hps X N hT hE hret
  rw [← kstB_self hps] at F
  clear hps
  simp only [LB, forBody, LR, recOfWalk, List.drop_succ_cons, List.drop_zero]
  (try k_fold)
  k_with_none
  repeat' (first | ((fail_if_success (with_reducible show Q _ _)); first | (k_unfold; (try dsimp only)) | (k_end; wrow_close) | walk1 | (dsimp only [List.cons_append, List.nil_append]; walk1) | (dsimp only) | fail "no step"))
  exact hret _ _ _ _ (by assumption) N (hpost _ _ (by kst_all) fun _ h => h)
section
theorem b10c {w : World} {hx hd' sx lf tq ct dl du rw' hp dep rep k1 k2 kd : Nat} {κh : Nat → Nat} {st : Value} {oC : Obj} {nmT : PySem.Str} {fl : Bool} {us rus : List Value} {O A : List (Addr × Obj)} {prs : List (PySem.Str × PySem.Str)} {v2 v3 : Value} {dn la : Bool} {y : PySem.Str} {yt : Nat} {Post : (PySem.Str → Option Value) → List (Addr × Obj) → Prop}
    (hld : (la && dn) = false) (hD : oC.IsDictOf (PySem.strKind PG w) (ctRows kd k1 nmT k2 dl fl)) (hs : ((ct : Addr) == sysModules) = false) (hpr : Prs us O prs) (hO : ∀ q ∈ O, q ∈ A) (hr : Its rowObj rus A prs) (hul : us.length ≤ 100) (hrl : rus.length ≤ 100) (ok : OkP prs)
    (hpost : ∀ m' news', (∀ p ∈ psB (.ref hx) v2 v3 dn hp du rw' y yt la, m' p.1 = some p.2) → (∀ q ∈ (hx, instObj 762 hd') :: (hd', hdD8 w κh sx lf tq st (.ref ct)) :: (ct, oC) :: (dl, W.listOf us.toArray dep) :: (rw', W.listOf rus.toArray rep) :: A, q ∈ news') → Post m' news') :
    BodyC w 10 (psB (.ref hx) v2 v3 dn hp du rw' y yt la) ((hx, instObj 762 hd') :: (hd', hdD8 w κh sx lf tq st (.ref ct)) :: (ct, oC) :: (dl, W.listOf us.toArray dep) :: (rw', W.listOf rus.toArray rep) :: A) Post := by
  unfold BodyC KF PG
  k_fill
  intro mean mg mb base h₀ L fa cd m s Q E B F hps X N hT hE hret
  have hps' := hps
  rw [← kstB_self hps] at F
  clear hps
  simp only [LB, forBody, LR, recOfWalk, List.drop_succ_cons, List.drop_zero]
  (try k_fold)
  have hvd : valueAt (ctRows kd k1 nmT k2 dl fl) (Str.ofString "data") = some (.ref dl) := valueAt_of_get9 (i := 2) hD rfl
  k_with_none
  have key : la = false ∨ (la = true ∧ dn = false) := by cases la <;> cases dn <;> simp at hld ⊢
  rcases key with rfl | ⟨rfl, rfl⟩
  all_goals
    repeat' (first | ((fail_if_success (with_reducible show wpAny _ _ (eval (PySem.Expr.ListComp _ _ _ _) _) _ _ _)); first | (k_unfold; (try dsimp only)) | (k_end; wrow_close) | walk1 | (dsimp only [List.cons_append, List.nil_append]; walk1) | (dsimp only) | fail "no step"))
    (rename Fr _ _ _ _ => f9)
    (rename News _ _ _ _ => n9)
    refine' LCg.ListComp_U (x := Str.ofString "pair") f9 ?hclos9 ?hcell9 ?hkind9 ?hnames9 ?hx9 ?_ ?hs9
    case hclos9 => with_unfolding_all rfl
    case hcell9 => decide
    case hkind9 => rfl
    case hnames9 => decide
    case hx9 => rfl
    case hs9 => (intro _; rfl)
    repeat' (first | ((fail_if_success (with_reducible show LCg.CompSrc _ _ _ _ _ _ _ _ _ _ _ _ _ _)); first | (k_unfold; (try dsimp only)) | (k_end; wrow_close) | walk1 | (dsimp only [List.cons_append, List.nil_append]; walk1) | (dsimp only) | fail "no step"))
    refine' LCg.CompSrc.ledger rfl (by assumption) n9 (.tail _ (.tail _ (.tail _ (.head _)))) (by rw [List.size_toArray]; exact Nat.le_trans hul (by decide)) fun hx2 => ?_
    refine' rest_rows (rows := prs) (by rw [List.size_toArray]; exact hpr.len.symm) (fun nw p h => h.elim .inl fun ⟨o, h1, h2⟩ => .inr ⟨o, .tail _ h1, h2⟩) (.inr ⟨_, (.tail _ (.tail _ (.tail _ (.head _)))), rfl, _, rfl⟩) ?turn9 ?fin9
    case turn9 =>
      intro i q v I oI C oC2 D m₂ ys h2 tk2 E2 nw hq hv hC2 hm2 F2 N2 off2 ne2 hS2 hsub2
      obtain ⟨a9, p9, t9, u9, q9, rfl, hq9, hm9⟩ := hpr.at i v (by simpa using hv)
      obtain rfl : q9 = q := Option.some.inj (hq9.symm.trans hq)
      have N3 := ncons (p := (a9, W.listOf [Value.str q9.1 t9, Value.str q9.2 u9].toArray p9)) N2 (.tail _ (.tail _ (.tail _ (hsub2 _ (.tail _ (.tail _ (.tail _ (.tail _ (.tail _ (hO _ hm9))))))))))
      clear N2 n9
      repeat' (first | ((fail_if_success (with_reducible show LCg.CompEnd _ _ _ _ _ _ _ _ _ _ _ _ _ _)); first | (k_unfold; (try dsimp only)) | (k_end; wrow_close) | walk1 | (dsimp only [List.cons_append, List.nil_append]; walk1) | (dsimp only) | fail "no step"))
      (rename News _ _ _ _ => n9)
      (rename a9 < _ ∧ _ => l9)
      obtain ⟨D9, eD9⟩ := News.addr n9
      subst eD9
      obtain ⟨z1, z4, z5, z6, z7⟩ := l9
      refine' ⟨_, _, (D9, rowObj q9 t9 u9) :: nw, rfl, (by assumption), nsub n9 fun q hq => ?_, ⟨⟨Nat.ne_of_gt z4, Nat.ne_of_gt z5, Nat.ne_of_gt z6⟩, off2⟩, hS2.elim .inl fun ⟨o, h1, h2⟩ => .inr ⟨o, .tail _ h1, h2⟩, D9, _, _, rfl, z7, rfl⟩
      simp only [List.mem_cons] at hq ⊢
      rcases hq with h | h | h | h | h
      · exact .inr (.inr (.inl h))
      · exact .inr (.inr (.inr (.inl h)))
      · exact .inr (.inr (.inr (.inr (.inl h))))
      · exact .inl h
      · exact .inr (.inr (.inr (.inr (.inr h))))
    case fin9 =>
      intro ys tl2 hI hl2 D2 h2 tk2 F2 N2 off2
      dsimp only
      clear n9
      repeat' (first | ((fail_if_success (with_reducible show wpAny _ _ (compareOp CmpOp.NotEq _ _) _ _ _)); first | (k_unfold; (try dsimp only)) | (k_end; wrow_close) | walk1 | (dsimp only [List.cons_append, List.nil_append]; walk1) | (dsimp only) | fail "no step"))
      refine' rows_ne N2 (.head _) (.tail _ (List.mem_append_right _ (.tail _ (.tail _ (.tail _ (.tail _ (.head _))))))) hI hr (fun q hq => .tail _ (List.mem_append_left _ hq)) (fun q hq => .tail _ (List.mem_append_right _ (.tail _ (.tail _ (.tail _ (.tail _ (.tail _ hq))))))) ok ?hu ?_
      case hu => ke_room
      repeat' (first | ((fail_if_success (with_reducible show Q _ _)); first | (k_unfold; (try dsimp only)) | (k_end; wrow_close) | walk1 | (dsimp only [List.cons_append, List.nil_append]; walk1) | (dsimp only) | fail "no step"))
      exact hret _ _ _ _ (by assumption) (nsub N2 fun q hq => .tail _ (List.mem_append_right _ hq)) (hpost _ _ (by kst_all) fun _ h => h)
end
end Mine
theorem Mine.off_w0 {M : Model} {A : Around} {env : Env} {Q : Flow → Shared → Prop} {E : Value → Shared → Prop} {s : Shared} (h : wpAny M A (execs [] env) Q E s) : wpAny M A (execs [] env) Q E s := by
  (try (walk1; fail "no"))
  w_top off
  exact h
namespace Mine
local macro_rules | `(tactic| k_ne) => `(tactic| first | exact (show Nq _ _ by with_reducible assumption) | exact Ne.symm (show Nq _ _ by with_reducible assumption) | (refine neN ?_; (try dsimp only); omega))
local macro_rules | `(tactic| k_room) => `(tactic| ((try simp only [depth_under_make, depth_under_kw, depth_in1, depth_deeper, depth_caller, ktrTop, recursionLimit] at *); omega))
local macro_rules | `(tactic| k_units) => `(tactic| ((have hcL9 := cLine_is); (try simp only [units_in1, units_deeper, Around.mark_units, units_caller, ktrTop] at *); omega))
local macro_rules | `(tactic| ktr_enter) => `(tactic| (refine' code_def ?k1 ?k2 ?k3 ?k4 ?k5 ?kA ?kF ?kK ?k6 ?k7 ?k8 ?k9 ?kB ?_ ?c2 ?c3 ?c4 ?c5; (case kA => exact rfl); (case kF => exact rfl); (case kK => first | exact rfl | assumption); (case k1 => k_asm); (case k2 => k_asm); (case k3 => k_asm); (case k4 => k_asm); (case k5 => k_asm); (case k6 => k_is); (case k7 => k_is); (case k8 => k_room); (case k9 => first | exact BindsTo.of_eq rfl | exact binds_K (by k_in) rfl (by k_is) rfl rfl rfl); (case c5 => decide); (case kB => exact locs rfl); (case c2 => exact rfl); (case c3 => exact rfl); (case c4 => exact rfl); k_whole; intro g' L' h' FG' F' N' B' X' T'; (try dsimp only); (try k_fold)))
local macro_rules | `(tactic| k_all) => `(tactic| (with_reducible assumption))
local macro_rules | `(tactic| tb_lt) => `(tactic| first | exact Pick.head | (refine' Pick.tail ?c; (case c => tb_lt)))
local macro_rules | `(tactic| tb_start) => `(tactic| first | exact Picks.nil | (refine' Picks.cons ?a ?b; (case a => tb_lt); (case b => tb_start)))
local macro_rules | `(tactic| tb_rel) => `(tactic| first | exact List.forall_mem_nil _ | (refine' List.forall_mem_cons.mpr ⟨?a, ?b⟩; (case a => k_all); (case b => tb_rel)))
local macro_rules | `(tactic| walk_at "TPost") => `(tactic| (dsimp only [TPost]))
local macro_rules | `(tactic| size_fits) => `(tactic| ((simp only [PySem.sizeLine_eq, List.size_toArray]); omega))
local macro_rules | `(tactic| k_gentoks) => `(tactic| (with_reducible refine' gen_toksP ?hp ?_; (case hp => first | omega | ((try simp only [List.length_cons]); omega)); intro tk htk))
local macro_rules | `(tactic| kstt_sub) => `(tactic| first | exact fun _ h => h | assumption | (refine' subCons ?a ?b; (case a => k_mem); (case b => kstt_sub)) | (refine' subTail ?a; (case a => kstt_sub)))
local macro_rules | `(tactic| kst_all) => `(tactic| first | exact List.forall_mem_nil _ | (refine' List.forall_mem_cons.mpr ⟨?a, ?b⟩; (case a => exact rfl); (case b => kst_all)))
local macro_rules | `(tactic| walk_at "MidEnd") => `(tactic| first
  | ((with_reducible show MidEnd _ _ _ _ _ _ _ Flow.next _); (refine' ⟨(tk8 _ _ _ _ _ _ _ _, _), _, _, _, rfl, ?F, ?N, ?ps, ?P⟩); (case F => assumption); (case N => (refine' nsub ?N1 ?N2; (case N1 => assumption); (case N2 => kstt_sub))); (case ps => kst_all); (case P => k_extra "mid"))
  | ((fail_if_success (with_reducible show MidEnd _ _ _ _ _ _ _ Flow.next _)); dsimp only [MidEnd]))
local macro_rules | `(tactic| walk_at "WEnd") => `(tactic| ((fail_if_success (with_reducible show WEnd _ _ _ _ _ _ _ _ _ Flow.next _)); dsimp only [WEnd]))
local macro_rules | `(tactic| walk_at "callWith") => `(tactic| (k_here; (with_reducible refine' callWith_method1 ?_ ?he ?hp); (case he => k_dflt rfl); (case hp => k_dflt rfl)))
local macro_rules | `(tactic| k_steps) => `(tactic| repeat' (first | (k_unfold; (try dsimp only)) | (k_end; wrow_close) | walk1 | (dsimp only [List.cons_append, List.nil_append]; walk1) | (dsimp only) | fail "no step"))
theorem BodyC.sub {w : World} {n : Nat} {ps ps' : List (PySem.Str × Value)} {led led' : List (Addr × Obj)} {Post : (PySem.Str → Option Value) → List (Addr × Obj) → Prop} (h : BodyC w n ps led Post) (h1 : ∀ p ∈ ps, p ∈ ps') (h2 : ∀ q ∈ led, q ∈ led') : BodyC w n ps' led' Post :=
  fun mean mg mb base h₀ L fa cd m s Q E B F hps X N T hE hret => h mean mg mb base h₀ L fa cd m s Q E B F (fun p hp => hps p (h1 p hp)) X (nsub N h2) T hE hret
theorem BodyT.sub {w : World} {n : Nat} {ps ps' : List (PySem.Str × Value)} {led led' : List (Addr × Obj)} {Post : (PySem.Str → Option Value) → List (Addr × Obj) → Prop} (h : BodyT w n ps led Post) (h1 : ∀ p ∈ ps, p ∈ ps') (h2 : ∀ q ∈ led, q ∈ led') : BodyT w n ps' led' Post :=
  fun mean mg mb base h₀ L fa cd m s Q E B F hps X N T hE htk hret => h mean mg mb base h₀ L fa cd m s Q E B F (fun p hp => hps p (h1 p hp)) X (nsub N h2) T hE htk hret
abbrev psA (v1 v2 v3 : Value) (dn : Bool) (hp du rw' : Nat) : List (PySem.Str × Value) :=
  [(Str.ofString "t", v1), (Str.ofString "kind", v2), (Str.ofString "flag", v3), (Str.ofString "done", .bool dn), (Str.ofString "heads", .ref hp), (Str.ofString "due", .ref du), (Str.ofString "row", .ref rw')]
theorem fff_is : Str.ofString "\ufffd" = ⟨#[65533]⟩ := by decide +kernel
theorem b0 {w : World} {hp du rw' f ft xt : Nat} {v1 v2 v3 : Value} {dn : Bool} {x : PySem.Str} {led : List (Addr × Obj)} {Post : (PySem.Str → Option Value) → List (Addr × Obj) → Prop}
    (hnext : ∀ st : Nat, BodyC w 1 (psA v1 v2 v3 dn hp du rw' ++ [(Str.ofString "rest", .str x xt), (Str.ofString "start", .str ⟨#[fixC f]⟩ st)]) led Post) :
    BodyC w 0 (psA v1 v2 v3 dn hp du rw' ++ [(Str.ofString "rest", .str x xt), (Str.ofString "first", .str ⟨#[f]⟩ ft)]) led Post := by
  unfold BodyC KF PG
  k_fill
  intro mean mg mb base h₀ L fa cd m s Q E B F hps X N hT hE hret
  rw [← kstB_self hps] at F
  clear hps
  simp only [LB, forBody, LR, recOfWalk, List.drop_succ_cons, List.drop_zero]
  dsimp only [psA, List.cons_append, List.nil_append] at F
  (try k_fold)
  k_with_none
  by_cases h0 : f = 0
  · have h6 : ((⟨#[f]⟩ : PySem.Str) == PySem.Str.ofString "\x00") = true := by rw [one_eq zero_is, decide_eq_true_eq]; exact h0
    repeat' (first | ((fail_if_success (with_reducible show wpAny _ _ (execs (_ :: _ :: _ :: _ :: _ :: _ :: _ :: _ :: _ :: _ :: []) _) _ _ _)); first | (k_unfold; (try dsimp only)) | (k_end; wrow_close) | walk1 | (dsimp only [List.cons_append, List.nil_append]; walk1) | (dsimp only) | fail "no step"))
    (rename Fr _ _ _ _ => f8)
    (rename News _ _ _ _ => n8)
    have e9 : (⟨#[fixC f]⟩ : PySem.Str) = Str.ofString "\ufffd" := by rw [fff_is, show fixC f = 65533 from if_pos h0]
    have hgo := hnext
    rw [e9] at hgo
    exact BodyC.use (hgo _) n8 (fun _ h => h) f8 (by dsimp only [psA, List.cons_append, List.nil_append]; kst_all) B X hT hE fun h' tk' m' news' hF hN hP => hret h' tk' m' news' hF hN hP
  · have h6 : ((⟨#[f]⟩ : PySem.Str) == PySem.Str.ofString "\x00") = false := by rw [one_eq zero_is, decide_eq_false_iff_not]; exact h0
    repeat' (first | ((fail_if_success (with_reducible show wpAny _ _ (execs (_ :: _ :: _ :: _ :: _ :: _ :: _ :: _ :: _ :: _ :: []) _) _ _ _)); first | (k_unfold; (try dsimp only)) | (k_end; wrow_close) | walk1 | (dsimp only [List.cons_append, List.nil_append]; walk1) | (dsimp only) | fail "no step"))
    (rename Fr _ _ _ _ => f8)
    (rename News _ _ _ _ => n8)
    have e9 : (⟨#[fixC f]⟩ : PySem.Str) = ⟨#[f]⟩ := by rw [show fixC f = f from if_neg h0]
    have hgo := hnext
    rw [e9] at hgo
    exact BodyC.use (hgo _) n8 (fun _ h => h) f8 (by dsimp only [psA, List.cons_append, List.nil_append]; kst_all) B X hT hE fun h' tk' m' news' hF hN hP => hret h' tk' m' news' hF hN hP
section
local macro_rules | `(tactic| walk_at "call builtin:len") => `(tactic| (k_here; (with_reducible show wpAny _ _ (call (Value.builtin "len") [Value.ref _]) _ _ _); k_dflt (refine' len_list_t ?N ?hm ?z ?_; (case N => assumption); (case hm => k_mem); (case z => (try dsimp only [List.length_append]); omega))))
theorem b1 {w : World} {hx hd' sx lf tq ct dl du rw' hp dep rep k1 k2 kd st xt : Nat} {κh : Nat → Nat} {stv : Value} {oC : Obj} {nmT x sv : PySem.Str} {fl : Bool} {us rus : List Value} {A : List (Addr × Obj)} {v2 v3 : Value} {dn : Bool} {Post : (PySem.Str → Option Value) → List (Addr × Obj) → Prop}
    (hD : oC.IsDictOf (PySem.strKind PG w) (ctRows kd k1 nmT k2 dl fl)) (hs : ((ct : Addr) == sysModules) = false) (hul : us.length ≤ 100) (hrl : rus.length ≤ 100)
    (d1 : Nq dl hx ∧ Nq dl hd' ∧ Nq dl ct ∧ Nq dl rw') (d2 : ∀ p ∈ A, p.1 ≠ dl)
    (hnext : ∀ p t1 t2 : Nat, (hx < p ∧ hd' < p ∧ ct < p ∧ dl < p ∧ rw' < p ∧ AllLt p A) →
      BodyT w 2 (psA (.ref hx) v2 v3 dn hp du rw' ++ [(Str.ofString "rest", .str x xt), (Str.ofString "start", .str sv st)]) ((p, W.listOf [Value.str sv t1, Value.str (valS rus.length) t2].toArray 0) :: (hx, instObj 762 hd') :: (hd', hdD8 w κh sx lf tq stv (.ref ct)) :: (ct, oC) :: (dl, W.listOf (us ++ [Value.ref p]).toArray (dep + 1)) :: (rw', W.listOf rus.toArray rep) :: A) Post) :
    BodyC w 1 (psA (.ref hx) v2 v3 dn hp du rw' ++ [(Str.ofString "rest", .str x xt), (Str.ofString "start", .str sv st)]) ((hx, instObj 762 hd') :: (hd', hdD8 w κh sx lf tq stv (.ref ct)) :: (ct, oC) :: (dl, W.listOf us.toArray dep) :: (rw', W.listOf rus.toArray rep) :: A) Post := by
  unfold BodyC KF PG
  k_fill
  intro mean mg mb base h₀ L fa cd m s Q E B F hps X N hT hE hret
  rw [← kstB_self hps] at F
  clear hps
  simp only [LB, forBody, LR, recOfWalk, List.drop_succ_cons, List.drop_zero]
  dsimp only [psA, List.cons_append, List.nil_append] at F
  (try k_fold)
  obtain ⟨d3, d4, d5, d6⟩ := d1
  have hvd : valueAt (ctRows kd k1 nmT k2 dl fl) (Str.ofString "data") = some (.ref dl) := valueAt_of_get9 (i := 2) hD rfl
  k_with_none
  repeat' (first | ((fail_if_success (with_reducible show wpAny _ _ (binaryOp _ (Value.str _ _) (Value.str _ _)) _ _ _)); first | (k_unfold; (try dsimp only)) | (k_end; wrow_close) | walk1 | (dsimp only [List.cons_append, List.nil_append]; walk1) | (dsimp only) | fail "no step"))
  refine with_toksQ (n := 1) (by (try dsimp only); omega) ?_
  walk1
  dsimp only
  intro htk0
  repeat' (first | ((fail_if_success (with_reducible show wpAny _ _ (call (Value.builtin "list.append") _) _ _ _)); first | (k_unfold; (try dsimp only)) | (k_end; wrow_close) | walk1 | (dsimp only [List.cons_append, List.nil_append]; walk1) | (dsimp only) | fail "no step"))
  refine with_toksQ (n := 1) (by (try dsimp only); omega) ?_
  walk1
  dsimp only
  intro htk
  (rename Fr _ _ _ _ => f8)
  (rename News _ _ _ _ => n8)
  (rename hx < _ ∧ _ => z9)
  obtain ⟨p9, e1⟩ := News.addr n8
  subst e1
  simp only [push_app] at n8
  exact BodyT.use (hnext p9 _ _ z9) n8 (fun _ h => h) f8 (by dsimp only [psA, List.cons_append, List.nil_append]; kst_all) B X hT hE htk fun h' tk' m' news' hF hN hP => hret h' tk' m' news' hF hN hP
local macro_rules | `(tactic| walk_at "call ref") => `(tactic| (k_here; k_dflt (refine' TellR.use (parts_t ?p1) ?k1 ?k2 ?k3 ?k4 ?k5 ?kK ?kp ?ko ?kd ?ku ?k0 ?_; (case k1 => k_asm); (case k2 => k_asm); (case k3 => k_asm); (case k4 => k_asm); (case k5 => k_asm); (case kK => first | exact rfl | assumption); (case kp => tb_start); (case ko => tb_rel); (case p1 => omega); (case kd => k_room); (case ku => k_units); (case k0 => first | exact (show 1 ≤ _ by (try dsimp only); omega) | exact Nat.zero_le _); intro r9 f9 h9 tk9 p9 F9 N9 hP9; obtain ⟨tp9, fl9, ep9, t9, us9, tl9, e1, hF9, hul9, z1, z2, z3, z4, z5, e2⟩ := hP9; subst e1; subst e2; have hzz9 := And.intro hF9 (And.intro z1 (And.intro z2 z4)); clear hF9 z1 z2 z4; (try dsimp only [List.nil_append, List.cons_append] at N9); (try k_fold))))
theorem b2 {w : World} {hp du rw' st xt : Nat} {v1 v2 v3 : Value} {dn : Bool} {x sv : PySem.Str} {led : List (Addr × Obj)} {Post : (PySem.Str → Option Value) → List (Addr × Obj) → Prop}
    (hx : x.length ≤ 100)
    (hnext : ∀ (fp fep dt : Nat) (fus : List Value) (tl : List (Addr × Obj)), Flts fus tl (fltW x.cps.toList) → (∀ p ∈ tl, AllLt p.1 led) → AllLt fp led → (∀ p ∈ tl, p.1 ≠ fp) →
      BodyT w 3 (psA v1 v2 v3 dn hp du rw' ++ [(Str.ofString "rest", .str x xt), (Str.ofString "start", .str sv st), (Str.ofString "deeds", .int (partsN x.cps.toList false : Nat) dt), (Str.ofString "faults", .ref fp)]) ((fp, W.listOf fus.toArray fep) :: (tl ++ led)) Post) :
    BodyT w 2 (psA v1 v2 v3 dn hp du rw' ++ [(Str.ofString "rest", .str x xt), (Str.ofString "start", .str sv st)]) led Post := by
  unfold BodyT KF PG
  k_fill
  intro mean mg mb base h₀ L fa cd m s Q E B F hps X N hT hE htk hret
  rw [← kstB_self hps] at F
  clear hps
  simp only [LB, forBody, LR, recOfWalk, List.drop_succ_cons, List.drop_zero]
  dsimp only [psA, List.cons_append, List.nil_append] at F
  (try k_fold)
  k_with_none
  repeat' (first | ((fail_if_success (with_reducible show wpAny _ _ (execs (_ :: _ :: _ :: _ :: _ :: _ :: _ :: _ :: []) _) _ _ _)); first | (k_unfold; (try dsimp only)) | (k_end; wrow_close) | walk1 | (dsimp only [List.cons_append, List.nil_append]; walk1) | (dsimp only) | fail "no step"))
  (rename Fr _ _ _ _ => f8)
  (rename News _ _ _ _ => n8)
  (rename Flts _ _ _ ∧ _ => zz)
  obtain ⟨z1, z2, z4, z3⟩ := zz
  rw [partsF_is] at f8
  (try dsimp only)
  refine' BodyT.use (hnext _ _ _ _ _ z1 z2 z4 (fun p hp => (z3 p hp).1)) n8 (fun _ h => .tail _ h) f8 ?ps B X hT hE ?tk ?rt
  case ps => dsimp only [psA, List.cons_append, List.nil_append]; kst_all
  case tk => (try dsimp only); omega
  case rt => exact fun h' tk' m' news' hF hN hP => hret h' tk' m' news' hF hN hP
end
end Mine
namespace Mine
theorem TellO.mono {w : World} {D U : Nat} {f : Value} {args : List Value} {O front : List (Addr × Obj)} {Post Post' : Value → List (Addr × Obj) → List (Addr × Obj) → Prop} (h : TellO w D U f args O front Post) (hp : ∀ r f' rest, Post r f' rest → Post' r f' rest) : TellO w D U f args O front Post' :=
  fun rest hO off mean mg mb dp un gd cn cs a ccd cl outer A₀ base h₀ L m s Q E B F X N T hk hd hu ret =>
    h rest hO off mean mg mb dp un gd cn cs a ccd cl outer A₀ base h₀ L m s Q E B F X N T hk hd hu fun r n' h' tk' F' N' ⟨f', hP, e⟩ => ret r n' h' tk' F' N' ⟨f', hp r f' rest hP, e⟩
/-- the turn's calls: j of them within the name, the last behind it -/
def SttT (D : Nat) (Rn : Nat → List (Addr × Obj) → Prop) (Out : List (Addr × Obj) → Prop) (j : Nat) (f : List (Addr × Obj)) : Prop := (j ≤ D ∧ Rn j f) ∨ (j = D + 1 ∧ Out f)
theorem stt_call {w : World} {hx D : Nat} {O : List (Addr × Obj)} {Rn : Nat → List (Addr × Obj) → Prop} {Out : List (Addr × Obj) → Prop}
    (step : ∀ j f, j < D → Rn j f → TellO w 20 200 (.ref 542) [.ref hx] O f (fun r f' rest => r = .bool true ∧ Rn (j + 1) f' ∧ ∀ q ∈ f', ∀ p ∈ rest, p.1 ≠ q.1))
    (exit : ∀ f, Rn D f → TellO w 20 200 (.ref 542) [.ref hx] O f (fun r f' rest => r = .bool true ∧ Out f' ∧ ∀ q ∈ f', ∀ p ∈ rest, p.1 ≠ q.1)) :
    ∀ j f, j ≤ D → SttT D Rn Out j f → TellO w 20 200 (.ref 542) [.ref hx] O f (fun r f' rest => r = .bool true ∧ SttT D Rn Out (j + 1) f' ∧ ∀ q ∈ f', ∀ p ∈ rest, p.1 ≠ q.1) := by
  rintro j f hj (⟨-, hR⟩ | ⟨rfl, -⟩)
  · rcases Nat.lt_or_ge j D with h | h
    · exact (step j f h hR).mono fun r f' rest ⟨h1, h2, h3⟩ => ⟨h1, .inl ⟨h, h2⟩, h3⟩
    · obtain rfl : j = D := Nat.le_antisymm hj h
      exact (exit f hR).mono fun r f' rest ⟨h1, h2, h3⟩ => ⟨h1, .inr ⟨rfl, h2⟩, h3⟩
  · exfalso; omega
theorem run_form {w : World} {hx hd' tq lf ct dl p sx sd tx td ra el nl : Nat} {κh κ κ' : Nat → Nat} {st : Value} {qs us : List Value} {oC : Obj} {dep t2 D j : Nat} {val : PySem.Str} {s0 tl r : List Nat} {f : List (Addr × Obj)} {Out : List (Addr × Obj) → Prop}
    (hj : j ≤ D) (h : SttT D (Run w hx hd' tq lf ct dl p sx sd tx td ra el nl κh κ κ' st qs oC us dep val t2 s0 tl r) Out j f) : ∃ (κh : Nat → Nat) (sx lf tq : Nat) (st cv : Value) (f2 : List (Addr × Obj)), f = (hx, instObj 762 hd') :: (hd', hdD8 w κh sx lf tq st cv) :: f2 := by
  rcases h with ⟨-, h⟩ | ⟨rfl, -⟩
  · obtain ⟨a0, a1, a2, a3, a4, b0, b1, S, bf, vs, ep, te, pep, t1, nm, refs, exq, ex, ws, q, h1, h2, h3, h4, h5, hex, h6, h7, h8, h9, h10, rfl⟩ := h
    exact ⟨κh, sx, lf, tq, st, .ref ct, _, rfl⟩
  · exfalso; omega
theorem run_start {w : World} {hx hd' tq lf ct dl p sx sd tx td ra el nl : Nat} {κh κ κ' : Nat → Nat} {st : Value} {qs us : List Value} {oC : Obj} {dep t2 D : Nat} {val : PySem.Str} {s0 tl r : List Nat} {Out : List (Addr × Obj) → Prop}
    {a0 a1 a2 a3 a4 b0 b1 : Nat} {S : SS} {bf : Value} {vs : List Value} {ep te pep t1 : Nat} {nm : PySem.Str} (h1 : rem S = r ++ tl) (h2 : nm.cps.toList = s0) (h3 : WF S) (h4 : BfV S.bo bf) (h5 : Errs vs S.n) (h6 : ∀ c ∈ r, c ∉ exitC) :
    SttT D (Run w hx hd' tq lf ct dl p sx sd tx td ra el nl κh κ κ' st qs oC us dep val t2 s0 tl r) Out 0 (atF w hx hd' tq lf ct dl p sx sd tx td ra el nl κh κ κ' a0 a1 a2 a3 a4 b0 b1 S bf vs ep st qs te oC us dep nm val t1 t2 pep) := by
  refine .inl ⟨Nat.zero_le _, a0, a1, a2, a3, a4, b0, b1, S, bf, vs, ep, te, pep, t1, nm, [], [], [], [], r, h1, rfl, by rw [h2], rfl, .nil, (fun q hq => nomatch hq), h3, h4, h5, (fun q hq => nomatch hq), h6, ?_⟩
  rw [List.append_nil, List.append_nil]
end Mine
namespace Mine
/-! from the fourth statement of a turn on -/
theorem flts_len {us : List Value} {tl : List (Addr × Obj)} {ws : List PySem.Str} (h : Flts us tl ws) : us.length = ws.length := h.len
theorem body_rest {w : World} {du rw' fp hp dep rep fep hep : Nat} {us rus fus hvs : List Value} {A T : List (Addr × Obj)} {v1 v2 v3 : Value} {dn : Bool} {sx rx nm : PySem.Str} {st rt : Nat} {ws fs : List PySem.Str} {prs : List (PySem.Str × PySem.Str)} {Post : (PySem.Str → Option Value) → List (Addr × Obj) → Prop}
    (hs : sx.length ≤ 100) (hr : rx.length ≤ 100) (hul : us.length ≤ 100) (hfl : fus.length ≤ 90) (hrl : rus.length ≤ 90) (hhl : hvs.length ≤ 100)
    (hF : Flts us T ws) (hF2 : Flts fus T fs) (hI : Its rowObj rus A prs) (hnm : nm.cps.toList = (sx.cps.toList ++ rx.cps.toList.map fixC).map lw) (d1 : Nq rw' hp) (d2 : ∀ q ∈ A, q.1 ≠ rw')
    (hend : ∀ (du' D t1 t2 yt uep : Nat) (us' : List Value) (ex : List (Addr × Obj)), Flts us' (ex ++ T) (ws ++ fs ++ eoL (((rus.length : Nat) : Int) + 1 == ((hvs.length : Nat) : Int)) dn ++ dupL nm prs) → 
      (∀ q ∈ ex, rw' < q.1 ∧ hp < q.1 ∧ du' < q.1 ∧ AllLt q.1 A) → (rw' < D ∧ hp < D ∧ du' < D ∧ AllLt D A) → (rw' < du' ∧ hp < du' ∧ AllLt du' A) →
      BodyC w 10 (psB v1 v2 v3 dn hp du' rw' nm yt (((rus.length : Nat) : Int) + 1 == ((hvs.length : Nat) : Int))) ((D, rowObj (nm, valS rus.length) t1 t2) :: (du', W.listOf us'.toArray uep) :: (rw', W.listOf (rus ++ [Value.ref D]).toArray (rep + 1)) :: (hp, W.listOf hvs.toArray hep) :: (ex ++ A)) Post) :
    BodyT w 4 [(Str.ofString "t", v1), (Str.ofString "kind", v2), (Str.ofString "flag", v3), (Str.ofString "done", .bool dn), (Str.ofString "heads", .ref hp), (Str.ofString "due", .ref du), (Str.ofString "row", .ref rw'), (Str.ofString "start", .str sx st), (Str.ofString "rest", .str rx rt), (Str.ofString "faults", .ref fp)]
      ((du, W.listOf us.toArray dep) :: (rw', W.listOf rus.toArray rep) :: (fp, W.listOf fus.toArray fep) :: (hp, W.listOf hvs.toArray hep) :: A) Post := by
  refine b4 hs hr (by omega) (by omega) (by omega) (by omega) fun du' dep' y yt hy hlt => ?_
  obtain rfl : y = nm := by
    have h1 : y.cps.toList = nm.cps.toList := hy.trans hnm.symm
    obtain ⟨a⟩ := y
    obtain ⟨b⟩ := nm
    rw [Array.toList_inj] at h1
    show (⟨a⟩ : PySem.Str) = ⟨b⟩
    rw [show a = b from h1]
  simp only [AllLt] at hlt
  obtain ⟨z1, z2, z3, z4, z5⟩ := hlt
  refine b7 (by rw [List.length_append]; omega) (hF.app hF2) (Nat.ne_of_gt z2) (Nat.ne_of_gt z4) (fun q hq => Nat.ne_of_lt (tb_ltOf z5 q hq)) fun us1 dep1 ex1 hF1 hl1 hx1 => ?_
  have hI1 : Its rowObj rus (ex1 ++ A) prs := hI.mono fun q hq => List.mem_append_right _ hq
  have off1 : ∀ q ∈ ex1 ++ A, q.1 ≠ du' := fun q hq => (List.mem_append.mp hq).elim (fun h => Nat.ne_of_gt (hx1 q h).1) (fun h => Nat.ne_of_lt (tb_ltOf z5 q h))
  have hl0 : us1.length ≤ 191 := by rw [List.length_append] at hl1; omega
  refine b8 (by omega) (by omega) hF1 hI1 (Nat.ne_of_gt z2) (Nat.ne_of_gt z4) off1 fun us2 dep2 ex2 hF2 hl2 hx2 => ?_
  have off2 : ∀ q ∈ ex2 ++ (ex1 ++ A), q.1 ≠ rw' := fun q hq => by
    rcases List.mem_append.mp hq with h | h
    · exact Nat.ne_of_gt (hx2 q h).2.1
    · rcases List.mem_append.mp h with h | h
      · exact Nat.ne_of_gt (hx1 q h).2.1
      · exact d2 q h
  refine b9 (by omega) (hI1.mono fun q hq => List.mem_append_right _ hq) (Nat.ne_of_gt z2) d1 off2 fun D t1 t2 hD => ?_
  have hA : ∀ {e : Nat} {a b : List (Addr × Obj)}, AllLt e (a ++ b) → AllLt e b := fun h => allR h
  have key := hend du' D t1 t2 yt dep2 us2 (ex2 ++ ex1) (by rw [List.append_assoc]; exact hF2) (fun q hq => ?_) ⟨hD.2.1, hD.2.2.1, hD.1, hA (hA hD.2.2.2)⟩ ⟨z2, z4, z5⟩
  · rw [List.append_assoc] at key
    exact key
  · rcases List.mem_append.mp hq with h | h
    · obtain ⟨k1, k2, k3, k4⟩ := hx2 q h
      exact ⟨k2, k3, k1, hA k4⟩
    · obtain ⟨k1, k2, k3, k4⟩ := hx1 q h
      exact ⟨k2, k3, k1, k4⟩
end Mine
namespace Mine
/-! the law's heads, and what stands between two turns -/
structure H9 where
  f : Nat
  x : PySem.Str
  e : Nat
def sigC : List Nat := [97, 66, 98, 65, 39, 0, 122, 201, 34, 90, 60, 8490, 45, 107, 38, 65533]
structure OkH (h : H9) : Prop where
  f : h.f ∈ sigC
  x : ∀ c ∈ h.x.cps.toList, c ∈ sigC
  l : h.x.length ≤ 4
  e : h.e = 61 ∨ h.e = 47 ∨ h.e = 32 ∨ h.e = 12
def nmL (h : H9) : List Nat := ([fixC h.f] ++ h.x.cps.toList.map fixC).map lw
def nmS (h : H9) : PySem.Str := ⟨(nmL h).toArray⟩
def prsOf (hs : List H9) : List (PySem.Str × PySem.Str) := hs.mapIdx fun i h => (nmS h, valS i)
theorem prsOf_snoc (hs : List H9) (h : H9) : prsOf (hs ++ [h]) = prsOf hs ++ [(nmS h, valS hs.length)] := by
  unfold prsOf
  rw [List.mapIdx_concat]
theorem prsOf_len (hs : List H9) : (prsOf hs).length = hs.length := by unfold prsOf; rw [List.length_mapIdx]
/-- the text behind one head's signs -/
def txC (dn : Bool) : List H9 → List Nat
  | [] => []
  | [h] => h.x.cps.toList ++ (if dn then [62] else [])
  | h :: g :: t => h.x.cps.toList ++ (h.e :: txC dn (g :: t))
def tlC (dn : Bool) (h : H9) : List H9 → List Nat
  | [] => if dn then [62] else []
  | g :: t => h.e :: txC dn (g :: t)
theorem txC_cons (dn : Bool) (h : H9) : ∀ t, txC dn (h :: t) = h.x.cps.toList ++ tlC dn h t
  | [] => rfl
  | _ :: _ => rfl
def OffE (l : List Nat) (E : List (Addr × Obj)) : Prop := ∀ a ∈ l, ∀ q ∈ E, q.1 ≠ a
theorem OffE.app {l : List Nat} {A B : List (Addr × Obj)} (h1 : OffE l A) (h2 : OffE l B) : OffE l (A ++ B) := fun a ha q hq => (List.mem_append.mp hq).elim (h1 a ha q) (h2 a ha q)
theorem OffE.cons {l : List Nat} {q : Addr × Obj} {B : List (Addr × Obj)} (h1 : ∀ a ∈ l, q.1 ≠ a) (h2 : OffE l B) : OffE l (q :: B) := fun a ha p hp => by
  rcases List.mem_cons.mp hp with rfl | hp
  · exact h1 a ha
  · exact h2 a ha p hp
def tagN : PySem.Str := Str.ofString "ÉTag"
def tagS : PySem.Str := Str.ofString "Étag"
theorem tag_lw : tagN.cps.toList.map lw = tagS.cps.toList := by decide +kernel
theorem str_eq9 {x y : PySem.Str} (h : x.cps.toList = y.cps.toList) : x = y := by
  obtain ⟨a⟩ := x
  obtain ⟨b⟩ := y
  have h1 : a = b := Array.toList_inj.mp h
  rw [h1]
abbrev spcL (hx hd' tq ct dl rw' sx sd tx td ra el : Nat) : List Nat := [hx, hd', tq, ct, dl, rw', sx, sd, tx, td, ra, el]
/-- what stands ahead of the i-th turn -/
def MidL (w : World) (hs : List H9) (dn fl : Bool) (kd i hx du rw' : Nat) (c : List (Addr × Obj)) : Prop :=
  ∃ (hd' tq lf ct dl sx sd tx td ra el nl : Nat) (κh κ κ' : Nat → Nat) (a0 a1 a2 a3 a4 b0 b1 : Nat) (S : SS) (bf : Value) (vs : List Value) (ep te dep uep rep k1 k2 : Nat) (st : Value) (qs us dus rus : List Value) (oC : Obj) (O exq E : List (Addr × Obj)) (ws : List PySem.Str),
    rem S = txC dn (hs.drop i) ∧ WF S ∧ BfV S.bo bf ∧ Errs vs S.n ∧ (spcL hx hd' tq ct dl rw' sx sd tx td ra el).Nodup ∧ (∀ a ∈ spcL hx hd' tq ct dl rw' sx sd tx td ra el, a ≠ du) ∧ ((ct : Addr) == sysModules) = false ∧
    oC.IsDictOf (PySem.strKind PG w) (ctRows kd k1 tagN k2 dl fl) ∧ Prs us O (prsOf (hs.take i)) ∧ (∀ q ∈ O, q ∈ E) ∧ Its rowObj rus E (prsOf (hs.take i)) ∧ Toks w qs exq ws ∧ (∀ q ∈ exq, q ∈ E) ∧ Flts dus E ws ∧ (∀ x ∈ ws, PyData.strOk x = true) ∧ ws.length ≤ 8 * i ∧
    OffE (du :: spcL hx hd' tq ct dl rw' sx sd tx td ra el) E ∧
    c = (hx, instObj 762 hd') :: (hd', hdD8 w κh sx lf tq st (.ref ct)) :: (tq, W.listOf qs.toArray te) :: (ct, oC) :: (dl, W.listOf us.toArray dep) :: (du, W.listOf dus.toArray uep) :: (rw', W.listOf rus.toArray rep) :: (stS w sx sd tx td ra el nl κ κ' a0 a1 a2 a3 a4 b0 b1 S bf vs ep ++ E)
abbrev spcM (hx hd' tq rw' sx sd tx td ra el : Nat) : List Nat := [hx, hd', tq, rw', sx, sd, tx, td, ra, el]
abbrev TagD := Option (Nat × PySem.Str × List (PySem.Str × PySem.Str) × Bool)
def TagC (hs : List H9) (dn fl : Bool) (kd : Nat) (ws wsq : List PySem.Str) (tag : TagD) : Prop :=
  (dn = false ∧ tag = none ∧ wsq = ws) ∨ (dn = true ∧ kd = 3 ∧ tag = some (3, tagS, keepL (prsOf hs), fl) ∧ wsq = ws) ∨ (dn = true ∧ kd = 4 ∧ tag = some (4, tagS, prsOf hs, fl) ∧ wsq = ws ++ (atW :: if fl then [scW] else []))
/-- what stands behind the last turn -/
def EndL (w : World) (hs : List H9) (dn fl : Bool) (kd hx du rw' : Nat) (c : List (Addr × Obj)) : Prop :=
  ∃ (hd' tq lf sx sd tx td ra el nl : Nat) (κh κ κ' : Nat → Nat) (a0 a1 a2 a3 a4 b0 b1 : Nat) (S : SS) (bf : Value) (vs : List Value) (ep te uep rep : Nat) (st cv : Value) (qs tg dus rus : List Value) (exq tgo E : List (Addr × Obj)) (ws wsq : List PySem.Str) (tag : TagD),
    rem S = [] ∧ WF S ∧ BfV S.bo bf ∧ Errs vs S.n ∧ (spcM hx hd' tq rw' sx sd tx td ra el).Nodup ∧ (∀ a ∈ spcM hx hd' tq rw' sx sd tx td ra el, a ≠ du) ∧
    TagC hs dn fl kd ws wsq tag ∧ Its rowObj rus E (prsOf hs) ∧ Toks w qs exq wsq ∧ TagQ w tg tgo tag ∧ (∀ q ∈ exq ++ tgo, q ∈ E) ∧ Flts dus E ws ∧ (∀ x ∈ ws, PyData.strOk x = true) ∧ ws.length ≤ 8 * hs.length ∧
    OffE (du :: spcM hx hd' tq rw' sx sd tx td ra el) E ∧
    c = (hx, instObj 762 hd') :: (hd', hdD8 w κh sx lf tq st cv) :: (tq, W.listOf (qs ++ tg).toArray te) :: (du, W.listOf dus.toArray uep) :: (rw', W.listOf rus.toArray rep) :: (stS w sx sd tx td ra el nl κ κ' a0 a1 a2 a3 a4 b0 b1 S bf vs ep ++ E)
def JJ (w : World) (hs : List H9) (dn fl : Bool) (kd kt hp j : Nat) (c : List (Addr × Obj)) (m : PySem.Str → Option Value) : Prop :=
  ∃ hx du rw' : Nat, (∀ p ∈ psA (.ref hx) (.int (kd : Int) kt) (.bool fl) dn hp du rw', m p.1 = some p.2) ∧ ((j < hs.length ∧ MidL w hs dn fl kd j hx du rw' c) ∨ (j = hs.length ∧ EndL w hs dn fl kd hx du rw' c))
def PostT (w : World) (hs : List H9) (dn fl : Bool) (kd kt hp j : Nat) (R : List (Addr × Obj)) (m : PySem.Str → Option Value) (news : List (Addr × Obj)) : Prop :=
  ∃ c, JJ w hs dn fl kd kt hp j c m ∧ (∀ q ∈ c ++ R, q ∈ news) ∧ ∀ q ∈ c, ∀ p ∈ R, p.1 ≠ q.1
theorem nq_of {l : List Nat} (h : l.Nodup) {i j a b : Nat} (hi : l[i]? = some a) (hj : l[j]? = some b) (hij : i ≠ j) : Nq a b := by
  intro e
  subst e
  obtain ⟨h1, e1⟩ := List.getElem?_eq_some_iff.mp hi
  obtain ⟨h2, e2⟩ := List.getElem?_eq_some_iff.mp hj
  exact hij ((List.getElem_inj h).mp (e1.trans e2.symm))
theorem spc_nq6 {hx hd' tq ct dl rw' sx sd tx td ra el : Nat} (h : (spcL hx hd' tq ct dl rw' sx sd tx td ra el).Nodup) : NQ6 sx sd tx td ra el := by
  have nq : ∀ {i j a b : Nat}, (spcL hx hd' tq ct dl rw' sx sd tx td ra el)[i]? = some a → (spcL hx hd' tq ct dl rw' sx sd tx td ra el)[j]? = some b → i ≠ j → Nq a b := fun hi hj hij => nq_of h hi hj hij
  exact ⟨nq (i := 6) (j := 7) rfl rfl (by decide), nq (i := 6) (j := 8) rfl rfl (by decide), nq (i := 6) (j := 9) rfl rfl (by decide), nq (i := 6) (j := 10) rfl rfl (by decide), nq (i := 6) (j := 11) rfl rfl (by decide), nq (i := 7) (j := 8) rfl rfl (by decide), nq (i := 7) (j := 9) rfl rfl (by decide), nq (i := 7) (j := 10) rfl rfl (by decide), nq (i := 7) (j := 11) rfl rfl (by decide), nq (i := 8) (j := 9) rfl rfl (by decide), nq (i := 8) (j := 10) rfl rfl (by decide), nq (i := 8) (j := 11) rfl rfl (by decide), nq (i := 9) (j := 10) rfl rfl (by decide), nq (i := 9) (j := 11) rfl rfl (by decide), nq (i := 10) (j := 11) rfl rfl (by decide)⟩
theorem spc_hq {hx hd' tq ct dl rw' sx sd tx td ra el : Nat} (h : (spcL hx hd' tq ct dl rw' sx sd tx td ra el).Nodup) : HQ hx hd' tq sx sd tx td ra el := by
  have nq : ∀ {i j a b : Nat}, (spcL hx hd' tq ct dl rw' sx sd tx td ra el)[i]? = some a → (spcL hx hd' tq ct dl rw' sx sd tx td ra el)[j]? = some b → i ≠ j → Nq a b := fun hi hj hij => nq_of h hi hj hij
  exact ⟨nq (i := 0) (j := 1) rfl rfl (by decide), nq (i := 1) (j := 6) rfl rfl (by decide), nq (i := 1) (j := 7) rfl rfl (by decide), nq (i := 1) (j := 8) rfl rfl (by decide), nq (i := 1) (j := 9) rfl rfl (by decide), nq (i := 1) (j := 10) rfl rfl (by decide), nq (i := 1) (j := 11) rfl rfl (by decide), nq (i := 1) (j := 2) rfl rfl (by decide),
    nq (i := 2) (j := 0) rfl rfl (by decide), nq (i := 2) (j := 6) rfl rfl (by decide), nq (i := 2) (j := 7) rfl rfl (by decide), nq (i := 2) (j := 8) rfl rfl (by decide), nq (i := 2) (j := 9) rfl rfl (by decide), nq (i := 2) (j := 10) rfl rfl (by decide), nq (i := 2) (j := 11) rfl rfl (by decide),
    nq (i := 0) (j := 6) rfl rfl (by decide), nq (i := 0) (j := 7) rfl rfl (by decide), nq (i := 0) (j := 8) rfl rfl (by decide), nq (i := 0) (j := 9) rfl rfl (by decide), nq (i := 0) (j := 10) rfl rfl (by decide), nq (i := 0) (j := 11) rfl rfl (by decide)⟩
theorem spc_aq {hx hd' tq ct dl rw' sx sd tx td ra el p : Nat} (h : (spcL hx hd' tq ct dl rw' sx sd tx td ra el).Nodup) (hp : ∀ a ∈ spcL hx hd' tq ct dl rw' sx sd tx td ra el, a < p) : AQ hx hd' tq ct dl p sx sd tx td ra el := by
  have nq : ∀ {i j a b : Nat}, (spcL hx hd' tq ct dl rw' sx sd tx td ra el)[i]? = some a → (spcL hx hd' tq ct dl rw' sx sd tx td ra el)[j]? = some b → i ≠ j → Nq a b := fun hi hj hij => nq_of h hi hj hij
  have np : ∀ {i a : Nat}, (spcL hx hd' tq ct dl rw' sx sd tx td ra el)[i]? = some a → Nq p a := fun hi => Nat.ne_of_gt (hp _ (List.mem_of_getElem? hi))
  have np2 : ∀ {i a : Nat}, (spcL hx hd' tq ct dl rw' sx sd tx td ra el)[i]? = some a → Nq a p := fun hi => Nat.ne_of_lt (hp _ (List.mem_of_getElem? hi))
  exact ⟨⟨nq (i := 3) (j := 0) rfl rfl (by decide), nq (i := 3) (j := 1) rfl rfl (by decide), nq (i := 3) (j := 2) rfl rfl (by decide), nq (i := 3) (j := 6) rfl rfl (by decide), nq (i := 3) (j := 7) rfl rfl (by decide), nq (i := 3) (j := 8) rfl rfl (by decide), nq (i := 3) (j := 9) rfl rfl (by decide), nq (i := 3) (j := 10) rfl rfl (by decide), nq (i := 3) (j := 11) rfl rfl (by decide)⟩,
    ⟨nq (i := 4) (j := 0) rfl rfl (by decide), nq (i := 4) (j := 1) rfl rfl (by decide), nq (i := 4) (j := 2) rfl rfl (by decide), nq (i := 4) (j := 6) rfl rfl (by decide), nq (i := 4) (j := 7) rfl rfl (by decide), nq (i := 4) (j := 8) rfl rfl (by decide), nq (i := 4) (j := 9) rfl rfl (by decide), nq (i := 4) (j := 10) rfl rfl (by decide), nq (i := 4) (j := 11) rfl rfl (by decide)⟩,
    ⟨np (i := 0) rfl, np (i := 1) rfl, np (i := 2) rfl, np (i := 6) rfl, np (i := 7) rfl, np (i := 8) rfl, np (i := 9) rfl, np (i := 10) rfl, np (i := 11) rfl⟩, nq (i := 3) (j := 4) rfl rfl (by decide), np2 (i := 3) rfl, np2 (i := 4) rfl⟩
theorem sig_facts : ∀ c ∈ sigC, c ∉ exitC ∧ fltC c = fltC c := by decide +kernel
theorem tlC_head {dn : Bool} {h : H9} {t : List H9} (he : h.e = 61 ∨ h.e = 47 ∨ h.e = 32 ∨ h.e = 12) : ∀ d, (tlC dn h t).head? = some d → isL d = false := by
  have hk : ∀ d ∈ [61, 47, 32, 12, 62], isL d = false := by decide +kernel
  intro d hd
  cases t with
  | nil =>
    cases dn with
    | true => obtain rfl : 62 = d := Option.some.inj hd; exact hk 62 (by decide)
    | false => cases hd
  | cons g t =>
    obtain rfl : h.e = d := Option.some.inj hd
    rcases he with e | e | e | e <;> rw [e] <;> exact hk _ (by decide)
end Mine
namespace Mine
/-! one turn of the law's main loop -/
section
variable {α : Type} {a b c d e f g k p D u r2 : α} {X X' E R T F x y : List α}
theorem mm1 : ∀ q ∈ a :: b :: d :: e :: g :: (c :: f :: (X ++ E) ++ R), q ∈ (a :: b :: c :: d :: e :: f :: g :: (X ++ E)) ++ R := by
  simp only [List.cons_append, List.nil_append, List.append_assoc, List.forall_mem_cons, List.forall_mem_append]
  and_intros
  all_goals first | (simp; done) | (intro q hq; simp [hq]; done) | (simp [*]; done)
theorem mm2 : ∀ q ∈ ([a, b, c, d, e, p] ++ X) ++ (f :: g :: k :: (T ++ (E ++ R))), q ∈ k :: (T ++ (p :: a :: b :: d :: e :: g :: (c :: f :: (X ++ E) ++ R))) := by
  simp only [List.cons_append, List.nil_append, List.append_assoc, List.forall_mem_cons, List.forall_mem_append]
  and_intros
  all_goals first | (simp; done) | (intro q hq; simp [hq]; done) | (simp [*]; done)
theorem mm3 (hk : k ∈ R) : ∀ q ∈ f :: g :: u :: k :: (F ++ (T ++ (E ++ R))), q ∈ F ++ (f :: g :: u :: (T ++ (E ++ R))) := by
  simp only [List.cons_append, List.nil_append, List.append_assoc, List.forall_mem_cons, List.forall_mem_append]
  and_intros
  all_goals first | (simp; done) | (intro q hq; simp [hq]; done) | (simp [*]; done)
theorem mm4 : ∀ q ∈ a :: b :: d :: e :: r2 :: (D :: u :: r2 :: k :: (y ++ ((([a, b, c, d, e, p] ++ X') ++ x) ++ (T ++ (E ++ R))))), q ∈ D :: u :: r2 :: k :: (y ++ ((([a, b, c, d, e, p] ++ X') ++ x) ++ (T ++ (E ++ R)))) := by
  simp only [List.cons_append, List.nil_append, List.append_assoc, List.forall_mem_cons, List.forall_mem_append]
  and_intros
  all_goals first | (simp; done) | (intro q hq; simp [hq]; done) | (simp [*]; done)
theorem mm5 : ∀ q ∈ (a :: b :: c :: d :: e :: u :: r2 :: (X' ++ (D :: p :: (y ++ (x ++ (T ++ E)))))) ++ R, q ∈ D :: u :: r2 :: k :: (y ++ ((([a, b, c, d, e, p] ++ X') ++ x) ++ (T ++ (E ++ R)))) := by
  simp only [List.cons_append, List.nil_append, List.append_assoc, List.forall_mem_cons, List.forall_mem_append]
  and_intros
  all_goals first | (simp; done) | (intro q hq; simp [hq]; done) | (simp [*]; done)
theorem mm6 : ∀ q ∈ (a :: b :: c :: u :: r2 :: (X' ++ (D :: d :: (y ++ (x ++ (T ++ E)))))) ++ R, q ∈ D :: u :: r2 :: k :: (y ++ (([a, b, c, d] ++ (X' ++ x)) ++ (T ++ (E ++ R)))) := by
  simp only [List.cons_append, List.nil_append, List.append_assoc, List.forall_mem_cons, List.forall_mem_append]
  and_intros
  all_goals first | (simp; done) | (intro q hq; simp [hq]; done) | (simp [*]; done)
theorem mm7 : ∀ q ∈ (a :: b :: c :: u :: r2 :: (X' ++ (D :: d :: e :: p :: (y ++ (x ++ (T ++ E)))))) ++ R, q ∈ D :: u :: r2 :: k :: (y ++ ((([a, b, c, d, e, p] ++ X') ++ x) ++ (T ++ (E ++ R)))) := by
  simp only [List.cons_append, List.nil_append, List.append_assoc, List.forall_mem_cons, List.forall_mem_append]
  and_intros
  all_goals first | (simp; done) | (intro q hq; simp [hq]; done) | (simp [*]; done)
theorem mm8 : ∀ q ∈ a :: b :: c :: f :: g :: (X ++ E), q ∈ a :: b :: c :: d :: e :: f :: g :: (X ++ E) := by
  simp only [List.cons_append, List.nil_append, List.append_assoc, List.forall_mem_cons, List.forall_mem_append]
  and_intros
  all_goals first | (simp; done) | (intro q hq; simp [hq]; done) | (simp [*]; done)
end
theorem spcM_of {hx hd' tq ct dl rw' sx sd tx td ra el : Nat} (h : (spcL hx hd' tq ct dl rw' sx sd tx td ra el).Nodup) : (spcM hx hd' tq rw' sx sd tx td ra el).Nodup :=
  List.Nodup.sublist (.cons₂ _ (.cons₂ _ (.cons₂ _ (.cons _ (.cons _ (List.Sublist.refl _)))))) h
theorem spcM_in {hx hd' tq ct dl rw' sx sd tx td ra el a : Nat} (h : a ∈ spcM hx hd' tq rw' sx sd tx td ra el) : a ∈ spcL hx hd' tq ct dl rw' sx sd tx td ra el := by
  have key : ∀ a ∈ spcM hx hd' tq rw' sx sd tx td ra el, a ∈ spcL hx hd' tq ct dl rw' sx sd tx td ra el := by simp
  exact key a h
theorem in_fst {f : List (Addr × Obj)} {l : List Nat} (e : f.map Prod.fst = l) {a : Nat} (h : a ∈ l) : ∃ o, (a, o) ∈ f := by
  rw [← e] at h
  obtain ⟨q, hq, rfl⟩ := List.mem_map.mp h
  exact ⟨q.2, hq⟩
theorem lt_fst {f A : List (Addr × Obj)} {l : List Nat} (e : f.map Prod.fst = l) {z : Nat} (hA : AllLt z A) (hs : ∀ q ∈ f, q ∈ A) : ∀ a ∈ l, a < z := fun a h => by
  obtain ⟨o, ho⟩ := in_fst e h
  exact tb_ltOf hA _ (hs _ ho)
theorem mid_end {w : World} {hs : List H9} {fl : Bool} {kd hx du rw' : Nat} {c : List (Addr × Obj)} (h : MidL w hs false fl kd hs.length hx du rw' c) : ∃ c', EndL w hs false fl kd hx du rw' c' ∧ (∀ q ∈ c', q ∈ c) := by
  obtain ⟨hd', tq, lf, ct, dl, sx, sd, tx, td, ra, el, nl, κh, κ, κ', a0, a1, a2, a3, a4, b0, b1, S, bf, vs, ep, te, dep, uep, rep, k1, k2, st, qs, us, dus, rus, oC, O, exq, E, ws, hrem, hw, hbf, hv, hnd, hdu, hsm, hD, hpr, hO, hI, hT, hxq, hF, hwok, hwl, hoff, rfl⟩ := h
  rw [List.drop_length] at hrem
  rw [List.take_length] at hI
  refine ⟨_, ⟨hd', tq, lf, sx, sd, tx, td, ra, el, nl, κh, κ, κ', a0, a1, a2, a3, a4, b0, b1, S, bf, vs, ep, te, uep, rep, st, .ref ct, qs, [], dus, rus, exq, [], E, ws, ws, none, hrem, hw, hbf, hv, spcM_of hnd, fun a ha => hdu a (spcM_in ha), .inl ⟨rfl, rfl, rfl⟩, hI, hT, .none, ?_, hF, hwok, hwl, ?_, rfl⟩, ?_⟩
  · rw [List.append_nil]; exact hxq
  · intro a ha
    rcases List.mem_cons.mp ha with rfl | ha
    · exact hoff _ (.head _)
    · exact hoff _ (.tail _ (spcM_in ha))
  · rw [List.append_nil]
    generalize stS w sx sd tx td ra el nl κ κ' a0 a1 a2 a3 a4 b0 b1 S bf vs ep = X
    exact mm8
end Mine
namespace Mine
theorem sig_exit : ∀ c ∈ sigC, c ∉ exitC := by decide +kernel
theorem sig_ok : ∀ c ∈ sigC, lw (fixC c) < 1114112 := by decide +kernel
theorem nm_ok {h : H9} (hh : OkH h) : PyData.strOk (nmS h) = true := by
  show ((nmL h).toArray.all fun x => decide (x < 1114112)) = true
  rw [List.all_toArray, List.all_eq_true]
  intro c hc
  obtain ⟨d, hd, rfl⟩ := List.mem_map.mp hc
  have hd' : ∃ z ∈ sigC, d = fixC z := by
    rcases List.mem_append.mp hd with h1 | h1
    · exact ⟨h.f, hh.f, List.mem_singleton.mp h1⟩
    · obtain ⟨z, hz, rfl⟩ := List.mem_map.mp h1
      exact ⟨z, hh.x z hz, rfl⟩
  obtain ⟨z, hz, rfl⟩ := hd'
  exact decide_eq_true (sig_ok z hz)
theorem val_ok : ∀ i < 10, PyData.strOk (valS i) = true := by decide +kernel
theorem prs_ok {hs : List H9} (hok : ∀ g ∈ hs, OkH g) (hn : hs.length ≤ 10) : OkP (prsOf hs) := by
  intro q hq
  unfold prsOf at hq
  obtain ⟨i, hi, rfl⟩ := List.mem_mapIdx.mp hq
  exact ⟨nm_ok (hok _ (List.getElem_mem _)), val_ok i (by omega)⟩
theorem flt_ok : ∀ l : List Nat, ∀ x ∈ fltW l, PyData.strOk x = true := by
  intro l x hx
  obtain ⟨c, hc, hx⟩ := List.mem_flatMap.mp hx
  have h1 : PyData.strOk icW = true := by decide +kernel
  have h2 : PyData.strOk qcW = true := by decide +kernel
  unfold fltC at hx
  split at hx
  · rw [List.mem_singleton.mp hx]; exact h1
  · split at hx
    · rw [List.mem_singleton.mp hx]; exact h2
    · cases hx
theorem eo_ok (a b : Bool) : ∀ x ∈ eoL a b, PyData.strOk x = true := by
  have h1 : PyData.strOk eofW = true := by decide +kernel
  intro x hx
  unfold eoL at hx
  split at hx
  · rw [List.mem_singleton.mp hx]; exact h1
  · cases hx
theorem dup_ok (a : PySem.Str) (b : List (PySem.Str × PySem.Str)) : ∀ x ∈ dupL a b, PyData.strOk x = true := by
  have h1 : PyData.strOk dupW = true := by decide +kernel
  intro x hx
  unfold dupL at hx
  split at hx
  · rw [List.mem_singleton.mp hx]; exact h1
  · cases hx
theorem eo_len (a b : Bool) : (eoL a b).length ≤ 1 := by unfold eoL; split <;> simp
theorem dup_len (a : PySem.Str) (b : List (PySem.Str × PySem.Str)) : (dupL a b).length ≤ 1 := by unfold dupL; split <;> simp
theorem nmS_list (h : H9) : (nmS h).cps.toList = nmL h := rfl
end Mine
namespace Mine
theorem partsN_le (l : List Nat) : ∀ b, partsN l b ≤ l.length := by
  induction l with
  | nil => exact fun b => Nat.le_refl _
  | cons c r ih =>
    intro b
    have h1 := ih (isL c)
    show (if isL c && b then 0 else 1) + partsN r (isL c) ≤ r.length + 1
    split <;> omega
theorem nd_erase {l : List Nat} {k z : Nat} (h : l.Nodup) (hz : l[k]? = some z) : ∀ a ∈ l.eraseIdx k, a ≠ z := fun a ha e => by
  obtain ⟨i, hi, e2⟩ := List.mem_eraseIdx_iff_getElem?.mp ha
  exact nq_of h e2 hz hi e
theorem fst_ne {f : List (Addr × Obj)} {l : List Nat} (e : f.map Prod.fst = l) {z : Nat} (h : ∀ a ∈ l, a ≠ z) : ∀ q ∈ f, q.1 ≠ z := fun q hq => h _ (e ▸ List.mem_map_of_mem hq)
theorem psB_A {v1 v2 v3 : Value} {dn la : Bool} {hp du rw' yt : Nat} {y : PySem.Str} : ∀ p ∈ psA v1 v2 v3 dn hp du rw', p ∈ psB v1 v2 v3 dn hp du rw' y yt la := by simp
theorem turn_t {w : World} {hs : List H9} {dn fl : Bool} {kd kt hp i hx du rw' hep xt f1t : Nat} {h : H9} {hvs : List Value} {c R : List (Addr × Obj)}
    (hok : ∀ g ∈ hs, OkH g) (hi : hs[i]? = some h) (hn : hs.length ≤ 5) (hkd : kd = 3 ∨ kd = 4) (hvl : hvs.length = hs.length) (hhp : (hp, W.listOf hvs.toArray hep) ∈ R)
    (off : ∀ q ∈ c, ∀ p ∈ R, p.1 ≠ q.1) (hM : MidL w hs dn fl kd i hx du rw' c) :
    BodyC w 0 (psA (.ref hx) (.int (kd : Int) kt) (.bool fl) dn hp du rw' ++ [(Str.ofString "rest", .str h.x xt), (Str.ofString "first", .str ⟨#[h.f]⟩ f1t)]) (c ++ R) (PostT w hs dn fl kd kt hp (i + 1) R) := by
  obtain ⟨hd', tq, lf, ct, dl, sx, sd, tx, td, ra, el, nl, κh, κ, κ', a0, a1, a2, a3, a4, b0', b1', S, bf, vs, ep, te, dep, uep, rep, k1, k2, st, qs, us, dus, rus, oC, O, exq, E, ws, hrem, hw, hbf, hv, hnd, hdu, hsm, hD, hpr, hO, hI, hT, hxq, hF, hwok, hwl, hoff, rfl⟩ := hM
  obtain ⟨il, eil⟩ := List.getElem?_eq_some_iff.mp hi
  have hoh := hok h (List.mem_of_getElem? hi)
  have htl0 : (hs.take i).length = i := by rw [List.length_take]; omega
  obtain rfl : rus.length = i := by rw [hI.len, prsOf_len, htl0]
  have hul : us.length = rus.length := by rw [hpr.len, prsOf_len, htl0]
  have hql := hT.len
  have hdl := hF.len
  have hxl := hoh.l
  have hxl2 : h.x.cps.toList.length ≤ 4 := by rw [str_len9]; exact hxl
  have hdrop : hs.drop rus.length = h :: hs.drop (rus.length + 1) := by rw [List.drop_eq_getElem_cons il, eil]
  rw [hdrop, txC_cons] at hrem
  have htake : hs.take (rus.length + 1) = hs.take rus.length ++ [h] := by rw [List.take_succ, hi]; rfl
  have hprs : prsOf (hs.take (rus.length + 1)) = prsOf (hs.take rus.length) ++ [(nmS h, valS rus.length)] := by rw [htake, prsOf_snoc, htl0]
  have hsl : [fixC h.f].length + h.x.cps.toList.length ≤ 100 := by rw [List.length_singleton]; omega
  -- addresses
  have ne_dl : ∀ a ∈ [hx, hd', tq, ct, rw', sx, sd, tx, td, ra, el], a ≠ dl := nd_erase (k := 4) hnd rfl
  have offR : ∀ a ∈ du :: spcL hx hd' tq ct dl rw' sx sd tx td ra el, ∀ p ∈ R, p.1 ≠ a := by
    intro a ha p hp
    have e0 : ((hx, instObj 762 hd') :: (hd', hdD8 w κh sx lf tq st (.ref ct)) :: (tq, W.listOf qs.toArray te) :: (ct, oC) :: (dl, W.listOf us.toArray dep) :: (du, W.listOf dus.toArray uep) :: (rw', W.listOf rus.toArray rep) :: stS w sx sd tx td ra el nl κ κ' a0 a1 a2 a3 a4 b0' b1' S bf vs ep).map Prod.fst = [hx, hd', tq, ct, dl, du, rw', sx, sd, tx, td, ra, el] := rfl
    have key : ∀ a ∈ du :: spcL hx hd' tq ct dl rw' sx sd tx td ra el, a ∈ [hx, hd', tq, ct, dl, du, rw', sx, sd, tx, td, ra, el] := by simp
    obtain ⟨o, ho⟩ := in_fst e0 (key a ha)
    exact off (a, o) (by rw [← List.cons_append, ← List.cons_append, ← List.cons_append, ← List.cons_append, ← List.cons_append, ← List.cons_append, ← List.cons_append]; exact List.mem_append_left _ ho) p hp
  have offER : ∀ q ∈ E, ∀ p ∈ R, p.1 ≠ q.1 := fun q hq => off q (.tail _ (.tail _ (.tail _ (.tail _ (.tail _ (.tail _ (.tail _ (List.mem_append_right _ hq))))))))
  refine b0 fun stt => ?_
  refine BodyC.sub (b1 (A := (tq, W.listOf qs.toArray te) :: (du, W.listOf dus.toArray uep) :: (stS w sx sd tx td ra el nl κ κ' a0 a1 a2 a3 a4 b0' b1' S bf vs ep ++ E) ++ R) hD hsm (by omega) (by omega) ⟨Ne.symm (ne_dl _ (by simp)), Ne.symm (ne_dl _ (by simp)), Ne.symm (ne_dl _ (by simp)), Ne.symm (ne_dl _ (by simp))⟩ ?hA1 fun p t1 t2 hfr => ?_) (fun _ h => h) mm1
  case hA1 =>
    intro q hq
    rcases List.mem_append.mp hq with h1 | h1
    · rcases List.mem_cons.mp h1 with rfl | h1
      · exact ne_dl _ (by simp)
      · rcases List.mem_cons.mp h1 with rfl | h1
        · exact Ne.symm (hdu dl (by simp))
        · rcases List.mem_append.mp h1 with h1 | h1
          · exact fst_ne (l := [sx, sd, tx, td, ra, el]) rfl (fun a ha => ne_dl a (by revert ha; simp; grind)) q h1
          · exact hoff dl (by simp) q h1
    · exact offR dl (by simp) q h1
  refine b2 (by omega) fun fp fep dt fus tl hFf htl hfp htf => ?_
  -- what is fresh
  obtain ⟨y1, y2, y3, y4, y5, y6⟩ := hfr
  have eX : (stS w sx sd tx td ra el nl κ κ' a0 a1 a2 a3 a4 b0' b1' S bf vs ep).map Prod.fst = [sx, sd, tx, td, ra, el] := rfl
  have hps : ∀ a ∈ spcL hx hd' tq ct dl rw' sx sd tx td ra el, a < p := by
    have z1 : tq < p := y6.1
    have z2 : ∀ a ∈ [sx, sd, tx, td, ra, el], a < p := lt_fst eX y6 fun q hq => List.mem_append_left _ (.tail _ (.tail _ (List.mem_append_left _ hq)))
    intro a ha
    simp only [spcL, List.mem_cons, List.not_mem_nil, or_false] at ha
    rcases ha with rfl | rfl | rfl | rfl | rfl | rfl | ha
    · exact y1
    · exact y2
    · exact z1
    · exact y3
    · exact y4
    · exact y5
    · exact z2 a (by simp only [List.mem_cons, List.not_mem_nil, or_false]; exact ha)
  have hpR : ∀ r ∈ R, r.1 < p := fun r hr => tb_ltOf y6 r (List.mem_append_right _ hr)
  have hpE : ∀ r ∈ E, r.1 < p := fun r hr => tb_ltOf y6 r (List.mem_append_left _ (.tail _ (.tail _ (List.mem_append_right _ hr))))
  have hpdu : du < p := y6.2.1
  have htls : ∀ q ∈ tl, ∀ a ∈ p :: du :: spcL hx hd' tq ct dl rw' sx sd tx td ra el, a < q.1 := by
    intro q hq a ha
    obtain ⟨x0, x1, x2, x3, x4, x5, x6⟩ := htl q hq
    have z1 : tq < q.1 := x6.1
    have z0 : du < q.1 := x6.2.1
    have z2 : ∀ a ∈ [sx, sd, tx, td, ra, el], a < q.1 := lt_fst eX x6 fun q hq => List.mem_append_left _ (.tail _ (.tail _ (List.mem_append_left _ hq)))
    simp only [spcL, List.mem_cons, List.not_mem_nil, or_false] at ha
    rcases ha with rfl | rfl | rfl | rfl | rfl | rfl | rfl | rfl | ha
    · exact x0
    · exact z0
    · exact x1
    · exact x2
    · exact z1
    · exact x3
    · exact x4
    · exact x5
    · exact z2 a (by simp only [List.mem_cons, List.not_mem_nil, or_false]; exact ha)
  have htlR : ∀ q ∈ tl, ∀ r ∈ R, r.1 < q.1 := fun q hq r hr => tb_ltOf (htl q hq).2.2.2.2.2.2 r (List.mem_append_right _ hr)
  have hfps : ∀ a ∈ p :: du :: spcL hx hd' tq ct dl rw' sx sd tx td ra el, a < fp := by
    intro a ha
    obtain ⟨x0, x1, x2, x3, x4, x5, x6⟩ := hfp
    have z1 : tq < fp := x6.1
    have z0 : du < fp := x6.2.1
    have z2 : ∀ a ∈ [sx, sd, tx, td, ra, el], a < fp := lt_fst eX x6 fun q hq => List.mem_append_left _ (.tail _ (.tail _ (List.mem_append_left _ hq)))
    simp only [spcL, List.mem_cons, List.not_mem_nil, or_false] at ha
    rcases ha with rfl | rfl | rfl | rfl | rfl | rfl | rfl | rfl | ha
    · exact x0
    · exact z0
    · exact x1
    · exact x2
    · exact z1
    · exact x3
    · exact x4
    · exact x5
    · exact z2 a (by simp only [List.mem_cons, List.not_mem_nil, or_false]; exact ha)
  have hq6 := spc_nq6 hnd
  have hhq := spc_hq hnd
  have haq := spc_aq hnd hps
  have hth := tlC_head (dn := dn) (h := h) (t := hs.drop (rus.length + 1)) hoh.e
  have ne_rw : ∀ a ∈ [hx, hd', tq, ct, dl, sx, sd, tx, td, ra, el], a ≠ rw' := nd_erase (k := 5) hnd rfl
  -- the turn's calls of the state
  have main : ∀ Out : List (Addr × Obj) → Prop,
      (∀ f, Run w hx hd' tq lf ct dl p sx sd tx td ra el nl κh κ κ' st qs oC us (dep + 1) (valS rus.length) t2 [fixC h.f] (tlC dn h (hs.drop (rus.length + 1))) h.x.cps.toList (partsN h.x.cps.toList false) f → TellO w 20 200 (.ref 542) [.ref hx] O f (fun r f' rest => r = .bool true ∧ Out f' ∧ ∀ q ∈ f', ∀ p ∈ rest, p.1 ≠ q.1)) →
      (∀ f', Out f' → (∀ q ∈ f', ∀ r ∈ (du, W.listOf dus.toArray uep) :: (rw', W.listOf rus.toArray rep) :: (fp, W.listOf fus.toArray fep) :: (tl ++ (E ++ R)), r.1 ≠ q.1) →
        BodyT w 4 (psA (.ref hx) (.int (kd : Int) kt) (.bool fl) dn hp du rw' ++ [(Str.ofString "rest", .str h.x xt), (Str.ofString "start", .str ⟨#[fixC h.f]⟩ stt), (Str.ofString "deeds", .int (partsN h.x.cps.toList false : Nat) dt), (Str.ofString "faults", .ref fp)]) (f' ++ ((du, W.listOf dus.toArray uep) :: (rw', W.listOf rus.toArray rep) :: (fp, W.listOf fus.toArray fep) :: (tl ++ (E ++ R)))) (PostT w hs dn fl kd kt hp (rus.length + 1) R)) →
      BodyT w 3 (psA (.ref hx) (.int (kd : Int) kt) (.bool fl) dn hp du rw' ++ [(Str.ofString "rest", .str h.x xt), (Str.ofString "start", .str ⟨#[fixC h.f]⟩ stt), (Str.ofString "deeds", .int (partsN h.x.cps.toList false : Nat) dt), (Str.ofString "faults", .ref fp)])
        ((fp, W.listOf fus.toArray fep) :: (tl ++ ((p, W.listOf [Value.str ⟨#[fixC h.f]⟩ t1, Value.str (valS rus.length) t2].toArray 0) :: (hx, instObj 762 hd') :: (hd', hdD8 w κh sx lf tq st (.ref ct)) :: (ct, oC) :: (dl, W.listOf (us ++ [Value.ref p]).toArray (dep + 1)) :: (rw', W.listOf rus.toArray rep) :: ((tq, W.listOf qs.toArray te) :: (du, W.listOf dus.toArray uep) :: (stS w sx sd tx td ra el nl κ κ' a0 a1 a2 a3 a4 b0' b1' S bf vs ep ++ E) ++ R)))) (PostT w hs dn fl kd kt hp (rus.length + 1) R) := by
    intro Out hexit hfin
    refine BodyT.sub (b3 (D := partsN h.x.cps.toList false) (dt := dt) (O := O) (R := (du, W.listOf dus.toArray uep) :: (rw', W.listOf rus.toArray rep) :: (fp, W.listOf fus.toArray fep) :: (tl ++ (E ++ R)))
      (f := atF w hx hd' tq lf ct dl p sx sd tx td ra el nl κh κ κ' a0 a1 a2 a3 a4 b0' b1' S bf vs ep st qs te oC us (dep + 1) ⟨#[fixC h.f]⟩ (valS rus.length) t1 t2 0)
      (Stt := SttT (partsN h.x.cps.toList false) (Run w hx hd' tq lf ct dl p sx sd tx td ra el nl κh κ κ' st qs oC us (dep + 1) (valS rus.length) t2 [fixC h.f] (tlC dn h (hs.drop (rus.length + 1))) h.x.cps.toList) Out)
      (fun j f hj hS => run_form hj hS) (stt_call (fun j f hj hR => run_step hD hsm (by omega) (by omega) hsl hq6 hhq haq hth hj hR) hexit) ?hDl ?hOR ?off3 (run_start hrem rfl hw hbf hv fun d hd => sig_exit d (hoh.x d hd)) ?hp1 ?hp2 ?hp3 ?hnx) (fun _ h => h) mm2
    case hDl => have := partsN_le h.x.cps.toList false; omega
    case hOR => exact fun q hq => .tail _ (.tail _ (.tail _ (List.mem_append_right _ (List.mem_append_left _ (hO q hq)))))
    case hp1 => simp
    case hp2 => simp
    case hp3 =>
      intro q hq
      simp only [psA, List.cons_append, List.nil_append, List.mem_cons, List.not_mem_nil, or_false] at hq
      rcases hq with rfl | rfl | rfl | rfl | rfl | rfl | rfl | rfl | rfl | rfl | rfl <;> (dsimp only; decide +kernel)
    case hnx =>
      rintro f' (⟨h1, -⟩ | ⟨-, h1⟩) h2
      · exfalso; omega
      · exact hfin f' h1 h2
    case off3 =>
      have e1 : (atF w hx hd' tq lf ct dl p sx sd tx td ra el nl κh κ κ' a0 a1 a2 a3 a4 b0' b1' S bf vs ep st qs te oC us (dep + 1) ⟨#[fixC h.f]⟩ (valS rus.length) t1 t2 0).map Prod.fst = [hx, hd', tq, ct, dl, p, sx, sd, tx, td, ra, el] := rfl
      refine off_in (l := [hx, hd', tq, ct, dl, p, sx, sd, tx, td, ra, el]) (fun a ha r hr => ?_) e1
      have hsp : a = p ∨ (a ∈ spcL hx hd' tq ct dl rw' sx sd tx td ra el ∧ a ≠ rw') := by
        by_cases hap : a = p
        · exact .inl hap
        · refine .inr ?_
          have key : a ∈ [hx, hd', tq, ct, dl, sx, sd, tx, td, ra, el] := by
            simp only [List.mem_cons, List.not_mem_nil, or_false] at ha ⊢
            rcases ha with h | h | h | h | h | h | h | h | h | h | h | h <;> first | exact absurd h hap | simp [h]
          exact ⟨(by revert key; simp; grind), ne_rw a key⟩
      rcases List.mem_cons.mp hr with rfl | hr
      · rcases hsp with rfl | ⟨h1, -⟩
        · exact Nat.ne_of_lt hpdu
        · exact Ne.symm (hdu a h1)
      · rcases List.mem_cons.mp hr with rfl | hr
        · rcases hsp with rfl | ⟨-, h1⟩
          · exact Nat.ne_of_lt y5
          · exact Ne.symm h1
        · rcases List.mem_cons.mp hr with rfl | hr
          · rcases hsp with rfl | ⟨h1, -⟩
            · exact Nat.ne_of_gt (hfps _ (.head _))
            · exact Nat.ne_of_gt (hfps _ (.tail _ (.tail _ h1)))
          · rcases List.mem_append.mp hr with hr | hr
            · rcases hsp with rfl | ⟨h1, -⟩
              · exact Nat.ne_of_gt (htls r hr _ (.head _))
              · exact Nat.ne_of_gt (htls r hr _ (.tail _ (.tail _ h1)))
            · rcases List.mem_append.mp hr with hr | hr
              · rcases hsp with rfl | ⟨h1, -⟩
                · exact Nat.ne_of_lt (hpE r hr)
                · exact hoff a (.tail _ h1) r hr
              · rcases hsp with rfl | ⟨h1, -⟩
                · exact Nat.ne_of_lt (hpR r hr)
                · exact offR a (.tail _ h1) r hr
  -- the rest of the turn
  have fin : ∀ f' : List (Addr × Obj), (∀ q ∈ f', ∀ r ∈ (du, W.listOf dus.toArray uep) :: (rw', W.listOf rus.toArray rep) :: (fp, W.listOf fus.toArray fep) :: (tl ++ (E ++ R)), r.1 ≠ q.1) →
      (∀ (du' D t1 t2 yt uep' : Nat) (us' : List Value) (ex : List (Addr × Obj)), Flts us' (ex ++ (tl ++ E)) (ws ++ fltW h.x.cps.toList ++ eoL (((rus.length : Nat) : Int) + 1 == ((hvs.length : Nat) : Int)) dn ++ dupL (nmS h) (prsOf (hs.take rus.length))) →
        (∀ q ∈ ex, rw' < q.1 ∧ hp < q.1 ∧ du' < q.1 ∧ AllLt q.1 (f' ++ (tl ++ (E ++ R)))) → (rw' < D ∧ hp < D ∧ du' < D ∧ AllLt D (f' ++ (tl ++ (E ++ R)))) → (rw' < du' ∧ hp < du' ∧ AllLt du' (f' ++ (tl ++ (E ++ R)))) →
        BodyC w 10 (psB (.ref hx) (.int (kd : Int) kt) (.bool fl) dn hp du' rw' (nmS h) yt (((rus.length : Nat) : Int) + 1 == ((hvs.length : Nat) : Int))) ((D, rowObj (nmS h, valS rus.length) t1 t2) :: (du', W.listOf us'.toArray uep') :: (rw', W.listOf (rus ++ [Value.ref D]).toArray (rep + 1)) :: (hp, W.listOf hvs.toArray hep) :: (ex ++ (f' ++ (tl ++ (E ++ R))))) (PostT w hs dn fl kd kt hp (rus.length + 1) R)) →
      BodyT w 4 (psA (.ref hx) (.int (kd : Int) kt) (.bool fl) dn hp du rw' ++ [(Str.ofString "rest", .str h.x xt), (Str.ofString "start", .str ⟨#[fixC h.f]⟩ stt), (Str.ofString "deeds", .int (partsN h.x.cps.toList false : Nat) dt), (Str.ofString "faults", .ref fp)]) (f' ++ ((du, W.listOf dus.toArray uep) :: (rw', W.listOf rus.toArray rep) :: (fp, W.listOf fus.toArray fep) :: (tl ++ (E ++ R)))) (PostT w hs dn fl kd kt hp (rus.length + 1) R) := by
    intro f' offf hend
    refine BodyT.sub (body_rest (T := tl ++ E) (v1 := .ref hx) (v2 := .int (kd : Int) kt) (v3 := .bool fl) (dn := dn) (sx := ⟨#[fixC h.f]⟩) (rx := h.x) (st := stt) (rt := xt) (us := dus) (rus := rus) (fus := fus) (hvs := hvs) (du := du) (fp := fp) (dep := uep) (fep := fep) (hep := hep) (A := f' ++ (tl ++ (E ++ R))) (prs := prsOf (hs.take rus.length)) (nm := nmS h) (by show (1 : Nat) ≤ 100; omega) (by omega) (by omega) ?hfl (by omega) (by omega) (hF.mono fun q hq => List.mem_append_right _ hq) (hFf.mono fun q hq => List.mem_append_left _ hq) (hI.mono ?hm1) rfl ?hrh ?hrA hend) (by simp) (mm3 hhp)
    case hm1 => exact fun q hq => List.mem_append_right _ (List.mem_append_right _ (List.mem_append_left _ hq))
    case hfl => have := hFf.len; have := fltW_len h.x.cps.toList; omega
    case hrh => exact Ne.symm (offR rw' (by simp) _ hhp)
    case hrA =>
      intro q hq
      rcases List.mem_append.mp hq with h1 | h1
      · exact Ne.symm (offf q h1 _ (.tail _ (.head _)))
      · rcases List.mem_append.mp h1 with h1 | h1
        · exact Nat.ne_of_gt (htls q h1 rw' (by simp))
        · rcases List.mem_append.mp h1 with h1 | h1
          · exact hoff rw' (by simp) q h1
          · exact offR rw' (by simp) q h1
  -- what is apart behind the turn
  have apart : ∀ (lst : List Nat) (f' ex2 ex : List (Addr × Obj)) (D du' : Nat), (∀ a ∈ lst, a ∈ spcL hx hd' tq ct dl rw' sx sd tx td ra el) → (∀ a ∈ lst, a ≠ rw' → ∃ o, (a, o) ∈ f') → (∀ q ∈ ex2, q ∈ f') → (∀ q ∈ f', ∀ r ∈ (du, W.listOf dus.toArray uep) :: (rw', W.listOf rus.toArray rep) :: (fp, W.listOf fus.toArray fep) :: (tl ++ (E ++ R)), r.1 ≠ q.1) → Apt hx hd' tq ct dl p sx sd tx td ra el ex2 →
      (∀ q ∈ ex, rw' < q.1 ∧ hp < q.1 ∧ du' < q.1 ∧ AllLt q.1 (f' ++ (tl ++ (E ++ R)))) → (rw' < D ∧ hp < D ∧ du' < D ∧ AllLt D (f' ++ (tl ++ (E ++ R)))) → (rw' < du' ∧ hp < du' ∧ AllLt du' (f' ++ (tl ++ (E ++ R)))) →
      (∀ a ∈ lst, a ≠ du') ∧ (∀ a ∈ du' :: lst, D ≠ a) ∧ OffE (du' :: lst) (ex ++ (ex2 ++ (tl ++ E))) ∧ (∀ r ∈ R, r.1 ≠ du') ∧ (∀ r ∈ R, r.1 ≠ D) ∧ ∀ q ∈ ex ++ (ex2 ++ (tl ++ E)), ∀ r ∈ R, r.1 ≠ q.1 := by
    intro lst f' ex2 ex D du' hspc hin hsub offf hap hex hDf hduf
    have low : ∀ z : Nat, rw' < z → AllLt z (f' ++ (tl ++ (E ++ R))) → ∀ a ∈ lst, a < z := by
      intro z h1 h2 a ha
      by_cases har : a = rw'
      · rw [har]; exact h1
      · obtain ⟨o, ho⟩ := hin a ha har
        exact tb_ltOf h2 _ (List.mem_append_left _ ho)
    have lowR : ∀ z : Nat, AllLt z (f' ++ (tl ++ (E ++ R))) → ∀ r ∈ R, r.1 ≠ z := fun z h2 r hr => Nat.ne_of_lt (tb_ltOf h2 r (List.mem_append_right _ (List.mem_append_right _ (List.mem_append_right _ hr))))
    refine ⟨fun a ha => Nat.ne_of_lt (low _ hduf.1 hduf.2.2 a ha), ?_, ?_, lowR _ hduf.2.2, lowR _ hDf.2.2.2, ?_⟩
    · exact List.forall_mem_cons.mpr ⟨Nat.ne_of_gt hDf.2.2.1, fun a ha => Nat.ne_of_gt (low _ hDf.1 hDf.2.2.2 a ha)⟩
    · intro a ha q hq
      rcases List.mem_append.mp hq with h1 | h1
      · rcases List.mem_cons.mp ha with rfl | ha
        · exact Nat.ne_of_gt (hex q h1).2.2.1
        · exact Nat.ne_of_gt (low _ (hex q h1).1 (hex q h1).2.2.2 a ha)
      · rcases List.mem_cons.mp ha with rfl | ha
        · refine Nat.ne_of_lt (tb_ltOf hduf.2.2 q ?_)
          rcases List.mem_append.mp h1 with h2 | h2
          · exact List.mem_append_left _ (hsub q h2)
          · rcases List.mem_append.mp h2 with h2 | h2
            · exact List.mem_append_right _ (List.mem_append_left _ h2)
            · exact List.mem_append_right _ (List.mem_append_right _ (List.mem_append_left _ h2))
        · rcases List.mem_append.mp h1 with h2 | h2
          · by_cases har : a = rw'
            · rw [har]; exact Ne.symm (offf q (hsub q h2) _ (.tail _ (.head _)))
            · refine Nat.ne_of_gt ((hap q h2).lt a ?_)
              have ha2 := hspc a ha
              simp only [spcL, List.mem_cons, List.not_mem_nil, or_false] at ha2 ⊢
              rcases ha2 with h | h | h | h | h | h | h | h | h | h | h | h <;> first | exact absurd h har | simp [h]
          · rcases List.mem_append.mp h2 with h2 | h2
            · exact Nat.ne_of_gt (htls q h2 a (.tail _ (.tail _ (hspc a ha))))
            · exact hoff a (.tail _ (hspc a ha)) q h2
    · intro q hq r hr
      rcases List.mem_append.mp hq with h1 | h1
      · exact lowR _ (hex q h1).2.2.2 r hr
      · rcases List.mem_append.mp h1 with h2 | h2
        · exact offf q (hsub q h2) r (.tail _ (.tail _ (.tail _ (List.mem_append_right _ (List.mem_append_right _ hr)))))
        · rcases List.mem_append.mp h2 with h2 | h2
          · exact Nat.ne_of_lt (htlR q h2 r hr)
          · exact offER q h2 r hr
  have pApart : ∀ du' : Nat, p < du' → ∀ a ∈ du' :: spcL hx hd' tq ct dl rw' sx sd tx td ra el, p ≠ a := fun du' h1 => List.forall_mem_cons.mpr ⟨Nat.ne_of_lt h1, fun a ha => Nat.ne_of_gt (hps a ha)⟩
  have okP1 : OkP (prsOf (hs.take (rus.length + 1))) := prs_ok (fun g hg => hok g (List.mem_of_mem_take hg)) (by rw [List.length_take]; omega)
  -- a turn that did not end the tag
  have fin0 : ∀ (more : List Nat) (wsx : List PySem.Str) (f' : List (Addr × Obj)), more = txC dn (hs.drop (rus.length + 1)) → wsx = fltW h.x.cps.toList ++ eoL (((rus.length : Nat) : Int) + 1 == ((hvs.length : Nat) : Int)) dn → ((((rus.length : Nat) : Int) + 1 == ((hvs.length : Nat) : Int)) && dn) = false →
      Out0 w hx hd' tq lf ct dl p sx sd tx td ra el nl κh κ κ' qs oC us (dep + 1) (valS rus.length) t2 (nmL h) more wsx (prsOf (hs.take rus.length)) f' → (∀ q ∈ f', ∀ r ∈ (du, W.listOf dus.toArray uep) :: (rw', W.listOf rus.toArray rep) :: (fp, W.listOf fus.toArray fep) :: (tl ++ (E ++ R)), r.1 ≠ q.1) →
      BodyT w 4 (psA (.ref hx) (.int (kd : Int) kt) (.bool fl) dn hp du rw' ++ [(Str.ofString "rest", .str h.x xt), (Str.ofString "start", .str ⟨#[fixC h.f]⟩ stt), (Str.ofString "deeds", .int (partsN h.x.cps.toList false : Nat) dt), (Str.ofString "faults", .ref fp)]) (f' ++ ((du, W.listOf dus.toArray uep) :: (rw', W.listOf rus.toArray rep) :: (fp, W.listOf fus.toArray fep) :: (tl ++ (E ++ R)))) (PostT w hs dn fl kd kt hp (rus.length + 1) R) := by
    rintro more wsx f' rfl rfl hla ⟨c0, c1, c2, c3, c4, d0, d1, S2, bf2, vs2, ep2, te2, pep2, u1, q2, nm, refs, exq2, ex2, r1, r2, r3, r4, r5, r6, r7, r8, rfl⟩ offf
    obtain rfl : nm = nmS h := str_eq9 r2
    refine fin _ offf fun du' D g1 g2 yt uep' us' ex hFl hex hDf hduf => ?_
    obtain ⟨e1, e2, e3, e4, e5, e6⟩ := apart (spcL hx hd' tq ct dl rw' sx sd tx td ra el) _ ex2 ex D du' (fun _ h => h) (fun a ha har => by
      have e9 : (atF w hx hd' tq lf ct dl p sx sd tx td ra el nl κh κ κ' c0 c1 c2 c3 c4 d0 d1 S2 bf2 vs2 ep2 (.ref q2) (qs ++ refs) te2 oC us (dep + 1) (nmS h) (valS rus.length) u1 t2 pep2).map Prod.fst = [hx, hd', tq, ct, dl, p, sx, sd, tx, td, ra, el] := rfl
      have ha2 : a ∈ [hx, hd', tq, ct, dl, p, sx, sd, tx, td, ra, el] := by
        simp only [spcL, List.mem_cons, List.not_mem_nil, or_false] at ha ⊢
        rcases ha with h | h | h | h | h | h | h | h | h | h | h | h <;> first | exact absurd h har | simp [h]
      obtain ⟨o, ho⟩ := in_fst e9 ha2
      exact ⟨o, List.mem_append_left _ ho⟩) (fun q hq => List.mem_append_right _ hq) offf r8 hex hDf hduf
    have hpd : p < du' := tb_ltOf hduf.2.2 (p, W.listOf [Value.str (nmS h) u1, Value.str (valS rus.length) t2].toArray pep2) (List.mem_append_left _ (List.mem_append_left _ (List.mem_append_left _ (by simp))))
    refine BodyC.sub (b10c (A := (D, rowObj (nmS h, valS rus.length) g1 g2) :: (du', W.listOf us'.toArray uep') :: (rw', W.listOf (rus ++ [Value.ref D]).toArray (rep + 1)) :: (hp, W.listOf hvs.toArray hep) :: (ex ++ (atF w hx hd' tq lf ct dl p sx sd tx td ra el nl κh κ κ' c0 c1 c2 c3 c4 d0 d1 S2 bf2 vs2 ep2 (.ref q2) (qs ++ refs) te2 oC us (dep + 1) (nmS h) (valS rus.length) u1 t2 pep2 ++ ex2 ++ (tl ++ (E ++ R)))))
      (O := O ++ [(p, W.listOf [Value.str (nmS h) u1, Value.str (valS rus.length) t2].toArray pep2)]) (us := us ++ [Value.ref p]) (rus := rus ++ [Value.ref D]) (prs := prsOf (hs.take (rus.length + 1))) hla hD hsm ?hpr ?hO2 ?hr2 (by simp; omega) (by simp; omega) okP1 ?post) (fun _ h => h) mm4
    case hpr => rw [hprs]; exact hpr.snoc
    case hO2 =>
      intro q hq
      rcases List.mem_append.mp hq with h1 | h1
      · exact .tail _ (.tail _ (.tail _ (.tail _ (List.mem_append_right _ (List.mem_append_right _ (List.mem_append_right _ (List.mem_append_left _ (hO q h1))))))))
      · rw [List.mem_singleton.mp h1]
        exact .tail _ (.tail _ (.tail _ (.tail _ (List.mem_append_right _ (List.mem_append_left _ (List.mem_append_left _ (List.mem_append_left _ (by simp))))))))
    case hr2 =>
      rw [hprs]
      exact (hI.mono fun q hq => .tail _ (.tail _ (.tail _ (.tail _ (List.mem_append_right _ (List.mem_append_right _ (List.mem_append_right _ (List.mem_append_left _ hq)))))))).app (.one (.head _))
    case post =>
      intro m' news' hm hsub
      have hmid : MidL w hs dn fl kd (rus.length + 1) hx du' rw' ((hx, instObj 762 hd') :: (hd', hdD8 w κh sx lf tq (.ref q2) (.ref ct)) :: (tq, W.listOf (qs ++ refs).toArray te2) :: (ct, oC) :: (dl, W.listOf (us ++ [Value.ref p]).toArray (dep + 1)) :: (du', W.listOf us'.toArray uep') :: (rw', W.listOf (rus ++ [Value.ref D]).toArray (rep + 1)) :: (stS w sx sd tx td ra el nl κ κ' c0 c1 c2 c3 c4 d0 d1 S2 bf2 vs2 ep2 ++ ((D, rowObj (nmS h, valS rus.length) g1 g2) :: (p, W.listOf [Value.str (nmS h) u1, Value.str (valS rus.length) t2].toArray pep2) :: (ex ++ (ex2 ++ (tl ++ E)))))) := by
        refine ⟨hd', tq, lf, ct, dl, sx, sd, tx, td, ra, el, nl, κh, κ, κ', c0, c1, c2, c3, c4, d0, d1, S2, bf2, vs2, ep2, te2, dep + 1, uep', rep + 1, k1, k2, .ref q2, qs ++ refs, us ++ [Value.ref p], us', rus ++ [Value.ref D], oC, O ++ [(p, W.listOf [Value.str (nmS h) u1, Value.str (valS rus.length) t2].toArray pep2)], exq ++ exq2, _, ws ++ (fltW h.x.cps.toList ++ eoL (((rus.length : Nat) : Int) + 1 == ((hvs.length : Nat) : Int)) dn ++ dupL (nmS h) (prsOf (hs.take rus.length))), r1, r5, r6, r7, hnd, e1, hsm, hD, ?_, ?_, ?_, hT.app r3, ?_, ?_, ?_, ?_, ?_, rfl⟩
        · rw [hprs]; exact hpr.snoc
        · intro q hq
          rcases List.mem_append.mp hq with h1 | h1
          · exact .tail _ (.tail _ (List.mem_append_right _ (List.mem_append_right _ (List.mem_append_right _ (hO q h1)))))
          · rw [List.mem_singleton.mp h1]; exact .tail _ (.head _)
        · rw [hprs]
          exact (hI.mono fun q hq => .tail _ (.tail _ (List.mem_append_right _ (List.mem_append_right _ (List.mem_append_right _ hq))))).app (.one (.head _))
        · intro q hq
          rcases List.mem_append.mp hq with h1 | h1
          · exact .tail _ (.tail _ (List.mem_append_right _ (List.mem_append_right _ (List.mem_append_right _ (hxq q h1)))))
          · exact .tail _ (.tail _ (List.mem_append_right _ (List.mem_append_left _ (r4 q h1))))
        · have hFl2 : Flts us' ((D, rowObj (nmS h, valS rus.length) g1 g2) :: (p, W.listOf [Value.str (nmS h) u1, Value.str (valS rus.length) t2].toArray pep2) :: (ex ++ (ex2 ++ (tl ++ E)))) _ := hFl.mono fun q hq => .tail _ (.tail _ ((List.mem_append.mp hq).elim (fun h => List.mem_append_left _ h) fun h => List.mem_append_right _ (List.mem_append_right _ h)))
          rw [List.append_assoc, List.append_assoc] at hFl2
          rw [List.append_assoc]
          exact hFl2
        · intro z hz
          rcases List.mem_append.mp hz with h1 | h1
          · exact hwok z h1
          · rcases List.mem_append.mp h1 with h1 | h1
            · rcases List.mem_append.mp h1 with h1 | h1
              · exact flt_ok _ z h1
              · exact eo_ok _ _ z h1
            · exact dup_ok _ _ z h1
        · have z1 := fltW_len h.x.cps.toList
          have z2 := eo_len (((rus.length : Nat) : Int) + 1 == ((hvs.length : Nat) : Int)) dn
          have z3 := dup_len (nmS h) (prsOf (hs.take rus.length))
          simp only [List.length_append]
          omega
        · exact OffE.cons e2 (OffE.cons (pApart du' hpd) e3)
      have offc : ∀ q ∈ ((hx, instObj 762 hd') :: (hd', hdD8 w κh sx lf tq (.ref q2) (.ref ct)) :: (tq, W.listOf (qs ++ refs).toArray te2) :: (ct, oC) :: (dl, W.listOf (us ++ [Value.ref p]).toArray (dep + 1)) :: (du', W.listOf us'.toArray uep') :: (rw', W.listOf (rus ++ [Value.ref D]).toArray (rep + 1)) :: (stS w sx sd tx td ra el nl κ κ' c0 c1 c2 c3 c4 d0 d1 S2 bf2 vs2 ep2 ++ ((D, rowObj (nmS h, valS rus.length) g1 g2) :: (p, W.listOf [Value.str (nmS h) u1, Value.str (valS rus.length) t2].toArray pep2) :: (ex ++ (ex2 ++ (tl ++ E)))))), ∀ r ∈ R, r.1 ≠ q.1 := by
        have o1 : ∀ a ∈ spcL hx hd' tq ct dl rw' sx sd tx td ra el, ∀ r ∈ R, r.1 ≠ a := fun a ha => offR a (.tail _ ha)
        refine List.forall_mem_cons.mpr ⟨o1 hx (by simp), List.forall_mem_cons.mpr ⟨o1 hd' (by simp), List.forall_mem_cons.mpr ⟨o1 tq (by simp), List.forall_mem_cons.mpr ⟨o1 ct (by simp), List.forall_mem_cons.mpr ⟨o1 dl (by simp), List.forall_mem_cons.mpr ⟨e4, List.forall_mem_cons.mpr ⟨o1 rw' (by simp), off_app ?_ ?_⟩⟩⟩⟩⟩⟩⟩
        · exact off_in (l := [sx, sd, tx, td, ra, el]) (fun a ha => o1 a (by revert ha; simp; grind)) rfl
        · exact List.forall_mem_cons.mpr ⟨e5, List.forall_mem_cons.mpr ⟨fun r hr => Nat.ne_of_lt (hpR r hr), e6⟩⟩
      by_cases hlast : rus.length + 1 < hs.length
      · exact ⟨_, ⟨hx, du', rw', fun q hq => hm q (psB_A q hq), .inl ⟨hlast, hmid⟩⟩, fun q hq => hsub q (.tail _ (.tail _ (.tail _ (.tail _ (.tail _ (mm5 q hq)))))), offc⟩
      · have hlen : rus.length + 1 = hs.length := by omega
        have hdf : dn = false := by
          have : (((rus.length : Nat) : Int) + 1 == ((hvs.length : Nat) : Int)) = true := by rw [beq_iff_eq]; omega
          rw [this] at hla
          simpa using hla
        rw [hlen] at hmid
        subst hdf
        obtain ⟨c', hc1, hc2⟩ := mid_end hmid
        refine ⟨c', ⟨hx, du', rw', fun q hq => hm q (psB_A q hq), .inr ⟨hlen, hc1⟩⟩, fun q hq => hsub q (.tail _ (.tail _ (.tail _ (.tail _ (.tail _ (mm5 q ?_)))))), fun q hq => offc q (hc2 q hq)⟩
        rcases List.mem_append.mp hq with h1 | h1
        · exact List.mem_append_left _ (hc2 q h1)
        · exact List.mem_append_right _ h1
  -- the last turn, the tag sent off
  have laT : rus.length + 1 = hs.length → (((rus.length : Nat) : Int) + 1 == ((hvs.length : Nat) : Int)) = true := fun e => by rw [beq_iff_eq]; omega
  have hprsE : rus.length + 1 = hs.length → prsOf hs = prsOf (hs.take rus.length) ++ [(nmS h, valS rus.length)] := fun e => by rw [← hprs, e, List.take_length]
  have eo0 : eoL true true = [] := rfl
  have o1 : ∀ a ∈ spcL hx hd' tq ct dl rw' sx sd tx td ra el, ∀ r ∈ R, r.1 ≠ a := fun a ha => offR a (.tail _ ha)
  have finS : ∀ f' : List (Addr × Obj), rus.length + 1 = hs.length → dn = true → kd = 3 →
      OutS w hx hd' tq lf ct dl p sx sd tx td ra el nl κh κ κ' qs (valS rus.length) fl (tagN.cps.toList.map lw) (nmL h) (fltW h.x.cps.toList) (prsOf (hs.take rus.length)) f' → (∀ q ∈ f', ∀ r ∈ (du, W.listOf dus.toArray uep) :: (rw', W.listOf rus.toArray rep) :: (fp, W.listOf fus.toArray fep) :: (tl ++ (E ++ R)), r.1 ≠ q.1) →
      BodyT w 4 (psA (.ref hx) (.int (kd : Int) kt) (.bool fl) dn hp du rw' ++ [(Str.ofString "rest", .str h.x xt), (Str.ofString "start", .str ⟨#[fixC h.f]⟩ stt), (Str.ofString "deeds", .int (partsN h.x.cps.toList false : Nat) dt), (Str.ofString "faults", .ref fp)]) (f' ++ ((du, W.listOf dus.toArray uep) :: (rw', W.listOf rus.toArray rep) :: (fp, W.listOf fus.toArray fep) :: (tl ++ (E ++ R)))) (PostT w hs dn fl kd kt hp (rus.length + 1) R) := by
    rintro f' hlen rfl rfl ⟨c0, c1, c2, c3, c4, d0, d1, S2, bf2, vs2, ep2, te2, q2, da, u1, u2, oC', oD, nm, y, ps, refs, exq2, ex2, r1, r2, ry, r3, r4, r5, r6, r7, r8, j1, j2, j3, j4, rfl⟩ offf
    obtain rfl : nm = nmS h := str_eq9 r2
    obtain rfl : y = tagS := str_eq9 (ry.trans tag_lw)
    refine fin _ offf fun du' D g1 g2 yt uep' us' ex hFl hex hDf hduf => ?_
    obtain ⟨e1, e2, e3, e4, e5, e6⟩ := apart (ct :: spcM hx hd' tq rw' sx sd tx td ra el) _ ex2 ex D du' (by simp) (fun a ha har => by
      have e9 : ([(hx, instObj 762 hd'), (hd', hdD8 w κh sx lf tq (.ref q2) (.ref ct)), (tq, W.listOf (qs ++ refs ++ [Value.ref ct]).toArray te2), (ct, oC')] ++ stS w sx sd tx td ra el nl κ κ' c0 c1 c2 c3 c4 d0 d1 S2 bf2 vs2 ep2).map Prod.fst = [hx, hd', tq, ct, sx, sd, tx, td, ra, el] := rfl
      have ha2 : a ∈ [hx, hd', tq, ct, sx, sd, tx, td, ra, el] := by
        simp only [spcM, List.mem_cons, List.not_mem_nil, or_false] at ha ⊢
        rcases ha with h | h | h | h | h | h | h | h | h | h | h <;> first | exact absurd h har | simp [h]
      obtain ⟨o, ho⟩ := in_fst e9 ha2
      exact ⟨o, by rw [← List.append_assoc]; exact List.mem_append_left _ ho⟩) (fun q hq => List.mem_append_right _ (List.mem_append_right _ hq)) offf r8 hex hDf hduf
    have hsda : ((da : Addr) == sysModules) = false := by
      have hf := r8 _ j4
      have z1 := hf.lt hx (by simp)
      have z2 := hf.lt hd' (by simp)
      have z3 := hf.lt tq (by simp)
      have z4 := nq_of hnd (i := 0) (j := 1) rfl rfl (by decide)
      have z5 := nq_of hnd (i := 0) (j := 2) rfl rfl (by decide)
      have z6 := nq_of hnd (i := 1) (j := 2) rfl rfl (by decide)
      unfold Nq at z4 z5 z6
      dsimp only at z1 z2 z3
      exact beq_eq_false_iff_ne.mpr (by show (da : Nat) ≠ 1; omega)
    rw [laT hlen] at hFl ⊢
    rw [eo0, List.append_nil] at hFl
    refine b10s fun m' news' hm hsub => ?_
    have hend : EndL w hs true fl 3 hx du' rw' ((hx, instObj 762 hd') :: (hd', hdD8 w κh sx lf tq (.ref q2) (.ref ct)) :: (tq, W.listOf (qs ++ refs ++ [Value.ref ct]).toArray te2) :: (du', W.listOf us'.toArray uep') :: (rw', W.listOf (rus ++ [Value.ref D]).toArray (rep + 1)) :: (stS w sx sd tx td ra el nl κ κ' c0 c1 c2 c3 c4 d0 d1 S2 bf2 vs2 ep2 ++ ((D, rowObj (nmS h, valS rus.length) g1 g2) :: (ct, oC') :: (ex ++ (ex2 ++ (tl ++ E)))))) := by
      refine ⟨hd', tq, lf, sx, sd, tx, td, ra, el, nl, κh, κ, κ', c0, c1, c2, c3, c4, d0, d1, S2, bf2, vs2, ep2, te2, uep', rep + 1, .ref q2, .ref ct, qs ++ refs, [.ref ct], us', rus ++ [Value.ref D], exq ++ exq2, [(ct, oC'), (da, oD)], _, ws ++ (fltW h.x.cps.toList ++ dupL (nmS h) (prsOf (hs.take rus.length))), ws ++ (fltW h.x.cps.toList ++ dupL (nmS h) (prsOf (hs.take rus.length))), some (3, tagS, keepL (prsOf hs), fl), r1, r5, r6, r7, spcM_of hnd, fun a ha => e1 a (.tail _ ha), .inr (.inl ⟨rfl, rfl, rfl, rfl⟩), ?_, hT.app r3, ?_, ?_, ?_, ?_, ?_, ?_, rfl⟩
      · rw [hprsE hlen]
        exact (hI.mono fun q hq => .tail _ (.tail _ (List.mem_append_right _ (List.mem_append_right _ (List.mem_append_right _ hq))))).app (.one (.head _))
      · have hk := j1.keep
        rw [← hprsE hlen] at hk
        refine .start j3 j2 hk ?_ hsda
        have h1 := (keepL_len ps).1
        have h2 := j1.len
        rw [List.length_append, prsOf_len, htl0, List.length_singleton] at h2
        omega
      · intro q hq
        rcases List.mem_append.mp hq with h1 | h1
        · rcases List.mem_append.mp h1 with h1 | h1
          · exact .tail _ (.tail _ (List.mem_append_right _ (List.mem_append_right _ (List.mem_append_right _ (hxq q h1)))))
          · exact .tail _ (.tail _ (List.mem_append_right _ (List.mem_append_left _ (r4 q h1))))
        · rcases List.mem_cons.mp h1 with rfl | h1
          · exact .tail _ (.head _)
          · rw [List.mem_singleton.mp h1]
            exact .tail _ (.tail _ (List.mem_append_right _ (List.mem_append_left _ j4)))
      · have hFl2 : Flts us' ((D, rowObj (nmS h, valS rus.length) g1 g2) :: (ct, oC') :: (ex ++ (ex2 ++ (tl ++ E)))) _ := hFl.mono fun q hq => .tail _ (.tail _ ((List.mem_append.mp hq).elim (fun h => List.mem_append_left _ h) fun h => List.mem_append_right _ (List.mem_append_right _ h)))
        rw [List.append_assoc] at hFl2
        exact hFl2
      · intro z hz
        rcases List.mem_append.mp hz with h1 | h1
        · exact hwok z h1
        · rcases List.mem_append.mp h1 with h1 | h1
          · exact flt_ok _ z h1
          · exact dup_ok _ _ z h1
      · have z1 := fltW_len h.x.cps.toList
        have z3 := dup_len (nmS h) (prsOf (hs.take rus.length))
        simp only [List.length_append]
        omega
      · have hc : ∀ a ∈ du' :: spcM hx hd' tq rw' sx sd tx td ra el, a ∈ du' :: ct :: spcM hx hd' tq rw' sx sd tx td ra el := by simp
        have ne_ct : ∀ a ∈ [hx, hd', tq, dl, rw', sx, sd, tx, td, ra, el], a ≠ ct := nd_erase (k := 3) hnd rfl
        refine OffE.cons (fun a ha => e2 a (hc a ha)) (OffE.cons (List.forall_mem_cons.mpr ⟨e1 ct (.head _), fun a ha => Ne.symm (ne_ct a (by revert ha; simp; grind))⟩) fun a ha => e3 a (hc a ha))
    refine ⟨_, ⟨hx, du', rw', fun q hq => hm q (psB_A q hq), .inr ⟨hlen, hend⟩⟩, fun q hq => hsub q (mm6 q hq), ?_⟩
    refine List.forall_mem_cons.mpr ⟨o1 hx (by simp), List.forall_mem_cons.mpr ⟨o1 hd' (by simp), List.forall_mem_cons.mpr ⟨o1 tq (by simp), List.forall_mem_cons.mpr ⟨e4, List.forall_mem_cons.mpr ⟨o1 rw' (by simp), off_app ?_ ?_⟩⟩⟩⟩⟩
    · exact off_in (l := [sx, sd, tx, td, ra, el]) (fun a ha => o1 a (by revert ha; simp; grind)) rfl
    · exact List.forall_mem_cons.mpr ⟨e5, List.forall_mem_cons.mpr ⟨o1 ct (by simp), e6⟩⟩
  have finE : ∀ f' : List (Addr × Obj), rus.length + 1 = hs.length → dn = true → kd = 4 →
      OutE w hx hd' tq lf ct dl p sx sd tx td ra el nl κh κ κ' qs us (dep + 1) (valS rus.length) t2 fl (tagN.cps.toList.map lw) (nmL h) (fltW h.x.cps.toList) (prsOf (hs.take rus.length)) f' → (∀ q ∈ f', ∀ r ∈ (du, W.listOf dus.toArray uep) :: (rw', W.listOf rus.toArray rep) :: (fp, W.listOf fus.toArray fep) :: (tl ++ (E ++ R)), r.1 ≠ q.1) →
      BodyT w 4 (psA (.ref hx) (.int (kd : Int) kt) (.bool fl) dn hp du rw' ++ [(Str.ofString "rest", .str h.x xt), (Str.ofString "start", .str ⟨#[fixC h.f]⟩ stt), (Str.ofString "deeds", .int (partsN h.x.cps.toList false : Nat) dt), (Str.ofString "faults", .ref fp)]) (f' ++ ((du, W.listOf dus.toArray uep) :: (rw', W.listOf rus.toArray rep) :: (fp, W.listOf fus.toArray fep) :: (tl ++ (E ++ R)))) (PostT w hs dn fl kd kt hp (rus.length + 1) R) := by
    rintro f' hlen rfl rfl ⟨c0, c1, c2, c3, c4, d0, d1, S2, bf2, vs2, ep2, te2, pep2, u0, q2, u1, u2, oC', nm, y, refs, exq2, ex2, r1, r2, ry, r3, r4, r5, r6, r7, r8, j3, rfl⟩ offf
    obtain rfl : nm = nmS h := str_eq9 r2
    obtain rfl : y = tagS := str_eq9 (ry.trans tag_lw)
    refine fin _ offf fun du' D g1 g2 yt uep' us' ex hFl hex hDf hduf => ?_
    obtain ⟨e1, e2, e3, e4, e5, e6⟩ := apart (spcL hx hd' tq ct dl rw' sx sd tx td ra el) _ ex2 ex D du' (fun _ h => h) (fun a ha har => by
      have e9 : (atF w hx hd' tq lf ct dl p sx sd tx td ra el nl κh κ κ' c0 c1 c2 c3 c4 d0 d1 S2 bf2 vs2 ep2 (.ref q2) (qs ++ refs ++ [Value.ref ct]) te2 oC' us (dep + 1) (nmS h) (valS rus.length) u0 t2 pep2).map Prod.fst = [hx, hd', tq, ct, dl, p, sx, sd, tx, td, ra, el] := rfl
      have ha2 : a ∈ [hx, hd', tq, ct, dl, p, sx, sd, tx, td, ra, el] := by
        simp only [spcL, List.mem_cons, List.not_mem_nil, or_false] at ha ⊢
        rcases ha with h | h | h | h | h | h | h | h | h | h | h | h <;> first | exact absurd h har | simp [h]
      obtain ⟨o, ho⟩ := in_fst e9 ha2
      exact ⟨o, List.mem_append_left _ ho⟩) (fun q hq => List.mem_append_right _ hq) offf r8 hex hDf hduf
    have hpd : p < du' := tb_ltOf hduf.2.2 (p, W.listOf [Value.str (nmS h) u0, Value.str (valS rus.length) t2].toArray pep2) (List.mem_append_left _ (List.mem_append_left _ (List.mem_append_left _ (by simp))))
    rw [laT hlen] at hFl ⊢
    rw [eo0, List.append_nil] at hFl
    refine b10s fun m' news' hm hsub => ?_
    have hend : EndL w hs true fl 4 hx du' rw' ((hx, instObj 762 hd') :: (hd', hdD8 w κh sx lf tq (.ref q2) (.ref ct)) :: (tq, W.listOf (qs ++ refs ++ [Value.ref ct]).toArray te2) :: (du', W.listOf us'.toArray uep') :: (rw', W.listOf (rus ++ [Value.ref D]).toArray (rep + 1)) :: (stS w sx sd tx td ra el nl κ κ' c0 c1 c2 c3 c4 d0 d1 S2 bf2 vs2 ep2 ++ ((D, rowObj (nmS h, valS rus.length) g1 g2) :: (ct, oC') :: (dl, W.listOf (us ++ [Value.ref p]).toArray (dep + 1)) :: (p, W.listOf [Value.str (nmS h) u0, Value.str (valS rus.length) t2].toArray pep2) :: (ex ++ (ex2 ++ (tl ++ E)))))) := by
      refine ⟨hd', tq, lf, sx, sd, tx, td, ra, el, nl, κh, κ, κ', c0, c1, c2, c3, c4, d0, d1, S2, bf2, vs2, ep2, te2, uep', rep + 1, .ref q2, .ref ct, qs ++ refs, [.ref ct], us', rus ++ [Value.ref D], exq ++ exq2, (ct, oC') :: (dl, W.listOf (us ++ [Value.ref p]).toArray (dep + 1)) :: (O ++ [(p, W.listOf [Value.str (nmS h) u0, Value.str (valS rus.length) t2].toArray pep2)]), _, ws ++ (fltW h.x.cps.toList ++ dupL (nmS h) (prsOf (hs.take rus.length))), ws ++ (fltW h.x.cps.toList ++ dupL (nmS h) (prsOf (hs.take rus.length)) ++ (atW :: if fl then [scW] else [])), some (4, tagS, prsOf hs, fl), r1, r5, r6, r7, spcM_of hnd, fun a ha => e1 a (spcM_in ha), .inr (.inr ⟨rfl, rfl, rfl, by simp only [List.append_assoc]⟩), ?_, hT.app r3, ?_, ?_, ?_, ?_, ?_, ?_, rfl⟩
      · rw [hprsE hlen]
        exact (hI.mono fun q hq => .tail _ (.tail _ (.tail _ (.tail _ (List.mem_append_right _ (List.mem_append_right _ (List.mem_append_right _ hq))))))).app (.one (.head _))
      · rw [hprsE hlen]
        exact .fin j3 hpr.snoc (by rw [List.length_append, List.length_singleton]; omega)
      · intro q hq
        rcases List.mem_append.mp hq with h1 | h1
        · rcases List.mem_append.mp h1 with h1 | h1
          · exact .tail _ (.tail _ (.tail _ (.tail _ (List.mem_append_right _ (List.mem_append_right _ (List.mem_append_right _ (hxq q h1)))))))
          · exact .tail _ (.tail _ (.tail _ (.tail _ (List.mem_append_right _ (List.mem_append_left _ (r4 q h1))))))
        · rcases List.mem_cons.mp h1 with rfl | h1
          · exact .tail _ (.head _)
          · rcases List.mem_cons.mp h1 with rfl | h1
            · exact .tail _ (.tail _ (.head _))
            · rcases List.mem_append.mp h1 with h1 | h1
              · exact .tail _ (.tail _ (.tail _ (.tail _ (List.mem_append_right _ (List.mem_append_right _ (List.mem_append_right _ (hO q h1)))))))
              · rw [List.mem_singleton.mp h1]
                exact .tail _ (.tail _ (.tail _ (.head _)))
      · have hFl2 : Flts us' ((D, rowObj (nmS h, valS rus.length) g1 g2) :: (ct, oC') :: (dl, W.listOf (us ++ [Value.ref p]).toArray (dep + 1)) :: (p, W.listOf [Value.str (nmS h) u0, Value.str (valS rus.length) t2].toArray pep2) :: (ex ++ (ex2 ++ (tl ++ E)))) _ := hFl.mono fun q hq => .tail _ (.tail _ (.tail _ (.tail _ ((List.mem_append.mp hq).elim (fun h => List.mem_append_left _ h) fun h => List.mem_append_right _ (List.mem_append_right _ h)))))
        rw [List.append_assoc] at hFl2
        exact hFl2
      · intro z hz
        rcases List.mem_append.mp hz with h1 | h1
        · exact hwok z h1
        · rcases List.mem_append.mp h1 with h1 | h1
          · exact flt_ok _ z h1
          · exact dup_ok _ _ z h1
      · have z1 := fltW_len h.x.cps.toList
        have z3 := dup_len (nmS h) (prsOf (hs.take rus.length))
        simp only [List.length_append]
        omega
      · have hc : ∀ a ∈ du' :: spcM hx hd' tq rw' sx sd tx td ra el, a ∈ du' :: spcL hx hd' tq ct dl rw' sx sd tx td ra el := by simp
        have ne_ct : ∀ a ∈ [hx, hd', tq, dl, rw', sx, sd, tx, td, ra, el], a ≠ ct := nd_erase (k := 3) hnd rfl
        refine OffE.cons (fun a ha => e2 a (hc a ha)) (OffE.cons (List.forall_mem_cons.mpr ⟨e1 ct (by simp), fun a ha => Ne.symm (ne_ct a (by revert ha; simp; grind))⟩) (OffE.cons (List.forall_mem_cons.mpr ⟨e1 dl (by simp), fun a ha => Ne.symm (ne_dl a (by revert ha; simp; grind))⟩) (OffE.cons (fun a ha => pApart du' hpd a (hc a ha)) fun a ha => e3 a (hc a ha))))
    refine ⟨_, ⟨hx, du', rw', fun q hq => hm q (psB_A q hq), .inr ⟨hlen, hend⟩⟩, fun q hq => hsub q (mm7 q hq), ?_⟩
    refine List.forall_mem_cons.mpr ⟨o1 hx (by simp), List.forall_mem_cons.mpr ⟨o1 hd' (by simp), List.forall_mem_cons.mpr ⟨o1 tq (by simp), List.forall_mem_cons.mpr ⟨e4, List.forall_mem_cons.mpr ⟨o1 rw' (by simp), off_app ?_ ?_⟩⟩⟩⟩⟩
    · exact off_in (l := [sx, sd, tx, td, ra, el]) (fun a ha => o1 a (by revert ha; simp; grind)) rfl
    · exact List.forall_mem_cons.mpr ⟨e5, List.forall_mem_cons.mpr ⟨o1 ct (by simp), List.forall_mem_cons.mpr ⟨o1 dl (by simp), List.forall_mem_cons.mpr ⟨fun r hr => Nat.ne_of_lt (hpR r hr), e6⟩⟩⟩⟩
  -- the cases
  have hnT : tagN.length ≤ 1000 := by decide +kernel
  rcases hgt : hs.drop (rus.length + 1) with _ | ⟨g, t⟩
  · have hlen : rus.length + 1 = hs.length := by
      have h9 := congrArg List.length hgt
      rw [List.length_drop, List.length_nil] at h9
      omega
    rw [hgt] at main fin0
    have haq' := haq
    cases hdn : dn with
    | false =>
      subst hdn
      refine main _ (fun f hR => exit_2 hpr hD hsm (by omega) (by omega) hsl hq6 hhq haq hR) fun f' h1 h2 => fin0 _ _ f' rfl (by rw [laT hlen]; rfl) (by rw [laT hlen]; rfl) h1 h2
    | true =>
      subst hdn
      rcases hkd with rfl | rfl
      · exact main _ (fun f hR => exit_S hpr hD hsm (by omega) (by omega) hnT hsl hq6 hhq haq hR) fun f' h1 h2 => finS f' hlen rfl rfl h1 h2
      · exact main _ (fun f hR => exit_E hpr hD hsm (by omega) (by omega) hnT hsl hq6 hhq haq hR) fun f' h1 h2 => finE f' hlen rfl rfl h1 h2
  · have hlt : rus.length + 1 < hs.length := by
      have h9 := congrArg List.length hgt
      rw [List.length_drop, List.length_cons] at h9
      omega
    have laF : (((rus.length : Nat) : Int) + 1 == ((hvs.length : Nat) : Int)) = false := by
      rw [beq_eq_false_iff_ne]; omega
    rw [hgt] at main fin0
    refine main _ (fun f hR => exit_1 hoh.e hpr hD hsm (by omega) (by omega) hsl hq6 hhq haq hR) fun f' h1 h2 => fin0 _ _ f' rfl (by rw [laF]; unfold eoL; simp) (by rw [laF]; rfl) h1 h2
end Mine
namespace Mine
/-! the law from its 15th statement on -/
section
variable {prog : Program} {w : World} {A : Around} {E : Value → Shared → Prop} {s : Shared} {env : Env} {h₀ : Heap} {target : PySem.Expr} {body : List Stmt} {Q : Flow → Shared → Prop}
theorem turns_J {σ : Type} {l : Addr} {vs : List Value} {m₀ : PySem.Str → Option Value} (front : σ → List (Addr × Obj)) (rest : List (Addr × Obj)) (J : Nat → σ → (PySem.Str → Option Value) → Prop) (c₀ : σ)
    (hh : A.handled = none) (hl : s.heap.IsList l vs.toArray) (hlr : (∃ o, (l, o) ∈ rest) ∨ ∃ o, h₀.get? l = some o) (F : Fr h₀ env.locals s.heap m₀) (N : News h₀ env.locals s.heap (front c₀ ++ rest)) (off : ∀ q ∈ front c₀, ∀ p ∈ rest, p.1 ≠ q.1) (hj : J 0 c₀ m₀)
    (turn : ∀ (i : Nat) (v : Value) (c : σ) (m₁ : PySem.Str → Option Value) (h : Heap) (tk : Nat) (rest' : List (Addr × Obj)), vs[i]? = some v → J i c m₁ → (∀ q ∈ front c, ∀ p ∈ rest', p.1 ≠ q.1) → (∀ p ∈ rest, p ∈ rest') →
      Fr h₀ env.locals h m₁ → News h₀ env.locals h (front c ++ rest') →
      wpAny (model prog w) A (assign target env v) (fun _ s₃ => wpAny (model prog w) A (execs body env) (TPost h₀ env.locals front (J (i + 1)) rest' { s with heap := h, toks := tk } Q) E s₃) E { s with heap := h, toks := tk })
    (done : ∀ (c : σ) (m₁ : PySem.Str → Option Value) (h : Heap) (tk : Nat), J vs.length c m₁ → (∀ q ∈ front c, ∀ p ∈ rest, p.1 ≠ q.1) → Fr h₀ env.locals h m₁ → News h₀ env.locals h (front c ++ rest) → Q .next { s with heap := h, toks := tk }) :
    wpAny (model prog w) A (pyIter (.ref l)) (fun it s₂ => TurnsAt prog w A h₀ env target body Q E it s₂) E s := by
  obtain ⟨ol, hol, _⟩ := id hl
  have hlt : l < s.heap.objs.size := Heap.lt_size hol
  have hne : l ≠ s.heap.objs.size := Nat.ne_of_lt hlt
  have hI : ∀ q ∈ front c₀ ++ rest, q.1 ≠ s.heap.objs.size := fun q hq e => absurd (Heap.lt_size (N q hq).1) (e ▸ Nat.lt_irrefl _)
  have hlL : l ≠ env.locals := by
    rcases hlr with ⟨o, ho⟩ | ⟨o, ho⟩
    · exact (N (l, o) (List.mem_append_right _ ho)).2.1
    · exact Nat.ne_of_lt (Nat.lt_of_lt_of_le (Heap.lt_size ho) F.above)
  refine wpAny_pyIter_list hl ?_
  have W := Walks.list (prog := prog) (w := w) hh s.heap.objs.size l hne vs.toArray
  have hlen : vs.toArray.size = vs.length := by simp
  rw [hlen] at W
  refine turns_gen front rest J c₀ (KTurns.ofWalks W fun i v s Q E st q => letGo_listiter st.1 q) ?_ ?_ ?_ ⟨⟨_, Heap.get?_push_size _ rfl, rfl, rfl⟩, hl.at fun o e => Heap.get?_push_of_some _ e⟩ (F.push _) (fun p hp => ⟨Heap.get?_push_of_some _ (N p hp).1, (N p hp).2⟩) ?_ ?_ off hj ?_ done
  · intro hm
    rcases List.mem_cons.mp hm with e | hm
    · exact absurd F.ns.lt (e ▸ Nat.lt_irrefl _)
    · exact hlL (List.mem_singleton.mp hm).symm
  · intro b' hb
    rw [List.mem_singleton.mp hb]
    exact next_is_new F
  · rintro i h ⟨⟨o, ho, _⟩, ⟨o', ho', _⟩⟩ b hb
    rcases List.mem_cons.mp hb with rfl | hb
    · exact ⟨o, ho⟩
    · rw [List.mem_singleton.mp hb]; exact ⟨o', ho'⟩
  · intro q hq hf
    rcases List.mem_cons.mp hf with e | hf
    · exact hI q (List.mem_append_left _ hq) e
    · have e := List.mem_singleton.mp hf
      rcases hlr with ⟨o, ho⟩ | ⟨o, ho⟩
      · exact off q hq _ ho e.symm
      · have := (N q (List.mem_append_left _ hq)).2.2
        rw [e, ho] at this
        cases this
  · intro q hq hf
    exact hI q (List.mem_append_right _ hq) (List.mem_singleton.mp hf)
  · rintro i v c m₁ h tk rest' hi hv hJ off' sub' F₁ N₁
    exact turn i v c m₁ h tk rest' (by simpa using hv) hJ off' sub' F₁ N₁
end
theorem LawC.sub {w : World} {n : Nat} {ps ps' : List (PySem.Str × Value)} {led led' : List (Addr × Obj)} (h : LawC w n ps led) (h1 : ∀ p ∈ ps, p ∈ ps') (h2 : ∀ q ∈ led, q ∈ led') : LawC w n ps' led' :=
  fun mean mg mb base h₀ L fa cd m s Q E B F hps X N T hE hret => h mean mg mb base h₀ L fa cd m s Q E B F (fun p hp => hps p (h1 p hp)) X (nsub N h2) T hE hret
theorem ok_end {w : World} {qs : List Value} {ex : List (Addr × Obj)} {ws : List PySem.Str} (h : Toks w qs ex ws) : qs.length = ws.length := h.len
theorem mm9 {α : Type} {a b c d e : α} {X E R : List α} : ∀ q ∈ a :: b :: c :: d :: (X ++ (E ++ R)), q ∈ (a :: b :: c :: d :: e :: (X ++ E)) ++ R := by
  simp only [List.cons_append, List.nil_append, List.append_assoc, List.forall_mem_cons, List.forall_mem_append]
  and_intros
  all_goals first | (simp; done) | (intro q hq; simp [hq]; done) | (simp [*]; done)
theorem end_len (fl : Bool) : (atW :: if fl = true then [scW] else []).length ≤ 2 := by cases fl <;> simp
theorem l_16 {w : World} {hs : List H9} {dn fl : Bool} {kd kt hp hx du rw' : Nat} {c R : List (Addr × Obj)} (hok : ∀ g ∈ hs, OkH g) (hn : hs.length ≤ 5) (off : ∀ q ∈ c, ∀ p ∈ R, p.1 ≠ q.1) (hE : EndL w hs dn fl kd hx du rw' c) :
    LawC w 16 (psA (.ref hx) (.int (kd : Int) kt) (.bool fl) dn hp du rw') (c ++ R) := by
  obtain ⟨hd', tq, lf, sx, sd, tx, td, ra, el, nl, κh, κ, κ', a0, a1, a2, a3, a4, b0', b1', S, bf, vs, ep, te, uep, rep, st, cv, qs, tg, dus, rus, exq, tgo, E, ws, wsq, tag, hrem, hw, hbf, hv, hnd, hdu, hTC, hI, hT, hG, hxt, hF, hwok, hwl, hoff, rfl⟩ := hE
  have nq : ∀ {i j a b : Nat}, (spcM hx hd' tq rw' sx sd tx td ra el)[i]? = some a → (spcM hx hd' tq rw' sx sd tx td ra el)[j]? = some b → i ≠ j → Nq a b := fun hi hj hij => nq_of hnd hi hj hij
  have h6 : NQ6 sx sd tx td ra el := ⟨nq (i := 4) (j := 5) rfl rfl (by decide), nq (i := 4) (j := 6) rfl rfl (by decide), nq (i := 4) (j := 7) rfl rfl (by decide), nq (i := 4) (j := 8) rfl rfl (by decide), nq (i := 4) (j := 9) rfl rfl (by decide), nq (i := 5) (j := 6) rfl rfl (by decide), nq (i := 5) (j := 7) rfl rfl (by decide), nq (i := 5) (j := 8) rfl rfl (by decide), nq (i := 5) (j := 9) rfl rfl (by decide), nq (i := 6) (j := 7) rfl rfl (by decide), nq (i := 6) (j := 8) rfl rfl (by decide), nq (i := 6) (j := 9) rfl rfl (by decide), nq (i := 7) (j := 8) rfl rfl (by decide), nq (i := 7) (j := 9) rfl rfl (by decide), nq (i := 8) (j := 9) rfl rfl (by decide)⟩
  have hh : HQ hx hd' tq sx sd tx td ra el := ⟨nq (i := 0) (j := 1) rfl rfl (by decide), nq (i := 1) (j := 4) rfl rfl (by decide), nq (i := 1) (j := 5) rfl rfl (by decide), nq (i := 1) (j := 6) rfl rfl (by decide), nq (i := 1) (j := 7) rfl rfl (by decide), nq (i := 1) (j := 8) rfl rfl (by decide), nq (i := 1) (j := 9) rfl rfl (by decide), nq (i := 1) (j := 2) rfl rfl (by decide),
    nq (i := 2) (j := 0) rfl rfl (by decide), nq (i := 2) (j := 4) rfl rfl (by decide), nq (i := 2) (j := 5) rfl rfl (by decide), nq (i := 2) (j := 6) rfl rfl (by decide), nq (i := 2) (j := 7) rfl rfl (by decide), nq (i := 2) (j := 8) rfl rfl (by decide), nq (i := 2) (j := 9) rfl rfl (by decide),
    nq (i := 0) (j := 4) rfl rfl (by decide), nq (i := 0) (j := 5) rfl rfl (by decide), nq (i := 0) (j := 6) rfl rfl (by decide), nq (i := 0) (j := 7) rfl rfl (by decide), nq (i := 0) (j := 8) rfl rfl (by decide), nq (i := 0) (j := 9) rfl rfl (by decide)⟩
  have hd : ∀ a ∈ spcM hx hd' tq rw' sx sd tx td ra el, Nq du a := fun a ha => Ne.symm (hdu a ha)
  have hdu1 : Nq du sx ∧ Nq du sd ∧ Nq du tx ∧ Nq du td ∧ Nq du ra ∧ Nq du el := ⟨hd _ (by simp), hd _ (by simp), hd _ (by simp), hd _ (by simp), hd _ (by simp), hd _ (by simp)⟩
  have hdu2 : Nq du hx ∧ Nq du hd' ∧ Nq du tq ∧ Nq du rw' := ⟨hd _ (by simp), hd _ (by simp), hd _ (by simp), hd _ (by simp)⟩
  have hrw : Nq rw' sx ∧ Nq rw' sd ∧ Nq rw' tx ∧ Nq rw' td ∧ Nq rw' ra ∧ Nq rw' el := ⟨nq (i := 3) (j := 4) rfl rfl (by decide), nq (i := 3) (j := 5) rfl rfl (by decide), nq (i := 3) (j := 6) rfl rfl (by decide), nq (i := 3) (j := 7) rfl rfl (by decide), nq (i := 3) (j := 8) rfl rfl (by decide), nq (i := 3) (j := 9) rfl rfl (by decide)⟩
  have offR : ∀ a ∈ du :: spcM hx hd' tq rw' sx sd tx td ra el, ∀ p ∈ R, p.1 ≠ a := by
    intro a ha p hp
    have e0 : ((hx, instObj 762 hd') :: (hd', hdD8 w κh sx lf tq st cv) :: (tq, W.listOf (qs ++ tg).toArray te) :: (du, W.listOf dus.toArray uep) :: (rw', W.listOf rus.toArray rep) :: stS w sx sd tx td ra el nl κ κ' a0 a1 a2 a3 a4 b0' b1' S bf vs ep).map Prod.fst = [hx, hd', tq, du, rw', sx, sd, tx, td, ra, el] := rfl
    have key : ∀ a ∈ du :: spcM hx hd' tq rw' sx sd tx td ra el, a ∈ [hx, hd', tq, du, rw', sx, sd, tx, td, ra, el] := by simp
    obtain ⟨o, ho⟩ := in_fst e0 (key a ha)
    exact off (a, o) (by rw [← List.cons_append, ← List.cons_append, ← List.cons_append, ← List.cons_append, ← List.cons_append]; exact List.mem_append_left _ ho) p hp
  have offA : ∀ a ∈ du :: spcM hx hd' tq rw' sx sd tx td ra el, ∀ p ∈ E ++ R, p.1 ≠ a := fun a ha p hp => (List.mem_append.mp hp).elim (hoff a ha p) (offR a ha p)
  have hRd : ∀ p ∈ E ++ R, p.1 ≠ du := offA du (.head _)
  have hR6 : ∀ p ∈ E ++ R, p.1 ≠ sx ∧ p.1 ≠ sd ∧ p.1 ≠ tx ∧ p.1 ≠ td ∧ p.1 ≠ ra ∧ p.1 ≠ el := fun p hp => ⟨offA sx (by simp) p hp, offA sd (by simp) p hp, offA tx (by simp) p hp, offA td (by simp) p hp, offA ra (by simp) p hp, offA el (by simp) p hp⟩
  have hFR : Flts dus (E ++ R) ws := hF.mono fun q hq => List.mem_append_left _ hq
  have hIR : Its rowObj rus (E ++ R) (prsOf hs) := hI.mono fun q hq => List.mem_append_left _ hq
  have hxR : ∀ q ∈ exq ++ tgo, q ∈ E ++ R := fun q hq => List.mem_append_left _ (hxt q hq)
  have okp : OkP (prsOf hs) := prs_ok hok (by omega)
  have hrl : rus.length ≤ 100 := by rw [hI.len, prsOf_len]; omega
  have hql := hT.len
  rcases hTC with ⟨rfl, rfl, rfl⟩ | ⟨rfl, rfl, rfl, rfl⟩ | ⟨rfl, rfl, rfl, rfl⟩
  · cases hG
    refine LawC.sub (l_16n (hd' := hd') (tep := te) (dep := uep) (κh := κh) (κ := κ) (κ' := κ') (lf := lf) (nl := nl) (st := st) (cv := cv) (τ₀ := a0) (τ₁ := a1) (τ₂ := a2) (τ₃ := a3) (τ₄ := a4) (σ₀ := b0') (σ₁ := b1') (ep := ep) (R := E ++ R) hT (by omega) hFR hwok hrem hv hbf hw h6 hh hdu1 (fun p hp => hxR p (List.mem_append_left _ hp)) hR6) (by simp) ?_
    rw [List.append_nil]
    exact mm9
  · refine LawC.sub (l_16s (hd' := hd') (tep := te) (dep := uep) (rep := rep) (κh := κh) (κ := κ) (κ' := κ') (lf := lf) (nl := nl) (st := st) (cv := cv) (τ₀ := a0) (τ₁ := a1) (τ₂ := a2) (τ₃ := a3) (τ₄ := a4) (σ₀ := b0') (σ₁ := b1') (ep := ep) (kt := kt) (R := E ++ R) hT hG (by omega) hFR hIR hrl hwok okp hrem hv hbf hw h6 hh hdu1 hdu2 hrw hxR hRd hR6) (by simp) ?_
    intro q hq
    simpa only [List.cons_append, List.append_assoc] using hq
  · have hzq : qs.length ≤ 200 := by
      have h2 := end_len fl
      rw [List.length_append] at hql
      omega
    refine LawC.sub (l_16e (hd' := hd') (tep := te) (dep := uep) (rep := rep) (κh := κh) (κ := κ) (κ' := κ') (lf := lf) (nl := nl) (st := st) (cv := cv) (τ₀ := a0) (τ₁ := a1) (τ₂ := a2) (τ₃ := a3) (τ₄ := a4) (σ₀ := b0') (σ₁ := b1') (ep := ep) (kt := kt) (R := E ++ R) hT hG hzq hFR hIR hwok okp hrem hv hbf hw h6 hh hdu1 hdu2 hrw hxR hRd hR6) (by simp) ?_
    intro q hq
    simpa only [List.cons_append, List.append_assoc] using hq
end Mine
theorem Mine.off_y2 {M : Model} {A : Around} {env : Env} {Q : Flow → Shared → Prop} {E : Value → Shared → Prop} {s : Shared} (h : wpAny M A (execs [] env) Q E s) : wpAny M A (execs [] env) Q E s := by
  (try (walk1; fail "no"))
  w_top off
  exact h
namespace Mine
local macro_rules | `(tactic| k_ne) => `(tactic| first | exact (show Nq _ _ by with_reducible assumption) | exact Ne.symm (show Nq _ _ by with_reducible assumption) | (refine neN ?_; (try dsimp only); omega))
local macro_rules | `(tactic| k_room) => `(tactic| ((try simp only [depth_under_make, depth_under_kw, depth_in1, depth_deeper, depth_caller, ktrTop, recursionLimit] at *); omega))
local macro_rules | `(tactic| k_units) => `(tactic| ((have hcL9 := cLine_is); (try simp only [units_in1, units_deeper, Around.mark_units, units_caller, ktrTop] at *); omega))
local macro_rules | `(tactic| ktr_enter) => `(tactic| (refine' code_def ?k1 ?k2 ?k3 ?k4 ?k5 ?kA ?kF ?kK ?k6 ?k7 ?k8 ?k9 ?kB ?_ ?c2 ?c3 ?c4 ?c5; (case kA => exact rfl); (case kF => exact rfl); (case kK => first | exact rfl | assumption); (case k1 => k_asm); (case k2 => k_asm); (case k3 => k_asm); (case k4 => k_asm); (case k5 => k_asm); (case k6 => k_is); (case k7 => k_is); (case k8 => k_room); (case k9 => first | exact BindsTo.of_eq rfl | exact binds_K (by k_in) rfl (by k_is) rfl rfl rfl); (case c5 => decide); (case kB => exact locs rfl); (case c2 => exact rfl); (case c3 => exact rfl); (case c4 => exact rfl); k_whole; intro g' L' h' FG' F' N' B' X' T'; (try dsimp only); (try k_fold)))
local macro_rules | `(tactic| k_all) => `(tactic| (with_reducible assumption))
local macro_rules | `(tactic| tb_lt) => `(tactic| first | exact Pick.head | (refine' Pick.tail ?c; (case c => tb_lt)))
local macro_rules | `(tactic| tb_start) => `(tactic| first | exact Picks.nil | (refine' Picks.cons ?a ?b; (case a => tb_lt); (case b => tb_start)))
local macro_rules | `(tactic| tb_rel) => `(tactic| first | exact List.forall_mem_nil _ | (refine' List.forall_mem_cons.mpr ⟨?a, ?b⟩; (case a => k_all); (case b => tb_rel)))
local macro_rules | `(tactic| walk_at "TPost") => `(tactic| (dsimp only [TPost]))
local macro_rules | `(tactic| size_fits) => `(tactic| ((simp only [PySem.sizeLine_eq, List.size_toArray]); omega))
local macro_rules | `(tactic| k_gentoks) => `(tactic| (with_reducible refine' gen_toksP ?hp ?_; (case hp => first | omega | ((try simp only [List.length_cons]); omega)); intro tk htk))
local macro_rules | `(tactic| kstt_sub) => `(tactic| first | exact fun _ h => h | assumption | (refine' subCons ?a ?b; (case a => k_mem); (case b => kstt_sub)) | (refine' subTail ?a; (case a => kstt_sub)))
local macro_rules | `(tactic| kst_all) => `(tactic| first | exact List.forall_mem_nil _ | (refine' List.forall_mem_cons.mpr ⟨?a, ?b⟩; (case a => exact rfl); (case b => kst_all)))
local macro_rules | `(tactic| walk_at "MidEnd") => `(tactic| first
  | ((with_reducible show MidEnd _ _ _ _ _ _ _ Flow.next _); (refine' ⟨(tk8 _ _ _ _ _ _ _ _, _), _, _, _, rfl, ?F, ?N, ?ps, ?P⟩); (case F => assumption); (case N => (refine' nsub ?N1 ?N2; (case N1 => assumption); (case N2 => kstt_sub))); (case ps => kst_all); (case P => k_extra "mid"))
  | ((fail_if_success (with_reducible show MidEnd _ _ _ _ _ _ _ Flow.next _)); dsimp only [MidEnd]))
local macro_rules | `(tactic| walk_at "WEnd") => `(tactic| ((fail_if_success (with_reducible show WEnd _ _ _ _ _ _ _ _ _ Flow.next _)); dsimp only [WEnd]))
local macro_rules | `(tactic| walk_at "callWith") => `(tactic| (k_here; (with_reducible refine' callWith_method1 ?_ ?he ?hp); (case he => k_dflt rfl); (case hp => k_dflt rfl)))
local macro_rules | `(tactic| k_steps) => `(tactic| repeat' (first | (k_unfold; (try dsimp only)) | (k_end; wrow_close) | walk1 | (dsimp only [List.cons_append, List.nil_append]; walk1) | (dsimp only) | fail "no step"))
/-! the law's main loop -/
abbrev hdObj (h : H9) (t1 t2 t3 : Nat) : Obj := { cls := .type "tuple", data := .seq #[.str ⟨#[h.f]⟩ t1, .str h.x t2, .str ⟨#[h.e]⟩ t3] 0 }
/-- the heads' tuples -/
def HdsAt (hvs : List Value) (R : List (Addr × Obj)) (hs : List H9) : Prop := hvs.length = hs.length ∧ ∀ (i : Nat) (h : H9), hs[i]? = some h → ∃ a t1 t2 t3, hvs[i]? = some (.ref a) ∧ (a, hdObj h t1 t2 t3) ∈ R
section
theorem l_15 {w : World} {hs : List H9} {dn fl : Bool} {kd kt hp hx du rw' hep : Nat} {hvs : List Value} {c R : List (Addr × Obj)}
    (hok : ∀ g ∈ hs, OkH g) (hn : hs.length ≤ 5) (h0 : 0 < hs.length) (hkd : kd = 3 ∨ kd = 4) (hH : HdsAt hvs R hs) (hhp : (hp, W.listOf hvs.toArray hep) ∈ R) (off : ∀ q ∈ c, ∀ p ∈ R, p.1 ≠ q.1) (hM : MidL w hs dn fl kd 0 hx du rw' c) :
    LawC w 15 (psA (.ref hx) (.int (kd : Int) kt) (.bool fl) dn hp du rw') (c ++ R) := by
  unfold LawC KF PG
  k_fill
  intro mean mg mb base h₀ L fa cd m s Q E B F hps X N T hE hret
  have hps0 := hps
  rw [← kstB_self hps] at F
  clear hps
  simp only [LR, recOfWalk, List.drop_succ_cons, List.drop_zero]
  dsimp only [psA] at F
  (try k_fold)
  k_with_none
  repeat' (first | ((fail_if_success (with_reducible show wpAny _ _ (exec (PySem.Stmt.For _ _ _ _ _) _) _ _ _)); first | (k_unfold; (try dsimp only)) | (k_end; wrow_close) | walk1 | (dsimp only [List.cons_append, List.nil_append]; walk1) | (dsimp only) | fail "no step"))
  (rename Fr _ _ _ _ => f8)
  refine' For_turns f8 ?_ ?hs ?hE
  case hs => (intro _; rfl)
  case hE => first | assumption | passes_own | with_unfolding_all passes_own
  repeat' (first | ((fail_if_success (with_reducible show wpAny _ _ (pyIter _) _ _ _)); first | (k_unfold; (try dsimp only)) | (k_end; wrow_close) | walk1 | (dsimp only [List.cons_append, List.nil_append]; walk1) | (dsimp only) | fail "no step"))
  have hql : Heap.IsList _ hp hvs.toArray := ⟨_, (N _ (List.mem_append_right _ hhp)).1, rfl, _, rfl⟩
  refine' turns_J (vs := hvs) (fun c : List (Addr × Obj) => c) R (fun i c m => JJ w hs dn fl kd kt hp i c m) c rfl hql (.inl ⟨_, hhp⟩) f8 N off ?j0 ?turn ?done
  case j0 =>
    refine ⟨hx, du, rw', ?_, .inl ⟨h0, hM⟩⟩
    rw [kstB_self hps0]; exact hps0
  case turn =>
    rintro i v c m₁ h9 tk rest' hv ⟨hx, du, rw', hps1, hJ⟩ off' sub' F1 N1
    have hil : i < hs.length := by rw [← hH.1]; exact (List.getElem?_eq_some_iff.mp hv).1
    obtain ⟨g, hg⟩ : ∃ g, hs[i]? = some g := ⟨_, List.getElem?_eq_getElem hil⟩
    obtain ⟨a, t1, t2, t3, e1, hm⟩ := hH.2 i g hg
    obtain rfl : v = .ref a := Option.some.inj (hv.symm.trans e1)
    have hM1 : MidL w hs dn fl kd i hx du rw' c := by
      rcases hJ with ⟨-, h⟩ | ⟨h, -⟩
      · exact h
      · exfalso; omega
    have N2 := ncons (p := (a, hdObj g t1 t2 t3)) N1 (List.mem_append_right _ (sub' _ hm))
    have F2 := F1
    rw [← kstB_self hps1] at F2
    dsimp only [psA] at F2
    clear F1 f8 hql
    (try k_fold)
    k_with_none
    repeat' (first | ((fail_if_success (with_reducible show wpAny _ _ (execs _ _) _ _ _)); first | (k_unfold; (try dsimp only)) | (k_end; wrow_close) | walk1 | (dsimp only [List.cons_append, List.nil_append]; walk1) | (dsimp only) | fail "no step"))
    (rename Fr _ _ _ _ => f9)
    (rename News _ _ _ _ => n9)
    refine' BodyC.use (turn_t (hep := hep) (xt := t2) (f1t := t1) (kt := kt) hok hg hn hkd hH.1 (sub' _ hhp) off' hM1) n9 (fun _ h => .tail _ h) f9 ?ps B X T hE ?ret
    case ps => dsimp only [psA, List.cons_append, List.nil_append]; kst_all
    case ret =>
      rintro h' tk' m' news' hF hN ⟨c', hJ', hsub, hoff⟩
      exact ⟨c', h', tk', m', rfl, hF, nsub hN hsub, hoff, hJ'⟩
  case done =>
    rintro c m₁ h9 tk ⟨hx, du, rw', hps1, hJ⟩ off' F1 N1
    dsimp only
    rcases hJ with ⟨h, -⟩ | ⟨-, hEnd⟩
    · exfalso; rw [hH.1] at h; omega
    · exact LawC.use (l_16 (R := R) hok hn off' hEnd) N1 (fun _ h => h) F1 hps1 B X T hE fun h' tk' m' hF => hret h' tk' m' hF
end
end Mine
theorem Mine.off_y3 {M : Model} {A : Around} {env : Env} {Q : Flow → Shared → Prop} {E : Value → Shared → Prop} {s : Shared} (h : wpAny M A (execs [] env) Q E s) : wpAny M A (execs [] env) Q E s := by
  (try (walk1; fail "no"))
  w_top off
  exact h
namespace Mine
local macro_rules | `(tactic| k_ne) => `(tactic| first | exact (show Nq _ _ by with_reducible assumption) | exact Ne.symm (show Nq _ _ by with_reducible assumption) | (refine neN ?_; (try dsimp only); omega))
local macro_rules | `(tactic| k_room) => `(tactic| ((try simp only [depth_under_make, depth_under_kw, depth_in1, depth_deeper, depth_caller, ktrTop, recursionLimit] at *); omega))
local macro_rules | `(tactic| k_units) => `(tactic| ((have hcL9 := cLine_is); (try simp only [units_in1, units_deeper, Around.mark_units, units_caller, ktrTop] at *); omega))
local macro_rules | `(tactic| ktr_enter) => `(tactic| (refine' code_def ?k1 ?k2 ?k3 ?k4 ?k5 ?kA ?kF ?kK ?k6 ?k7 ?k8 ?k9 ?kB ?_ ?c2 ?c3 ?c4 ?c5; (case kA => exact rfl); (case kF => exact rfl); (case kK => first | exact rfl | assumption); (case k1 => k_asm); (case k2 => k_asm); (case k3 => k_asm); (case k4 => k_asm); (case k5 => k_asm); (case k6 => k_is); (case k7 => k_is); (case k8 => k_room); (case k9 => first | exact BindsTo.of_eq rfl | exact binds_K (by k_in) rfl (by k_is) rfl rfl rfl); (case c5 => decide); (case kB => exact locs rfl); (case c2 => exact rfl); (case c3 => exact rfl); (case c4 => exact rfl); k_whole; intro g' L' h' FG' F' N' B' X' T'; (try dsimp only); (try k_fold)))
local macro_rules | `(tactic| k_all) => `(tactic| (with_reducible assumption))
local macro_rules | `(tactic| tb_lt) => `(tactic| first | exact Pick.head | (refine' Pick.tail ?c; (case c => tb_lt)))
local macro_rules | `(tactic| tb_start) => `(tactic| first | exact Picks.nil | (refine' Picks.cons ?a ?b; (case a => tb_lt); (case b => tb_start)))
local macro_rules | `(tactic| tb_rel) => `(tactic| first | exact List.forall_mem_nil _ | (refine' List.forall_mem_cons.mpr ⟨?a, ?b⟩; (case a => k_all); (case b => tb_rel)))
local macro_rules | `(tactic| walk_at "TPost") => `(tactic| (dsimp only [TPost]))
local macro_rules | `(tactic| size_fits) => `(tactic| ((simp only [PySem.sizeLine_eq, List.size_toArray]); omega))
local macro_rules | `(tactic| k_gentoks) => `(tactic| (with_reducible refine' gen_toksP ?hp ?_; (case hp => first | omega | ((try simp only [List.length_cons]); omega)); intro tk htk))
local macro_rules | `(tactic| kstt_sub) => `(tactic| first | exact fun _ h => h | assumption | (refine' subCons ?a ?b; (case a => k_mem); (case b => kstt_sub)) | (refine' subTail ?a; (case a => kstt_sub)))
local macro_rules | `(tactic| kst_all) => `(tactic| first | exact List.forall_mem_nil _ | (refine' List.forall_mem_cons.mpr ⟨?a, ?b⟩; (case a => exact rfl); (case b => kst_all)))
local macro_rules | `(tactic| walk_at "MidEnd") => `(tactic| first
  | ((with_reducible show MidEnd _ _ _ _ _ _ _ Flow.next _); (refine' ⟨(tk8 _ _ _ _ _ _ _ _, _), _, _, _, rfl, ?F, ?N, ?ps, ?P⟩); (case F => assumption); (case N => (refine' nsub ?N1 ?N2; (case N1 => assumption); (case N2 => kstt_sub))); (case ps => kst_all); (case P => k_extra "mid"))
  | ((fail_if_success (with_reducible show MidEnd _ _ _ _ _ _ _ Flow.next _)); dsimp only [MidEnd]))
local macro_rules | `(tactic| walk_at "WEnd") => `(tactic| ((fail_if_success (with_reducible show WEnd _ _ _ _ _ _ _ _ _ Flow.next _)); dsimp only [WEnd]))
local macro_rules | `(tactic| walk_at "callWith") => `(tactic| (k_here; (with_reducible refine' callWith_method1 ?_ ?he ?hp); (case he => k_dflt rfl); (case hp => k_dflt rfl)))
local macro_rules | `(tactic| k_steps) => `(tactic| repeat' (first | (k_unfold; (try dsimp only)) | (k_end; wrow_close) | walk1 | (dsimp only [List.cons_append, List.nil_append]; walk1) | (dsimp only) | fail "no step"))
theorem law_names4 {h₀ h : Heap} {L rw' du dl ct : Nat} {oo0 oo1 oo2 oo3 : Obj} {r : List (Addr × Obj)} (_N : News h₀ L h ((rw', oo0) :: (du, oo1) :: (dl, oo2) :: (ct, oo3) :: r)) :
    ∃ (a b c d : Nat) (o : Obj), a = rw' ∧ b = du ∧ c = dl ∧ d = ct ∧ o = oo3 := ⟨rw', du, dl, ct, oo3, rfl, rfl, rfl, rfl, rfl⟩
theorem mend_id : ∀ (l : List Nat), 13 ∉ l → mend false l = l
  | [], _ => rfl
  | a :: r, h => by
    have h1 : a ≠ 13 := fun e => h (e ▸ .head _)
    have h2 := mend_id r fun hr => h (.tail _ hr)
    rw [mend_cons, if_neg h1, if_neg (by simp), h2]
theorem len_nil0 : (((Str.ofString "").length : Nat) : Int) = 0 := by decide +kernel
theorem cntI_le (l : List Nat) : cntI l ≤ l.length := List.length_filter_le _ _
theorem start_raw (T : PySem.Str) : raw (startS T) = T.cps.toList := by
  show (bfS none).cps.toList ++ T.cps.toList.drop 0 = _
  rw [List.drop_zero]
  have e : (bfS none).cps.toList = [] := by decide +kernel
  rw [e]; rfl
theorem start_rem {T : PySem.Str} (h : 13 ∉ T.cps.toList) : rem (startS T) = T.cps.toList := by
  have e : (PySem.Str.ofString "").cps = #[] := by decide +kernel
  unfold rem
  rw [start_raw, mend_id _ h]
  show (PySem.Str.ofString "").cps.toList.drop 0 ++ _ = _
  rw [e]; rfl
theorem start_wf {T : PySem.Str} (h : T.length ≤ 1000) : WF (startS T) := by
  refine ⟨Int.le_refl _, Int.natCast_nonneg _, Int.le_refl _, Int.natCast_nonneg _, by show T.length ≤ 10000; omega, by show (Str.ofString "").length ≤ 20000; decide +kernel, ?_⟩
  show 0 + cntI (raw (startS T)) ≤ 20000
  rw [start_raw]
  have h3 := cntI_le T.cps.toList
  rw [str_len9] at h3
  omega
theorem tx_13 {dn : Bool} : ∀ {hs : List H9}, (∀ g ∈ hs, OkH g) → 13 ∉ txC dn hs ∧ (txC dn hs).length ≤ 5 * hs.length + 1
  | [], _ => ⟨(fun h => nomatch h), Nat.zero_le _⟩
  | h :: t, hok => by
    have hh := hok h (.head _)
    have ih := tx_13 (dn := dn) (hs := t) fun g hg => hok g (.tail _ hg)
    have hs13 : ∀ c ∈ sigC, c ≠ 13 := by decide
    have hx : 13 ∉ h.x.cps.toList := fun hm => hs13 13 (hh.x 13 hm) rfl
    have hl : h.x.cps.toList.length ≤ 4 := by rw [str_len9]; exact hh.l
    rw [txC_cons]
    cases t with
    | nil =>
      cases dn with
      | true =>
        show 13 ∉ h.x.cps.toList ++ [62] ∧ (h.x.cps.toList ++ [62]).length ≤ 6
        refine ⟨fun hm => ?_, by rw [List.length_append, List.length_singleton]; omega⟩
        rcases List.mem_append.mp hm with h1 | h1
        · exact hx h1
        · exact absurd (List.mem_singleton.mp h1) (by decide)
      | false =>
        show 13 ∉ h.x.cps.toList ++ [] ∧ (h.x.cps.toList ++ []).length ≤ 6
        rw [List.append_nil]
        exact ⟨hx, by omega⟩
    | cons g t =>
      show 13 ∉ h.x.cps.toList ++ (h.e :: txC dn (g :: t)) ∧ (h.x.cps.toList ++ (h.e :: txC dn (g :: t))).length ≤ _
      refine ⟨fun hm => ?_, by rw [List.length_append, List.length_cons, List.length_cons]; have := ih.2; omega⟩
      rcases List.mem_append.mp hm with h1 | h1
      · exact hx h1
      · rcases List.mem_cons.mp h1 with h1 | h1
        · have := hh.e; omega
        · exact ih.1 h1
theorem law_names {h₀ h : Heap} {L tq hx hd sx sd tx td ra el nl lf qq : Nat} {oo0 oo1 oo2 oo3 oo4 oo5 oo6 oo7 oo8 oo9 oo10 oo11 : Obj} {r : List (Addr × Obj)} (_N : News h₀ L h ((tq, oo0) :: (hx, oo1) :: (hd, oo2) :: (sx, oo3) :: (sd, oo4) :: (tx, oo5) :: (td, oo6) :: (ra, oo7) :: (el, oo8) :: (nl, oo9) :: (lf, oo10) :: (qq, oo11) :: r)) :
    ∃ (tq' hx' hd' sx' sd' tx' td' ra' el' nl' lf' qq' : Nat), tq' = tq ∧ hx' = hx ∧ hd' = hd ∧ sx' = sx ∧ sd' = sd ∧ tx' = tx ∧ td' = td ∧ ra' = ra ∧ el' = el ∧ nl' = nl ∧ lf' = lf ∧ qq' = qq := ⟨tq, hx, hd, sx, sd, tx, td, ra, el, nl, lf, qq, rfl, rfl, rfl, rfl, rfl, rfl, rfl, rfl, rfl, rfl, rfl, rfl⟩
theorem allLt_ne {a b : Nat} {R : List (Addr × Obj)} (h : AllLt a R) (hab : a ≤ b) : ∀ p ∈ R, p.1 ≠ b := fun p hp => Nat.ne_of_lt (Nat.lt_of_lt_of_le (tb_ltOf h p hp) hab)
theorem led_mid {w : World} {h₀ h : Heap} {L rw' du dl ct tq hx hd sx lf qq sd ra nl tx el td k0 k1 k2 k3 k4 k5 k6 k7 a0 a1 a2 a3 a4 b0 b1 : Nat} {κ κ' : Nat → Nat} {oC : Obj} {T0 : PySem.Str} {r : List (Addr × Obj)}
    (N : News h₀ L h ((rw', W.listOf #[] 0) :: (du, W.listOf #[] 0) :: (dl, W.listOf #[] 0) :: (ct, oC) :: (tq, W.listOf #[] 0) :: (hx, instObj 762 hd) :: (hd, hdD8 w (tk8 k0 k1 k2 k3 k4 k5 k6 k7) sx lf tq (.ref qq) (.ref ct)) :: (sx, instObj 166 sd) :: (sd, sdD w κ ra nl tx el (Str.ofString "") 0 0 0 0 .none a0 a1 a2 a3 a4) :: (tx, instObj 73 td) :: (td, txD w κ' T0 0 b0 b1) :: (ra, methodObj (.ref 148) (.ref sx)) :: (el, W.listOf #[] 0) :: r)) :
    ∃ (κh κ κ' : Nat → Nat) (a0 a1 a2 a3 a4 b0 b1 : Nat), News h₀ L h (((hx, instObj 762 hd) :: (hd, hdD8 w κh sx lf tq (.ref qq) (.ref ct)) :: (tq, W.listOf [].toArray 0) :: (ct, oC) :: (dl, W.listOf [].toArray 0) :: (du, W.listOf [].toArray 0) :: (rw', W.listOf [].toArray 0) :: (stS w sx sd tx td ra el nl κ κ' a0 a1 a2 a3 a4 b0 b1 (startS T0) .none [] 0 ++ [])) ++ r) := by
  refine ⟨tk8 k0 k1 k2 k3 k4 k5 k6 k7, κ, κ', a0, a1, a2, a3, a4, b0, b1, nsub N ?_⟩
  intro q hq
  dsimp only [stS, stL, startS] at hq
  rw [len_nil0] at hq
  simp only [List.cons_append, List.nil_append, List.append_nil, List.mem_cons] at hq ⊢
  rcases hq with h | h | h | h | h | h | h | h | h | h | h | h | h | h <;> simp [h]
theorem nodup12 {hd hx sd sx ra nl td tx el tq ct dl du rw' : Nat} (h1 : hd < hx) (h2 : hx < sd) (h3 : sd < sx) (h4 : sx < ra) (h5 : ra < nl) (h6 : nl < td) (h7 : td < tx) (h8 : tx < el) (h9 : el < tq) (h10 : tq < ct) (h11 : ct < dl) (h12 : dl < du) (h13 : du < rw') :
    (spcL hx hd tq ct dl rw' sx sd tx td ra el).Nodup ∧ ∀ a ∈ spcL hx hd tq ct dl rw' sx sd tx td ra el, a ≠ du := by
  refine ⟨?_, ?_⟩
  · simp only [spcL, List.nodup_cons, List.mem_cons, List.not_mem_nil, or_false, not_or, not_false_eq_true, List.nodup_nil, and_true]
    refine ⟨?_, ?_, ?_, ?_, ?_, ?_, ?_, ?_, ?_, ?_, ?_⟩ <;> (and_intros <;> omega)
  · intro a ha
    simp only [spcL, List.mem_cons, List.not_mem_nil, or_false] at ha
    omega
theorem off13 {hd hx sd sx ra nl td tx el lf qq tq ct dl du rw' hp : Nat} {o1 o2 o3 o4 : Obj} {R : List (Addr × Obj)} (h1 : hd < hx) (h2 : hx < sd) (h3 : sd < sx) (h4 : sx < ra) (h5 : ra < nl) (h6 : nl < td) (h7 : td < tx) (h8 : tx < el) (h8' : el < lf) (h8'' : lf < qq) (h9 : qq < tq) (h10 : tq < ct) (h11 : ct < dl) (h12 : dl < du) (h13 : du < rw') (hhp : hp < hd) (hR : AllLt hd R) :
    ∀ a ∈ [hx, hd, tq, ct, dl, du, rw', sx, sd, tx, td, ra, el], ∀ r ∈ (nl, o1) :: (lf, o2) :: (qq, o3) :: (hp, o4) :: R, r.1 ≠ a := by
  intro a ha
  have hge : hd ≤ a ∧ a ≠ nl ∧ a ≠ lf ∧ a ≠ qq := by
    simp only [List.mem_cons, List.not_mem_nil, or_false] at ha
    omega
  obtain ⟨k1, k2, k3, k4⟩ := hge
  exact List.forall_mem_cons.mpr ⟨Ne.symm k2, List.forall_mem_cons.mpr ⟨Ne.symm k3, List.forall_mem_cons.mpr ⟨Ne.symm k4, List.forall_mem_cons.mpr ⟨Nat.ne_of_lt (Nat.lt_of_lt_of_le hhp k1), fun r hr => Nat.ne_of_lt (Nat.lt_of_lt_of_le (tb_ltOf hR r hr) k1)⟩⟩⟩⟩
section
local macro_rules | `(tactic| walk_at "call ref") => `(tactic| (k_here; k_dflt (refine' TellR.use (make_t ) ?k1 ?k2 ?k3 ?k4 ?k5 ?kK ?kp ?ko ?kd ?ku ?k0 ?_; (case k1 => k_asm); (case k2 => k_asm); (case k3 => k_asm); (case k4 => k_asm); (case k5 => k_asm); (case kK => first | exact rfl | assumption); (case kp => tb_start); (case ko => tb_rel); (case kd => k_room); (case ku => k_units); (case k0 => first | exact (show 1 ≤ _ by (try dsimp only); omega) | exact Nat.zero_le _); intro r9 f9 h9 tk9 p9 F9 N9 hP9; obtain ⟨hd9, hx9, sd9, sx9, ra9, nl9, td9, tx9, el9, lf9, qq9, κh9, κ9, κ9', a0, a1, a2, a3, a4, b0, b1, c0, e1, hord9, e2⟩ := hP9; subst e1; subst e2; dsimp only [stL, List.cons_append, List.nil_append] at N9; (try dsimp only [List.nil_append, List.cons_append] at N9); (try k_fold))))
theorem l_10 {w : World} {hs : List H9} {dn fl : Bool} {kd kt hp hep tt : Nat} {T0 : PySem.Str} {hvs : List Value} {R : List (Addr × Obj)}
    (hok : ∀ g ∈ hs, OkH g) (hn : hs.length ≤ 5) (h0 : 0 < hs.length) (hkd : kd = 3 ∨ kd = 4) (hH : HdsAt hvs R hs) (hT0 : T0.cps.toList = txC dn hs) :
    LawC w 10 [(Str.ofString "heads", .ref hp), (Str.ofString "done", .bool dn), (Str.ofString "text", .str T0 tt), (Str.ofString "kind", .int (kd : Int) kt), (Str.ofString "flag", .bool fl)] ((hp, W.listOf hvs.toArray hep) :: R) := by
  unfold LawC KF PG
  k_fill
  intro mean mg mb base h₀ L fa cd m s Q E B F hps X N T hE hret
  rw [← kstB_self hps] at F
  clear hps
  simp only [LR, recOfWalk, List.drop_succ_cons, List.drop_zero]
  (try k_fold)
  k_with_none
  repeat' (first | ((fail_if_success (with_reducible show wpAny _ _ (execs (PySem.Stmt.For _ _ _ _ _ :: _) _) _ _ _)); first | (k_unfold; (try dsimp only)) | (k_end; wrow_close) | walk1 | (dsimp only [List.cons_append, List.nil_append]; walk1) | (dsimp only) | fail "no step"))
  (rename AllLt _ _ ∧ _ => ho)
  (rename _ < _ ∧ _ => hq)
  (rename News _ _ _ _ => n8)
  obtain ⟨tq, hx, hd, sx, sd, tx, td, ra, el, nl, lf, qq, f1, f2, f3, f4, f5, f6, f7, f8, f9, f10, f11, f12⟩ := law_names n8
  subst f1 f2 f3 f4 f5 f6 f7 f8 f9 f10 f11 f12
  obtain ⟨hAll, t1, t2, t3, t4, t5, t6, t7, t8, t9, t10⟩ := ho
  obtain ⟨t0, hR⟩ := hAll
  dsimp only at t0
  obtain ⟨q1, q2, q3, q4, q5, q6, q7, q8, q9, q10, q11, q12, q13⟩ := hq
  have r1 : ∀ p ∈ R, p.1 ≠ hd := allLt_ne hR (Nat.le_refl _)
  have rr : ∀ b, hd ≤ b → ∀ p ∈ R, p.1 ≠ b := fun b hb => allLt_ne hR hb
  (try k_fold)
  repeat' (first | ((fail_if_success (with_reducible show wpAny _ _ (execs (PySem.Stmt.For _ _ _ _ _ :: _) _) _ _ _)); first | (k_unfold; (try dsimp only)) | (k_end; wrow_close) | walk1 | (dsimp only [List.cons_append, List.nil_append]; walk1) | (dsimp only) | fail "no step"))
  (rename News _ _ _ _ => n9)
  (rename Fr _ _ _ _ => f9)
  obtain ⟨rw', du, dl, ct, oC, g1, g2, g3, g4, g5⟩ := law_names4 n9
  subst g1 g2 g3 g4 g5
  (rename (_ == sysModules) = false => hsm)
  (rename du < rw' ∧ _ => z1)
  (rename dl < du ∧ _ => z2)
  (rename ct < dl ∧ _ => z3)
  (rename tq < ct ∧ _ => z4)
  obtain ⟨u1, u2, u3, u4, u5, u6, u7, u8, u9, u10, u11, u12, u13, u14, u15, u16, u17⟩ := z1
  obtain ⟨v1, v2, v3, v4, v5, v6, v7, v8, v9, v10, v11, v12, v13, v14, v15, v16⟩ := z2
  obtain ⟨w1, w2, w3, w4, w5, w6, w7, w8, w9, w10, w11, w12, w13, w14, w15⟩ := z3
  obtain ⟨x1, x2, x3, x4, x5, x6, x7, x8, x9, x10, x11, x12, x13, x14⟩ := z4
  (rename Obj.IsDictOf _ _ (strPairs (_ :: _)) => hD)
  replace hD := (show oC.IsDictOf (PySem.strKind PG w) (ctRows kd kt tagN _ dl fl) from hD)
  obtain ⟨κh, κ, κ', a0, a1, a2, a3, a4, b0, b1, n10⟩ := led_mid n9
  obtain ⟨k1, k2⟩ := nodup12 t1 t2 t3 t4 t5 t6 t7 t8 q8 x1 w1 v1 u1
  obtain ⟨h13, hl9⟩ := tx_13 (dn := dn) hok
  rw [← hT0] at h13 hl9
  rw [str_len9] at hl9
  refine' LawC.use (l_15 (hep := hep) hok hn h0 hkd ⟨hH.1, fun i g hg => ?hh⟩ ?hpm ?off ⟨hd, tq, lf, ct, dl, sx, sd, tx, td, ra, el, nl, κh, κ, κ', a0, a1, a2, a3, a4, b0, b1, startS T0, .none, [], 0, 0, 0, 0, 0, _, _, .ref qq, [], [], [], [], oC, [], [], [], [], ?rem, start_wf (by omega), BfV_none, ⟨rfl, fun _ h => nomatch h⟩, k1, k2, hsm, hD, .nil, (fun _ h => nomatch h), .nil, .nil, (fun _ h => nomatch h), .nil, (fun _ h => nomatch h), Nat.zero_le _, (fun _ _ _ h => nomatch h), rfl⟩) n10 (fun _ h => h) f9 ?ps B X T hE ?rt
  case off => exact off_in (off13 t1 t2 t3 t4 t5 t6 t7 t8 t9 t10 q11 x1 w1 v1 u1 t0 hR) rfl
  case hpm => exact .tail _ (.tail _ (.tail _ (.head _)))
  case hh =>
    obtain ⟨a, s1, s2, s3, e1, hm⟩ := hH.2 i g hg
    exact ⟨a, s1, s2, s3, e1, .tail _ (.tail _ (.tail _ (.tail _ hm)))⟩
  case rem => rw [start_rem h13, hT0]; rfl
  case ps => kst_all
  case rt => exact fun h' tk' m' hF => hret h' tk' m' hF
end
end Mine
theorem Mine.off_y4 {M : Model} {A : Around} {env : Env} {Q : Flow → Shared → Prop} {E : Value → Shared → Prop} {s : Shared} (h : wpAny M A (execs [] env) Q E s) : wpAny M A (execs [] env) Q E s := by
  (try (walk1; fail "no"))
  w_top off
  exact h
namespace Mine
local macro_rules | `(tactic| k_ne) => `(tactic| first | exact (show Nq _ _ by with_reducible assumption) | exact Ne.symm (show Nq _ _ by with_reducible assumption) | (refine neN ?_; (try dsimp only); omega))
local macro_rules | `(tactic| k_room) => `(tactic| ((try simp only [depth_under_make, depth_under_kw, depth_in1, depth_deeper, depth_caller, ktrTop, recursionLimit] at *); omega))
local macro_rules | `(tactic| k_units) => `(tactic| ((have hcL9 := cLine_is); (try simp only [units_in1, units_deeper, Around.mark_units, units_caller, ktrTop] at *); omega))
local macro_rules | `(tactic| ktr_enter) => `(tactic| (refine' code_def ?k1 ?k2 ?k3 ?k4 ?k5 ?kA ?kF ?kK ?k6 ?k7 ?k8 ?k9 ?kB ?_ ?c2 ?c3 ?c4 ?c5; (case kA => exact rfl); (case kF => exact rfl); (case kK => first | exact rfl | assumption); (case k1 => k_asm); (case k2 => k_asm); (case k3 => k_asm); (case k4 => k_asm); (case k5 => k_asm); (case k6 => k_is); (case k7 => k_is); (case k8 => k_room); (case k9 => first | exact BindsTo.of_eq rfl | exact binds_K (by k_in) rfl (by k_is) rfl rfl rfl); (case c5 => decide); (case kB => exact locs rfl); (case c2 => exact rfl); (case c3 => exact rfl); (case c4 => exact rfl); k_whole; intro g' L' h' FG' F' N' B' X' T'; (try dsimp only); (try k_fold)))
local macro_rules | `(tactic| k_all) => `(tactic| (with_reducible assumption))
local macro_rules | `(tactic| tb_lt) => `(tactic| first | exact Pick.head | (refine' Pick.tail ?c; (case c => tb_lt)))
local macro_rules | `(tactic| tb_start) => `(tactic| first | exact Picks.nil | (refine' Picks.cons ?a ?b; (case a => tb_lt); (case b => tb_start)))
local macro_rules | `(tactic| tb_rel) => `(tactic| first | exact List.forall_mem_nil _ | (refine' List.forall_mem_cons.mpr ⟨?a, ?b⟩; (case a => k_all); (case b => tb_rel)))
local macro_rules | `(tactic| walk_at "TPost") => `(tactic| (dsimp only [TPost]))
local macro_rules | `(tactic| size_fits) => `(tactic| ((simp only [PySem.sizeLine_eq, List.size_toArray]); omega))
local macro_rules | `(tactic| k_gentoks) => `(tactic| (with_reducible refine' gen_toksP ?hp ?_; (case hp => first | omega | ((try simp only [List.length_cons]); omega)); intro tk htk))
local macro_rules | `(tactic| kstt_sub) => `(tactic| first | exact fun _ h => h | assumption | (refine' subCons ?a ?b; (case a => k_mem); (case b => kstt_sub)) | (refine' subTail ?a; (case a => kstt_sub)))
local macro_rules | `(tactic| kst_all) => `(tactic| first | exact List.forall_mem_nil _ | (refine' List.forall_mem_cons.mpr ⟨?a, ?b⟩; (case a => exact rfl); (case b => kst_all)))
local macro_rules | `(tactic| walk_at "MidEnd") => `(tactic| first
  | ((with_reducible show MidEnd _ _ _ _ _ _ _ Flow.next _); (refine' ⟨(tk8 _ _ _ _ _ _ _ _, _), _, _, _, rfl, ?F, ?N, ?ps, ?P⟩); (case F => assumption); (case N => (refine' nsub ?N1 ?N2; (case N1 => assumption); (case N2 => kstt_sub))); (case ps => kst_all); (case P => k_extra "mid"))
  | ((fail_if_success (with_reducible show MidEnd _ _ _ _ _ _ _ Flow.next _)); dsimp only [MidEnd]))
local macro_rules | `(tactic| walk_at "WEnd") => `(tactic| ((fail_if_success (with_reducible show WEnd _ _ _ _ _ _ _ _ _ Flow.next _)); dsimp only [WEnd]))
local macro_rules | `(tactic| walk_at "callWith") => `(tactic| (k_here; (with_reducible refine' callWith_method1 ?_ ?he ?hp); (case he => k_dflt rfl); (case hp => k_dflt rfl)))
local macro_rules | `(tactic| k_steps) => `(tactic| repeat' (first | (k_unfold; (try dsimp only)) | (k_end; wrow_close) | walk1 | (dsimp only [List.cons_append, List.nil_append]; walk1) | (dsimp only) | fail "no step"))
section
local macro_rules | `(tactic| walk_at "subscriptTail") => `(tactic| (k_here; (with_reducible show wpAny _ _ (subscriptTail _ _ (Value.ref 48) (Value.str (PySem.Str.ofString "StartTag") _)) _ _ _); k_dflt (refine' tt_start ?F ?X ?_; (case F => assumption); (case X => assumption)); intro u))
local macro_rules | `(tactic| walk_at "subscriptTail") => `(tactic| (k_here; (with_reducible show wpAny _ _ (subscriptTail _ _ (Value.ref 48) (Value.str (PySem.Str.ofString "EndTag") _)) _ _ _); k_dflt (refine' tt_end ?F ?X ?_; (case F => assumption); (case X => assumption)); intro u))
theorem l_8 {w : World} {hs : List H9} {dn : Bool} {way : Int} {wt hp hep tt : Nat} {T0 : PySem.Str} {hvs : List Value} {R : List (Addr × Obj)}
    (hok : ∀ g ∈ hs, OkH g) (hn : hs.length ≤ 5) (h0 : 0 < hs.length) (hH : HdsAt hvs R hs) (hT0 : T0.cps.toList = txC dn hs) :
    LawC w 8 [(Str.ofString "way", .int way wt), (Str.ofString "heads", .ref hp), (Str.ofString "done", .bool dn), (Str.ofString "text", .str T0 tt)] ((hp, W.listOf hvs.toArray hep) :: R) := by
  unfold LawC KF PG
  k_fill
  intro mean mg mb base h₀ L fa cd m s Q E B F hps X N T hE hret
  rw [← kstB_self hps] at F
  clear hps
  simp only [LR, recOfWalk, List.drop_succ_cons, List.drop_zero]
  (try k_fold)
  k_with_none
  repeat' (first | ((fail_if_success (with_reducible show wpAny _ _ (execs (PySem.Stmt.Assign [PySem.Expr.Name (Str.ofString "t") _] _ _ :: _) _) _ _ _)); first | (k_unfold; (try dsimp only)) | (k_end; wrow_close) | walk1 | (dsimp only [List.cons_append, List.nil_append]; walk1) | (dsimp only) | fail "no step"))
  · (rename Fr _ _ _ _ => f9)
    (rename News _ _ _ _ => n9)
    dsimp only
    exact LawC.use (l_10 (kd := 4) (fl := ((way.fdiv 5).fmod 2 == 1)) hok hn h0 (.inr rfl) hH hT0) n9 (fun _ h => h) f9 (by kst_all) B X T hE fun h' tk' m' hF => hret h' tk' m' hF
  · (rename Fr _ _ _ _ => f9)
    (rename News _ _ _ _ => n9)
    dsimp only
    exact LawC.use (l_10 (kd := 3) (fl := ((way.fdiv 5).fmod 2 == 1)) hok hn h0 (.inl rfl) hH hT0) n9 (fun _ h => h) f9 (by kst_all) B X T hE fun h' tk' m' hF => hret h' tk' m' hF
end
theorem app_list (x y : PySem.Str) : (x ++ y : PySem.Str).cps.toList = x.cps.toList ++ y.cps.toList := by
  show (x.cps ++ y.cps).toList = _
  rw [Array.toList_append]
theorem nil_list : (Str.ofString "").cps.toList = [] := by decide +kernel
theorem gt_list : (Str.ofString ">").cps.toList = [62] := by decide +kernel
section
local macro_rules | `(tactic| walk_at "subscriptTail") => `(tactic| (k_here; (with_reducible show wpAny _ _ (subscriptTail _ _ (Value.ref _) (Value.int (-1) _)) _ _ _); k_dflt (refine' item_last_t ?N ?hm ?hv ?_; (case N => assumption); (case hm => k_mem); (case hv => assumption))))
local macro_rules | `(tactic| walk_at "subscriptTail Name UnaryOp ref int") => `(tactic| (k_here; (with_reducible show wpAny _ _ (subscriptTail _ _ (Value.ref _) (Value.int (-1) _)) _ _ _); k_dflt (refine' item_last_t ?N ?hm ?hv ?_; (case N => assumption); (case hm => k_mem); (case hv => assumption))))
theorem l_7 {w : World} {hs : List H9} {dn : Bool} {way : Int} {wt hp hep tt : Nat} {h : H9} {T1 : PySem.Str} {hvs : List Value} {R : List (Addr × Obj)}
    (hok : ∀ g ∈ hs, OkH g) (hn : hs.length ≤ 5) (h0 : 0 < hs.length) (hH : HdsAt hvs R hs) (hl : hs[hs.length - 1]? = some h) (hT1 : T1.cps.toList ++ h.x.cps.toList ++ (if dn then [62] else []) = txC dn hs) (hTl : T1.length ≤ 30) :
    LawC w 7 [(Str.ofString "way", .int way wt), (Str.ofString "heads", .ref hp), (Str.ofString "done", .bool dn), (Str.ofString "text", .str T1 tt)] ((hp, W.listOf hvs.toArray hep) :: R) := by
  obtain ⟨a, t1, t2, t3, e1, hm⟩ := hH.2 _ _ hl
  have hb : hvs.toArray.back? = some (.ref a) := by
    rw [← hH.1] at e1
    show hvs.toArray[hvs.toArray.size - 1]? = _
    rw [List.size_toArray]
    simpa using e1
  have hxl := (hok h (List.mem_of_getElem? hl)).l
  refine LawC.sub (led := (a, hdObj h t1 t2 t3) :: (hp, W.listOf hvs.toArray hep) :: R) ?_ (fun _ h => h) (List.forall_mem_cons.mpr ⟨.tail _ hm, fun _ h => h⟩)
  unfold LawC KF PG
  k_fill
  intro mean mg mb base h₀ L fa cd m s Q E B F hps X N T hE hret
  rw [← kstB_self hps] at F
  clear hps
  simp only [LR, recOfWalk, List.drop_succ_cons, List.drop_zero]
  (try k_fold)
  k_with_none
  cases dn
  all_goals
    repeat' (first | ((fail_if_success (with_reducible show wpAny _ _ (execs (PySem.Stmt.Assign [PySem.Expr.Name (Str.ofString "kind") _] _ _ :: _) _) _ _ _)); first | (k_unfold; (try dsimp only)) | (k_end; wrow_close) | walk1 | (dsimp only [List.cons_append, List.nil_append]; walk1) | (dsimp only) | fail "no step"))
  all_goals
    (rename Fr _ _ _ _ => f9)
    (rename News _ _ _ _ => n9)
    dsimp only
    refine' LawC.use (l_8 (way := way) hok hn h0 hH ?tx) n9 (fun _ h => .tail _ h) f9 ?ps B X T hE ?rt
    case ps => kst_all
    case rt => exact fun h' tk' m' hF => hret h' tk' m' hF
    case tx =>
      rw [← hT1, app_list, app_list, List.append_assoc]
      first | rw [nil_list]; rfl | rw [gt_list]; rfl
end
end Mine
theorem Mine.off_y5 {M : Model} {A : Around} {env : Env} {Q : Flow → Shared → Prop} {E : Value → Shared → Prop} {s : Shared} (h : wpAny M A (execs [] env) Q E s) : wpAny M A (execs [] env) Q E s := by
  (try (walk1; fail "no"))
  w_top off
  exact h
namespace Mine
local macro_rules | `(tactic| k_ne) => `(tactic| first | exact (show Nq _ _ by with_reducible assumption) | exact Ne.symm (show Nq _ _ by with_reducible assumption) | (refine neN ?_; (try dsimp only); omega))
local macro_rules | `(tactic| k_room) => `(tactic| ((try simp only [depth_under_make, depth_under_kw, depth_in1, depth_deeper, depth_caller, ktrTop, recursionLimit] at *); omega))
local macro_rules | `(tactic| k_units) => `(tactic| ((have hcL9 := cLine_is); (try simp only [units_in1, units_deeper, Around.mark_units, units_caller, ktrTop] at *); omega))
local macro_rules | `(tactic| ktr_enter) => `(tactic| (refine' code_def ?k1 ?k2 ?k3 ?k4 ?k5 ?kA ?kF ?kK ?k6 ?k7 ?k8 ?k9 ?kB ?_ ?c2 ?c3 ?c4 ?c5; (case kA => exact rfl); (case kF => exact rfl); (case kK => first | exact rfl | assumption); (case k1 => k_asm); (case k2 => k_asm); (case k3 => k_asm); (case k4 => k_asm); (case k5 => k_asm); (case k6 => k_is); (case k7 => k_is); (case k8 => k_room); (case k9 => first | exact BindsTo.of_eq rfl | exact binds_K (by k_in) rfl (by k_is) rfl rfl rfl); (case c5 => decide); (case kB => exact locs rfl); (case c2 => exact rfl); (case c3 => exact rfl); (case c4 => exact rfl); k_whole; intro g' L' h' FG' F' N' B' X' T'; (try dsimp only); (try k_fold)))
local macro_rules | `(tactic| k_all) => `(tactic| (with_reducible assumption))
local macro_rules | `(tactic| tb_lt) => `(tactic| first | exact Pick.head | (refine' Pick.tail ?c; (case c => tb_lt)))
local macro_rules | `(tactic| tb_start) => `(tactic| first | exact Picks.nil | (refine' Picks.cons ?a ?b; (case a => tb_lt); (case b => tb_start)))
local macro_rules | `(tactic| tb_rel) => `(tactic| first | exact List.forall_mem_nil _ | (refine' List.forall_mem_cons.mpr ⟨?a, ?b⟩; (case a => k_all); (case b => tb_rel)))
local macro_rules | `(tactic| walk_at "TPost") => `(tactic| (dsimp only [TPost]))
local macro_rules | `(tactic| size_fits) => `(tactic| ((simp only [PySem.sizeLine_eq, List.size_toArray]); omega))
local macro_rules | `(tactic| k_gentoks) => `(tactic| (with_reducible refine' gen_toksP ?hp ?_; (case hp => first | omega | ((try simp only [List.length_cons]); omega)); intro tk htk))
local macro_rules | `(tactic| kstt_sub) => `(tactic| first | exact fun _ h => h | assumption | (refine' subCons ?a ?b; (case a => k_mem); (case b => kstt_sub)) | (refine' subTail ?a; (case a => kstt_sub)))
local macro_rules | `(tactic| kst_all) => `(tactic| first | exact List.forall_mem_nil _ | (refine' List.forall_mem_cons.mpr ⟨?a, ?b⟩; (case a => exact rfl); (case b => kst_all)))
local macro_rules | `(tactic| walk_at "MidEnd") => `(tactic| first
  | ((with_reducible show MidEnd _ _ _ _ _ _ _ Flow.next _); (refine' ⟨(tk8 _ _ _ _ _ _ _ _, _), _, _, _, rfl, ?F, ?N, ?ps, ?P⟩); (case F => assumption); (case N => (refine' nsub ?N1 ?N2; (case N1 => assumption); (case N2 => kstt_sub))); (case ps => kst_all); (case P => k_extra "mid"))
  | ((fail_if_success (with_reducible show MidEnd _ _ _ _ _ _ _ Flow.next _)); dsimp only [MidEnd]))
local macro_rules | `(tactic| walk_at "WEnd") => `(tactic| ((fail_if_success (with_reducible show WEnd _ _ _ _ _ _ _ _ _ Flow.next _)); dsimp only [WEnd]))
local macro_rules | `(tactic| walk_at "callWith") => `(tactic| (k_here; (with_reducible refine' callWith_method1 ?_ ?he ?hp); (case he => k_dflt rfl); (case hp => k_dflt rfl)))
local macro_rules | `(tactic| k_steps) => `(tactic| repeat' (first | (k_unfold; (try dsimp only)) | (k_end; wrow_close) | walk1 | (dsimp only [List.cons_append, List.nil_append]; walk1) | (dsimp only) | fail "no step"))
theorem slice_g {prog : Program} {w : World} {A : Around} {E : Value → Shared → Prop} {h1 : Heap} {gg : Array GenState} {dd : Drawn} {tk : Nat} {oo : OsState} {h₀ : Heap} {L : Addr} {m : PySem.Str → Option Value} {news : List (Addr × Obj)} {value slice : PySem.Expr} {l : Addr} {us zs : List Value} {n : Nat} {vl vu : Value} {lo hi : Option Int} {Q : Value → Shared → Prop}
    (F : Fr h₀ L h1 m) (N : News h₀ L h1 news) (hm : (l, W.listOf us.toArray n) ∈ news) (pl : IsPart vl lo) (pu : IsPart vu hi) (e : kms_pick us lo hi = zs) (hz : us.length ≤ 1001)
    (h : ∀ (D : Nat) h', Fr h₀ L h' m → News h₀ L h' ((D, W.listOf zs.toArray 0) :: news) → (∀ p ∈ news, p.1 < D) → Q (.ref D) ⟨h', gg, dd, tk, oo⟩)
    (hs : subscripted slice false (.ref l) (.ref h1.objs.size) = operate [.ref h1.objs.size, .ref l] (getItem (.ref l) (.ref h1.objs.size)))
    (ht : ∀ r, letTemporaryGo value (.ref l) r = pure ()) :
    wpAny (model prog w) A (subscriptTail value slice (.ref l) (.ref h1.objs.size)) Q E ⟨h1.push { cls := .type "slice", data := .fields #[vl, vu, .none] }, gg, dd, tk, oo⟩ :=
  kms_slice_lit (s := ⟨h1, gg, dd, tk, oo⟩) (its := us.toArray) F N ⟨_, (N _ hm).1, rfl, _, rfl⟩ pl pu e h hs ht (by rw [List.size_toArray, PySem.sizeLine_eq]; omega)
theorem pick_init (us : List Value) : kms_pick us none (some (-1)) = us.take (us.length - 1) := rfl
def txI (hs : List H9) : List Nat := hs.flatMap fun h => h.x.cps.toList ++ [h.e]
theorem txI_snoc (hs : List H9) (h : H9) : txI (hs ++ [h]) = txI hs ++ (h.x.cps.toList ++ [h.e]) := by simp [txI]
theorem tx_last {dn : Bool} : ∀ (hs : List H9) (h : H9), txC dn (hs ++ [h]) = txI hs ++ h.x.cps.toList ++ (if dn then [62] else [])
  | [], h => rfl
  | g :: t, h => by
    have ih := tx_last (dn := dn) t h
    have e : txI (g :: t) = (g.x.cps.toList ++ [g.e]) ++ txI t := rfl
    rw [List.cons_append, txC_cons, e]
    cases t with
    | nil =>
      show g.x.cps.toList ++ (g.e :: txC dn ([] ++ [h])) = _
      rw [ih]; simp
    | cons k u =>
      show g.x.cps.toList ++ (g.e :: txC dn (k :: u ++ [h])) = _
      rw [ih]; simp
section
local macro_rules | `(tactic| walk_at "subscriptTail Name Slice ref ref") => `(tactic| (k_here; (try dsimp only); (with_reducible show wpAny _ _ (subscriptTail _ _ (Value.ref _) (Value.ref _)) _ _ _); k_dflt (refine' slice_g ?F ?N ?hm ?pl ?pu ?e ?hz ?_ ?hs ?ht; (case F => assumption); (case N => assumption); (case hm => k_mem); (case pl => constructor); (case pu => constructor); (case e => exact pick_init _); (case hz => omega); (case hs => with_unfolding_all rfl); (case ht => (intro _; with_unfolding_all rfl))); intro D' h' F' N' l1))
theorem l_6 {w : World} {hs : List H9} {dn : Bool} {way : Int} {wt hp hep tt : Nat} {hvs : List Value} {R : List (Addr × Obj)}
    (hok : ∀ g ∈ hs, OkH g) (hn : hs.length ≤ 5) (h0 : 0 < hs.length) (hH : HdsAt hvs R hs) :
    LawC w 6 [(Str.ofString "way", .int way wt), (Str.ofString "heads", .ref hp), (Str.ofString "done", .bool dn), (Str.ofString "text", .str (Str.ofString "") tt)] ((hp, W.listOf hvs.toArray hep) :: R) := by
  unfold LawC KF PG
  k_fill
  intro mean mg mb base h₀ L fa cd m s Q E B F hps X N T hE hret
  have hps0 := hps
  rw [← kstB_self hps] at F
  clear hps
  simp only [LR, recOfWalk, List.drop_succ_cons, List.drop_zero]
  have hvl := hH.1
  (try k_fold)
  k_with_none
  repeat' (first | ((fail_if_success (with_reducible show wpAny _ _ (exec (PySem.Stmt.For _ _ _ _ _) _) _ _ _)); first | (k_unfold; (try dsimp only)) | (k_end; wrow_close) | walk1 | (dsimp only [List.cons_append, List.nil_append]; walk1) | (dsimp only) | fail "no step"))
  (rename Fr _ _ _ _ => f8)
  refine' For_turns f8 ?_ ?hs ?hE
  case hs => (intro _; rfl)
  case hE => first | assumption | passes_own | with_unfolding_all passes_own
  repeat' (first | ((fail_if_success (with_reducible show wpAny _ _ (pyIter _) _ _ _)); first | (k_unfold; (try dsimp only)) | (k_end; wrow_close) | walk1 | (dsimp only [List.cons_append, List.nil_append]; walk1) | (dsimp only) | fail "no step"))
  (rename Fr _ _ _ _ => f9)
  (rename News _ _ _ _ => n9)
  obtain ⟨D9, e1⟩ := News.addr n9
  subst e1
  have hql : Heap.IsList _ D9 (hvs.take (hvs.length - 1)).toArray := ⟨_, (n9 _ (.head _)).1, rfl, _, rfl⟩
  refine' turns_list (vs := hvs.take (hvs.length - 1)) (fun _ : PySem.Str × Nat => []) ((D9, W.listOf (hvs.take (hvs.length - 1)).toArray 0) :: (hp, W.listOf hvs.toArray hep) :: R) (fun c => [(Str.ofString "way", .int way wt), (Str.ofString "heads", .ref hp), (Str.ofString "done", .bool dn), (Str.ofString "text", .str c.1 c.2)]) [Str.ofString "first", Str.ofString "rest", Str.ofString "end"]
    (fun pre c => c.1.cps.toList = txI (hs.take pre.length) ∧ c.1.length ≤ 5 * pre.length) (Str.ofString "", tt) rfl hql (.inl ⟨_, .head _⟩) f9 n9 (fun q hq => nomatch hq) ?hk ?hp ?turn ?done
  case hk => kst_all
  case hp => exact ⟨nil_list, Nat.zero_le _⟩
  case turn =>
    rintro ⟨tx, tk0⟩ pre post v u h' tk' rest' hpre ⟨hP1, hP2⟩ off' sub' F' N'
    dsimp only [List.nil_append] at F' N' hP1 hP2
    have hlt : pre.length < hvs.length - 1 := by
      have h9 := congrArg List.length hpre
      rw [List.length_take, List.length_append, List.length_cons] at h9
      omega
    have hv : hvs[pre.length]? = some v := by
      have h9 : (hvs.take (hvs.length - 1))[pre.length]? = some v := by rw [hpre]; simp
      rw [List.getElem?_take_of_lt hlt] at h9
      exact h9
    obtain ⟨g, hg⟩ : ∃ g, hs[pre.length]? = some g := ⟨_, List.getElem?_eq_getElem (by omega)⟩
    obtain ⟨a, t1, t2, t3, e1, hm⟩ := hH.2 _ g hg
    obtain rfl : v = .ref a := Option.some.inj (hv.symm.trans e1)
    have hxl := (hok g (List.mem_of_getElem? hg)).l
    have hel : (⟨#[g.e]⟩ : PySem.Str).length = 1 := rfl
    have N2 := ncons (p := (a, hdObj g t1 t2 t3)) N' (sub' _ (.tail _ (.tail _ hm)))
    have hpl : pre.length ≤ 5 := by omega
    clear N' f9 hql n9
    (try k_fold)
    k_with_none
    repeat' (first | ((fail_if_success (with_reducible show TEnd _ _ _ _ _ _ _)); first | (k_unfold; (try dsimp only)) | (k_end; wrow_close) | walk1 | (dsimp only [List.cons_append, List.nil_append]; walk1) | (dsimp only) | fail "no step"))
    (rename Fr _ _ _ _ => f8')
    (rename News _ _ _ _ => n8')
    (rename tx.length + _ ≤ _ ∧ _ => hl2)
    (rename g.x.length + _ ≤ _ ∧ _ => hl1)
    refine' ⟨(tx ++ (g.x ++ ⟨#[g.e]⟩), _), _, _, _, rfl, f8', ?N1, (fun q hq => nomatch hq), (by kst_all), (fun z h2 h3 => by simp only [List.forall_mem_cons] at h2; simp only [List.contains_eq_mem, decide_eq_false_iff_not, List.mem_cons, not_or] at h3; simp [h2, h3, kstB]), ?P1⟩
    case N1 => exact nsub n8' fun q hq => .tail _ hq
    case P1 =>
      rw [List.length_append, List.length_singleton]
      refine ⟨?_, ?_⟩
      · show (tx ++ (g.x ++ ⟨#[g.e]⟩) : PySem.Str).cps.toList = _
        rw [app_list, app_list, List.take_succ, hg, hP1]
        exact (txI_snoc _ g).symm
      · show (tx ++ (g.x ++ ⟨#[g.e]⟩) : PySem.Str).length ≤ _
        omega
  case done =>
    rintro ⟨tx, tk0⟩ u h' tk' ⟨hP1, hP2⟩ off' F' N'
    dsimp only [List.nil_append] at F' N' hP1 hP2
    dsimp only
    rw [List.length_take] at hP1 hP2
    have hmin : min (hvs.length - 1) hvs.length = hs.length - 1 := by omega
    rw [hmin] at hP1 hP2
    obtain ⟨g, hg⟩ : ∃ g, hs[hs.length - 1]? = some g := ⟨_, List.getElem?_eq_getElem (by omega)⟩
    have hsplit : hs = hs.take (hs.length - 1) ++ [g] := by
      have h1 : hs.take (hs.length - 1 + 1) = hs.take (hs.length - 1) ++ [g] := by rw [List.take_succ, hg]; rfl
      rw [show hs.length - 1 + 1 = hs.length from by omega, List.take_length] at h1
      exact h1
    refine' LawC.use (l_7 (way := way) (dn := dn) (T1 := tx) hok hn h0 hH hg ?tx9 (by omega)) N' (fun _ h => .tail _ h) F' ?ps B X T hE ?rt
    case tx9 =>
      rw [hP1]
      conv => rhs; rw [hsplit]
      rw [tx_last]
    case ps => kst_all
    case rt => exact fun h' tk' m' hF => hret h' tk' m' hF
end
end Mine
theorem Mine.off_y6 {M : Model} {A : Around} {env : Env} {Q : Flow → Shared → Prop} {E : Value → Shared → Prop} {s : Shared} (h : wpAny M A (execs [] env) Q E s) : wpAny M A (execs [] env) Q E s := by
  (try (walk1; fail "no"))
  w_top off
  exact h
namespace Mine
local macro_rules | `(tactic| k_ne) => `(tactic| first | exact (show Nq _ _ by with_reducible assumption) | exact Ne.symm (show Nq _ _ by with_reducible assumption) | (refine neN ?_; (try dsimp only); omega))
local macro_rules | `(tactic| k_room) => `(tactic| ((try simp only [depth_under_make, depth_under_kw, depth_in1, depth_deeper, depth_caller, ktrTop, recursionLimit] at *); omega))
local macro_rules | `(tactic| k_units) => `(tactic| ((have hcL9 := cLine_is); (try simp only [units_in1, units_deeper, Around.mark_units, units_caller, ktrTop] at *); omega))
local macro_rules | `(tactic| ktr_enter) => `(tactic| (refine' code_def ?k1 ?k2 ?k3 ?k4 ?k5 ?kA ?kF ?kK ?k6 ?k7 ?k8 ?k9 ?kB ?_ ?c2 ?c3 ?c4 ?c5; (case kA => exact rfl); (case kF => exact rfl); (case kK => first | exact rfl | assumption); (case k1 => k_asm); (case k2 => k_asm); (case k3 => k_asm); (case k4 => k_asm); (case k5 => k_asm); (case k6 => k_is); (case k7 => k_is); (case k8 => k_room); (case k9 => first | exact BindsTo.of_eq rfl | exact binds_K (by k_in) rfl (by k_is) rfl rfl rfl); (case c5 => decide); (case kB => exact locs rfl); (case c2 => exact rfl); (case c3 => exact rfl); (case c4 => exact rfl); k_whole; intro g' L' h' FG' F' N' B' X' T'; (try dsimp only); (try k_fold)))
local macro_rules | `(tactic| k_all) => `(tactic| (with_reducible assumption))
local macro_rules | `(tactic| tb_lt) => `(tactic| first | exact Pick.head | (refine' Pick.tail ?c; (case c => tb_lt)))
local macro_rules | `(tactic| tb_start) => `(tactic| first | exact Picks.nil | (refine' Picks.cons ?a ?b; (case a => tb_lt); (case b => tb_start)))
local macro_rules | `(tactic| tb_rel) => `(tactic| first | exact List.forall_mem_nil _ | (refine' List.forall_mem_cons.mpr ⟨?a, ?b⟩; (case a => k_all); (case b => tb_rel)))
local macro_rules | `(tactic| walk_at "TPost") => `(tactic| (dsimp only [TPost]))
local macro_rules | `(tactic| size_fits) => `(tactic| ((simp only [PySem.sizeLine_eq, List.size_toArray]); omega))
local macro_rules | `(tactic| k_gentoks) => `(tactic| (with_reducible refine' gen_toksP ?hp ?_; (case hp => first | omega | ((try simp only [List.length_cons]); omega)); intro tk htk))
local macro_rules | `(tactic| kstt_sub) => `(tactic| first | exact fun _ h => h | assumption | (refine' subCons ?a ?b; (case a => k_mem); (case b => kstt_sub)) | (refine' subTail ?a; (case a => kstt_sub)))
local macro_rules | `(tactic| kst_all) => `(tactic| first | exact List.forall_mem_nil _ | (refine' List.forall_mem_cons.mpr ⟨?a, ?b⟩; (case a => exact rfl); (case b => kst_all)))
local macro_rules | `(tactic| walk_at "MidEnd") => `(tactic| first
  | ((with_reducible show MidEnd _ _ _ _ _ _ _ Flow.next _); (refine' ⟨(tk8 _ _ _ _ _ _ _ _, _), _, _, _, rfl, ?F, ?N, ?ps, ?P⟩); (case F => assumption); (case N => (refine' nsub ?N1 ?N2; (case N1 => assumption); (case N2 => kstt_sub))); (case ps => kst_all); (case P => k_extra "mid"))
  | ((fail_if_success (with_reducible show MidEnd _ _ _ _ _ _ _ Flow.next _)); dsimp only [MidEnd]))
local macro_rules | `(tactic| walk_at "WEnd") => `(tactic| ((fail_if_success (with_reducible show WEnd _ _ _ _ _ _ _ _ _ Flow.next _)); dsimp only [WEnd]))
local macro_rules | `(tactic| walk_at "callWith") => `(tactic| (k_here; (with_reducible refine' callWith_method1 ?_ ?he ?hp); (case he => k_dflt rfl); (case hp => k_dflt rfl)))
local macro_rules | `(tactic| k_steps) => `(tactic| repeat' (first | (k_unfold; (try dsimp only)) | (k_end; wrow_close) | walk1 | (dsimp only [List.cons_append, List.nil_append]; walk1) | (dsimp only) | fail "no step"))
theorem one_head {h₀ h : Heap} {L l D hp hep t1 t2 t3 : Nat} {R : List (Addr × Obj)} (N : News h₀ L h ((l, W.listOf #[Value.ref D] 0) :: (D, { cls := Value.type "tuple", data := Data.seq #[Value.str ⟨#[97]⟩ t1, Value.str (Str.ofString "") t2, Value.str ⟨#[61]⟩ t3] 0 }) :: (hp, W.listOf #[] hep) :: R)) :
    ∃ l' D' t1' t2' t3' : Nat, News h₀ L h ((l', W.listOf [Value.ref D'].toArray 0) :: (D', hdObj ⟨97, Str.ofString "", 61⟩ t1' t2' t3') :: R) ∧ l' = l :=
  ⟨l, D, t1, t2, t3, nsub N (subCons (.head _) (subCons (.tail _ (.head _)) fun _ h => .tail _ (.tail _ (.tail _ h)))), rfl⟩
section
theorem l_4 {w : World} {hs : List H9} {way : Int} {wt hp hep : Nat} {hvs : List Value} {R : List (Addr × Obj)}
    (hok : ∀ g ∈ hs, OkH g) (hn : hs.length ≤ 5) (h0 : 0 < hs.length) (hH : HdsAt hvs R hs) :
    LawC w 4 [(Str.ofString "way", .int way wt), (Str.ofString "heads", .ref hp)] ((hp, W.listOf hvs.toArray hep) :: R) := by
  unfold LawC KF PG
  k_fill
  intro mean mg mb base h₀ L fa cd m s Q E B F hps X N T hE hret
  rw [← kstB_self hps] at F
  clear hps
  simp only [LR, recOfWalk, List.drop_succ_cons, List.drop_zero]
  (try k_fold)
  k_with_none
  repeat' (first | ((fail_if_success (with_reducible show wpAny _ _ (execs (PySem.Stmt.For _ _ _ _ _ :: _) _) _ _ _)); first | (k_unfold; (try dsimp only)) | (k_end; wrow_close) | walk1 | (dsimp only [List.cons_append, List.nil_append]; walk1) | (dsimp only) | fail "no step"))
  (rename Fr _ _ _ _ => f9)
  (rename News _ _ _ _ => n9)
  exact LawC.use (l_6 (way := way) (dn := decide (0 < way.fmod 5)) hok hn h0 hH) n9 (fun _ h => h) f9 (by kst_all) B X T hE fun h' tk' m' hF => hret h' tk' m' hF
theorem l_3a {w : World} {way : Int} {wt hp hep : Nat} {R : List (Addr × Obj)} :
    LawC w 3 [(Str.ofString "way", .int way wt), (Str.ofString "heads", .ref hp)] ((hp, W.listOf #[] hep) :: R) := by
  unfold LawC KF PG
  k_fill
  intro mean mg mb base h₀ L fa cd m s Q E B F hps X N T hE hret
  rw [← kstB_self hps] at F
  clear hps
  simp only [LR, recOfWalk, List.drop_succ_cons, List.drop_zero]
  (try k_fold)
  k_with_none
  repeat' (first | ((fail_if_success (with_reducible show wpAny _ _ (execs (PySem.Stmt.Assign [PySem.Expr.Name (Str.ofString "done") _] _ _ :: _) _) _ _ _)); first | (k_unfold; (try dsimp only)) | (k_end; wrow_close) | walk1 | (dsimp only [List.cons_append, List.nil_append]; walk1) | (dsimp only) | fail "no step"))
  (rename Fr _ _ _ _ => f9)
  (rename News _ _ _ _ => n9)
  (try dsimp only)
  have ea : Str.ofString "a" = ⟨#[97]⟩ := by decide +kernel
  rw [ea, eq_is] at n9
  have hone : OkH ⟨97, Str.ofString "", 61⟩ := ⟨by decide, (by rw [nil_list]; exact fun c hc => nomatch hc), by decide +kernel, .inl rfl⟩
  obtain ⟨l9, D9, t1, t2, t3, n8, e1⟩ := one_head n9
  subst e1
  exact LawC.use (l_4 (way := way) (hs := [⟨97, Str.ofString "", 61⟩]) (hvs := [.ref D9]) (hep := 0) (R := (D9, hdObj ⟨97, Str.ofString "", 61⟩ t1 t2 t3) :: R) (fun g hg => by rw [List.mem_singleton.mp hg]; exact hone) (by decide) (by decide) ⟨rfl, fun i h e => by
    cases i with
    | zero => obtain rfl : _ = h := Option.some.inj e; exact ⟨D9, t1, t2, t3, rfl, .head _⟩
    | succ i => simp at e⟩) n8 (fun _ h => h) f9 (by kst_all) B X T hE fun h' tk' m' hF => hret h' tk' m' hF
theorem l_3b {w : World} {hs : List H9} {way : Int} {wt hp hep : Nat} {v : Value} {hvs : List Value} {R : List (Addr × Obj)}
    (hok : ∀ g ∈ hs, OkH g) (hn : hs.length ≤ 5) (h0 : 0 < hs.length) (hH : HdsAt (v :: hvs) R hs) :
    LawC w 3 [(Str.ofString "way", .int way wt), (Str.ofString "heads", .ref hp)] ((hp, W.listOf (v :: hvs).toArray hep) :: R) := by
  have hvl := hH.1
  rw [List.length_cons] at hvl
  unfold LawC KF PG
  k_fill
  intro mean mg mb base h₀ L fa cd m s Q E B F hps X N T hE hret
  rw [← kstB_self hps] at F
  clear hps
  simp only [LR, recOfWalk, List.drop_succ_cons, List.drop_zero]
  (try k_fold)
  k_with_none
  repeat' (first | ((fail_if_success (with_reducible show wpAny _ _ (execs (PySem.Stmt.Assign [PySem.Expr.Name (Str.ofString "done") _] _ _ :: _) _) _ _ _)); first | (k_unfold; (try dsimp only)) | (k_end; wrow_close) | walk1 | (dsimp only [List.cons_append, List.nil_append]; walk1) | (dsimp only) | fail "no step"))
  (rename Fr _ _ _ _ => f9)
  (rename News _ _ _ _ => n9)
  (try dsimp only)
  exact LawC.use (l_4 (way := way) hok hn h0 hH) n9 (fun _ h => h) f9 (by kst_all) B X T hE fun h' tk' m' hF => hret h' tk' m' hF
end
end Mine
theorem Mine.off_z1 {M : Model} {A : Around} {env : Env} {Q : Flow → Shared → Prop} {E : Value → Shared → Prop} {s : Shared} (h : wpAny M A (execs [] env) Q E s) : wpAny M A (execs [] env) Q E s := by
  (try (walk1; fail "no"))
  w_top off
  exact h
namespace Mine
local macro_rules | `(tactic| k_ne) => `(tactic| first | exact (show Nq _ _ by with_reducible assumption) | exact Ne.symm (show Nq _ _ by with_reducible assumption) | (refine neN ?_; (try dsimp only); omega))
local macro_rules | `(tactic| k_room) => `(tactic| ((try simp only [depth_under_make, depth_under_kw, depth_in1, depth_deeper, depth_caller, ktrTop, recursionLimit] at *); omega))
local macro_rules | `(tactic| k_units) => `(tactic| ((have hcL9 := cLine_is); (try simp only [units_in1, units_deeper, Around.mark_units, units_caller, ktrTop] at *); omega))
local macro_rules | `(tactic| ktr_enter) => `(tactic| (refine' code_def ?k1 ?k2 ?k3 ?k4 ?k5 ?kA ?kF ?kK ?k6 ?k7 ?k8 ?k9 ?kB ?_ ?c2 ?c3 ?c4 ?c5; (case kA => exact rfl); (case kF => exact rfl); (case kK => first | exact rfl | assumption); (case k1 => k_asm); (case k2 => k_asm); (case k3 => k_asm); (case k4 => k_asm); (case k5 => k_asm); (case k6 => k_is); (case k7 => k_is); (case k8 => k_room); (case k9 => first | exact BindsTo.of_eq rfl | exact binds_K (by k_in) rfl (by k_is) rfl rfl rfl); (case c5 => decide); (case kB => exact locs rfl); (case c2 => exact rfl); (case c3 => exact rfl); (case c4 => exact rfl); k_whole; intro g' L' h' FG' F' N' B' X' T'; (try dsimp only); (try k_fold)))
local macro_rules | `(tactic| k_all) => `(tactic| (with_reducible assumption))
local macro_rules | `(tactic| tb_lt) => `(tactic| first | exact Pick.head | (refine' Pick.tail ?c; (case c => tb_lt)))
local macro_rules | `(tactic| tb_start) => `(tactic| first | exact Picks.nil | (refine' Picks.cons ?a ?b; (case a => tb_lt); (case b => tb_start)))
local macro_rules | `(tactic| tb_rel) => `(tactic| first | exact List.forall_mem_nil _ | (refine' List.forall_mem_cons.mpr ⟨?a, ?b⟩; (case a => k_all); (case b => tb_rel)))
local macro_rules | `(tactic| walk_at "TPost") => `(tactic| (dsimp only [TPost]))
local macro_rules | `(tactic| size_fits) => `(tactic| ((simp only [PySem.sizeLine_eq, List.size_toArray]); omega))
local macro_rules | `(tactic| k_gentoks) => `(tactic| (with_reducible refine' gen_toksP ?hp ?_; (case hp => first | omega | ((try simp only [List.length_cons]); omega)); intro tk htk))
local macro_rules | `(tactic| kstt_sub) => `(tactic| first | exact fun _ h => h | assumption | (refine' subCons ?a ?b; (case a => k_mem); (case b => kstt_sub)) | (refine' subTail ?a; (case a => kstt_sub)))
local macro_rules | `(tactic| kst_all) => `(tactic| first | exact List.forall_mem_nil _ | (refine' List.forall_mem_cons.mpr ⟨?a, ?b⟩; (case a => exact rfl); (case b => kst_all)))
local macro_rules | `(tactic| walk_at "MidEnd") => `(tactic| first
  | ((with_reducible show MidEnd _ _ _ _ _ _ _ Flow.next _); (refine' ⟨(tk8 _ _ _ _ _ _ _ _, _), _, _, _, rfl, ?F, ?N, ?ps, ?P⟩); (case F => assumption); (case N => (refine' nsub ?N1 ?N2; (case N1 => assumption); (case N2 => kstt_sub))); (case ps => kst_all); (case P => k_extra "mid"))
  | ((fail_if_success (with_reducible show MidEnd _ _ _ _ _ _ _ Flow.next _)); dsimp only [MidEnd]))
local macro_rules | `(tactic| walk_at "WEnd") => `(tactic| ((fail_if_success (with_reducible show WEnd _ _ _ _ _ _ _ _ _ Flow.next _)); dsimp only [WEnd]))
local macro_rules | `(tactic| walk_at "callWith") => `(tactic| (k_here; (with_reducible refine' callWith_method1 ?_ ?he ?hp); (case he => k_dflt rfl); (case hp => k_dflt rfl)))
local macro_rules | `(tactic| k_steps) => `(tactic| repeat' (first | (k_unfold; (try dsimp only)) | (k_end; wrow_close) | walk1 | (dsimp only [List.cons_append, List.nil_append]; walk1) | (dsimp only) | fail "no step"))
section
variable {prog : Program} {w : World} {A : Around} {E : Value → Shared → Prop} {s : Shared} {h₀ : Heap} {L : Addr} {m : PySem.Str → Option Value} {env : Env}
theorem rest_vals {elt : PySem.Expr} {x : PySem.Str} {scope : Scope} {cl : List (PySem.Str × Addr)} {S : List (Addr × Obj) → Prop} {P : Nat → Value → Prop} {Fin : List Value → List (Addr × Obj) → Prop} {news : List (Addr × Obj)} {n : Nat} (Pv : Value → Prop)
    (turn : ∀ (i : Nat) v I oI C oC D m₂ ys h tk (E' : Value → Shared → Prop), i < n → P i v → LCg.NsObj oC m₂ → m₂ x = some v → Fr h₀ L h m → News h₀ L h ((I, oI) :: (C, oC) :: (D, LCg.lst ys) :: news) → LCg.Off3 I C D news → ((@Ne Nat I C) ∧ (@Ne Nat I D) ∧ (@Ne Nat C D)) →
      wpAny (model prog w) A (eval elt (compEnvC scope cl C env)) (LCg.CompEnd h₀ L m { s with heap := h, toks := tk } I oI C oC D (LCg.lst ys) S (fun y nw' => Pv y ∧ nw' = news)) E' { s with heap := h, toks := tk })
    (fin : ∀ ys, ys.length = n → (∀ y ∈ ys, Pv y) → Fin ys news) : LCg.CompRest prog w A h₀ L m env elt x scope cl s S P Fin n 0 [] news := by
  have key : ∀ (j i : Nat) (ys : List Value), i + j = n → ys.length = i → (∀ y ∈ ys, Pv y) → LCg.CompRest prog w A h₀ L m env elt x scope cl s S P Fin j i ys news := by
    intro j
    induction j with
    | zero =>
      intro i ys hi hl hy
      exact LCg.CompRest.zero (fin ys (by omega) hy)
    | succ j ih =>
      intro i ys hi hl hy
      refine LCg.CompRest.succ ?_
      intro v I oI C oC D m₂ h tk E' hv hC hx F N off ne
      refine wpAny_mono (turn i v I oI C oC D m₂ ys h tk E' (by omega) hv hC hx F N off ne) (fun y s₂ hz => ?_) fun _ _ e => e
      obtain ⟨h', tk', nw, e, F', N', off', hS', hp, rfl⟩ := hz
      refine ⟨h', tk', _, e, F', N', off', hS', ih (i + 1) _ (by omega) (by rw [List.length_append, List.length_singleton, hl]) fun z hz => ?_⟩
      rcases List.mem_append.mp hz with h1 | h1
      · exact hy z h1
      · rw [List.mem_singleton.mp h1]; exact hp
  exact key n 0 [] (by omega) rfl fun y hy => nomatch hy
end
theorem pow16 (n : Nat) : ((16 : Int) ^ n) ≠ 0 := by
  intro h
  have h1 : (0 : Int) < 16 ^ n := by
    induction n with
    | zero => decide
    | succ n ih =>
      rw [Int.pow_succ]
      by_cases h0 : (16 : Int) ^ n = 0
      · exfalso; have := ih h0; omega
      · have h2 : (0 : Int) ≤ 16 ^ n := by
          clear ih h h0
          induction n with
          | zero => decide
          | succ n ih => rw [Int.pow_succ]; omega
        omega
  omega
theorem tab_sg : ∀ j < 16, ([Str.ofString "a", Str.ofString "B", Str.ofString "b", Str.ofString "A", Str.ofString "'", Str.ofString "\x00", Str.ofString "z", Str.ofString "É", Str.ofString "\"", Str.ofString "Z", Str.ofString "<", Str.ofString "\u212a", Str.ofString "-", Str.ofString "k", Str.ofString "&", Str.ofString "\ufffd"].getD j Str.empty = ⟨#[sigC.getD j 0]⟩) ∧ sigC.getD j 0 ∈ sigC := by decide +kernel
/-- a text of one sign of the law's table -/
def SgV (v : Value) : Prop := ∃ (c t : Nat), v = .str ⟨#[c]⟩ t ∧ c ∈ sigC
theorem sg_list : ∀ {ys : List Value}, (∀ y ∈ ys, SgV y) → ∃ cs : List Nat, StrsAre ys (ones cs) ∧ ∀ c ∈ cs, c ∈ sigC
  | [], _ => ⟨[], .nil, fun c hc => nomatch hc⟩
  | y :: ys, h => by
    obtain ⟨c, t, rfl, hc⟩ := h _ (.head _)
    obtain ⟨cs, h1, h2⟩ := sg_list (ys := ys) fun z hz => h z (.tail _ hz)
    exact ⟨c :: cs, .cons _ _ h1, List.forall_mem_cons.mpr ⟨hc, h2⟩⟩
theorem strs_len9 : ∀ {ys : List Value} {ws : List PySem.Str}, StrsAre ys ws → ys.length = ws.length
  | _, _, .nil => rfl
  | _, _, .cons _ _ h => congrArg Nat.succ (strs_len9 h)
theorem list_name {h₀ h : Heap} {L D : Nat} {ws : List Value} {r : List (Addr × Obj)} (_N : News h₀ L h ((D, W.listOf ws.toArray 0) :: r)) : ∃ (D' : Nat) (ws' : List Value), ws' = ws ∧ D' = D := ⟨D, ws, rfl, rfl⟩
theorem ints_at : ∀ {vs : List Value} {ns : List Int}, IntsAre vs ns → ∀ {i : Nat} {v : Value}, vs[i]? = some v → ∃ (k : Int) (t : Nat), v = .int k t
  | _, _, .nil, i, v, h => by simp at h
  | _, _, .cons n t h, 0, v, e => ⟨n, t, (Option.some.inj e).symm⟩
  | _, _, .cons n t h, i + 1, v, e => ints_at h (i := i) (by simpa using e)
theorem strs_head {ys : List Value} {c : Nat} {cs : List Nat} (h : StrsAre ys (ones (c :: cs))) : ∃ (t : Nat) (ys' : List Value), ys = Value.str ⟨#[c]⟩ t :: ys' ∧ StrsAre ys' (ones cs) := by
  cases h with
  | cons x t h => exact ⟨t, _, rfl, h⟩
theorem pick_tail (y : Value) (ys : List Value) : kms_pick (y :: ys) (some 1) none = ys := by
  have h : kms_lo (some 1) (y :: ys).length = 1 := by
    show (if (1 : Int) < 0 then (y :: ys).length - (-(1 : Int)).toNat else min (1 : Int).toNat (ys.length + 1)) = 1
    rw [if_neg (by decide)]
    show min 1 (ys.length + 1) = 1
    omega
  unfold kms_pick
  rw [h]
  show List.take (ys.length + 1 - 1) ys = ys
  rw [Nat.add_sub_cancel, List.take_length]
theorem ones_flat (cs : List Nat) : flat (ones cs) = cs := (flat_ones (fun c => c) cs).trans (List.map_id' cs)
theorem item_e {prog : Program} {w : World} {A : Around} {E : Value → Shared → Prop} {s : Shared} {h₀ : Heap} {L : Addr} {news : List (Addr × Obj)} {value slice : PySem.Expr} {l t1 t2 t3 t4 : Nat} {u : Nat} {j : Int} {Q : Value → Shared → Prop} (N : News h₀ L s.heap news) (hm : (l, W.listOf #[Value.str (Str.ofString "=") t1, Value.str (Str.ofString "/") t2, Value.str (Str.ofString " ") t3, Value.str (Str.ofString "\x0c") t4] 0) ∈ news) (h0 : 0 ≤ j) (h4 : j < 4)
    (h : ∀ (e t : Nat), (e = 61 ∨ e = 47 ∨ e = 32 ∨ e = 12) → Q (.str ⟨#[e]⟩ t) s) (hs : subscripted slice false (.ref l) (.int j u) = operate [.ref l, .int j u] (getItem (.ref l) (.int j u)) := by with_unfolding_all rfl) :
    wpAny (model prog w) A (subscriptTail value slice (.ref l) (.int j u)) Q E s := by
  have e1 : Str.ofString "=" = ⟨#[61]⟩ := by decide +kernel
  have e2 : Str.ofString "/" = ⟨#[47]⟩ := by decide +kernel
  have e3 : Str.ofString " " = ⟨#[32]⟩ := by decide +kernel
  have e4 : Str.ofString "\x0c" = ⟨#[12]⟩ := by decide +kernel
  rw [e1, e2, e3, e4] at hm
  have hj : j = 0 ∨ j = 1 ∨ j = 2 ∨ j = 3 := by omega
  rcases hj with rfl | rfl | rfl | rfl
  · exact item_n (us := [_, _, _, _]) N hm (by decide) (by decide) rfl (h 61 _ (.inl rfl)) hs
  · exact item_n (us := [_, _, _, _]) N hm (by decide) (by decide) rfl (h 47 _ (.inr (.inl rfl))) hs
  · exact item_n (us := [_, _, _, _]) N hm (by decide) (by decide) rfl (h 32 _ (.inr (.inr (.inl rfl)))) hs
  · exact item_n (us := [_, _, _, _]) N hm (by decide) (by decide) rfl (h 12 _ (.inr (.inr (.inr rfl)))) hs
theorem hd_name {h₀ h : Heap} {L D c t1 t2 t3 e : Nat} {x : PySem.Str} {r : List (Addr × Obj)} (_N : News h₀ L h ((D, { cls := Value.type "tuple", data := Data.seq #[Value.str ⟨#[c]⟩ t1, Value.str x t2, Value.str ⟨#[e]⟩ t3] 0 }) :: r)) :
    ∃ (D' t1' t2' t3' e' : Nat) (x' : PySem.Str), D' = D ∧ t1' = t1 ∧ t2' = t2 ∧ t3' = t3 ∧ e' = e ∧ x' = x := ⟨D, t1, t2, t3, e, x, rfl, rfl, rfl, rfl, rfl, rfl⟩
theorem HdsAt.snoc {us : List Value} {tl : List (Addr × Obj)} {hs : List H9} {h : H9} {D t1 t2 t3 : Nat} (hH : HdsAt us tl hs) : HdsAt (us ++ [.ref D]) ((D, hdObj h t1 t2 t3) :: tl) (hs ++ [h]) := by
  refine ⟨by rw [List.length_append, List.length_append, hH.1]; rfl, fun i g hg => ?_⟩
  by_cases hi : i < hs.length
  · rw [List.getElem?_append_left hi] at hg
    obtain ⟨a, u1, u2, u3, e1, hm⟩ := hH.2 i g hg
    exact ⟨a, u1, u2, u3, by rw [List.getElem?_append_left (by rw [hH.1]; exact hi)]; exact e1, .tail _ hm⟩
  · rw [List.getElem?_append_right (by omega)] at hg
    have hi0 : i - hs.length = 0 := by
      cases hj : i - hs.length with
      | zero => rfl
      | succ j => rw [hj] at hg; simp at hg
    rw [hi0] at hg
    obtain rfl : h = g := Option.some.inj hg
    refine ⟨D, t1, t2, t3, ?_, .head _⟩
    rw [List.getElem?_append_right (by rw [hH.1]; omega), hH.1, hi0]
    rfl
section
local macro_rules | `(tactic| walk_at "subscriptTail") => `(tactic| (k_here; (with_reducible show wpAny _ _ (subscriptTail _ _ (Value.ref _) (Value.int (Int.fmod (Int.fdiv _ 8) 4) _)) _ _ _); k_dflt (refine' item_e ?N ?hm ?h0 ?h4 ?_; (case N => assumption); (case hm => k_mem); (case h0 => exact Int.fmod_nonneg_of_pos _ (by decide)); (case h4 => exact Int.fmod_lt_of_pos _ (by decide))); intro e9 t9 he9))
local macro_rules | `(tactic| walk_at "subscriptTail Name Slice ref ref") => `(tactic| (k_here; (try dsimp only); (with_reducible show wpAny _ _ (subscriptTail _ _ (Value.ref _) (Value.ref _)) _ _ _); k_dflt (refine' slice_g ?F ?N ?hm ?pl ?pu ?e ?hz ?_ ?hs ?ht; (case F => assumption); (case N => assumption); (case hm => k_mem); (case pl => constructor); (case pu => constructor); (case e => exact pick_tail _ _); (case hz => simp; omega); (case hs => with_unfolding_all rfl); (case ht => (intro _; with_unfolding_all rfl))); intro D' h' F' N' l1; (try k_lt l1); (try k_sweep)))
local macro_rules | `(tactic| walk_at "subscriptTail") => `(tactic| (k_here; (with_reducible show wpAny _ _ (subscriptTail _ _ (Value.ref _) (Value.int 0 _)) _ _ _); k_dflt (refine' item_n ?N ?hm ?h0 ?hk ?hv ?_; (case N => assumption); (case hm => k_mem); (case h0 => decide); (case hk => decide); (case hv => rfl))))
local macro_rules | `(tactic| walk_at "call builtin:str.join") => `(tactic| (k_here; (rename StrsAre _ (ones _) => hsj9); k_dflt (refine' join_t ?N ?hm ?hs ?hb ?_; (case N => assumption); (case hm => k_mem); (case hs => exact hsj9); (case hb => k_extra "jb")); intro tj kj xj ej))
theorem l_2 {w : World} {ns : List Int} {vs : List Value} {sa hp wt : Nat} {way : Int} (hI : IntsAre vs ns) (hlen : ns.length ≤ 63) : ∀
    (mean : ExcName → Option Value) (mg mb : PySem.Str → Option Value) (base h₀ : Heap) (L fa : Addr) (cd : Value) (m : PySem.Str → Option Value) (s : Shared) (oc : Obj) (Q : Flow → Shared → Prop) (E : Value → Shared → Prop)
    (_ : Below callerA base [] h₀) (_ : Fr h₀ L s.heap m) (_ : ∀ p ∈ [(Str.ofString "way", Value.int way wt), (Str.ofString "heads", Value.ref hp), (Str.ofString "script", Value.ref sa)], m p.1 = some p.2) (_ : (KF w).In h₀) (_ : News h₀ L s.heap [(hp, W.listOf #[] 0), (L + 1, oc)]) (_ : ∃ x, oc.data = .cell x) (_ : L + 1 < hp) (_ : h₀.IsList sa vs.toArray) (_ : Top VW LZ mean mg mb h₀) (_ : PassesOwn (model PG w) (callerA.deeper (envOfC (Str.ofString "law") LR.scope L fa cd)) (envOfC (Str.ofString "law") LR.scope L fa cd) E)
    (_ : ∀ h' tk' m', Fr h₀ L h' m' → Q (.ret (.bool true)) { s with heap := h', toks := tk' }),
    wpAny (model PG w) (callerA.deeper (envOfC (Str.ofString "law") LR.scope L fa cd)) (execs (LR.body.drop 2) (envOfC (Str.ofString "law") LR.scope L fa cd)) Q E s := by
  unfold KF PG
  k_fill
  intro mean mg mb base h₀ L fa cd m s oc Q E B F hps X N hoc hlt hsl T hE hret
  rw [← kstB_self hps] at F
  simp only [LR, recOfWalk, List.drop_succ_cons, List.drop_zero]
  (try k_fold)
  k_with_none
  repeat' (first | ((fail_if_success (with_reducible show wpAny _ _ (exec (PySem.Stmt.For _ _ _ _ _) _) _ _ _)); first | (k_unfold; (try dsimp only)) | (k_end; wrow_close) | walk1 | (dsimp only [List.cons_append, List.nil_append]; walk1) | (dsimp only) | fail "no step"))
  (rename Fr _ _ _ _ => f8)
  refine' For_turns f8 ?_ ?hs ?hE
  case hs => (intro _; rfl)
  case hE => first | assumption | passes_own | with_unfolding_all passes_own
  repeat' (first | ((fail_if_success (with_reducible show wpAny _ _ (pyIter _) _ _ _)); first | (k_unfold; (try dsimp only)) | (k_end; wrow_close) | walk1 | (dsimp only [List.cons_append, List.nil_append]; walk1) | (dsimp only) | fail "no step"))
  (rename Fr _ _ _ _ => f9)
  (rename News _ _ _ _ => n9)
  (rename hp < _ ∧ _ => l9)
  (rename IntsAre _ (List.take _ _) => hI9)
  obtain ⟨D9, ws9, ew9, e1⟩ := list_name n9
  subst e1
  subst ew9
  obtain ⟨ms, ems⟩ : ∃ ms, ms = List.take (min 6 ns.length - 1) (List.drop 1 ns) := ⟨_, rfl⟩
  have hml : ms.length ≤ 5 := by rw [ems, List.length_take]; omega
  rw [← ems] at hI9
  have hwl := hI9.length
  have hql : Heap.IsList _ D9 ws9.toArray := ⟨_, (n9 _ (.head _)).1, rfl, _, rfl⟩
  obtain ⟨l91, l92⟩ := l9
  refine' turns_list (vs := ws9) (fun c : List Value × Nat × List (Addr × Obj) × Obj × List H9 => (hp, W.listOf c.1.toArray c.2.1) :: (L + 1, c.2.2.2.1) :: c.2.2.1) [(D9, W.listOf ws9.toArray 0)] (fun c => [(Str.ofString "way", .int way wt), (Str.ofString "heads", .ref hp)]) [Str.ofString "signs"]
    (fun pre c => HdsAt c.1 c.2.2.1 c.2.2.2.2 ∧ (∀ g ∈ c.2.2.2.2, OkH g) ∧ c.2.2.2.2.length = pre.length ∧ (∃ x, c.2.2.2.1.data = .cell x) ∧ (∀ p ∈ c.2.2.1, p.1 ≠ hp ∧ p.1 ≠ L + 1)) ([], 0, [], oc, []) rfl hql (.inl ⟨_, .head _⟩) f9 ?N ?off ?hk ?hp ?turn ?done
  case N => exact nsub n9 fun q hq => by simp at hq ⊢; rcases hq with h | h | h <;> simp [h]
  case off => exact List.forall_mem_cons.mpr ⟨List.forall_mem_cons.mpr ⟨Nat.ne_of_gt l91, List.forall_mem_nil _⟩, List.forall_mem_cons.mpr ⟨List.forall_mem_cons.mpr ⟨Nat.ne_of_gt l92, List.forall_mem_nil _⟩, List.forall_mem_nil _⟩⟩
  case hk => kst_all
  case hp => exact ⟨⟨rfl, fun i h e => by simp at e⟩, (fun g hg => nomatch hg), rfl, hoc, List.forall_mem_nil _⟩
  case turn =>
    rintro ⟨us, ep, tl, oc, hs⟩ pre post v u h' tk' rest' hpre ⟨hH, hok, hlen, ⟨cx, hcx⟩, ho⟩ off' sub' F' N'
    dsimp only [List.cons_append, List.nil_append] at N' F' hH hok hlen hcx ho off'
    obtain ⟨R, eR⟩ : ∃ R, R = tl ++ rest' := ⟨_, rfl⟩
    rw [← eR] at N'
    have hto := off' _ (.head _)
    have hcA' := off' _ (.tail _ (.head _))
    dsimp only at hto hcA'
    have hRto : ∀ p ∈ R, p.1 ≠ hp := fun p hp => by
      rw [eR] at hp
      exact (List.mem_append.mp hp).elim (fun h => (ho p h).1) (hto p)
    have hRcA : ∀ p ∈ R, p.1 ≠ (L + 1) := fun p hp => by
      rw [eR] at hp
      exact (List.mem_append.mp hp).elim (fun h => (ho p h).2) (hcA' p)
    have hac : Nq hp (L + 1) := Nat.ne_of_gt hlt
    have hplt : pre.length < ws9.length := by rw [hpre]; simp
    have hul : us.length ≤ 5 := by rw [hH.1, hlen]; omega
    have hv : ws9[pre.length]? = some v := by rw [hpre]; simp
    obtain ⟨k, kt, ek⟩ := ints_at hI9 hv
    subst ek
    clear f9 n9 hql
    (try k_fold)
    k_with_none
    repeat' (first | ((fail_if_success (with_reducible show LCg.CompSrc _ _ _ _ _ _ _ _ _ _ _ _ _ _)); first | (k_unfold; (try dsimp only)) | (k_end; wrow_close) | walk1 | (dsimp only [List.cons_append, List.nil_append]; walk1) | (dsimp only) | fail "no step"))
    (rename Fr _ _ _ _ => f9)
    (rename News _ _ _ _ => n9)
    (rename IsRange _ _ _ _ _ _ _ _ => hr9)
    have hm0 : 0 ≤ (k.fdiv 2).fmod 5 := Int.fmod_nonneg_of_pos _ (by decide)
    have hm5 : (k.fdiv 2).fmod 5 < 5 := Int.fmod_lt_of_pos _ (by decide)
    obtain ⟨z, hz⟩ : ∃ z : Nat, (z : Int) = (k.fdiv 2).fmod 5 + 1 := ⟨((k.fdiv 2).fmod 5 + 1).toNat, by omega⟩
    rw [← hz] at hr9
    refine' LCg.CompSrc.range rfl f9 n9 hr9 (small_one (by omega) (by omega) (by omega) (by omega)) (by rw [rangeSize_one]; split <;> omega) (n := z) (by rw [PySem.sizeLine_eq]; omega) fun g9 => ?_
    refine' rest_vals SgV ?turn9 ?fin9
    k_with "jb" => (rw [ones_flat]; unfold ones; rw [List.length_map]; omega)
    case turn9 =>
      intro i v I oI C oC2 D m₂ ys h2 tk2 E2 hi hv2 hC2 hm2 F2 N2 off2 ne2
      obtain ⟨t9, rfl⟩ := hv2
      repeat' (first | ((fail_if_success (with_reducible show LCg.CompEnd _ _ _ _ _ _ _ _ _ _ _ _ _ _)); first | (k_unfold; (try dsimp only)) | (k_end; wrow_close) | walk1 | (dsimp only [List.cons_append, List.nil_append]; walk1) | (dsimp only) | fail "no step"))
      · (rename (16 : Int) ^ _ = 0 => h16)
        exact absurd h16 (pow16 _)
      · (rename Int.toNat _ < _ => hjl)
        exact ⟨_, _, _, rfl, (by assumption), N2, off2, trivial, ⟨_, _, congrArg (Value.str · _) (tab_sg _ hjl).1, (tab_sg _ hjl).2⟩, rfl⟩
    case fin9 =>
      intro ys hyl hys D2 h2 tk2 F2 N3 off2
      simp only [LCg.Off1] at off2
      obtain ⟨o1, o2, o3⟩ := off2
      have o4 : Nq hp D2 := o1
      have o5 : Nq (L + 1) D2 := o2
      obtain ⟨cs, hcs1, hcs2⟩ := sg_list hys
      have hcl : cs.length = z := by
        have h9 := strs_len9 hcs1
        rw [show (ones cs).length = cs.length from List.length_map _] at h9
        exact h9.symm.trans hyl
      obtain ⟨c0, cs, rfl⟩ : ∃ c0 cs', cs = c0 :: cs' := by
        cases cs with
        | nil => exfalso; rw [List.length_nil] at hcl; omega
        | cons a b => exact ⟨a, b, rfl⟩
      obtain ⟨t0, ys, rfl, hcs3⟩ := strs_head hcs1
      rw [List.length_cons] at hcl
      have hcl4 : cs.length ≤ 4 := by omega
      clear hys hyl hcs1
      replace N3 := (show News _ _ h2 ((D2, W.listOf (Value.str ⟨#[c0]⟩ t0 :: ys).toArray (ys.length + 1)) :: _) from N3)
      have hyl : ys.length ≤ 4 := by rw [strs_len9 hcs3]; unfold ones; rw [List.length_map]; exact hcl4
      obtain ⟨hc0, hcs⟩ := List.forall_mem_cons.mp hcs2
      clear f9 n9 hr9
      repeat' (first | ((fail_if_success (with_reducible show TEnd _ _ _ _ _ _ _)); first | (k_unfold; (try dsimp only)) | (k_end; wrow_close) | walk1 | (dsimp only [List.cons_append, List.nil_append]; walk1) | (dsimp only) | fail "no step"))
      (rename Fr _ _ _ _ => f8')
      (rename News _ _ _ _ => n8')
      (rename Obj.data _ = Data.cell _ => hcl9)
      obtain ⟨oc9, eoc⟩ := CellName hcl9
      subst eoc
      obtain ⟨D9', g1, g2, g3, e9, x9, q1, q2, q3, q4, q5, q6⟩ := hd_name n8'
      subst q1 q2 q3 q4 q5 q6
      (rename _ = 61 ∨ _ => he9)
      (rename _ = flat _ => hx9)
      rw [ones_flat] at hx9
      (rename _ < D9' ∧ _ => l9')
      obtain ⟨-, -, -, z4, z5, z6⟩ := l9'
      simp only [push_app] at n8'
      have hxl : x9.length ≤ 4 := by rw [← str_len9, hx9]; exact hcl4
      refine' ⟨(us ++ [.ref D9'], ep + 1, (D9', hdObj ⟨c0, x9, e9⟩ g1 g2 g3) :: tl, oc9, hs ++ [⟨c0, x9, e9⟩]), _, _, _, rfl, f8', ?N1, ?of1, (by kst_all), (fun z h2 h3 => by simp only [List.forall_mem_cons] at h2; simp only [List.contains_eq_mem, decide_eq_false_iff_not, List.mem_cons, not_or] at h3; simp [h2, h3, kstB]), ?P1⟩
      case N1 =>
        refine nsub n8' (subCons (by k_mem) (subCons (by k_mem) (subCons (.head _) fun q hq => .tail _ (.tail _ (.tail _ (.tail _ (.tail _ (.tail _ ?_))))))))
        rw [eR]; exact hq
      case of1 =>
        refine List.forall_mem_cons.mpr ⟨hto, List.forall_mem_cons.mpr ⟨hcA', List.forall_mem_cons.mpr ⟨fun p hp => ?_, fun q hq => off' q (.tail _ (.tail _ hq))⟩⟩⟩
        exact Nat.ne_of_lt (tb_ltOf z6 p (by rw [eR]; exact List.mem_append_right _ hp))
      case P1 =>
        refine ⟨hH.snoc, fun g hg => ?_, by rw [List.length_append, List.length_append, hlen]; rfl, ⟨_, hcl9⟩, List.forall_mem_cons.mpr ⟨⟨Nat.ne_of_gt z4, Nat.ne_of_gt z5⟩, ho⟩⟩
        rcases List.mem_append.mp hg with h1 | h1
        · exact hok g h1
        · rw [List.mem_singleton.mp h1]
          exact ⟨hc0, by dsimp only; rw [hx9]; exact hcs, hxl, he9⟩
  case done =>
    rintro ⟨us, ep, tl, oc, hs⟩ u h' tk' ⟨hH, hok, hlen, -, -⟩ off' F' N'
    dsimp only [List.cons_append, List.nil_append] at N' F' hH hok hlen
    dsimp only
    have hsl5 : hs.length ≤ 5 := by omega
    cases us with
    | nil => exact LawC.use (l_3a (way := way) (wt := wt) (hep := ep)) N' (fun q hq => by rcases List.mem_cons.mp hq with rfl | hq; exact .head _; exact .tail _ hq) F' (by kst_all) B X T hE fun h' tk' m' hF => hret h' tk' m' hF
    | cons v us =>
      have h0 : 0 < hs.length := by rw [← hH.1]; exact Nat.zero_lt_succ _
      exact LawC.use (l_3b (way := way) (wt := wt) (hep := ep) hok hsl5 h0 (R := (L + 1, oc) :: (tl ++ [(D9, W.listOf ws9.toArray 0)])) ⟨hH.1, fun i g hg => by
        obtain ⟨a, t1, t2, t3, e1, hm⟩ := hH.2 i g hg
        exact ⟨a, t1, t2, t3, e1, .tail _ (List.mem_append_left _ hm)⟩⟩) N' (fun q hq => hq) F' (by kst_all) B X T hE fun h' tk' m' hF => hret h' tk' m' hF
end
end Mine
theorem Mine.off_law12 {M : Model} {A : Around} {env : Env} {Q : Flow → Shared → Prop} {E : Value → Shared → Prop} {s : Shared} (h : wpAny M A (execs [] env) Q E s) : wpAny M A (execs [] env) Q E s := by
  (try (walk1; fail "no"))
  w_top off
  exact h
namespace Mine
local macro_rules | `(tactic| k_ne) => `(tactic| first | exact (show Nq _ _ by with_reducible assumption) | exact Ne.symm (show Nq _ _ by with_reducible assumption) | (refine neN ?_; (try dsimp only); omega))
local macro_rules | `(tactic| k_room) => `(tactic| ((try simp only [depth_under_make, depth_under_kw, depth_in1, depth_deeper, depth_caller, ktrTop, recursionLimit] at *); omega))
local macro_rules | `(tactic| k_units) => `(tactic| ((have hcL9 := cLine_is); (try simp only [units_in1, units_deeper, Around.mark_units, units_caller, ktrTop] at *); omega))
local macro_rules | `(tactic| ktr_enter) => `(tactic| (refine' code_def ?k1 ?k2 ?k3 ?k4 ?k5 ?kA ?kF ?kK ?k6 ?k7 ?k8 ?k9 ?kB ?_ ?c2 ?c3 ?c4 ?c5; (case kA => exact rfl); (case kF => exact rfl); (case kK => first | exact rfl | assumption); (case k1 => k_asm); (case k2 => k_asm); (case k3 => k_asm); (case k4 => k_asm); (case k5 => k_asm); (case k6 => k_is); (case k7 => k_is); (case k8 => k_room); (case k9 => first | exact BindsTo.of_eq rfl | exact binds_K (by k_in) rfl (by k_is) rfl rfl rfl); (case c5 => decide); (case kB => exact locs rfl); (case c2 => exact rfl); (case c3 => exact rfl); (case c4 => exact rfl); k_whole; intro g' L' h' FG' F' N' B' X' T'; (try dsimp only); (try k_fold)))
local macro_rules | `(tactic| k_all) => `(tactic| (with_reducible assumption))
local macro_rules | `(tactic| tb_lt) => `(tactic| first | exact Pick.head | (refine' Pick.tail ?c; (case c => tb_lt)))
local macro_rules | `(tactic| tb_start) => `(tactic| first | exact Picks.nil | (refine' Picks.cons ?a ?b; (case a => tb_lt); (case b => tb_start)))
local macro_rules | `(tactic| tb_rel) => `(tactic| first | exact List.forall_mem_nil _ | (refine' List.forall_mem_cons.mpr ⟨?a, ?b⟩; (case a => k_all); (case b => tb_rel)))
local macro_rules | `(tactic| walk_at "TPost") => `(tactic| (dsimp only [TPost]))
local macro_rules | `(tactic| size_fits) => `(tactic| ((simp only [PySem.sizeLine_eq, List.size_toArray]); omega))
local macro_rules | `(tactic| k_gentoks) => `(tactic| (with_reducible refine' gen_toksP ?hp ?_; (case hp => first | omega | ((try simp only [List.length_cons]); omega)); intro tk htk))
local macro_rules | `(tactic| kstt_sub) => `(tactic| first | exact fun _ h => h | assumption | (refine' subCons ?a ?b; (case a => k_mem); (case b => kstt_sub)) | (refine' subTail ?a; (case a => kstt_sub)))
local macro_rules | `(tactic| kst_all) => `(tactic| first | exact List.forall_mem_nil _ | (refine' List.forall_mem_cons.mpr ⟨?a, ?b⟩; (case a => exact rfl); (case b => kst_all)))
local macro_rules | `(tactic| walk_at "MidEnd") => `(tactic| first
  | ((with_reducible show MidEnd _ _ _ _ _ _ _ Flow.next _); (refine' ⟨(tk8 _ _ _ _ _ _ _ _, _), _, _, _, rfl, ?F, ?N, ?ps, ?P⟩); (case F => assumption); (case N => (refine' nsub ?N1 ?N2; (case N1 => assumption); (case N2 => kstt_sub))); (case ps => kst_all); (case P => k_extra "mid"))
  | ((fail_if_success (with_reducible show MidEnd _ _ _ _ _ _ _ Flow.next _)); dsimp only [MidEnd]))
local macro_rules | `(tactic| walk_at "WEnd") => `(tactic| ((fail_if_success (with_reducible show WEnd _ _ _ _ _ _ _ _ _ Flow.next _)); dsimp only [WEnd]))
local macro_rules | `(tactic| walk_at "callWith") => `(tactic| (k_here; (with_reducible refine' callWith_method1 ?_ ?he ?hp); (case he => k_dflt rfl); (case hp => k_dflt rfl)))
local macro_rules | `(tactic| k_steps) => `(tactic| repeat' (first | (k_unfold; (try dsimp only)) | (k_end; wrow_close) | walk1 | (dsimp only [List.cons_append, List.nil_append]; walk1) | (dsimp only) | fail "no step"))
theorem law12 : PySem.Challenge.rw_ru0004_12.Holds := hd12 (by
  k_with_none
  k_go0
  all_goals try k_fold
  repeat' (first | ((fail_if_success (with_reducible show wpAny _ _ (PySem.execs (PySem.Stmt.For _ _ _ _ _ :: _) _) _ _ _)); first | (k_unfold; (try dsimp only)) | (k_end; wrow_close) | walk1 | (dsimp only [List.cons_append, List.nil_append]; walk1) | fail "no step"))
  all_goals
    (rename World => w)
    (rename Fr _ _ _ _ => f9)
    (rename News _ _ _ _ => n9)
    (rename IntsAre _ _ => hI9)
    (rename Obj.data _ = Data.cell _ => hcl9)
    (rename Heap.IsList _ _ _ => hl9)
    (rename _ < _ => hlt9)
    refine' l_2 hI9 ?tl _ _ _ _ _ _ _ _ _ _ _ _ _ ?tB f9 ?tps ?tX n9 ⟨_, hcl9⟩ ?tlt hl9 ?tT ?tE ?tret
    (case tl => omega)
    (case tB => assumption)
    (case tX => assumption)
    (case tT => assumption)
    (case tps => kst_all)
    (case tlt => assumption)
    (case tE => first | assumption | passes_own | with_unfolding_all passes_own)
    (case tret => (intro h' tk' m' F'; k_steps)))
end Mine
set_option maxRecDepth 100000 in
set_option maxHeartbeats 8000000 in
theorem PySem.Challenge.cw_ru0004_12_holds : PySem.Challenge.rw_ru0004_12.Holds := by
  exact Mine.law12
