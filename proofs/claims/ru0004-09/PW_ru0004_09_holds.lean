import PyProof.Rows.All
import Wide.All
import OpenK.AllK
import Wide.FinOn
import PySem.Challenge.RW_ru0004_09
open PySem PySem.W PyProof.Rows
set_option Elab.async false
set_option linter.all false
set_option maxRecDepth 100000
set_option maxHeartbeats 8000000
set_option rowWalk.seconds 0
open_top hd09 for PySem.Challenge.rw_ru0004_09
namespace Mine
noncomputable abbrev PG : Program := Challenge.rw_ru0004_09.row.prog
noncomputable abbrev VW : Program := hd09.view_39
noncomputable abbrev LZ : List Str := looseW hd09.view_39 [Str.ofString "asciiLetters", Str.ofString "digits", Str.ofString "hexDigits", Str.ofString "entities", Str.ofString "replacementCharacters", Str.ofString "tokenTypes", Str.ofString "tagTokenTypes", Str.ofString "HTMLUnicodeInputStream", Str.ofString "bisect_left", Str.ofString "entitiesTrie", Str.ofString "HTMLTokenizer", Str.ofString "_law_SIGNS"]
noncomputable abbrev KF (w : World) : Frag := hd09.heap_39 w.params
/-- what a call finds and what it hands back -/
def Tell (w : World) (D U : Nat) (f : Value) (args : List Value) (news : List (Addr × Obj)) (Post : Value → List (Addr × Obj) → Prop) : Prop :=
  ∀ (mean : ExcName → Option Value) (mg mb : Str → Option Value) (dp un : Nat) (gd : Option (List Code)) (cn : Str) (cs : Scope) (a : Addr) (ccd : Value) (cl : List (Str × Addr)) (outer : List Env) (A₀ : Around) (base h₀ : Heap) (L : Addr) (m : Str → Option Value) (s : Shared) (Q E : Value → Shared → Prop),
    Below A₀ base outer h₀ → Fr h₀ L s.heap m → (KF w).In h₀ → News h₀ L s.heap news → Top VW LZ mean mg mb h₀ → cs.kind = .function → dp + D < recursionLimit → un + U < cLine →
    (∀ r news' h' tk', Fr h₀ L h' m → News h₀ L h' news' → Post r news' → Q r { s with heap := h', toks := tk' }) →
    codeAny (model PG w) (ktrTop dp un gd cn cs L a ccd cl outer) (.call f ⟨args, []⟩) (fun r s' => match r with | .ok (.ret v) => Q v s' | .ok _ => False | .error e => E e s') s
/-- the same, the ledger's written part in front of any rest -/
def TellR (w : World) (D U : Nat) (f : Value) (args : List Value) (front : List (Addr × Obj)) (Post : Value → List (Addr × Obj) → List (Addr × Obj) → Prop) : Prop :=
  ∀ rest : List (Addr × Obj), (∀ q ∈ front, ∀ p ∈ rest, p.1 ≠ q.1) → Tell w D U f args (front ++ rest) (fun r n' => ∃ f', Post r f' rest ∧ n' = f' ++ rest)
abbrev ent (w : World) (x : String) (t : Nat) (v : Value) : DictEntry := ⟨PyData.keyHash w.params (PySem.Str.ofString x), .str (PySem.Str.ofString x) t, v⟩
def tk2 (a b : Nat) : Nat → Nat | 0 => a | _ => b
def tk6 (a b c d e f : Nat) : Nat → Nat | 0 => a | 1 => b | 2 => c | 3 => d | 4 => e | _ => f
/-- the dict of the reader of the text -/
abbrev txD (w : World) (κ : Nat → Nat) (T : PySem.Str) (p : Int) (σ₀ σ₁ : Nat) : Obj := dictOf [ent w "text" (κ 0) (.str T σ₀), ent w "place" (κ 1) (.int p σ₁)] 2
/-- the dict of the stream -/
abbrev sdD (w : World) (κ : Nat → Nat) (ra nl tx el : Nat) (c : PySem.Str) (sz o pl pc : Int) (bf : Value) (τ₀ τ₁ τ₂ τ₃ τ₄ : Nat) : Obj :=
  dictOf [ent w "reportCharacterErrors" (κ 0) (.ref ra), ent w "newLines" (κ 1) (.ref nl), ent w "dataStream" (κ 2) (.ref tx), ent w "chunk" (κ 3) (.str c τ₀), ent w "chunkSize" (κ 4) (.int sz τ₁), ent w "chunkOffset" (κ 5) (.int o τ₂), ent w "errors" (κ 6) (.ref el), ent w "prevNumLines" (κ 7) (.int pl τ₃), ent w "prevNumCols" (κ 8) (.int pc τ₄), ent w "_bufferedCharacter" (κ 9) bf] 10
theorem nsub {h₀ h : Heap} {L : Addr} {a b : List (Addr × Obj)} (N : News h₀ L h a) (hs : ∀ p ∈ b, p ∈ a) : News h₀ L h b := fun p hp => N p (hs p hp)
inductive Pick (p : Addr × Obj) : List (Addr × Obj) → List (Addr × Obj) → Prop
  | head {r} : Pick p (p :: r) r
  | tail {q r r'} : Pick p r r' → Pick p (q :: r) (q :: r')
inductive Picks : List (Addr × Obj) → List (Addr × Obj) → List (Addr × Obj) → Prop
  | nil {l} : Picks [] l l
  | cons {p ps l l' r} : Pick p l l' → Picks ps l' r → Picks (p :: ps) l r
theorem Pick.sub {p : Addr × Obj} : ∀ {l r : List (Addr × Obj)}, Pick p l r → p ∈ l ∧ ∀ q ∈ r, q ∈ l
  | _, _, .head => ⟨.head _, fun _ h => .tail _ h⟩
  | _, _, .tail h => ⟨.tail _ h.sub.1, fun q hq => by
      rcases List.mem_cons.mp hq with rfl | hq
      · exact .head _
      · exact .tail _ (h.sub.2 q hq)⟩
theorem Picks.sub : ∀ {f l r : List (Addr × Obj)}, Picks f l r → ∀ p ∈ f ++ r, p ∈ l
  | _, _, _, .nil => fun _ h => h
  | _, _, _, .cons (p := p) a b => fun q hq => by
      rcases List.mem_append.mp hq with hq | hq
      · rcases List.mem_cons.mp hq with rfl | hq
        · exact a.sub.1
        · exact a.sub.2 q (b.sub q (List.mem_append_left _ hq))
      · exact a.sub.2 q (b.sub q (List.mem_append_right _ hq))
theorem use_out {n : Nat} {Q E : Value → Shared → Prop} : ∀ (r : Result) (s : Shared), (match r with | .ok (.ret v) => (n ≤ s.toks → Q v s) | .ok _ => False | .error e => (n ≤ s.toks → E e s)) → n ≤ s.toks → (match r with | .ok (.ret v) => Q v s | .ok _ => False | .error e => E e s)
  | .ok (.ret _), _, h, p => h p
  | .ok .next, _, h, _ => h
  | .ok .brk, _, h, _ => h
  | .ok .cont, _, h, _ => h
  | .error _, _, h, p => h p
theorem TellR.use {w : World} {D U : Nat} {f : Value} {args : List Value} {front news rest : List (Addr × Obj)} {Post : Value → List (Addr × Obj) → List (Addr × Obj) → Prop} {mean : ExcName → Option Value} {mg mb : Str → Option Value} {dp un : Nat} {gd : Option (List Code)} {cn : Str} {cs : Scope} {a : Addr} {ccd : Value} {cl : List (Str × Addr)} {outer : List Env} {A₀ : Around} {base h₀ : Heap} {L : Addr} {m : Str → Option Value} {s : Shared} {Q E : Value → Shared → Prop}
    (hT : TellR w D U f args front Post) (B : Below A₀ base outer h₀) (F : Fr h₀ L s.heap m) (X : (KF w).In h₀) (N : News h₀ L s.heap news) (T : Top VW LZ mean mg mb h₀) (hk : cs.kind = .function)
    (hp : Picks front news rest) (off : ∀ q ∈ front, ∀ p ∈ rest, p.1 ≠ q.1) (hd : dp + D < recursionLimit) (hu : un + U < cLine) {n : Nat} (h0 : n ≤ s.toks)
    (ret : ∀ r f' h' tk', n ≤ tk' → Fr h₀ L h' m → News h₀ L h' (f' ++ rest) → Post r f' rest → Q r { s with heap := h', toks := tk' }) :
    wpAny (model PG w) (ktrTop dp un gd cn cs L a ccd cl outer) (call f args) Q E s :=
  wpAny_call (codeAny_with_toks (n := n) h0 (codeAny_mono (hT rest off mean mg mb dp un gd cn cs a ccd cl outer A₀ base h₀ L m s (fun v s' => n ≤ s'.toks → Q v s') (fun v s' => n ≤ s'.toks → E v s') B F X (nsub N hp.sub) T hk hd hu fun r n' h' tk' F' N' ⟨f', hP, e⟩ p' => ret r f' h' tk' p' F' (e ▸ N') hP) use_out))
/-- a bound method's call -/
theorem TellR.useM {w : World} {D U : Nat} {f self : Value} {q : Addr} {args : List Value} {front news rest : List (Addr × Obj)} {Post : Value → List (Addr × Obj) → List (Addr × Obj) → Prop} {mean : ExcName → Option Value} {mg mb : Str → Option Value} {dp un : Nat} {gd : Option (List Code)} {cn : Str} {cs : Scope} {a : Addr} {ccd : Value} {cl : List (Str × Addr)} {outer : List Env} {A₀ : Around} {base h₀ : Heap} {L : Addr} {m : Str → Option Value} {s : Shared} {Q E : Value → Shared → Prop}
    (hT : TellR w D U f (self :: args) front Post) (B : Below A₀ base outer h₀) (F : Fr h₀ L s.heap m) (X : (KF w).In h₀) (N : News h₀ L s.heap news) (T : Top VW LZ mean mg mb h₀) (hk : cs.kind = .function) (hq : (q, methodObj f self) ∈ news)
    (hp : Picks front news rest) (off : ∀ q ∈ front, ∀ p ∈ rest, p.1 ≠ q.1) (hd : dp + D < recursionLimit) (hu : un + U < cLine) {n : Nat} (h0 : n ≤ s.toks)
    (ret : ∀ r f' h' tk', n ≤ tk' → Fr h₀ L h' m → News h₀ L h' (f' ++ rest) → Post r f' rest → Q r { s with heap := h', toks := tk' }) :
    wpAny (model PG w) (ktrTop dp un gd cn cs L a ccd cl outer) (call (.ref q) args) Q E s :=
  call_meth N hq (codeAny_with_toks (n := n) h0 (codeAny_mono (hT rest off mean mg mb dp un gd cn cs a ccd cl outer A₀ base h₀ L m s (fun v s' => n ≤ s'.toks → Q v s') (fun v s' => n ≤ s'.toks → E v s') B F X (nsub N hp.sub) T hk hd hu fun r n' h' tk' F' N' ⟨f', hP, e⟩ p' => ret r f' h' tk' p' F' (e ▸ N') hP) use_out))
theorem gen_toksP {α : Type} {M : Model} {A : Around} {t : Sem α} {Q : α → Shared → Prop} {E : Value → Shared → Prop} {h : Heap} {g : Array GenState} {d : Drawn} {o : OsState} {Y n : Nat} (hp : 0 < Y + n)
    (H : ∀ tk : Nat, 0 < tk → wpAny M A t Q E ⟨h, g, d, tk, o⟩) : wpAny M A t Q E ⟨h, g, d, Y + n, o⟩ := H _ hp
/-- two addresses apart (hidden from omega) -/
def Nq (a b : Nat) : Prop := a ≠ b
def NQ6 (sx sd tx td ra el : Nat) : Prop := Nq sx sd ∧ Nq sx tx ∧ Nq sx td ∧ Nq sx ra ∧ Nq sx el ∧ Nq sd tx ∧ Nq sd td ∧ Nq sd ra ∧ Nq sd el ∧ Nq tx td ∧ Nq tx ra ∧ Nq tx el ∧ Nq td ra ∧ Nq td el ∧ Nq ra el
end Mine
theorem Mine.off_c1 {M : Model} {A : Around} {env : Env} {Q : Flow → Shared → Prop} {E : Value → Shared → Prop} {s : Shared} (h : wpAny M A (execs [] env) Q E s) : wpAny M A (execs [] env) Q E s := by
  (try (walk1; fail "no"))
  w_top off
  exact h
namespace Mine
local macro_rules | `(tactic| k_ne) => `(tactic| first | exact (show Nq _ _ by with_reducible assumption) | exact Ne.symm (show Nq _ _ by with_reducible assumption) | (refine neN ?_; (try dsimp only); omega))
local macro_rules | `(tactic| k_room) => `(tactic| ((try simp only [depth_under_make, depth_under_kw, depth_in1, depth_deeper, depth_caller, ktrTop, recursionLimit] at *); omega))
local macro_rules | `(tactic| k_units) => `(tactic| ((have hcL9 := cLine_is); (try simp only [units_in1, units_deeper, Around.mark_units, units_caller, ktrTop] at *); omega))
local macro_rules | `(tactic| ktr_enter) => `(tactic| (refine' code_def ?k1 ?k2 ?k3 ?k4 ?k5 ?kA ?kF ?kK ?k6 ?k7 ?k8 ?k9 ?kB ?_ ?c2 ?c3 ?c4 ?c5; (case kA => exact rfl); (case kF => exact rfl); (case kK => first | exact rfl | assumption); (case k1 => k_asm); (case k2 => k_asm); (case k3 => k_asm); (case k4 => k_asm); (case k5 => k_asm); (case k6 => k_is); (case k7 => k_is); (case k8 => k_room); (case k9 => first | exact BindsTo.of_eq rfl | exact binds_K (by k_in) rfl (by k_is) rfl rfl rfl); (case c5 => decide); (case kB => exact locs rfl); (case c2 => exact rfl); (case c3 => exact rfl); (case c4 => exact rfl); k_whole; intro g' L' h' FG' F' N' B' X' T'; (try dsimp only); (try k_fold)))
local macro_rules | `(tactic| k_all) => `(tactic| (with_reducible assumption))
local macro_rules | `(tactic| tb_lt) => `(tactic| first | exact Pick.head | (refine' Pick.tail ?c; (case c => tb_lt)))
local macro_rules | `(tactic| tb_start) => `(tactic| first | exact Picks.nil | (refine' Picks.cons ?a ?b; (case a => tb_lt); (case b => tb_start)))
local macro_rules | `(tactic| tb_rel) => `(tactic| first | exact List.forall_mem_nil _ | (refine' List.forall_mem_cons.mpr ⟨?a, ?b⟩; (case a => k_all); (case b => tb_rel)))
local macro_rules | `(tactic| walk_at "TPost") => `(tactic| (dsimp only [TPost]))
local macro_rules | `(tactic| size_fits) => `(tactic| ((simp only [PySem.sizeLine_eq, List.size_toArray]); omega))
local macro_rules | `(tactic| k_gentoks) => `(tactic| (with_reducible refine' gen_toksP ?hp ?_; (case hp => first | omega | ((try simp only [List.length_cons]); omega)); intro tk htk))
local macro_rules | `(tactic| kstt_sub) => `(tactic| first | exact fun _ h => h | assumption | (refine' subCons ?a ?b; (case a => k_mem); (case b => kstt_sub)) | (refine' subTail ?a; (case a => kstt_sub)))
local macro_rules | `(tactic| kst_all) => `(tactic| first | exact List.forall_mem_nil _ | (refine' List.forall_mem_cons.mpr ⟨?a, ?b⟩; (case a => exact rfl); (case b => kst_all)))
local macro_rules | `(tactic| walk_at "MidEnd") => `(tactic| first
  | ((with_reducible show MidEnd _ _ _ _ _ _ _ Flow.next _); (refine' ⟨(tk8 _ _ _ _ _ _ _ _, _), _, _, _, rfl, ?F, ?N, ?ps, ?P⟩); (case F => assumption); (case N => (refine' nsub ?N1 ?N2; (case N1 => assumption); (case N2 => kstt_sub))); (case ps => kst_all); (case P => k_extra "mid"))
  | ((fail_if_success (with_reducible show MidEnd _ _ _ _ _ _ _ Flow.next _)); dsimp only [MidEnd]))
local macro_rules | `(tactic| walk_at "WEnd") => `(tactic| ((fail_if_success (with_reducible show WEnd _ _ _ _ _ _ _ _ _ Flow.next _)); dsimp only [WEnd]))
local macro_rules | `(tactic| walk_at "callWith") => `(tactic| (k_here; (with_reducible refine' callWith_method1 ?_ ?he ?hp); (case he => k_dflt rfl); (case hp => k_dflt rfl)))
local macro_rules | `(tactic| k_steps) => `(tactic| repeat' (first | (k_unfold; (try dsimp only)) | (k_end; wrow_close) | walk1 | (dsimp only [List.cons_append, List.nil_append]; walk1) | (dsimp only) | fail "no step"))
theorem read_t {w : World} {tx td : Nat} {κ : Nat → Nat} {σ₀ σ₁ : Nat} {T0 : PySem.Str} {p k : Int} {tk : Nat} (hne : tx ≠ td) (hT : T0.length ≤ 1048576) :
    TellR w 1 8 (.ref 70) [.ref tx, .int k tk] [(tx, instObj 73 td), (td, txD w κ T0 p σ₀ σ₁)]
      (fun r f' rest => ∃ t σ₂, r = .str (Txt.slice T0 (some p) (some (p + k))) t ∧ f' = [(tx, instObj 73 td), (td, txD w κ T0 (p + (Txt.slice T0 (some p) (some (p + k))).length) σ₀ σ₂)] ∧ (Txt.slice T0 (some p) (some (p + k))).length ≤ T0.length) := by
  unfold TellR Tell KF PG
  k_fill
  intro rest off mean mg mb dp un gd cn cs a ccd cl outer A₀ base h₀ L m s Q E B F X N T hk hd hu hret
  simp only [List.forall_mem_cons] at off
  obtain ⟨o1, o2, -⟩ := off
  dsimp only [List.cons_append, List.nil_append] at N
  k_dflt ktr_enter
  k_steps
  all_goals (refine hret _ _ _ _ (by assumption) (by assumption) ⟨_, ⟨_, _, rfl, rfl, by assumption⟩, rfl⟩)
end Mine
namespace Mine
open PySem.Builtin PySem.Builtin.Str in
def cnt4 (x y : PySem.Str) (i j : Nat) : Nat := (occurrences x y i (min j x.length) (x.length + 1)).length
open PySem.Builtin PySem.Builtin.Str in
def rf4 (x y : PySem.Str) (i j : Nat) : Int := match lastOccurrence x y i (min j x.length) with | some k => (k : Int) | none => -1
open PySem.Builtin PySem.Builtin.Str in
theorem nn_idx (n : Nat) (i : Nat) : (max (0 : Int) (if (i : Int) < 0 then (i : Int) + n else i)).toNat = i := by
  rw [if_neg (by omega)]; omega
open PySem.Builtin PySem.Builtin.Str in
theorem gives_count4 (x y : PySem.Str) (i j : Nat) (t u v z : Tok) : Gives (Builtin.«str.count» ⟨[.str x t, .str y u, .int i v, .int j z], []⟩) (.int (cnt4 x y i j)) := by
  show Gives (retInt (occurrences x y (max (0 : Int) (if (i : Int) < 0 then (i : Int) + x.length else i)).toNat (min (max (0 : Int) (if (j : Int) < 0 then (j : Int) + x.length else j)).toNat x.length) (x.length + 1)).length) _
  rw [nn_idx, nn_idx]
  exact .of_eq rfl
open PySem.Builtin PySem.Builtin.Str in
theorem gives_rfind4 (x y : PySem.Str) (i j : Nat) (t u v z : Tok) : Gives (Builtin.«str.rfind» ⟨[.str x t, .str y u, .int i v, .int j z], []⟩) (.int (rf4 x y i j)) := by
  show Gives (match lastOccurrence x y (max (0 : Int) (if (i : Int) < 0 then (i : Int) + x.length else i)).toNat (min (max (0 : Int) (if (j : Int) < 0 then (j : Int) + x.length else j)).toNat x.length) with | some k => retInt k | none => (do rule "str.rfind.not-found"; retInt (-1))) _
  rw [nn_idx, nn_idx]
  unfold rf4
  cases lastOccurrence x y i (min j x.length) with
  | none => exact .rule (.of_eq rfl)
  | some k => exact .of_eq rfl
section
variable {prog : Program} {w : World} {A : Around} {E : Value → Shared → Prop} {s : Shared} {x y : PySem.Str} {t u v z : Tok} {i j : Int} {Q : Value → Shared → Prop}
theorem count4 (h0 : 0 ≤ i) (h1 : 0 ≤ j) (hq : Q (.int (cnt4 x y i.toNat j.toNat) s.toks) { s with toks := s.toks + 1 }) : wpAny (model prog w) A (call (.builtin "str.count") [.str x t, .str y u, .int i v, .int j z]) Q E s := by
  obtain ⟨i, rfl⟩ := Int.eq_ofNat_of_zero_le h0
  obtain ⟨j, rfl⟩ := Int.eq_ofNat_of_zero_le h1
  exact call_gives F.slot_str_count (typeIs_str _ _ _) F.entry_str_count (F.args_str_count_4 _ _ _ _) (gives_count4 x y i j t u v z) hq
theorem rfind4 (h0 : 0 ≤ i) (h1 : 0 ≤ j) (hq : Q (.int (rf4 x y i.toNat j.toNat) s.toks) { s with toks := s.toks + 1 }) : wpAny (model prog w) A (call (.builtin "str.rfind") [.str x t, .str y u, .int i v, .int j z]) Q E s := by
  obtain ⟨i, rfl⟩ := Int.eq_ofNat_of_zero_le h0
  obtain ⟨j, rfl⟩ := Int.eq_ofNat_of_zero_le h1
  exact call_gives F.slot_str_rfind (typeIs_str _ _ _) F.entry_str_rfind (F.args_str_rfind_4 _ _ _ _) (gives_rfind4 x y i j t u v z) hq
end
abbrev nlS : PySem.Str := PySem.Str.ofString "\n"
def posL (c : PySem.Str) (pl off : Int) : Int := pl + cnt4 c nlS 0 off.toNat
def posC (c : PySem.Str) (pc off : Int) : Int := if rf4 c nlS 0 off.toNat = -1 then pc + off else off - (rf4 c nlS 0 off.toNat + 1)
abbrev pairObj (a b : Int) (t u : Nat) : Obj := { cls := .type "tuple", data := .seq #[.int a t, .int b u] 0 }
end Mine
theorem Mine.off_c3 {M : Model} {A : Around} {env : Env} {Q : Flow → Shared → Prop} {E : Value → Shared → Prop} {s : Shared} (h : wpAny M A (execs [] env) Q E s) : wpAny M A (execs [] env) Q E s := by
  (try (walk1; fail "no"))
  w_top off
  exact h
namespace Mine
local macro_rules | `(tactic| k_ne) => `(tactic| first | exact (show Nq _ _ by with_reducible assumption) | exact Ne.symm (show Nq _ _ by with_reducible assumption) | (refine neN ?_; (try dsimp only); omega))
local macro_rules | `(tactic| k_room) => `(tactic| ((try simp only [depth_under_make, depth_under_kw, depth_in1, depth_deeper, depth_caller, ktrTop, recursionLimit] at *); omega))
local macro_rules | `(tactic| k_units) => `(tactic| ((have hcL9 := cLine_is); (try simp only [units_in1, units_deeper, Around.mark_units, units_caller, ktrTop] at *); omega))
local macro_rules | `(tactic| ktr_enter) => `(tactic| (refine' code_def ?k1 ?k2 ?k3 ?k4 ?k5 ?kA ?kF ?kK ?k6 ?k7 ?k8 ?k9 ?kB ?_ ?c2 ?c3 ?c4 ?c5; (case kA => exact rfl); (case kF => exact rfl); (case kK => first | exact rfl | assumption); (case k1 => k_asm); (case k2 => k_asm); (case k3 => k_asm); (case k4 => k_asm); (case k5 => k_asm); (case k6 => k_is); (case k7 => k_is); (case k8 => k_room); (case k9 => first | exact BindsTo.of_eq rfl | exact binds_K (by k_in) rfl (by k_is) rfl rfl rfl); (case c5 => decide); (case kB => exact locs rfl); (case c2 => exact rfl); (case c3 => exact rfl); (case c4 => exact rfl); k_whole; intro g' L' h' FG' F' N' B' X' T'; (try dsimp only); (try k_fold)))
local macro_rules | `(tactic| k_all) => `(tactic| (with_reducible assumption))
local macro_rules | `(tactic| tb_lt) => `(tactic| first | exact Pick.head | (refine' Pick.tail ?c; (case c => tb_lt)))
local macro_rules | `(tactic| tb_start) => `(tactic| first | exact Picks.nil | (refine' Picks.cons ?a ?b; (case a => tb_lt); (case b => tb_start)))
local macro_rules | `(tactic| tb_rel) => `(tactic| first | exact List.forall_mem_nil _ | (refine' List.forall_mem_cons.mpr ⟨?a, ?b⟩; (case a => k_all); (case b => tb_rel)))
local macro_rules | `(tactic| walk_at "TPost") => `(tactic| (dsimp only [TPost]))
local macro_rules | `(tactic| size_fits) => `(tactic| ((simp only [PySem.sizeLine_eq, List.size_toArray]); omega))
local macro_rules | `(tactic| k_gentoks) => `(tactic| (with_reducible refine' gen_toksP ?hp ?_; (case hp => first | omega | ((try simp only [List.length_cons]); omega)); intro tk htk))
local macro_rules | `(tactic| kstt_sub) => `(tactic| first | exact fun _ h => h | assumption | (refine' subCons ?a ?b; (case a => k_mem); (case b => kstt_sub)) | (refine' subTail ?a; (case a => kstt_sub)))
local macro_rules | `(tactic| kst_all) => `(tactic| first | exact List.forall_mem_nil _ | (refine' List.forall_mem_cons.mpr ⟨?a, ?b⟩; (case a => exact rfl); (case b => kst_all)))
local macro_rules | `(tactic| walk_at "MidEnd") => `(tactic| first
  | ((with_reducible show MidEnd _ _ _ _ _ _ _ Flow.next _); (refine' ⟨(tk8 _ _ _ _ _ _ _ _, _), _, _, _, rfl, ?F, ?N, ?ps, ?P⟩); (case F => assumption); (case N => (refine' nsub ?N1 ?N2; (case N1 => assumption); (case N2 => kstt_sub))); (case ps => kst_all); (case P => k_extra "mid"))
  | ((fail_if_success (with_reducible show MidEnd _ _ _ _ _ _ _ Flow.next _)); dsimp only [MidEnd]))
local macro_rules | `(tactic| walk_at "WEnd") => `(tactic| ((fail_if_success (with_reducible show WEnd _ _ _ _ _ _ _ _ _ Flow.next _)); dsimp only [WEnd]))
local macro_rules | `(tactic| walk_at "callWith") => `(tactic| (k_here; (with_reducible refine' callWith_method1 ?_ ?he ?hp); (case he => k_dflt rfl); (case hp => k_dflt rfl)))
local macro_rules | `(tactic| k_steps) => `(tactic| repeat' (first | (k_unfold; (try dsimp only)) | (k_end; wrow_close) | walk1 | (dsimp only [List.cons_append, List.nil_append]; walk1) | (dsimp only) | fail "no step"))
local macro_rules | `(tactic| walk_at "call builtin:str.count") => `(tactic| (k_here; refine' count4 ?c1 ?c2 ?_; (case c1 => omega); (case c2 => omega); (try dsimp only)))
local macro_rules | `(tactic| walk_at "call builtin:str.rfind") => `(tactic| (k_here; refine' rfind4 ?c1 ?c2 ?_; (case c1 => omega); (case c2 => omega); (try dsimp only)))
theorem position0_t {w : World} {sx sd : Nat} {κ : Nat → Nat} {τ₀ τ₁ τ₂ τ₃ τ₄ : Nat} {ra nl tx el : Nat} {c : PySem.Str} {sz o pl pc off : Int} {bf : Value} {tk : Nat} (hne : sx ≠ sd) (ho : 0 ≤ off) :
    TellR w 1 8 (.ref 119) [.ref sx, .int off tk] [(sx, instObj 166 sd), (sd, sdD w κ ra nl tx el c sz o pl pc bf τ₀ τ₁ τ₂ τ₃ τ₄)]
      (fun r f' rest => ∃ ta t1 t2, r = .ref ta ∧ f' = [(ta, pairObj (posL c pl off) (posC c pc off) t1 t2), (sx, instObj 166 sd), (sd, sdD w κ ra nl tx el c sz o pl pc bf τ₀ τ₁ τ₂ τ₃ τ₄)] ∧ AllLt ta ((sx, instObj 166 sd) :: (sd, sdD w κ ra nl tx el c sz o pl pc bf τ₀ τ₁ τ₂ τ₃ τ₄) :: rest)) := by
  unfold TellR Tell KF PG
  k_fill
  intro rest off' mean mg mb dp un gd cn cs a ccd cl outer A₀ base h₀ L m s Q E B F X N T hk hd hu hret
  simp only [List.forall_mem_cons] at off'
  obtain ⟨o1, o2, -⟩ := off'
  dsimp only [List.cons_append, List.nil_append] at N
  k_dflt ktr_enter
  k_steps
  all_goals (refine' hret _ _ _ _ (by assumption) ?N ⟨_, ⟨_, _, _, rfl, rfl, by assumption⟩, rfl⟩; (case N => (first | rw [show posC c pc off = pc + off from if_pos (by assumption)] | rw [show posC c pc off = off - (rf4 c nlS 0 off.toNat + 1) from if_neg (by assumption)]); (unfold posL; assumption)))
end Mine
theorem Mine.off_c4 {M : Model} {A : Around} {env : Env} {Q : Flow → Shared → Prop} {E : Value → Shared → Prop} {s : Shared} (h : wpAny M A (execs [] env) Q E s) : wpAny M A (execs [] env) Q E s := by
  (try (walk1; fail "no"))
  w_top off
  exact h
namespace Mine
local macro_rules | `(tactic| k_ne) => `(tactic| first | exact (show Nq _ _ by with_reducible assumption) | exact Ne.symm (show Nq _ _ by with_reducible assumption) | (refine neN ?_; (try dsimp only); omega))
local macro_rules | `(tactic| k_room) => `(tactic| ((try simp only [depth_under_make, depth_under_kw, depth_in1, depth_deeper, depth_caller, ktrTop, recursionLimit] at *); omega))
local macro_rules | `(tactic| k_units) => `(tactic| ((have hcL9 := cLine_is); (try simp only [units_in1, units_deeper, Around.mark_units, units_caller, ktrTop] at *); omega))
local macro_rules | `(tactic| ktr_enter) => `(tactic| (refine' code_def ?k1 ?k2 ?k3 ?k4 ?k5 ?kA ?kF ?kK ?k6 ?k7 ?k8 ?k9 ?kB ?_ ?c2 ?c3 ?c4 ?c5; (case kA => exact rfl); (case kF => exact rfl); (case kK => first | exact rfl | assumption); (case k1 => k_asm); (case k2 => k_asm); (case k3 => k_asm); (case k4 => k_asm); (case k5 => k_asm); (case k6 => k_is); (case k7 => k_is); (case k8 => k_room); (case k9 => first | exact BindsTo.of_eq rfl | exact binds_K (by k_in) rfl (by k_is) rfl rfl rfl); (case c5 => decide); (case kB => exact locs rfl); (case c2 => exact rfl); (case c3 => exact rfl); (case c4 => exact rfl); k_whole; intro g' L' h' FG' F' N' B' X' T'; (try dsimp only); (try k_fold)))
local macro_rules | `(tactic| k_all) => `(tactic| (with_reducible assumption))
local macro_rules | `(tactic| tb_lt) => `(tactic| first | exact Pick.head | (refine' Pick.tail ?c; (case c => tb_lt)))
local macro_rules | `(tactic| tb_start) => `(tactic| first | exact Picks.nil | (refine' Picks.cons ?a ?b; (case a => tb_lt); (case b => tb_start)))
local macro_rules | `(tactic| tb_rel) => `(tactic| first | exact List.forall_mem_nil _ | (refine' List.forall_mem_cons.mpr ⟨?a, ?b⟩; (case a => k_all); (case b => tb_rel)))
local macro_rules | `(tactic| walk_at "TPost") => `(tactic| (dsimp only [TPost]))
local macro_rules | `(tactic| size_fits) => `(tactic| ((simp only [PySem.sizeLine_eq, List.size_toArray]); omega))
local macro_rules | `(tactic| k_gentoks) => `(tactic| (with_reducible refine' gen_toksP ?hp ?_; (case hp => first | omega | ((try simp only [List.length_cons]); omega)); intro tk htk))
local macro_rules | `(tactic| kstt_sub) => `(tactic| first | exact fun _ h => h | assumption | (refine' subCons ?a ?b; (case a => k_mem); (case b => kstt_sub)) | (refine' subTail ?a; (case a => kstt_sub)))
local macro_rules | `(tactic| kst_all) => `(tactic| first | exact List.forall_mem_nil _ | (refine' List.forall_mem_cons.mpr ⟨?a, ?b⟩; (case a => exact rfl); (case b => kst_all)))
local macro_rules | `(tactic| walk_at "MidEnd") => `(tactic| first
  | ((with_reducible show MidEnd _ _ _ _ _ _ _ Flow.next _); (refine' ⟨(tk8 _ _ _ _ _ _ _ _, _), _, _, _, rfl, ?F, ?N, ?ps, ?P⟩); (case F => assumption); (case N => (refine' nsub ?N1 ?N2; (case N1 => assumption); (case N2 => kstt_sub))); (case ps => kst_all); (case P => k_extra "mid"))
  | ((fail_if_success (with_reducible show MidEnd _ _ _ _ _ _ _ Flow.next _)); dsimp only [MidEnd]))
local macro_rules | `(tactic| walk_at "WEnd") => `(tactic| ((fail_if_success (with_reducible show WEnd _ _ _ _ _ _ _ _ _ Flow.next _)); dsimp only [WEnd]))
local macro_rules | `(tactic| walk_at "callWith") => `(tactic| (k_here; (with_reducible refine' callWith_method1 ?_ ?he ?hp); (case he => k_dflt rfl); (case hp => k_dflt rfl)))
local macro_rules | `(tactic| k_steps) => `(tactic| repeat' (first | (k_unfold; (try dsimp only)) | (k_end; wrow_close) | walk1 | (dsimp only [List.cons_append, List.nil_append]; walk1) | (dsimp only) | fail "no step"))
def inv (c : Int) : Prop := (1 ≤ c ∧ c ≤ 8) ∨ c = 11 ∨ (14 ≤ c ∧ c ≤ 31) ∨ (127 ≤ c ∧ c ≤ 159) ∨ (64976 ≤ c ∧ c ≤ 65007) ∨ (c % 65536 = 65534 ∨ c % 65536 = 65535) ∨ (55296 ≤ c ∧ c ≤ 57343)
instance (c : Int) : Decidable (inv c) := by unfold inv; infer_instance
theorem inv_end {c : Int} {b : Bool} {P Q : Value → Prop} (h : P (.bool (decide (inv c)))) (e : b = decide (inv c)) : P (.bool b) := e ▸ h
theorem gen_cont {M : Model} {A : Around} {t : Sem Value} {E : Value → Shared → Prop} {s : Shared} {Q : Value → Shared → Prop} (h : ∀ Q' : Value → Shared → Prop, (∀ v s', Q v s' → Q' v s') → wpAny M A t Q' E s) : wpAny M A t Q E s := h Q fun _ _ h => h
/-- a value and what it leaves -/
def ValEnd (V : Value → Prop) (h₀ : Heap) (L : Addr) (m : PySem.Str → Option Value) (news : List (Addr × Obj)) (s : Shared) (v : Value) (s' : Shared) : Prop :=
  V v ∧ ∃ h' tk, s' = { s with heap := h', toks := tk } ∧ Fr h₀ L h' m ∧ News h₀ L h' news
theorem mid_val {prog : Program} {w : World} {A : Around} {E : Value → Shared → Prop} {s : Shared} {h₀ : Heap} {L : Addr} {m : PySem.Str → Option Value} {news : List (Addr × Obj)} {t : Sem Value} {Q : Value → Shared → Prop} (V : Value → Prop) (_F : Fr h₀ L s.heap m) (_N : News h₀ L s.heap news)
    (h : wpAny (model prog w) A t (ValEnd V h₀ L m news s) E s) (k : ∀ v h' tk, V v → Fr h₀ L h' m → News h₀ L h' news → Q v { s with heap := h', toks := tk }) : wpAny (model prog w) A t Q E s := by
  refine wpAny_mono h (fun v s' hv => ?_) fun _ _ e => e
  obtain ⟨hV, h', tk, rfl, F, N⟩ := hv
  exact k v h' tk hV F N
theorem is_invalid_t {w : World} {c : Int} {tk : Nat} : TellR w 1 8 (.ref 84) [.int c tk] [] (fun r f' rest => r = .bool (decide (inv c)) ∧ f' = []) := by
  unfold TellR Tell KF PG
  k_fill
  intro rest off' mean mg mb dp un gd cn cs a ccd cl outer A₀ base h₀ L m s Q E B F X N T hk hd hu hret
  dsimp only [List.cons_append, List.nil_append] at N
  k_dflt ktr_enter
  repeat' (first | ((fail_if_success (with_reducible show wpAny _ _ (eval (PySem.Expr.BoolOp _ _ _) _) _ _ _)); first | (k_unfold; (try dsimp only)) | (k_end; wrow_close) | walk1 | (dsimp only [List.cons_append, List.nil_append]; walk1) | (dsimp only) | fail "no step"))
  (rename Fr _ _ _ _ => f8)
  (rename News _ _ _ _ => n8)
  refine mid_val (fun v => v = .bool (decide (inv c))) f8 n8 ?ev ?co
  case co =>
    intro v h' tk hv F' N'
    subst hv
    k_steps
    all_goals exact hret _ _ _ _ (by assumption) (by first | assumption | exact nsub (by assumption) (fun p hp => List.mem_cons_of_mem _ hp)) ⟨_, ⟨rfl, rfl⟩, rfl⟩
  case ev =>
    repeat' (first | ((fail_if_success (with_reducible show ValEnd _ _ _ _ _ _ _ _)); first
      | ((with_reducible show wpAny _ _ (eval (PySem.Expr.Compare _ _ _ _) _) _ _ _); refine gen_cont ?_; intro Q9 hQ9; walk1)
      | (refine hQ9 _ _ ?_; clear hQ9 Q9; (try dsimp only))
      | (k_unfold; (try dsimp only)) | (k_end; wrow_close) | walk1 | (dsimp only [List.cons_append, List.nil_append]; walk1) | (dsimp only) | fail "no step"))
    all_goals refine ⟨congrArg Value.bool ?_, _, _, rfl, (by assumption), (by first | assumption | exact nsub (by assumption) (fun p hp => List.mem_cons_of_mem _ hp))⟩
    all_goals (rw [Bool.eq_iff_iff]; (try simp only [Int.fmod_eq_emod_of_nonneg _ (show (0 : Int) ≤ 65536 by decide)] at *); simp only [decide_eq_true_eq, decide_eq_false_iff_not, beq_iff_eq, Bool.false_eq_true, true_iff, false_iff, List.any_cons, List.any_nil, Bool.or_eq_true, Bool.or_false, Bool.or_eq_false_iff, beq_eq_false_iff_ne] at *; unfold inv; omega)
end Mine
namespace Mine
section
variable {prog : Program} {w : World} {A : Around} {E : Value → Shared → Prop} {s : Shared} {env : Env} {h₀ : Heap} {x : PySem.Str} {body : List Stmt} {Q : Flow → Shared → Prop}
def TEnd {σ : Type} (h₀ : Heap) (L : Addr) (front : σ → List (Addr × Obj)) (J : σ → (PySem.Str → Option Value) → Prop) (rest : List (Addr × Obj)) (s₁ s₂ : Shared) : Prop :=
  ∃ c h' tk m', s₂ = { s₁ with heap := h', toks := tk } ∧ Fr h₀ L h' m' ∧ News h₀ L h' (front c ++ rest) ∧ (∀ q ∈ front c, ∀ p ∈ rest, p.1 ≠ q.1) ∧ J c m'
def TPost {σ : Type} (h₀ : Heap) (L : Addr) (front : σ → List (Addr × Obj)) (J : σ → (PySem.Str → Option Value) → Prop) (rest : List (Addr × Obj)) (s₁ : Shared) (Q : Flow → Shared → Prop) (f : Flow) (s₂ : Shared) : Prop :=
  match f with
  | .ret v => Q (.ret v) s₂
  | .brk => Q .next s₂
  | _ => TEnd h₀ L front J rest s₁ s₂
theorem loop_gen {σ : Type} {I : Addr} {fp wr : List Addr} {n : Nat} {Pv : Nat → Value → Prop} {St : Nat → Heap → Prop} {m₀ : PySem.Str → Option Value} (front : σ → List (Addr × Obj)) (rest : List (Addr × Obj)) (J : Nat → σ → (PySem.Str → Option Value) → Prop) (c₀ : σ)
    (W : Walks prog w A I fp wr n Pv St) (hLf : env.locals ∉ fp) (hwr : ∀ b ∈ wr, h₀.get? b = none) (hal : ∀ i h, St i h → ∀ b ∈ fp, ∃ o, h.get? b = some o) (hst : St 0 s.heap)
    (F : Fr h₀ env.locals s.heap m₀) (N : News h₀ env.locals s.heap (front c₀ ++ rest)) (hff : ∀ q ∈ front c₀, q.1 ∉ fp) (hfr : ∀ q ∈ rest, q.1 ∉ wr) (off : ∀ q ∈ front c₀, ∀ p ∈ rest, p.1 ≠ q.1) (hj : J 0 c₀ m₀)
    (turn : ∀ i v c m₁ h tk rest', i < n → Pv i v → J i c m₁ → (∀ q ∈ front c, ∀ p ∈ rest', p.1 ≠ q.1) → (∀ p ∈ rest, p ∈ rest') → Fr h₀ env.locals h (fun y => if y = x then some v else m₁ y) → News h₀ env.locals h (front c ++ rest') →
      wpAny (model prog w) A (execs body env) (TPost h₀ env.locals front (J (i + 1)) rest' { s with heap := h, toks := tk } Q) E { s with heap := h, toks := tk })
    (done : ∀ c m₁ h tk, J n c m₁ → (∀ q ∈ front c, ∀ p ∈ rest, p.1 ≠ q.1) → Fr h₀ env.locals h m₁ → News h₀ env.locals h (front c ++ rest) → Q .next { s with heap := h, toks := tk }) :
    LoopAtV prog w A h₀ env x body Q E (.ref I) s := by
  let J' : Nat → (PySem.Str → Option Value) → List (Addr × Obj) → Prop := fun i m nx => ∃ c, nx = front c ++ rest ∧ (∀ q ∈ front c, q.1 ∉ fp) ∧ (∀ q ∈ front c, ∀ p ∈ rest, p.1 ≠ q.1) ∧ J i c m
  have hwf : ∀ c, (∀ q ∈ front c, q.1 ∉ fp) → ∀ p ∈ front c ++ rest, p.1 ∉ wr := fun c hc p hp =>
    (List.mem_append.mp hp).elim (fun h q => hc p h (W.sub _ q)) (fun h => hfr p h)
  refine ⟨I, fp, wr, n, Pv, St, m₀, front c₀ ++ rest, J', rfl, W, hLf, hwr, hwf c₀ hff, hst, F, N, ⟨c₀, rfl, hff, off, hj⟩, ?_, ?_⟩
  · rintro i v m₁ _ s₁ own ⟨hh', tk', rfl⟩ hin hP ⟨c, rfl, hcf, hco, hJ⟩ _ hown hgo hal' hst' F₁ N₁
    have N₂ : News h₀ env.locals hh' (front c ++ (rest ++ own)) := nsub N₁ fun p hp => by
      simp only [List.mem_append] at hp ⊢
      rcases hp with h | h | h
      · exact .inr (.inl h)
      · exact .inr (.inr h)
      · exact .inl h
    refine wpAny_mono (turn i v c m₁ hh' tk' (rest ++ own) hin hP hJ (fun q hq p hp => ?_) (fun p hp => List.mem_append_left _ hp) F₁ N₂) (fun f s₂ p => ?_) fun _ _ e => e
    · rcases List.mem_append.mp hp with hp | hp
      · exact hco q hq p hp
      · intro e; exact hcf q hq (e ▸ hown p hp)
    have fin : TEnd h₀ env.locals front (J (i + 1)) (rest ++ own) { s with heap := hh', toks := tk' } s₂ → LoopStepU h₀ env.locals wr own (J' (i + 1)) { s with heap := hh', toks := tk' } .next s₂ := by
      rintro ⟨c', h', tk, m', e, F', N', o', hm⟩
      have hc' : ∀ q ∈ front c', q.1 ∉ fp := fun q hq hf => by
        have hn : h₀.get? q.1 = none := (N' q (List.mem_append_left _ hq)).2.2
        obtain ⟨o, ho⟩ := hal _ _ hst' q.1 hf
        exact o' q hq (q.1, o) (List.mem_append_right _ (hal' q.1 hf hn o ho)) rfl
      refine ⟨rfl, h', tk, m', front c' ++ rest, e, F', nsub N' fun p hp => ?_, hwf c' hc', c', rfl, hc', fun q hq p hp => o' q hq p (List.mem_append_left _ hp), hm⟩
      simp only [List.mem_append] at hp ⊢
      rcases hp with h | h | h
      · exact .inr (.inr h)
      · exact .inl h
      · exact .inr (.inl h)
    cases f with
    | ret v => exact .ret p
    | brk => exact .brk p
    | next => exact .next (fin p)
    | cont => exact .cont (fin p)
  · rintro h' tk m' news' F' N' _ ⟨c, rfl, _, hco, hJ⟩
    exact done c m' h' tk hJ hco F' N'
end
end Mine
namespace Mine
section
variable {prog : Program} {w : World} {A : Around} {E : Value → Shared → Prop} {s : Shared} {env : Env} {h₀ : Heap} {x : PySem.Str} {body : List Stmt} {Q : Flow → Shared → Prop}
/-- what a turn keeps of the frame: named locals, the rest unchanged -/
def KJ {σ : Type} (x : PySem.Str) (ps : σ → List (PySem.Str × Value)) (stored : List PySem.Str) (m₀ : PySem.Str → Option Value) (P : σ → Prop) (c : σ) (m : PySem.Str → Option Value) : Prop :=
  (∀ p ∈ ps c, m p.1 = some p.2) ∧ (∀ z, z ≠ x → (∀ p ∈ ps c, z ≠ p.1) → stored.contains z = false → m z = m₀ z) ∧ P c
theorem pyIter_str2 {xt : PySem.Str} {t : Tok} {Q : Value → Shared → Prop}
    (hQ : ∀ (o : Obj) (St : Nat → Heap → Prop), (∀ A' : Around, A'.handled = none → Walks prog w A' s.heap.objs.size [s.heap.objs.size] [s.heap.objs.size] xt.cps.size (SignAt xt) St) → (∀ i h, St i h → ∃ o, h.get? s.heap.objs.size = some o) → St 0 (s.heap.push o) →
      Q (.ref s.heap.objs.size) { s with heap := s.heap.push o }) : wpAny (model prog w) A (pyIter (.str xt t)) Q E s := by
  cases ha : xt.cps.all (· < 128)
  · exact wpAny_pyIter_wide ha (hQ _ _ (fun A' hA => Walks.strWide hA _ xt t) (fun i h ⟨o, ho, _⟩ => ⟨o, ho⟩) ⟨_, Heap.get?_push_size _ rfl, rfl, rfl⟩)
  · exact wpAny_pyIter_ascii ha (hQ _ _ (fun A' hA => Walks.strAscii hA _ xt t) (fun i h ⟨o, ho, _⟩ => ⟨o, ho⟩) ⟨_, Heap.get?_push_size _ rfl, rfl, rfl⟩)
theorem take_at {α : Type} {l : List α} {i : Nat} {a : α} (h : l[i]? = some a) : l = l.take i ++ a :: l.drop (i + 1) ∧ l.take (i + 1) = l.take i ++ [a] := by
  have hs : l.take (i + 1) = l.take i ++ [a] := by simp [List.take_add_one, h]
  refine ⟨?_, hs⟩
  have ht := List.take_append_drop (i + 1) l
  rw [hs, List.append_assoc] at ht
  exact ht.symm
theorem str_loop {σ : Type} {xt : PySem.Str} {tx : Tok} {m₀ : PySem.Str → Option Value} (front : σ → List (Addr × Obj)) (rest : List (Addr × Obj)) (ps : σ → List (PySem.Str × Value)) (stored : List PySem.Str) (P : List Nat → σ → Prop) (c₀ : σ)
    (hh : A.handled = none) (F : Fr h₀ env.locals s.heap m₀) (N : News h₀ env.locals s.heap (front c₀ ++ rest)) (off : ∀ q ∈ front c₀, ∀ p ∈ rest, p.1 ≠ q.1) (hk : ∀ p ∈ ps c₀, m₀ p.1 = some p.2) (hp : P [] c₀)
    (turn : ∀ (c : σ) (pre post : List Nat) (n : Nat) (t : Nat) (u : PySem.Str → Option Value) (h : Heap) (tk : Nat) (rest' : List (Addr × Obj)), xt.cps.toList = pre ++ n :: post → P pre c → (∀ q ∈ front c, ∀ p ∈ rest', p.1 ≠ q.1) → (∀ p ∈ rest, p ∈ rest') →
      Fr h₀ env.locals h (fun y => if y = x then some (.str ⟨#[n]⟩ t) else kstB (fun z => if stored.contains z then u z else m₀ z) (ps c) y) → News h₀ env.locals h (front c ++ rest') →
      wpAny (model prog w) A (execs body env) (TPost h₀ env.locals front (KJ x ps stored m₀ (P (pre ++ [n]))) rest' { s with heap := h, toks := tk } Q) E { s with heap := h, toks := tk })
    (done : ∀ (c : σ) (u : PySem.Str → Option Value) (h : Heap) (tk : Nat), P xt.cps.toList c → (∀ q ∈ front c, ∀ p ∈ rest, p.1 ≠ q.1) → Fr h₀ env.locals h (fun y => if y = x then u y else kstB (fun z => if stored.contains z then u z else m₀ z) (ps c) y) → News h₀ env.locals h (front c ++ rest) →
      Q .next { s with heap := h, toks := tk }) :
    wpAny (model prog w) A (pyIter (.str xt tx)) (fun it s₂ => LoopAtV prog w A h₀ env x body Q E it s₂) E s := by
  refine pyIter_str2 fun o St hW hal hst => ?_
  have W := hW A hh
  have hI : ∀ q ∈ front c₀ ++ rest, q.1 ≠ s.heap.objs.size := fun q hq e => absurd (Heap.lt_size (N q hq).1) (e ▸ Nat.lt_irrefl _)
  refine loop_gen front rest (fun i => KJ x ps stored m₀ (P (xt.cps.toList.take i))) c₀ W ?_ ?_ ?_ hst (F.push _) (fun p hp => ⟨Heap.get?_push_of_some _ (N p hp).1, (N p hp).2⟩) ?_ ?_ off ⟨hk, fun _ _ _ _ => rfl, by simpa using hp⟩ ?_ ?_
  · intro hm
    exact absurd F.ns.lt ((List.mem_singleton.mp hm) ▸ Nat.lt_irrefl _)
  · intro b' hb
    rw [List.mem_singleton.mp hb]
    exact next_is_new F
  · intro i h hs b hb
    rw [List.mem_singleton.mp hb]
    exact hal i h hs
  · intro q hq hf
    exact hI q (List.mem_append_left _ hq) (List.mem_singleton.mp hf)
  · intro q hq hf
    exact hI q (List.mem_append_right _ hq) (List.mem_singleton.mp hf)
  · rintro i v c m₁ h tk rest' hi ⟨n, u, hn, rfl⟩ ⟨h1, h2, hp'⟩ off' sub' F₁ N₁
    have hn' : xt.cps.toList[i]? = some n := by simpa using hn
    obtain ⟨e1, e2⟩ := take_at hn'
    rw [e2]
    exact turn c _ _ n u m₁ h tk rest' e1 hp' off' sub' (kst_fr h1 h2 F₁) N₁
  · rintro c m₁ h tk ⟨h1, h2, hp'⟩ off' F₁ N₁
    rw [show xt.cps.toList.take xt.cps.size = xt.cps.toList from List.take_of_length_le (by simp)] at hp'
    exact done c m₁ h tk hp' off' (kst_frOut h1 h2 F₁) N₁
theorem list_loop {σ : Type} {l : Addr} {vs : List Value} {m₀ : PySem.Str → Option Value} (front : σ → List (Addr × Obj)) (rest : List (Addr × Obj)) (ps : σ → List (PySem.Str × Value)) (stored : List PySem.Str) (P : List Value → σ → Prop) (c₀ : σ)
    (hh : A.handled = none) (hl : s.heap.IsList l vs.toArray) (hlr : (∃ o, (l, o) ∈ rest) ∨ ∃ o, h₀.get? l = some o) (F : Fr h₀ env.locals s.heap m₀) (N : News h₀ env.locals s.heap (front c₀ ++ rest)) (off : ∀ q ∈ front c₀, ∀ p ∈ rest, p.1 ≠ q.1) (hk : ∀ p ∈ ps c₀, m₀ p.1 = some p.2) (hp : P [] c₀)
    (turn : ∀ (c : σ) (pre post : List Value) (v : Value) (u : PySem.Str → Option Value) (h : Heap) (tk : Nat) (rest' : List (Addr × Obj)), vs = pre ++ v :: post → P pre c → (∀ q ∈ front c, ∀ p ∈ rest', p.1 ≠ q.1) → (∀ p ∈ rest, p ∈ rest') →
      Fr h₀ env.locals h (fun y => if y = x then some v else kstB (fun z => if stored.contains z then u z else m₀ z) (ps c) y) → News h₀ env.locals h (front c ++ rest') →
      wpAny (model prog w) A (execs body env) (TPost h₀ env.locals front (KJ x ps stored m₀ (P (pre ++ [v]))) rest' { s with heap := h, toks := tk } Q) E { s with heap := h, toks := tk })
    (done : ∀ (c : σ) (u : PySem.Str → Option Value) (h : Heap) (tk : Nat), P vs c → (∀ q ∈ front c, ∀ p ∈ rest, p.1 ≠ q.1) → Fr h₀ env.locals h (fun y => if y = x then u y else kstB (fun z => if stored.contains z then u z else m₀ z) (ps c) y) → News h₀ env.locals h (front c ++ rest) →
      Q .next { s with heap := h, toks := tk }) :
    wpAny (model prog w) A (pyIter (.ref l)) (fun it s₂ => LoopAtV prog w A h₀ env x body Q E it s₂) E s := by
  obtain ⟨ol, hol, _⟩ := id hl
  have hlt : l < s.heap.objs.size := Heap.lt_size hol
  have hne : l ≠ s.heap.objs.size := Nat.ne_of_lt hlt
  have hI : ∀ q ∈ front c₀ ++ rest, q.1 ≠ s.heap.objs.size := fun q hq e => absurd (Heap.lt_size (N q hq).1) (e ▸ Nat.lt_irrefl _)
  have hlL : l ≠ env.locals := by
    rcases hlr with ⟨o, ho⟩ | ⟨o, ho⟩
    · exact (N (l, o) (List.mem_append_right _ ho)).2.1
    · exact Nat.ne_of_lt (Nat.lt_of_lt_of_le (Heap.lt_size ho) F.above)
  refine wpAny_pyIter_list hl ?_
  have W := Walks.list (prog := prog) (w := w) hh s.heap.objs.size l hne vs.toArray
  have hlen : vs.toArray.size = vs.length := by simp
  rw [hlen] at W
  refine loop_gen front rest (fun i => KJ x ps stored m₀ (P (vs.take i))) c₀ W ?_ ?_ ?_ ⟨⟨_, Heap.get?_push_size _ rfl, rfl, rfl⟩, hl.at fun o e => Heap.get?_push_of_some _ e⟩ (F.push _) (fun p hp => ⟨Heap.get?_push_of_some _ (N p hp).1, (N p hp).2⟩) ?_ ?_ off ⟨hk, fun _ _ _ _ => rfl, by simpa using hp⟩ ?_ ?_
  · intro hm
    rcases List.mem_cons.mp hm with e | hm
    · exact absurd F.ns.lt (e ▸ Nat.lt_irrefl _)
    · exact hlL (List.mem_singleton.mp hm).symm
  · intro b' hb
    rw [List.mem_singleton.mp hb]
    exact next_is_new F
  · rintro i h ⟨⟨o, ho, _⟩, ⟨o', ho', _⟩⟩ b hb
    rcases List.mem_cons.mp hb with rfl | hb
    · exact ⟨o, ho⟩
    · rw [List.mem_singleton.mp hb]; exact ⟨o', ho'⟩
  · intro q hq hf
    rcases List.mem_cons.mp hf with e | hf
    · exact hI q (List.mem_append_left _ hq) e
    · have e := List.mem_singleton.mp hf
      rcases hlr with ⟨o, ho⟩ | ⟨o, ho⟩
      · exact off q hq _ ho e.symm
      · have := (N q (List.mem_append_left _ hq)).2.2
        rw [e, ho] at this
        cases this
  · intro q hq hf
    exact hI q (List.mem_append_right _ hq) (List.mem_singleton.mp hf)
  · rintro i v c m₁ h tk rest' hi hv ⟨h1, h2, hp'⟩ off' sub' F₁ N₁
    have hn' : vs[i]? = some v := by simpa using hv
    obtain ⟨e1, e2⟩ := take_at hn'
    rw [e2]
    exact turn c _ _ v m₁ h tk rest' e1 hp' off' sub' (kst_fr h1 h2 F₁) N₁
  · rintro c m₁ h tk ⟨h1, h2, hp'⟩ off' F₁ N₁
    rw [List.take_length] at hp'
    exact done c m₁ h tk hp' off' (kst_frOut h1 h2 F₁) N₁
end
end Mine
theorem Mine.off_c5 {M : Model} {A : Around} {env : Env} {Q : Flow → Shared → Prop} {E : Value → Shared → Prop} {s : Shared} (h : wpAny M A (execs [] env) Q E s) : wpAny M A (execs [] env) Q E s := by
  (try (walk1; fail "no"))
  w_top off
  exact h
namespace Mine
local macro_rules | `(tactic| k_ne) => `(tactic| first | exact (show Nq _ _ by with_reducible assumption) | exact Ne.symm (show Nq _ _ by with_reducible assumption) | (refine neN ?_; (try dsimp only); omega))
local macro_rules | `(tactic| k_room) => `(tactic| ((try simp only [depth_under_make, depth_under_kw, depth_in1, depth_deeper, depth_caller, ktrTop, recursionLimit] at *); omega))
local macro_rules | `(tactic| k_units) => `(tactic| ((have hcL9 := cLine_is); (try simp only [units_in1, units_deeper, Around.mark_units, units_caller, ktrTop] at *); omega))
local macro_rules | `(tactic| ktr_enter) => `(tactic| (refine' code_def ?k1 ?k2 ?k3 ?k4 ?k5 ?kA ?kF ?kK ?k6 ?k7 ?k8 ?k9 ?kB ?_ ?c2 ?c3 ?c4 ?c5; (case kA => exact rfl); (case kF => exact rfl); (case kK => first | exact rfl | assumption); (case k1 => k_asm); (case k2 => k_asm); (case k3 => k_asm); (case k4 => k_asm); (case k5 => k_asm); (case k6 => k_is); (case k7 => k_is); (case k8 => k_room); (case k9 => first | exact BindsTo.of_eq rfl | exact binds_K (by k_in) rfl (by k_is) rfl rfl rfl); (case c5 => decide); (case kB => exact locs rfl); (case c2 => exact rfl); (case c3 => exact rfl); (case c4 => exact rfl); k_whole; intro g' L' h' FG' F' N' B' X' T'; (try dsimp only); (try k_fold)))
local macro_rules | `(tactic| k_all) => `(tactic| (with_reducible assumption))
local macro_rules | `(tactic| tb_lt) => `(tactic| first | exact Pick.head | (refine' Pick.tail ?c; (case c => tb_lt)))
local macro_rules | `(tactic| tb_start) => `(tactic| first | exact Picks.nil | (refine' Picks.cons ?a ?b; (case a => tb_lt); (case b => tb_start)))
local macro_rules | `(tactic| tb_rel) => `(tactic| first | exact List.forall_mem_nil _ | (refine' List.forall_mem_cons.mpr ⟨?a, ?b⟩; (case a => k_all); (case b => tb_rel)))
local macro_rules | `(tactic| walk_at "TPost") => `(tactic| (dsimp only [TPost]))
local macro_rules | `(tactic| size_fits) => `(tactic| ((simp only [PySem.sizeLine_eq, List.size_toArray]); omega))
local macro_rules | `(tactic| k_gentoks) => `(tactic| (with_reducible refine' gen_toksP ?hp ?_; (case hp => first | omega | ((try simp only [List.length_cons]); omega)); intro tk htk))
local macro_rules | `(tactic| kstt_sub) => `(tactic| first | exact fun _ h => h | assumption | (refine' subCons ?a ?b; (case a => k_mem); (case b => kstt_sub)) | (refine' subTail ?a; (case a => kstt_sub)))
local macro_rules | `(tactic| kst_all) => `(tactic| first | exact List.forall_mem_nil _ | (refine' List.forall_mem_cons.mpr ⟨?a, ?b⟩; (case a => exact rfl); (case b => kst_all)))
local macro_rules | `(tactic| walk_at "MidEnd") => `(tactic| first
  | ((with_reducible show MidEnd _ _ _ _ _ _ _ Flow.next _); (refine' ⟨(tk8 _ _ _ _ _ _ _ _, _), _, _, _, rfl, ?F, ?N, ?ps, ?P⟩); (case F => assumption); (case N => (refine' nsub ?N1 ?N2; (case N1 => assumption); (case N2 => kstt_sub))); (case ps => kst_all); (case P => k_extra "mid"))
  | ((fail_if_success (with_reducible show MidEnd _ _ _ _ _ _ _ Flow.next _)); dsimp only [MidEnd]))
local macro_rules | `(tactic| walk_at "WEnd") => `(tactic| ((fail_if_success (with_reducible show WEnd _ _ _ _ _ _ _ _ _ Flow.next _)); dsimp only [WEnd]))
local macro_rules | `(tactic| walk_at "callWith") => `(tactic| (k_here; (with_reducible refine' callWith_method1 ?_ ?he ?hp); (case he => k_dflt rfl); (case hp => k_dflt rfl)))
local macro_rules | `(tactic| k_steps) => `(tactic| repeat' (first | (k_unfold; (try dsimp only)) | (k_end; wrow_close) | walk1 | (dsimp only [List.cons_append, List.nil_append]; walk1) | (dsimp only) | fail "no step"))
abbrev icS : PySem.Str := PySem.Str.ofString "invalid-codepoint"
def Errs (vs : List Value) (n : Nat) : Prop := vs.length = n ∧ ∀ v ∈ vs, ∃ t, v = .str icS t
theorem errs_app {vs : List Value} {n t : Nat} {pre : List Nat} {p : Nat → Bool} {k : Nat} (h : Errs vs (n + (pre.filter p).length)) (hi : p k = true) : Errs (vs ++ [.str icS t]) (n + ((pre ++ [k]).filter p).length) := by
  refine ⟨?_, fun v hv => ?_⟩
  · simp only [List.filter_append, List.filter_cons, List.filter_nil, hi, if_true, List.length_append, List.length_cons, List.length_nil, h.1]; omega
  · rcases List.mem_append.mp hv with hv | hv
    · exact h.2 v hv
    · exact ⟨t, List.mem_singleton.mp hv⟩
theorem errs_no {vs : List Value} {n : Nat} {pre : List Nat} {p : Nat → Bool} {k : Nat} (h : Errs vs (n + (pre.filter p).length)) (hi : p k = false) : Errs vs (n + ((pre ++ [k]).filter p).length) := by
  simp only [List.filter_append, List.filter_cons, List.filter_nil, hi, Bool.false_eq_true, if_false, List.append_nil]; exact h
section
local macro_rules | `(tactic| walk_at "call ref") => `(tactic| (k_here; k_dflt (refine' TellR.use (is_invalid_t) ?k1 ?k2 ?k3 ?k4 ?k5 ?kK ?kp ?ko ?kd ?ku ?k0 ?_; (case k1 => k_asm); (case k2 => k_asm); (case k3 => k_asm); (case k4 => k_asm); (case k5 => k_asm); (case kK => first | exact rfl | assumption); (case kp => tb_start); (case ko => tb_rel); (case kd => k_room); (case ku => k_units); (case k0 => first | exact (show 1 ≤ _ by (try dsimp only); omega) | exact Nat.zero_le _); intro r9 f9 h9 tk9 p9 F9 N9 hP9; obtain ⟨e1, e2⟩ := hP9; subst e1; subst e2; (try dsimp only [List.nil_append, List.cons_append] at N9); (try k_fold))))
local macro_rules | `(tactic| walk_at "exec For Name Name cons nil") => `(tactic| (k_here; (rename Fr _ _ _ _ => lF'); (with_unfolding_all refine' For_invVF lF' ?k1 ?k2 ?_; (case k1 => exact rfl); (case k2 => exact rfl); k_whole)))
theorem errors_t {w : World} {sx sd : Nat} {κ : Nat → Nat} {τ₀ τ₁ τ₂ τ₃ τ₄ : Nat} {ra nl tx el : Nat} {c : PySem.Str} {sz o pl pc : Int} {bf : Value} {x : PySem.Str} {tk : Nat} {vs : List Value} {ep : Nat} {n : Nat} (hv : Errs vs n) (hne : sx ≠ sd) (hne2 : el ≠ sx) (hne3 : el ≠ sd) (hsz : n + x.length ≤ 1048576) :
    TellR w 3 30 (.ref 148) [.ref sx, .str x tk] [(sx, instObj 166 sd), (sd, sdD w κ ra nl tx el c sz o pl pc bf τ₀ τ₁ τ₂ τ₃ τ₄), (el, W.listOf vs.toArray ep)]
      (fun r f' rest => ∃ vs' ep', r = .none ∧ Errs vs' (n + (x.cps.toList.filter fun (k : Nat) => decide (inv (k : Int))).length) ∧ f' = [(sx, instObj 166 sd), (sd, sdD w κ ra nl tx el c sz o pl pc bf τ₀ τ₁ τ₂ τ₃ τ₄), (el, W.listOf vs'.toArray ep')]) := by
  unfold TellR Tell KF PG
  k_fill
  intro rest off' mean mg mb dp un gd cn cs a ccd cl outer A₀ base h₀ L m s Q E B F X N T hk hd hu hret
  simp only [List.forall_mem_cons] at off'
  obtain ⟨o1, o2, o3, -⟩ := off'
  dsimp only [List.cons_append, List.nil_append] at N
  k_dflt ktr_enter
  k_steps
  (rename Fr _ _ _ _ => lF'); (rename News _ _ _ _ => lN')
  refine' str_loop (fun c' : List Value × Nat => [(sx, instObj 166 sd), (sd, sdD w κ ra nl tx el c sz o pl pc bf τ₀ τ₁ τ₂ τ₃ τ₄), (el, W.listOf c'.1.toArray c'.2)]) rest (fun _ => []) [] (fun pre c => Errs c.1 (n + (pre.filter fun (k : Nat) => decide (inv (k : Int))).length)) (vs, ep) rfl lF' lN' ?off ?ka ?kb ?turn ?done
  case off => tb_rel
  case ka => exact fun _ h => nomatch h
  case kb => exact hv
  case turn =>
    intro c' pre post nn t u h' tk' rest' hpre hP off' sub' F' N'
    simp only [List.forall_mem_cons] at off'
    obtain ⟨p1, p2, p3, -⟩ := off'
    dsimp only [List.cons_append, List.nil_append] at N'
    have hlen := hP.1
    have hlx : pre.length < x.length := by
      have h9 := congrArg List.length hpre
      simp only [List.length_append, List.length_cons, Array.length_toList] at h9
      show _ < x.cps.size
      omega
    have hfl := List.length_filter_le (fun (k : Nat) => decide (inv (k : Int))) pre
    clear lF' lN'
    try k_fold
    k_steps
    all_goals (
      (rename News _ _ _ _ => n9)
      (try simp only [List.push_toArray] at n9)
      refine ⟨(_, _), _, _, _, rfl, (by assumption), n9, (by tb_rel), (fun _ h => nomatch h), (fun z h1 h2 h3 => by simp [h1, kstB, h3]), (by first | exact errs_app hP (decide_eq_true (by assumption)) | exact errs_no hP (decide_eq_false (by assumption)))⟩)
  case done =>
    intro c' u h' tk' hP off' F' N'
    dsimp only [List.cons_append, List.nil_append] at N'
    clear lF' lN'
    k_steps
    all_goals (refine hret _ _ _ _ (by assumption) (by assumption) ⟨_, ⟨_, _, rfl, hP, rfl⟩, rfl⟩)
end
end Mine
namespace Mine
def lastOf (d : PySem.Str) : Nat := d.cps.toList.getLast?.getD 0
def cutq (d : PySem.Str) : Prop := 1 < d.length ∧ (lastOf d = 13 ∨ (55296 ≤ lastOf d ∧ lastOf d ≤ 56319))
instance (d : PySem.Str) : Decidable (cutq d) := by unfold cutq; infer_instance
def rdKeep (d : PySem.Str) : PySem.Str := if cutq d then ⟨d.cps.toList.dropLast.toArray⟩ else d
def rdBuf (d : PySem.Str) : Option Nat := if cutq d then some (lastOf d) else none
def nlz (d : PySem.Str) : PySem.Str := Txt.replace (Txt.replace d (PySem.Str.ofString "\r\n") (PySem.Str.ofString "\n")) (PySem.Str.ofString "\r") (PySem.Str.ofString "\n")
def BfV : Option Nat → Value → Prop
  | none, v => v = .none
  | some c, v => ∃ t, v = .str ⟨#[c]⟩ t
def bfS : Option Nat → PySem.Str
  | none => PySem.Str.empty
  | some c => ⟨#[c]⟩
def rdD (bo : Option Nat) (T0 : PySem.Str) (p k : Int) : PySem.Str := bfS bo ++ Txt.slice T0 (some p) (some (p + k))
def cntInv (d : PySem.Str) : Nat := (d.cps.toList.filter fun (k : Nat) => decide (inv (k : Int))).length
/-- the whole stream in the ledger -/
abbrev stL (w : World) (sx sd tx td ra el nl : Nat) (κ κ' : Nat → Nat) (τ₀ τ₁ τ₂ τ₃ τ₄ σ₀ σ₁ : Nat) (T0 : PySem.Str) (p : Int) (c : PySem.Str) (sz o pl pc : Int) (bf : Value) (vs : List Value) (ep : Nat) : List (Addr × Obj) :=
  [(sx, instObj 166 sd), (sd, sdD w κ ra nl tx el c sz o pl pc bf τ₀ τ₁ τ₂ τ₃ τ₄), (tx, instObj 73 td), (td, txD w κ' T0 p σ₀ σ₁), (ra, methodObj (.ref 148) (.ref sx)), (el, W.listOf vs.toArray ep)]
def Apart (l : List Nat) : Prop := l.Nodup
end Mine
namespace Mine
theorem noBool_method : typeLookup (.type "method") "__bool__" = pure none := by rw [typeLookup_type, builtinLookup_eq_fast]; kernel_rfl
theorem noLen_method : typeLookup (.type "method") "__len__" = pure none := by rw [typeLookup_type, builtinLookup_eq_fast]; kernel_rfl
theorem truthy_method {prog : Program} {w : World} {A : Around} {E : Value → Shared → Prop} {s : Shared} {q : Addr} {f self : Value} {h₀ : Heap} {L : Addr} {news : List (Addr × Obj)} {Q : Bool → Shared → Prop} (N : News h₀ L s.heap news) (hm : (q, methodObj f self) ∈ news) (h : Q true s) :
    wpAny (model prog w) A (truthy (.ref q)) Q E s := by
  have hT : s.TypeIs (.ref q) "method" := ⟨_, (N _ hm).1, rfl⟩
  unfold truthy
  first
    | refine wpAny_bind (wpAny_callSpecial?_none (name := Str.ofString "__bool__") hT noBool_method ?_)
    | refine wpAny_bind (wpAny_pure (wpAny_bind (wpAny_callSpecial?_none (name := Str.ofString "__bool__") hT noBool_method ?_)))
  first
    | refine wpAny_bind (wpAny_specialOf (name := Str.ofString "__len__") hT noLen_method ?_)
    | refine wpAny_bind (wpAny_pure (wpAny_bind (wpAny_specialOf (name := Str.ofString "__len__") hT noLen_method ?_)))
  exact wpAny_pure h
end Mine
namespace Mine
open PySem.Builtin PySem.Builtin.Str in
theorem replace_le (x : PySem.Str) {y z : PySem.Str} (hz : z.length ≤ y.length) : (Txt.replace x y z).length ≤ x.length := by
  unfold Txt.replace
  split
  · exact Nat.le_refl _
  · have hy : (glued y (partsBetween x (occurrences x y 0 x.length (x.length + 1)) y.length)).length = x.length := by rw [StrLaws.glued_between_self]
    rw [size_glued, length_partsBetween, Nat.add_sub_cancel] at hy
    rw [size_glued, length_partsBetween, Nat.add_sub_cancel]
    have h2 : (occurrences x y 0 x.length (x.length + 1)).length * z.length ≤ (occurrences x y 0 x.length (x.length + 1)).length * y.length := Nat.mul_le_mul_left _ hz
    omega
section
variable {prog : Program} {w : World} {A : Around} {E : Value → Shared → Prop} {s : Shared} {x y z : PySem.Str} {t u v : Nat} {Q : Value → Shared → Prop}
theorem replace_t (hu : 0 < u) (hv : 0 < v) (huv : u ≠ v) (hyz : (y == z) = false) (hl : decide (z.length ≤ y.length) = true) (hz : decide (z.length ≤ 14) = true) (hx : x.length ≤ 1048576)
    (hq : ∀ t' k, (Txt.replace x y z).length ≤ x.length → Q (.str (Txt.replace x y z) t') { s with toks := k }) : wpAny (model prog w) A (call (.builtin "str.replace") [.str x t, .str y u, .str z v]) Q E s :=
  SC.replaceW (Nat.ne_of_gt hu) (Nat.ne_of_gt hv) huv hyz hx (of_decide_eq_true hz) fun t' k => hq t' k (replace_le x (of_decide_eq_true hl))
end
end Mine
namespace Mine
section
variable {prog : Program} {w : World} {A : Around} {E : Value → Shared → Prop} {s : Shared} {h₀ : Heap} {L : Addr} {Q : Flow → Shared → Prop}
/-- what a statement leaves behind it -/
def MidEnd {σ : Type} (h₀ : Heap) (L : Addr) (ps : σ → List (PySem.Str × Value)) (led : σ → List (Addr × Obj)) (P : σ → Prop) (s : Shared) (Q : Flow → Shared → Prop) (f : Flow) (s' : Shared) : Prop :=
  match f with
  | .next => ∃ c h' tk m', s' = { s with heap := h', toks := tk } ∧ Fr h₀ L h' m' ∧ News h₀ L h' (led c) ∧ (∀ p ∈ ps c, m' p.1 = some p.2) ∧ P c
  | f => Q f s'
theorem kstB_self {m : PySem.Str → Option Value} : ∀ {ps : List (PySem.Str × Value)}, (∀ p ∈ ps, m p.1 = some p.2) → kstB m ps = m
  | [], _ => rfl
  | p :: r, h => by
    funext z
    show (if z = p.1 then some p.2 else kstB m r z) = m z
    by_cases e : z = p.1
    · rw [if_pos e, e]; exact (h p (.head _)).symm
    · rw [if_neg e, kstB_self fun q hq => h q (.tail _ hq)]
theorem mid_cut {t : Sem Flow} {σ : Type} (ps : σ → List (PySem.Str × Value)) (led : σ → List (Addr × Obj)) (P : σ → Prop) {m : PySem.Str → Option Value} (_F : Fr h₀ L s.heap m) (h0 : 0 < s.toks)
    (h : wpAny (model prog w) A t (MidEnd h₀ L ps led P s Q) E s)
    (k : ∀ (c : σ) (m' : PySem.Str → Option Value) (h' : Heap) (tk : Nat), 0 < tk → P c → Fr h₀ L h' (kstB m' (ps c)) → News h₀ L h' (led c) → Q .next { s with heap := h', toks := tk }) :
    wpAny (model prog w) A t Q E s := by
  refine wpAny_with_toks (n := 1) h0 (wpAny_mono h (fun f s' hm p => ?_) fun _ _ e _ => e)
  cases f with
  | next =>
    obtain ⟨c, h', tk, m', rfl, F, N, hps, hP⟩ := hm
    exact k c m' h' tk p hP (by rw [kstB_self hps]; exact F) N
  | brk => exact hm
  | cont => exact hm
  | ret v => exact hm
end
def tk8 (a b c d e f g h : Nat) : Nat → Nat | 0 => a | 1 => b | 2 => c | 3 => d | 4 => e | 5 => f | 6 => g | _ => h
theorem subCons {p : Addr × Obj} {a b : List (Addr × Obj)} (h : p ∈ b) (hs : ∀ q ∈ a, q ∈ b) : ∀ q ∈ p :: a, q ∈ b := fun q hq => by
  rcases List.mem_cons.mp hq with rfl | hq
  · exact h
  · exact hs q hq
theorem subTail {p : Addr × Obj} {a b : List (Addr × Obj)} (hs : ∀ q ∈ a, q ∈ b) : ∀ q ∈ a, q ∈ p :: b := fun q hq => .tail _ (hs q hq)
end Mine
namespace Mine
theorem lastOf_get {d : PySem.Str} (h : 0 < d.length) : d.cps[d.cps.size - 1]? = some (lastOf d) := by
  have h' : d.cps.toList ≠ [] := by
    intro e
    have := congrArg List.length e
    simp at this
    unfold PySem.Str.length at h
    simp [this] at h
  unfold lastOf
  rw [List.getLast?_eq_some_getLast h']
  simp only [Option.getD_some]
  rw [List.getLast_eq_getElem]
  simp only [Array.length_toList]
  have hs : d.cps.size - 1 < d.cps.size := by unfold PySem.Str.length at h; omega
  rw [Array.getElem?_eq_getElem hs]
  simp
theorem item_last {d : PySem.Str} (h : 0 < d.length) : Txt.item d (-1) = ⟨#[lastOf d]⟩ := by
  have e : (seqIndex? (-1) d.length).bind (d.cps[·]?) = some (lastOf d) := by
    rw [StrLaws.seqIndex_neg (by omega) (by omega)]
    show d.cps[((-1 : Int) + (d.length : Int)).toNat]? = _
    have e2 : ((-1 : Int) + (d.length : Int)).toNat = d.cps.size - 1 := by unfold PySem.Str.length at h ⊢; omega
    rw [e2]; exact lastOf_get h
  show (⟨#[((seqIndex? (-1) d.length).bind (d.cps[·]?)).getD 0]⟩ : PySem.Str) = _
  rw [e]; rfl
theorem slice_init {d : PySem.Str} (h : 0 < d.length) : Txt.slice d none (some (-1)) = ⟨d.cps.toList.dropLast.toArray⟩ := by
  show StrLaws.sliceText d none (some (-1)) = _
  rw [StrLaws.sliceText_neg_hi d none (by omega) (by omega), StrLaws.sliceText_to (by simp only [Array.length_toList]; unfold PySem.Str.length at h ⊢; omega)]
  congr 2
  rw [List.dropLast_eq_take]
  simp only [List.drop_zero, Array.length_toList]
  congr 1
  unfold PySem.Str.length at h ⊢; omega
theorem len0 {d : PySem.Str} (h : d.length = 0) : d = PySem.Str.ofString "" := by
  refine PySem.Str.ext' ?_
  have e : (PySem.Str.ofString "").cps = #[] := by decide +kernel
  rw [e]
  exact Array.eq_empty_of_size_eq_zero h
theorem nlz_nil : nlz (PySem.Str.ofString "") = PySem.Str.ofString "" := by decide +kernel
theorem rdKeep_nil : rdKeep (PySem.Str.ofString "") = PySem.Str.ofString "" := by decide +kernel
theorem rdBuf_nil : rdBuf (PySem.Str.ofString "") = none := by decide +kernel
theorem cntInv_nil : cntInv (PySem.Str.ofString "") = 0 := by decide +kernel
theorem len_nil : (PySem.Str.ofString "").length = 0 := by decide +kernel
theorem rd_yes {d : PySem.Str} (h : 1 < d.length) (hc : (((Txt.item d (-1)).cps.getD 0 0 : Nat) = 13 ∨ (55296 ≤ (Txt.item d (-1)).cps.getD 0 0 ∧ (Txt.item d (-1)).cps.getD 0 0 ≤ 56319))) :
    rdKeep d = Txt.slice d none (some (-1)) ∧ rdBuf d = some (lastOf d) ∧ Txt.item d (-1) = ⟨#[lastOf d]⟩ := by
  have e := item_last (d := d) (by omega)
  rw [e] at hc
  have hq : cutq d := ⟨h, hc⟩
  exact ⟨by unfold rdKeep; rw [if_pos hq, slice_init (by omega)], by unfold rdBuf; rw [if_pos hq], e⟩
theorem rd_no {d : PySem.Str} (h : ¬ (1 < d.length ∧ (((Txt.item d (-1)).cps.getD 0 0 : Nat) = 13 ∨ (55296 ≤ (Txt.item d (-1)).cps.getD 0 0 ∧ (Txt.item d (-1)).cps.getD 0 0 ≤ 56319)))) :
    rdKeep d = d ∧ rdBuf d = none := by
  have hq : ¬ cutq d := fun hq => by
    rw [item_last (d := d) (by have := hq.1; omega)] at h
    exact h ⟨hq.1, hq.2⟩
  exact ⟨by unfold rdKeep; rw [if_neg hq], by unfold rdBuf; rw [if_neg hq]⟩
theorem BfV_some {c t : Nat} {x : PySem.Str} (h : x = ⟨#[c]⟩) : BfV (some c) (.str x t) := ⟨t, by rw [h]⟩
theorem BfV_none : BfV none .none := rfl
end Mine
theorem Mine.off_c9 {M : Model} {A : Around} {env : Env} {Q : Flow → Shared → Prop} {E : Value → Shared → Prop} {s : Shared} (h : wpAny M A (execs [] env) Q E s) : wpAny M A (execs [] env) Q E s := by
  (try (walk1; fail "no"))
  w_top off
  exact h
namespace Mine
local macro_rules | `(tactic| k_ne) => `(tactic| first | exact (show Nq _ _ by with_reducible assumption) | exact Ne.symm (show Nq _ _ by with_reducible assumption) | (refine neN ?_; (try dsimp only); omega))
local macro_rules | `(tactic| k_room) => `(tactic| ((try simp only [depth_under_make, depth_under_kw, depth_in1, depth_deeper, depth_caller, ktrTop, recursionLimit] at *); omega))
local macro_rules | `(tactic| k_units) => `(tactic| ((have hcL9 := cLine_is); (try simp only [units_in1, units_deeper, Around.mark_units, units_caller, ktrTop] at *); omega))
local macro_rules | `(tactic| ktr_enter) => `(tactic| (refine' code_def ?k1 ?k2 ?k3 ?k4 ?k5 ?kA ?kF ?kK ?k6 ?k7 ?k8 ?k9 ?kB ?_ ?c2 ?c3 ?c4 ?c5; (case kA => exact rfl); (case kF => exact rfl); (case kK => first | exact rfl | assumption); (case k1 => k_asm); (case k2 => k_asm); (case k3 => k_asm); (case k4 => k_asm); (case k5 => k_asm); (case k6 => k_is); (case k7 => k_is); (case k8 => k_room); (case k9 => first | exact BindsTo.of_eq rfl | exact binds_K (by k_in) rfl (by k_is) rfl rfl rfl); (case c5 => decide); (case kB => exact locs rfl); (case c2 => exact rfl); (case c3 => exact rfl); (case c4 => exact rfl); k_whole; intro g' L' h' FG' F' N' B' X' T'; (try dsimp only); (try k_fold)))
local macro_rules | `(tactic| k_all) => `(tactic| (with_reducible assumption))
local macro_rules | `(tactic| tb_lt) => `(tactic| first | exact Pick.head | (refine' Pick.tail ?c; (case c => tb_lt)))
local macro_rules | `(tactic| tb_start) => `(tactic| first | exact Picks.nil | (refine' Picks.cons ?a ?b; (case a => tb_lt); (case b => tb_start)))
local macro_rules | `(tactic| tb_rel) => `(tactic| first | exact List.forall_mem_nil _ | (refine' List.forall_mem_cons.mpr ⟨?a, ?b⟩; (case a => k_all); (case b => tb_rel)))
local macro_rules | `(tactic| walk_at "TPost") => `(tactic| (dsimp only [TPost]))
local macro_rules | `(tactic| size_fits) => `(tactic| ((simp only [PySem.sizeLine_eq, List.size_toArray]); omega))
local macro_rules | `(tactic| k_gentoks) => `(tactic| (with_reducible refine' gen_toksP ?hp ?_; (case hp => first | omega | ((try simp only [List.length_cons]); omega)); intro tk htk))
local macro_rules | `(tactic| kstt_sub) => `(tactic| first | exact fun _ h => h | assumption | (refine' subCons ?a ?b; (case a => k_mem); (case b => kstt_sub)) | (refine' subTail ?a; (case a => kstt_sub)))
local macro_rules | `(tactic| kst_all) => `(tactic| first | exact List.forall_mem_nil _ | (refine' List.forall_mem_cons.mpr ⟨?a, ?b⟩; (case a => exact rfl); (case b => kst_all)))
local macro_rules | `(tactic| walk_at "MidEnd") => `(tactic| first
  | ((with_reducible show MidEnd _ _ _ _ _ _ _ Flow.next _); (refine' ⟨(tk8 _ _ _ _ _ _ _ _, _), _, _, _, rfl, ?F, ?N, ?ps, ?P⟩); (case F => assumption); (case N => (refine' nsub ?N1 ?N2; (case N1 => assumption); (case N2 => kstt_sub))); (case ps => kst_all); (case P => k_extra "mid"))
  | ((fail_if_success (with_reducible show MidEnd _ _ _ _ _ _ _ Flow.next _)); dsimp only [MidEnd]))
local macro_rules | `(tactic| walk_at "WEnd") => `(tactic| ((fail_if_success (with_reducible show WEnd _ _ _ _ _ _ _ _ _ Flow.next _)); dsimp only [WEnd]))
local macro_rules | `(tactic| walk_at "callWith") => `(tactic| (k_here; (with_reducible refine' callWith_method1 ?_ ?he ?hp); (case he => k_dflt rfl); (case hp => k_dflt rfl)))
local macro_rules | `(tactic| k_steps) => `(tactic| repeat' (first | (k_unfold; (try dsimp only)) | (k_end; wrow_close) | walk1 | (dsimp only [List.cons_append, List.nil_append]; walk1) | (dsimp only) | fail "no step"))
section
local macro_rules | `(tactic| walk_at "truthy ref") => `(tactic| (k_here; refine' truthy_method ?k1 ?k2 ?_; (case k1 => k_asm); (case k2 => k_mem)))
local macro_rules | `(tactic| walk_at "call builtin:str.replace") => `(tactic| (k_here; refine' replace_t ?u ?v ?uv ?yz ?hl ?hz ?hx ?_; (case u => omega); (case v => omega); (case uv => omega); (case yz => decide +kernel); (case hl => decide +kernel); (case hz => decide +kernel); (case hx => omega); intro tr kr lr))
local macro_rules | `(tactic| walk_at "call ref") => `(tactic| (k_here; k_dflt (refine' TellR.use (position0_t ?a1 ?a2) ?k1 ?k2 ?k3 ?k4 ?k5 ?kK ?kp ?ko ?kd ?ku ?k0 ?_; (case k1 => k_asm); (case k2 => k_asm); (case k3 => k_asm); (case k4 => k_asm); (case k5 => k_asm); (case kK => first | exact rfl | assumption); (case kp => tb_start); (case ko => tb_rel); (case a1 => k_ne); (case a2 => omega); (case kd => k_room); (case ku => k_units); (case k0 => first | exact (show 1 ≤ _ by (try dsimp only); omega) | exact Nat.zero_le _); intro r9 f9 h9 tk9 p9 F9 N9 hP9; obtain ⟨ta, t1, t2, e1, e2, l9⟩ := hP9; subst e1; subst e2; simp only [AllLt, and_true] at l9; (try dsimp only [List.nil_append, List.cons_append] at N9); (try k_fold))))
local macro_rules | `(tactic| walk_at "call ref") => `(tactic| (k_here; k_dflt (refine' TellR.use (read_t ?a1 ?a2) ?k1 ?k2 ?k3 ?k4 ?k5 ?kK ?kp ?ko ?kd ?ku ?k0 ?_; (case k1 => k_asm); (case k2 => k_asm); (case k3 => k_asm); (case k4 => k_asm); (case k5 => k_asm); (case kK => first | exact rfl | assumption); (case kp => tb_start); (case ko => tb_rel); (case a1 => k_ne); (case a2 => omega); (case kd => k_room); (case ku => k_units); (case k0 => first | exact (show 1 ≤ _ by (try dsimp only); omega) | exact Nat.zero_le _); intro r9 f9 h9 tk9 p9 F9 N9 hP9; obtain ⟨t, σ2, e1, e2, l9⟩ := hP9; subst e1; subst e2; (try dsimp only [List.nil_append, List.cons_append] at N9); (try k_fold))))
local macro_rules | `(tactic| walk_at "call ref") => `(tactic| (k_here; k_dflt (refine' TellR.useM (errors_t ?a1 ?a2 ?a3 ?a4 ?a5) ?k1 ?k2 ?k3 ?k4 ?k5 ?kK ?kM ?kp ?ko ?kd ?ku ?k0 ?_; (case k1 => k_asm); (case k2 => k_asm); (case k3 => k_asm); (case k4 => k_asm); (case k5 => k_asm); (case kK => first | exact rfl | assumption); (case kM => k_mem); (case kp => tb_start); (case ko => tb_rel); (case a1 => assumption); (case a2 => k_ne); (case a3 => k_ne); (case a4 => k_ne); (case a5 => omega); (case kd => k_room); (case ku => k_units); (case k0 => first | exact (show 1 ≤ _ by (try dsimp only); omega) | exact Nat.zero_le _); intro r9 f9 h9 tk9 p9 F9 N9 hP9; obtain ⟨vs2, ep2, e1, e3, e2⟩ := hP9; subst e1; subst e2; (try dsimp only [List.nil_append, List.cons_append] at N9); (try k_fold))))
theorem readChunk_t {w : World} {sx sd tx td ra el nl : Nat} {κ κ' : Nat → Nat} {τ₀ τ₁ τ₂ τ₃ τ₄ σ₀ σ₁ : Nat} {T0 : PySem.Str} {p : Int} {c : PySem.Str} {sz o pl pc : Int} {bf : Value} {vs : List Value} {ep n : Nat} {bo : Option Nat}
    (hv : Errs vs n) (hbf : BfV bo bf) (hsz : 0 ≤ sz) (hT : T0.length ≤ 100000) (hn : n ≤ 100000) (hnd : NQ6 sx sd tx td ra el) :
    TellR w 6 60 (.ref 141) [.ref sx] (stL w sx sd tx td ra el nl κ κ' τ₀ τ₁ τ₂ τ₃ τ₄ σ₀ σ₁ T0 p c sz o pl pc bf vs ep)
      (fun r f' rest => ∃ a0 a1 a2 a3 a4 b0 b1 bv vs' ep', r = .bool (decide (0 < (rdD bo T0 p 10240).length)) ∧ BfV (rdBuf (rdD bo T0 p 10240)) bv ∧ Errs vs' (n + cntInv (rdKeep (rdD bo T0 p 10240))) ∧
        f' = stL w sx sd tx td ra el nl κ κ' a0 a1 a2 a3 a4 b0 b1 T0 (p + (Txt.slice T0 (some p) (some (p + 10240))).length) (nlz (rdKeep (rdD bo T0 p 10240))) (nlz (rdKeep (rdD bo T0 p 10240))).length 0 (posL c pl sz) (posC c pc sz) bv vs' ep') := by
  have hq := hnd
  unfold NQ6 at hq
  obtain ⟨q1, q2, q3, q4, q5, q6, q7, q8, q9, q10, q11, q12, q13, q14, q15⟩ := hq
  unfold TellR Tell KF PG
  k_fill
  intro rest off' mean mg mb dp un gd cn cs a ccd cl outer A₀ base h₀ L m s Q E B F X N T hk hd hu hret
  simp only [List.forall_mem_cons] at off'
  obtain ⟨o1, o2, o3, o4, o5, o6, -⟩ := off'
  dsimp only [stL, List.cons_append, List.nil_append] at N
  k_dflt ktr_enter
  repeat' (first | ((fail_if_success (with_reducible show wpAny _ _ (PySem.exec (PySem.Stmt.If (PySem.Expr.Attribute _ _ _) _ _ _) _) _ _ _)); first | (k_unfold; (try dsimp only)) | (k_end; wrow_close) | walk1 | (dsimp only; walk1) | fail "no step"))
  (rename Fr _ _ _ _ => f8)
  refine mid_cut (fun c : (Nat → Nat) × Value => [(Str.ofString "self", .ref sx), (Str.ofString "data", .str (rdD bo T0 p 10240) (c.1 7))]) (fun c' => (sx, instObj 166 sd) :: (sd, sdD w κ ra nl tx el (Str.ofString "") 0 0 (posL c pl sz) (posC c pc sz) c'.2 (c'.1 0) (c'.1 1) (c'.1 2) (c'.1 3) (c'.1 4)) :: (tx, instObj 73 td) :: (td, txD w κ' T0 (p + (Txt.slice T0 (some p) (some (p + 10240))).length) (c'.1 5) (c'.1 6)) :: (ra, methodObj (.ref 148) (.ref sx)) :: (el, W.listOf vs.toArray ep) :: rest) (fun c => c.2 = .none ∧ 0 < (rdD bo T0 p 10240).length ∧ (rdD bo T0 p 10240).length ≤ 100001) f8 ?h0 ?h ?k
  case h0 => omega
  case h =>
    cases bo with
    | none =>
      have e : bf = .none := hbf
      subst e
      have ed : rdD none T0 p 10240 = Txt.slice T0 (some p) (some (p + 10240)) := PySem.Str.empty_append _
      rw [ed]
      k_with_none
      k_with "mid" => exact ⟨rfl, by omega, by omega⟩
      k_steps
      have hz : rdD none T0 p 10240 = Str.ofString "" := ed.trans (len0 (by omega))
      simp only [hz, rdKeep_nil, nlz_nil, rdBuf_nil, cntInv_nil, len_nil] at hret
      refine' hret _ _ _ _ (by assumption) ?S ⟨_, ⟨_, _, _, _, _, _, _, _, _, _, rfl, rfl, hv, rfl⟩, rfl⟩
      case S =>
        refine' nsub ?N1 ?N2
        case N1 => assumption
        case N2 => kstt_sub
    | some b =>
      obtain ⟨tb, e⟩ := hbf
      subst e
      have ed : (rdD (some b) T0 p 10240).length = 1 + (Txt.slice T0 (some p) (some (p + 10240))).length := PySem.Str.length_append _ _
      k_with_none
      k_with "mid" => exact ⟨rfl, by omega, by omega⟩
      k_steps
      all_goals (exfalso; (have h9 : (⟨#[b]⟩ : PySem.Str).length = 1 := rfl); omega)
  case k =>
    rintro ⟨c1, c2⟩ m8 h8 tk8' p8 ⟨e8, hd0, hdl⟩ F8 N8
    dsimp only at e8 N8 F8
    subst e8
    clear f8
    generalize hdd : rdD bo T0 p 10240 = d at *
    (try k_fold)
    repeat' (first | ((fail_if_success (with_reducible show wpAny _ _ (PySem.exec (PySem.Stmt.If (PySem.Expr.Compare _ _ _ _) _ _ _) _) _ _ _)); first | (k_unfold; (try dsimp only)) | (k_end; wrow_close) | walk1 | (dsimp only; walk1) | fail "no step"))
    (rename Fr _ _ _ _ => f8)
    refine mid_cut (fun c : (Nat → Nat) × Value => [(Str.ofString "self", .ref sx), (Str.ofString "data", .str (rdKeep d) (c.1 7))]) (fun c' => (sx, instObj 166 sd) :: (sd, sdD w κ ra nl tx el (Str.ofString "") 0 0 (posL c pl sz) (posC c pc sz) c'.2 (c'.1 0) (c'.1 1) (c'.1 2) (c'.1 3) (c'.1 4)) :: (tx, instObj 73 td) :: (td, txD w κ' T0 (p + (Txt.slice T0 (some p) (some (p + 10240))).length) (c'.1 5) (c'.1 6)) :: (ra, methodObj (.ref 148) (.ref sx)) :: (el, W.listOf vs.toArray ep) :: rest) (fun c => BfV (rdBuf d) c.2 ∧ (rdKeep d).length ≤ 100001) f8 ?h0 ?h ?k
    case h0 => omega
    case h =>
      k_with_none
      k_with "mid" => first | exact ⟨BfV_some (by assumption), by omega⟩ | exact ⟨BfV_none, by omega⟩
      repeat' (first | ((fail_if_success (with_reducible show MidEnd _ _ _ _ _ _ _ _ _)); first | (k_unfold; (try dsimp only)) | (k_end; wrow_close) | walk1 | (dsimp only; walk1) | fail "no step"))
      all_goals first
        | (obtain ⟨e1, e2, e3⟩ := rd_yes (d := d) (by omega) (by omega); rw [e1, e2]; walk_at "MidEnd")
        | (obtain ⟨e1, e2⟩ := rd_no (d := d) (by omega); rw [e1, e2]; walk_at "MidEnd")
    case k =>
      rintro ⟨c1, c2⟩ m8 h8 tk8' p8 ⟨e8, hdl2⟩ F8 N8
      dsimp only at N8 F8 e8
      clear f8
      (try k_fold)
      k_steps
      (rename Errs _ _ => e3)
      refine' hret _ _ _ _ (by assumption) ?S ⟨_, ⟨_, _, _, _, _, _, _, _, _, _, ?R, e8, e3, rfl⟩, rfl⟩
      case R => rw [decide_eq_true hd0]
      case S =>
        refine' nsub ?N1 ?N2
        case N1 => assumption
        case N2 => kstt_sub
end
end Mine
theorem Mine.off_c9b {M : Model} {A : Around} {env : Env} {Q : Flow → Shared → Prop} {E : Value → Shared → Prop} {s : Shared} (h : wpAny M A (execs [] env) Q E s) : wpAny M A (execs [] env) Q E s := by
  (try (walk1; fail "no"))
  w_top off
  exact h
namespace Mine
local macro_rules | `(tactic| k_ne) => `(tactic| first | exact (show Nq _ _ by with_reducible assumption) | exact Ne.symm (show Nq _ _ by with_reducible assumption) | (refine neN ?_; (try dsimp only); omega))
local macro_rules | `(tactic| k_room) => `(tactic| ((try simp only [depth_under_make, depth_under_kw, depth_in1, depth_deeper, depth_caller, ktrTop, recursionLimit] at *); omega))
local macro_rules | `(tactic| k_units) => `(tactic| ((have hcL9 := cLine_is); (try simp only [units_in1, units_deeper, Around.mark_units, units_caller, ktrTop] at *); omega))
local macro_rules | `(tactic| ktr_enter) => `(tactic| (refine' code_def ?k1 ?k2 ?k3 ?k4 ?k5 ?kA ?kF ?kK ?k6 ?k7 ?k8 ?k9 ?kB ?_ ?c2 ?c3 ?c4 ?c5; (case kA => exact rfl); (case kF => exact rfl); (case kK => first | exact rfl | assumption); (case k1 => k_asm); (case k2 => k_asm); (case k3 => k_asm); (case k4 => k_asm); (case k5 => k_asm); (case k6 => k_is); (case k7 => k_is); (case k8 => k_room); (case k9 => first | exact BindsTo.of_eq rfl | exact binds_K (by k_in) rfl (by k_is) rfl rfl rfl); (case c5 => decide); (case kB => exact locs rfl); (case c2 => exact rfl); (case c3 => exact rfl); (case c4 => exact rfl); k_whole; intro g' L' h' FG' F' N' B' X' T'; (try dsimp only); (try k_fold)))
local macro_rules | `(tactic| k_all) => `(tactic| (with_reducible assumption))
local macro_rules | `(tactic| tb_lt) => `(tactic| first | exact Pick.head | (refine' Pick.tail ?c; (case c => tb_lt)))
local macro_rules | `(tactic| tb_start) => `(tactic| first | exact Picks.nil | (refine' Picks.cons ?a ?b; (case a => tb_lt); (case b => tb_start)))
local macro_rules | `(tactic| tb_rel) => `(tactic| first | exact List.forall_mem_nil _ | (refine' List.forall_mem_cons.mpr ⟨?a, ?b⟩; (case a => k_all); (case b => tb_rel)))
local macro_rules | `(tactic| walk_at "TPost") => `(tactic| (dsimp only [TPost]))
local macro_rules | `(tactic| size_fits) => `(tactic| ((simp only [PySem.sizeLine_eq, List.size_toArray]); omega))
local macro_rules | `(tactic| k_gentoks) => `(tactic| (with_reducible refine' gen_toksP ?hp ?_; (case hp => first | omega | ((try simp only [List.length_cons]); omega)); intro tk htk))
local macro_rules | `(tactic| kstt_sub) => `(tactic| first | exact fun _ h => h | assumption | (refine' subCons ?a ?b; (case a => k_mem); (case b => kstt_sub)) | (refine' subTail ?a; (case a => kstt_sub)))
local macro_rules | `(tactic| kst_all) => `(tactic| first | exact List.forall_mem_nil _ | (refine' List.forall_mem_cons.mpr ⟨?a, ?b⟩; (case a => exact rfl); (case b => kst_all)))
local macro_rules | `(tactic| walk_at "MidEnd") => `(tactic| first
  | ((with_reducible show MidEnd _ _ _ _ _ _ _ Flow.next _); (refine' ⟨(tk8 _ _ _ _ _ _ _ _, _), _, _, _, rfl, ?F, ?N, ?ps, ?P⟩); (case F => assumption); (case N => (refine' nsub ?N1 ?N2; (case N1 => assumption); (case N2 => kstt_sub))); (case ps => kst_all); (case P => k_extra "mid"))
  | ((fail_if_success (with_reducible show MidEnd _ _ _ _ _ _ _ Flow.next _)); dsimp only [MidEnd]))
local macro_rules | `(tactic| walk_at "WEnd") => `(tactic| ((fail_if_success (with_reducible show WEnd _ _ _ _ _ _ _ _ _ Flow.next _)); dsimp only [WEnd]))
local macro_rules | `(tactic| walk_at "callWith") => `(tactic| (k_here; (with_reducible refine' callWith_method1 ?_ ?he ?hp); (case he => k_dflt rfl); (case hp => k_dflt rfl)))
local macro_rules | `(tactic| k_steps) => `(tactic| repeat' (first | (k_unfold; (try dsimp only)) | (k_end; wrow_close) | walk1 | (dsimp only [List.cons_append, List.nil_append]; walk1) | (dsimp only) | fail "no step"))
section
local macro_rules | `(tactic| walk_at "truthy ref") => `(tactic| (k_here; refine' truthy_method ?k1 ?k2 ?_; (case k1 => k_asm); (case k2 => k_mem)))
local macro_rules | `(tactic| walk_at "call builtin:str.replace") => `(tactic| (k_here; refine' replace_t ?u ?v ?uv ?yz ?hl ?hz ?hx ?_; (case u => omega); (case v => omega); (case uv => omega); (case yz => decide +kernel); (case hl => decide +kernel); (case hz => decide +kernel); (case hx => omega); intro tr kr lr))
local macro_rules | `(tactic| walk_at "call ref") => `(tactic| (k_here; k_dflt (refine' TellR.use (position0_t ?a1 ?a2) ?k1 ?k2 ?k3 ?k4 ?k5 ?kK ?kp ?ko ?kd ?ku ?k0 ?_; (case k1 => k_asm); (case k2 => k_asm); (case k3 => k_asm); (case k4 => k_asm); (case k5 => k_asm); (case kK => first | exact rfl | assumption); (case kp => tb_start); (case ko => tb_rel); (case a1 => k_ne); (case a2 => omega); (case kd => k_room); (case ku => k_units); (case k0 => first | exact (show 1 ≤ _ by (try dsimp only); omega) | exact Nat.zero_le _); intro r9 f9 h9 tk9 p9 F9 N9 hP9; obtain ⟨ta, t1, t2, e1, e2, l9⟩ := hP9; subst e1; subst e2; simp only [AllLt, and_true] at l9; (try dsimp only [List.nil_append, List.cons_append] at N9); (try k_fold))))
local macro_rules | `(tactic| walk_at "call ref") => `(tactic| (k_here; k_dflt (refine' TellR.use (read_t ?a1 ?a2) ?k1 ?k2 ?k3 ?k4 ?k5 ?kK ?kp ?ko ?kd ?ku ?k0 ?_; (case k1 => k_asm); (case k2 => k_asm); (case k3 => k_asm); (case k4 => k_asm); (case k5 => k_asm); (case kK => first | exact rfl | assumption); (case kp => tb_start); (case ko => tb_rel); (case a1 => k_ne); (case a2 => omega); (case kd => k_room); (case ku => k_units); (case k0 => first | exact (show 1 ≤ _ by (try dsimp only); omega) | exact Nat.zero_le _); intro r9 f9 h9 tk9 p9 F9 N9 hP9; obtain ⟨t, σ2, e1, e2, l9⟩ := hP9; subst e1; subst e2; (try dsimp only [List.nil_append, List.cons_append] at N9); (try k_fold))))
local macro_rules | `(tactic| walk_at "call ref") => `(tactic| (k_here; k_dflt (refine' TellR.useM (errors_t ?a1 ?a2 ?a3 ?a4 ?a5) ?k1 ?k2 ?k3 ?k4 ?k5 ?kK ?kM ?kp ?ko ?kd ?ku ?k0 ?_; (case k1 => k_asm); (case k2 => k_asm); (case k3 => k_asm); (case k4 => k_asm); (case k5 => k_asm); (case kK => first | exact rfl | assumption); (case kM => k_mem); (case kp => tb_start); (case ko => tb_rel); (case a1 => assumption); (case a2 => k_ne); (case a3 => k_ne); (case a4 => k_ne); (case a5 => omega); (case kd => k_room); (case ku => k_units); (case k0 => first | exact (show 1 ≤ _ by (try dsimp only); omega) | exact Nat.zero_le _); intro r9 f9 h9 tk9 p9 F9 N9 hP9; obtain ⟨vs2, ep2, e1, e3, e2⟩ := hP9; subst e1; subst e2; (try dsimp only [List.nil_append, List.cons_append] at N9); (try k_fold))))
theorem readChunk_k {w : World} {k : Int} {tk : Nat} {sx sd tx td ra el nl : Nat} {κ κ' : Nat → Nat} {τ₀ τ₁ τ₂ τ₃ τ₄ σ₀ σ₁ : Nat} {T0 : PySem.Str} {p : Int} {c : PySem.Str} {sz o pl pc : Int} {bf : Value} {vs : List Value} {ep n : Nat} {bo : Option Nat}
    (hv : Errs vs n) (hbf : BfV bo bf) (hsz : 0 ≤ sz) (hT : T0.length ≤ 100000) (hn : n ≤ 100000) (hnd : NQ6 sx sd tx td ra el) :
    TellR w 6 60 (.ref 141) [.ref sx, .int k tk] (stL w sx sd tx td ra el nl κ κ' τ₀ τ₁ τ₂ τ₃ τ₄ σ₀ σ₁ T0 p c sz o pl pc bf vs ep)
      (fun r f' rest => ∃ a0 a1 a2 a3 a4 b0 b1 bv vs' ep', r = .bool (decide (0 < (rdD bo T0 p k).length)) ∧ BfV (rdBuf (rdD bo T0 p k)) bv ∧ Errs vs' (n + cntInv (rdKeep (rdD bo T0 p k))) ∧
        f' = stL w sx sd tx td ra el nl κ κ' a0 a1 a2 a3 a4 b0 b1 T0 (p + (Txt.slice T0 (some p) (some (p + k))).length) (nlz (rdKeep (rdD bo T0 p k))) (nlz (rdKeep (rdD bo T0 p k))).length 0 (posL c pl sz) (posC c pc sz) bv vs' ep') := by
  have hq := hnd
  unfold NQ6 at hq
  obtain ⟨q1, q2, q3, q4, q5, q6, q7, q8, q9, q10, q11, q12, q13, q14, q15⟩ := hq
  unfold TellR Tell KF PG
  k_fill
  intro rest off' mean mg mb dp un gd cn cs a ccd cl outer A₀ base h₀ L m s Q E B F X N T hk hd hu hret
  simp only [List.forall_mem_cons] at off'
  obtain ⟨o1, o2, o3, o4, o5, o6, -⟩ := off'
  dsimp only [stL, List.cons_append, List.nil_append] at N
  k_dflt ktr_enter
  repeat' (first | ((fail_if_success (with_reducible show wpAny _ _ (PySem.exec (PySem.Stmt.If (PySem.Expr.Attribute _ _ _) _ _ _) _) _ _ _)); first | (k_unfold; (try dsimp only)) | (k_end; wrow_close) | walk1 | (dsimp only; walk1) | fail "no step"))
  (rename Fr _ _ _ _ => f8)
  refine mid_cut (fun c : (Nat → Nat) × Value => [(Str.ofString "self", .ref sx), (Str.ofString "data", .str (rdD bo T0 p k) (c.1 7))]) (fun c' => (sx, instObj 166 sd) :: (sd, sdD w κ ra nl tx el (Str.ofString "") 0 0 (posL c pl sz) (posC c pc sz) c'.2 (c'.1 0) (c'.1 1) (c'.1 2) (c'.1 3) (c'.1 4)) :: (tx, instObj 73 td) :: (td, txD w κ' T0 (p + (Txt.slice T0 (some p) (some (p + k))).length) (c'.1 5) (c'.1 6)) :: (ra, methodObj (.ref 148) (.ref sx)) :: (el, W.listOf vs.toArray ep) :: rest) (fun c => c.2 = .none ∧ 0 < (rdD bo T0 p k).length ∧ (rdD bo T0 p k).length ≤ 100001) f8 ?h0 ?h ?k
  case h0 => omega
  case h =>
    cases bo with
    | none =>
      have e : bf = .none := hbf
      subst e
      have ed : rdD none T0 p k = Txt.slice T0 (some p) (some (p + k)) := PySem.Str.empty_append _
      rw [ed]
      k_with_none
      k_with "mid" => exact ⟨rfl, by omega, by omega⟩
      k_steps
      have hz : rdD none T0 p k = Str.ofString "" := ed.trans (len0 (by omega))
      simp only [hz, rdKeep_nil, nlz_nil, rdBuf_nil, cntInv_nil, len_nil] at hret
      refine' hret _ _ _ _ (by assumption) ?S ⟨_, ⟨_, _, _, _, _, _, _, _, _, _, rfl, rfl, hv, rfl⟩, rfl⟩
      case S =>
        refine' nsub ?N1 ?N2
        case N1 => assumption
        case N2 => kstt_sub
    | some b =>
      obtain ⟨tb, e⟩ := hbf
      subst e
      have ed : (rdD (some b) T0 p k).length = 1 + (Txt.slice T0 (some p) (some (p + k))).length := PySem.Str.length_append _ _
      k_with_none
      k_with "mid" => exact ⟨rfl, by omega, by omega⟩
      k_steps
      all_goals (exfalso; (have h9 : (⟨#[b]⟩ : PySem.Str).length = 1 := rfl); omega)
  case k =>
    rintro ⟨c1, c2⟩ m8 h8 tk8' p8 ⟨e8, hd0, hdl⟩ F8 N8
    dsimp only at e8 N8 F8
    subst e8
    clear f8
    generalize hdd : rdD bo T0 p k = d at *
    (try k_fold)
    repeat' (first | ((fail_if_success (with_reducible show wpAny _ _ (PySem.exec (PySem.Stmt.If (PySem.Expr.Compare _ _ _ _) _ _ _) _) _ _ _)); first | (k_unfold; (try dsimp only)) | (k_end; wrow_close) | walk1 | (dsimp only; walk1) | fail "no step"))
    (rename Fr _ _ _ _ => f8)
    refine mid_cut (fun c : (Nat → Nat) × Value => [(Str.ofString "self", .ref sx), (Str.ofString "data", .str (rdKeep d) (c.1 7))]) (fun c' => (sx, instObj 166 sd) :: (sd, sdD w κ ra nl tx el (Str.ofString "") 0 0 (posL c pl sz) (posC c pc sz) c'.2 (c'.1 0) (c'.1 1) (c'.1 2) (c'.1 3) (c'.1 4)) :: (tx, instObj 73 td) :: (td, txD w κ' T0 (p + (Txt.slice T0 (some p) (some (p + k))).length) (c'.1 5) (c'.1 6)) :: (ra, methodObj (.ref 148) (.ref sx)) :: (el, W.listOf vs.toArray ep) :: rest) (fun c => BfV (rdBuf d) c.2 ∧ (rdKeep d).length ≤ 100001) f8 ?h0 ?h ?k
    case h0 => omega
    case h =>
      k_with_none
      k_with "mid" => first | exact ⟨BfV_some (by assumption), by omega⟩ | exact ⟨BfV_none, by omega⟩
      repeat' (first | ((fail_if_success (with_reducible show MidEnd _ _ _ _ _ _ _ _ _)); first | (k_unfold; (try dsimp only)) | (k_end; wrow_close) | walk1 | (dsimp only; walk1) | fail "no step"))
      all_goals first
        | (obtain ⟨e1, e2, e3⟩ := rd_yes (d := d) (by omega) (by omega); rw [e1, e2]; walk_at "MidEnd")
        | (obtain ⟨e1, e2⟩ := rd_no (d := d) (by omega); rw [e1, e2]; walk_at "MidEnd")
    case k =>
      rintro ⟨c1, c2⟩ m8 h8 tk8' p8 ⟨e8, hdl2⟩ F8 N8
      dsimp only at N8 F8 e8
      clear f8
      (try k_fold)
      k_steps
      (rename Errs _ _ => e3)
      refine' hret _ _ _ _ (by assumption) ?S ⟨_, ⟨_, _, _, _, _, _, _, _, _, _, ?R, e8, e3, rfl⟩, rfl⟩
      case R => rw [decide_eq_true hd0]
      case S =>
        refine' nsub ?N1 ?N2
        case N1 => assumption
        case N2 => kstt_sub
end
end Mine
namespace Mine
structure SS where
  T : PySem.Str
  p : Int
  c : PySem.Str
  o : Int
  pl : Int
  pc : Int
  bo : Option Nat
  n : Nat
def rdS (k : Int) (S : SS) : SS :=
  { T := S.T, p := S.p + (Txt.slice S.T (some S.p) (some (S.p + k))).length, c := nlz (rdKeep (rdD S.bo S.T S.p k)), o := 0, pl := posL S.c S.pl S.c.length, pc := posC S.c S.pc S.c.length, bo := rdBuf (rdD S.bo S.T S.p k), n := S.n + cntInv (rdKeep (rdD S.bo S.T S.p k)) }
def rdB (k : Int) (S : SS) : Bool := decide (0 < (rdD S.bo S.T S.p k).length)
def chS (S : SS) : Option Nat × SS :=
  if S.o < S.c.length then (S.c.cps[S.o.toNat]?, { S with o := S.o + 1 })
  else if rdB 10240 S then ((rdS 10240 S).c.cps[0]?, { rdS 10240 S with o := 1 }) else (none, rdS 10240 S)
open PySem.Builtin PySem.Builtin.Str in
theorem replace_pos {x y z : PySem.Str} (hx : 0 < x.length) (hz : 0 < z.length) : 0 < (Txt.replace x y z).length := by
  unfold Txt.replace
  split
  · exact hx
  · rename_i h
    rw [size_glued, length_partsBetween, Nat.add_sub_cancel]
    simp only [Bool.or_eq_true, not_or] at h
    have h1 : 0 < (occurrences x y 0 x.length (x.length + 1)).length := by
      cases ho : occurrences x y 0 x.length (x.length + 1) with
      | nil => rw [ho] at h; simp at h
      | cons a r => simp
    have h2 := Nat.mul_pos h1 hz
    omega
theorem nl_len : (PySem.Str.ofString "\n").length = 1 := by decide +kernel
theorem cr_len : (PySem.Str.ofString "\r").length = 1 := by decide +kernel
theorem crnl_len : (PySem.Str.ofString "\r\n").length = 2 := by decide +kernel
theorem rdKeep_pos {d : PySem.Str} (h : 0 < d.length) : 0 < (rdKeep d).length := by
  unfold rdKeep
  split
  · rename_i hq
    have := hq.1
    unfold PySem.Str.length at this ⊢
    simp only [List.size_toArray, List.length_dropLast, Array.length_toList]
    omega
  · exact h
theorem nlz_pos {d : PySem.Str} (h : 0 < d.length) : 0 < (nlz d).length :=
  replace_pos (replace_pos h (by rw [nl_len]; decide)) (by rw [nl_len]; decide)
theorem rdKeep_le (d : PySem.Str) : (rdKeep d).length ≤ d.length := by
  unfold rdKeep
  split
  · unfold PySem.Str.length
    simp only [List.size_toArray, List.length_dropLast, Array.length_toList]
    omega
  · exact Nat.le_refl _
theorem nlz_le (d : PySem.Str) : (nlz d).length ≤ d.length :=
  Nat.le_trans (replace_le _ (by rw [nl_len, cr_len]; decide)) (replace_le _ (by rw [nl_len, crnl_len]; decide))
theorem item_at {x : PySem.Str} {i : Int} (h0 : 0 ≤ i) (h1 : i < x.length) : ∃ c, x.cps[i.toNat]? = some c ∧ Txt.item x i = ⟨#[c]⟩ := by
  obtain ⟨c, hc⟩ := StrLaws.some_at h0 h1
  refine ⟨c, hc, ?_⟩
  show (⟨#[((seqIndex? i x.length).bind (x.cps[·]?)).getD 0]⟩ : PySem.Str) = _
  rw [StrLaws.at_nonneg h0 hc]; rfl
end Mine
namespace Mine
/-! texts as lists: replace -/
open PySem.Builtin PySem.Builtin.Str PySem.StrLaws in
theorem replF_gap {x y : PySem.Str} {F : List Nat → List Nat} (h2 : ∀ c r, ¬ ((c :: r).take y.length = y.cps.toList) → F (c :: r) = c :: F r) : ∀ (n a i : Nat), i = a + n → i ≤ x.length → (∀ k, a ≤ k → k < i → ¬ At x y x.length k) →
    F (x.cps.toList.drop a) = (x.cps.toList.drop a).take n ++ F (x.cps.toList.drop i)
  | 0, a, i, e, _, _ => by subst e; simp
  | n + 1, a, i, e, hi, hn => by
    have ha : a < x.cps.toList.length := by simp only [Array.length_toList]; unfold PySem.Str.length at hi; omega
    have ed : x.cps.toList.drop a = x.cps.toList[a] :: x.cps.toList.drop (a + 1) := List.drop_eq_getElem_cons ha
    have hno : ¬ ((x.cps.toList.drop a).take y.length = y.cps.toList) := fun h => hn a (Nat.le_refl _) (by omega) (by
      refine ⟨?_, ?_⟩
      · have h9 := congrArg List.length h
        simp only [List.length_take, List.length_drop, Array.length_toList] at h9
        have ha' : a < x.cps.size := by simpa using ha
        unfold PySem.Str.length at h9 ⊢
        omega
      · rw [subAt_eq]; exact beq_iff_eq.mpr h)
    have h1 := replF_gap h2 n (a + 1) i (by omega) hi fun k h1 h2' => hn k (by omega) h2'
    rw [ed] at hno ⊢
    rw [h2 _ _ hno, h1]
    simp
open PySem.Builtin PySem.Builtin.Str PySem.StrLaws in
theorem replF_parts {x y z : PySem.Str} {F : List Nat → List Nat} (h1 : ∀ r, F (y.cps.toList ++ r) = z.cps.toList ++ F r) (h2 : ∀ c r, ¬ ((c :: r).take y.length = y.cps.toList) → F (c :: r) = c :: F r) (h3 : F [] = []) :
    ∀ (cuts : List Nat) (a f : Nat), a ≤ x.length → ChainG x y x.length a cuts f → (∀ k, f ≤ k → ¬ At x y x.length k) → (Str.join z (partsFrom x y.length a cuts)).cps.toList = F (x.cps.toList.drop a)
  | [], a, f, ha, hc, hn => by
    have ef : f = a := hc
    subst ef
    show (strSub x f x.length).cps.toList = _
    rw [strSub_toList, replF_gap h2 (x.length - f) f x.length (by omega) (Nat.le_refl _) fun k h1 _ => hn k h1]
    rw [show x.cps.toList.drop x.length = [] from List.drop_of_length_le (by simp [PySem.Str.length]), h3, List.append_nil]
  | c :: r, a, f, ha, ⟨h4, h5, h6, h7⟩, hn => by
    have hc : c + y.length ≤ x.length := h5.1
    have ih := replF_parts h1 h2 h3 r (c + y.length) f hc h7 hn
    have hs := h5.2
    rw [subAt_eq] at hs
    have hs' := beq_iff_eq.mp hs
    have ej : (Str.join z (partsFrom x y.length a (c :: r))) = strSub x a c ++ z ++ Str.join z (partsFrom x y.length (c + y.length) r) := by
      show Str.join z (strSub x a c :: partsFrom x y.length (c + y.length) r) = _
      cases r with
      | nil => rfl
      | cons _ _ => rfl
    rw [ej]
    show ((strSub x a c).cps ++ z.cps ++ (Str.join z (partsFrom x y.length (c + y.length) r)).cps).toList = _
    rw [Array.toList_append, Array.toList_append, ih, strSub_toList, replF_gap h2 (c - a) a c (by omega) (by omega) h6]
    have ed : x.cps.toList.drop c = y.cps.toList ++ x.cps.toList.drop (c + y.length) := by
      rw [← hs', ← List.drop_drop]
      exact (List.take_append_drop _ _).symm
    rw [ed, h1, List.append_assoc]
open PySem.Builtin PySem.Builtin.Str PySem.StrLaws in
theorem replF {x y z : PySem.Str} {F : List Nat → List Nat} (hy : 1 ≤ y.length) (h1 : ∀ r, F (y.cps.toList ++ r) = z.cps.toList ++ F r) (h2 : ∀ c r, ¬ ((c :: r).take y.length = y.cps.toList) → F (c :: r) = c :: F r) (h3 : F [] = []) :
    (Txt.replace x y z).cps.toList = F x.cps.toList := by
  obtain ⟨f, hG, hn⟩ := occ_tight x y hy
  unfold Txt.replace
  split
  · rename_i h
    have h' : occurrences x y 0 x.length (x.length + 1) = [] := by
      rw [Bool.or_eq_true] at h
      rcases h with h | h
      · exact List.isEmpty_iff.mp h
      · simp only [Bool.and_eq_true, beq_iff_eq] at h; omega
    rw [h'] at hG
    have ef : f = 0 := hG
    subst ef
    have := replF_gap (x := x) h2 x.length 0 x.length (by omega) (Nat.le_refl _) fun k h1 _ => hn k h1
    rw [show x.cps.toList.drop x.length = [] from List.drop_of_length_le (by simp [PySem.Str.length]), h3, List.append_nil, List.drop_zero] at this
    rw [this, List.take_of_length_le (by simp [PySem.Str.length])]
  · rw [glued_eq_join, partsBetween_eq, replF_parts h1 h2 h3 _ 0 f (Nat.zero_le _) hG hn, List.drop_zero]
def crlf : List Nat → List Nat
  | [] => []
  | [a] => [a]
  | a :: b :: r => if a = 13 ∧ b = 10 then 10 :: crlf r else a :: crlf (b :: r)
theorem repl_crlf (x : PySem.Str) : (Txt.replace x (PySem.Str.ofString "\r\n") (PySem.Str.ofString "\n")).cps.toList = crlf x.cps.toList := by
  have ey : (PySem.Str.ofString "\r\n").cps.toList = [13, 10] := by decide +kernel
  have el : (PySem.Str.ofString "\r\n").length = 2 := by decide +kernel
  have ez : (PySem.Str.ofString "\n").cps.toList = [10] := by decide +kernel
  refine replF (by rw [el]; decide) ?_ ?_ rfl
  · intro r; rw [ey, ez]; show crlf (13 :: 10 :: r) = _; simp [crlf]
  · intro c r h
    rw [ey, el] at h
    cases r with
    | nil => rfl
    | cons b r =>
      have h' : ¬ (c = 13 ∧ b = 10) := fun e => h (by simp [e.1, e.2])
      simp only [crlf, if_neg h']
theorem repl_one (x y z : PySem.Str) {c e : Nat} (hy : y.cps.toList = [c]) (hz : z.cps.toList = [e]) : (Txt.replace x y z).cps.toList = x.cps.toList.map fun a => if a = c then e else a := by
  have el : y.length = 1 := by unfold PySem.Str.length; rw [← Array.length_toList, hy]; rfl
  refine replF (F := List.map fun a => if a = c then e else a) (by rw [el]; decide) ?_ ?_ rfl
  · intro r; rw [hy, hz]; simp
  · intro k r h
    rw [hy, el] at h
    have h' : k ≠ c := fun e => h (by simp [e])
    simp [h']
/-- line ends mended, b: the sign before was a carriage return -/
def mend : Bool → List Nat → List Nat
  | _, [] => []
  | b, a :: r => if a = 13 then 10 :: mend true r else if a = 10 ∧ b = true then mend false r else a :: mend false r
theorem crlf_mend : ∀ (n : Nat) (l : List Nat), l.length ≤ n → ((crlf l).map fun a => if a = 13 then 10 else a) = mend false l
  | _, [], _ => rfl
  | _, [a], _ => by
    simp only [crlf, List.map_cons, List.map_nil, mend, Bool.false_eq_true, and_false, if_false]
    by_cases h : a = 13 <;> simp [h]
  | 0, _ :: _ :: _, h => by simp at h
  | n + 1, a :: b :: r, h => by
    simp only [List.length_cons] at h
    by_cases h1 : a = 13 ∧ b = 10
    · obtain ⟨rfl, rfl⟩ := h1
      simp only [crlf, and_self, if_true, List.map_cons]
      rw [crlf_mend n r (by omega)]
      simp [mend]
    · have ih := crlf_mend n (b :: r) (by simp only [List.length_cons]; omega)
      simp only [crlf, if_neg h1, List.map_cons, ih]
      by_cases ha : a = 13
      · have hb : b ≠ 10 := fun e => h1 ⟨ha, e⟩
        simp only [ha, if_true, mend, hb, false_and, if_false]
      · simp only [ha, if_false, mend, Bool.false_eq_true, and_false]
theorem nlz_mend (d : PySem.Str) : (nlz d).cps.toList = mend false d.cps.toList := by
  have ey : (PySem.Str.ofString "\r").cps.toList = [13] := by decide +kernel
  have ez : (PySem.Str.ofString "\n").cps.toList = [10] := by decide +kernel
  unfold nlz
  rw [repl_one _ _ _ ey ez, repl_crlf]
  exact crlf_mend _ _ (Nat.le_refl _)
end Mine
namespace Mine
open PySem.Builtin PySem.Builtin.Str in
theorem sliceIdx_clamp {a b : Int} {len : Nat} (hb : 0 ≤ b) : strSliceIndices (some a) (some b) 1 len = strSliceIndices (some a) (some (min b len)) 1 len := by
  have h1 : ¬ (b < 0) := by omega
  have h2 : ¬ (min b (len : Int) < 0) := by omega
  have h3 : max (0 : Int) (min (min b len) len) = max 0 (min b len) := by omega
  simp only [strSliceIndices, h1, h2, if_false, h3, show ((1 : Int) > 0) = True from by simp, if_true]
theorem slice_list {x : PySem.Str} {i j : Int} (h0 : 0 ≤ i) (h1 : i ≤ x.length) (h2 : i ≤ j) : (Txt.slice x (some i) (some j)).cps.toList = (x.cps.toList.drop i.toNat).take (j - i).toNat := by
  have e : Txt.slice x (some i) (some j) = StrLaws.sliceText x (some i) (some (min j x.length)) := by
    show StrLaws.sliceText x (some i) (some j) = _
    unfold StrLaws.sliceText
    rw [sliceIdx_clamp (by omega)]
  rw [e, StrLaws.sliceText_plain (by simp only [Array.length_toList]; unfold PySem.Str.length at h1 ⊢; omega)]
  show (x.cps.toList.drop i.toNat).take (min j x.length - i).toNat = _
  by_cases hj : j ≤ x.length
  · rw [show min j (x.length : Int) = j from by omega]
  · rw [show min j (x.length : Int) = x.length from by omega]
    have hl : (x.cps.toList.drop i.toNat).length = x.length - i.toNat := by simp [PySem.Str.length]
    rw [List.take_of_length_le (by omega), List.take_of_length_le (by omega)]
/-- what is still to be read, as it stands in the source -/
def raw (S : SS) : List Nat := (bfS S.bo).cps.toList ++ S.T.cps.toList.drop S.p.toNat
/-- what is still to be handed out -/
def rem (S : SS) : List Nat := S.c.cps.toList.drop S.o.toNat ++ mend false (raw S)
def cntI (l : List Nat) : Nat := (l.filter fun (k : Nat) => decide (inv (k : Int))).length
structure WF (S : SS) : Prop where
  o0 : 0 ≤ S.o
  oc : S.o ≤ S.c.length
  p0 : 0 ≤ S.p
  pT : S.p ≤ S.T.length
  hT : S.T.length ≤ 10000
  hc : S.c.length ≤ 20000
  hn : S.n + cntI (raw S) ≤ 20000
theorem cntI_app (a b : List Nat) : cntI (a ++ b) = cntI a + cntI b := by simp [cntI]
theorem mend_cons (f : Bool) (x : Nat) (l : List Nat) : mend f (x :: l) = if x = 13 then 10 :: mend true l else if x = 10 ∧ f = true then mend false l else x :: mend false l := rfl
theorem mend_app : ∀ (a : List Nat) (f : Bool) (b : List Nat), (a.getLast? = some 13 → b.head? ≠ some 10) → (a = [] → f = true → b.head? ≠ some 10) → mend f (a ++ b) = mend f a ++ mend false b
  | [], f, b, _, h => by
    cases b with
    | nil => rfl
    | cons c r =>
      cases f with
      | false => rfl
      | true =>
        have hc : c ≠ 10 := fun e => h rfl rfl (by simp [e])
        simp [mend, hc]
  | [x], f, b, h, _ => by
    have hb : mend true b = mend false b ∨ x ≠ 13 := by
      by_cases hx : x = 13
      · left
        cases b with
        | nil => rfl
        | cons c r =>
          have hc : c ≠ 10 := fun e => h (by simp [hx]) (by simp [e])
          simp [mend, hc]
      · exact .inr hx
    show mend f (x :: b) = mend f [x] ++ mend false b
    by_cases hx : x = 13
    · simp only [mend, hx, if_true]
      rcases hb with e | e
      · rw [e]; rfl
      · exact absurd hx e
    · simp only [mend, hx, if_false]
      split <;> rfl
  | x :: y :: r, f, b, h, _ => by
    have h' : (y :: r).getLast? = some 13 → b.head? ≠ some 10 := fun e => h (by rw [List.getLast?_cons_cons]; exact e)
    show mend f (x :: ((y :: r) ++ b)) = mend f (x :: y :: r) ++ mend false b
    have ih : ∀ g, mend g ((y :: r) ++ b) = mend g (y :: r) ++ mend false b := fun g => mend_app (y :: r) g b h' (fun e => by cases e)
    rw [mend_cons, mend_cons]
    by_cases hx : x = 13
    · rw [if_pos hx, if_pos hx, ih]; rfl
    · rw [if_neg hx, if_neg hx]
      split
      · exact ih false
      · rw [ih]; rfl
theorem mend_len : ∀ (l : List Nat) (f : Bool), (mend f l).length ≤ l.length
  | [], _ => Nat.le_refl _
  | a :: r, f => by
    have h1 := mend_len r true
    have h2 := mend_len r false
    simp only [mend]
    split
    · simp only [List.length_cons]; omega
    · split <;> simp only [List.length_cons] <;> omega
theorem rdD_list {S : SS} {k : Int} (h : WF S) (hk : 0 ≤ k) : (rdD S.bo S.T S.p k).cps.toList = (bfS S.bo).cps.toList ++ (S.T.cps.toList.drop S.p.toNat).take k.toNat := by
  show ((bfS S.bo).cps ++ (Txt.slice S.T (some S.p) (some (S.p + k))).cps).toList = _
  rw [Array.toList_append, slice_list h.p0 h.pT (by omega), show (S.p + k - S.p).toNat = k.toNat from by omega]
theorem slice_len {S : SS} {k : Int} (h : WF S) (hk : 0 ≤ k) : (Txt.slice S.T (some S.p) (some (S.p + k))).length = min k.toNat (S.T.length - S.p.toNat) := by
  have e := congrArg List.length (slice_list h.p0 h.pT (show S.p ≤ S.p + k by omega))
  simp only [Array.length_toList, List.length_take, List.length_drop] at e
  show Array.size _ = _
  rw [e, show (S.p + k - S.p).toNat = k.toNat from by omega]
  rfl
/-- one chunk more: the same signs to be handed out -/
theorem rdS_raw {S : SS} {k : Int} (h : WF S) (hk : 2 ≤ k) : raw S = (rdKeep (rdD S.bo S.T S.p k)).cps.toList ++ raw (rdS k S) ∧ ((rdKeep (rdD S.bo S.T S.p k)).cps.toList.getLast? = some 13 → (raw (rdS k S)).head? ≠ some 10) := by
  have hd := rdD_list h (show 0 ≤ k by omega)
  have hl := slice_len h (show 0 ≤ k by omega)
  have hp := h.p0
  have hpT := h.pT
  have hr : raw S = (rdD S.bo S.T S.p k).cps.toList ++ S.T.cps.toList.drop (S.p.toNat + k.toNat) := by
    rw [hd, List.append_assoc, ← List.drop_drop, List.take_append_drop]; rfl
  have hn : (rdS k S).p.toNat = min (S.p.toNat + k.toNat) S.T.length := by
    show (S.p + ((Txt.slice S.T (some S.p) (some (S.p + k))).length : Nat)).toNat = _
    rw [hl]; omega
  have hdr : S.T.cps.toList.drop (rdS k S).p.toNat = S.T.cps.toList.drop (S.p.toNat + k.toNat) := by
    rw [hn]
    by_cases hh : S.p.toNat + k.toNat ≤ S.T.length
    · rw [Nat.min_eq_left hh]
    · rw [Nat.min_eq_right (by omega), List.drop_of_length_le (by simp [PySem.Str.length]), List.drop_of_length_le (by simp only [Array.length_toList]; unfold PySem.Str.length at hh; omega)]
  have hraw : raw (rdS k S) = (bfS (rdBuf (rdD S.bo S.T S.p k))).cps.toList ++ S.T.cps.toList.drop (S.p.toNat + k.toNat) := by
    show (bfS (rdBuf (rdD S.bo S.T S.p k))).cps.toList ++ S.T.cps.toList.drop (rdS k S).p.toNat = _
    rw [hdr]
  generalize hD : rdD S.bo S.T S.p k = d at *
  by_cases hq : cutq d
  · have e1 : (rdKeep d).cps.toList = d.cps.toList.dropLast := by unfold rdKeep; rw [if_pos hq]
    have e2 : (bfS (rdBuf d)).cps.toList = [lastOf d] := by unfold rdBuf; rw [if_pos hq]; rfl
    have hne : d.cps.toList ≠ [] := fun e => by
      have := hq.1
      unfold PySem.Str.length at this
      rw [← Array.length_toList, e] at this
      simp at this
    have e3 : d.cps.toList.dropLast ++ [lastOf d] = d.cps.toList := by
      unfold lastOf
      rw [List.getLast?_eq_some_getLast hne]
      exact List.dropLast_concat_getLast hne
    rw [e1, hraw, e2, hr]
    refine ⟨by rw [← List.append_assoc, e3], fun _ => ?_⟩
    simp only [List.cons_append, List.head?_cons, ne_eq, Option.some.injEq]
    rcases hq.2 with e | e <;> omega
  · have e1 : rdKeep d = d := by unfold rdKeep; rw [if_neg hq]
    have e2 : (bfS (rdBuf d)).cps.toList = [] := by unfold rdBuf; rw [if_neg hq]; rfl
    rw [e1, hraw, e2, hr]
    refine ⟨rfl, fun hl13 => ?_⟩
    by_cases h1 : 1 < d.length
    · exfalso
      refine hq ⟨h1, .inl ?_⟩
      unfold lastOf
      rw [hl13]; rfl
    · have hlen : d.length = (bfS S.bo).length + min k.toNat (S.T.length - S.p.toNat) := by
        rw [← hD, ← hl]; exact PySem.Str.length_append _ _
      rw [List.nil_append, List.drop_of_length_le (by simp only [Array.length_toList]; unfold PySem.Str.length at *; omega)]
      simp
end Mine
namespace Mine
def tot (S : SS) : Nat := S.n + cntI (raw S)
theorem rdS_wf {S : SS} {k : Int} (h : WF S) (hk : 2 ≤ k) : WF (rdS k S) ∧ rem (rdS k S) = mend false (raw S) ∧ tot (rdS k S) = tot S := by
  obtain ⟨e1, e2⟩ := rdS_raw h hk
  have ht : tot (rdS k S) = tot S := by
    show S.n + cntInv (rdKeep (rdD S.bo S.T S.p k)) + cntI (raw (rdS k S)) = S.n + cntI (raw S)
    rw [e1, cntI_app]
    show _ + cntI (rdKeep (rdD S.bo S.T S.p k)).cps.toList + _ = _
    omega
  have hl := slice_len h (show 0 ≤ k by omega)
  have hp := h.p0
  have hpT := h.pT
  have hT := h.hT
  have hdl : (rdD S.bo S.T S.p k).length ≤ 10001 := by
    have : (rdD S.bo S.T S.p k).length = (bfS S.bo).length + (Txt.slice S.T (some S.p) (some (S.p + k))).length := PySem.Str.length_append _ _
    have hb : (bfS S.bo).length ≤ 1 := by cases S.bo <;> simp [bfS, PySem.Str.length, PySem.Str.empty]
    omega
  refine ⟨⟨Int.le_refl _, Int.natCast_nonneg _, ?_, ?_, h.hT, ?_, ?_⟩, ?_, ht⟩
  · show 0 ≤ S.p + ((Txt.slice S.T (some S.p) (some (S.p + k))).length : Nat); omega
  · show S.p + ((Txt.slice S.T (some S.p) (some (S.p + k))).length : Nat) ≤ (S.T.length : Nat); omega
  · have h1 := nlz_le (rdKeep (rdD S.bo S.T S.p k))
    have h2 := rdKeep_le (rdD S.bo S.T S.p k)
    show (nlz (rdKeep (rdD S.bo S.T S.p k))).length ≤ 20000
    omega
  · have := h.hn
    show tot (rdS k S) ≤ 20000
    rw [ht]; exact this
  · show (nlz (rdKeep (rdD S.bo S.T S.p k))).cps.toList.drop 0 ++ mend false (raw (rdS k S)) = _
    rw [List.drop_zero, nlz_mend, e1, mend_app _ _ _ e2 (fun _ e => by cases e)]
theorem rdB_raw {S : SS} {k : Int} (h : WF S) (hk : 2 ≤ k) : (rdB k S = false → raw S = []) ∧ (rdB k S = true → 0 < (rdS k S).c.length) := by
  refine ⟨fun hb => ?_, fun hb => nlz_pos (rdKeep_pos (of_decide_eq_true hb))⟩
  have hb' : ¬ 0 < (rdD S.bo S.T S.p k).length := of_decide_eq_false hb
  have hd := rdD_list h (show 0 ≤ k by omega)
  have h0 : (rdD S.bo S.T S.p k).cps.toList = [] := by
    apply List.eq_nil_of_length_eq_zero
    simp only [Array.length_toList]
    unfold PySem.Str.length at hb'
    omega
  rw [h0] at hd
  have hd' := List.append_eq_nil_iff.mp hd.symm
  unfold raw
  rw [hd'.1, List.nil_append]
  have h2 := congrArg List.length hd'.2
  simp only [List.length_take, List.length_nil] at h2
  apply List.eq_nil_of_length_eq_zero
  omega
theorem drop_cons {l : List Nat} {i : Nat} {a : Nat} (h : l[i]? = some a) : l.drop i = a :: l.drop (i + 1) := by
  obtain ⟨hi, e⟩ := List.getElem?_eq_some_iff.mp h
  rw [List.drop_eq_getElem_cons hi, e]
theorem chS_rem {S : SS} (h : WF S) : WF (chS S).2 ∧ tot (chS S).2 = tot S ∧ (chS S).1 = (rem S).head? ∧ rem (chS S).2 = (rem S).tail := by
  have ho := h.o0
  have hoc := h.oc
  by_cases hlt : S.o < S.c.length
  · have e : chS S = (S.c.cps[S.o.toNat]?, { S with o := S.o + 1 }) := if_pos hlt
    obtain ⟨ch, hch, _⟩ := item_at ho hlt
    rw [e]
    have hd := drop_cons (l := S.c.cps.toList) (i := S.o.toNat) (a := ch) (by simpa using hch)
    have hr : rem S = ch :: (S.c.cps.toList.drop (S.o.toNat + 1) ++ mend false (raw S)) := by
      unfold rem; rw [hd]; rfl
    refine ⟨⟨?_, ?_, h.p0, h.pT, h.hT, h.hc, h.hn⟩, rfl, ?_, ?_⟩
    · show 0 ≤ S.o + 1; omega
    · show S.o + 1 ≤ (S.c.length : Nat); omega
    · rw [hr]; exact hch
    · rw [hr]
      show S.c.cps.toList.drop (S.o + 1).toNat ++ mend false (raw S) = _
      rw [show (S.o + 1).toNat = S.o.toNat + 1 from by omega]; rfl
  · obtain ⟨w1, w2, w3⟩ := rdS_wf (k := 10240) h (by decide)
    obtain ⟨b1, b2⟩ := rdB_raw (k := 10240) h (by decide)
    have hrem : rem S = mend false (raw S) := by
      unfold rem
      rw [List.drop_of_length_le (by simp only [Array.length_toList]; unfold PySem.Str.length at hlt; omega)]; rfl
    cases hb : rdB 10240 S with
    | false =>
      have e : chS S = (none, rdS 10240 S) := (if_neg hlt).trans (if_neg (by rw [hb]; exact Bool.false_ne_true))
      rw [e, hrem, w2, b1 hb]
      exact ⟨w1, w3, rfl, rfl⟩
    | true =>
      have e : chS S = ((rdS 10240 S).c.cps[0]?, { rdS 10240 S with o := 1 }) := (if_neg hlt).trans (if_pos hb)
      have hpos := b2 hb
      have ho' : (rdS 10240 S).o = 0 := rfl
      clear b1 b2
      generalize rdS 10240 S = S' at *
      obtain ⟨ch, hch, _⟩ := item_at (x := S'.c) (i := 0) (by omega) (by omega)
      have hch' : S'.c.cps[0]? = some ch := hch
      have hd := drop_cons (l := S'.c.cps.toList) (i := 0) (a := ch) (by simpa using hch')
      have hr : rem S = ch :: (S'.c.cps.toList.drop 1 ++ mend false (raw S')) := by
        rw [hrem, ← w2]
        unfold rem
        rw [ho']
        show S'.c.cps.toList.drop 0 ++ _ = _
        rw [hd]; rfl
      rw [e]
      refine ⟨⟨?_, ?_, w1.p0, w1.pT, w1.hT, w1.hc, w1.hn⟩, w3, ?_, ?_⟩
      · show (0 : Int) ≤ 1; decide
      · show (1 : Int) ≤ (S'.c.length : Nat); omega
      · rw [hr, hch']; rfl
      · rw [hr]; rfl
/-- a sign put back -/
def ugS (ch : Nat) (S : SS) : SS := { S with c := if S.o = 0 then ⟨#[ch]⟩ ++ S.c else S.c, o := if S.o = 0 then 0 else S.o - 1 }
theorem ugS_rem {S : SS} {ch : Nat} (h : WF S) (hc : 0 < S.o → S.c.cps[(S.o - 1).toNat]? = some ch) (hl : S.c.length ≤ 19999) : WF (ugS ch S) ∧ tot (ugS ch S) = tot S ∧ rem (ugS ch S) = ch :: rem S := by
  have ho := h.o0
  have hoc := h.oc
  by_cases h0 : S.o = 0
  · have e : ugS ch S = { S with c := ⟨#[ch]⟩ ++ S.c, o := 0 } := by unfold ugS; rw [if_pos h0, if_pos h0]
    have el : (⟨#[ch]⟩ ++ S.c : PySem.Str).length = 1 + S.c.length := PySem.Str.length_append _ _
    rw [e]
    refine ⟨⟨Int.le_refl _, Int.natCast_nonneg _, h.p0, h.pT, h.hT, ?_, h.hn⟩, rfl, ?_⟩
    · show (⟨#[ch]⟩ ++ S.c : PySem.Str).length ≤ 20000; omega
    · show ((⟨#[ch]⟩ : PySem.Str).cps ++ S.c.cps).toList.drop 0 ++ mend false (raw S) = ch :: (S.c.cps.toList.drop S.o.toNat ++ mend false (raw S))
      rw [h0, Array.toList_append]; rfl
  · have e : ugS ch S = { S with o := S.o - 1 } := by unfold ugS; rw [if_neg h0, if_neg h0]
    rw [e]
    have hd := drop_cons (l := S.c.cps.toList) (i := (S.o - 1).toNat) (a := ch) (by simpa using hc (by omega))
    refine ⟨⟨?_, ?_, h.p0, h.pT, h.hT, h.hc, h.hn⟩, rfl, ?_⟩
    · show 0 ≤ S.o - 1; omega
    · show S.o - 1 ≤ (S.c.length : Nat); omega
    · show S.c.cps.toList.drop (S.o - 1).toNat ++ mend false (raw S) = _
      rw [hd, show (S.o - 1).toNat + 1 = S.o.toNat from by omega]; rfl
end Mine
namespace Mine
/-! line and column -/
def colS (k : Int) (c : Nat) : Int := if c = 10 then 0 else k + 1
def lcL (l : List Nat) : Int := (l.count 10 : Nat)
def lcC (k : Int) (l : List Nat) : Int := l.foldl colS k
theorem lcC_app (k : Int) (a b : List Nat) : lcC k (a ++ b) = lcC (lcC k a) b := List.foldl_append
theorem lcL_app (a b : List Nat) : lcL (a ++ b) = lcL a + lcL b := by simp [lcL]
theorem lcC_none : ∀ (l : List Nat) (k : Int), 10 ∉ l → lcC k l = k + l.length
  | [], k, _ => by simp [lcC]
  | a :: r, k, h => by
    have ha : a ≠ 10 := fun e => h (by simp [e])
    show lcC (colS k a) r = _
    rw [lcC_none r _ (fun e => h (.tail _ e))]
    simp only [colS, if_neg ha, List.length_cons]; omega
open PySem.Builtin PySem.Builtin.Str PySem.StrLaws in
theorem at_one {x : PySem.Str} {c hi i : Nat} (hh : hi ≤ x.length) : At x ⟨#[c]⟩ hi i ↔ (x.cps.toList.take hi)[i]? = some c := by
  have h1 := subAt_one x c i
  have e1 : (⟨#[c]⟩ : PySem.Str).length = 1 := rfl
  rw [e1] at h1
  unfold At
  rw [e1, List.getElem?_take]
  constructor
  · rintro ⟨a, b⟩
    rw [if_pos (by omega)]
    exact h1.mp ⟨by omega, b⟩
  · intro h
    by_cases hlt : i < hi
    · rw [if_pos hlt] at h
      exact ⟨by omega, (h1.mpr h).2⟩
    · rw [if_neg hlt] at h; cases h
open PySem.Builtin PySem.Builtin.Str PySem.StrLaws in
theorem cnt_run {x : PySem.Str} {c hi limit : Nat} (hh : hi ≤ x.length) : ∀ (m cur : Nat) (st : Array Nat × Nat), st.snd ≤ cur → st.fst.size + m ≤ limit →
    (forIn (List.range' cur m) st (occBody x ⟨#[c]⟩ hi limit)).run.fst.size = st.fst.size + (((x.cps.toList.take hi).drop cur).take m).count c
  | 0, cur, st, _, _ => by simp
  | m + 1, cur, st, h1, h2 => by
    rw [List.range'_succ, List.forIn_cons]
    unfold occBody
    have e1 : (⟨#[c]⟩ : PySem.Str).length = 1 := rfl
    have hat := at_one (c := c) (i := cur) hh
    unfold At at hat
    split
    · rename_i hc
      have hx := hat.mp ⟨hc.1.2, hc.2⟩
      rw [drop_cons hx]
      have ih := cnt_run (c := c) (limit := limit) hh m (cur + 1) (st.fst.push cur, cur + (⟨#[c]⟩ : PySem.Str).length) (by rw [e1]; exact Nat.le_refl _) (by show (st.fst.push cur).size + m ≤ limit; rw [Array.size_push]; omega)
      refine (Eq.trans ih ?_)
      simp only [Array.size_push, List.take_succ_cons, List.count_cons_self]; omega
    · rename_i hc
      have ih := cnt_run (c := c) (limit := limit) hh m (cur + 1) (st.fst, st.snd) (by show st.snd ≤ cur + 1; omega) (by show st.fst.size + m ≤ limit; omega)
      refine (Eq.trans ih ?_)
      show st.fst.size + _ = st.fst.size + _
      have hx : ¬ (x.cps.toList.take hi)[cur]? = some c := fun e => hc ⟨⟨⟨by omega, h1⟩, (hat.mpr e).1⟩, (hat.mpr e).2⟩
      cases hg : (x.cps.toList.take hi)[cur]? with
      | none =>
        have hlen := List.getElem?_eq_none_iff.mp hg
        rw [List.drop_of_length_le hlen, List.drop_of_length_le (by omega)]; simp
      | some d =>
        rw [drop_cons hg]
        have hd : d ≠ c := fun e => hx (by rw [hg, e])
        simp [hd]
open PySem.Builtin PySem.Builtin.Str PySem.StrLaws in
theorem cnt4_list {x : PySem.Str} {j : Nat} (hj : j ≤ x.length) : (cnt4 x nlS 0 j : Int) = lcL (x.cps.toList.take j) := by
  have en : nlS = ⟨#[10]⟩ := by decide +kernel
  unfold cnt4 lcL
  rw [en, Nat.min_eq_left hj, occ_eq]
  have h := cnt_run (x := x) (c := 10) (hi := j) (limit := x.length + 1) hj (j + 1) 0 (#[], 0) (Nat.le_refl _) (by show 0 + (j + 1) ≤ _; omega)
  rw [Nat.sub_zero, Array.length_toList, h]
  simp only [List.drop_zero, List.size_toArray, List.length_nil, Nat.zero_add]
  rw [List.take_of_length_le (by rw [List.length_take]; omega)]
open PySem.Builtin PySem.Builtin.Str PySem.StrLaws in
theorem rf4_list {x : PySem.Str} {j : Nat} (hj : j ≤ x.length) :
    (rf4 x nlS 0 j = -1 ∧ 10 ∉ x.cps.toList.take j) ∨ ∃ a : Nat, rf4 x nlS 0 j = a ∧ (x.cps.toList.take j)[a]? = some 10 ∧ 10 ∉ (x.cps.toList.take j).drop (a + 1) := by
  have en : nlS = ⟨#[10]⟩ := by decide +kernel
  unfold rf4
  rw [en, Nat.min_eq_left hj, last_eq]
  have h := last_run x ⟨#[10]⟩ j (List.range' 0 (j + 1)) [] none (fun i hi => nomatch hi) (fun i hi => nomatch hi) (List.pairwise_lt_range' ..)
  rw [List.nil_append] at h
  rw [Nat.sub_zero]
  cases hr : (forIn (List.range' 0 (j + 1)) none (lastBody x ⟨#[10]⟩ j)).run with
  | none =>
    left
    rw [hr] at h
    refine ⟨rfl, fun hm => ?_⟩
    obtain ⟨i, hi⟩ := List.getElem?_of_mem hm
    have hlt : i < (x.cps.toList.take j).length := (List.getElem?_eq_some_iff.mp hi).1
    rw [List.length_take] at hlt
    exact h i (by rw [List.mem_range'_1]; omega) ((at_one hj).mpr hi)
  | some a =>
    right
    rw [hr] at h
    refine ⟨a, rfl, (at_one hj).mp h.1, fun hm => ?_⟩
    obtain ⟨i, hi⟩ := List.getElem?_of_mem hm
    rw [List.getElem?_drop] at hi
    have hlt : a + 1 + i < (x.cps.toList.take j).length := (List.getElem?_eq_some_iff.mp hi).1
    rw [List.length_take] at hlt
    exact h.2 (a + 1 + i) (by rw [List.mem_range'_1]; omega) (by omega) ((at_one hj).mpr hi)
theorem posL_list {x : PySem.Str} {pl o : Int} (h0 : 0 ≤ o) (h1 : o ≤ x.length) : posL x pl o = pl + lcL (x.cps.toList.take o.toNat) := by
  unfold posL
  rw [cnt4_list (by omega)]
theorem posC_list {x : PySem.Str} {pc o : Int} (h0 : 0 ≤ o) (h1 : o ≤ x.length) : posC x pc o = lcC pc (x.cps.toList.take o.toNat) := by
  have hl : (x.cps.toList.take o.toNat).length = o.toNat := by
    rw [List.length_take, Array.length_toList]; unfold PySem.Str.length at h1; omega
  unfold posC
  rcases rf4_list (x := x) (j := o.toNat) (by omega) with ⟨e, hn⟩ | ⟨a, e, ha, hn⟩
  · rw [if_pos e, lcC_none _ _ hn, hl]; omega
  · rw [if_neg (by rw [e]; omega), e]
    have hsp := (take_at ha).1
    have hlt : a < (x.cps.toList.take o.toNat).length := (List.getElem?_eq_some_iff.mp ha).1
    rw [hsp, lcC_app]
    show _ = lcC (colS _ 10) _
    rw [lcC_none _ _ hn]
    simp only [colS, if_true, List.length_drop, hl]
    omega
def PosOK (S : SS) (done : List Nat) : Prop := ∃ pre, done = pre ++ S.c.cps.toList.take S.o.toNat ∧ S.pl = lcL pre ∧ S.pc = lcC 0 pre
theorem PosOK.pos {S : SS} {done : List Nat} (h : PosOK S done) (hw : WF S) : posL S.c S.pl S.o = lcL done ∧ posC S.c S.pc S.o = lcC 0 done := by
  obtain ⟨pre, rfl, e1, e2⟩ := h
  rw [posL_list hw.o0 hw.oc, posC_list hw.o0 hw.oc, e1, e2, lcL_app, lcC_app]
  exact ⟨rfl, rfl⟩
theorem rdS_pos {S : SS} {done : List Nat} {k : Int} (h : PosOK S done) (ho : S.o = S.c.length) : PosOK (rdS k S) done := by
  obtain ⟨pre, rfl, e1, e2⟩ := h
  have ht : S.c.cps.toList.take S.o.toNat = S.c.cps.toList := List.take_of_length_le (by simp only [Array.length_toList]; unfold PySem.Str.length at ho; omega)
  have ht2 : S.c.cps.toList.take (S.c.length : Int).toNat = S.c.cps.toList := List.take_of_length_le (by simp only [Array.length_toList]; unfold PySem.Str.length; omega)
  refine ⟨pre ++ S.c.cps.toList, by rw [ht]; show _ = _ ++ List.take 0 _; simp, ?_, ?_⟩
  · show posL S.c S.pl S.c.length = _
    rw [posL_list (by omega) (Int.le_refl _), ht2, e1, lcL_app]
  · show posC S.c S.pc S.c.length = _
    rw [posC_list (by omega) (Int.le_refl _), ht2, e2, lcC_app]
end Mine
namespace Mine
/-- between the turns: what is taken, what is left -/
structure CUI (pr : Nat → Bool) (S₀ S : SS) (acc : List Nat) : Prop where
  all : ∀ a ∈ acc, pr a = true
  app : acc ++ rem S = rem S₀
  tot : tot S = tot S₀
  pos : ∀ done, PosOK S₀ done → PosOK S (done ++ acc)

theorem slice_from {x : PySem.Str} {i : Int} (h0 : 0 ≤ i) (h1 : i ≤ x.length) : (Txt.slice x (some i) none).cps.toList = x.cps.toList.drop i.toNat := by
  have e : Txt.slice x (some i) none = Txt.slice x (some i) (some (x.length : Int)) := by
    show StrLaws.sliceText x (some i) none = StrLaws.sliceText x (some i) (some (x.length : Int))
    unfold StrLaws.sliceText
    rw [StrLaws.sliceIdx_none_hi]
  rw [e, slice_list h0 h1 h1, List.take_of_length_le (by rw [List.length_drop, Array.length_toList]; unfold PySem.Str.length; omega)]
theorem CUI.step {pr : Nat → Bool} {S₀ S : SS} {acc : List Nat} {e : Int} (h : CUI pr S₀ S acc) (hw : WF S) (h1 : S.o ≤ e) (h2 : e ≤ S.c.length) (h3 : ∀ i, S.o.toNat ≤ i → i < e.toNat → ∃ ch, S.c.cps[i]? = some ch ∧ pr ch = true) :
    CUI pr S₀ { S with o := e } (acc ++ (S.c.cps.toList.drop S.o.toNat).take (e - S.o).toNat) ∧ WF { S with o := e } := by
  have ho := hw.o0
  have hsum : S.o.toNat + (e - S.o).toNat = e.toNat := by omega
  refine ⟨⟨?_, ?_, h.tot, ?_⟩, ⟨by show 0 ≤ e; omega, h2, hw.p0, hw.pT, hw.hT, hw.hc, hw.hn⟩⟩
  · intro a ha
    rcases List.mem_append.mp ha with ha | ha
    · exact h.all a ha
    · obtain ⟨i, hi⟩ := List.getElem?_of_mem ha
      rw [List.getElem?_take] at hi
      split at hi
      · rename_i hlt
        rw [List.getElem?_drop] at hi
        obtain ⟨ch, hc, hp⟩ := h3 (S.o.toNat + i) (by omega) (by omega)
        have hc' : S.c.cps.toList[S.o.toNat + i]? = some ch := by simpa using hc
        rw [hc'] at hi
        rw [← Option.some.inj hi]; exact hp
      · cases hi
  · rw [← h.app, List.append_assoc]
    congr 1
    show _ ++ (S.c.cps.toList.drop e.toNat ++ mend false (raw S)) = S.c.cps.toList.drop S.o.toNat ++ mend false (raw S)
    rw [← List.append_assoc, ← hsum, ← List.drop_drop, List.take_append_drop]
  · intro done hd
    obtain ⟨pre, ep, e1, e2⟩ := h.pos done hd
    refine ⟨pre, ?_, e1, e2⟩
    rw [← List.append_assoc, ep, List.append_assoc]
    show _ = pre ++ S.c.cps.toList.take e.toNat
    congr 1
    rw [← hsum, List.take_add]
theorem CUI.next {pr : Nat → Bool} {S₀ S : SS} {acc : List Nat} (h : CUI pr S₀ S acc) (hw : WF S) (ho : S.o = S.c.length) : CUI pr S₀ (rdS 10240 S) acc := by
  obtain ⟨w1, w2, w3⟩ := rdS_wf (k := 10240) hw (by decide)
  refine ⟨h.all, ?_, w3.trans h.tot, fun done hd => rdS_pos (h.pos done hd) ho⟩
  have e9 : rem S = mend false (raw S) := by
    unfold rem
    rw [List.drop_of_length_le (by simp only [Array.length_toList]; unfold PySem.Str.length at ho; omega)]; rfl
  rw [← h.app, w2, e9]
theorem takeWhile_all {pr : Nat → Bool} : ∀ {acc r : List Nat}, (∀ a ∈ acc, pr a = true) → (∀ a, r.head? = some a → pr a = false) → (acc ++ r).takeWhile pr = acc ∧ (acc ++ r).dropWhile pr = r
  | [], [], _, _ => ⟨rfl, rfl⟩
  | [], a :: r, _, h => by
    have := h a rfl
    simp [this]
  | a :: acc, r, h1, h2 => by
    have ha := h1 a (.head _)
    obtain ⟨e1, e2⟩ := takeWhile_all (acc := acc) (r := r) (fun b hb => h1 b (.tail _ hb)) h2
    simp [ha, e1, e2]
theorem CUI.fin {pr : Nat → Bool} {S₀ S : SS} {acc : List Nat} (h : CUI pr S₀ S acc) (hh : ∀ a, (rem S).head? = some a → pr a = false) : (rem S₀).takeWhile pr = acc ∧ (rem S₀).dropWhile pr = rem S := by
  rw [← h.app]; exact takeWhile_all h.all hh
theorem CUI.len {pr : Nat → Bool} {S₀ S : SS} {acc : List Nat} (h : CUI pr S₀ S acc) (hw : WF S₀) : acc.length ≤ 40000 := by
  have e := congrArg List.length h.app
  have h1 := mend_len (raw S₀) false
  have h2 : (rem S₀).length ≤ 20000 + (raw S₀).length := by
    unfold rem
    rw [List.length_append, List.length_drop, Array.length_toList]
    have := hw.hc
    unfold PySem.Str.length at this
    omega
  have h3 : (raw S₀).length ≤ 1 + 10000 := by
    unfold raw
    rw [List.length_append, List.length_drop, Array.length_toList, Array.length_toList]
    have := hw.hT
    have hb : (bfS S₀.bo).cps.size ≤ 1 := by cases S₀.bo <;> simp [bfS, PySem.Str.empty]
    unfold PySem.Str.length at this
    omega
  rw [List.length_append] at e
  omega
theorem raw_len {S : SS} (hw : WF S) : (raw S).length ≤ 10001 := by
  unfold raw
  rw [List.length_append, List.length_drop, Array.length_toList, Array.length_toList]
  have := hw.hT
  have hb : (bfS S.bo).cps.size ≤ 1 := by cases S.bo <;> simp [bfS, PySem.Str.empty]
  unfold PySem.Str.length at this
  omega
theorem raw_less {S : SS} (hw : WF S) (hb : rdB 10240 S = true) : (raw (rdS 10240 S)).length < (raw S).length := by
  obtain ⟨e, _⟩ := rdS_raw (k := 10240) hw (by decide)
  have h1 := rdKeep_pos (of_decide_eq_true hb)
  have e' := congrArg List.length e
  have e2 : (rdKeep (rdD S.bo S.T S.p 10240)).cps.toList.length = (rdKeep (rdD S.bo S.T S.p 10240)).cps.size := Array.length_toList
  rw [List.length_append, e2] at e'
  unfold PySem.Str.length at h1
  omega
theorem mend_rdS_nil {S : SS} (hw : WF S) (hb : rdB 10240 S = false) : rem (rdS 10240 S) = [] := by
  rw [(rdS_wf (k := 10240) hw (by decide)).2.1, (rdB_raw (k := 10240) hw (by decide)).1 hb]; rfl
end Mine
namespace Mine
/-- what stands before the offset in the chunk was handed out last -/
def Suf (S : SS) (done : List Nat) : Prop := S.c.cps.toList.take S.o.toNat <:+ done
theorem take_snoc {l : List Nat} {i a : Nat} (h : l[i]? = some a) : l.take (i + 1) = l.take i ++ [a] := (take_at h).2
theorem rdS_clen {S : SS} (h : WF S) : (rdS 10240 S).c.length ≤ 10001 := by
  have h1 := nlz_le (rdKeep (rdD S.bo S.T S.p 10240))
  have h2 := rdKeep_le (rdD S.bo S.T S.p 10240)
  have hl := slice_len (k := 10240) h (by decide)
  have hT := h.hT
  have h3 : (rdD S.bo S.T S.p 10240).length = (bfS S.bo).length + (Txt.slice S.T (some S.p) (some (S.p + 10240))).length := PySem.Str.length_append _ _
  have hb : (bfS S.bo).length ≤ 1 := by cases S.bo <;> simp [bfS, PySem.Str.length, PySem.Str.empty]
  show (nlz (rdKeep (rdD S.bo S.T S.p 10240))).length ≤ 10001
  omega
theorem chS_more {S : SS} (h : WF S) : (∀ done, PosOK S done → PosOK (chS S).2 (done ++ (rem S).head?.toList)) ∧ (∀ done, Suf S done → Suf (chS S).2 (done ++ (rem S).head?.toList)) ∧ (S.c.length ≤ 10001 → (chS S).2.c.length ≤ 10001) := by
  have ho := h.o0
  have hoc := h.oc
  obtain ⟨_, _, e1, _⟩ := chS_rem h
  by_cases hlt : S.o < S.c.length
  · have e : chS S = (S.c.cps[S.o.toNat]?, { S with o := S.o + 1 }) := if_pos hlt
    obtain ⟨ch, hch, _⟩ := item_at ho hlt
    rw [← e1, e]
    have ht : S.c.cps.toList.take (S.o + 1).toNat = S.c.cps.toList.take S.o.toNat ++ [ch] := by
      rw [show (S.o + 1).toNat = S.o.toNat + 1 from by omega]
      exact take_snoc (by simpa using hch)
    have hh : (S.c.cps[S.o.toNat]?).toList = [ch] := by rw [hch]; rfl
    refine ⟨fun done hd => ?_, fun done hd => ?_, fun hl => hl⟩
    · obtain ⟨pre, rfl, p1, p2⟩ := hd
      refine ⟨pre, ?_, p1, p2⟩
      show _ = pre ++ S.c.cps.toList.take (S.o + 1).toNat
      rw [ht, ← List.append_assoc]
      show _ ++ (S.c.cps[S.o.toNat]?).toList = _
      rw [hh]
    · show S.c.cps.toList.take (S.o + 1).toNat <:+ done ++ (S.c.cps[S.o.toNat]?).toList
      rw [ht, hh]
      obtain ⟨pre, hp⟩ := hd
      exact ⟨pre, by rw [← hp, List.append_assoc]⟩
  · have hoe : S.o = S.c.length := by omega
    cases hb : rdB 10240 S with
    | false =>
      have e : chS S = (none, rdS 10240 S) := (if_neg hlt).trans (if_neg (by rw [hb]; exact Bool.false_ne_true))
      rw [← e1, e]
      refine ⟨fun done hd => ?_, fun done hd => ?_, fun _ => rdS_clen h⟩
      · show PosOK (rdS 10240 S) (done ++ [])
        rw [List.append_nil]; exact rdS_pos hd hoe
      · exact List.nil_suffix
    | true =>
      have e : chS S = ((rdS 10240 S).c.cps[0]?, { rdS 10240 S with o := 1 }) := (if_neg hlt).trans (if_pos hb)
      have hpos := (rdB_raw (k := 10240) h (by decide)).2 hb
      obtain ⟨ch, hch, _⟩ := item_at (x := (rdS 10240 S).c) (i := 0) (by omega) (by omega)
      have hch' : (rdS 10240 S).c.cps[0]? = some ch := hch
      have ht : (rdS 10240 S).c.cps.toList.take 1 = [ch] := by
        have := take_snoc (l := (rdS 10240 S).c.cps.toList) (i := 0) (a := ch) (by simpa using hch')
        simpa using this
      have hh : ((rdS 10240 S).c.cps[0]?).toList = [ch] := by rw [hch']; rfl
      rw [← e1, e]
      refine ⟨fun done hd => ?_, fun done hd => ?_, fun _ => rdS_clen h⟩
      · obtain ⟨pre, p0, p1, p2⟩ := rdS_pos (k := 10240) hd hoe
        refine ⟨pre, ?_, p1, p2⟩
        show done ++ ((rdS 10240 S).c.cps[0]?).toList = pre ++ (rdS 10240 S).c.cps.toList.take 1
        rw [hh, ht, p0]
        show _ = pre ++ [ch]
        rw [show (rdS 10240 S).c.cps.toList.take (rdS 10240 S).o.toNat = [] from by show List.take 0 _ = []; simp, List.append_nil]
      · show (rdS 10240 S).c.cps.toList.take 1 <:+ done ++ ((rdS 10240 S).c.cps[0]?).toList
        rw [hh, ht]
        exact List.suffix_append _ _
theorem PosOK.suf {S : SS} {done : List Nat} (h : PosOK S done) : Suf S done := by
  obtain ⟨pre, rfl, _, _⟩ := h
  exact List.suffix_append _ _
theorem Suf.last {S : SS} {done : List Nat} {ch : Nat} (h : Suf S (done ++ [ch])) (hw : WF S) (h0 : 0 < S.o) : S.c.cps[(S.o - 1).toNat]? = some ch := by
  have hoc := hw.oc
  have hs : S.o.toNat = (S.o - 1).toNat + 1 := by omega
  have hlt : (S.o - 1).toNat < S.c.cps.toList.length := by rw [Array.length_toList]; unfold PySem.Str.length at hoc; omega
  unfold Suf at h
  rw [hs, take_snoc (a := S.c.cps.toList[(S.o - 1).toNat]) (List.getElem?_eq_getElem hlt)] at h
  obtain ⟨pre, hp⟩ := h
  rw [← List.append_assoc] at hp
  have e := (List.append_inj' hp rfl).2
  have e' := List.cons.inj e
  have := List.getElem?_eq_getElem hlt
  rw [e'.1] at this
  simpa using this
theorem ugS_more {S : SS} {done : List Nat} {ch : Nat} (hw : WF S) (h : Suf S (done ++ [ch])) : Suf (ugS ch S) done ∧ (0 < S.o → PosOK S (done ++ [ch]) → PosOK (ugS ch S) done) ∧ (ugS ch S).c.length ≤ S.c.length + 1 ∧ (0 < S.o → (ugS ch S).c.length = S.c.length) := by
  have hoc := hw.oc
  have ho := hw.o0
  by_cases h0 : S.o = 0
  · have e : ugS ch S = { S with c := ⟨#[ch]⟩ ++ S.c, o := 0 } := by unfold ugS; rw [if_pos h0, if_pos h0]
    rw [e]
    refine ⟨List.nil_suffix, fun hp => absurd h0 (by omega), ?_, fun hp => absurd h0 (by omega)⟩
    show (⟨#[ch]⟩ ++ S.c : PySem.Str).length ≤ _
    have el : (⟨#[ch]⟩ ++ S.c : PySem.Str).length = 1 + S.c.length := PySem.Str.length_append _ _
    omega
  · have e : ugS ch S = { S with o := S.o - 1 } := by unfold ugS; rw [if_neg h0, if_neg h0]
    have hl := h.last hw (by omega)
    have ht : S.c.cps.toList.take S.o.toNat = S.c.cps.toList.take (S.o - 1).toNat ++ [ch] := by
      rw [show S.o.toNat = (S.o - 1).toNat + 1 from by omega]
      exact take_snoc (by simpa using hl)
    rw [e]
    refine ⟨?_, fun _ hp => ?_, Nat.le_succ _, fun _ => rfl⟩
    · obtain ⟨pre, hp⟩ := h
      rw [ht, ← List.append_assoc] at hp
      exact ⟨pre, (List.append_inj' hp rfl).1⟩
    · obtain ⟨pre, hp, p1, p2⟩ := hp
      rw [ht, ← List.append_assoc] at hp
      exact ⟨pre, (List.append_inj' hp rfl).1, p1, p2⟩
end Mine
namespace Mine
/-! all signs in one chunk -/
def One (S : SS) (done : List Nat) : Prop := S.c.cps.toList.take S.o.toNat = done ∧ S.pl = 0 ∧ S.pc = 0 ∧ mend false (raw S) = []
def Fresh (S : SS) : Prop := S.c.cps.toList = [] ∧ S.o = 0 ∧ S.pl = 0 ∧ S.pc = 0 ∧ mend false (raw (rdS 10240 S)) = []
def Pos1 (S : SS) (done : List Nat) : Prop := One S done ∨ (done = [] ∧ Fresh S)
theorem Pos1.ok {S : SS} {done : List Nat} (h : Pos1 S done) : PosOK S done := by
  rcases h with ⟨h1, h2, h3, _⟩ | ⟨rfl, h1, h2, h3, h4, _⟩
  · exact ⟨[], by rw [h1]; rfl, h2, h3⟩
  · exact ⟨[], by rw [h1]; simp, h3, h4⟩
theorem Pos1.next {S : SS} {done : List Nat} (hw : WF S) (h : Pos1 S done) (hr : rem S ≠ []) : Pos1 (chS S).2 (done ++ (rem S).head?.toList) := by
  have ho := hw.o0
  have hoc := hw.oc
  obtain ⟨_, _, e1, _⟩ := chS_rem hw
  rcases h with ⟨h1, h2, h3, h4⟩ | ⟨rfl, h1, h2, h3, h4, h5⟩
  · have hlt : S.o < S.c.length := by
      apply Decidable.byContradiction
      intro hn
      apply hr
      unfold rem
      rw [h4, List.append_nil, List.drop_of_length_le (by simp only [Array.length_toList]; unfold PySem.Str.length at hn; omega)]
    have e : chS S = (S.c.cps[S.o.toNat]?, { S with o := S.o + 1 }) := if_pos hlt
    obtain ⟨ch, hch, _⟩ := item_at ho hlt
    rw [← e1, e]
    have ht : S.c.cps.toList.take (S.o + 1).toNat = S.c.cps.toList.take S.o.toNat ++ [ch] := by
      rw [show (S.o + 1).toNat = S.o.toNat + 1 from by omega]
      exact take_snoc (by simpa using hch)
    have hh : (S.c.cps[S.o.toNat]?).toList = [ch] := by rw [hch]; rfl
    refine .inl ⟨?_, h2, h3, h4⟩
    show S.c.cps.toList.take (S.o + 1).toNat = done ++ (S.c.cps[S.o.toNat]?).toList
    rw [ht, h1, hh]
  · have hl : S.c.length = 0 := by
      have h9 := congrArg List.length h1
      rw [Array.length_toList] at h9
      exact h9
    have hlt : ¬ S.o < S.c.length := by rw [hl, h2]; decide
    cases hb : rdB 10240 S with
    | false =>
      exfalso
      apply hr
      unfold rem
      rw [h1, (rdB_raw (k := 10240) hw (by decide)).1 hb, List.drop_nil]; rfl
    | true =>
      have e : chS S = ((rdS 10240 S).c.cps[0]?, { rdS 10240 S with o := 1 }) := (if_neg hlt).trans (if_pos hb)
      have hpos := (rdB_raw (k := 10240) hw (by decide)).2 hb
      obtain ⟨ch, hch, _⟩ := item_at (x := (rdS 10240 S).c) (i := 0) (by omega) (by omega)
      have hch' : (rdS 10240 S).c.cps[0]? = some ch := hch
      have ht : (rdS 10240 S).c.cps.toList.take 1 = [ch] := by
        have := take_snoc (l := (rdS 10240 S).c.cps.toList) (i := 0) (a := ch) (by simpa using hch')
        simpa using this
      have hh : ((rdS 10240 S).c.cps[0]?).toList = [ch] := by rw [hch']; rfl
      rw [← e1, e]
      refine .inl ⟨?_, ?_, ?_, h5⟩
      · show (rdS 10240 S).c.cps.toList.take 1 = [] ++ ((rdS 10240 S).c.cps[0]?).toList
        rw [hh, ht]; rfl
      · show posL S.c S.pl S.c.length = 0
        rw [posL_list (by omega) (Int.le_refl _), h1, h3]; simp [lcL]
      · show posC S.c S.pc S.c.length = 0
        rw [posC_list (by omega) (Int.le_refl _), h1, h4]; simp [lcC]
theorem Pos1.back {S : SS} {done : List Nat} {ch : Nat} (hw : WF S) (h : Pos1 S (done ++ [ch])) : Pos1 (ugS ch S) done := by
  have ho := hw.o0
  have hoc := hw.oc
  rcases h with ⟨h1, h2, h3, h4⟩ | ⟨h, _⟩
  · have h0 : S.o ≠ 0 := fun e => by rw [e] at h1; simp at h1
    have e : ugS ch S = { S with o := S.o - 1 } := by unfold ugS; rw [if_neg h0, if_neg h0]
    rw [e]
    have hs : S.o.toNat = (S.o - 1).toNat + 1 := by omega
    have hlt : (S.o - 1).toNat < S.c.cps.toList.length := by rw [Array.length_toList]; unfold PySem.Str.length at hoc; omega
    rw [hs, take_snoc (a := S.c.cps.toList[(S.o - 1).toNat]) (List.getElem?_eq_getElem hlt)] at h1
    exact .inl ⟨(List.append_inj' h1 rfl).1, h2, h3, h4⟩
  · simp at h
end Mine
namespace Mine
/-! what stands at the head of the rest -/
def lw (c : Nat) : Nat := if 65 ≤ c ∧ c ≤ 90 then c + 32 else c
def docW : List Nat := [100, 111, 99, 116, 121, 112, 101]
/-- neither two hyphens nor the word stands at the head -/
def NoHead (l : List Nat) : Prop := ∀ r : List Nat, (l ++ r).take 2 ≠ [45, 45] ∧ ((l ++ r).take 7).map lw ≠ docW
theorem lw_is {c d : Nat} (h : lw c = d) : c = d ∨ c + 32 = d := by
  unfold lw at h
  split at h <;> omega
theorem nohead_dash {c : Nat} (h : c ≠ 45) : NoHead [45, c] := fun r =>
  ⟨by simp [h], fun e => by
    have h9 := congrArg List.head? e
    simp [lw, docW] at h9⟩
theorem nohead_first {c : Nat} (h1 : c ≠ 45) (h2 : c ≠ 100) (h3 : c ≠ 68) : NoHead [c] := fun r =>
  ⟨fun e => by
    have h9 := congrArg List.head? e
    simp at h9
    exact h1 h9, fun e => by
    have h9 := congrArg List.head? e
    simp [docW] at h9
    rcases lw_is h9 with h | h <;> omega⟩
theorem nohead_doc {l : List Nat} {c d : Nat} (h : l.map lw = docW.take l.length) (h0 : 0 < l.length) (hl : l.length ≤ 6) (hd : docW[l.length]? = some d) (h1 : c ≠ d) (h2 : c + 32 ≠ d) : NoHead (l ++ [c]) := fun r => by
  refine ⟨fun e => ?_, fun e => ?_⟩
  · cases l with
    | nil => simp at h0
    | cons a l =>
      have h9 := congrArg List.head? e
      have h8 := congrArg List.head? h
      simp [docW] at h9 h8
      rw [h9] at h8
      simp [lw] at h8
  · have h9 := congrArg (fun x => x[l.length]?) e
    rw [hd, List.getElem?_map, List.getElem?_take, if_pos (by omega)] at h9
    rw [List.append_assoc, List.getElem?_append_right (Nat.le_refl _), Nat.sub_self] at h9
    simp only [List.cons_append, List.getElem?_cons_zero, Option.map_some, Option.some.injEq] at h9
    rcases lw_is h9 with h | h
    · exact h1 h
    · exact h2 h
theorem doc_more {l : List Nat} {c d : Nat} (h : l.map lw = docW.take l.length) (hd : docW[l.length]? = some d) (hc : lw c = d) : (l ++ [c]).map lw = docW.take (l ++ [c]).length := by
  rw [List.map_append, h, List.length_append, List.length_singleton, List.take_add_one, hd]
  simp [hc]
end Mine
theorem Mine.off_c9s {M : Model} {A : Around} {env : Env} {Q : Flow → Shared → Prop} {E : Value → Shared → Prop} {s : Shared} (h : wpAny M A (execs [] env) Q E s) : wpAny M A (execs [] env) Q E s := by
  (try (walk1; fail "no"))
  w_top off
  exact h
namespace Mine
local macro_rules | `(tactic| k_ne) => `(tactic| first | exact (show Nq _ _ by with_reducible assumption) | exact Ne.symm (show Nq _ _ by with_reducible assumption) | (refine neN ?_; (try dsimp only); omega))
local macro_rules | `(tactic| k_room) => `(tactic| ((try simp only [depth_under_make, depth_under_kw, depth_in1, depth_deeper, depth_caller, ktrTop, recursionLimit] at *); omega))
local macro_rules | `(tactic| k_units) => `(tactic| ((have hcL9 := cLine_is); (try simp only [units_in1, units_deeper, Around.mark_units, units_caller, ktrTop] at *); omega))
local macro_rules | `(tactic| ktr_enter) => `(tactic| (refine' code_def ?k1 ?k2 ?k3 ?k4 ?k5 ?kA ?kF ?kK ?k6 ?k7 ?k8 ?k9 ?kB ?_ ?c2 ?c3 ?c4 ?c5; (case kA => exact rfl); (case kF => exact rfl); (case kK => first | exact rfl | assumption); (case k1 => k_asm); (case k2 => k_asm); (case k3 => k_asm); (case k4 => k_asm); (case k5 => k_asm); (case k6 => k_is); (case k7 => k_is); (case k8 => k_room); (case k9 => first | exact BindsTo.of_eq rfl | exact binds_K (by k_in) rfl (by k_is) rfl rfl rfl); (case c5 => decide); (case kB => exact locs rfl); (case c2 => exact rfl); (case c3 => exact rfl); (case c4 => exact rfl); k_whole; intro g' L' h' FG' F' N' B' X' T'; (try dsimp only); (try k_fold)))
local macro_rules | `(tactic| k_all) => `(tactic| (with_reducible assumption))
local macro_rules | `(tactic| tb_lt) => `(tactic| first | exact Pick.head | (refine' Pick.tail ?c; (case c => tb_lt)))
local macro_rules | `(tactic| tb_start) => `(tactic| first | exact Picks.nil | (refine' Picks.cons ?a ?b; (case a => tb_lt); (case b => tb_start)))
local macro_rules | `(tactic| tb_rel) => `(tactic| first | exact List.forall_mem_nil _ | (refine' List.forall_mem_cons.mpr ⟨?a, ?b⟩; (case a => k_all); (case b => tb_rel)))
local macro_rules | `(tactic| walk_at "TPost") => `(tactic| (dsimp only [TPost]))
local macro_rules | `(tactic| size_fits) => `(tactic| ((simp only [PySem.sizeLine_eq, List.size_toArray]); omega))
local macro_rules | `(tactic| k_gentoks) => `(tactic| (with_reducible refine' gen_toksP ?hp ?_; (case hp => first | omega | ((try simp only [List.length_cons]); omega)); intro tk htk))
local macro_rules | `(tactic| kstt_sub) => `(tactic| first | exact fun _ h => h | assumption | (refine' subCons ?a ?b; (case a => k_mem); (case b => kstt_sub)) | (refine' subTail ?a; (case a => kstt_sub)))
local macro_rules | `(tactic| kst_all) => `(tactic| first | exact List.forall_mem_nil _ | (refine' List.forall_mem_cons.mpr ⟨?a, ?b⟩; (case a => exact rfl); (case b => kst_all)))
local macro_rules | `(tactic| walk_at "MidEnd") => `(tactic| first
  | ((with_reducible show MidEnd _ _ _ _ _ _ _ Flow.next _); (refine' ⟨(tk8 _ _ _ _ _ _ _ _, _), _, _, _, rfl, ?F, ?N, ?ps, ?P⟩); (case F => assumption); (case N => (refine' nsub ?N1 ?N2; (case N1 => assumption); (case N2 => kstt_sub))); (case ps => kst_all); (case P => k_extra "mid"))
  | ((fail_if_success (with_reducible show MidEnd _ _ _ _ _ _ _ Flow.next _)); dsimp only [MidEnd]))
local macro_rules | `(tactic| walk_at "WEnd") => `(tactic| ((fail_if_success (with_reducible show WEnd _ _ _ _ _ _ _ _ _ Flow.next _)); dsimp only [WEnd]))
local macro_rules | `(tactic| walk_at "callWith") => `(tactic| (k_here; (with_reducible refine' callWith_method1 ?_ ?he ?hp); (case he => k_dflt rfl); (case hp => k_dflt rfl)))
local macro_rules | `(tactic| k_steps) => `(tactic| repeat' (first | (k_unfold; (try dsimp only)) | (k_end; wrow_close) | walk1 | (dsimp only [List.cons_append, List.nil_append]; walk1) | (dsimp only) | fail "no step"))
abbrev stS (w : World) (sx sd tx td ra el nl : Nat) (κ κ' : Nat → Nat) (τ₀ τ₁ τ₂ τ₃ τ₄ σ₀ σ₁ : Nat) (S : SS) (bf : Value) (vs : List Value) (ep : Nat) : List (Addr × Obj) :=
  stL w sx sd tx td ra el nl κ κ' τ₀ τ₁ τ₂ τ₃ τ₄ σ₀ σ₁ S.T S.p S.c S.c.length S.o S.pl S.pc bf vs ep
theorem readChunk_s {w : World} {sx sd tx td ra el nl : Nat} {κ κ' : Nat → Nat} {τ₀ τ₁ τ₂ τ₃ τ₄ σ₀ σ₁ : Nat} {S : SS} {bf : Value} {vs : List Value} {ep : Nat}
    (hv : Errs vs S.n) (hbf : BfV S.bo bf) (hT : S.T.length ≤ 100000) (hn : S.n ≤ 100000) (hnd : NQ6 sx sd tx td ra el) :
    TellR w 6 60 (.ref 141) [.ref sx] (stS w sx sd tx td ra el nl κ κ' τ₀ τ₁ τ₂ τ₃ τ₄ σ₀ σ₁ S bf vs ep)
      (fun r f' rest => ∃ (S' : SS) (a0 a1 a2 a3 a4 b0 b1 : Nat) (bv : Value) (vs' : List Value) (ep' : Nat), S' = rdS 10240 S ∧ r = .bool (rdB 10240 S) ∧ BfV S'.bo bv ∧ Errs vs' S'.n ∧ f' = stS w sx sd tx td ra el nl κ κ' a0 a1 a2 a3 a4 b0 b1 S' bv vs' ep') := by
  intro rest off mean mg mb dp un gd cn cs a ccd cl outer A₀ base h₀ L m s Q E B F X N T hk hd hu ret
  refine readChunk_t (nl := nl) hv hbf (Int.natCast_nonneg _) hT hn hnd rest off mean mg mb dp un gd cn cs a ccd cl outer A₀ base h₀ L m s Q E B F X N T hk hd hu fun r n' h' tk' F' N' hP => ?_
  obtain ⟨f', ⟨a0, a1, a2, a3, a4, b0, b1, bv, vs', ep', h1, h2, h3, h4⟩, e⟩ := hP
  exact ret r n' h' tk' F' N' ⟨f', ⟨rdS 10240 S, a0, a1, a2, a3, a4, b0, b1, bv, vs', ep', rfl, h1, h2, h3, h4⟩, e⟩
end Mine
theorem Mine.off_q0 {M : Model} {A : Around} {env : Env} {Q : Flow → Shared → Prop} {E : Value → Shared → Prop} {s : Shared} (h : wpAny M A (execs [] env) Q E s) : wpAny M A (execs [] env) Q E s := by
  (try (walk1; fail "no"))
  w_top off
  exact h
namespace Mine
local macro_rules | `(tactic| k_ne) => `(tactic| first | exact (show Nq _ _ by with_reducible assumption) | exact Ne.symm (show Nq _ _ by with_reducible assumption) | (refine neN ?_; (try dsimp only); omega))
local macro_rules | `(tactic| k_room) => `(tactic| ((try simp only [depth_under_make, depth_under_kw, depth_in1, depth_deeper, depth_caller, ktrTop, recursionLimit] at *); omega))
local macro_rules | `(tactic| k_units) => `(tactic| ((have hcL9 := cLine_is); (try simp only [units_in1, units_deeper, Around.mark_units, units_caller, ktrTop] at *); omega))
local macro_rules | `(tactic| ktr_enter) => `(tactic| (refine' code_def ?k1 ?k2 ?k3 ?k4 ?k5 ?kA ?kF ?kK ?k6 ?k7 ?k8 ?k9 ?kB ?_ ?c2 ?c3 ?c4 ?c5; (case kA => exact rfl); (case kF => exact rfl); (case kK => first | exact rfl | assumption); (case k1 => k_asm); (case k2 => k_asm); (case k3 => k_asm); (case k4 => k_asm); (case k5 => k_asm); (case k6 => k_is); (case k7 => k_is); (case k8 => k_room); (case k9 => first | exact BindsTo.of_eq rfl | exact binds_K (by k_in) rfl (by k_is) rfl rfl rfl); (case c5 => decide); (case kB => exact locs rfl); (case c2 => exact rfl); (case c3 => exact rfl); (case c4 => exact rfl); k_whole; intro g' L' h' FG' F' N' B' X' T'; (try dsimp only); (try k_fold)))
local macro_rules | `(tactic| k_all) => `(tactic| (with_reducible assumption))
local macro_rules | `(tactic| tb_lt) => `(tactic| first | exact Pick.head | (refine' Pick.tail ?c; (case c => tb_lt)))
local macro_rules | `(tactic| tb_start) => `(tactic| first | exact Picks.nil | (refine' Picks.cons ?a ?b; (case a => tb_lt); (case b => tb_start)))
local macro_rules | `(tactic| tb_rel) => `(tactic| first | exact List.forall_mem_nil _ | (refine' List.forall_mem_cons.mpr ⟨?a, ?b⟩; (case a => k_all); (case b => tb_rel)))
local macro_rules | `(tactic| walk_at "TPost") => `(tactic| (dsimp only [TPost]))
local macro_rules | `(tactic| size_fits) => `(tactic| ((simp only [PySem.sizeLine_eq, List.size_toArray]); omega))
local macro_rules | `(tactic| k_gentoks) => `(tactic| (with_reducible refine' gen_toksP ?hp ?_; (case hp => first | omega | ((try simp only [List.length_cons]); omega)); intro tk htk))
local macro_rules | `(tactic| kstt_sub) => `(tactic| first | exact fun _ h => h | assumption | (refine' subCons ?a ?b; (case a => k_mem); (case b => kstt_sub)) | (refine' subTail ?a; (case a => kstt_sub)))
local macro_rules | `(tactic| kst_all) => `(tactic| first | exact List.forall_mem_nil _ | (refine' List.forall_mem_cons.mpr ⟨?a, ?b⟩; (case a => exact rfl); (case b => kst_all)))
local macro_rules | `(tactic| walk_at "MidEnd") => `(tactic| first
  | ((with_reducible show MidEnd _ _ _ _ _ _ _ Flow.next _); (refine' ⟨(tk8 _ _ _ _ _ _ _ _, _), _, _, _, rfl, ?F, ?N, ?ps, ?P⟩); (case F => assumption); (case N => (refine' nsub ?N1 ?N2; (case N1 => assumption); (case N2 => kstt_sub))); (case ps => kst_all); (case P => k_extra "mid"))
  | ((fail_if_success (with_reducible show MidEnd _ _ _ _ _ _ _ Flow.next _)); dsimp only [MidEnd]))
local macro_rules | `(tactic| walk_at "WEnd") => `(tactic| ((fail_if_success (with_reducible show WEnd _ _ _ _ _ _ _ _ _ Flow.next _)); dsimp only [WEnd]))
local macro_rules | `(tactic| walk_at "callWith") => `(tactic| (k_here; (with_reducible refine' callWith_method1 ?_ ?he ?hp); (case he => k_dflt rfl); (case hp => k_dflt rfl)))
local macro_rules | `(tactic| k_steps) => `(tactic| repeat' (first | (k_unfold; (try dsimp only)) | (k_end; wrow_close) | walk1 | (dsimp only [List.cons_append, List.nil_append]; walk1) | (dsimp only) | fail "no step"))
/-! a function's body in pieces -/
def recOfLook {K : Frag} {f : Addr} {name qual : PySem.Str} {params : Arguments} {body : List Stmt} {scope : Scope} {dV kV doc pm cdv ct oc : Value} {an od : Option Addr} {osl : Array (Option Value)}
    (_h : K.lookup f = some ⟨oc, od, .func (fnOf name qual params body scope dV kV doc pm an cdv ct), osl⟩) : PySem.Str × List Stmt × Scope := (qual, body, scope)
/-- from the n-th statement of a function on it hands back what Post says, where the names ps and the objects led stand -/
def TailAt (w : World) (R : PySem.Str × List Stmt × Scope) (f : Addr) (D U n : Nat) (ps : List (PySem.Str × Value)) (led : List (Addr × Obj)) (Post : Value → List (Addr × Obj) → Prop) : Prop :=
  ∀ (mean : ExcName → Option Value) (mg mb : PySem.Str → Option Value) (dp un : Nat) (gd : Option (List Code)) (cn : PySem.Str) (cs : Scope) (L₀ a : Addr) (ccd : Value) (cl : List (PySem.Str × Addr)) (L : Addr) (cdv : Value) (outer : List Env) (base h₀ : Heap) (m : PySem.Str → Option Value) (s : Shared) (Q : Flow → Shared → Prop) (E : Value → Shared → Prop),
    Below (ktrTop dp un gd cn cs L₀ a ccd cl outer) base (envX cn cs L₀ a ccd cl :: outer) h₀ → Fr h₀ L s.heap m → (∀ p ∈ ps, m p.1 = some p.2) → (KF w).In h₀ → News h₀ L s.heap led → Top VW LZ mean mg mb h₀ → dp + D < recursionLimit → un + U < cLine → 0 < s.toks → PassesOwn (model PG w) ((ktrTop dp un gd cn cs L₀ a ccd cl outer).deeper (envOf R.1 R.2.2 L f cdv)) (envOf R.1 R.2.2 L f cdv) E →
    (∀ r news' h' tk' m', Fr h₀ L h' m' → News h₀ L h' news' → Post r news' → Q (.ret r) { s with heap := h', toks := tk' }) →
    wpAny (model PG w) ((ktrTop dp un gd cn cs L₀ a ccd cl outer).deeper (envOf R.1 R.2.2 L f cdv)) (execs (R.2.1.drop n) (envOf R.1 R.2.2 L f cdv)) Q E s
theorem TailAt.use {w : World} {R : PySem.Str × List Stmt × Scope} {f : Addr} {D U n : Nat} {ps : List (PySem.Str × Value)} {led news : List (Addr × Obj)} {Post : Value → List (Addr × Obj) → Prop} (hT : TailAt w R f D U n ps led Post)
    {mean : ExcName → Option Value} {mg mb : PySem.Str → Option Value} {dp un : Nat} {gd : Option (List Code)} {cn : PySem.Str} {cs : Scope} {L₀ a : Addr} {ccd : Value} {cl : List (PySem.Str × Addr)} {L : Addr} {cdv : Value} {outer : List Env} {base h₀ : Heap} {m : PySem.Str → Option Value} {s : Shared} {Q : Flow → Shared → Prop} {E : Value → Shared → Prop}
    (N : News h₀ L s.heap news) (hs : ∀ p ∈ led, p ∈ news) (F : Fr h₀ L s.heap m) (hps : ∀ p ∈ ps, m p.1 = some p.2) (B : Below (ktrTop dp un gd cn cs L₀ a ccd cl outer) base (envX cn cs L₀ a ccd cl :: outer) h₀) (X : (KF w).In h₀) (T : Top VW LZ mean mg mb h₀) (hd : dp + D < recursionLimit) (hu : un + U < cLine) (htk : 0 < s.toks) (hE : PassesOwn (model PG w) ((ktrTop dp un gd cn cs L₀ a ccd cl outer).deeper (envOf R.1 R.2.2 L f cdv)) (envOf R.1 R.2.2 L f cdv) E)
    (hret : ∀ r news' h' tk' m', Fr h₀ L h' m' → News h₀ L h' news' → Post r news' → Q (.ret r) { s with heap := h', toks := tk' }) :
    wpAny (model PG w) ((ktrTop dp un gd cn cs L₀ a ccd cl outer).deeper (envOf R.1 R.2.2 L f cdv)) (execs (R.2.1.drop n) (envOf R.1 R.2.2 L f cdv)) Q E s :=
  hT mean mg mb dp un gd cn cs L₀ a ccd cl L cdv outer base h₀ m s Q E B F hps X (nsub N hs) T hd hu htk hE hret
/-- a contract whose rest holds the objects O -/
def TellO (w : World) (D U : Nat) (f : Value) (args : List Value) (O front : List (Addr × Obj)) (Post : Value → List (Addr × Obj) → List (Addr × Obj) → Prop) : Prop :=
  ∀ rest : List (Addr × Obj), (∀ q ∈ O, q ∈ rest) → (∀ q ∈ front, ∀ p ∈ rest, p.1 ≠ q.1) → Tell w D U f args (front ++ rest) (fun r n' => ∃ f', Post r f' rest ∧ n' = f' ++ rest)
theorem TellO.use {w : World} {D U : Nat} {f : Value} {args : List Value} {O front news rest : List (Addr × Obj)} {Post : Value → List (Addr × Obj) → List (Addr × Obj) → Prop} {mean : ExcName → Option Value} {mg mb : PySem.Str → Option Value} {dp un : Nat} {gd : Option (List Code)} {cn : PySem.Str} {cs : Scope} {a : Addr} {ccd : Value} {cl : List (PySem.Str × Addr)} {outer : List Env} {A₀ : Around} {base h₀ : Heap} {L : Addr} {m : PySem.Str → Option Value} {s : Shared} {Q E : Value → Shared → Prop}
    (hT : TellO w D U f args O front Post) (B : Below A₀ base outer h₀) (F : Fr h₀ L s.heap m) (X : (KF w).In h₀) (N : News h₀ L s.heap news) (T : Top VW LZ mean mg mb h₀) (hk : cs.kind = .function)
    (hp : Picks front news rest) (hO : ∀ q ∈ O, q ∈ rest) (off : ∀ q ∈ front, ∀ p ∈ rest, p.1 ≠ q.1) (hd : dp + D < recursionLimit) (hu : un + U < cLine) {n : Nat} (h0 : n ≤ s.toks)
    (ret : ∀ r f' h' tk', n ≤ tk' → Fr h₀ L h' m → News h₀ L h' (f' ++ rest) → Post r f' rest → Q r { s with heap := h', toks := tk' }) :
    wpAny (model PG w) (ktrTop dp un gd cn cs L a ccd cl outer) (call f args) Q E s :=
  wpAny_call (codeAny_with_toks (n := n) h0 (codeAny_mono (hT rest hO off mean mg mb dp un gd cn cs a ccd cl outer A₀ base h₀ L m s (fun v s' => n ≤ s'.toks → Q v s') (fun v s' => n ≤ s'.toks → E v s') B F X (nsub N hp.sub) T hk hd hu fun r n' h' tk' F' N' ⟨f', hP, e⟩ p' => ret r f' h' tk' p' F' (e ▸ N') hP) use_out))
theorem TellO.useM {w : World} {D U : Nat} {f self : Value} {q : Addr} {args : List Value} {O front news rest : List (Addr × Obj)} {Post : Value → List (Addr × Obj) → List (Addr × Obj) → Prop} {mean : ExcName → Option Value} {mg mb : PySem.Str → Option Value} {dp un : Nat} {gd : Option (List Code)} {cn : PySem.Str} {cs : Scope} {a : Addr} {ccd : Value} {cl : List (PySem.Str × Addr)} {outer : List Env} {A₀ : Around} {base h₀ : Heap} {L : Addr} {m : PySem.Str → Option Value} {s : Shared} {Q E : Value → Shared → Prop}
    (hT : TellO w D U f (self :: args) O front Post) (B : Below A₀ base outer h₀) (F : Fr h₀ L s.heap m) (X : (KF w).In h₀) (N : News h₀ L s.heap news) (T : Top VW LZ mean mg mb h₀) (hk : cs.kind = .function) (hq : (q, methodObj f self) ∈ news)
    (hp : Picks front news rest) (hO : ∀ q ∈ O, q ∈ rest) (off : ∀ q ∈ front, ∀ p ∈ rest, p.1 ≠ q.1) (hd : dp + D < recursionLimit) (hu : un + U < cLine) {n : Nat} (h0 : n ≤ s.toks)
    (ret : ∀ r f' h' tk', n ≤ tk' → Fr h₀ L h' m → News h₀ L h' (f' ++ rest) → Post r f' rest → Q r { s with heap := h', toks := tk' }) :
    wpAny (model PG w) (ktrTop dp un gd cn cs L a ccd cl outer) (call (.ref q) args) Q E s :=
  call_meth N hq (codeAny_with_toks (n := n) h0 (codeAny_mono (hT rest hO off mean mg mb dp un gd cn cs a ccd cl outer A₀ base h₀ L m s (fun v s' => n ≤ s'.toks → Q v s') (fun v s' => n ≤ s'.toks → E v s') B F X (nsub N hp.sub) T hk hd hu fun r n' h' tk' F' N' ⟨f', hP, e⟩ p' => ret r f' h' tk' p' F' (e ▸ N') hP) use_out))
theorem TellR.toO {w : World} {D U : Nat} {f : Value} {args : List Value} {O front : List (Addr × Obj)} {Post : Value → List (Addr × Obj) → List (Addr × Obj) → Prop} (h : TellR w D U f args front Post) : TellO w D U f args O front Post := fun rest _ off => h rest off
end Mine
theorem Mine.off_c11 {M : Model} {A : Around} {env : Env} {Q : Flow → Shared → Prop} {E : Value → Shared → Prop} {s : Shared} (h : wpAny M A (execs [] env) Q E s) : wpAny M A (execs [] env) Q E s := by
  (try (walk1; fail "no"))
  w_top off
  exact h
namespace Mine
local macro_rules | `(tactic| k_ne) => `(tactic| first | exact (show Nq _ _ by with_reducible assumption) | exact Ne.symm (show Nq _ _ by with_reducible assumption) | (refine neN ?_; (try dsimp only); omega))
local macro_rules | `(tactic| k_room) => `(tactic| ((try simp only [depth_under_make, depth_under_kw, depth_in1, depth_deeper, depth_caller, ktrTop, recursionLimit] at *); omega))
local macro_rules | `(tactic| k_units) => `(tactic| ((have hcL9 := cLine_is); (try simp only [units_in1, units_deeper, Around.mark_units, units_caller, ktrTop] at *); omega))
local macro_rules | `(tactic| ktr_enter) => `(tactic| (refine' code_def ?k1 ?k2 ?k3 ?k4 ?k5 ?kA ?kF ?kK ?k6 ?k7 ?k8 ?k9 ?kB ?_ ?c2 ?c3 ?c4 ?c5; (case kA => exact rfl); (case kF => exact rfl); (case kK => first | exact rfl | assumption); (case k1 => k_asm); (case k2 => k_asm); (case k3 => k_asm); (case k4 => k_asm); (case k5 => k_asm); (case k6 => k_is); (case k7 => k_is); (case k8 => k_room); (case k9 => first | exact BindsTo.of_eq rfl | exact binds_K (by k_in) rfl (by k_is) rfl rfl rfl); (case c5 => decide); (case kB => exact locs rfl); (case c2 => exact rfl); (case c3 => exact rfl); (case c4 => exact rfl); k_whole; intro g' L' h' FG' F' N' B' X' T'; (try dsimp only); (try k_fold)))
local macro_rules | `(tactic| k_all) => `(tactic| (with_reducible assumption))
local macro_rules | `(tactic| tb_lt) => `(tactic| first | exact Pick.head | (refine' Pick.tail ?c; (case c => tb_lt)))
local macro_rules | `(tactic| tb_start) => `(tactic| first | exact Picks.nil | (refine' Picks.cons ?a ?b; (case a => tb_lt); (case b => tb_start)))
local macro_rules | `(tactic| tb_rel) => `(tactic| first | exact List.forall_mem_nil _ | (refine' List.forall_mem_cons.mpr ⟨?a, ?b⟩; (case a => k_all); (case b => tb_rel)))
local macro_rules | `(tactic| walk_at "TPost") => `(tactic| (dsimp only [TPost]))
local macro_rules | `(tactic| size_fits) => `(tactic| ((simp only [PySem.sizeLine_eq, List.size_toArray]); omega))
local macro_rules | `(tactic| k_gentoks) => `(tactic| (with_reducible refine' gen_toksP ?hp ?_; (case hp => first | omega | ((try simp only [List.length_cons]); omega)); intro tk htk))
local macro_rules | `(tactic| kstt_sub) => `(tactic| first | exact fun _ h => h | assumption | (refine' subCons ?a ?b; (case a => k_mem); (case b => kstt_sub)) | (refine' subTail ?a; (case a => kstt_sub)))
local macro_rules | `(tactic| kst_all) => `(tactic| first | exact List.forall_mem_nil _ | (refine' List.forall_mem_cons.mpr ⟨?a, ?b⟩; (case a => exact rfl); (case b => kst_all)))
local macro_rules | `(tactic| walk_at "MidEnd") => `(tactic| first
  | ((with_reducible show MidEnd _ _ _ _ _ _ _ Flow.next _); (refine' ⟨(tk8 _ _ _ _ _ _ _ _, _), _, _, _, rfl, ?F, ?N, ?ps, ?P⟩); (case F => assumption); (case N => (refine' nsub ?N1 ?N2; (case N1 => assumption); (case N2 => kstt_sub))); (case ps => kst_all); (case P => k_extra "mid"))
  | ((fail_if_success (with_reducible show MidEnd _ _ _ _ _ _ _ Flow.next _)); dsimp only [MidEnd]))
local macro_rules | `(tactic| walk_at "WEnd") => `(tactic| ((fail_if_success (with_reducible show WEnd _ _ _ _ _ _ _ _ _ Flow.next _)); dsimp only [WEnd]))
local macro_rules | `(tactic| walk_at "callWith") => `(tactic| (k_here; (with_reducible refine' callWith_method1 ?_ ?he ?hp); (case he => k_dflt rfl); (case hp => k_dflt rfl)))
local macro_rules | `(tactic| k_steps) => `(tactic| repeat' (first | (k_unfold; (try dsimp only)) | (k_end; wrow_close) | walk1 | (dsimp only [List.cons_append, List.nil_append]; walk1) | (dsimp only) | fail "no step"))
theorem rdS_o11 {S S' : SS} {k : Int} (h : S' = rdS k S) : S'.o = 0 := by rw [h]; rfl
theorem rdS_pos11 {S S' : SS} {k : Int} (hB : rdB k S = true) (h : S' = rdS k S) : 0 < S'.c.length := by rw [h]; exact nlz_pos (rdKeep_pos (of_decide_eq_true hB))
section
local macro_rules | `(tactic| walk_at "call ref") => `(tactic| (k_here; k_dflt (refine' TellR.use (readChunk_s ?a1 ?a2 ?a3 ?a4 ?a5) ?k1 ?k2 ?k3 ?k4 ?k5 ?kK ?kp ?ko ?kd ?ku ?k0 ?_; (case k1 => k_asm); (case k2 => k_asm); (case k3 => k_asm); (case k4 => k_asm); (case k5 => k_asm); (case kK => first | exact rfl | assumption); (case kp => tb_start); (case ko => tb_rel); (case a1 => assumption); (case a2 => assumption); (case a3 => assumption); (case a4 => assumption); (case a5 => assumption); (case kd => k_room); (case ku => k_units); (case k0 => first | exact (show 1 ≤ _ by (try dsimp only); omega) | exact Nat.zero_le _); intro r9 f9 h9 tk9 p9 F9 N9 hP9; obtain ⟨S2, a0, a1, a2, a3, a4, b0, b1, bv, vs2, ep2, eS2, e1, hb2, hv2, e2⟩ := hP9; subst e1; subst e2; dsimp only [stS, stL, List.cons_append, List.nil_append] at N9; k_extra "rd"; (try dsimp only [List.nil_append, List.cons_append] at N9); (try k_fold))))
theorem char_t {w : World} {sx sd tx td ra el nl : Nat} {κ κ' : Nat → Nat} {τ₀ τ₁ τ₂ τ₃ τ₄ σ₀ σ₁ : Nat} {S : SS} {bf : Value} {vs : List Value} {ep : Nat}
    (hv : Errs vs S.n) (hbf : BfV S.bo bf) (ho : 0 ≤ S.o) (hT : S.T.length ≤ 100000) (hn : S.n ≤ 100000) (hcl : S.c.length ≤ 1000000) (hnd : NQ6 sx sd tx td ra el) :
    TellR w 8 80 (.ref 133) [.ref sx] (stS w sx sd tx td ra el nl κ κ' τ₀ τ₁ τ₂ τ₃ τ₄ σ₀ σ₁ S bf vs ep)
      (fun r f' rest => ∃ (S' : SS) (a0 a1 a2 a3 a4 b0 b1 : Nat) (bv : Value) (vs' : List Value) (ep' : Nat), S' = (chS S).2 ∧ BfV (chS S).1 r ∧ BfV S'.bo bv ∧ Errs vs' S'.n ∧
        f' = stS w sx sd tx td ra el nl κ κ' a0 a1 a2 a3 a4 b0 b1 S' bv vs' ep') := by
  have hq := hnd
  unfold NQ6 at hq
  obtain ⟨q1, q2, q3, q4, q5, q6, q7, q8, q9, q10, q11, q12, q13, q14, q15⟩ := hq
  unfold TellR Tell KF PG
  k_fill
  intro rest off' mean mg mb dp un gd cn cs a ccd cl outer A₀ base h₀ L m s Q E B F X N T hk hd hu hret
  dsimp only [stS, stL, List.cons_append, List.nil_append] at off' N
  simp only [List.forall_mem_cons] at off'
  obtain ⟨o1, o2, o3, o4, o5, o6, -⟩ := off'
  k_with_none
  by_cases hlt : S.o < S.c.length
  · have e : chS S = (S.c.cps[S.o.toNat]?, { S with o := S.o + 1 }) := if_pos hlt
    obtain ⟨ch, hch, hit⟩ := item_at ho hlt
    k_dflt ktr_enter
    k_steps
    refine' hret _ _ _ _ (by assumption) ?S ⟨_, ⟨{ S with o := S.o + 1 }, _, _, _, _, _, _, _, _, _, _, by rw [e], by rw [e, hch]; exact BfV_some hit, hbf, hv, rfl⟩, rfl⟩
    case S =>
      dsimp only [stS, stL, List.cons_append, List.nil_append]
      refine' nsub ?N1 ?N2
      case N1 => assumption
      case N2 => kstt_sub
  · k_dflt ktr_enter
    by_cases hB : rdB 10240 S = true
    · have e : chS S = ((rdS 10240 S).c.cps[0]?, { rdS 10240 S with o := 1 }) := (if_neg hlt).trans (if_pos hB)
      k_with "rd" => ((rename _ = rdS _ _ => eS9); have hp9 := rdS_pos11 hB eS9; have ho9 := rdS_o11 eS9)
      k_steps
      (rename _ = rdS _ _ => eS)
      (rename 0 < _ => hpos)
      (rename SS.o _ = 0 => ho2)
      (rename BfV _ _ => hb2)
      (rename Errs _ _ => hv2)
      (rename SS => S2)
      rw [← eS] at e
      obtain ⟨ch, hch, hit⟩ := item_at (x := S2.c) (i := S2.o) (by omega) (by omega)
      have hch2 := hch
      rw [ho2] at hch2
      refine' hret _ _ _ _ (by assumption) ?S ⟨_, ⟨{ S2 with o := S2.o + 1 }, _, _, _, _, _, _, _, _, _, _, by rw [e, ho2]; rfl, by rw [e]; exact (show BfV (S2.c.cps[(0 : Int).toNat]?) _ by rw [hch2]; exact BfV_some hit), hb2, hv2, rfl⟩, rfl⟩
      case S =>
        dsimp only [stS, stL, List.cons_append, List.nil_append]
        refine' nsub ?N1 ?N2
        case N1 => assumption
        case N2 => kstt_sub
    · have hB' : rdB 10240 S = false := by simpa using hB
      have e : chS S = (none, rdS 10240 S) := (if_neg hlt).trans (if_neg hB)
      k_with "rd" => skip
      k_steps
      (rename _ = rdS _ _ => eS)
      (rename BfV _ _ => hb2)
      (rename Errs _ _ => hv2)
      refine' hret _ _ _ _ (by assumption) ?S ⟨_, ⟨_, _, _, _, _, _, _, _, _, _, _, by rw [e]; exact eS, by rw [e]; exact BfV_none, hb2, hv2, rfl⟩, rfl⟩
      case S =>
        dsimp only [stS, stL, List.cons_append, List.nil_append]
        refine' nsub ?N1 ?N2
        case N1 => assumption
        case N2 => kstt_sub
end
end Mine
namespace Mine
theorem item_str_t {prog : Program} {w : World} {A : Around} {E : Value → Shared → Prop} {s : Shared} {value slice : PySem.Expr} {x : PySem.Str} {t u : Nat} {i : Int} {Q : Value → Shared → Prop} (h0 : 0 ≤ i) (h1 : i < x.length) (hx : x.length ≤ 2000000)
    (h : ∀ t', Q (.str (Txt.item x i) t') { s with toks := s.toks + 1 })
    (hs : subscripted slice false (.str x t) (.int i u) = operate [.str x t, .int i u] (getItem (.str x t) (.int i u)) := by with_unfolding_all rfl) :
    wpAny (model prog w) A (subscriptTail value slice (.str x t) (.int i u)) Q E s :=
  tail_any (typeIs_str _ _ _) F.slot_str_getitem.lookup (SB.getItem (by unfold fitsSsize; simp only [Bool.not_eq_true', Bool.or_eq_false_iff, decide_eq_false_iff_not]; omega) (StrLaws.at_isSome (by omega) h1) (h _)) hs
theorem item_str_c {prog : Program} {w : World} {A : Around} {E : Value → Shared → Prop} {s : Shared} {value slice : PySem.Expr} {x : PySem.Str} {t u ch : Nat} {i : Int} {Q : Value → Shared → Prop} (hit : Txt.item x i = ⟨#[ch]⟩) (h0 : 0 ≤ i) (h1 : i < x.length) (hx : x.length ≤ 2000000)
    (h : ∀ t', Q (.str ⟨#[ch]⟩ t') { s with toks := s.toks + 1 })
    (hs : subscripted slice false (.str x t) (.int i u) = operate [.str x t, .int i u] (getItem (.str x t) (.int i u)) := by with_unfolding_all rfl) :
    wpAny (model prog w) A (subscriptTail value slice (.str x t) (.int i u)) Q E s :=
  item_str_t h0 h1 hx (fun t' => by rw [hit]; exact h t') hs
end Mine
theorem Mine.off_c12 {M : Model} {A : Around} {env : Env} {Q : Flow → Shared → Prop} {E : Value → Shared → Prop} {s : Shared} (h : wpAny M A (execs [] env) Q E s) : wpAny M A (execs [] env) Q E s := by
  (try (walk1; fail "no"))
  w_top off
  exact h
namespace Mine
local macro_rules | `(tactic| k_ne) => `(tactic| first | exact (show Nq _ _ by with_reducible assumption) | exact Ne.symm (show Nq _ _ by with_reducible assumption) | (refine neN ?_; (try dsimp only); omega))
local macro_rules | `(tactic| k_room) => `(tactic| ((try simp only [depth_under_make, depth_under_kw, depth_in1, depth_deeper, depth_caller, ktrTop, recursionLimit] at *); omega))
local macro_rules | `(tactic| k_units) => `(tactic| ((have hcL9 := cLine_is); (try simp only [units_in1, units_deeper, Around.mark_units, units_caller, ktrTop] at *); omega))
local macro_rules | `(tactic| ktr_enter) => `(tactic| (refine' code_def ?k1 ?k2 ?k3 ?k4 ?k5 ?kA ?kF ?kK ?k6 ?k7 ?k8 ?k9 ?kB ?_ ?c2 ?c3 ?c4 ?c5; (case kA => exact rfl); (case kF => exact rfl); (case kK => first | exact rfl | assumption); (case k1 => k_asm); (case k2 => k_asm); (case k3 => k_asm); (case k4 => k_asm); (case k5 => k_asm); (case k6 => k_is); (case k7 => k_is); (case k8 => k_room); (case k9 => first | exact BindsTo.of_eq rfl | exact binds_K (by k_in) rfl (by k_is) rfl rfl rfl); (case c5 => decide); (case kB => exact locs rfl); (case c2 => exact rfl); (case c3 => exact rfl); (case c4 => exact rfl); k_whole; intro g' L' h' FG' F' N' B' X' T'; (try dsimp only); (try k_fold)))
local macro_rules | `(tactic| k_all) => `(tactic| (with_reducible assumption))
local macro_rules | `(tactic| tb_lt) => `(tactic| first | exact Pick.head | (refine' Pick.tail ?c; (case c => tb_lt)))
local macro_rules | `(tactic| tb_start) => `(tactic| first | exact Picks.nil | (refine' Picks.cons ?a ?b; (case a => tb_lt); (case b => tb_start)))
local macro_rules | `(tactic| tb_rel) => `(tactic| first | exact List.forall_mem_nil _ | (refine' List.forall_mem_cons.mpr ⟨?a, ?b⟩; (case a => k_all); (case b => tb_rel)))
local macro_rules | `(tactic| walk_at "TPost") => `(tactic| (dsimp only [TPost]))
local macro_rules | `(tactic| size_fits) => `(tactic| ((simp only [PySem.sizeLine_eq, List.size_toArray]); omega))
local macro_rules | `(tactic| k_gentoks) => `(tactic| (with_reducible refine' gen_toksP ?hp ?_; (case hp => first | omega | ((try simp only [List.length_cons]); omega)); intro tk htk))
local macro_rules | `(tactic| kstt_sub) => `(tactic| first | exact fun _ h => h | assumption | (refine' subCons ?a ?b; (case a => k_mem); (case b => kstt_sub)) | (refine' subTail ?a; (case a => kstt_sub)))
local macro_rules | `(tactic| kst_all) => `(tactic| first | exact List.forall_mem_nil _ | (refine' List.forall_mem_cons.mpr ⟨?a, ?b⟩; (case a => exact rfl); (case b => kst_all)))
local macro_rules | `(tactic| walk_at "MidEnd") => `(tactic| first
  | ((with_reducible show MidEnd _ _ _ _ _ _ _ Flow.next _); (refine' ⟨(tk8 _ _ _ _ _ _ _ _, _), _, _, _, rfl, ?F, ?N, ?ps, ?P⟩); (case F => assumption); (case N => (refine' nsub ?N1 ?N2; (case N1 => assumption); (case N2 => kstt_sub))); (case ps => kst_all); (case P => k_extra "mid"))
  | ((fail_if_success (with_reducible show MidEnd _ _ _ _ _ _ _ Flow.next _)); dsimp only [MidEnd]))
local macro_rules | `(tactic| walk_at "WEnd") => `(tactic| ((fail_if_success (with_reducible show WEnd _ _ _ _ _ _ _ _ _ Flow.next _)); dsimp only [WEnd]))
local macro_rules | `(tactic| walk_at "callWith") => `(tactic| (k_here; (with_reducible refine' callWith_method1 ?_ ?he ?hp); (case he => k_dflt rfl); (case hp => k_dflt rfl)))
local macro_rules | `(tactic| k_steps) => `(tactic| repeat' (first | (k_unfold; (try dsimp only)) | (k_end; wrow_close) | walk1 | (dsimp only [List.cons_append, List.nil_append]; walk1) | (dsimp only) | fail "no step"))
section
local macro_rules | `(tactic| walk_at "subscriptTail") => `(tactic| (k_here; (with_reducible show wpAny _ _ (subscriptTail _ _ (Value.str _ _) (Value.int _ _)) _ _ _); refine' item_str_t ?i0 ?i1 ?i2 ?_; (case i0 => omega); (case i1 => omega); (case i2 => omega); intro ti))
theorem unget_t {w : World} {sx sd : Nat} {κ : Nat → Nat} {τ₀ τ₁ τ₂ τ₃ τ₄ : Nat} {ra nl tx el : Nat} {c : PySem.Str} {o pl pc : Int} {bf : Value} {ch tk : Nat}
    (hne : sx ≠ sd) (ho : 0 ≤ o) (hcl : c.length ≤ 1000000) (hch : 0 < o → c.cps[(o - 1).toNat]? = some ch) (hoc : o ≤ c.length) :
    TellR w 1 8 (.ref 163) [.ref sx, .str ⟨#[ch]⟩ tk] [(sx, instObj 166 sd), (sd, sdD w κ ra nl tx el c c.length o pl pc bf τ₀ τ₁ τ₂ τ₃ τ₄)]
      (fun r f' rest => ∃ a0 a1 a2 a3 a4, r = .none ∧ f' = [(sx, instObj 166 sd), (sd, sdD w κ ra nl tx el (if o = 0 then ⟨#[ch]⟩ ++ c else c) (if o = 0 then (⟨#[ch]⟩ ++ c : PySem.Str) else c).length (if o = 0 then 0 else o - 1) pl pc bf a0 a1 a2 a3 a4)]) := by
  unfold TellR Tell KF PG
  k_fill
  intro rest off' mean mg mb dp un gd cn cs a ccd cl outer A₀ base h₀ L m s Q E B F X N T hk hd hu hret
  simp only [List.forall_mem_cons] at off'
  obtain ⟨o1, o2, -⟩ := off'
  dsimp only [stL, List.cons_append, List.nil_append] at N
  by_cases h0 : o = 0
  · subst h0
    have e : (((⟨#[ch]⟩ ++ c : PySem.Str).length : Nat) : Int) = c.length + 1 := by
      rw [PySem.Str.length_append]; show (((1 + c.length : Nat)) : Int) = _; omega
    simp only [if_true, e] at hret
    have h1 : (⟨#[ch]⟩ : PySem.Str).length = 1 := rfl
    k_dflt ktr_enter
    k_steps
    all_goals first
      | (exfalso; omega)
      | (refine hret _ _ _ _ (by assumption) (by assumption) ⟨_, ⟨_, _, _, _, _, rfl, rfl⟩, rfl⟩)
      | (exfalso; (rename (Txt.item _ _ == _) = false => hf); rw [hit] at hf; exact absurd hf (by simp))
  · simp only [if_neg h0] at hret
    have hit : Txt.item c (o - 1) = ⟨#[ch]⟩ := by
      obtain ⟨d, hd', hi⟩ := item_at (x := c) (i := o - 1) (by omega) (by omega)
      rw [hch (by omega)] at hd'
      rw [hi, Option.some.inj hd']
    k_dflt ktr_enter
    k_steps
    all_goals first
      | (exfalso; omega)
      | (refine hret _ _ _ _ (by assumption) (by assumption) ⟨_, ⟨_, _, _, _, _, rfl, rfl⟩, rfl⟩)
      | (exfalso; (rename (Txt.item _ _ == _) = false => hf); rw [hit] at hf; exact absurd hf (by simp))
end
end Mine
theorem Mine.off_c13 {M : Model} {A : Around} {env : Env} {Q : Flow → Shared → Prop} {E : Value → Shared → Prop} {s : Shared} (h : wpAny M A (execs [] env) Q E s) : wpAny M A (execs [] env) Q E s := by
  (try (walk1; fail "no"))
  w_top off
  exact h
namespace Mine
local macro_rules | `(tactic| k_ne) => `(tactic| first | exact (show Nq _ _ by with_reducible assumption) | exact Ne.symm (show Nq _ _ by with_reducible assumption) | (refine neN ?_; (try dsimp only); omega))
local macro_rules | `(tactic| k_room) => `(tactic| ((try simp only [depth_under_make, depth_under_kw, depth_in1, depth_deeper, depth_caller, ktrTop, recursionLimit] at *); omega))
local macro_rules | `(tactic| k_units) => `(tactic| ((have hcL9 := cLine_is); (try simp only [units_in1, units_deeper, Around.mark_units, units_caller, ktrTop] at *); omega))
local macro_rules | `(tactic| ktr_enter) => `(tactic| (refine' code_def ?k1 ?k2 ?k3 ?k4 ?k5 ?kA ?kF ?kK ?k6 ?k7 ?k8 ?k9 ?kB ?_ ?c2 ?c3 ?c4 ?c5; (case kA => exact rfl); (case kF => exact rfl); (case kK => first | exact rfl | assumption); (case k1 => k_asm); (case k2 => k_asm); (case k3 => k_asm); (case k4 => k_asm); (case k5 => k_asm); (case k6 => k_is); (case k7 => k_is); (case k8 => k_room); (case k9 => first | exact BindsTo.of_eq rfl | exact binds_K (by k_in) rfl (by k_is) rfl rfl rfl); (case c5 => decide); (case kB => exact locs rfl); (case c2 => exact rfl); (case c3 => exact rfl); (case c4 => exact rfl); k_whole; intro g' L' h' FG' F' N' B' X' T'; (try dsimp only); (try k_fold)))
local macro_rules | `(tactic| k_all) => `(tactic| (with_reducible assumption))
local macro_rules | `(tactic| tb_lt) => `(tactic| first | exact Pick.head | (refine' Pick.tail ?c; (case c => tb_lt)))
local macro_rules | `(tactic| tb_start) => `(tactic| first | exact Picks.nil | (refine' Picks.cons ?a ?b; (case a => tb_lt); (case b => tb_start)))
local macro_rules | `(tactic| tb_rel) => `(tactic| first | exact List.forall_mem_nil _ | (refine' List.forall_mem_cons.mpr ⟨?a, ?b⟩; (case a => k_all); (case b => tb_rel)))
local macro_rules | `(tactic| walk_at "TPost") => `(tactic| (dsimp only [TPost]))
local macro_rules | `(tactic| size_fits) => `(tactic| ((simp only [PySem.sizeLine_eq, List.size_toArray]); omega))
local macro_rules | `(tactic| k_gentoks) => `(tactic| (with_reducible refine' gen_toksP ?hp ?_; (case hp => first | omega | ((try simp only [List.length_cons]); omega)); intro tk htk))
local macro_rules | `(tactic| kstt_sub) => `(tactic| first | exact fun _ h => h | assumption | (refine' subCons ?a ?b; (case a => k_mem); (case b => kstt_sub)) | (refine' subTail ?a; (case a => kstt_sub)))
local macro_rules | `(tactic| kst_all) => `(tactic| first | exact List.forall_mem_nil _ | (refine' List.forall_mem_cons.mpr ⟨?a, ?b⟩; (case a => exact rfl); (case b => kst_all)))
local macro_rules | `(tactic| walk_at "MidEnd") => `(tactic| first
  | ((with_reducible show MidEnd _ _ _ _ _ _ _ Flow.next _); (refine' ⟨(tk8 _ _ _ _ _ _ _ _, _), _, _, _, rfl, ?F, ?N, ?ps, ?P⟩); (case F => assumption); (case N => (refine' nsub ?N1 ?N2; (case N1 => assumption); (case N2 => kstt_sub))); (case ps => kst_all); (case P => k_extra "mid"))
  | ((fail_if_success (with_reducible show MidEnd _ _ _ _ _ _ _ Flow.next _)); dsimp only [MidEnd]))
local macro_rules | `(tactic| walk_at "WEnd") => `(tactic| ((fail_if_success (with_reducible show WEnd _ _ _ _ _ _ _ _ _ Flow.next _)); dsimp only [WEnd]))
local macro_rules | `(tactic| walk_at "callWith") => `(tactic| (k_here; (with_reducible refine' callWith_method1 ?_ ?he ?hp); (case he => k_dflt rfl); (case hp => k_dflt rfl)))
local macro_rules | `(tactic| k_steps) => `(tactic| repeat' (first | (k_unfold; (try dsimp only)) | (k_end; wrow_close) | walk1 | (dsimp only [List.cons_append, List.nil_append]; walk1) | (dsimp only) | fail "no step"))
section
local macro_rules | `(tactic| walk_at "call ref") => `(tactic| (k_here; k_dflt (refine' TellR.use (position0_t ?a1 ?a2) ?k1 ?k2 ?k3 ?k4 ?k5 ?kK ?kp ?ko ?kd ?ku ?k0 ?_; (case k1 => k_asm); (case k2 => k_asm); (case k3 => k_asm); (case k4 => k_asm); (case k5 => k_asm); (case kK => first | exact rfl | assumption); (case kp => tb_start); (case ko => tb_rel); (case a1 => omega); (case a2 => omega); (case kd => k_room); (case ku => k_units); (case k0 => first | exact (show 1 ≤ _ by (try dsimp only); omega) | exact Nat.zero_le _); intro r9 f9 h9 tk9 p9 F9 N9 hP9; obtain ⟨ta, t1, t2, e1, e2, l9⟩ := hP9; subst e1; subst e2; simp only [AllLt, and_true] at l9; (try dsimp only [List.nil_append, List.cons_append] at N9); (try k_fold))))
theorem position_t {w : World} {sx sd : Nat} {κ : Nat → Nat} {τ₀ τ₁ τ₂ τ₃ τ₄ : Nat} {ra nl tx el : Nat} {c : PySem.Str} {sz o pl pc : Int} {bf : Value} (hne : sx ≠ sd) (ho : 0 ≤ o) :
    TellR w 3 30 (.ref 126) [.ref sx] [(sx, instObj 166 sd), (sd, sdD w κ ra nl tx el c sz o pl pc bf τ₀ τ₁ τ₂ τ₃ τ₄)]
      (fun r f' rest => ∃ ta t1 t2, r = .ref ta ∧ f' = [(ta, pairObj (posL c pl o + 1) (posC c pc o) t1 t2), (sx, instObj 166 sd), (sd, sdD w κ ra nl tx el c sz o pl pc bf τ₀ τ₁ τ₂ τ₃ τ₄)] ∧ AllLt ta ((sx, instObj 166 sd) :: (sd, sdD w κ ra nl tx el c sz o pl pc bf τ₀ τ₁ τ₂ τ₃ τ₄) :: rest)) := by
  unfold TellR Tell KF PG
  k_fill
  intro rest off' mean mg mb dp un gd cn cs a ccd cl outer A₀ base h₀ L m s Q E B F X N T hk hd hu hret
  simp only [List.forall_mem_cons] at off'
  obtain ⟨o1, o2, -⟩ := off'
  dsimp only [List.cons_append, List.nil_append] at N
  k_dflt ktr_enter
  k_steps
  all_goals (refine hret _ _ _ _ (by assumption) (nsub (by assumption) (by kstt_sub)) ⟨_, ⟨_, _, _, rfl, rfl, ?_⟩, rfl⟩)
  all_goals exact And.right (by assumption)
end
end Mine
namespace Mine
section
variable {prog : Program} {w : World} {A : Around} {E : Value → Shared → Prop} {env : Env} {h₀ : Heap} {L : Addr} {Q : Flow → Shared → Prop} {test : PySem.Expr} {body orelse : List Stmt}
/-- a while's turn: what it leaves -/
def WEnd {σ : Type} (h₀ : Heap) (L : Addr) (ps : σ → List (PySem.Str × Value)) (led : σ → List (Addr × Obj)) (P : σ → Prop) (mu : σ → Nat) (n : Nat) (s : Shared) (Q : Flow → Shared → Prop) (f : Flow) (s' : Shared) : Prop :=
  match f with
  | .next => ∃ c h' tk m', s' = { s with heap := h', toks := tk } ∧ Fr h₀ L h' m' ∧ News h₀ L h' (led c) ∧ (∀ p ∈ ps c, m' p.1 = some p.2) ∧ P c ∧ mu c < n
  | .cont => ∃ c h' tk m', s' = { s with heap := h', toks := tk } ∧ Fr h₀ L h' m' ∧ News h₀ L h' (led c) ∧ (∀ p ∈ ps c, m' p.1 = some p.2) ∧ P c ∧ mu c < n
  | .brk => Q .next s'
  | .ret v => Q (.ret v) s'
theorem whl_loop {σ : Type} {s : Shared} {m : PySem.Str → Option Value} (ps : σ → List (PySem.Str × Value)) (led : σ → List (Addr × Obj)) (P : σ → Prop) (mu : σ → Nat) (c₀ : σ) (hE : PassesOwn (model prog w) A env E) (h0 : 0 < s.toks) (F : Fr h₀ L s.heap m) (N : News h₀ L s.heap (led c₀)) (hps : ∀ p ∈ ps c₀, m p.1 = some p.2) (hP : P c₀)
    (turn : ∀ (c : σ) (m' : PySem.Str → Option Value) (h : Heap) (tk : Nat), 0 < tk → P c → Fr h₀ L h (kstB m' (ps c)) → News h₀ L h (led c) →
      wpAny (model prog w) A (isTrue test env (eval test env)) (fun b s₂ => WhlIf b (wpAny (model prog w) A (execs body env) (WEnd h₀ L ps led P mu (mu c) { s with heap := h, toks := tk } Q) E s₂) (wpAny (model prog w) A (execs orelse env) Q E s₂)) E { s with heap := h, toks := tk }) :
    WhlRest prog w A E env test body orelse Q 1 s := by
  have all : ∀ (n : Nat) (c : σ) (m : PySem.Str → Option Value) (h : Heap) (tk : Nat), mu c < n → 0 < tk → Fr h₀ L h m → News h₀ L h (led c) → (∀ p ∈ ps c, m p.1 = some p.2) → P c → WhlRest prog w A E env test body orelse Q 1 { s with heap := h, toks := tk } := by
    intro n
    induction n with
    | zero => intro c _ _ _ h; exact absurd h (Nat.not_lt_zero _)
    | succ n ih =>
      intro c m h tk hmu htk F N hps hP
      refine whl_turn (k := 0) hE (wpAny_with_toks (n := 1) htk (wpAny_mono (turn c m h tk htk hP (by rw [kstB_self hps]; exact F) N) (fun b s₂ h₂ p₂ => ?_) fun _ _ e _ => e))
      unfold WhlIf at h₂ ⊢
      cases b with
      | false => exact h₂
      | true =>
        rw [if_pos rfl] at h₂ ⊢
        refine wpAny_with_toks (n := 1) p₂ (wpAny_mono h₂ (fun f s' hf p' => ?_) fun _ _ e _ => e)
        cases f with
        | next =>
          obtain ⟨c', h', tk', m', rfl, F', N', hps', hP', hm'⟩ := hf
          exact ih c' m' h' tk' (by omega) p' F' N' hps' hP'
        | cont =>
          obtain ⟨c', h', tk', m', rfl, F', N', hps', hP', hm'⟩ := hf
          exact ih c' m' h' tk' (by omega) p' F' N' hps' hP'
        | brk => exact hf
        | ret v => exact hf
  exact all (mu c₀ + 1) c₀ m s.heap s.toks (Nat.lt_succ_self _) h0 F N hps hP
end
end Mine
namespace Mine
def flat (ws : List PySem.Str) : List Nat := ws.flatMap (·.cps.toList)
theorem join_flat : ∀ ws : List PySem.Str, (Str.join (PySem.Str.ofString "") ws).cps.toList = flat ws
  | [] => rfl
  | [x] => by show x.cps.toList = _; simp [flat]
  | x :: y :: r => by
    have e : (PySem.Str.ofString "").cps = #[] := by decide +kernel
    show ((x.cps ++ (PySem.Str.ofString "").cps) ++ (Str.join (PySem.Str.ofString "") (y :: r)).cps).toList = _
    rw [Array.toList_append, Array.toList_append, e, join_flat (y :: r)]
    simp [flat]
theorem flat_len : ∀ ws : List PySem.Str, (ws.map (·.length)).sum = (flat ws).length
  | [] => rfl
  | x :: r => by
    have := flat_len r
    simp only [flat, List.map_cons, List.sum_cons, List.flatMap_cons, List.length_append, Array.length_toList] at *
    rw [this]; rfl
theorem flat_snoc (ws : List PySem.Str) (x : PySem.Str) : flat (ws ++ [x]) = flat ws ++ x.cps.toList := by simp [flat]
theorem join_t {prog : Program} {w : World} {A : Around} {E : Value → Shared → Prop} {s : Shared} {t : Tok} {Q : Value → Shared → Prop} {h₀ : Heap} {L : Addr} {news : List (Addr × Obj)} {rv : Addr} {a : Array Value} {ep : Nat} {ws : List PySem.Str}
    (N : News h₀ L s.heap news) (hm : (rv, W.listOf a ep) ∈ news) (hs : StrsAre a.toList ws) (hb : (flat ws).length + ws.length ≤ 1048576)
    (h : ∀ t' k x, x.cps.toList = flat ws → Q (.str x t') { s with toks := k }) : wpAny (model prog w) A (call (.builtin "str.join") [.str (PySem.Str.ofString "") t, .ref rv]) Q E s := by
  have hl : s.heap.IsList rv a := ⟨_, (N _ hm).1, rfl, _, rfl⟩
  have e : (PySem.Str.ofString "").length = 0 := by decide +kernel
  refine join_listW hl hs (by rw [e]; decide) (by rw [flat_len]; exact hb) fun t' k => h t' k _ (by unfold Txt.join; rw [StrLaws.glued_eq_join]; exact join_flat ws)
theorem strs_push {us : List Value} {ws : List PySem.Str} {x : PySem.Str} {t : Nat} (h : StrsAre us ws) : StrsAre (us.toArray.push (.str x t)).toList (ws ++ [x]) := by
  have e : (us.toArray.push (.str x t)).toList = us ++ [.str x t] := by simp
  rw [e]
  exact h.append' (.cons _ _ .nil)
theorem strs_arr {us : List Value} {ws : List PySem.Str} (h : StrsAre us ws) : StrsAre us.toArray.toList ws := h
end Mine
theorem Mine.off_c15 {M : Model} {A : Around} {env : Env} {Q : Flow → Shared → Prop} {E : Value → Shared → Prop} {s : Shared} (h : wpAny M A (execs [] env) Q E s) : wpAny M A (execs [] env) Q E s := by
  (try (walk1; fail "no"))
  w_top off
  exact h
namespace Mine
local macro_rules | `(tactic| k_ne) => `(tactic| first | exact (show Nq _ _ by with_reducible assumption) | exact Ne.symm (show Nq _ _ by with_reducible assumption) | (refine neN ?_; (try dsimp only); omega))
local macro_rules | `(tactic| k_room) => `(tactic| ((try simp only [depth_under_make, depth_under_kw, depth_in1, depth_deeper, depth_caller, ktrTop, recursionLimit] at *); omega))
local macro_rules | `(tactic| k_units) => `(tactic| ((have hcL9 := cLine_is); (try simp only [units_in1, units_deeper, Around.mark_units, units_caller, ktrTop] at *); omega))
local macro_rules | `(tactic| ktr_enter) => `(tactic| (refine' code_def ?k1 ?k2 ?k3 ?k4 ?k5 ?kA ?kF ?kK ?k6 ?k7 ?k8 ?k9 ?kB ?_ ?c2 ?c3 ?c4 ?c5; (case kA => exact rfl); (case kF => exact rfl); (case kK => first | exact rfl | assumption); (case k1 => k_asm); (case k2 => k_asm); (case k3 => k_asm); (case k4 => k_asm); (case k5 => k_asm); (case k6 => k_is); (case k7 => k_is); (case k8 => k_room); (case k9 => first | exact BindsTo.of_eq rfl | exact binds_K (by k_in) rfl (by k_is) rfl rfl rfl); (case c5 => decide); (case kB => exact locs rfl); (case c2 => exact rfl); (case c3 => exact rfl); (case c4 => exact rfl); k_whole; intro g' L' h' FG' F' N' B' X' T'; (try dsimp only); (try k_fold)))
local macro_rules | `(tactic| k_all) => `(tactic| (with_reducible assumption))
local macro_rules | `(tactic| tb_lt) => `(tactic| first | exact Pick.head | (refine' Pick.tail ?c; (case c => tb_lt)))
local macro_rules | `(tactic| tb_start) => `(tactic| first | exact Picks.nil | (refine' Picks.cons ?a ?b; (case a => tb_lt); (case b => tb_start)))
local macro_rules | `(tactic| tb_rel) => `(tactic| first | exact List.forall_mem_nil _ | (refine' List.forall_mem_cons.mpr ⟨?a, ?b⟩; (case a => k_all); (case b => tb_rel)))
local macro_rules | `(tactic| walk_at "TPost") => `(tactic| (dsimp only [TPost]))
local macro_rules | `(tactic| size_fits) => `(tactic| ((simp only [PySem.sizeLine_eq, List.size_toArray]); omega))
local macro_rules | `(tactic| k_gentoks) => `(tactic| (with_reducible refine' gen_toksP ?hp ?_; (case hp => first | omega | ((try simp only [List.length_cons]); omega)); intro tk htk))
local macro_rules | `(tactic| kstt_sub) => `(tactic| first | exact fun _ h => h | assumption | (refine' subCons ?a ?b; (case a => k_mem); (case b => kstt_sub)) | (refine' subTail ?a; (case a => kstt_sub)))
local macro_rules | `(tactic| kst_all) => `(tactic| first | exact List.forall_mem_nil _ | (refine' List.forall_mem_cons.mpr ⟨?a, ?b⟩; (case a => exact rfl); (case b => kst_all)))
local macro_rules | `(tactic| walk_at "MidEnd") => `(tactic| first
  | ((with_reducible show MidEnd _ _ _ _ _ _ _ Flow.next _); (refine' ⟨(tk8 _ _ _ _ _ _ _ _, _), _, _, _, rfl, ?F, ?N, ?ps, ?P⟩); (case F => assumption); (case N => (refine' nsub ?N1 ?N2; (case N1 => assumption); (case N2 => kstt_sub))); (case ps => kst_all); (case P => k_extra "mid"))
  | ((fail_if_success (with_reducible show MidEnd _ _ _ _ _ _ _ Flow.next _)); dsimp only [MidEnd]))
local macro_rules | `(tactic| walk_at "WEnd") => `(tactic| ((fail_if_success (with_reducible show WEnd _ _ _ _ _ _ _ _ _ Flow.next _)); dsimp only [WEnd]))
local macro_rules | `(tactic| walk_at "callWith") => `(tactic| (k_here; (with_reducible refine' callWith_method1 ?_ ?he ?hp); (case he => k_dflt rfl); (case hp => k_dflt rfl)))
local macro_rules | `(tactic| k_steps) => `(tactic| repeat' (first | (k_unfold; (try dsimp only)) | (k_end; wrow_close) | walk1 | (dsimp only [List.cons_append, List.nil_append]; walk1) | (dsimp only) | fail "no step"))
/-- membership in what is handed to charsUntil -/
def InBy (w : World) (cv : Value) (fr : List (Addr × Obj)) (q : Nat → Bool) : Prop :=
  ∀ (A : Around) (E : Value → Shared → Prop) (s : Shared) (h₀ : Heap) (L : Addr) (m : PySem.Str → Option Value) (news : List (Addr × Obj)) (ch t : Nat) (Q : Value → Shared → Prop), Fr h₀ L s.heap m → (KF w).In h₀ → News h₀ L s.heap news → (∀ p ∈ fr, p ∈ news) →
    (∀ tk, Q (.bool (q ch)) { s with toks := tk }) → wpAny (model PG w) A (compareOp .In (.str ⟨#[ch]⟩ t) cv) Q E s
theorem News.addr {h₀ h : Heap} {L : Addr} {a : Addr} {o : Obj} {r : List (Addr × Obj)} (_N : News h₀ L h ((a, o) :: r)) : ∃ b : Nat, b = a := ⟨a, rfl⟩
structure CUS where
  S : SS
  vs : List Value
  ep : Nat
  us : List Value
  ws : List PySem.Str
  uep : Nat
  t : Nat → Nat
  bv : Value
structure CUP (pr : Nat → Bool) (S₀ : SS) (c : CUS) : Prop where
  hv : Errs c.vs c.S.n
  hb : BfV c.S.bo c.bv
  hw : WF c.S
  hs : StrsAre c.us c.ws
  hi : CUI pr S₀ c.S (flat c.ws)
  hl : c.us.length + (raw c.S).length ≤ 10001
section
local macro_rules | `(tactic| walk_at "call ref") => `(tactic| (k_here; k_dflt (refine' TellR.use (readChunk_s ?a1 ?a2 ?a3 ?a4 ?a5) ?k1 ?k2 ?k3 ?k4 ?k5 ?kK ?kp ?ko ?kd ?ku ?k0 ?_; (case k1 => k_asm); (case k2 => k_asm); (case k3 => k_asm); (case k4 => k_asm); (case k5 => k_asm); (case kK => first | exact rfl | assumption); (case kp => tb_start); (case ko => tb_rel); (case a1 => assumption); (case a2 => assumption); (case a3 => omega); (case a4 => omega); (case a5 => assumption); (case kd => k_room); (case ku => k_units); (case k0 => first | exact (show 1 ≤ _ by (try dsimp only); omega) | exact Nat.zero_le _); intro r9 f9 h9 tk9 p9 F9 N9 hP9; obtain ⟨S2, a0, a1, a2, a3, a4, b0, b1, bv, vs2, ep2, eS2, e1, hb2, hv2, e2⟩ := hP9; subst e1; subst e2; dsimp only [stS, stL, List.cons_append, List.nil_append] at N9; (try dsimp only [List.nil_append, List.cons_append] at N9); (try k_fold))))
local macro_rules | `(tactic| walk_at "subscriptTail") => `(tactic| (k_here; (with_reducible show wpAny _ _ (subscriptTail _ _ (Value.str _ _) (Value.int _ _)) _ _ _); refine' item_str_c ?hit ?i0 ?i1 ?i2 ?_; (case hit => assumption); (case i0 => omega); (case i1 => omega); (case i2 => omega); intro ti))
local macro_rules | `(tactic| walk_at "execs cons") => `(tactic| (k_here; exfalso; omega))
local macro_rules | `(tactic| walk_at "call builtin:str.join") => `(tactic| (k_here; refine' join_t ?N ?hm ?hs ?hb ?_; (case N => assumption); (case hm => k_mem); (case hs => k_extra "js"); (case hb => k_extra "jb"); intro tj kj xj ej))
local macro_rules | `(tactic| walk_at "compareOp In") => `(tactic| (k_here; (with_reducible show wpAny _ _ (compareOp CmpOp.In (Value.str _ _) _) _ _ _); (rename InBy _ _ _ _ => hin9); refine' hin9 _ _ _ _ _ _ _ _ _ _ ?f ?x ?n ?fr ?_; (case f => assumption); (case x => assumption); (case n => assumption); (case fr => kstt_sub); intro tk9; (try dsimp only)))
noncomputable abbrev R156 (w : World) : PySem.Str × List Stmt × Scope := recOfLook (K := KF w) (f := 156) rfl
theorem cu_tail {w : World} {sx sd tx td ra el nl : Nat} {κ κ' : Nat → Nat} {τ₀ τ₁ τ₂ τ₃ τ₄ σ₀ σ₁ : Nat} {S : SS} {bf : Value} {vs : List Value} {ep : Nat} {cv : Value} {fr R : List (Addr × Obj)} {q : Nat → Bool} {b : Bool}
    (hin : InBy w cv fr q) (hR : ∀ p ∈ fr, p ∈ R) (o1 : ∀ p ∈ R, p.1 ≠ sx) (o2 : ∀ p ∈ R, p.1 ≠ sd) (o3 : ∀ p ∈ R, p.1 ≠ tx) (o4 : ∀ p ∈ R, p.1 ≠ td) (o5 : ∀ p ∈ R, p.1 ≠ ra) (o6 : ∀ p ∈ R, p.1 ≠ el)
    (hv : Errs vs S.n) (hbf : BfV S.bo bf) (hw : WF S) (hnd : NQ6 sx sd tx td ra el) :
    TailAt w (R156 w) 156 11 110 0 [(Str.ofString "self", .ref sx), (Str.ofString "characters", cv), (Str.ofString "opposite", .bool b)] (stS w sx sd tx td ra el nl κ κ' τ₀ τ₁ τ₂ τ₃ τ₄ σ₀ σ₁ S bf vs ep ++ R)
      (fun r n' => ∃ (S' : SS) (a0 a1 a2 a3 a4 b0 b1 : Nat) (bv : Value) (vs' : List Value) (ep' : Nat) (x : PySem.Str) (t : Nat), r = .str x t ∧ x.cps.toList = (rem S).takeWhile (fun ch => q ch == b) ∧ rem S' = (rem S).dropWhile (fun ch => q ch == b) ∧ WF S' ∧ tot S' = tot S ∧
        (∀ done, PosOK S done → PosOK S' (done ++ (rem S).takeWhile (fun ch => q ch == b))) ∧ BfV S'.bo bv ∧ Errs vs' S'.n ∧ n' = stS w sx sd tx td ra el nl κ κ' a0 a1 a2 a3 a4 b0 b1 S' bv vs' ep' ++ R) := by
  have hq := hnd
  unfold NQ6 at hq
  obtain ⟨q1, q2, q3, q4, q5, q6, q7, q8, q9, q10, q11, q12, q13, q14, q15⟩ := hq
  unfold TailAt KF PG
  k_fill
  intro mean mg mb dp un gd cn cs L₀ a ccd cl L cdv outer base h₀ m s Q E B F hps X N T hd hu htk hE hret
  rw [← kstB_self hps] at F
  clear hps
  dsimp only [stS, stL, List.cons_append, List.nil_append] at N
  simp only [R156, recOfLook, List.drop_succ_cons, List.drop_zero]
  (try k_fold)
  repeat' (first | ((fail_if_success (with_reducible show wpAny _ _ (PySem.exec (PySem.Stmt.While _ _ _ _) _) _ _ _)); first | (k_unfold; (try dsimp only)) | (k_end; wrow_close) | walk1 | (dsimp only; walk1) | fail "no step"))
  (rename Fr _ _ _ _ => f8)
  (rename News _ _ _ _ => n8)
  refine whl_start 1 ?_
  obtain ⟨rv, erv⟩ := News.addr n8
  subst erv
  refine' whl_loop (fun _ : CUS => [(Str.ofString "self", .ref sx), (Str.ofString "characters", cv), (Str.ofString "opposite", .bool b), (Str.ofString "rv", .ref rv)])
    (fun c => (rv, W.listOf c.us.toArray c.uep) :: (sx, instObj 166 sd) :: (sd, sdD w κ ra nl tx el c.S.c c.S.c.length c.S.o c.S.pl c.S.pc c.bv (c.t 0) (c.t 1) (c.t 2) (c.t 3) (c.t 4)) :: (tx, instObj 73 td) :: (td, txD w κ' c.S.T c.S.p (c.t 5) (c.t 6)) :: (ra, methodObj (.ref 148) (.ref sx)) :: (el, W.listOf c.vs.toArray c.ep) :: R)
    (CUP (fun ch => q ch == b) S) (fun c => (raw c.S).length) ⟨S, vs, ep, [], [], 0, tk8 τ₀ τ₁ τ₂ τ₃ τ₄ σ₀ σ₁ 0, bf⟩ ?hE ?h0 f8 n8 ?hps ?hP ?turn
  case hE => first | assumption | passes_own | with_unfolding_all passes_own
  case h0 => omega
  case hps => kst_all
  case hP => exact ⟨hv, hbf, hw, .nil, ⟨(fun _ h => nomatch h), rfl, rfl, fun done hd => by rw [show flat [] = [] from rfl, List.append_nil]; exact hd⟩, by have := raw_len hw; simp only [List.length_nil]; omega⟩
  case turn =>
    intro c m' h8 tk' htk hc F8 N8
    clear f8 n8
    obtain ⟨S1, vs1, ep1, us1, ws1, uep1, t1, bv1⟩ := c
    dsimp only at N8
    (try k_fold)
    repeat' (first | ((fail_if_success (with_reducible show wpAny _ _ (PySem.exec (PySem.Stmt.While _ _ _ _) _) _ _ _)); first | (k_unfold; (try dsimp only)) | (k_end; wrow_close) | walk1 | (dsimp only; walk1) | fail "no step"))
    (rename Fr _ _ _ _ => f9)
    (rename News _ _ _ _ => n9)
    have hw1 := hc.hw
    have ho0 := hw1.o0
    have hoc := hw1.oc
    have hcl := hw1.hc
    dsimp only at hw1 ho0 hoc hcl
    have hl1 := hc.hl
    have hv1 := hc.hv
    have hb1 := hc.hb
    have hs1 := hc.hs
    have hi1 := hc.hi
    have hT1 := hw1.hT
    have hn1 := hw1.hn
    have hlen1 := hi1.len hw
    have hwl : ws1.length = us1.length := hs1.length.symm
    dsimp only at hl1 hv1 hb1 hs1 hi1 hT1 hn1 hlen1
    refine mid_cut (fun e : Int × Nat => [(Str.ofString "self", .ref sx), (Str.ofString "characters", cv), (Str.ofString "opposite", .bool b), (Str.ofString "rv", .ref rv), (Str.ofString "end", .int e.1 e.2)])
      (fun _ => (rv, W.listOf us1.toArray uep1) :: (sx, instObj 166 sd) :: (sd, sdD w κ ra nl tx el S1.c S1.c.length S1.o S1.pl S1.pc bv1 (t1 0) (t1 1) (t1 2) (t1 3) (t1 4)) :: (tx, instObj 73 td) :: (td, txD w κ' S1.T S1.p (t1 5) (t1 6)) :: (ra, methodObj (.ref 148) (.ref sx)) :: (el, W.listOf vs1.toArray ep1) :: R)
      (fun e => S1.o ≤ e.1 ∧ e.1 ≤ S1.c.length ∧ (∀ i, S1.o.toNat ≤ i → i < e.1.toNat → ∃ ch, S1.c.cps[i]? = some ch ∧ (q ch == b) = true) ∧ (e.1 = S1.c.length ∨ ∃ ch, S1.c.cps[e.1.toNat]? = some ch ∧ (q ch == b) = false)) f9 ?h0 ?h ?k
    case h0 => omega
    case h =>
      refine whl_start 1 ?_
      refine' whl_loop (fun e : Int × Nat => [(Str.ofString "self", .ref sx), (Str.ofString "characters", cv), (Str.ofString "opposite", .bool b), (Str.ofString "rv", .ref rv), (Str.ofString "end", .int e.1 e.2)])
        (fun _ => (rv, W.listOf us1.toArray uep1) :: (sx, instObj 166 sd) :: (sd, sdD w κ ra nl tx el S1.c S1.c.length S1.o S1.pl S1.pc bv1 (t1 0) (t1 1) (t1 2) (t1 3) (t1 4)) :: (tx, instObj 73 td) :: (td, txD w κ' S1.T S1.p (t1 5) (t1 6)) :: (ra, methodObj (.ref 148) (.ref sx)) :: (el, W.listOf vs1.toArray ep1) :: R)
        (fun e => S1.o ≤ e.1 ∧ e.1 ≤ S1.c.length ∧ ∀ i, S1.o.toNat ≤ i → i < e.1.toNat → ∃ ch, S1.c.cps[i]? = some ch ∧ (q ch == b) = true) (fun e => (S1.c.length - e.1).toNat) (S1.o, t1 2) ?hE ?h0 f9 n9 ?hps ?hP ?turn
      case hE => first | assumption | passes_own | with_unfolding_all passes_own
      case h0 => omega
      case hps => kst_all
      case hP => exact ⟨Int.le_refl _, hoc, fun i h1 h2 => by dsimp only at h2; omega⟩
      case turn =>
        rintro ⟨e, te⟩ m9 h9 tk9 htk9 ⟨he1, he2, he3⟩ F9 N9
        dsimp only at he1 he2 he3 F9 N9
        clear f9 n9
        by_cases hend : e = S1.c.length
        · (try k_fold)
          k_steps
          all_goals first
            | (exfalso; omega)
            | exact ⟨(e, te), _, _, _, rfl, by assumption, by assumption, by kst_all, he1, he2, he3, Or.inl hend⟩
        · obtain ⟨ch, hch, hit⟩ := item_at (x := S1.c) (i := e) (by omega) (by omega)
          (try k_fold)
          k_steps
          all_goals first
            | (exfalso; omega)
            | exact ⟨(e + 1, _), _, _, _, rfl, by assumption, by assumption, by kst_all, ⟨by dsimp only; omega, by dsimp only; omega, fun i h1 h2 => by
                dsimp only at h2
                by_cases hi : i < e.toNat
                · exact he3 i h1 hi
                · exact ⟨ch, by rw [show i = e.toNat from by omega]; exact hch, by assumption⟩⟩, by dsimp only; omega⟩
            | exact ⟨(e, te), _, _, _, rfl, by assumption, by assumption, by kst_all, he1, he2, he3, Or.inr ⟨ch, hch, by assumption⟩⟩
    case k =>
      rintro ⟨e, te⟩ m9 h9 tk9 htk9 ⟨he1, he2, he3, he4⟩ F9 N9
      dsimp only at he1 he2 he3 he4 F9 N9
      clear f9 n9
      obtain ⟨hi2, hw2⟩ := hi1.step hw1 he1 he2 he3
      have hlen2 := hi2.len hw
      rw [List.length_append] at hlen2
      by_cases hend : e = S1.c.length
      · have hi3 : CUI (fun ch => q ch == b) S (rdS 10240 S1) (flat (ws1 ++ [Txt.slice S1.c (some S1.o) none])) := by
          have h9 := hi2.next hw2 hend
          rw [flat_snoc, slice_from ho0 hoc]
          have e9 : (S1.c.cps.toList.drop S1.o.toNat).take (e - S1.o).toNat = S1.c.cps.toList.drop S1.o.toNat := List.take_of_length_le (by rw [List.length_drop, Array.length_toList]; unfold PySem.Str.length at hend; omega)
          rw [e9] at h9
          exact h9
        have hlen3 := hi3.len hw
        obtain ⟨hw3, _, _⟩ := rdS_wf (k := 10240) hw1 (by decide)
        (try k_fold)
        k_with_none
        repeat' (first | ((fail_if_success (with_reducible show wpAny _ _ (PySem.exec (PySem.Stmt.If _ _ _ _) _) _ _ _)); first | (k_unfold; (try dsimp only)) | (k_end; wrow_close) | walk1 | (dsimp only; walk1) | fail "no step"))
        (rename Fr _ _ _ _ => f6)
        refine mid_cut (fun _ : Nat => [(Str.ofString "self", .ref sx), (Str.ofString "characters", cv), (Str.ofString "opposite", .bool b), (Str.ofString "rv", .ref rv), (Str.ofString "end", .int e te)])
          (fun _ => (rv, W.listOf us1.toArray uep1) :: (sx, instObj 166 sd) :: (sd, sdD w κ ra nl tx el S1.c S1.c.length S1.o S1.pl S1.pc bv1 (t1 0) (t1 1) (t1 2) (t1 3) (t1 4)) :: (tx, instObj 73 td) :: (td, txD w κ' S1.T S1.p (t1 5) (t1 6)) :: (ra, methodObj (.ref 148) (.ref sx)) :: (el, W.listOf vs1.toArray ep1) :: R)
          (fun _ => True) f6 ?h0 ?h ?k
        case h0 => omega
        case h =>
          repeat' (first | ((fail_if_success (with_reducible show MidEnd _ _ _ _ _ _ _ _ _)); first | (k_unfold; (try dsimp only)) | (k_end; wrow_close) | walk1 | (dsimp only; walk1) | fail "no step"))
          all_goals exact ⟨0, _, _, _, rfl, by assumption, by assumption, by kst_all, trivial⟩
        case k =>
          intro _ m7 h7 tk7 htk7 _ F7 N7
          (try dsimp only at F7 N7)
          clear f6 N9
          (try k_fold)
          k_with "js" => exact strs_push hs1
          k_with "jb" => (rw [List.length_append, List.length_singleton]; omega)
          k_steps
          · (rename News _ _ _ _ => n7)
            (rename BfV _ _ => hb2)
            (rename Errs _ _ => hv2)
            (rename _ = rdS _ _ => eS)
            (rename rdB _ _ = true => hb7)
            simp only [List.push_toArray] at n7
            have hless := raw_less hw1 hb7
            rw [← eS] at hless hw3 hi3
            refine' ⟨⟨_, _, _, _, ws1 ++ [Txt.slice S1.c (some S1.o) none], _, tk8 _ _ _ _ _ _ _ 0, _⟩, _, _, _, rfl, ?F, ?N, ?ps, ?P, ?mu⟩
            case F => assumption
            case N =>
              refine' nsub n7 ?N2
              case N2 => kstt_sub
            case ps => kst_all
            case P => exact ⟨hv2, hb2, hw3, hs1.append' (.cons _ _ .nil), hi3, by dsimp only; rw [List.length_append, List.length_singleton]; omega⟩
            case mu => exact hless
          · (rename PySem.Str => xj)
            (rename BfV _ _ => hb2)
            (rename Errs _ _ => hv2)
            (rename _ = rdS _ _ => eS)
            (rename rdB _ _ = false => hb7)
            obtain ⟨f1, f2⟩ := hi3.fin (fun a ha => by rw [mend_rdS_nil hw1 hb7] at ha; cases ha)
            rw [← eS] at hw3 hi3 f2
            refine' hret _ _ _ _ _ (by assumption) ?S9 ⟨_, _, _, _, _, _, _, _, _, _, _, _, _, rfl, (by rw [f1]; assumption), f2.symm, hw3, hi3.tot, (fun done hd => by rw [f1]; exact hi3.pos done hd), hb2, hv2, rfl⟩
            case S9 =>
              dsimp only [stS, stL, List.cons_append, List.nil_append]
              refine' nsub ?N1 ?N2
              case N1 => assumption
              case N2 => kstt_sub
      · have hh : ∀ a, (rem { S1 with o := e }).head? = some a → (q a == b) = false := by
          obtain h | ⟨ch, hch, hq⟩ := he4
          · exact absurd h hend
          · intro a ha
            have hd := drop_cons (l := S1.c.cps.toList) (i := e.toNat) (a := ch) (by simpa using hch)
            have hr : rem { S1 with o := e } = ch :: (S1.c.cps.toList.drop (e.toNat + 1) ++ mend false (raw S1)) := by
              show S1.c.cps.toList.drop e.toNat ++ mend false (raw S1) = _
              rw [hd]; rfl
            rw [hr] at ha
            cases ha
            exact hq
        by_cases heo : e = S1.o
        · have e9 : ({ S1 with o := e } : SS) = S1 := by rw [heo]
          rw [e9] at hh
          obtain ⟨f1, f2⟩ := hi1.fin hh
          (try k_fold)
          k_with_none
          k_with "js" => exact strs_arr hs1
          k_with "jb" => omega
          k_steps
          (rename PySem.Str => xj)
          refine' hret _ _ _ _ _ (by assumption) ?S9 ⟨S1, _, _, _, _, _, _, _, _, _, _, _, _, rfl, (by rw [f1]; assumption), f2.symm, hw1, hi1.tot, (fun done hd => by rw [f1]; exact hi1.pos done hd), hb1, hv1, rfl⟩
          case S9 =>
            dsimp only [stS, stL, List.cons_append, List.nil_append]
            refine' nsub ?N1 ?N2
            case N1 => assumption
            case N2 => kstt_sub
        · obtain ⟨f1, f2⟩ := hi2.fin hh
          have e8 : flat (ws1 ++ [Txt.slice S1.c (some S1.o) (some e)]) = flat ws1 ++ (S1.c.cps.toList.drop S1.o.toNat).take (e - S1.o).toNat := by
            rw [flat_snoc, slice_list ho0 hoc he1]
          (try k_fold)
          k_with_none
          k_with "js" => exact strs_push hs1
          k_with "jb" => (rw [e8, List.length_append, List.length_append, List.length_singleton]; omega)
          k_steps
          refine' hret _ _ _ _ _ (by assumption) ?S9 ⟨{ S1 with o := e }, _, _, _, _, _, _, _, _, _, _, _, _, rfl, (by rw [f1, ← e8]; assumption), f2.symm, hw2, hi2.tot, (fun done hd => by rw [f1]; exact hi2.pos done hd), hb1, hv1, rfl⟩
          case S9 =>
            dsimp only [stS, stL, List.cons_append, List.nil_append]
            refine' nsub ?N1 ?N2
            case N1 => assumption
            case N2 => kstt_sub
end
section
theorem charsUntil_t {w : World} {sx sd tx td ra el nl : Nat} {κ κ' : Nat → Nat} {τ₀ τ₁ τ₂ τ₃ τ₄ σ₀ σ₁ : Nat} {S : SS} {bf : Value} {vs : List Value} {ep : Nat} {cv : Value} {fr : List (Addr × Obj)} {q : Nat → Bool}
    (hin : InBy w cv fr q) (hfr : ∀ p ∈ fr, p.1 ≠ sx ∧ p.1 ≠ sd ∧ p.1 ≠ tx ∧ p.1 ≠ td ∧ p.1 ≠ ra ∧ p.1 ≠ el) (hv : Errs vs S.n) (hbf : BfV S.bo bf) (hw : WF S) (hnd : NQ6 sx sd tx td ra el) :
    TellR w 12 120 (.ref 156) [.ref sx, cv] (stS w sx sd tx td ra el nl κ κ' τ₀ τ₁ τ₂ τ₃ τ₄ σ₀ σ₁ S bf vs ep ++ fr)
      (fun r f' rest => ∃ (S' : SS) (a0 a1 a2 a3 a4 b0 b1 : Nat) (bv : Value) (vs' : List Value) (ep' : Nat) (x : PySem.Str) (t : Nat), r = .str x t ∧ x.cps.toList = (rem S).takeWhile (fun ch => q ch == false) ∧ rem S' = (rem S).dropWhile (fun ch => q ch == false) ∧ WF S' ∧ tot S' = tot S ∧
        (∀ done, PosOK S done → PosOK S' (done ++ (rem S).takeWhile (fun ch => q ch == false))) ∧ BfV S'.bo bv ∧ Errs vs' S'.n ∧ f' = stS w sx sd tx td ra el nl κ κ' a0 a1 a2 a3 a4 b0 b1 S' bv vs' ep' ++ fr) := by
  have hq := hnd
  unfold NQ6 at hq
  obtain ⟨q1, q2, q3, q4, q5, q6, q7, q8, q9, q10, q11, q12, q13, q14, q15⟩ := hq
  unfold TellR Tell KF PG
  k_fill
  intro rest off' mean mg mb dp un gd cn cs a ccd cl outer A₀ base h₀ L m s Q E B F X N T hk hd hu hret
  dsimp only [stS, stL, List.cons_append, List.nil_append] at off' N
  simp only [List.forall_mem_cons] at off'
  obtain ⟨o1, o2, o3, o4, o5, o6, o7⟩ := off'
  obtain ⟨R, eR⟩ : ∃ R, R = fr ++ rest := ⟨_, rfl⟩
  have hR : ∀ p ∈ fr, p ∈ R := fun p hp => eR ▸ List.mem_append_left _ hp
  have hRR : ∀ p ∈ fr ++ rest, p ∈ R := fun p hp => eR ▸ hp
  have aR : ∀ {a : Nat}, (∀ p ∈ fr, p.1 ≠ a) → (∀ p ∈ rest, p.1 ≠ a) → ∀ p ∈ R, p.1 ≠ a := fun h1 h2 p hp => by
    rw [eR] at hp
    exact (List.mem_append.mp hp).elim (h1 p) (h2 p)
  replace o1 := aR (fun p hp => (hfr p hp).1) o1
  replace o2 := aR (fun p hp => (hfr p hp).2.1) o2
  replace o3 := aR (fun p hp => (hfr p hp).2.2.1) o3
  replace o4 := aR (fun p hp => (hfr p hp).2.2.2.1) o4
  replace o5 := aR (fun p hp => (hfr p hp).2.2.2.2.1) o5
  replace o6 := aR (fun p hp => (hfr p hp).2.2.2.2.2) o6
  clear aR o7 hfr
  rw [← eR] at N
  k_dflt ktr_enter
  (rename Fr _ _ _ _ => f8)
  (rename News _ _ _ _ => n8)
  refine' TailAt.use (cu_tail (b := false) (R := R) (κ := κ) (κ' := κ') (nl := nl) hin hR o1 o2 o3 o4 o5 o6 hv hbf hw hnd) n8 ?ts f8 ?tp ?tB ?tX ?tT ?td ?tu ?tk ?tE ?tr
  case ts =>
    dsimp only [stS, stL, List.cons_append, List.nil_append]
    exact fun _ h => h
  case tp => exact (List.forall_mem_cons.mpr ⟨rfl, List.forall_mem_cons.mpr ⟨rfl, List.forall_mem_cons.mpr ⟨rfl, List.forall_mem_nil _⟩⟩⟩)
  case tB => assumption
  case tX => assumption
  case tT => assumption
  case td => omega
  case tu => omega
  case tk => exact (show 0 < s.toks + 3 from Nat.succ_pos _)
  case tE => first | passes_own | with_unfolding_all passes_own
  case tr =>
    rintro r news' h' tk' m' F' N' ⟨S', a0, a1, a2, a3, a4, b0, b1, bv, vs', ep', x, t, rfl, h1, h2, h3, h4, h5, h6, h7, rfl⟩
    k_steps
    rw [eR, ← List.append_assoc] at *
    exact hret _ _ _ _ (by assumption) (by assumption) ⟨_, ⟨S', a0, a1, a2, a3, a4, b0, b1, bv, vs', ep', x, t, rfl, h1, h2, h3, h4, h5, h6, h7, rfl⟩, rfl⟩
end
end Mine
theorem Mine.off_c16 {M : Model} {A : Around} {env : Env} {Q : Flow → Shared → Prop} {E : Value → Shared → Prop} {s : Shared} (h : wpAny M A (execs [] env) Q E s) : wpAny M A (execs [] env) Q E s := by
  (try (walk1; fail "no"))
  w_top off
  exact h
namespace Mine
local macro_rules | `(tactic| k_ne) => `(tactic| first | exact (show Nq _ _ by with_reducible assumption) | exact Ne.symm (show Nq _ _ by with_reducible assumption) | (refine neN ?_; (try dsimp only); omega))
local macro_rules | `(tactic| k_room) => `(tactic| ((try simp only [depth_under_make, depth_under_kw, depth_in1, depth_deeper, depth_caller, ktrTop, recursionLimit] at *); omega))
local macro_rules | `(tactic| k_units) => `(tactic| ((have hcL9 := cLine_is); (try simp only [units_in1, units_deeper, Around.mark_units, units_caller, ktrTop] at *); omega))
local macro_rules | `(tactic| ktr_enter) => `(tactic| (refine' code_def ?k1 ?k2 ?k3 ?k4 ?k5 ?kA ?kF ?kK ?k6 ?k7 ?k8 ?k9 ?kB ?_ ?c2 ?c3 ?c4 ?c5; (case kA => exact rfl); (case kF => exact rfl); (case kK => first | exact rfl | assumption); (case k1 => k_asm); (case k2 => k_asm); (case k3 => k_asm); (case k4 => k_asm); (case k5 => k_asm); (case k6 => k_is); (case k7 => k_is); (case k8 => k_room); (case k9 => first | exact BindsTo.of_eq rfl | exact binds_K (by k_in) rfl (by k_is) rfl rfl rfl); (case c5 => decide); (case kB => exact locs rfl); (case c2 => exact rfl); (case c3 => exact rfl); (case c4 => exact rfl); k_whole; intro g' L' h' FG' F' N' B' X' T'; (try dsimp only); (try k_fold)))
local macro_rules | `(tactic| k_all) => `(tactic| (with_reducible assumption))
local macro_rules | `(tactic| tb_lt) => `(tactic| first | exact Pick.head | (refine' Pick.tail ?c; (case c => tb_lt)))
local macro_rules | `(tactic| tb_start) => `(tactic| first | exact Picks.nil | (refine' Picks.cons ?a ?b; (case a => tb_lt); (case b => tb_start)))
local macro_rules | `(tactic| tb_rel) => `(tactic| first | exact List.forall_mem_nil _ | (refine' List.forall_mem_cons.mpr ⟨?a, ?b⟩; (case a => k_all); (case b => tb_rel)))
local macro_rules | `(tactic| walk_at "TPost") => `(tactic| (dsimp only [TPost]))
local macro_rules | `(tactic| size_fits) => `(tactic| ((simp only [PySem.sizeLine_eq, List.size_toArray]); omega))
local macro_rules | `(tactic| k_gentoks) => `(tactic| (with_reducible refine' gen_toksP ?hp ?_; (case hp => first | omega | ((try simp only [List.length_cons]); omega)); intro tk htk))
local macro_rules | `(tactic| kstt_sub) => `(tactic| first | exact fun _ h => h | assumption | (refine' subCons ?a ?b; (case a => k_mem); (case b => kstt_sub)) | (refine' subTail ?a; (case a => kstt_sub)))
local macro_rules | `(tactic| kst_all) => `(tactic| first | exact List.forall_mem_nil _ | (refine' List.forall_mem_cons.mpr ⟨?a, ?b⟩; (case a => exact rfl); (case b => kst_all)))
local macro_rules | `(tactic| walk_at "MidEnd") => `(tactic| first
  | ((with_reducible show MidEnd _ _ _ _ _ _ _ Flow.next _); (refine' ⟨(tk8 _ _ _ _ _ _ _ _, _), _, _, _, rfl, ?F, ?N, ?ps, ?P⟩); (case F => assumption); (case N => (refine' nsub ?N1 ?N2; (case N1 => assumption); (case N2 => kstt_sub))); (case ps => kst_all); (case P => k_extra "mid"))
  | ((fail_if_success (with_reducible show MidEnd _ _ _ _ _ _ _ Flow.next _)); dsimp only [MidEnd]))
local macro_rules | `(tactic| walk_at "WEnd") => `(tactic| ((fail_if_success (with_reducible show WEnd _ _ _ _ _ _ _ _ _ Flow.next _)); dsimp only [WEnd]))
local macro_rules | `(tactic| walk_at "callWith") => `(tactic| (k_here; (with_reducible refine' callWith_method1 ?_ ?he ?hp); (case he => k_dflt rfl); (case hp => k_dflt rfl)))
local macro_rules | `(tactic| k_steps) => `(tactic| repeat' (first | (k_unfold; (try dsimp only)) | (k_end; wrow_close) | walk1 | (dsimp only [List.cons_append, List.nil_append]; walk1) | (dsimp only) | fail "no step"))
theorem TellR.mono {w : World} {D U : Nat} {f : Value} {args : List Value} {front : List (Addr × Obj)} {Post Post' : Value → List (Addr × Obj) → List (Addr × Obj) → Prop} (h : TellR w D U f args front Post) (hp : ∀ r f' rest, Post r f' rest → Post' r f' rest) : TellR w D U f args front Post' :=
  fun rest off mean mg mb dp un gd cn cs a ccd cl outer A₀ base h₀ L m s Q E B F X N T hk hd hu ret =>
    h rest off mean mg mb dp un gd cn cs a ccd cl outer A₀ base h₀ L m s Q E B F X N T hk hd hu fun r n' h' tk' F' N' ⟨f', hP, e⟩ => ret r n' h' tk' F' N' ⟨f', hp r f' rest hP, e⟩
theorem char_s {w : World} {sx sd tx td ra el nl : Nat} {κ κ' : Nat → Nat} {τ₀ τ₁ τ₂ τ₃ τ₄ σ₀ σ₁ : Nat} {S : SS} {bf : Value} {vs : List Value} {ep : Nat}
    (hv : Errs vs S.n) (hbf : BfV S.bo bf) (hw : WF S) (hnd : NQ6 sx sd tx td ra el) :
    TellR w 8 80 (.ref 133) [.ref sx] (stS w sx sd tx td ra el nl κ κ' τ₀ τ₁ τ₂ τ₃ τ₄ σ₀ σ₁ S bf vs ep)
      (fun r f' rest => ∃ (S' : SS) (a0 a1 a2 a3 a4 b0 b1 : Nat) (bv : Value) (vs' : List Value) (ep' : Nat), BfV (rem S).head? r ∧ rem S' = (rem S).tail ∧ WF S' ∧ tot S' = tot S ∧ (∀ done, PosOK S done → PosOK S' (done ++ (rem S).head?.toList)) ∧
        (∀ done, Suf S done → Suf S' (done ++ (rem S).head?.toList)) ∧ (S.c.length ≤ 10001 → S'.c.length ≤ 10001) ∧ BfV S'.bo bv ∧ Errs vs' S'.n ∧ f' = stS w sx sd tx td ra el nl κ κ' a0 a1 a2 a3 a4 b0 b1 S' bv vs' ep') := by
  have hn := hw.hn
  have hT := hw.hT
  have hc := hw.hc
  refine TellR.mono (char_t hv hbf hw.o0 (by omega) (by omega) (by omega) hnd) ?_
  rintro r f' rest ⟨S', a0, a1, a2, a3, a4, b0, b1, bv, vs', ep', eS, h1, h2, h3, rfl⟩
  obtain ⟨w1, w2, w3, w4⟩ := chS_rem hw
  obtain ⟨m1, m2, m3⟩ := chS_more hw
  subst eS
  exact ⟨(chS S).2, a0, a1, a2, a3, a4, b0, b1, bv, vs', ep', w3 ▸ h1, w4, w1, w2, m1, m2, m3, h2, h3, rfl⟩
theorem unget_s {w : World} {sx sd tx td ra el nl : Nat} {κ κ' : Nat → Nat} {τ₀ τ₁ τ₂ τ₃ τ₄ σ₀ σ₁ : Nat} {S : SS} {bf : Value} {vs : List Value} {ep ch tk : Nat} {d : List Nat}
    (hw : WF S) (hs : Suf S (d ++ [ch])) (hl : S.c.length ≤ 19999) (hne : sx ≠ sd) :
    TellR w 1 8 (.ref 163) [.ref sx, .str ⟨#[ch]⟩ tk] [(sx, instObj 166 sd), (sd, sdD w κ ra nl tx el S.c S.c.length S.o S.pl S.pc bf τ₀ τ₁ τ₂ τ₃ τ₄)]
      (fun r f' rest => ∃ a0 a1 a2 a3 a4, r = .none ∧ f' = [(sx, instObj 166 sd), (sd, sdD w κ ra nl tx el (ugS ch S).c (ugS ch S).c.length (ugS ch S).o (ugS ch S).pl (ugS ch S).pc bf a0 a1 a2 a3 a4)]) :=
  unget_t hne hw.o0 (by have := hw.hc; omega) (fun h => hs.last hw h) hw.oc
end Mine
theorem Mine.off_c17 {M : Model} {A : Around} {env : Env} {Q : Flow → Shared → Prop} {E : Value → Shared → Prop} {s : Shared} (h : wpAny M A (execs [] env) Q E s) : wpAny M A (execs [] env) Q E s := by
  (try (walk1; fail "no"))
  w_top off
  exact h
namespace Mine
local macro_rules | `(tactic| k_ne) => `(tactic| first | exact (show Nq _ _ by with_reducible assumption) | exact Ne.symm (show Nq _ _ by with_reducible assumption) | (refine neN ?_; (try dsimp only); omega))
local macro_rules | `(tactic| k_room) => `(tactic| ((try simp only [depth_under_make, depth_under_kw, depth_in1, depth_deeper, depth_caller, ktrTop, recursionLimit] at *); omega))
local macro_rules | `(tactic| k_units) => `(tactic| ((have hcL9 := cLine_is); (try simp only [units_in1, units_deeper, Around.mark_units, units_caller, ktrTop] at *); omega))
local macro_rules | `(tactic| ktr_enter) => `(tactic| (refine' code_def ?k1 ?k2 ?k3 ?k4 ?k5 ?kA ?kF ?kK ?k6 ?k7 ?k8 ?k9 ?kB ?_ ?c2 ?c3 ?c4 ?c5; (case kA => exact rfl); (case kF => exact rfl); (case kK => first | exact rfl | assumption); (case k1 => k_asm); (case k2 => k_asm); (case k3 => k_asm); (case k4 => k_asm); (case k5 => k_asm); (case k6 => k_is); (case k7 => k_is); (case k8 => k_room); (case k9 => first | exact BindsTo.of_eq rfl | exact binds_K (by k_in) rfl (by k_is) rfl rfl rfl); (case c5 => decide); (case kB => exact locs rfl); (case c2 => exact rfl); (case c3 => exact rfl); (case c4 => exact rfl); k_whole; intro g' L' h' FG' F' N' B' X' T'; (try dsimp only); (try k_fold)))
local macro_rules | `(tactic| k_all) => `(tactic| (with_reducible assumption))
local macro_rules | `(tactic| tb_lt) => `(tactic| first | exact Pick.head | (refine' Pick.tail ?c; (case c => tb_lt)))
local macro_rules | `(tactic| tb_start) => `(tactic| first | exact Picks.nil | (refine' Picks.cons ?a ?b; (case a => tb_lt); (case b => tb_start)))
local macro_rules | `(tactic| tb_rel) => `(tactic| first | exact List.forall_mem_nil _ | (refine' List.forall_mem_cons.mpr ⟨?a, ?b⟩; (case a => k_all); (case b => tb_rel)))
local macro_rules | `(tactic| walk_at "TPost") => `(tactic| (dsimp only [TPost]))
local macro_rules | `(tactic| size_fits) => `(tactic| ((simp only [PySem.sizeLine_eq, List.size_toArray]); omega))
local macro_rules | `(tactic| k_gentoks) => `(tactic| (with_reducible refine' gen_toksP ?hp ?_; (case hp => first | omega | ((try simp only [List.length_cons]); omega)); intro tk htk))
local macro_rules | `(tactic| kstt_sub) => `(tactic| first | exact fun _ h => h | assumption | (refine' subCons ?a ?b; (case a => k_mem); (case b => kstt_sub)) | (refine' subTail ?a; (case a => kstt_sub)))
local macro_rules | `(tactic| kst_all) => `(tactic| first | exact List.forall_mem_nil _ | (refine' List.forall_mem_cons.mpr ⟨?a, ?b⟩; (case a => exact rfl); (case b => kst_all)))
local macro_rules | `(tactic| walk_at "MidEnd") => `(tactic| first
  | ((with_reducible show MidEnd _ _ _ _ _ _ _ Flow.next _); (refine' ⟨(tk8 _ _ _ _ _ _ _ _, _), _, _, _, rfl, ?F, ?N, ?ps, ?P⟩); (case F => assumption); (case N => (refine' nsub ?N1 ?N2; (case N1 => assumption); (case N2 => kstt_sub))); (case ps => kst_all); (case P => k_extra "mid"))
  | ((fail_if_success (with_reducible show MidEnd _ _ _ _ _ _ _ Flow.next _)); dsimp only [MidEnd]))
local macro_rules | `(tactic| walk_at "WEnd") => `(tactic| ((fail_if_success (with_reducible show WEnd _ _ _ _ _ _ _ _ _ Flow.next _)); dsimp only [WEnd]))
local macro_rules | `(tactic| walk_at "callWith") => `(tactic| (k_here; (with_reducible refine' callWith_method1 ?_ ?he ?hp); (case he => k_dflt rfl); (case hp => k_dflt rfl)))
local macro_rules | `(tactic| k_steps) => `(tactic| repeat' (first | (k_unfold; (try dsimp only)) | (k_end; wrow_close) | walk1 | (dsimp only [List.cons_append, List.nil_append]; walk1) | (dsimp only) | fail "no step"))
def tk10 (a b c d e f g h i j : Nat) : Nat → Nat | 0 => a | 1 => b | 2 => c | 3 => d | 4 => e | 5 => f | 6 => g | 7 => h | 8 => i | _ => j
abbrev hdD7 (w : World) (κ : Nat → Nat) (sx lf qq : Nat) : Obj :=
  dictOf [ent w "stream" (κ 0) (.ref sx), ent w "parser" (κ 1) .none, ent w "escapeFlag" (κ 2) (.bool false), ent w "lastFourChars" (κ 3) (.ref lf), ent w "state" (κ 4) (.ref qq), ent w "escape" (κ 5) (.bool false), ent w "currentToken" (κ 6) .none] 7
def startS (T0 : PySem.Str) : SS := ⟨T0, 0, Str.ofString "", 0, 0, 0, none, 0⟩
theorem make_code {prog : Program} {w : World} {A : Around} {E : Value → Shared → Prop} {s : Shared} {K : Frag} {C L : Addr} {h₀ : Heap} {m : PySem.Str → Option Value} {news : List (Addr × Obj)} {Q : Value → Shared → Prop} {pos : List Value} {kw : List (PySem.Str × Value)} {fI : Addr} (F : Fr h₀ L s.heap m) (X₀ : K.In h₀) (N : News h₀ L s.heap news) (hm : makesIn K C = true) (hi : findIn K (.ref C) "__init__" = some (some (.ref fI))) (hf : isFn K (.ref fI) = true)
    (h : ∀ x dx h', Fr h₀ L h' m → News h₀ L h' ((x, instObj C dx) :: (dx, dictOf [] 0) :: news) → (∀ p ∈ news, p.1 < dx) → dx < x →
      codeAny (model prog w) (A.under (.builtin "type.__call__" ⟨.ref C :: pos, kw⟩)) (.call (.ref fI) ⟨.ref x :: pos, kw⟩) (InitBack x fun r s' => match r with | .ok (.ret v) => Q v s' | .ok _ => False | .error e => E e s') { s with heap := h' }) :
    codeAny (model prog w) A (.call (.ref C) ⟨pos, kw⟩) (fun r s' => match r with | .ok (.ret v) => Q v s' | .ok _ => False | .error e => E e s') s := make_K F N (X₀.keeps F.keep) hm hi (beq_iff_eq.mp hf) h
theorem make_t {w : World} {T0 : PySem.Str} {tk : Nat} : TellR w 8 80 (.ref 762) [.str T0 tk] []
    (fun r f' rest => ∃ (hd hx sd sx ra nl td tx el lf qq : Nat) (κh κ κ' : Nat → Nat) (a0 a1 a2 a3 a4 b0 b1 c0 : Nat), r = .ref hx ∧ (AllLt hd rest ∧ hd < hx ∧ hx < sd ∧ sd < sx ∧ sx < ra ∧ ra < nl ∧ nl < td ∧ td < tx ∧ tx < el ∧ el < lf ∧ lf < qq) ∧
      f' = [(hx, instObj 762 hd), (hd, hdD7 w κh sx lf qq)] ++ stL w sx sd tx td ra el nl κ κ' a0 a1 a2 a3 a4 b0 b1 T0 0 (Str.ofString "") 0 0 0 0 .none [] 0 ++ [(nl, W.listOf #[.int 0 c0] 0), (lf, W.listOf #[] 0), (qq, methodObj (.ref 304) (.ref hx))]) := by
  unfold TellR Tell KF PG
  k_fill
  intro rest off' mean mg mb dp un gd cn cs a ccd cl outer A₀ base h₀ L m s Q E B F X N T hk hd hu hret
  dsimp only [List.cons_append, List.nil_append] at N
  k_dflt (refine' make_code F X N ?k4 ?k5 ?k6 ?_; (case k4 => k_is); (case k5 => k_is); (case k6 => k_is); intro x' d' h' F' N' l1 l2; (try k_lt l1); (try k_lt2 l2); (try k_sweep); ktr_enter)
  k_steps
  refine' hret _ _ _ _ (by assumption) ?S ⟨_, ⟨_, _, _, _, _, _, _, _, _, _, _, tk10 _ _ _ _ _ _ _ 0 0 0, tk10 _ _ _ _ _ _ _ _ _ _, tk10 _ _ 0 0 0 0 0 0 0 0, _, _, _, _, _, _, _, _, rfl, ?ord, rfl⟩, rfl⟩
  case S =>
    refine' nsub ?N1 ?N2
    case N1 => assumption
    case N2 => kstt_sub
  case ord => exact ⟨allLt_of (by assumption), by omega, by omega, by omega, by omega, by omega, by omega, by omega, by omega, by omega, by omega⟩
end Mine
theorem Mine.off_c18 {M : Model} {A : Around} {env : Env} {Q : Flow → Shared → Prop} {E : Value → Shared → Prop} {s : Shared} (h : wpAny M A (execs [] env) Q E s) : wpAny M A (execs [] env) Q E s := by
  (try (walk1; fail "no"))
  w_top off
  exact h
namespace Mine
local macro_rules | `(tactic| k_ne) => `(tactic| first | exact (show Nq _ _ by with_reducible assumption) | exact Ne.symm (show Nq _ _ by with_reducible assumption) | (refine neN ?_; (try dsimp only); omega))
local macro_rules | `(tactic| k_room) => `(tactic| ((try simp only [depth_under_make, depth_under_kw, depth_in1, depth_deeper, depth_caller, ktrTop, recursionLimit] at *); omega))
local macro_rules | `(tactic| k_units) => `(tactic| ((have hcL9 := cLine_is); (try simp only [units_in1, units_deeper, Around.mark_units, units_caller, ktrTop] at *); omega))
local macro_rules | `(tactic| ktr_enter) => `(tactic| (refine' code_def ?k1 ?k2 ?k3 ?k4 ?k5 ?kA ?kF ?kK ?k6 ?k7 ?k8 ?k9 ?kB ?_ ?c2 ?c3 ?c4 ?c5; (case kA => exact rfl); (case kF => exact rfl); (case kK => first | exact rfl | assumption); (case k1 => k_asm); (case k2 => k_asm); (case k3 => k_asm); (case k4 => k_asm); (case k5 => k_asm); (case k6 => k_is); (case k7 => k_is); (case k8 => k_room); (case k9 => first | exact BindsTo.of_eq rfl | exact binds_K (by k_in) rfl (by k_is) rfl rfl rfl); (case c5 => decide); (case kB => exact locs rfl); (case c2 => exact rfl); (case c3 => exact rfl); (case c4 => exact rfl); k_whole; intro g' L' h' FG' F' N' B' X' T'; (try dsimp only); (try k_fold)))
local macro_rules | `(tactic| k_all) => `(tactic| (with_reducible assumption))
local macro_rules | `(tactic| tb_lt) => `(tactic| first | exact Pick.head | (refine' Pick.tail ?c; (case c => tb_lt)))
local macro_rules | `(tactic| tb_start) => `(tactic| first | exact Picks.nil | (refine' Picks.cons ?a ?b; (case a => tb_lt); (case b => tb_start)))
local macro_rules | `(tactic| tb_rel) => `(tactic| first | exact List.forall_mem_nil _ | (refine' List.forall_mem_cons.mpr ⟨?a, ?b⟩; (case a => k_all); (case b => tb_rel)))
local macro_rules | `(tactic| walk_at "TPost") => `(tactic| (dsimp only [TPost]))
local macro_rules | `(tactic| size_fits) => `(tactic| ((simp only [PySem.sizeLine_eq, List.size_toArray]); omega))
local macro_rules | `(tactic| k_gentoks) => `(tactic| (with_reducible refine' gen_toksP ?hp ?_; (case hp => first | omega | ((try simp only [List.length_cons]); omega)); intro tk htk))
local macro_rules | `(tactic| kstt_sub) => `(tactic| first | exact fun _ h => h | assumption | (refine' subCons ?a ?b; (case a => k_mem); (case b => kstt_sub)) | (refine' subTail ?a; (case a => kstt_sub)))
local macro_rules | `(tactic| kst_all) => `(tactic| first | exact List.forall_mem_nil _ | (refine' List.forall_mem_cons.mpr ⟨?a, ?b⟩; (case a => exact rfl); (case b => kst_all)))
local macro_rules | `(tactic| walk_at "MidEnd") => `(tactic| first
  | ((with_reducible show MidEnd _ _ _ _ _ _ _ Flow.next _); (refine' ⟨(tk8 _ _ _ _ _ _ _ _, _), _, _, _, rfl, ?F, ?N, ?ps, ?P⟩); (case F => assumption); (case N => (refine' nsub ?N1 ?N2; (case N1 => assumption); (case N2 => kstt_sub))); (case ps => kst_all); (case P => k_extra "mid"))
  | ((fail_if_success (with_reducible show MidEnd _ _ _ _ _ _ _ Flow.next _)); dsimp only [MidEnd]))
local macro_rules | `(tactic| walk_at "WEnd") => `(tactic| ((fail_if_success (with_reducible show WEnd _ _ _ _ _ _ _ _ _ Flow.next _)); dsimp only [WEnd]))
local macro_rules | `(tactic| walk_at "callWith") => `(tactic| (k_here; (with_reducible refine' callWith_method1 ?_ ?he ?hp); (case he => k_dflt rfl); (case hp => k_dflt rfl)))
local macro_rules | `(tactic| k_steps) => `(tactic| repeat' (first | (k_unfold; (try dsimp only)) | (k_end; wrow_close) | walk1 | (dsimp only [List.cons_append, List.nil_append]; walk1) | (dsimp only) | fail "no step"))
theorem inby_gt {w : World} {t : Nat} : InBy w (.str (Str.ofString ">") t) [] (fun ch => decide (ch = 62)) := by
  intro A E s h₀ L m news ch u Q F X N hs h
  have e : (PySem.Str.ofString ">").cps.toList = [62] := by decide +kernel
  refine SB.contains ?_
  have e2 : Txt.contains (PySem.Str.ofString ">") ⟨#[ch]⟩ = decide (ch = 62) := by
    refine (StrLaws.found_one _ ch).trans ?_
    rw [e]; simp
  rw [e2]
  exact h s.toks
abbrev hdD8 (w : World) (κ : Nat → Nat) (sx lf tq : Nat) (st ct : Value) : Obj :=
  dictOf [ent w "stream" (κ 0) (.ref sx), ent w "parser" (κ 1) .none, ent w "escapeFlag" (κ 2) (.bool false), ent w "lastFourChars" (κ 3) (.ref lf), ent w "state" (κ 4) st, ent w "escape" (κ 5) (.bool false), ent w "currentToken" (κ 6) ct, ent w "tokenQueue" (κ 7) (.ref tq)] 8
def HQ (hx hd' tq sx sd tx td ra el : Nat) : Prop := Nq hx hd' ∧ Nq hd' sx ∧ Nq hd' sd ∧ Nq hd' tx ∧ Nq hd' td ∧ Nq hd' ra ∧ Nq hd' el ∧ Nq hd' tq ∧ Nq tq hx ∧ Nq tq sx ∧ Nq tq sd ∧ Nq tq tx ∧ Nq tq td ∧ Nq tq ra ∧ Nq tq el ∧ Nq hx sx ∧ Nq hx sd ∧ Nq hx tx ∧ Nq hx td ∧ Nq hx ra ∧ Nq hx el
theorem rem_len {S : SS} (hw : WF S) : (rem S).length ≤ 40000 := by
  have h1 := mend_len (raw S) false
  have h3 := raw_len hw
  unfold rem
  rw [List.length_append, List.length_drop, Array.length_toList]
  have := hw.hc
  unfold PySem.Str.length at this
  omega
theorem tw_len {S : SS} {pr : Nat → Bool} {x : PySem.Str} (hw : WF S) (h : x.cps.toList = (rem S).takeWhile pr) : x.length ≤ 40000 := by
  have h1 := congrArg List.length h
  have h2 := rem_len hw
  have h3 := (List.takeWhile_sublist (p := pr) (l := rem S)).length_le
  rw [Array.length_toList] at h1
  unfold PySem.Str.length
  omega
section
local macro_rules | `(tactic| walk_at "call builtin:str.replace") => `(tactic| (k_here; refine' replace_t ?u ?v ?uv ?yz ?hl ?hz ?hx ?_; (case u => omega); (case v => omega); (case uv => omega); (case yz => decide +kernel); (case hl => decide +kernel); (case hz => decide +kernel); (case hx => omega); intro tr kr lr))
local macro_rules | `(tactic| walk_at "call ref") => `(tactic| (k_here; k_dflt (refine' TellR.use (char_s ?a1 ?a2 ?a3 ?a4) ?k1 ?k2 ?k3 ?k4 ?k5 ?kK ?kp ?ko ?kd ?ku ?k0 ?_; (case k1 => k_asm); (case k2 => k_asm); (case k3 => k_asm); (case k4 => k_asm); (case k5 => k_asm); (case kK => first | exact rfl | assumption); (case kp => tb_start); (case ko => tb_rel); (case a1 => assumption); (case a2 => assumption); (case a3 => assumption); (case a4 => assumption); (case kd => k_room); (case ku => k_units); (case k0 => first | exact (show 1 ≤ _ by (try dsimp only); omega) | exact Nat.zero_le _); intro r9 f9 h9 tk9 p9 F9 N9 hP9; obtain ⟨S2, a0, a1, a2, a3, a4, b0, b1, bv2, vs2, ep2, hr2, hrem2, hw2, htot2, hpos2, hsuf2, hcl2, hb2, hv2, e2⟩ := hP9; subst e2; dsimp only [stS, stL, List.cons_append, List.nil_append] at N9; (try dsimp only [List.nil_append, List.cons_append] at N9); (try k_fold))))
local macro_rules | `(tactic| walk_at "call ref") => `(tactic| (k_here; k_dflt (refine' TellR.use (charsUntil_t inby_gt ?a0 ?a1 ?a2 ?a3 ?a4) ?k1 ?k2 ?k3 ?k4 ?k5 ?kK ?kp ?ko ?kd ?ku ?k0 ?_; (case k1 => k_asm); (case k2 => k_asm); (case k3 => k_asm); (case k4 => k_asm); (case k5 => k_asm); (case kK => first | exact rfl | assumption); (case kp => tb_start); (case ko => tb_rel); (case a0 => exact (fun _ h => nomatch h)); (case a1 => assumption); (case a2 => assumption); (case a3 => assumption); (case a4 => assumption); (case kd => k_room); (case ku => k_units); (case k0 => first | exact (show 1 ≤ _ by (try dsimp only); omega) | exact Nat.zero_le _); intro r9 f9 h9 tk9 p9 F9 N9 hP9; obtain ⟨S2, a0, a1, a2, a3, a4, b0, b1, bv2, vs2, ep2, x2, t2, e1, hx2, hrem2, hw2, htot2, hpos2, hb2, hv2, e2⟩ := hP9; subst e1; subst e2; (have hl9 := tw_len (by assumption) hx2); dsimp only [stS, stL, List.cons_append, List.nil_append] at N9; (try dsimp only [List.nil_append, List.cons_append] at N9); (try k_fold))))
theorem bogus_t {w : World} {hx hd' tq lf sx sd tx td ra el nl : Nat} {κh κ κ' : Nat → Nat} {τ₀ τ₁ τ₂ τ₃ τ₄ σ₀ σ₁ : Nat} {S : SS} {bf st ct : Value} {vs qs : List Value} {ep tep : Nat}
    (hv : Errs vs S.n) (hbf : BfV S.bo bf) (hw : WF S) (hqs : qs.length ≤ 100) (hnd : NQ6 sx sd tx td ra el) (hh : HQ hx hd' tq sx sd tx td ra el) :
    TellR w 20 200 (.ref 598) [.ref hx] ([(hx, instObj 762 hd'), (hd', hdD8 w κh sx lf tq st ct), (tq, W.listOf qs.toArray tep)] ++ stS w sx sd tx td ra el nl κ κ' τ₀ τ₁ τ₂ τ₃ τ₄ σ₀ σ₁ S bf vs ep)
      (fun r f' rest => ∃ (S' : SS) (a0 a1 a2 a3 a4 b0 b1 : Nat) (bv : Value) (vs' : List Value) (ep' : Nat) (da q' : Nat) (o' : Obj) (x : PySem.Str) (xt tt te : Nat), r = .bool true ∧ x.cps.toList = ((rem S).takeWhile (fun ch => decide (ch = 62) == false)).map (fun a => if a = 0 then 65533 else a) ∧
        rem S' = ((rem S).dropWhile (fun ch => decide (ch = 62) == false)).tail ∧ WF S' ∧ tot S' = tot S ∧ (∀ done, PosOK S done → PosOK S' ((done ++ (rem S).takeWhile (fun ch => decide (ch = 62) == false)) ++ ((rem S).dropWhile (fun ch => decide (ch = 62) == false)).head?.toList)) ∧ BfV S'.bo bv ∧ Errs vs' S'.n ∧
        (hx < da ∧ hd' < da ∧ tq < da ∧ sx < da ∧ sd < da ∧ tx < da ∧ td < da ∧ ra < da ∧ el < da ∧ AllLt da rest ∧ da < q' ∧ AllLt q' rest) ∧ Obj.IsDictOf (PySem.strKind PG w) o' [(Str.ofString "type", .int 6 tt), (Str.ofString "data", .str x xt)] ∧
        f' = [(hx, instObj 762 hd'), (hd', hdD8 w κh sx lf tq (.ref q') ct), (tq, W.listOf (qs.toArray.push (.ref da)) te)] ++ stS w sx sd tx td ra el nl κ κ' a0 a1 a2 a3 a4 b0 b1 S' bv vs' ep' ++ [(da, o'), (q', methodObj (.ref 304) (.ref hx))]) := by
  have hq := hnd
  unfold NQ6 at hq
  obtain ⟨q1, q2, q3, q4, q5, q6, q7, q8, q9, q10, q11, q12, q13, q14, q15⟩ := hq
  unfold HQ at hh
  obtain ⟨g1, g2, g3, g4, g5, g6, g7, g8, g9, g10, g11, g12, g13, g14, g15, g16, g17, g18, g19, g20, g21⟩ := hh
  unfold TellR Tell KF PG
  k_fill
  intro rest off' mean mg mb dp un gd cn cs a ccd cl outer A₀ base h₀ L m s Q E B F X N T hk hd hu hret
  dsimp only [stS, stL, List.cons_append, List.nil_append] at off' N
  simp only [List.forall_mem_cons] at off'
  obtain ⟨o1, o2, o3, o4, o5, o6, o7, o8, o9, -⟩ := off'
  k_dflt ktr_enter
  k_steps
  rename _ = List.takeWhile _ _ => e1
  rename rem _ = List.dropWhile _ _ => e2
  rename rem _ = List.tail _ => e3
  refine' hret _ _ _ _ (by assumption) ?S9 ⟨_, ⟨_, _, _, _, _, _, _, _, _, _, _, _, _, _, _, _, _, _, rfl, ?X, ?R, (by assumption), ?T, ?P, (by assumption), (by assumption), ?O, ?D, rfl⟩, rfl⟩
  case S9 =>
    refine' nsub ?N1 ?N2
    case N1 => assumption
    case N2 => kstt_sub
  case D => assumption
  case X => exact (repl_one _ _ _ (c := 0) (e := 65533) (by decide +kernel) (by decide +kernel)).trans (by rw [e1])
  case R => rw [e3, e2]
  case T => exact Eq.trans (by assumption) (by assumption)
  case P =>
    rename ∀ done, PosOK S done → _ => p1
    rename ∀ done, PosOK _ done → _ => p2
    intro done hp
    have h := p2 _ (p1 _ hp)
    rw [e2] at h
    exact h
  case O =>
    rename _ < _ ∧ _ => lq
    obtain ⟨k1, k2, k3, k4, k5, k6, k7, k8, k9, k10, k11⟩ := lq
    rename _ < _ ∧ _ => ld
    obtain ⟨m1, m2, m3, m4, m5, m6, m7, m8, m9, m10⟩ := ld
    exact ⟨m7, m8, m9, m1, m2, m3, m4, m5, m6, m10, (by assumption), k11⟩
end
end Mine
theorem Mine.off_c19 {M : Model} {A : Around} {env : Env} {Q : Flow → Shared → Prop} {E : Value → Shared → Prop} {s : Shared} (h : wpAny M A (execs [] env) Q E s) : wpAny M A (execs [] env) Q E s := by
  (try (walk1; fail "no"))
  w_top off
  exact h
namespace Mine
local macro_rules | `(tactic| k_ne) => `(tactic| first | exact (show Nq _ _ by with_reducible assumption) | exact Ne.symm (show Nq _ _ by with_reducible assumption) | (refine neN ?_; (try dsimp only); omega))
local macro_rules | `(tactic| k_room) => `(tactic| ((try simp only [depth_under_make, depth_under_kw, depth_in1, depth_deeper, depth_caller, ktrTop, recursionLimit] at *); omega))
local macro_rules | `(tactic| k_units) => `(tactic| ((have hcL9 := cLine_is); (try simp only [units_in1, units_deeper, Around.mark_units, units_caller, ktrTop] at *); omega))
local macro_rules | `(tactic| ktr_enter) => `(tactic| (refine' code_def ?k1 ?k2 ?k3 ?k4 ?k5 ?kA ?kF ?kK ?k6 ?k7 ?k8 ?k9 ?kB ?_ ?c2 ?c3 ?c4 ?c5; (case kA => exact rfl); (case kF => exact rfl); (case kK => first | exact rfl | assumption); (case k1 => k_asm); (case k2 => k_asm); (case k3 => k_asm); (case k4 => k_asm); (case k5 => k_asm); (case k6 => k_is); (case k7 => k_is); (case k8 => k_room); (case k9 => first | exact BindsTo.of_eq rfl | exact binds_K (by k_in) rfl (by k_is) rfl rfl rfl); (case c5 => decide); (case kB => exact locs rfl); (case c2 => exact rfl); (case c3 => exact rfl); (case c4 => exact rfl); k_whole; intro g' L' h' FG' F' N' B' X' T'; (try dsimp only); (try k_fold)))
local macro_rules | `(tactic| k_all) => `(tactic| (with_reducible assumption))
local macro_rules | `(tactic| tb_lt) => `(tactic| first | exact Pick.head | (refine' Pick.tail ?c; (case c => tb_lt)))
local macro_rules | `(tactic| tb_start) => `(tactic| first | exact Picks.nil | (refine' Picks.cons ?a ?b; (case a => tb_lt); (case b => tb_start)))
local macro_rules | `(tactic| tb_rel) => `(tactic| first | exact List.forall_mem_nil _ | (refine' List.forall_mem_cons.mpr ⟨?a, ?b⟩; (case a => k_all); (case b => tb_rel)))
local macro_rules | `(tactic| walk_at "TPost") => `(tactic| (dsimp only [TPost]))
local macro_rules | `(tactic| size_fits) => `(tactic| ((simp only [PySem.sizeLine_eq, List.size_toArray]); omega))
local macro_rules | `(tactic| k_gentoks) => `(tactic| (with_reducible refine' gen_toksP ?hp ?_; (case hp => first | omega | ((try simp only [List.length_cons]); omega)); intro tk htk))
local macro_rules | `(tactic| kstt_sub) => `(tactic| first | exact fun _ h => h | assumption | (refine' subCons ?a ?b; (case a => k_mem); (case b => kstt_sub)) | (refine' subTail ?a; (case a => kstt_sub)))
local macro_rules | `(tactic| kst_all) => `(tactic| first | exact List.forall_mem_nil _ | (refine' List.forall_mem_cons.mpr ⟨?a, ?b⟩; (case a => exact rfl); (case b => kst_all)))
local macro_rules | `(tactic| walk_at "MidEnd") => `(tactic| first
  | ((with_reducible show MidEnd _ _ _ _ _ _ _ Flow.next _); (refine' ⟨(tk8 _ _ _ _ _ _ _ _, _), _, _, _, rfl, ?F, ?N, ?ps, ?P⟩); (case F => assumption); (case N => (refine' nsub ?N1 ?N2; (case N1 => assumption); (case N2 => kstt_sub))); (case ps => kst_all); (case P => k_extra "mid"))
  | ((fail_if_success (with_reducible show MidEnd _ _ _ _ _ _ _ Flow.next _)); dsimp only [MidEnd]))
local macro_rules | `(tactic| walk_at "WEnd") => `(tactic| ((fail_if_success (with_reducible show WEnd _ _ _ _ _ _ _ _ _ Flow.next _)); dsimp only [WEnd]))
local macro_rules | `(tactic| walk_at "callWith") => `(tactic| (k_here; (with_reducible refine' callWith_method1 ?_ ?he ?hp); (case he => k_dflt rfl); (case hp => k_dflt rfl)))
local macro_rules | `(tactic| k_steps) => `(tactic| repeat' (first | (k_unfold; (try dsimp only)) | (k_end; wrow_close) | walk1 | (dsimp only [List.cons_append, List.nil_append]; walk1) | (dsimp only) | fail "no step"))
def Go (S : SS) : Prop := (rem S).getLast? = some 120
theorem Go.ne {S : SS} (h : Go S) : ∃ c l, rem S = c :: l ∧ (c ≠ 120 → l.getLast? = some 120) := by
  unfold Go at h
  cases hr : rem S with
  | nil => rw [hr] at h; cases h
  | cons c l =>
    refine ⟨c, l, rfl, fun hc => ?_⟩
    rw [hr] at h
    cases l with
    | nil => exact absurd (by simpa using h) hc
    | cons d l => simpa using h
/-- from S₀ on the signs l were handed out -/
structure Got (S₀ S : SS) (l : List Nat) : Prop where
  app : rem S₀ = l ++ rem S
  tot : tot S = tot S₀
  pos : ∀ done, PosOK S₀ done → PosOK S (done ++ l)
  suf : ∀ done, Suf S₀ done → Suf S (done ++ l)
  one : ∀ done, Pos1 S₀ done → Pos1 S (done ++ l)
  len : S₀.c.length ≤ 10001 → S.c.length ≤ 10001
theorem Got.nil (S : SS) : Got S S [] := ⟨rfl, rfl, fun _ h => by rwa [List.append_nil], fun _ h => by rwa [List.append_nil], fun _ h => by rwa [List.append_nil], fun h => h⟩
theorem Got.more {S₀ S S' : SS} {l : List Nat} {c : Nat} (h : Got S₀ S l) (h' : Got S S' [c]) : Got S₀ S' (l ++ [c]) :=
  ⟨by rw [h.app, h'.app, List.append_assoc], h'.tot.trans h.tot, fun d hd => by rw [← List.append_assoc]; exact h'.pos _ (h.pos d hd), fun d hd => by rw [← List.append_assoc]; exact h'.suf _ (h.suf d hd), fun d hd => by rw [← List.append_assoc]; exact h'.one _ (h.one d hd), fun hl => h'.len (h.len hl)⟩
theorem char_go {w : World} {sx sd tx td ra el nl : Nat} {κ κ' : Nat → Nat} {τ₀ τ₁ τ₂ τ₃ τ₄ σ₀ σ₁ : Nat} {S₀ S : SS} {l : List Nat} {bf : Value} {vs : List Value} {ep : Nat}
    (hg : Go S) (hG : Got S₀ S l) (hv : Errs vs S.n) (hbf : BfV S.bo bf) (hw : WF S) (hnd : NQ6 sx sd tx td ra el) :
    TellR w 8 80 (.ref 133) [.ref sx] (stS w sx sd tx td ra el nl κ κ' τ₀ τ₁ τ₂ τ₃ τ₄ σ₀ σ₁ S bf vs ep)
      (fun r f' rest => ∃ (S' : SS) (a0 a1 a2 a3 a4 b0 b1 : Nat) (bv : Value) (vs' : List Value) (ep' : Nat) (c t : Nat), r = .str ⟨#[c]⟩ t ∧ (c ≠ 120 → Go S') ∧ WF S' ∧ Got S₀ S' (l ++ [c]) ∧ BfV S'.bo bv ∧ Errs vs' S'.n ∧ f' = stS w sx sd tx td ra el nl κ κ' a0 a1 a2 a3 a4 b0 b1 S' bv vs' ep') := by
  obtain ⟨c, r0, hl, hc⟩ := hg.ne
  have hn := hw.hn
  have hT := hw.hT
  have hcl := hw.hc
  refine TellR.mono (char_t hv hbf hw.o0 (by omega) (by omega) (by omega) hnd) ?_
  rintro r f' rest ⟨S', a0, a1, a2, a3, a4, b0, b1, bv, vs', ep', eS, h1, h2, h3, rfl⟩
  obtain ⟨w1, w2, w3, w4⟩ := chS_rem hw
  obtain ⟨m1, m2, m3⟩ := chS_more hw
  have m4 : ∀ done, Pos1 S done → Pos1 (chS S).2 (done ++ (rem S).head?.toList) := fun d hd => hd.next hw (by rw [hl]; exact fun e => nomatch e)
  subst eS
  rw [w3, hl] at h1
  obtain ⟨t, rfl⟩ := h1
  rw [hl] at w4 m1 m2 m4
  have w4' : rem (chS S).2 = r0 := w4
  exact ⟨(chS S).2, a0, a1, a2, a3, a4, b0, b1, bv, vs', ep', c, t, rfl, fun h => by unfold Go; rw [w4']; exact hc h, w1, hG.more ⟨by rw [hl, w4']; rfl, w2, m1, m2, m4, m3⟩, h2, h3, rfl⟩
end Mine
namespace Mine
section
variable {prog : Program} {w : World} {A : Around} {E : Value → Shared → Prop} {s : Shared} {env : Env} {h₀ : Heap} {L : Addr} {x : PySem.Str} {body : List Stmt}
theorem tuple_loop {σ : Type} {l : Addr} {lo : Obj} {vs : List Value} {n : Nat} {m₀ : PySem.Str → Option Value} {Q : Flow → Shared → Prop} (front : σ → List (Addr × Obj)) (rest : List (Addr × Obj)) (ps : σ → List (PySem.Str × Value)) (stored : List PySem.Str) (P : List Value → σ → Prop) (c₀ : σ)
    (hh : A.handled = none) (hm : (l, lo) ∈ rest) (hc : lo.cls = .type "tuple") (hd : lo.data = .seq vs.toArray n) (F : Fr h₀ env.locals s.heap m₀) (N : News h₀ env.locals s.heap (front c₀ ++ rest)) (off : ∀ q ∈ front c₀, ∀ p ∈ rest, p.1 ≠ q.1) (hk : ∀ p ∈ ps c₀, m₀ p.1 = some p.2) (hp : P [] c₀)
    (turn : ∀ (c : σ) (pre post : List Value) (v : Value) (u : PySem.Str → Option Value) (h : Heap) (tk : Nat) (rest' : List (Addr × Obj)), vs = pre ++ v :: post → P pre c → (∀ q ∈ front c, ∀ p ∈ rest', p.1 ≠ q.1) → (∀ p ∈ rest, p ∈ rest') →
      Fr h₀ env.locals h (fun y => if y = x then some v else kstB (fun z => if stored.contains z then u z else m₀ z) (ps c) y) → News h₀ env.locals h (front c ++ rest') →
      wpAny (model prog w) A (execs body env) (TPost h₀ env.locals front (KJ x ps stored m₀ (P (pre ++ [v]))) rest' { s with heap := h, toks := tk } Q) E { s with heap := h, toks := tk })
    (done : ∀ (c : σ) (u : PySem.Str → Option Value) (h : Heap) (tk : Nat), P vs c → (∀ q ∈ front c, ∀ p ∈ rest, p.1 ≠ q.1) → Fr h₀ env.locals h (fun y => if y = x then u y else kstB (fun z => if stored.contains z then u z else m₀ z) (ps c) y) → News h₀ env.locals h (front c ++ rest) →
      Q .next { s with heap := h, toks := tk }) :
    wpAny (model prog w) A (pyIter (.ref l)) (fun it s₂ => LoopAtV prog w A h₀ env x body Q E it s₂) E s := by
  have hlm := N (l, lo) (List.mem_append_right _ hm)
  have hl : s.heap.IsTuple l vs.toArray := ⟨lo, hlm.1, hc, n, hd⟩
  have hlt : l < s.heap.objs.size := Heap.lt_size hlm.1
  have hne : l ≠ s.heap.objs.size := Nat.ne_of_lt hlt
  have hI : ∀ q ∈ front c₀ ++ rest, q.1 ≠ s.heap.objs.size := fun q hq e => absurd (Heap.lt_size (N q hq).1) (e ▸ Nat.lt_irrefl _)
  have hlL : l ≠ env.locals := hlm.2.1
  refine wpAny_pyIter_tuple hl ?_
  have W := Walks.tuple (prog := prog) (w := w) hh s.heap.objs.size l hne vs.toArray
  have hlen : vs.toArray.size = vs.length := by simp
  rw [hlen] at W
  refine loop_gen front rest (fun i => KJ x ps stored m₀ (P (vs.take i))) c₀ W ?_ ?_ ?_ ⟨⟨_, Heap.get?_push_size _ rfl, rfl, rfl⟩, hl.at fun o e => Heap.get?_push_of_some _ e⟩ (F.push _) (fun p hp => ⟨Heap.get?_push_of_some _ (N p hp).1, (N p hp).2⟩) ?_ ?_ off ⟨hk, fun _ _ _ _ => rfl, by simpa using hp⟩ ?_ ?_
  · intro hm
    rcases List.mem_cons.mp hm with e | hm
    · exact absurd F.ns.lt (e ▸ Nat.lt_irrefl _)
    · exact hlL (List.mem_singleton.mp hm).symm
  · intro b' hb
    rw [List.mem_singleton.mp hb]
    exact next_is_new F
  · rintro i h ⟨⟨o, ho, _⟩, ⟨o', ho', _⟩⟩ b hb
    rcases List.mem_cons.mp hb with rfl | hb
    · exact ⟨o, ho⟩
    · rw [List.mem_singleton.mp hb]; exact ⟨o', ho'⟩
  · intro q hq hf
    rcases List.mem_cons.mp hf with e | hf
    · exact hI q (List.mem_append_left _ hq) e
    · exact off q hq _ hm (List.mem_singleton.mp hf).symm
  · intro q hq hf
    exact hI q (List.mem_append_right _ hq) (List.mem_singleton.mp hf)
  · rintro i v c m₁ h tk rest' hi hv ⟨h1, h2, hp'⟩ off' sub' F₁ N₁
    have hn' : vs[i]? = some v := by simpa using hv
    obtain ⟨e1, e2⟩ := take_at hn'
    rw [e2]
    exact turn c _ _ v m₁ h tk rest' e1 hp' off' sub' (kst_fr h1 h2 F₁) N₁
  · rintro c m₁ h tk ⟨h1, h2, hp'⟩ off' F₁ N₁
    rw [List.take_length] at hp'
    exact done c m₁ h tk hp' off' (kst_frOut h1 h2 F₁) N₁
theorem item_last_t {value slice : PySem.Expr} {l : Addr} {its : Array Value} {n u : Nat} {v : Value} {news : List (Addr × Obj)} {Q : Value → Shared → Prop} (N : News h₀ L s.heap news) (hm : (l, W.listOf its n) ∈ news) (hv : its.back? = some v) (h : Q v s)
    (hs : subscripted slice false (.ref l) (.int (-1) u) = operate [.ref l, .int (-1) u] (getItem (.ref l) (.int (-1) u)) := by with_unfolding_all rfl) :
    wpAny (model prog w) A (subscriptTail value slice (.ref l) (.int (-1) u)) Q E s := by
  have hl : s.heap.IsList l its := ⟨_, (N _ hm).1, rfl, _, rfl⟩
  have hv' : its[its.size - 1]? = some v := hv
  have h0 : its.size - 1 < its.size := (Array.getElem?_eq_some_iff.mp hv').1
  refine tail_any hl.typeIs PySem.F.slot_list_getitem.lookup (wpAny_getItem_list_neg hl (by decide) ?_ (by decide) ?_ h) hs
  · omega
  · rw [show ((-1 : Int) + (its.size : Int)).toNat = its.size - 1 from by omega]
    exact hv'
theorem truthy_snoc {l : Addr} {us : List Value} {v : Value} {n : Nat} {news : List (Addr × Obj)} {Q : Bool → Shared → Prop} (N : News h₀ L s.heap news) (hm : (l, W.listOf (us ++ [v]).toArray n) ∈ news) (hz : us.length ≤ 100000) (h : Q true { s with toks := s.toks + 1 + 1 }) :
    wpAny (model prog w) A (truthy (.ref l)) Q E s := by
  have hl : s.heap.IsList l (us ++ [v]).toArray := ⟨_, (N _ hm).1, rfl, _, rfl⟩
  refine wpAny_truthy_list hl (by rw [List.size_toArray, List.length_append, List.length_singleton]; omega) ?_
  have e : (!(us ++ [v]).toArray.isEmpty) = true := by simp
  rw [e]; exact h
theorem ncons {h : Heap} {p : Addr × Obj} {l : List (Addr × Obj)} (N : News h₀ L h l) (hm : p ∈ l) : News h₀ L h (p :: l) := nsub N (subCons hm fun _ h => h)
theorem News.head2 {h : Heap} {a : Addr} {o : Obj} {r : List (Addr × Obj)} (_N : News h₀ L h ((a, o) :: r)) : ∃ (b : Nat) (p : Obj), b = a ∧ p = o := ⟨a, o, rfl, rfl⟩
theorem truthy_made {l : Addr} {us : List Value} {n : Nat} {news : List (Addr × Obj)} {Q : Bool → Shared → Prop} (N : News h₀ L s.heap news) (hm : (l, W.listOf us.toArray n) ∈ news) (hz : us.length ≤ 1048576) (h : Q (decide (0 < us.length)) { s with toks := s.toks + 1 + 1 }) :
    wpAny (model prog w) A (truthy (.ref l)) Q E s := by
  have hl : s.heap.IsList l us.toArray := ⟨_, (N _ hm).1, rfl, _, rfl⟩
  refine wpAny_truthy_list hl (by rw [List.size_toArray]; omega) ?_
  have e : (!us.toArray.isEmpty) = decide (0 < us.length) := by cases us <;> simp
  rw [e]; exact h
theorem pop_made {D : Addr} {p : List Value} {y : Value} {n : Nat} {m : PySem.Str → Option Value} {news news' : List (Addr × Obj)} {Q : Value → Shared → Prop} (F : Fr h₀ L s.heap m) (N : News h₀ L s.heap news) (U : Upd D (W.listOf (p ++ [y]).toArray n) (W.listOf p.toArray (n + 1)) news news')
    (hz : p.length ≤ 100000) (h : ∀ h', Fr h₀ L h' m → News h₀ L h' news' → Q y { s with heap := h' }) : wpAny (model prog w) A (call (.builtin "list.pop") [.ref D]) Q E s :=
  kl_pop F N (p := p) (y := y) (by simpa using kpa_last y p) U (by rw [sizeLine_eq]; simp; omega) h
end
end Mine
theorem Mine.off_e1 {M : Model} {A : Around} {env : Env} {Q : Flow → Shared → Prop} {E : Value → Shared → Prop} {s : Shared} (h : wpAny M A (execs [] env) Q E s) : wpAny M A (execs [] env) Q E s := by
  (try (walk1; fail "no"))
  w_top off
  exact h
namespace Mine
local macro_rules | `(tactic| k_ne) => `(tactic| first | exact (show Nq _ _ by with_reducible assumption) | exact Ne.symm (show Nq _ _ by with_reducible assumption) | (refine neN ?_; (try dsimp only); omega))
local macro_rules | `(tactic| k_room) => `(tactic| ((try simp only [depth_under_make, depth_under_kw, depth_in1, depth_deeper, depth_caller, ktrTop, recursionLimit] at *); omega))
local macro_rules | `(tactic| k_units) => `(tactic| ((have hcL9 := cLine_is); (try simp only [units_in1, units_deeper, Around.mark_units, units_caller, ktrTop] at *); omega))
local macro_rules | `(tactic| ktr_enter) => `(tactic| (refine' code_def ?k1 ?k2 ?k3 ?k4 ?k5 ?kA ?kF ?kK ?k6 ?k7 ?k8 ?k9 ?kB ?_ ?c2 ?c3 ?c4 ?c5; (case kA => exact rfl); (case kF => exact rfl); (case kK => first | exact rfl | assumption); (case k1 => k_asm); (case k2 => k_asm); (case k3 => k_asm); (case k4 => k_asm); (case k5 => k_asm); (case k6 => k_is); (case k7 => k_is); (case k8 => k_room); (case k9 => first | exact BindsTo.of_eq rfl | exact binds_K (by k_in) rfl (by k_is) rfl rfl rfl); (case c5 => decide); (case kB => exact locs rfl); (case c2 => exact rfl); (case c3 => exact rfl); (case c4 => exact rfl); k_whole; intro g' L' h' FG' F' N' B' X' T'; (try dsimp only); (try k_fold)))
local macro_rules | `(tactic| k_all) => `(tactic| (with_reducible assumption))
local macro_rules | `(tactic| tb_lt) => `(tactic| first | exact Pick.head | (refine' Pick.tail ?c; (case c => tb_lt)))
local macro_rules | `(tactic| tb_start) => `(tactic| first | exact Picks.nil | (refine' Picks.cons ?a ?b; (case a => tb_lt); (case b => tb_start)))
local macro_rules | `(tactic| tb_rel) => `(tactic| first | exact List.forall_mem_nil _ | (refine' List.forall_mem_cons.mpr ⟨?a, ?b⟩; (case a => k_all); (case b => tb_rel)))
local macro_rules | `(tactic| walk_at "TPost") => `(tactic| (dsimp only [TPost]))
local macro_rules | `(tactic| size_fits) => `(tactic| ((simp only [PySem.sizeLine_eq, List.size_toArray]); omega))
local macro_rules | `(tactic| k_gentoks) => `(tactic| (with_reducible refine' gen_toksP ?hp ?_; (case hp => first | omega | ((try simp only [List.length_cons]); omega)); intro tk htk))
local macro_rules | `(tactic| kstt_sub) => `(tactic| first | exact fun _ h => h | assumption | (refine' subCons ?a ?b; (case a => k_mem); (case b => kstt_sub)) | (refine' subTail ?a; (case a => kstt_sub)))
local macro_rules | `(tactic| kst_all) => `(tactic| first | exact List.forall_mem_nil _ | (refine' List.forall_mem_cons.mpr ⟨?a, ?b⟩; (case a => exact rfl); (case b => kst_all)))
local macro_rules | `(tactic| walk_at "MidEnd") => `(tactic| first
  | ((with_reducible show MidEnd _ _ _ _ _ _ _ Flow.next _); (refine' ⟨(tk8 _ _ _ _ _ _ _ _, _), _, _, _, rfl, ?F, ?N, ?ps, ?P⟩); (case F => assumption); (case N => (refine' nsub ?N1 ?N2; (case N1 => assumption); (case N2 => kstt_sub))); (case ps => kst_all); (case P => k_extra "mid"))
  | ((fail_if_success (with_reducible show MidEnd _ _ _ _ _ _ _ Flow.next _)); dsimp only [MidEnd]))
local macro_rules | `(tactic| walk_at "WEnd") => `(tactic| ((fail_if_success (with_reducible show WEnd _ _ _ _ _ _ _ _ _ Flow.next _)); dsimp only [WEnd]))
local macro_rules | `(tactic| walk_at "callWith") => `(tactic| (k_here; (with_reducible refine' callWith_method1 ?_ ?he ?hp); (case he => k_dflt rfl); (case hp => k_dflt rfl)))
local macro_rules | `(tactic| k_steps) => `(tactic| repeat' (first | (k_unfold; (try dsimp only)) | (k_end; wrow_close) | walk1 | (dsimp only [List.cons_append, List.nil_append]; walk1) | (dsimp only) | fail "no step"))
theorem mend_snoc : ∀ (pre : List Nat) (f : Bool) (n : Nat), mend f (pre ++ [n]) = mend f pre ++ (if n = 13 then [10] else if n = 10 ∧ (pre.getLast?.map (fun c => decide (c = 13))).getD f = true then [] else [n])
  | [], f, n => by cases f <;> simp [mend]
  | [a], f, n => by
    show mend f (a :: [n]) = mend f (a :: []) ++ _
    rw [mend_cons f a [n], mend_cons f a []]
    by_cases h : a = 13
    · subst h; simp [mend]
    · rw [if_neg h, if_neg h]
      by_cases h2 : a = 10 ∧ f = true
      · rw [if_pos h2, if_pos h2]; simp [mend, h]
      · rw [if_neg h2, if_neg h2]; simp [mend, h]
  | a :: b :: r, f, n => by
    show mend f (a :: ((b :: r) ++ [n])) = _
    have e : (a :: b :: r).getLast? = (b :: r).getLast? := by rw [List.getLast?_cons_cons]
    rw [e, mend_cons, mend_cons]
    have hne : ∀ g : Bool, ((b :: r).getLast?.map (fun c => decide (c = 13))).getD g = ((b :: r).getLast?.map (fun c => decide (c = 13))).getD f := by
      intro g
      rw [List.getLast?_eq_some_getLast (List.cons_ne_nil b r)]; rfl
    by_cases h : a = 13
    · rw [if_pos h, if_pos h, mend_snoc (b :: r) true n, hne true]; rfl
    · rw [if_neg h, if_neg h]
      split
      · rw [mend_snoc (b :: r) false n, hne false]
      · rw [mend_snoc (b :: r) false n, hne false]; rfl
theorem one_eq {c d : Nat} {x : PySem.Str} (hx : x = ⟨#[d]⟩) : ((⟨#[c]⟩ : PySem.Str) == x) = decide (c = d) := by
  subst hx
  by_cases h : c = d
  · subst h; simp
  · rw [decide_eq_false h]
    refine beq_eq_false_iff_ne.mpr fun e => h ?_
    have e2 : (#[c] : Array Nat) = #[d] := congrArg PySem.Str.cps e
    simpa using e2
theorem cr_is : PySem.Str.ofString "\r" = ⟨#[13]⟩ := by decide +kernel
theorem lf_is : PySem.Str.ofString "\n" = ⟨#[10]⟩ := by decide +kernel
theorem mend_t1 {pre : List Nat} {n : Nat} {c : PySem.Str} (h : ((⟨#[n]⟩ : PySem.Str) == PySem.Str.ofString "\r") = true) (hc : c.cps.toList = mend false pre) : (c ++ PySem.Str.ofString "\n").cps.toList = mend false (pre ++ [n]) := by
  rw [one_eq cr_is, decide_eq_true_eq] at h
  rw [mend_snoc, if_pos h, lf_is]
  show (c.cps ++ #[10]).toList = _
  rw [Array.toList_append, hc]
theorem mend_t2 {pre : List Nat} {n : Nat} {c : PySem.Str} (h : ((⟨#[n]⟩ : PySem.Str) == PySem.Str.ofString "\r") = false) (h2 : ((⟨#[n]⟩ : PySem.Str) != PySem.Str.ofString "\n") = true) (hc : c.cps.toList = mend false pre) : (c ++ ⟨#[n]⟩ : PySem.Str).cps.toList = mend false (pre ++ [n]) := by
  rw [one_eq cr_is, decide_eq_false_iff_not] at h
  rw [bne, one_eq lf_is, Bool.not_eq_true', decide_eq_false_iff_not] at h2
  rw [mend_snoc, if_neg h, if_neg (fun e => h2 e.1)]
  show (c.cps ++ #[n]).toList = _
  rw [Array.toList_append, hc]
theorem cr_flag {pre : List Nat} {d : PySem.Str} (hd : d.cps.toList = pre.getLast?.toList) : (d == PySem.Str.ofString "\r") = (pre.getLast?.map (fun c => decide (c = 13))).getD false := by
  cases hp : pre.getLast? with
  | none =>
    rw [hp] at hd
    refine beq_eq_false_iff_ne.mpr fun e => ?_
    rw [e, cr_is] at hd
    cases hd
  | some k =>
    rw [hp] at hd
    have e : d = ⟨#[k]⟩ := PySem.Str.ext' (Array.toList_inj.mp hd)
    rw [e, one_eq cr_is]; rfl
theorem mend_t3 {pre : List Nat} {n : Nat} {c d : PySem.Str} (h : ((⟨#[n]⟩ : PySem.Str) == PySem.Str.ofString "\r") = false) (h2 : (d != PySem.Str.ofString "\r") = true) (hd : d.cps.toList = pre.getLast?.toList) (hc : c.cps.toList = mend false pre) : (c ++ ⟨#[n]⟩ : PySem.Str).cps.toList = mend false (pre ++ [n]) := by
  rw [one_eq cr_is, decide_eq_false_iff_not] at h
  rw [bne, cr_flag hd, Bool.not_eq_true'] at h2
  rw [mend_snoc, if_neg h, if_neg (fun e => by rw [h2] at e; exact absurd e.2 (by decide))]
  show (c.cps ++ #[n]).toList = _
  rw [Array.toList_append, hc]
theorem mend_t4 {pre : List Nat} {n : Nat} {c d : PySem.Str} (h : ((⟨#[n]⟩ : PySem.Str) == PySem.Str.ofString "\r") = false) (h1 : ((⟨#[n]⟩ : PySem.Str) != PySem.Str.ofString "\n") = false) (h2 : (d != PySem.Str.ofString "\r") = false) (hd : d.cps.toList = pre.getLast?.toList) (hc : c.cps.toList = mend false pre) : c.cps.toList = mend false (pre ++ [n]) := by
  rw [one_eq cr_is, decide_eq_false_iff_not] at h
  rw [bne, one_eq lf_is, Bool.not_eq_false', decide_eq_true_eq] at h1
  rw [bne, cr_flag hd, Bool.not_eq_false'] at h2
  rw [mend_snoc, if_neg h, if_pos ⟨h1, h2⟩, hc, List.append_nil]
section
local macro_rules | `(tactic| walk_at "exec For Name Name cons nil") => `(tactic| (k_here; (rename Fr _ _ _ _ => lF'); (with_unfolding_all refine' For_invVF lF' ?k1 ?k2 ?_; (case k1 => exact rfl); (case k2 => exact rfl); k_whole)))
theorem mended_t {w : World} {x : PySem.Str} {tk : Nat} (hx : x.length ≤ 100000) :
    TellR w 3 30 (.ref 774) [.str x tk] [] (fun r f' rest => ∃ y t, r = .str y t ∧ y.cps.toList = mend false x.cps.toList ∧ f' = []) := by
  unfold TellR Tell KF PG
  k_fill
  intro rest off' mean mg mb dp un gd cn cs a ccd cl outer A₀ base h₀ L m s Q E B F X N T hk hd hu hret
  dsimp only [List.cons_append, List.nil_append] at N
  k_dflt ktr_enter
  k_steps
  (rename Fr _ _ _ _ => lF'); (rename News _ _ _ _ => lN')
  refine' str_loop (fun _ : PySem.Str × Nat × PySem.Str × Nat => []) rest (fun c => [(Str.ofString "mended", .str c.1 c.2.1), (Str.ofString "before", .str c.2.2.1 c.2.2.2)]) [] (fun pre c => c.1.cps.toList = mend false pre ∧ c.2.2.1.cps.toList = pre.getLast?.toList ∧ c.1.length ≤ pre.length) (Str.ofString "", _, Str.ofString "", _) rfl lF' lN' ?off ?ka ?kb ?turn ?done
  case off => tb_rel
  case ka => kst_all
  case kb => exact ⟨rfl, rfl, Nat.le_of_eq len_nil⟩
  case turn =>
    rintro ⟨c1, c2, c3, c4⟩ pre post nn t u h' tk' rest' hpre ⟨hP1, hP2, hP3⟩ off' sub' F' N'
    dsimp only [List.cons_append, List.nil_append] at N' F' hP1 hP2 hP3
    have hlx : pre.length < x.length := by
      have h9 := congrArg List.length hpre
      simp only [List.length_append, List.length_cons, Array.length_toList] at h9
      show _ < x.cps.size
      omega
    clear lF' lN'
    try k_fold
    k_steps
    all_goals (
      have hl1 : (⟨#[nn]⟩ : PySem.Str).length = 1 := rfl
      have hl2 : (pre ++ [nn]).length = pre.length + 1 := by simp
      have hl3 := nl_len
      refine ⟨(_, _, _, _), _, _, _, rfl, (by assumption), (by assumption), (by tb_rel), (by kst_all), (fun z h1 h2 h3 => by simp only [List.forall_mem_cons] at h2; simp [h1, h2, kstB]), ?_, by simp, ?_⟩
      · first
          | exact mend_t1 (by assumption) hP1
          | exact mend_t2 (by assumption) (by assumption) hP1
          | exact mend_t3 (by assumption) (by assumption) hP2 hP1
          | exact mend_t4 (by assumption) (by assumption) (by assumption) hP2 hP1
      · dsimp only; omega)
  case done =>
    rintro ⟨c1, c2, c3, c4⟩ u h' tk' ⟨hP1, hP2, hP3⟩ off' F' N'
    dsimp only [List.cons_append, List.nil_append] at N' F' hP1 hP2 hP3
    clear lF' lN'
    k_steps
    all_goals (refine hret _ _ _ _ (by assumption) (by assumption) ⟨_, ⟨_, _, rfl, hP1, rfl⟩, rfl⟩)
end
end Mine
theorem Mine.off_e2 {M : Model} {A : Around} {env : Env} {Q : Flow → Shared → Prop} {E : Value → Shared → Prop} {s : Shared} (h : wpAny M A (execs [] env) Q E s) : wpAny M A (execs [] env) Q E s := by
  (try (walk1; fail "no"))
  w_top off
  exact h
namespace Mine
local macro_rules | `(tactic| k_ne) => `(tactic| first | exact (show Nq _ _ by with_reducible assumption) | exact Ne.symm (show Nq _ _ by with_reducible assumption) | (refine neN ?_; (try dsimp only); omega))
local macro_rules | `(tactic| k_room) => `(tactic| ((try simp only [depth_under_make, depth_under_kw, depth_in1, depth_deeper, depth_caller, ktrTop, recursionLimit] at *); omega))
local macro_rules | `(tactic| k_units) => `(tactic| ((have hcL9 := cLine_is); (try simp only [units_in1, units_deeper, Around.mark_units, units_caller, ktrTop] at *); omega))
local macro_rules | `(tactic| ktr_enter) => `(tactic| (refine' code_def ?k1 ?k2 ?k3 ?k4 ?k5 ?kA ?kF ?kK ?k6 ?k7 ?k8 ?k9 ?kB ?_ ?c2 ?c3 ?c4 ?c5; (case kA => exact rfl); (case kF => exact rfl); (case kK => first | exact rfl | assumption); (case k1 => k_asm); (case k2 => k_asm); (case k3 => k_asm); (case k4 => k_asm); (case k5 => k_asm); (case k6 => k_is); (case k7 => k_is); (case k8 => k_room); (case k9 => first | exact BindsTo.of_eq rfl | exact binds_K (by k_in) rfl (by k_is) rfl rfl rfl); (case c5 => decide); (case kB => exact locs rfl); (case c2 => exact rfl); (case c3 => exact rfl); (case c4 => exact rfl); k_whole; intro g' L' h' FG' F' N' B' X' T'; (try dsimp only); (try k_fold)))
local macro_rules | `(tactic| k_all) => `(tactic| (with_reducible assumption))
local macro_rules | `(tactic| tb_lt) => `(tactic| first | exact Pick.head | (refine' Pick.tail ?c; (case c => tb_lt)))
local macro_rules | `(tactic| tb_start) => `(tactic| first | exact Picks.nil | (refine' Picks.cons ?a ?b; (case a => tb_lt); (case b => tb_start)))
local macro_rules | `(tactic| tb_rel) => `(tactic| first | exact List.forall_mem_nil _ | (refine' List.forall_mem_cons.mpr ⟨?a, ?b⟩; (case a => k_all); (case b => tb_rel)))
local macro_rules | `(tactic| walk_at "TPost") => `(tactic| (dsimp only [TPost]))
local macro_rules | `(tactic| size_fits) => `(tactic| ((simp only [PySem.sizeLine_eq, List.size_toArray]); omega))
local macro_rules | `(tactic| k_gentoks) => `(tactic| (with_reducible refine' gen_toksP ?hp ?_; (case hp => first | omega | ((try simp only [List.length_cons]); omega)); intro tk htk))
local macro_rules | `(tactic| kstt_sub) => `(tactic| first | exact fun _ h => h | assumption | (refine' subCons ?a ?b; (case a => k_mem); (case b => kstt_sub)) | (refine' subTail ?a; (case a => kstt_sub)))
local macro_rules | `(tactic| kst_all) => `(tactic| first | exact List.forall_mem_nil _ | (refine' List.forall_mem_cons.mpr ⟨?a, ?b⟩; (case a => exact rfl); (case b => kst_all)))
local macro_rules | `(tactic| walk_at "MidEnd") => `(tactic| first
  | ((with_reducible show MidEnd _ _ _ _ _ _ _ Flow.next _); (refine' ⟨(tk8 _ _ _ _ _ _ _ _, _), _, _, _, rfl, ?F, ?N, ?ps, ?P⟩); (case F => assumption); (case N => (refine' nsub ?N1 ?N2; (case N1 => assumption); (case N2 => kstt_sub))); (case ps => kst_all); (case P => k_extra "mid"))
  | ((fail_if_success (with_reducible show MidEnd _ _ _ _ _ _ _ Flow.next _)); dsimp only [MidEnd]))
local macro_rules | `(tactic| walk_at "WEnd") => `(tactic| ((fail_if_success (with_reducible show WEnd _ _ _ _ _ _ _ _ _ Flow.next _)); dsimp only [WEnd]))
local macro_rules | `(tactic| walk_at "callWith") => `(tactic| (k_here; (with_reducible refine' callWith_method1 ?_ ?he ?hp); (case he => k_dflt rfl); (case hp => k_dflt rfl)))
local macro_rules | `(tactic| k_steps) => `(tactic| repeat' (first | (k_unfold; (try dsimp only)) | (k_end; wrow_close) | walk1 | (dsimp only [List.cons_append, List.nil_append]; walk1) | (dsimp only) | fail "no step"))
theorem subTr2 {A B C : List (Addr × Obj)} (h1 : ∀ q ∈ A, q ∈ B) (h2 : ∀ q ∈ B, q ∈ C) : ∀ q ∈ A, q ∈ C := fun q hq => h2 q (h1 q hq)
theorem News.adr {h₀ h : Heap} {L : Addr} {a : Addr} {o : Obj} {r : List (Addr × Obj)} (_N : News h₀ L h ((a, o) :: r)) : ∃ b : Nat, b = a := ⟨a, rfl⟩
theorem News.addr2 {h₀ h : Heap} {L : Addr} {a b : Addr} {o p : Obj} {r : List (Addr × Obj)} (_N : News h₀ L h ((a, o) :: (b, p) :: r)) : ∃ c : Nat, c = b := ⟨b, rfl⟩
/-- the law's list of places -/
structure PlOK (pre : List Nat) (us : List Value) (tl : List (Addr × Obj)) : Prop where
  len : us.length = pre.length + 1
  all : ∀ k, k ≤ pre.length → ∃ (a t u : Nat), us[k]? = some (.ref a) ∧ (a, pairObj (lcL (pre.take k) + 1) (lcC 0 (pre.take k)) t u) ∈ tl
theorem PlOK.last {pre : List Nat} {us : List Value} {tl : List (Addr × Obj)} (h : PlOK pre us tl) : ∃ (a t u : Nat), us.toArray.back? = some (.ref a) ∧ (a, pairObj (lcL pre + 1) (lcC 0 pre) t u) ∈ tl := by
  obtain ⟨a, t, u, h1, h2⟩ := h.all pre.length (Nat.le_refl _)
  rw [List.take_length] at h2
  refine ⟨a, t, u, ?_, h2⟩
  have e : us.toArray.back? = us.getLast? := by simp
  rw [e, List.getLast?_eq_getElem?, h.len]
  exact h1
theorem PlOK.more {pre : List Nat} {us : List Value} {tl : List (Addr × Obj)} {n D t u : Nat} {x y : Int} (h : PlOK pre us tl) (hx : x = lcL (pre ++ [n]) + 1) (hy : y = lcC 0 (pre ++ [n])) : PlOK (pre ++ [n]) (us ++ [.ref D]) ((D, pairObj x y t u) :: tl) := by
  refine ⟨by simp [h.len], fun k hk => ?_⟩
  by_cases hk' : k ≤ pre.length
  · obtain ⟨a, t', u', h1, h2⟩ := h.all k hk'
    refine ⟨a, t', u', ?_, ?_⟩
    · rw [List.getElem?_append_left (by rw [h.len]; omega)]; exact h1
    · rw [List.take_append_of_le_length hk']
      exact .tail _ h2
  · have e : k = pre.length + 1 := by rw [List.length_append, List.length_singleton] at hk; omega
    subst e
    refine ⟨D, t, u, ?_, ?_⟩
    · rw [List.getElem?_append_right (by rw [h.len]; omega), h.len]; simp
    · rw [List.take_of_length_le (by simp), ← hx, ← hy]
      exact .head _
theorem lc_nl {pre : List Nat} {n : Nat} (h : ((⟨#[n]⟩ : PySem.Str) == PySem.Str.ofString "\n") = true) : lcL (pre ++ [n]) = lcL pre + 1 ∧ lcC 0 (pre ++ [n]) = 0 := by
  rw [one_eq lf_is, decide_eq_true_eq] at h
  subst h
  rw [lcL_app, lcC_app]
  exact ⟨rfl, rfl⟩
theorem lc_no {pre : List Nat} {n : Nat} (h : ((⟨#[n]⟩ : PySem.Str) == PySem.Str.ofString "\n") = false) : lcL (pre ++ [n]) = lcL pre ∧ lcC 0 (pre ++ [n]) = lcC 0 pre + 1 := by
  rw [one_eq lf_is, decide_eq_false_iff_not] at h
  rw [lcL_app, lcC_app]
  refine ⟨?_, ?_⟩
  · have : lcL [n] = 0 := by
      unfold lcL
      rw [List.count_singleton]
      simp [h]
    omega
  · show colS _ n = _
    unfold colS
    rw [if_neg h]
theorem PlOK.nl {pre : List Nat} {us : List Value} {tl : List (Addr × Obj)} {n D t u : Nat} (h : PlOK pre us tl) (hn : ((⟨#[n]⟩ : PySem.Str) == PySem.Str.ofString "\n") = true) : PlOK (pre ++ [n]) (us ++ [.ref D]) ((D, pairObj (lcL pre + 1 + 1) 0 t u) :: tl) := by
  obtain ⟨e1, e2⟩ := lc_nl (pre := pre) hn
  exact h.more (by rw [e1]) (by rw [e2])
theorem PlOK.no {pre : List Nat} {us : List Value} {tl : List (Addr × Obj)} {n D t u : Nat} (h : PlOK pre us tl) (hn : ((⟨#[n]⟩ : PySem.Str) == PySem.Str.ofString "\n") = false) : PlOK (pre ++ [n]) (us ++ [.ref D]) ((D, pairObj (lcL pre + 1) (lcC 0 pre + 1) t u) :: tl) := by
  obtain ⟨e1, e2⟩ := lc_no (pre := pre) hn
  exact h.more (by rw [e1]) (by rw [e2])
section
local macro_rules | `(tactic| walk_at "exec For Name Name cons nil") => `(tactic| (k_here; (rename Fr _ _ _ _ => lF'); (with_unfolding_all refine' For_invVF lF' ?k1 ?k2 ?_; (case k1 => exact rfl); (case k2 => exact rfl); k_whole)))
local macro_rules | `(tactic| walk_at "subscriptTail") => `(tactic| (k_here; (with_reducible show wpAny _ _ (subscriptTail _ _ (Value.ref _) (Value.int _ _)) _ _ _); k_dflt (refine' item_last_t ?N ?hm ?hv ?_; (case N => assumption); (case hm => k_mem); (case hv => assumption))))
theorem places_t {w : World} {x : PySem.Str} {tk : Nat} (hx : x.length ≤ 100000) :
    TellR w 3 30 (.ref 781) [.str x tk] [] (fun r f' rest => ∃ (pa ep : Nat) (us : List Value) (tl : List (Addr × Obj)), r = .ref pa ∧ PlOK x.cps.toList us tl ∧ f' = (pa, W.listOf us.toArray ep) :: tl) := by
  unfold TellR Tell KF PG
  k_fill
  intro rest off' mean mg mb dp un gd cn cs a ccd cl outer A₀ base h₀ L m s Q E B F X N T hk hd hu hret
  dsimp only [List.cons_append, List.nil_append] at N
  k_dflt ktr_enter
  k_steps
  (rename Fr _ _ _ _ => lF'); (rename News _ _ _ _ => lN')
  obtain ⟨pa, epa⟩ := News.adr lN'
  obtain ⟨D9, eD9⟩ := News.addr2 lN'
  subst epa
  subst eD9
  (rename D9 < _ ∧ _ => hl9)
  (rename ∀ p ∈ rest, p.1 < _ => hl8)
  have hb0 := tbn_neAll hl9.2
  refine' str_loop (fun c : List Value × Nat × List (Addr × Obj) => (pa, W.listOf c.1.toArray c.2.1) :: c.2.2) rest (fun _ => [(Str.ofString "places", .ref pa)]) [Str.ofString "line", Str.ofString "column"] (fun pre c => PlOK pre c.1 c.2.2 ∧ (∀ p ∈ c.2.2, p.1 ≠ pa)) ([.ref D9], 0, [(D9, pairObj 1 0 _ _)]) rfl lF' ?N ?off ?ka ?kb ?turn ?done
  case N =>
    refine' nsub lN' ?N2
    case N2 =>
      dsimp only [List.cons_append, List.nil_append]
      kstt_sub
  case off =>
    dsimp only
    refine List.forall_mem_cons.mpr ⟨hb0, List.forall_mem_cons.mpr ⟨fun p hp => Nat.ne_of_lt (hl8 p hp), List.forall_mem_nil _⟩⟩
  case ka => kst_all
  case kb =>
    refine ⟨⟨rfl, fun k hk => ?_⟩, List.forall_mem_cons.mpr ⟨Nat.ne_of_lt hl9.1, List.forall_mem_nil _⟩⟩
    have e : k = 0 := Nat.le_zero.mp hk
    subst e
    exact ⟨D9, _, _, rfl, .head _⟩
  case turn =>
    rintro ⟨us, ep, tl⟩ pre post nn t u h' tk' rest' hpre ⟨hP1, hP2⟩ off' sub' F' N'
    dsimp only [List.cons_append, List.nil_append] at N' F' hP1 hP2 off'
    have hlx : pre.length < x.length := by
      have h9 := congrArg List.length hpre
      simp only [List.length_append, List.length_cons, Array.length_toList] at h9
      show _ < x.cps.size
      omega
    have hul := hP1.len
    obtain ⟨a, t1, u1, hb, hm⟩ := hP1.last
    obtain ⟨R, eR⟩ : ∃ R, R = tl ++ rest' := ⟨_, rfl⟩
    rw [← eR] at N'
    have hpa := off' _ (.head _)
    dsimp only at hpa
    have hRpa : ∀ p ∈ R, p.1 ≠ pa := fun p hp => by
      rw [eR] at hp
      exact (List.mem_append.mp hp).elim (hP2 p) (hpa p)
    have hmR : (a, pairObj (lcL pre + 1) (lcC 0 pre) t1 u1) ∈ R := eR ▸ List.mem_append_left _ hm
    have dpa : Nq a pa := hP2 _ hm
    have N2 := ncons (p := (a, pairObj (lcL pre + 1) (lcC 0 pre) t1 u1)) N' (.tail _ hmR)
    clear lF' lN' N'
    try k_fold
    k_steps
    all_goals (
      (rename News _ _ _ _ => n9)
      (rename a < _ ∧ _ => ld)
      obtain ⟨D2, eD2⟩ := News.adr n9
      subst eD2
      have hDR := tbn_neAll ld.2.2
      have hDpa : D2 ≠ pa := Nat.ne_of_gt ld.2.1
      (try simp only [List.push_toArray] at n9)
      refine' ⟨(us ++ [.ref D2], ep + 1, (D2, pairObj _ _ _ _) :: tl), _, _, _, rfl, (by assumption), ?Nt, ?oft, (by kst_all), (fun z h1 h2 h3 => by simp only [List.forall_mem_cons] at h2; simp only [List.contains_cons, Bool.or_eq_false_iff, beq_eq_false_iff_ne] at h3; simp [h1, h2, h3, kstB]), ?P1t, ?P2t⟩
      case Nt => refine nsub n9 (subCons (by k_mem) (subCons (by k_mem) (subTr2 (B := R) (fun q hq => by rw [eR]; exact hq) (by kstt_sub))))
      case oft => refine List.forall_mem_cons.mpr ⟨hpa, List.forall_mem_cons.mpr ⟨fun p hp => hDR p (eR ▸ List.mem_append_right _ hp), fun q hq => off' q (.tail _ hq)⟩⟩
      case P1t => first | exact hP1.nl (by assumption) | exact hP1.no (by assumption)
      case P2t => exact List.forall_mem_cons.mpr ⟨hDpa, hP2⟩)
  case done =>
    rintro ⟨us, ep, tl⟩ u h' tk' ⟨hP1, hP2⟩ off' F' N'
    dsimp only [List.cons_append, List.nil_append] at N' F' hP1 hP2 off'
    clear lF' lN'
    k_steps
    exact hret _ _ _ _ (by assumption) (by assumption) ⟨_, ⟨pa, ep, us, tl, rfl, hP1, rfl⟩, rfl⟩
end
end Mine
theorem Mine.off_c20a {M : Model} {A : Around} {env : Env} {Q : Flow → Shared → Prop} {E : Value → Shared → Prop} {s : Shared} (h : wpAny M A (execs [] env) Q E s) : wpAny M A (execs [] env) Q E s := by
  (try (walk1; fail "no"))
  w_top off
  exact h
namespace Mine
local macro_rules | `(tactic| k_ne) => `(tactic| first | exact (show Nq _ _ by with_reducible assumption) | exact Ne.symm (show Nq _ _ by with_reducible assumption) | (refine neN ?_; (try dsimp only); omega))
local macro_rules | `(tactic| k_room) => `(tactic| ((try simp only [depth_under_make, depth_under_kw, depth_in1, depth_deeper, depth_caller, ktrTop, recursionLimit] at *); omega))
local macro_rules | `(tactic| k_units) => `(tactic| ((have hcL9 := cLine_is); (try simp only [units_in1, units_deeper, Around.mark_units, units_caller, ktrTop] at *); omega))
local macro_rules | `(tactic| ktr_enter) => `(tactic| (refine' code_def ?k1 ?k2 ?k3 ?k4 ?k5 ?kA ?kF ?kK ?k6 ?k7 ?k8 ?k9 ?kB ?_ ?c2 ?c3 ?c4 ?c5; (case kA => exact rfl); (case kF => exact rfl); (case kK => first | exact rfl | assumption); (case k1 => k_asm); (case k2 => k_asm); (case k3 => k_asm); (case k4 => k_asm); (case k5 => k_asm); (case k6 => k_is); (case k7 => k_is); (case k8 => k_room); (case k9 => first | exact BindsTo.of_eq rfl | exact binds_K (by k_in) rfl (by k_is) rfl rfl rfl); (case c5 => decide); (case kB => exact locs rfl); (case c2 => exact rfl); (case c3 => exact rfl); (case c4 => exact rfl); k_whole; intro g' L' h' FG' F' N' B' X' T'; (try dsimp only); (try k_fold)))
local macro_rules | `(tactic| k_all) => `(tactic| (with_reducible assumption))
local macro_rules | `(tactic| tb_lt) => `(tactic| first | exact Pick.head | (refine' Pick.tail ?c; (case c => tb_lt)))
local macro_rules | `(tactic| tb_start) => `(tactic| first | exact Picks.nil | (refine' Picks.cons ?a ?b; (case a => tb_lt); (case b => tb_start)))
local macro_rules | `(tactic| tb_rel) => `(tactic| first | exact List.forall_mem_nil _ | (refine' List.forall_mem_cons.mpr ⟨?a, ?b⟩; (case a => k_all); (case b => tb_rel)))
local macro_rules | `(tactic| walk_at "TPost") => `(tactic| (dsimp only [TPost]))
local macro_rules | `(tactic| size_fits) => `(tactic| ((simp only [PySem.sizeLine_eq, List.size_toArray]); omega))
local macro_rules | `(tactic| k_gentoks) => `(tactic| (with_reducible refine' gen_toksP ?hp ?_; (case hp => first | omega | ((try simp only [List.length_cons]); omega)); intro tk htk))
local macro_rules | `(tactic| kstt_sub) => `(tactic| first | exact fun _ h => h | assumption | (refine' subCons ?a ?b; (case a => k_mem); (case b => kstt_sub)) | (refine' subTail ?a; (case a => kstt_sub)))
local macro_rules | `(tactic| kst_all) => `(tactic| first | exact List.forall_mem_nil _ | (refine' List.forall_mem_cons.mpr ⟨?a, ?b⟩; (case a => exact rfl); (case b => kst_all)))
local macro_rules | `(tactic| walk_at "MidEnd") => `(tactic| first
  | ((with_reducible show MidEnd _ _ _ _ _ _ _ Flow.next _); (refine' ⟨(tk8 _ _ _ _ _ _ _ _, _), _, _, _, rfl, ?F, ?N, ?ps, ?P⟩); (case F => assumption); (case N => (refine' nsub ?N1 ?N2; (case N1 => assumption); (case N2 => kstt_sub))); (case ps => kst_all); (case P => k_extra "mid"))
  | ((fail_if_success (with_reducible show MidEnd _ _ _ _ _ _ _ Flow.next _)); dsimp only [MidEnd]))
local macro_rules | `(tactic| walk_at "WEnd") => `(tactic| ((fail_if_success (with_reducible show WEnd _ _ _ _ _ _ _ _ _ Flow.next _)); dsimp only [WEnd]))
local macro_rules | `(tactic| walk_at "callWith") => `(tactic| (k_here; (with_reducible refine' callWith_method1 ?_ ?he ?hp); (case he => k_dflt rfl); (case hp => k_dflt rfl)))
local macro_rules | `(tactic| k_steps) => `(tactic| repeat' (first | (k_unfold; (try dsimp only)) | (k_end; wrow_close) | walk1 | (dsimp only [List.cons_append, List.nil_append]; walk1) | (dsimp only) | fail "no step"))
structure MKS where
  S : SS
  bv : Value
  vs : List Value
  ep : Nat
  us : List Value
  l : List Nat
  uep : Nat
  t : Nat → Nat
structure MKP (S₀ : SS) (c : MKS) : Prop where
  hv : Errs c.vs c.S.n
  hb : BfV c.S.bo c.bv
  hw : WF c.S
  hs : StrsAre c.us (c.l.map fun ch => (⟨#[ch]⟩ : PySem.Str))
  hG : Got S₀ c.S c.l
abbrev mkF (w : World) (cs sx sd tx td ra el nl : Nat) (κ κ' : Nat → Nat) (c : MKS) : List (Addr × Obj) :=
  [(cs, W.listOf c.us.toArray c.uep), (sx, instObj 166 sd), (sd, sdD w κ ra nl tx el c.S.c c.S.c.length c.S.o c.S.pl c.S.pc c.bv (c.t 0) (c.t 1) (c.t 2) (c.t 3) (c.t 4)), (tx, instObj 73 td), (td, txD w κ' c.S.T c.S.p (c.t 5) (c.t 6)), (ra, methodObj (.ref 148) (.ref sx)), (el, W.listOf c.vs.toArray c.ep)]
theorem chs_one {c t : Nat} : StrsAre [Value.str ⟨#[c]⟩ t] (([c] : List Nat).map fun ch => (⟨#[ch]⟩ : PySem.Str)) := .cons _ _ .nil
theorem dash_is : PySem.Str.ofString "-" = ⟨#[45]⟩ := by decide +kernel
theorem dD_is : [PySem.Str.ofString "d", PySem.Str.ofString "D"] = [⟨#[100]⟩, ⟨#[68]⟩] := by decide +kernel
theorem any2 {a b c : Nat} : (([⟨#[a]⟩, ⟨#[b]⟩] : List PySem.Str).any fun x => x == ⟨#[c]⟩) = (decide (a = c) || decide (b = c)) := by
  rw [List.any_cons, List.any_cons, List.any_nil, one_eq rfl, one_eq rfl, Bool.or_false]
theorem dash_y {c : Nat} (h : ((⟨#[c]⟩ : PySem.Str) == PySem.Str.ofString "-") = true) : c = 45 := by rwa [one_eq dash_is, decide_eq_true_eq] at h
theorem dash_n {c : Nat} (h : ((⟨#[c]⟩ : PySem.Str) == PySem.Str.ofString "-") = false) : c ≠ 45 := by rwa [one_eq dash_is, decide_eq_false_iff_not] at h
theorem dD_y {c : Nat} (h : ([PySem.Str.ofString "d", PySem.Str.ofString "D"].any fun x => x == ⟨#[c]⟩) = true) : c = 100 ∨ c = 68 := by
  rw [dD_is, any2, Bool.or_eq_true, decide_eq_true_eq, decide_eq_true_eq] at h
  omega
theorem dD_n {c : Nat} (h : ([PySem.Str.ofString "d", PySem.Str.ofString "D"].any fun x => x == ⟨#[c]⟩) = false) : c ≠ 100 ∧ c ≠ 68 := by
  rw [dD_is, any2, Bool.or_eq_false_iff, decide_eq_false_iff_not, decide_eq_false_iff_not] at h
  omega
abbrev pairS (a : PySem.Str) (t : Nat) (b : PySem.Str) (u : Nat) : Obj := { cls := .type "tuple", data := .seq #[.str a t, .str b u] 0 }
def DPs : List (PySem.Str × PySem.Str) := [(PySem.Str.ofString "o", PySem.Str.ofString "O"), (PySem.Str.ofString "c", PySem.Str.ofString "C"), (PySem.Str.ofString "t", PySem.Str.ofString "T"), (PySem.Str.ofString "y", PySem.Str.ofString "Y"), (PySem.Str.ofString "p", PySem.Str.ofString "P"), (PySem.Str.ofString "e", PySem.Str.ofString "E")]
theorem DPs_is : ∀ i, i < 6 → ∃ a b d, DPs[i]? = some (a, b) ∧ docW[i + 1]? = some d ∧ a = ⟨#[d]⟩ ∧ b = ⟨#[d - 32]⟩ ∧ 97 ≤ d ∧ d ≤ 122 := by
  intro i hi
  have h : ∀ i : Fin 6, ∃ a b d, DPs[i.val]? = some (a, b) ∧ docW[i.val + 1]? = some d ∧ a = ⟨#[d]⟩ ∧ b = ⟨#[d - 32]⟩ ∧ 97 ≤ d ∧ d ≤ 122 := by
    intro i
    match i with
    | 0 => exact ⟨_, _, _, rfl, rfl, by decide +kernel, by decide +kernel, by decide, by decide⟩
    | 1 => exact ⟨_, _, _, rfl, rfl, by decide +kernel, by decide +kernel, by decide, by decide⟩
    | 2 => exact ⟨_, _, _, rfl, rfl, by decide +kernel, by decide +kernel, by decide, by decide⟩
    | 3 => exact ⟨_, _, _, rfl, rfl, by decide +kernel, by decide +kernel, by decide, by decide⟩
    | 4 => exact ⟨_, _, _, rfl, rfl, by decide +kernel, by decide +kernel, by decide, by decide⟩
    | 5 => exact ⟨_, _, _, rfl, rfl, by decide +kernel, by decide +kernel, by decide, by decide⟩
  exact h ⟨i, hi⟩
theorem doc_prep {h₀ h : Heap} {L D0 a1 a2 a3 a4 a5 a6 t1 t2 t3 t4 t5 t6 u1 u2 u3 u4 u5 u6 : Nat} {r : List (Addr × Obj)}
    (_N : News h₀ L h ((D0, ({ cls := .type "tuple", data := .seq #[Value.ref a1, Value.ref a2, Value.ref a3, Value.ref a4, Value.ref a5, Value.ref a6] 0 } : Obj)) :: (a6, pairS (PySem.Str.ofString "e") t6 (PySem.Str.ofString "E") u6) :: (a5, pairS (PySem.Str.ofString "p") t5 (PySem.Str.ofString "P") u5) :: (a4, pairS (PySem.Str.ofString "y") t4 (PySem.Str.ofString "Y") u4) :: (a3, pairS (PySem.Str.ofString "t") t3 (PySem.Str.ofString "T") u3) :: (a2, pairS (PySem.Str.ofString "c") t2 (PySem.Str.ofString "C") u2) :: (a1, pairS (PySem.Str.ofString "o") t1 (PySem.Str.ofString "O") u1) :: r)) :
    ∃ (D : Addr) (T : Obj) (vs : List Value) (R0 : List (Addr × Obj)), D = D0 ∧ T.cls = .type "tuple" ∧ T.data = .seq vs.toArray 0 ∧ (D, T) ∈ R0 ∧ vs.length = 6 ∧
      (∀ (i : Nat) (v : Value), vs[i]? = some v → ∃ (d ta tb : Nat) (p : PySem.Str × PySem.Str), v = Value.ref d ∧ DPs[i]? = some p ∧ (d, pairS p.1 ta p.2 tb) ∈ R0) ∧
      R0 = [(D0, ({ cls := .type "tuple", data := .seq #[Value.ref a1, Value.ref a2, Value.ref a3, Value.ref a4, Value.ref a5, Value.ref a6] 0 } : Obj)), (a6, pairS (PySem.Str.ofString "e") t6 (PySem.Str.ofString "E") u6), (a5, pairS (PySem.Str.ofString "p") t5 (PySem.Str.ofString "P") u5), (a4, pairS (PySem.Str.ofString "y") t4 (PySem.Str.ofString "Y") u4), (a3, pairS (PySem.Str.ofString "t") t3 (PySem.Str.ofString "T") u3), (a2, pairS (PySem.Str.ofString "c") t2 (PySem.Str.ofString "C") u2), (a1, pairS (PySem.Str.ofString "o") t1 (PySem.Str.ofString "O") u1)] := by
  refine ⟨D0, _, [Value.ref a1, Value.ref a2, Value.ref a3, Value.ref a4, Value.ref a5, Value.ref a6], _, rfl, rfl, rfl, .head _, rfl, ?_, rfl⟩
  intro i v h
  rcases i with _ | _ | _ | _ | _ | _ | n
  · exact ⟨a1, t1, u1, _, (Option.some.inj h).symm, rfl, by simp⟩
  · exact ⟨a2, t2, u2, _, (Option.some.inj h).symm, rfl, by simp⟩
  · exact ⟨a3, t3, u3, _, (Option.some.inj h).symm, rfl, by simp⟩
  · exact ⟨a4, t4, u4, _, (Option.some.inj h).symm, rfl, by simp⟩
  · exact ⟨a5, t5, u5, _, (Option.some.inj h).symm, rfl, by simp⟩
  · exact ⟨a6, t6, u6, _, (Option.some.inj h).symm, rfl, by simp⟩
  · exact absurd h (by simp)
theorem strs_snoc : ∀ {l : List PySem.Str} {us : List Value} {x : PySem.Str}, StrsAre us (l ++ [x]) → ∃ us0 t, us = us0 ++ [.str x t] ∧ StrsAre us0 l
  | [], _, _, h => by
    cases h with
    | cons y t h => cases h; exact ⟨[], t, rfl, .nil⟩
  | a :: l, us, x, h => by
    have h' : StrsAre us (a :: (l ++ [x])) := h
    cases h' with
    | cons y t h =>
      obtain ⟨us0, t', e, h'⟩ := strs_snoc h
      exact ⟨.str a t :: us0, t', by rw [e]; rfl, .cons _ _ h'⟩
/-- while the signs go back -/
structure MKB (S₀ : SS) (c : MKS) : Prop where
  hv : Errs c.vs c.S.n
  hb : BfV c.S.bo c.bv
  hw : WF c.S
  hs : StrsAre c.us (c.l.map fun ch => (⟨#[ch]⟩ : PySem.Str))
  app : c.l ++ rem c.S = rem S₀
  tot : tot c.S = tot S₀
  suf : Suf c.S c.l
  one : Pos1 S₀ [] → Pos1 c.S c.l
  len : c.S.c.length + c.l.length ≤ 10020
theorem MKB.of {S₀ : SS} {c : MKS} (h : MKP S₀ c) (hl : c.l.length ≤ 7) (hc : S₀.c.length ≤ 10001) (hs : Suf S₀ []) : MKB S₀ c :=
  ⟨h.hv, h.hb, h.hw, h.hs, h.hG.app.symm, h.hG.tot, h.hG.suf [] hs, fun h1 => h.hG.one [] h1, by have := h.hG.len hc; omega⟩
theorem MKB.back {S₀ S : SS} {bv : Value} {vs us us' : List Value} {ep ep' uep uep' : Nat} {l : List Nat} {ch : Nat} {t t' : Nat → Nat} (h : MKB S₀ ⟨S, bv, vs, ep, us, l ++ [ch], uep, t⟩) (hs : StrsAre us' (l.map fun ch => (⟨#[ch]⟩ : PySem.Str))) :
    MKB S₀ ⟨ugS ch S, bv, vs, ep', us', l, uep', t'⟩ := by
  have hlen := h.len
  dsimp only at hlen
  rw [List.length_append, List.length_singleton] at hlen
  have hc : S.c.length ≤ 19999 := by omega
  have hw1 : WF S := h.hw
  have hs1 : Suf S (l ++ [ch]) := h.suf
  obtain ⟨w1, w2, w3⟩ := ugS_rem hw1 (fun h0 => hs1.last hw1 h0) hc
  obtain ⟨m1, m2, m3, m4⟩ := ugS_more hw1 hs1
  have hn : (ugS ch S).n = S.n := rfl
  have hbo : (ugS ch S).bo = S.bo := rfl
  refine ⟨hn ▸ h.hv, hbo ▸ h.hb, w1, hs, ?_, w2.trans h.tot, m1, fun h1 => (h.one h1).back h.hw, ?_⟩
  · show l ++ rem (ugS ch S) = _
    rw [w3, ← h.app]
    show l ++ ch :: rem S = (l ++ [ch]) ++ rem S
    simp
  · show (ugS ch S).c.length + l.length ≤ _
    omega
theorem lw_pair {c d : Nat} (h1 : 97 ≤ d) (h2 : d ≤ 122) (h : (([⟨#[d]⟩, ⟨#[d - 32]⟩] : List PySem.Str).any fun x => x == ⟨#[c]⟩) = true) : lw c = d := by
  rw [any2, Bool.or_eq_true, decide_eq_true_eq, decide_eq_true_eq] at h
  unfold lw
  split <;> omega
theorem lw_nopair {c d : Nat} (h1 : 97 ≤ d) (h : (([⟨#[d]⟩, ⟨#[d - 32]⟩] : List PySem.Str).any fun x => x == ⟨#[c]⟩) = false) : c ≠ d ∧ c + 32 ≠ d := by
  rw [any2, Bool.or_eq_false_iff, decide_eq_false_iff_not, decide_eq_false_iff_not] at h
  omega
theorem subApp {A B C : List (Addr × Obj)} (h1 : ∀ q ∈ A, q ∈ C) (h2 : ∀ q ∈ B, q ∈ C) : ∀ q ∈ A ++ B, q ∈ C := fun q hq => (List.mem_append.mp hq).elim (h1 q) (h2 q)
theorem subTr {A B C : List (Addr × Obj)} (h1 : ∀ q ∈ A, q ∈ B) (h2 : ∀ q ∈ B, q ∈ C) : ∀ q ∈ A, q ∈ C := fun q hq => h2 q (h1 q hq)
def Hid (p : Prop) : Prop := p
theorem unget_g {w : World} {sx sd tx ra el nl : Nat} {κ : Nat → Nat} {τ₀ τ₁ τ₂ τ₃ τ₄ : Nat} {S : SS} {bf : Value} {ch tk : Nat} {d : List Nat}
    (hw : WF S) (hs : Suf S (d ++ [ch])) (hl : S.c.length ≤ 19999) (hne : sx ≠ sd) :
    TellR w 1 8 (.ref 163) [.ref sx, .str ⟨#[ch]⟩ tk] [(sx, instObj 166 sd), (sd, sdD w κ ra nl tx el S.c S.c.length S.o S.pl S.pc bf τ₀ τ₁ τ₂ τ₃ τ₄)]
      (fun r f' rest => ∃ a0 a1 a2 a3 a4, r = .none ∧ f' = [(sx, instObj 166 sd), (sd, sdD w κ ra nl tx el (ugS ch S).c (ugS ch S).c.length (ugS ch S).o (ugS ch S).pl (ugS ch S).pc bf a0 a1 a2 a3 a4)]) :=
  unget_s (td := 0) (κ' := fun _ => 0) (σ₀ := 0) (σ₁ := 0) (vs := []) (ep := 0) hw hs hl hne
theorem back_push {us : List Value} {v : Value} : (us.toArray.push v).back? = some v := by simp
theorem back_snoc {us : List Value} {v : Value} : (us ++ [v]).toArray.back? = some v := by simp
theorem doc_no_x {i d c : Nat} (h : docW[i]? = some d) (hc : lw c = d) : c ≠ 120 := fun e => by
  have hm := List.mem_of_getElem? h
  rw [← hc, e] at hm
  exact absurd hm (by decide)
theorem strs_one {us : List Value} {l : List Nat} {c t : Nat} (h : StrsAre us (l.map fun ch => (⟨#[ch]⟩ : PySem.Str))) : StrsAre (us ++ [.str ⟨#[c]⟩ t]) ((l ++ [c]).map fun ch => (⟨#[ch]⟩ : PySem.Str)) := by
  rw [List.map_append]
  exact h.append' (.cons _ _ .nil)
theorem Got.name {S S' : SS} {l : List Nat} {c : Nat} (_h : Got S S' (l ++ [c])) : ∃ d, d = c := ⟨c, rfl⟩
end Mine
theorem Mine.off_c20 {M : Model} {A : Around} {env : Env} {Q : Flow → Shared → Prop} {E : Value → Shared → Prop} {s : Shared} (h : wpAny M A (execs [] env) Q E s) : wpAny M A (execs [] env) Q E s := by
  (try (walk1; fail "no"))
  w_top off
  exact h
namespace Mine
local macro_rules | `(tactic| k_ne) => `(tactic| first | exact (show Nq _ _ by with_reducible assumption) | exact Ne.symm (show Nq _ _ by with_reducible assumption) | (refine neN ?_; (try dsimp only); omega))
local macro_rules | `(tactic| k_room) => `(tactic| ((try simp only [depth_under_make, depth_under_kw, depth_in1, depth_deeper, depth_caller, ktrTop, recursionLimit] at *); omega))
local macro_rules | `(tactic| k_units) => `(tactic| ((have hcL9 := cLine_is); (try simp only [units_in1, units_deeper, Around.mark_units, units_caller, ktrTop] at *); omega))
local macro_rules | `(tactic| ktr_enter) => `(tactic| (refine' code_def ?k1 ?k2 ?k3 ?k4 ?k5 ?kA ?kF ?kK ?k6 ?k7 ?k8 ?k9 ?kB ?_ ?c2 ?c3 ?c4 ?c5; (case kA => exact rfl); (case kF => exact rfl); (case kK => first | exact rfl | assumption); (case k1 => k_asm); (case k2 => k_asm); (case k3 => k_asm); (case k4 => k_asm); (case k5 => k_asm); (case k6 => k_is); (case k7 => k_is); (case k8 => k_room); (case k9 => first | exact BindsTo.of_eq rfl | exact binds_K (by k_in) rfl (by k_is) rfl rfl rfl); (case c5 => decide); (case kB => exact locs rfl); (case c2 => exact rfl); (case c3 => exact rfl); (case c4 => exact rfl); k_whole; intro g' L' h' FG' F' N' B' X' T'; (try dsimp only); (try k_fold)))
local macro_rules | `(tactic| k_all) => `(tactic| (with_reducible assumption))
local macro_rules | `(tactic| tb_lt) => `(tactic| first | exact Pick.head | (refine' Pick.tail ?c; (case c => tb_lt)))
local macro_rules | `(tactic| tb_start) => `(tactic| first | exact Picks.nil | (refine' Picks.cons ?a ?b; (case a => tb_lt); (case b => tb_start)))
local macro_rules | `(tactic| tb_rel) => `(tactic| first | exact List.forall_mem_nil _ | (refine' List.forall_mem_cons.mpr ⟨?a, ?b⟩; (case a => k_all); (case b => tb_rel)))
local macro_rules | `(tactic| walk_at "TPost") => `(tactic| (dsimp only [TPost]))
local macro_rules | `(tactic| size_fits) => `(tactic| ((simp only [PySem.sizeLine_eq, List.size_toArray]); omega))
local macro_rules | `(tactic| k_gentoks) => `(tactic| (with_reducible refine' gen_toksP ?hp ?_; (case hp => first | omega | ((try simp only [List.length_cons]); omega)); intro tk htk))
local macro_rules | `(tactic| kstt_sub) => `(tactic| first | exact fun _ h => h | assumption | (refine' subCons ?a ?b; (case a => k_mem); (case b => kstt_sub)) | (refine' subTail ?a; (case a => kstt_sub)))
local macro_rules | `(tactic| kst_all) => `(tactic| first | exact List.forall_mem_nil _ | (refine' List.forall_mem_cons.mpr ⟨?a, ?b⟩; (case a => exact rfl); (case b => kst_all)))
local macro_rules | `(tactic| walk_at "MidEnd") => `(tactic| first
  | ((with_reducible show MidEnd _ _ _ _ _ _ _ Flow.next _); (refine' ⟨(tk8 _ _ _ _ _ _ _ _, _), _, _, _, rfl, ?F, ?N, ?ps, ?P⟩); (case F => assumption); (case N => (refine' nsub ?N1 ?N2; (case N1 => assumption); (case N2 => kstt_sub))); (case ps => kst_all); (case P => k_extra "mid"))
  | ((fail_if_success (with_reducible show MidEnd _ _ _ _ _ _ _ Flow.next _)); dsimp only [MidEnd]))
local macro_rules | `(tactic| walk_at "WEnd") => `(tactic| ((fail_if_success (with_reducible show WEnd _ _ _ _ _ _ _ _ _ Flow.next _)); dsimp only [WEnd]))
local macro_rules | `(tactic| walk_at "callWith") => `(tactic| (k_here; (with_reducible refine' callWith_method1 ?_ ?he ?hp); (case he => k_dflt rfl); (case hp => k_dflt rfl)))
local macro_rules | `(tactic| k_steps) => `(tactic| repeat' (first | (k_unfold; (try dsimp only)) | (k_end; wrow_close) | walk1 | (dsimp only [List.cons_append, List.nil_append]; walk1) | (dsimp only) | fail "no step"))
section
local macro_rules | `(tactic| kpa_ne) => `(tactic| first | with_reducible assumption | k_extra "go")
local macro_rules | `(tactic| kpa_room) => `(tactic| first | with_reducible assumption | (refine List.forall_mem_cons.mpr ⟨?a, ?b⟩; (case a => (dsimp only; first | with_reducible assumption | k_ne)); (case b => kpa_room)))
local macro_rules | `(tactic| kpa_letter) => `(tactic| first | exact List.forall_mem_nil _ | (refine' List.forall_mem_cons.mpr ⟨?a, ?b⟩; (case a => kpa_room); (case b => kpa_letter)))
local macro_rules | `(tactic| walk_at "call ref") => `(tactic| (k_here; k_dflt (refine' TellR.use (char_go ?a0 ?a1 ?a2 ?a3 ?a4 ?a5) ?k1 ?k2 ?k3 ?k4 ?k5 ?kK ?kp ?ko ?kd ?ku ?k0 ?_; (case k1 => k_asm); (case k2 => k_asm); (case k3 => k_asm); (case k4 => k_asm); (case k5 => k_asm); (case kK => first | exact rfl | assumption); (case kp => tb_start); (case ko => tb_rel); (case a0 => kpa_ne); (case a1 => with_reducible assumption); (case a2 => with_reducible assumption); (case a3 => with_reducible assumption); (case a4 => with_reducible assumption); (case a5 => with_reducible assumption); (case kd => k_room); (case ku => k_units); (case k0 => first | exact (show 1 ≤ _ by (try dsimp only); omega) | exact Nat.zero_le _); intro r9 f9 h9 tk9 p9 F9 N9 hP9; obtain ⟨S2, a0, a1, a2, a3, a4, b0, b1, bv2, vs2, ep2, ch2, t2, e1, hgo2, hw2, hG2, hb2, hv2, e2⟩ := hP9; subst e1; subst e2; dsimp only [stS, stL, List.cons_append, List.nil_append] at N9; (try dsimp only [List.nil_append, List.cons_append] at N9); (try k_fold))))
local macro_rules | `(tactic| walk_at "exec For Name Tuple cons nil") => `(tactic| (k_here; k_dflt (refine' For_invVF ?F ?k1 ?k2 ?_ ?k3 ?k4; (case F => assumption); (case k1 => exact rfl); (case k2 => exact rfl); (case k3 => (intro _; exact rfl)); (case k4 => first | passes_own | with_unfolding_all passes_own))))
local macro_rules | `(tactic| walk_at "truthy ref") => `(tactic| (k_here; k_dflt (refine' truthy_snoc ?N ?hm ?hz ?_; (case N => assumption); (case hm => k_mem); (case hz => k_extra "tz"))))
local macro_rules | `(tactic| walk_at "call builtin:list.pop") => `(tactic| (k_here; (with_reducible show wpAny _ _ (call (Value.builtin _) [Value.ref _]) _ _ _); k_dflt (refine' pop_made ?F ?N ?U ?z ?_; (case F => assumption); (case N => assumption); (case U => k_upd); (case z => k_extra "tz")); (intro h' F' N'; (try dsimp only [List.nil_append, List.cons_append] at N'))))
local macro_rules | `(tactic| walk_at "call ref") => `(tactic| (k_here; k_dflt (refine' TellR.use (unget_g ?a1 ?a2 ?a3 ?a4) ?k1 ?k2 ?k3 ?k4 ?k5 ?kK ?kp ?ko ?kd ?ku ?k0 ?_; (case k1 => k_asm); (case k2 => k_asm); (case k3 => k_asm); (case k4 => k_asm); (case k5 => k_asm); (case kK => first | exact rfl | assumption); (case kp => tb_start); (case ko => tb_rel); (case a1 => with_reducible assumption); (case a2 => with_reducible assumption); (case a3 => k_extra "ug"); (case a4 => k_ne); (case kd => k_room); (case ku => k_units); (case k0 => first | exact (show 1 ≤ _ by (try dsimp only); omega) | exact Nat.zero_le _); intro r9 f9 h9 tk9 p9 F9 N9 hP9; obtain ⟨a0, a1, a2, a3, a4, e1, e2⟩ := hP9; subst e1; subst e2; (try dsimp only [List.nil_append, List.cons_append] at N9); (try k_fold))))
local macro_rules | `(tactic| walk_at "subscriptTail") => `(tactic| (k_here; (with_reducible show wpAny _ _ (subscriptTail _ _ (Value.ref _) (Value.int _ _)) _ _ _); k_dflt (refine' item_last_t ?N ?hm ?hv ?_; (case N => assumption); (case hm => k_mem); (case hv => k_extra "last"))))
local macro_rules | `(tactic| walk_at "subscriptTail Name UnaryOp ref int") => `(tactic| (k_here; (with_reducible show wpAny _ _ (subscriptTail _ _ (Value.ref _) (Value.int _ _)) _ _ _); k_dflt (refine' item_last_t ?N ?hm ?hv ?_; (case N => assumption); (case hm => k_mem); (case hv => k_extra "last"))))
theorem markup_t {w : World} {hx hd' tq lf sx sd tx td ra el nl : Nat} {κh κ κ' : Nat → Nat} {τ₀ τ₁ τ₂ τ₃ τ₄ σ₀ σ₁ : Nat} {S : SS} {bf st ct : Value} {vs qs : List Value} {ep tep : Nat}
    (hgo : Go S) (hcl : S.c.length ≤ 10001) (hsuf : Suf S []) (hv : Errs vs S.n) (hbf : BfV S.bo bf) (hw : WF S) (hqs : qs.length ≤ 100) (hnd : NQ6 sx sd tx td ra el) (hh : HQ hx hd' tq sx sd tx td ra el) :
    TellR w 20 200 (.ref 605) [.ref hx] ([(hx, instObj 762 hd'), (hd', hdD8 w κh sx lf tq st ct), (tq, W.listOf qs.toArray tep)] ++ stS w sx sd tx td ra el nl κ κ' τ₀ τ₁ τ₂ τ₃ τ₄ σ₀ σ₁ S bf vs ep)
      (fun r f' rest => r = .bool true ∧ ∃ (S' : SS) (a0 a1 a2 a3 a4 b0 b1 : Nat) (bv : Value) (vs' : List Value) (ep' : Nat) (st' : Value) (da : Nat) (o' : Obj), BfV S'.bo bv ∧ Errs vs' S'.n ∧ WF S' ∧
        (hx < da ∧ hd' < da ∧ tq < da ∧ sx < da ∧ sd < da ∧ tx < da ∧ td < da ∧ ra < da ∧ el < da ∧ AllLt da rest) ∧
        ((∃ l, Got S S' l ∧ ((l = [45, 45] ∧ ∃ t1 t2, Obj.IsDictOf (PySem.strKind PG w) o' [(Str.ofString "type", .int 6 t1), (Str.ofString "data", .str (Str.ofString "") t2)]) ∨
            (l.map lw = docW ∧ ∃ t1 t2, Obj.IsDictOf (PySem.strKind PG w) o' [(Str.ofString "type", .int 0 t1), (Str.ofString "name", .str (Str.ofString "") t2), (Str.ofString "publicId", .none), (Str.ofString "systemId", .none), (Str.ofString "correct", .bool true)])) ∧
            f' = [(hx, instObj 762 hd'), (hd', hdD8 w κh sx lf tq st' (.ref da)), (tq, W.listOf qs.toArray tep)] ++ stS w sx sd tx td ra el nl κ κ' a0 a1 a2 a3 a4 b0 b1 S' bv vs' ep' ++ [(da, o')]) ∨
          ((rem S).take 2 ≠ [45, 45] ∧ ((rem S).take 7).map lw ≠ docW ∧ rem S' = rem S ∧ tot S' = tot S ∧ (Pos1 S [] → Pos1 S' []) ∧ (∃ te t1 t2, Obj.IsDictOf (PySem.strKind PG w) o' [(Str.ofString "type", .int 7 t1), (Str.ofString "data", .str (Str.ofString "expected-dashes-or-doctype") t2)] ∧
            f' = [(hx, instObj 762 hd'), (hd', hdD8 w κh sx lf tq st' ct), (tq, W.listOf (qs ++ [Value.ref da]).toArray te)] ++ stS w sx sd tx td ra el nl κ κ' a0 a1 a2 a3 a4 b0 b1 S' bv vs' ep' ++ [(da, o')])))) := by
  have hq := hnd
  unfold NQ6 at hq
  obtain ⟨q1, q2, q3, q4, q5, q6, q7, q8, q9, q10, q11, q12, q13, q14, q15⟩ := hq
  unfold HQ at hh
  obtain ⟨g1, g2, g3, g4, g5, g6, g7, g8, g9, g10, g11, g12, g13, g14, g15, g16, g17, g18, g19, g20, g21⟩ := hh
  unfold TellR Tell KF PG
  k_fill
  intro rest off' mean mg mb dp un gd cn cs a ccd cl outer A₀ base h₀ L m s Q E B F X N T hk hd hu hret
  dsimp only [stS, stL, List.cons_append, List.nil_append] at off' N
  simp only [List.forall_mem_cons] at off'
  obtain ⟨o1, o2, o3, o4, o5, o6, o7, o8, o9, -⟩ := off'
  have hG0 := Got.nil S
  k_dflt ktr_enter
  repeat' (first | ((fail_if_success (with_reducible show wpAny _ _ (PySem.exec (PySem.Stmt.If _ _ _ _) _) _ _ _)); first | (k_unfold; (try dsimp only)) | (k_end; wrow_close) | walk1 | (dsimp only [List.cons_append, List.nil_append]; walk1) | fail "no step"))
  (rename Fr _ _ _ _ => f8)
  (rename News _ _ _ _ => n8)
  (rename _ < _ ∧ _ => l8)
  obtain ⟨cs9, ecs⟩ := News.addr n8
  subst ecs
  obtain ⟨l81, l82, l83, l84, l85, l86, l87, l88, l89, l80⟩ := l8
  have o0 := tbn_neAll l80
  have c1 : Nq cs9 sx := Nat.ne_of_gt l81
  have c2 : Nq cs9 sd := Nat.ne_of_gt l82
  have c3 : Nq cs9 tx := Nat.ne_of_gt l83
  have c4 : Nq cs9 td := Nat.ne_of_gt l84
  have c5 : Nq cs9 ra := Nat.ne_of_gt l85
  have c6 : Nq cs9 el := Nat.ne_of_gt l86
  have c7 : Nq cs9 hx := Nat.ne_of_gt l87
  have c8 : Nq cs9 hd' := Nat.ne_of_gt l88
  have c9 : Nq cs9 tq := Nat.ne_of_gt l89
  clear l81 l82 l83 l84 l85 l86 l87 l88 l89 l80
  (rename _ ≠ 120 → Go _ => hg1)
  refine mid_cut (fun _ : MKS => [(Str.ofString "self", .ref hx), (Str.ofString "charStack", .ref cs9)]) (fun c => mkF w cs9 sx sd tx td ra el nl κ κ' c ++ (hx, instObj 762 hd') :: (hd', hdD8 w κh sx lf tq st ct) :: (tq, W.listOf qs.toArray tep) :: rest) (fun c => MKP S c ∧ NoHead c.l ∧ c.l.length ≤ 7) f8 ?h0 ?h ?k
  case h0 => omega
  case k =>
    rintro ⟨S1, bv1, vs1, ep1, us1, l1, uep1, t1⟩ m8 h8 tk8' p8 ⟨hP, hno, hl7⟩ F8 N8
    dsimp only [mkF, List.cons_append, List.nil_append] at hP hno hl7 F8 N8
    have hB := MKB.of hP hl7 hcl hsuf
    clear f8 n8
    (try k_fold)
    repeat' (first | ((fail_if_success (with_reducible show wpAny _ _ (PySem.exec (PySem.Stmt.While _ _ _ _) _) _ _ _)); first | (k_unfold; (try dsimp only)) | (k_end; wrow_close) | walk1 | (dsimp only [List.cons_append, List.nil_append]; walk1) | fail "no step"))
    (rename Fr _ _ _ _ => f9)
    (rename News _ _ _ _ => n9)
    simp only [List.push_toArray] at n9
    obtain ⟨da, o9, eda, eo9⟩ := News.head2 n9
    subst eda
    subst eo9
    rename cs9 < _ ∧ _ => lda
    obtain ⟨m0, m1, m2, m3, m4, m5, m6, m7, m8, m9, mr⟩ := lda
    have hlda : Hid (hx < da ∧ hd' < da ∧ tq < da ∧ sx < da ∧ sd < da ∧ tx < da ∧ td < da ∧ ra < da ∧ el < da ∧ AllLt da rest) := ⟨m7, m8, m9, m1, m2, m3, m4, m5, m6, mr⟩
    have e0 : Nq da cs9 := Nat.ne_of_gt m0
    have e1 : Nq da sx := Nat.ne_of_gt m1
    have e2 : Nq da sd := Nat.ne_of_gt m2
    have e3 : Nq da tx := Nat.ne_of_gt m3
    have e4 : Nq da td := Nat.ne_of_gt m4
    have e5 : Nq da ra := Nat.ne_of_gt m5
    have e6 : Nq da el := Nat.ne_of_gt m6
    have e7 : Nq da hx := Nat.ne_of_gt m7
    have e8 : Nq da hd' := Nat.ne_of_gt m8
    have e9 : Nq da tq := Nat.ne_of_gt m9
    clear m0 m1 m2 m3 m4 m5 m6 m7 m8 m9 mr
    rename Obj.IsDictOf _ _ _ => hdict0
    obtain ⟨dt1, dt2, hdict⟩ : ∃ t1 t2, Obj.IsDictOf (PySem.strKind PG w) o9 [(Str.ofString "type", .int 7 t1), (Str.ofString "data", .str (Str.ofString "expected-dashes-or-doctype") t2)] := ⟨_, _, hdict0⟩
    clear hdict0
    refine whl_start 1 ?_
    refine' whl_loop (fun _ : MKS => [(Str.ofString "self", .ref hx), (Str.ofString "charStack", .ref cs9)]) (fun c => mkF w cs9 sx sd tx td ra el nl κ κ' c ++ (da, o9) :: (hx, instObj 762 hd') :: (hd', hdD8 w κh sx lf tq st ct) :: (tq, W.listOf (qs ++ [Value.ref da]).toArray (tep + 1)) :: rest) (MKB S) (fun c => c.us.length) ⟨S1, bv1, vs1, ep1, us1, l1, uep1, t1⟩ ?hE ?h0 f9 ?N ?hps hB ?turn
    case hE => first | passes_own | with_unfolding_all passes_own
    case h0 => omega
    case N =>
      refine' nsub n9 ?N2
      case N2 =>
        dsimp only [mkF, List.cons_append, List.nil_append]
        kstt_sub
    case hps => kst_all
    case turn =>
      rintro ⟨S2, bv2, vs2, ep2, us2, l2, uep2, t2⟩ m' h9 tk9 htk9 hc F9 N9
      dsimp only [mkF, List.cons_append, List.nil_append] at F9 N9
      clear f9 n9
      have hv2 : Errs vs2 S2.n := hc.hv
      have hb2 : BfV S2.bo bv2 := hc.hb
      have hw2 : WF S2 := hc.hw
      have happ : l2 ++ rem S2 = rem S := hc.app
      have hlen : S2.c.length + l2.length ≤ 10020 := hc.len
      have hs2 : StrsAre us2 (l2.map fun ch => (⟨#[ch]⟩ : PySem.Str)) := hc.hs
      (try k_fold)
      rcases List.eq_nil_or_concat l2 with rfl | ⟨l0, ch, rfl⟩
      · have hus : us2 = [] := by cases hs2; rfl
        subst hus
        k_with_none
        k_steps
        have hone : Pos1 S [] → Pos1 S2 [] := hc.one
        have htot : tot S2 = tot S := hc.tot
        have hrS : rem S = l1 ++ rem S1 := hP.hG.app
        obtain ⟨z1, z2⟩ := hno (rem S1)
        rw [← hrS] at z1 z2
        refine' hret _ _ _ _ (by assumption) ?S9 ⟨_, ⟨rfl, S2, _, _, _, _, _, _, _, bv2, vs2, ep2, _, da, o9, hb2, hv2, hw2, hlda, Or.inr ⟨z1, z2, happ, htot, hone, _, _, _, hdict, rfl⟩⟩, rfl⟩
        case S9 =>
          dsimp only [stS, stL, List.cons_append, List.nil_append]
          refine' nsub ?N1 ?N2
          case N1 => assumption
          case N2 => kstt_sub
      · rw [List.concat_eq_append] at hs2 hc happ hlen
        rw [List.map_append] at hs2
        obtain ⟨us0, t0, eus, hs0⟩ := strs_snoc hs2
        dsimp only at eus
        subst eus
        have hsuf2 : Suf S2 (l0 ++ [ch]) := hc.suf
        have hul := hs0.length
        rw [List.length_map] at hul
        rw [List.length_append, List.length_singleton] at hlen
        k_with_none
        k_with "tz" => omega
        k_with "ug" => omega
        k_steps
        (rename News _ _ _ _ => n7)
        refine' ⟨⟨ugS ch S2, bv2, vs2, ep2, us0, l0, _, tk8 _ _ _ _ _ (t2 5) (t2 6) 0⟩, _, _, _, rfl, ?F, ?N, ?ps, MKB.back hc hs0, ?mu⟩
        case F => assumption
        case N =>
          refine' nsub n7 ?N2
          case N2 =>
            dsimp only [mkF, List.cons_append, List.nil_append]
            kstt_sub
        case ps => kst_all
        case mu => simp
  case h =>
    k_with "go" => (exact hg1 (fun e => by have e9 := dash_y (by assumption); omega))
    k_with "mid" => skip
    repeat' (first | ((fail_if_success (with_reducible show wpAny _ _ (pyIter (Value.ref _)) _ _ _)); (fail_if_success (with_reducible show MidEnd _ _ _ _ _ _ _ _ _)); first | (k_unfold; (try dsimp only)) | (k_end; wrow_close) | walk1 | (dsimp only [List.cons_append, List.nil_append]; walk1) | fail "no step"))
    · -- two hyphens
      k_steps
      (rename (_ == _) = true => b1)
      have e1 := dash_y b1
      clear b1
      (rename (_ == _) = true => b2)
      have e2 := dash_y b2
      clear b2
      subst e1
      subst e2
      rename _ < _ ∧ _ => lq
      clear lq
      rename _ < _ ∧ _ => ld
      obtain ⟨m1, m2, m3, m4, m5, m6, m0, m7, m8, m9, mr⟩ := ld
      rename Obj.IsDictOf _ _ _ => hdict0
      rename BfV _ _ => hb9
      rename Errs _ _ => hv9
      rename WF _ => hw9
      rename Got S _ _ => hG9
      refine' hret _ _ _ _ (by assumption) ?S9h ⟨_, ⟨rfl, _, _, _, _, _, _, _, _, _, _, _, _, _, _, hb9, hv9, hw9, ⟨m7, m8, m9, m1, m2, m3, m4, m5, m6, mr⟩, Or.inl ⟨_, hG9, Or.inl ⟨rfl, _, _, hdict0⟩, rfl⟩⟩, rfl⟩
      case S9h =>
        dsimp only [stS, stL, List.cons_append, List.nil_append]
        refine' nsub ?N1h ?N2h
        case N1h => assumption
        case N2h => kstt_sub
    · -- one hyphen
      (rename News _ _ _ _ => n7)
      refine' ⟨⟨_, _, _, _, [_, _], [_, _], _, tk8 _ _ _ _ _ _ _ 0⟩, _, _, _, rfl, ?Fo, ?No, ?pso, ?Po, ?Qo, ?lo⟩
      case Fo => assumption
      case No =>
        refine' nsub n7 ?N2o
        case N2o => kstt_sub
      case pso => kst_all
      case Po => exact ⟨by assumption, by assumption, by assumption, .cons _ _ (.cons _ _ .nil), by assumption⟩
      case Qo =>
        have e9 := dash_y (by assumption)
        have e8 := dash_n (by assumption)
        subst e9
        exact nohead_dash e8
      case lo => exact Nat.le_of_ble_eq_true rfl
    · -- the word
      (rename Fr _ _ _ _ => f7)
      (rename News _ _ _ _ => n7)
      obtain ⟨D9, T9, vs9, R0, eD, hT1, hT2, hT3, hT4, hkey, eR0⟩ := doc_prep n7
      subst eD
      refine' tuple_loop (fun c : MKS => mkF w cs9 sx sd tx td ra el nl κ κ' c) (R0 ++ (hx, instObj 762 hd') :: (hd', hdD8 w κh sx lf tq st ct) :: (tq, W.listOf qs.toArray tep) :: rest) (fun _ => [(Str.ofString "self", .ref hx), (Str.ofString "charStack", .ref cs9), (Str.ofString "matched", .bool true)]) [] (fun pre c => MKP S c ∧ Go c.S ∧ c.l.length = pre.length + 1 ∧ c.l.map lw = docW.take c.l.length) ⟨_, _, _, _, [_], [_], _, tk8 _ _ _ _ _ _ _ 0⟩ rfl ?hm hT1 hT2 f7 ?N ?off ?hk ?hp ?turn ?done
      case N =>
        rw [eR0]
        dsimp only [mkF, List.cons_append, List.nil_append]
        refine' nsub n7 ?N2
        case N2 => kstt_sub
      case hm => exact List.mem_append_left _ hT3
      case off =>
        rw [eR0]
        dsimp only [mkF, List.cons_append, List.nil_append]
        kpa_letter
      case hk => kst_all
      case hp =>
        have e9 := dD_y (by assumption)
        refine ⟨⟨by assumption, by assumption, by assumption, .cons _ _ .nil, by assumption⟩, hg1 (fun e => by omega), rfl, ?_⟩
        show [lw _] = [100]
        rcases e9 with e9 | e9 <;> rw [e9] <;> rfl
      case turn =>
        rintro ⟨S1, bv1, vs1, ep1, us1, l1, uep1, t1⟩ pre post v u h' tk' rest' hpre ⟨hP, hG, hl, hm⟩ off' sub' F' N'
        dsimp only [mkF, List.cons_append, List.nil_append] at F' N' hP hG hl hm off'
        simp only [List.forall_mem_cons] at off'
        obtain ⟨p1, p2, p3, p4, p5, p6, p7, -⟩ := off'
        have hlen : pre.length < 6 := by
          have h9 := congrArg List.length hpre
          rw [hT4, List.length_append, List.length_cons] at h9
          omega
        obtain ⟨d, ta, tb, ⟨A9, B9⟩, ev, hpair, hmem⟩ := hkey pre.length v (by rw [hpre]; simp)
        obtain ⟨a9, b9, d9, hD1, hD2, ha, hb, hd97, hd122⟩ := DPs_is pre.length hlen
        rw [hD1] at hpair
        cases hpair
        subst ev
        subst ha
        subst hb
        have hmr := sub' _ (List.mem_append_left _ hmem)
        have d1 : Nq d cs9 := p1 _ hmr
        have d2 : Nq d sx := p2 _ hmr
        have d3 : Nq d sd := p3 _ hmr
        have d4 : Nq d tx := p4 _ hmr
        have d5 : Nq d td := p5 _ hmr
        have d6 : Nq d ra := p6 _ hmr
        have d7 : Nq d el := p7 _ hmr
        dsimp only at hmr
        have hsubR : ∀ p ∈ (hx, instObj 762 hd') :: (hd', hdD8 w κh sx lf tq st ct) :: (tq, W.listOf qs.toArray tep) :: rest, p ∈ rest' := fun p hp => sub' p (List.mem_append_right _ hp)
        have hmr2 := hsubR _ (.head _)
        have hmr3 := hsubR _ (.tail _ (.head _))
        have N2a := ncons (p := (d, pairS ⟨#[d9]⟩ ta ⟨#[d9 - 32]⟩ tb)) N' (by repeat' (first | exact hmr | apply List.mem_cons_of_mem))
        have N2b := ncons (p := (hx, instObj 762 hd')) N2a (by repeat' (first | exact hmr2 | apply List.mem_cons_of_mem))
        have N2c := ncons (p := (hd', hdD8 w κh sx lf tq st ct)) N2b (by repeat' (first | exact hmr3 | apply List.mem_cons_of_mem))
        have hmr4 := hsubR _ (.tail _ (.tail _ (.head _)))
        have N2 := ncons (p := (tq, W.listOf qs.toArray tep)) N2c (by repeat' (first | exact hmr4 | apply List.mem_cons_of_mem))
        have hrest : ∀ p ∈ rest, p ∈ rest' := fun p hp => hsubR p (.tail _ (.tail _ (.tail _ hp)))
        have hD3 : docW[l1.length]? = some d9 := by rw [hl]; exact hD2
        clear N2a N2b N2c hsubR
        have hul : us1.length ≤ 6 := by
          have h9 := hP.hs.length
          rw [List.length_map] at h9
          dsimp only at h9
          omega
        have hPv := hP.hv
        have hPb := hP.hb
        have hPw := hP.hw
        have hPs := hP.hs
        have hPG := hP.hG
        dsimp only at hPv hPb hPw hPs hPG
        clear n7 f7 N'
        repeat' ((rename _ < _ ∧ _ => lx9); clear lx9)
        try k_fold
        k_with_none
        k_with "last" => first | exact back_snoc | exact back_push
        repeat' (first | ((fail_if_success (with_reducible show MidEnd _ _ _ _ _ _ _ _ _)); first | (k_unfold; (try dsimp only)) | (k_end; wrow_close) | walk1 | (dsimp only [List.cons_append, List.nil_append]; walk1) | (dsimp only) | fail "no step"))
        · skip
          (rename News _ _ _ _ => n6)
          (rename _ ≠ 120 → Go _ => hg6)
          (rename Got S _ _ => hG9)
          obtain ⟨ch9, ech9⟩ := hG9.name
          subst ech9
          (rename BfV _ _ => hb9)
          (rename Errs _ _ => hv9)
          (rename WF _ => hw9)
          (try simp only [List.push_toArray] at n6)
          have hlc := lw_pair hd97 hd122 (by assumption)
          refine' ⟨⟨_, _, _, _, us1 ++ [_], l1 ++ [ch9], _, tk8 _ _ _ _ _ _ _ 0⟩, _, _, _, rfl, ?Ft, ?Nt, ?oft, ?pst, ?nmt, ?Pt⟩
          case Ft => assumption
          case Nt =>
            dsimp only [mkF, List.cons_append, List.nil_append]
            refine' nsub n6 ?N2t
            case N2t => kstt_sub
          case oft =>
            dsimp only [mkF, List.cons_append, List.nil_append]
            kpa_letter
          case pst => kst_all
          case nmt => (intro z h1 h2 h3; simp only [List.forall_mem_cons] at h2; simp [h1, h2, kstB])
          case Pt => refine ⟨⟨hv9, hb9, hw9, ?_, hG9⟩, hg6 (doc_no_x hD3 hlc), by simp [hl], doc_more hm hD3 hlc⟩; exact strs_one hPs
        · skip
          (rename News _ _ _ _ => n6)
          (try simp only [List.push_toArray] at n6)
          (rename Got S _ _ => hG9)
          obtain ⟨ch9, ech9⟩ := hG9.name
          subst ech9
          (rename BfV _ _ => hb9)
          (rename Errs _ _ => hv9)
          (rename WF _ => hw9)
          obtain ⟨hx1, hx2⟩ := lw_nopair hd97 (by assumption)
          refine' ⟨⟨_, _, _, _, us1 ++ [_], l1 ++ [ch9], _, tk8 _ _ _ _ _ _ _ 0⟩, _, _, _, rfl, ?Fm, ?Nm, ?psm, ?Pm, ?Qm, ?lm⟩
          case Fm => assumption
          case Nm =>
            dsimp only [mkF, List.cons_append, List.nil_append]
            refine' nsub n6 ?N2m
            case N2m => kstt_sub
          case psm => kst_all
          case Pm => (refine ⟨hv9, hb9, hw9, ?_, hG9⟩; exact strs_one hPs)
          case Qm => exact nohead_doc hm (by omega) (by omega) hD3 hx1 hx2
          case lm => (rw [List.length_append, List.length_singleton]; omega)
      case done =>
        rintro ⟨S1, bv1, vs1, ep1, us1, l1, uep1, t1⟩ u h' tk' ⟨hP, hG, hl, hm⟩ off' F' N'
        have N3 := nsub N' (subApp (A := mkF w cs9 sx sd tx td ra el nl κ κ' ⟨S1, bv1, vs1, ep1, us1, l1, uep1, t1⟩) (B := (hx, instObj 762 hd') :: (hd', hdD8 w κh sx lf tq st ct) :: (tq, W.listOf qs.toArray tep) :: rest) (fun q h => List.mem_append_left _ h) (fun q h => List.mem_append_right _ (List.mem_append_right _ h)))
        have hPv := hP.hv
        have hPb := hP.hb
        have hPw := hP.hw
        have hPG := hP.hG
        dsimp only [mkF, List.cons_append, List.nil_append] at F' N3 hPv hPb hPw hPG hl hm
        clear n7 f7 N'
        repeat' ((rename _ < _ ∧ _ => lx9); clear lx9)
        have hl7 : l1.length = 7 := by omega
        have hm7 : l1.map lw = docW := by rw [hm, hl7]; rfl
        try k_fold
        k_with_none
        k_steps
        rename _ < _ ∧ _ => lq
        clear lq
        rename _ < _ ∧ _ => ld
        obtain ⟨m0, m1, m2, m3, m4, m5, m6, m7, m8, m9, mr⟩ := ld
        rename Obj.IsDictOf _ _ _ => hdict0
        refine' hret _ _ _ _ (by assumption) ?S9d ⟨_, ⟨rfl, S1, _, _, _, _, _, _, _, bv1, vs1, ep1, _, _, _, hPb, hPv, hPw, ⟨m7, m8, m9, m1, m2, m3, m4, m5, m6, mr⟩, Or.inl ⟨l1, hPG, Or.inr ⟨hm7, _, _, hdict0⟩, rfl⟩⟩, rfl⟩
        case S9d =>
          dsimp only [stS, stL, List.cons_append, List.nil_append]
          refine' nsub ?N1d ?N2d
          case N1d => assumption
          case N2d => kstt_sub
    · -- neither
      (rename News _ _ _ _ => n7)
      refine' ⟨⟨_, _, _, _, [_], [_], _, tk8 _ _ _ _ _ _ _ 0⟩, _, _, _, rfl, ?Fn, ?Nn, ?psn, ?Pn, ?Qn, ?ln⟩
      case Fn => assumption
      case Nn =>
        refine' nsub n7 ?N2n
        case N2n => kstt_sub
      case psn => kst_all
      case Pn => exact ⟨by assumption, by assumption, by assumption, .cons _ _ .nil, by assumption⟩
      case Qn =>
        have e9 := dash_n (by assumption)
        obtain ⟨e8, e7⟩ := dD_n (by assumption)
        exact nohead_first e9 e8 e7
      case ln => exact Nat.le_of_ble_eq_true rfl
end
end Mine
namespace Mine
/-! the law's tests over the mended text -/
def lawS : List PySem.Str := [PySem.Str.ofString "d", PySem.Str.ofString "D", PySem.Str.ofString "o", PySem.Str.ofString "O", PySem.Str.ofString "c", PySem.Str.ofString "ty", PySem.Str.ofString "T", PySem.Str.ofString "pe", PySem.Str.ofString "-", PySem.Str.ofString "--", PySem.Str.ofString "doc", PySem.Str.ofString "DOCTYPE", PySem.Str.ofString "\n", PySem.Str.ofString "\r\n", PySem.Str.ofString ">", PySem.Str.ofString "\x00", PySem.Str.ofString "TyP", PySem.Str.ofString "\r", PySem.Str.ofString "E", PySem.Str.ofString "\x01", PySem.Str.ofString "docTYPe"]
def sgS (k : Int) : PySem.Str := lawS.getD (k.fmod 21).toNat PySem.Str.empty
theorem sg_strs {ys : List Value} {ns : List Int} (h : CarriedAll ys (ns.map fun k => PyData.str (sgS k))) : StrsAre ys.toArray.toList (ns.map sgS) := h.strsOf
theorem sg_len (k : Int) : (sgS k).length ≤ 7 := by
  have h : ∀ i, i < 21 → (lawS.getD i PySem.Str.empty).length ≤ 7 := by decide +kernel
  have e := Int.fmod_eq_emod_of_nonneg k (show (0 : Int) ≤ 21 by decide)
  exact h _ (by rw [e]; omega)
theorem sg_flat : ∀ ns : List Int, (flat (ns.map sgS)).length ≤ 7 * ns.length
  | [] => Nat.le_refl _
  | k :: r => by
    have h1 := sg_flat r
    have h2 := sg_len k
    unfold PySem.Str.length at h2
    simp only [flat, List.map_cons, List.flatMap_cons, List.length_append, Array.length_toList, List.length_cons] at h1 ⊢
    omega
theorem sg_join {ns : List Int} {x : PySem.Str} (h : x.cps.toList = flat (ns.map sgS)) : x.length ≤ 7 * ns.length := by
  have h1 := congrArg List.length h
  have h2 := sg_flat ns
  rw [Array.length_toList] at h1
  unfold PySem.Str.length
  omega
theorem md_len {x y : PySem.Str} (h : y.cps.toList = mend false x.cps.toList) : y.length ≤ x.length := by
  have h1 := congrArg List.length h
  have h2 := mend_len x.cps.toList false
  simp only [Array.length_toList] at h1 h2
  unfold PySem.Str.length
  omega
theorem x_len : (PySem.Str.ofString "x").length = 1 := by decide +kernel
theorem str_beq (x y : PySem.Str) : (x == y) = decide (x.cps.toList = y.cps.toList) := by
  by_cases h : x.cps.toList = y.cps.toList
  · have e : x = y := PySem.Str.ext' (Array.ext' h)
    subst e; simp
  · rw [decide_eq_false h]
    exact beq_eq_false_iff_ne.mpr fun e => h (by rw [e])
theorem slice_to {x : PySem.Str} {j : Int} (h : 0 ≤ j) : (Txt.slice x none (some j)).cps.toList = x.cps.toList.take j.toNat := by
  have e : Txt.slice x none (some j) = Txt.slice x (some 0) (some j) := by
    show StrLaws.sliceText x none (some j) = StrLaws.sliceText x (some 0) (some j)
    unfold StrLaws.sliceText
    rw [StrLaws.sliceIdx_none_lo]
  rw [e, slice_list (Int.le_refl _) (by omega) h]
  simp
theorem head2_is {y : PySem.Str} {l : List Nat} (h : y.cps.toList = l) : (Txt.slice y none (some 2) == PySem.Str.ofString "--") = decide (l.take 2 = [45, 45]) := by
  have e : (PySem.Str.ofString "--").cps.toList = [45, 45] := by decide +kernel
  rw [str_beq, slice_to (by decide), e, h]
  rfl
theorem lower_list {x : PySem.Str} (h : ∀ c ∈ x.cps.toList, c < 128) : (Txt.lower x).cps.toList = x.cps.toList.map lw := by
  rw [PyProof.Rows.lower_ascii h]
  show (x.cps.map PyProof.Rows.lo1).toList = _
  rw [Array.toList_map]
  rfl
theorem head7_is {y : PySem.Str} {l : List Nat} (h : y.cps.toList = l) (ha : ∀ c ∈ l, c < 128) : (Txt.lower (Txt.slice y none (some 7)) == PySem.Str.ofString "doctype") = decide ((l.take 7).map lw = docW) := by
  have e : (PySem.Str.ofString "doctype").cps.toList = docW := by decide +kernel
  have e2 : (Txt.slice y none (some 7)).cps.toList = l.take 7 := by rw [slice_to (by decide), h]; rfl
  rw [str_beq, lower_list (by rw [e2]; exact fun c hc => ha c (List.mem_of_mem_take hc)), e, e2]
theorem mend_sub : ∀ (l : List Nat) (f : Bool), ∀ a ∈ mend f l, a ∈ l ∨ a = 10
  | [], f, a, h => by cases f <;> exact absurd h (by simp [mend])
  | x :: l, f, a, h => by
    rw [mend_cons] at h
    split at h
    · rcases List.mem_cons.mp h with rfl | h
      · exact .inr rfl
      · exact (mend_sub l true a h).imp_left (.tail _)
    · split at h
      · exact (mend_sub l false a h).imp_left (.tail _)
      · rcases List.mem_cons.mp h with rfl | h
        · exact .inl (.head _)
        · exact (mend_sub l false a h).imp_left (.tail _)
theorem sg_signs : ∀ k : Int, ∀ c ∈ (sgS k).cps.toList, c < 128 ∧ (inv (c : Int) ↔ c = 1) := by
  intro k
  have h : ∀ i, i < 21 → ∀ c ∈ (lawS.getD i PySem.Str.empty).cps.toList, c < 128 ∧ (inv (c : Int) ↔ c = 1) := by
    have h' : ∀ i, i < 21 → ((lawS.getD i PySem.Str.empty).cps.toList.all fun c => decide (c = 1 ∨ c = 0 ∨ c = 10 ∨ c = 13 ∨ (32 ≤ c ∧ c < 127))) = true := by decide +kernel
    intro i hi c hc
    have h1 := List.all_eq_true.mp (h' i hi) c hc
    rw [decide_eq_true_eq] at h1
    unfold inv
    omega
  have e := Int.fmod_eq_emod_of_nonneg k (show (0 : Int) ≤ 21 by decide)
  exact h _ (by rw [e]; omega)
/-- the signs of the law's text -/
def Okay (l : List Nat) : Prop := ∀ c ∈ l, c < 128 ∧ (inv (c : Int) ↔ c = 1)
theorem sg_okay (ns : List Int) : Okay (flat (ns.map sgS)) := by
  intro c hc
  unfold flat at hc
  obtain ⟨x, hx, hc⟩ := List.mem_flatMap.mp hc
  obtain ⟨k, hk, rfl⟩ := List.mem_map.mp hx
  exact sg_signs k c hc
theorem inv_iff {c : Nat} (h : c = 10 ∨ c = 120) : c < 128 ∧ (inv (c : Int) ↔ c = 1) := by
  unfold inv
  omega
theorem okay_x {l : List Nat} (h : Okay l) : Okay (l ++ [120]) := fun c hc => by
  rcases List.mem_append.mp hc with hc | hc
  · exact h c hc
  · rw [List.mem_singleton.mp hc]; exact inv_iff (.inr rfl)
theorem okay_mend {l : List Nat} (h : Okay l) : Okay (mend false l) := fun c hc => by
  rcases mend_sub l false c hc with hc | rfl
  · exact h c hc
  · exact inv_iff (.inl rfl)
theorem mend_ones : ∀ (l : List Nat) (f : Bool), ((mend f l).filter fun c => decide (c = 1)) = l.filter fun c => decide (c = 1)
  | [], f => by cases f <;> rfl
  | x :: l, f => by
    rw [mend_cons]
    by_cases h1 : x = 13
    · rw [if_pos h1, List.filter_cons_of_neg (by decide), List.filter_cons_of_neg (by rw [h1]; decide)]
      exact mend_ones l true
    · rw [if_neg h1]
      by_cases h2 : x = 10 ∧ f = true
      · rw [if_pos h2, List.filter_cons_of_neg (by rw [h2.1]; decide)]
        exact mend_ones l false
      · rw [if_neg h2, List.filter_cons, List.filter_cons, mend_ones l false]
theorem cntI_ones {l : List Nat} (h : Okay l) : cntI l = ((mend false l).filter fun c => decide (c = 1)).length := by
  rw [mend_ones]
  unfold cntI
  congr 1
  refine List.filter_congr fun c hc => ?_
  have := (h c hc).2
  simp only [this]
/-- the part up to > -/
abbrev ngt (ch : Nat) : Bool := decide (ch = 62) == false
theorem gt_in {y : PySem.Str} {l : List Nat} (h : y.cps.toList = l) : Txt.contains y (PySem.Str.ofString ">") = decide (62 ∈ l) := by
  have e : PySem.Str.ofString ">" = ⟨#[62]⟩ := by decide +kernel
  rw [e]
  exact (StrLaws.found_one y 62).trans (by rw [h])
theorem tw_none : ∀ {l : List Nat}, 62 ∉ l → l.takeWhile ngt = l
  | [], _ => rfl
  | a :: l, h => by
    have h1 : ngt a = true := by
      have : a ≠ 62 := fun e => h (by rw [e]; exact .head _)
      simp [ngt, this]
    rw [List.takeWhile_cons_of_pos h1, tw_none fun h' => h (.tail _ h')]
theorem tw_at : ∀ {l : List Nat} {i : Nat}, l[i]? = some 62 → (∀ k, k < i → l[k]? ≠ some 62) → (l.takeWhile ngt).length = i
  | [], _, h, _ => by simp at h
  | a :: l, 0, h, _ => by
    have : a = 62 := by simpa using h
    rw [List.takeWhile_cons_of_neg (by simp [ngt, this])]
    rfl
  | a :: l, i + 1, h, hn => by
    have h1 : ngt a = true := by
      have : a ≠ 62 := fun e => hn 0 (Nat.succ_pos _) (by simp [e])
      simp [ngt, this]
    rw [List.takeWhile_cons_of_pos h1, List.length_cons, tw_at (i := i) (by simpa using h) fun k hk => by simpa using hn (k + 1) (by omega)]
theorem find_gt {y : PySem.Str} {l : List Nat} (h : y.cps.toList = l) (hm : Txt.contains y (PySem.Str.ofString ">") = true) : Txt.find y (PySem.Str.ofString ">") = ((l.takeWhile ngt).length : Nat) := by
  have e : PySem.Str.ofString ">" = ⟨#[62]⟩ := by decide +kernel
  rw [gt_in h, decide_eq_true_eq] at hm
  have hl : y.cps.toList.take y.length = y.cps.toList := by rw [List.take_of_length_le]; simp [PySem.Str.length]
  rw [e]
  rcases PyProof.Rows.find_whole y ⟨#[62]⟩ with ⟨_, hn⟩ | ⟨i, hi, ha, hk⟩
  · exfalso
    rw [← h] at hm
    obtain ⟨i, hi⟩ := List.mem_iff_getElem?.mp hm
    exact hn i ((at_one (Nat.le_refl _)).mpr (by rw [hl]; exact hi))
  · rw [hi]
    have h1 := (at_one (Nat.le_refl _)).mp ha
    rw [hl, h] at h1
    rw [tw_at h1 fun k hk' he => hk k hk' ((at_one (Nat.le_refl _)).mpr (by rw [hl, h]; exact he))]
theorem nofind_gt {y : PySem.Str} {l : List Nat} (h : y.cps.toList = l) (hm : Txt.contains y (PySem.Str.ofString ">") = false) : y.length = (l.takeWhile ngt).length := by
  rw [gt_in h, decide_eq_false_iff_not] at hm
  rw [tw_none hm, ← h]
  simp [PySem.Str.length]
theorem tw_take (l : List Nat) : l.takeWhile ngt = l.take (l.takeWhile ngt).length := by
  have h := List.takeWhile_append_dropWhile (p := ngt) (l := l)
  conv => rhs; arg 2; rw [← h]
  rw [List.take_left]
theorem tw_head (l : List Nat) : l.takeWhile ngt ++ (l.dropWhile ngt).head?.toList = l.take (min ((l.takeWhile ngt).length + 1) l.length) := by
  have h := List.takeWhile_append_dropWhile (p := ngt) (l := l)
  generalize l.takeWhile ngt = a at *
  generalize l.dropWhile ngt = b at *
  subst h
  cases b with
  | nil => simp
  | cons x r =>
    rw [List.take_append]
    have e : min (a.length + 1) (a ++ x :: r).length = a.length + 1 := by simp
    rw [e, List.take_of_length_le (by omega)]
    simp
theorem tw_tail (l : List Nat) : (l.dropWhile ngt).tail = l.drop (min ((l.takeWhile ngt).length + 1) l.length) := by
  have h := List.takeWhile_append_dropWhile (p := ngt) (l := l)
  generalize l.takeWhile ngt = a at *
  generalize l.dropWhile ngt = b at *
  subst h
  cases b with
  | nil => simp
  | cons x r =>
    have e : min (a.length + 1) (a ++ x :: r).length = a.length + 1 := by simp
    rw [e, List.drop_append]
    simp
end Mine
namespace Mine
/-! the stream at the law's start -/
theorem mend_x {A : List Nat} : mend false (A ++ [120]) = mend false A ++ [120] := by
  rw [mend_snoc]
  simp
structure Start (T : PySem.Str) (A : List Nat) : Prop where
  hT : T.cps.toList = A ++ [120]
  len : T.length ≤ 1000
theorem Start.alen {T : PySem.Str} {A : List Nat} (h : Start T A) : T.length = A.length + 1 := by
  have h1 := congrArg List.length h.hT
  simp only [Array.length_toList, List.length_append, List.length_singleton] at h1
  exact h1
theorem Start.raw {T : PySem.Str} {A : List Nat} (h : Start T A) : Mine.raw ⟨T, 0, PySem.Str.ofString "", 0, 0, 0, none, 0⟩ = A ++ [120] := by
  show (bfS none).cps.toList ++ T.cps.toList.drop 0 = _
  rw [List.drop_zero, h.hT]; rfl
theorem cntI_le (l : List Nat) : cntI l ≤ l.length := List.length_filter_le _ _
theorem Start.wf {T : PySem.Str} {A : List Nat} (h : Start T A) : WF ⟨T, 0, PySem.Str.ofString "", 0, 0, 0, none, 0⟩ := by
  have h1 := h.alen
  have h2 := h.len
  refine ⟨Int.le_refl _, by rw [len_nil]; exact Int.le_refl _, Int.le_refl _, Int.natCast_nonneg _, by show T.length ≤ 10000; omega, by rw [len_nil]; decide, ?_⟩
  show 0 + cntI (Mine.raw _) ≤ 20000
  rw [h.raw]
  have h3 := cntI_le (A ++ [120])
  rw [List.length_append, List.length_singleton] at h3
  omega
theorem Start.rem {T : PySem.Str} {A : List Nat} (h : Start T A) : Mine.rem ⟨T, 0, PySem.Str.ofString "", 0, 0, 0, none, 0⟩ = mend false A ++ [120] := by
  have e : (PySem.Str.ofString "").cps = #[] := by decide +kernel
  unfold Mine.rem
  rw [h.raw, mend_x]
  show (PySem.Str.ofString "").cps.toList.drop 0 ++ _ = _
  rw [e]; rfl
/-- what holds of the stream when markupDeclarationOpenState is called -/
structure Ready (S : SS) (A : List Nat) : Prop where
  wf : WF S
  rem : Mine.rem S = mend false A ++ [120]
  tot : Mine.tot S = cntI (A ++ [120])
  pos : PosOK S []
  len : S.c.length ≤ 10001
theorem Ready.go {S : SS} {A : List Nat} (h : Ready S A) : Go S := by
  unfold Go
  rw [h.rem]; simp
theorem Start.ready {T : PySem.Str} {A : List Nat} (h : Start T A) : Ready ⟨T, 0, PySem.Str.ofString "", 0, 0, 0, none, 0⟩ A := by
  refine ⟨h.wf, h.rem, ?_, ⟨[], ?_, rfl, rfl⟩, by rw [len_nil]; decide⟩
  · show 0 + cntI (Mine.raw _) = _
    rw [h.raw, Nat.zero_add]
  · show [] = [] ++ (PySem.Str.ofString "").cps.toList.take 0
    rw [List.take_zero]; rfl
theorem Start.one {T : PySem.Str} {A : List Nat} (h : Start T A) : Pos1 ⟨T, 0, PySem.Str.ofString "", 0, 0, 0, none, 0⟩ [] := by
  have e : (PySem.Str.ofString "").cps = #[] := by decide +kernel
  refine .inr ⟨rfl, by rw [e], rfl, rfl, rfl, ?_⟩
  have hw := h.wf
  obtain ⟨w1, _⟩ := rdS_raw (k := 10240) hw (by decide)
  have hd := rdD_list (k := 10240) hw (by decide)
  have h1 := h.alen
  have h2 := h.len
  have hd' : (rdD none T 0 10240).cps.toList = A ++ [120] := by
    have hd2 : (rdD none T 0 10240).cps.toList = (bfS none).cps.toList ++ (T.cps.toList.drop 0).take (10240 : Int).toNat := hd
    rw [hd2, List.drop_zero, h.hT, List.take_of_length_le (by rw [List.length_append, List.length_singleton]; show A.length + 1 ≤ 10240; omega)]
    rfl
  have hl : lastOf (rdD none T 0 10240) = 120 := by
    unfold lastOf
    rw [hd']; simp
  have hk : rdKeep (rdD none T 0 10240) = rdD none T 0 10240 := by
    unfold rdKeep
    rw [if_neg (fun hq => by have := hq.2; rw [hl] at this; omega)]
  rw [h.raw] at w1
  have w1' : A ++ [120] = (rdKeep (rdD none T 0 10240)).cps.toList ++ Mine.raw (rdS 10240 ⟨T, 0, PySem.Str.ofString "", 0, 0, 0, none, 0⟩) := w1
  rw [hk, hd'] at w1'
  have w2 : Mine.raw (rdS 10240 ⟨T, 0, PySem.Str.ofString "", 0, 0, 0, none, 0⟩) = [] := by
    have h9 := congrArg List.length w1'
    rw [List.length_append (as := A ++ [120])] at h9
    exact List.eq_nil_of_length_eq_zero (by omega)
  rw [w2]; rfl
theorem Start.read {T : PySem.Str} {A : List Nat} {k : Int} (h : Start T A) (hk : 2 ≤ k) (hk2 : k ≤ 100) : Ready (rdS k ⟨T, 0, PySem.Str.ofString "", 0, 0, 0, none, 0⟩) A ∧ (0 < (rdD none T 0 k).length) := by
  have hw := h.wf
  have hr := h.ready
  obtain ⟨w1, w2, w3⟩ := rdS_wf hw hk
  refine ⟨⟨w1, ?_, w3.trans hr.tot, rdS_pos hr.pos (by rw [len_nil]; rfl), ?_⟩, ?_⟩
  · rw [w2, h.raw, mend_x]
  · have h1 := nlz_le (rdKeep (rdD none T 0 k))
    have h2 := rdKeep_le (rdD none T 0 k)
    have hl := slice_len hw (show 0 ≤ k by omega)
    have h3 : (rdD none T 0 k).length = (bfS none).length + (Txt.slice T (some 0) (some (0 + k))).length := PySem.Str.length_append _ _
    have h4 : (bfS none).length = 0 := rfl
    have hl' : (Txt.slice T (some 0) (some (0 + k))).length = min k.toNat (T.length - (0 : Int).toNat) := hl
    show (nlz (rdKeep (rdD none T 0 k))).length ≤ 10001
    omega
  · have hl := slice_len hw (show 0 ≤ k by omega)
    have h3 : (rdD none T 0 k).length = (bfS none).length + (Txt.slice T (some 0) (some (0 + k))).length := PySem.Str.length_append _ _
    have hl' : (Txt.slice T (some 0) (some (0 + k))).length = min k.toNat (T.length - (0 : Int).toNat) := hl
    have h1 := h.alen
    have h5 : (0 : Int).toNat = 0 := rfl
    omega
theorem start_of {x : PySem.Str} (h : x.length ≤ 900) : Start (x ++ PySem.Str.ofString "x") x.cps.toList := by
  have e : (PySem.Str.ofString "x").cps = #[120] := by decide +kernel
  refine ⟨?_, ?_⟩
  · show (x.cps ++ (PySem.Str.ofString "x").cps).toList = _
    rw [e, Array.toList_append]
  · have h1 : (x ++ PySem.Str.ofString "x" : PySem.Str).length = x.length + (PySem.Str.ofString "x").length := PySem.Str.length_append _ _
    have h2 : (PySem.Str.ofString "x").length = 1 := by decide +kernel
    omega
theorem flat_name {x : PySem.Str} {l : List PySem.Str} (_h : x.cps.toList = flat l) : ∃ z : PySem.Str, z = x := ⟨x, rfl⟩
theorem mend_name {y : PySem.Str} {f : Bool} {l : List Nat} (_h : y.cps.toList = mend f l) : ∃ z : PySem.Str, z = y := ⟨y, rfl⟩
structure LC where
  S : SS
  bv : Value
  vs : List Value
  ep : Nat
  b : Int
  bt : Nat
  mt : Nat
  κ : Nat → Nat
  κs : Nat → Nat
  κx : Nat → Nat
  t : Nat → Nat
structure LP (A : List Nat) (c : LC) : Prop where
  rd : Ready c.S A
  hb : BfV c.S.bo c.bv
  hv : Errs c.vs c.S.n
  b0 : 0 ≤ c.b
  one : c.b = 0 → Pos1 c.S []
abbrev lcF (w : World) (hx hd tq lf sx sd tx td ra el nl : Nat) (st ct : Value) (qs : List Value) (tep : Nat) (c : LC) : List (Addr × Obj) :=
  [(hx, instObj 762 hd), (hd, hdD8 w c.κ sx lf tq st ct), (tq, W.listOf qs.toArray tep)] ++ stS w sx sd tx td ra el nl c.κs c.κx (c.t 0) (c.t 1) (c.t 2) (c.t 3) (c.t 4) (c.t 5) (c.t 6) c.S c.bv c.vs c.ep
theorem fm4 (x : Int) : 0 ≤ x.fmod 4 ∧ x.fmod 4 ≤ 3 := by
  have e := Int.fmod_eq_emod_of_nonneg x (show (0 : Int) ≤ 4 by decide)
  rw [e]
  omega
end Mine
namespace Mine
/-! lists of dicts compared -/
/-- == finds the two alike, where they stand -/
def Alike (prog : Program) (w : World) (A : Around) (s : Shared) (y x : Value) : Prop := ∀ (E : Value → Shared → Prop) (Q : Bool → Shared → Prop), Q true s → wpAny (model prog w) A (eqBool y x) Q E s
section
open PySem.AutoSeq1 (wpAny_loadPart')
open PySem.MeetsSeq PySem.MeetsSeq2 PySem.MeetsSeq3 PySem.SeqRoads2
theorem alike_loop {prog : Program} {w : World} {A : Around} {R : Result → Shared → Prop} {s : Shared} {l b n m : Nat} (xs ys : List Value) (hsz : xs.length = ys.length)
    (hl : s.heap.get? l = some (W.listOf xs.toArray n)) (hb : s.heap.get? b = some (W.listOf ys.toArray m)) (he : ∀ (j : Nat) (x y : Value), xs[j]? = some x → ys[j]? = some y → Alike prog w A.in1 s x y) (hR : R (.ok (.ret (.bool false))) s) :
    ∀ (k i : Nat), xs.length - i = k → wpAny (model prog w) A.in1 (Builtin.«list.__eq__.loop» ⟨[.ref l, .ref b, rawInt i, rawInt 3], []⟩)
      (fun fin s' => match fin with | .done f => R (.ok f) s' | .again c' => c'.quiet = true ∧ codeAny (model prog w) A c' R s') (fun e s' => R (.error e) s') s := by
  obtain ⟨hp, g, d, tk, os⟩ := s
  have hl' : hp.get? l = some { cls := .type "list", dict := none, data := .seq xs.toArray n, slots := #[] } := hl
  have hb' : hp.get? b = some { cls := .type "list", dict := none, data := .seq ys.toArray m, slots := #[] } := hb
  intro k
  induction k with
  | zero =>
    intro i hk
    wp_walk using wpAny_loadPart' hl', wpAny_loadPart' hb'
    have hi1 : xs.toArray[((i : Nat) : Int).toNat]? = none := by simp; omega
    have hi2 : ys.toArray[((i : Nat) : Int).toNat]? = none := by simp; omega
    rw [hi1, hi2]
    wp_walk using wpAny_loadPart' hl', wpAny_loadPart' hb'
    show R (.ok (.ret (.bool (xs.toArray.size != ys.toArray.size)))) _
    have e : (xs.toArray.size != ys.toArray.size) = false := by simp [hsz]
    rw [e]
    exact hR
  | succ k ih =>
    intro i hk
    wp_walk using wpAny_loadPart' hl', wpAny_loadPart' hb'
    have hlt : i < xs.length := by omega
    have hlt2 : i < ys.length := by omega
    have hi1 : xs.toArray[((i : Nat) : Int).toNat]? = some xs[i] := by simp [hlt]
    have hi2 : ys.toArray[((i : Nat) : Int).toNat]? = some ys[i] := by simp [hlt2]
    have hc : ((i : Int) + 1) = ((i + 1 : Nat) : Int) := by push_cast; rfl
    rw [hi1, hi2]
    refine wpAny_bind (he i xs[i] ys[i] (by simp [hlt]) (by simp [hlt2]) _ _ ?_)
    wp_walk
    rw [hc]
    exact ⟨plainId_quiet plain_eq_loop _, codeAny_builtin entry_eq_loop (by
      rw [Around.under_plainId plain_eq_loop _]
      exact ih (i + 1) (by omega))⟩
theorem alike_lists {prog : Program} {w : World} {A : Around} {E : Value → Shared → Prop} {s : Shared} {l b n m : Nat} {xs ys : List Value} {Q : Value → Shared → Prop} (hsz : xs.length = ys.length)
    (hl : s.heap.get? l = some (W.listOf xs.toArray n)) (hb : s.heap.get? b = some (W.listOf ys.toArray m)) (hu : A.units < cLine) (he : ∀ (j : Nat) (x y : Value), xs[j]? = some x → ys[j]? = some y → Alike prog w A.in1 s x y) (h : Q (.bool false) s) :
    wpAny (model prog w) A (compareOp .NotEq (.ref l) (.ref b)) Q E s := by
  refine wpAny_richCompare_same_room (op := .NotEq) (T := "list") ⟨_, hl, rfl⟩ ⟨_, hb, rfl⟩ PySem.F.slot_list_ne ?_ hu
  refine wpAny_call (codeAny_call_builtin PySem.F.slot_list_ne.plain PySem.F.entry_list_ne (PySem.F.slot_list_ne.check _ _ _ _ _ _ _ _ ⟨_, hl, rfl⟩ (PySem.F.args_list_ne_2 _ _) ?_))
  obtain ⟨hp, g, d, tk, os⟩ := s
  have hl' : hp.get? l = some { cls := .type "list", dict := none, data := .seq xs.toArray n, slots := #[] } := hl
  have hb' : hp.get? b = some { cls := .type "list", dict := none, data := .seq ys.toArray m, slots := #[] } := hb
  have f3 := AutoSeq1.sub_list_list
  have hne : ¬ (xs.toArray.size != ys.toArray.size) = true := by simp [hsz]
  wp_walk using wpAny_loadPart' hl', wpAny_loadPart' hb'
  exact ⟨plainId_quiet plain_eq_loop _, codeAny_builtin entry_eq_loop (by
    rw [Around.under_plainId plain_eq_loop _]
    exact alike_loop (R := wants (fun v s' => v ≠ .notImplemented ∧ Q v s') E) xs ys hsz hl hb he ⟨(fun x => nomatch x), h⟩ _ 0 rfl)⟩
end
section
variable {prog : Program} {w : World} {A : Around} {E : Value → Shared → Prop} {s : Shared} {h₀ : Heap} {L a b : Addr} {oa ob : Obj} {news : List (Addr × Obj)} {ka kb : List (PySem.Str × Value)}
/-- the same keys, alike values -/
inductive Rows : List (PySem.Str × Value) → List (PySem.Str × Value) → Prop
  | nil {l} : Rows [] l
  | cons {k v y r l d} : valueAt l k = some y → PyProof.V.Flat v d → PyProof.V.Flat y d → PyData.eqv d d = true → Rows r l → Rows ((k, v) :: r) l
theorem Rows.hits {A : Around} {s : Shared} : ∀ {r l : List (PySem.Str × Value)}, Rows r l → KeqHits A s l r true
  | _, _, .nil => .nil
  | _, _, .cons h1 h2 h3 h4 h5 => by
    have e := keq_flat (A := A) (s := s) h2 h3
    rw [h4] at e
    exact KeqHits.hit h1 e h5.hits
theorem alike_dicts (N : News h₀ L s.heap news) (pa : (a, oa) ∈ news) (pb : (b, ob) ∈ news) (da : oa.IsDictOf (PySem.strKind prog w) ka) (db : ob.IsDictOf (PySem.strKind prog w) kb) (la : (a == sysModules) = false) (lb : (b == sysModules) = false) (hab : a ≠ b) (hl : ka.length = kb.length) (hu : A.units < cLine)
    (rows : Rows ka kb) : Alike prog w A s (.ref a) (.ref b) := fun E Q h => by
  unfold eqBool
  refine wpAny_holding ?_
  refine wpAny_ite_split (fun he => absurd (by have := eq_of_beq he; injection this) hab) (fun _ => ?_)
  exact wpAny_bind (keq_pairs N pa pb da db la lb hl hu rows.hits (wpAny_truthy_bool h))
end
end Mine
namespace Mine
theorem if_yes {b : Bool} {P Q : Prop} (h : b = true) (p : P) : if b = true then P else Q := by rw [if_pos h]; exact p
theorem if_no {b : Bool} {P Q : Prop} (h : b = false) (q : Q) : if b = true then P else Q := by rw [if_neg (by rw [h]; decide)]; exact q
section
variable {prog : Program} {w : World} {A : Around} {E : Value → Shared → Prop} {s : Shared} {h₀ : Heap} {L a b : Addr} {news : List (Addr × Obj)}
theorem pair_reads {x y : Int} {t u : Nat} (N : News h₀ L s.heap news) (ha : (a, pairObj x y t u) ∈ news) : Reads s.heap (.ref a) (.tuple [.int x, .int y]) [] :=
  Reads.tuple (N _ ha).1 rfl rfl (ReadsAll.cons (Reads.int _ _) (ReadsAll.cons (Reads.int _ _) ReadsAll.nil))
theorem pair_ne {x y x' y' : Int} {t u t' u' : Nat} {Q : Value → Shared → Prop} (N : News h₀ L s.heap news) (ha : (a, pairObj x y t u) ∈ news) (hb : (b, pairObj x' y' t' u') ∈ news) (hx : x = x') (hy : y = y') (hu : A.units + 64 < cLine) (h : Q (.bool false) s) :
    wpAny (model prog w) A (compareOp .NotEq (.ref a) (.ref b)) Q E s := by
  subst hx
  subst hy
  refine ne_dataH (pair_reads N ha) (pair_reads N hb) rfl rfl hu ?_
  have e : PyData.eqv (.tuple [.int x, .int y]) (.tuple [.int x, .int y]) = true := by simp [PyData.eqv, PyData.eqvAll]
  rw [e]
  exact h
theorem pair_eq {x y x' y' : Int} {t u t' u' : Nat} {Q : Value → Shared → Prop} (N : News h₀ L s.heap news) (ha : (a, pairObj x y t u) ∈ news) (hb : (b, pairObj x' y' t' u') ∈ news) (hx : x = x') (hy : y = y') (hu : A.units + 64 < cLine) (h : Q (.bool true) s) :
    wpAny (model prog w) A (compareOp .Eq (.ref a) (.ref b)) Q E s := by
  subst hx
  subst hy
  refine eq_dataH (pair_reads N ha) (pair_reads N hb) rfl rfl hu ?_
  have e : PyData.eqv (.tuple [.int x, .int y]) (.tuple [.int x, .int y]) = true := by simp [PyData.eqv, PyData.eqvAll]
  rw [e]
  exact h
theorem item_pl {value slice : PySem.Expr} {l : Addr} {us : List Value} {n u : Nat} {k : Int} {v : Value} {Q : Value → Shared → Prop} (N : News h₀ L s.heap news) (hm : (l, W.listOf us.toArray n) ∈ news) (h0 : 0 ≤ k) (hk : k < 2 ^ 63) (hv : us[k.toNat]? = some v) (h : Q v s)
    (hs : subscripted slice false (.ref l) (.int k u) = operate [.ref l, .int k u] (getItem (.ref l) (.int k u)) := by with_unfolding_all rfl) :
    wpAny (model prog w) A (subscriptTail value slice (.ref l) (.int k u)) Q E s := by
  have hl : s.heap.IsList l us.toArray := ⟨_, (N _ hm).1, rfl, _, rfl⟩
  exact tail_any hl.typeIs PySem.F.slot_list_getitem.lookup (wpAny_getItem_list hl h0 hk (by simpa using hv) h) hs
end
end Mine
theorem Mine.off_h1 {M : Model} {A : Around} {env : Env} {Q : Flow → Shared → Prop} {E : Value → Shared → Prop} {s : Shared} (h : wpAny M A (execs [] env) Q E s) : wpAny M A (execs [] env) Q E s := by
  (try (walk1; fail "no"))
  w_top off
  exact h
namespace Mine
local macro_rules | `(tactic| k_ne) => `(tactic| first | exact (show Nq _ _ by with_reducible assumption) | exact Ne.symm (show Nq _ _ by with_reducible assumption) | (refine neN ?_; (try dsimp only); omega))
local macro_rules | `(tactic| k_room) => `(tactic| ((try simp only [depth_under_make, depth_under_kw, depth_in1, depth_deeper, depth_caller, ktrTop, recursionLimit] at *); omega))
local macro_rules | `(tactic| k_units) => `(tactic| ((have hcL9 := cLine_is); (try simp only [units_in1, units_deeper, Around.mark_units, units_caller, ktrTop] at *); omega))
local macro_rules | `(tactic| ktr_enter) => `(tactic| (refine' code_def ?k1 ?k2 ?k3 ?k4 ?k5 ?kA ?kF ?kK ?k6 ?k7 ?k8 ?k9 ?kB ?_ ?c2 ?c3 ?c4 ?c5; (case kA => exact rfl); (case kF => exact rfl); (case kK => first | exact rfl | assumption); (case k1 => k_asm); (case k2 => k_asm); (case k3 => k_asm); (case k4 => k_asm); (case k5 => k_asm); (case k6 => k_is); (case k7 => k_is); (case k8 => k_room); (case k9 => first | exact BindsTo.of_eq rfl | exact binds_K (by k_in) rfl (by k_is) rfl rfl rfl); (case c5 => decide); (case kB => exact locs rfl); (case c2 => exact rfl); (case c3 => exact rfl); (case c4 => exact rfl); k_whole; intro g' L' h' FG' F' N' B' X' T'; (try dsimp only); (try k_fold)))
local macro_rules | `(tactic| k_all) => `(tactic| (with_reducible assumption))
local macro_rules | `(tactic| tb_lt) => `(tactic| first | exact Pick.head | (refine' Pick.tail ?c; (case c => tb_lt)))
local macro_rules | `(tactic| tb_start) => `(tactic| first | exact Picks.nil | (refine' Picks.cons ?a ?b; (case a => tb_lt); (case b => tb_start)))
local macro_rules | `(tactic| tb_rel) => `(tactic| first | exact List.forall_mem_nil _ | (refine' List.forall_mem_cons.mpr ⟨?a, ?b⟩; (case a => k_all); (case b => tb_rel)))
local macro_rules | `(tactic| walk_at "TPost") => `(tactic| (dsimp only [TPost]))
local macro_rules | `(tactic| size_fits) => `(tactic| ((simp only [PySem.sizeLine_eq, List.size_toArray]); omega))
local macro_rules | `(tactic| k_gentoks) => `(tactic| (with_reducible refine' gen_toksP ?hp ?_; (case hp => first | omega | ((try simp only [List.length_cons]); omega)); intro tk htk))
local macro_rules | `(tactic| kstt_sub) => `(tactic| first | exact fun _ h => h | assumption | (refine' subCons ?a ?b; (case a => k_mem); (case b => kstt_sub)) | (refine' subTail ?a; (case a => kstt_sub)))
local macro_rules | `(tactic| kst_all) => `(tactic| first | exact List.forall_mem_nil _ | (refine' List.forall_mem_cons.mpr ⟨?a, ?b⟩; (case a => exact rfl); (case b => kst_all)))
local macro_rules | `(tactic| walk_at "MidEnd") => `(tactic| first
  | ((with_reducible show MidEnd _ _ _ _ _ _ _ Flow.next _); (refine' ⟨(tk8 _ _ _ _ _ _ _ _, _), _, _, _, rfl, ?F, ?N, ?ps, ?P⟩); (case F => assumption); (case N => (refine' nsub ?N1 ?N2; (case N1 => assumption); (case N2 => kstt_sub))); (case ps => kst_all); (case P => k_extra "mid"))
  | ((fail_if_success (with_reducible show MidEnd _ _ _ _ _ _ _ Flow.next _)); dsimp only [MidEnd]))
local macro_rules | `(tactic| walk_at "WEnd") => `(tactic| ((fail_if_success (with_reducible show WEnd _ _ _ _ _ _ _ _ _ Flow.next _)); dsimp only [WEnd]))
local macro_rules | `(tactic| walk_at "callWith") => `(tactic| (k_here; (with_reducible refine' callWith_method1 ?_ ?he ?hp); (case he => k_dflt rfl); (case hp => k_dflt rfl)))
local macro_rules | `(tactic| k_steps) => `(tactic| repeat' (first | (k_unfold; (try dsimp only)) | (k_end; wrow_close) | walk1 | (dsimp only [List.cons_append, List.nil_append]; walk1) | (dsimp only) | fail "no step"))
/-! the calls of the law, what is left said by the mended text -/
structure Ends (pz : Prop) (M : List Nat) (N : Nat) (S : SS) (k : Nat) : Prop where
  wf : WF S
  rem : Mine.rem S = M.drop k
  tot : Mine.tot S = N
  pos : pz → PosOK S (M.take k)
theorem sys_no {hd hx da : Nat} (h1 : hd < hx) (h2 : hx < da) : ((da : Addr) == sysModules) = false := by
  refine beq_eq_false_iff_ne.mpr fun e => ?_
  have e2 : da = 1 := e
  omega
theorem Got.ends {pz : Prop} {M : List Nat} {N : Nat} {S S' : SS} {l : List Nat} (hE : Ends pz M N S 0) (hw : WF S') (hG : Got S S' l) : Ends pz M N S' l.length ∧ M.take l.length = l := by
  have h1 := hG.app
  have h2 := hE.rem
  rw [List.drop_zero] at h2
  rw [h2] at h1
  have h3 : M.take l.length = l := by rw [h1, List.take_left]
  refine ⟨⟨hw, ?_, hG.tot.trans hE.tot, fun hz => ?_⟩, h3⟩
  · rw [h1, List.drop_left]
  · have := hG.pos _ (hE.pos hz)
    rw [List.take_zero, List.nil_append] at this
    rw [h3]; exact this
section
variable {w : World} {hx hd' tq lf sx sd tx td ra el nl : Nat} {κh κ κ' : Nat → Nat} {τ₀ τ₁ τ₂ τ₃ τ₄ σ₀ σ₁ : Nat} {S : SS} {bf st ct : Value} {vs qs : List Value} {ep tep : Nat} {pz : Prop} {M : List Nat} {N k : Nat}
theorem markup_A (hA : M.take 2 = [45, 45]) (hlt : hd' < hx) (hE : Ends pz M N S 0)
    (hgo : Go S) (hcl : S.c.length ≤ 10001) (hsuf : Suf S []) (hv : Errs vs S.n) (hbf : BfV S.bo bf) (hqs : qs.length ≤ 100) (hnd : NQ6 sx sd tx td ra el) (hh : HQ hx hd' tq sx sd tx td ra el) :
    TellR w 20 200 (.ref 605) [.ref hx] ([(hx, instObj 762 hd'), (hd', hdD8 w κh sx lf tq st ct), (tq, W.listOf qs.toArray tep)] ++ stS w sx sd tx td ra el nl κ κ' τ₀ τ₁ τ₂ τ₃ τ₄ σ₀ σ₁ S bf vs ep)
      (fun r f' rest => r = .bool true ∧ ∃ (S' : SS) (a0 a1 a2 a3 a4 b0 b1 : Nat) (bv : Value) (vs' : List Value) (ep' : Nat) (st' : Value) (da : Nat) (o' : Obj) (t1 t2 : Nat), BfV S'.bo bv ∧ Errs vs' S'.n ∧ Ends pz M N S' 2 ∧ ((da : Addr) == sysModules) = false ∧
        (hx < da ∧ hd' < da ∧ tq < da ∧ sx < da ∧ sd < da ∧ tx < da ∧ td < da ∧ ra < da ∧ el < da ∧ AllLt da rest) ∧ Obj.IsDictOf (PySem.strKind PG w) o' [(Str.ofString "type", .int 6 t1), (Str.ofString "data", .str (Str.ofString "") t2)] ∧
        f' = [(hx, instObj 762 hd'), (hd', hdD8 w κh sx lf tq st' (.ref da)), (tq, W.listOf qs.toArray tep)] ++ stS w sx sd tx td ra el nl κ κ' a0 a1 a2 a3 a4 b0 b1 S' bv vs' ep' ++ [(da, o')]) := by
  have hw := hE.wf
  have hr := hE.rem
  rw [List.drop_zero] at hr
  refine TellR.mono (markup_t hgo hcl hsuf hv hbf hw hqs hnd hh) ?_
  rintro r f' rest ⟨rfl, S', a0, a1, a2, a3, a4, b0, b1, bv, vs', ep', st', da, o', hb2, hv2, hw2, hord, ⟨l, hG, hc, rfl⟩ | ⟨hn, _⟩⟩
  · obtain ⟨e1, e2⟩ := Got.ends hE hw2 hG
    rcases hc with ⟨rfl, t1, t2, hD⟩ | ⟨hl, _⟩
    · exact ⟨rfl, S', a0, a1, a2, a3, a4, b0, b1, bv, vs', ep', st', da, o', t1, t2, hb2, hv2, e1, sys_no hlt hord.1, hord, hD, rfl⟩
    · exfalso
      rw [← e2] at hl
      have h7 : l.length = 7 := by
        have := congrArg List.length hl
        rw [List.length_map, e2] at this
        exact this
      rw [h7] at hl
      have h9 := congrArg (List.take 1) hl
      have h8 : M.take 1 = [45] := by
        have := congrArg (List.take 1) hA
        rwa [List.take_take] at this
      rw [← List.map_take, List.take_take, show min 1 7 = 1 from rfl, h8] at h9
      exact absurd h9 (by decide)
  · exact absurd (by rw [hr]; exact hA) hn
theorem markup_B (hA : ¬ M.take 2 = [45, 45]) (hB : (M.take 7).map lw = docW) (hlt : hd' < hx) (hE : Ends pz M N S 0)
    (hgo : Go S) (hcl : S.c.length ≤ 10001) (hsuf : Suf S []) (hv : Errs vs S.n) (hbf : BfV S.bo bf) (hqs : qs.length ≤ 100) (hnd : NQ6 sx sd tx td ra el) (hh : HQ hx hd' tq sx sd tx td ra el) :
    TellR w 20 200 (.ref 605) [.ref hx] ([(hx, instObj 762 hd'), (hd', hdD8 w κh sx lf tq st ct), (tq, W.listOf qs.toArray tep)] ++ stS w sx sd tx td ra el nl κ κ' τ₀ τ₁ τ₂ τ₃ τ₄ σ₀ σ₁ S bf vs ep)
      (fun r f' rest => r = .bool true ∧ ∃ (S' : SS) (a0 a1 a2 a3 a4 b0 b1 : Nat) (bv : Value) (vs' : List Value) (ep' : Nat) (st' : Value) (da : Nat) (o' : Obj) (t1 t2 : Nat), BfV S'.bo bv ∧ Errs vs' S'.n ∧ Ends pz M N S' 7 ∧ ((da : Addr) == sysModules) = false ∧
        (hx < da ∧ hd' < da ∧ tq < da ∧ sx < da ∧ sd < da ∧ tx < da ∧ td < da ∧ ra < da ∧ el < da ∧ AllLt da rest) ∧ Obj.IsDictOf (PySem.strKind PG w) o' [(Str.ofString "type", .int 0 t1), (Str.ofString "name", .str (Str.ofString "") t2), (Str.ofString "publicId", .none), (Str.ofString "systemId", .none), (Str.ofString "correct", .bool true)] ∧
        f' = [(hx, instObj 762 hd'), (hd', hdD8 w κh sx lf tq st' (.ref da)), (tq, W.listOf qs.toArray tep)] ++ stS w sx sd tx td ra el nl κ κ' a0 a1 a2 a3 a4 b0 b1 S' bv vs' ep' ++ [(da, o')]) := by
  have hw := hE.wf
  have hr := hE.rem
  rw [List.drop_zero] at hr
  refine TellR.mono (markup_t hgo hcl hsuf hv hbf hw hqs hnd hh) ?_
  rintro r f' rest ⟨rfl, S', a0, a1, a2, a3, a4, b0, b1, bv, vs', ep', st', da, o', hb2, hv2, hw2, hord, ⟨l, hG, hc, rfl⟩ | ⟨_, hn, _⟩⟩
  · obtain ⟨e1, e2⟩ := Got.ends hE hw2 hG
    rcases hc with ⟨rfl, _⟩ | ⟨hl, t1, t2, hD⟩
    · exact absurd e2 hA
    · have h7 : l.length = 7 := by
        have := congrArg List.length hl
        rw [List.length_map] at this
        exact this
      rw [h7] at e1
      exact ⟨rfl, S', a0, a1, a2, a3, a4, b0, b1, bv, vs', ep', st', da, o', t1, t2, hb2, hv2, e1, sys_no hlt hord.1, hord, hD, rfl⟩
  · exact absurd (by rw [hr]; exact hB) hn
theorem markup_C (hA : ¬ M.take 2 = [45, 45]) (hB : ¬ (M.take 7).map lw = docW) (hlt : hd' < hx) (hE : Ends pz M N S 0) (h1 : pz → Pos1 S [])
    (hgo : Go S) (hcl : S.c.length ≤ 10001) (hsuf : Suf S []) (hv : Errs vs S.n) (hbf : BfV S.bo bf) (hqs : qs.length ≤ 100) (hnd : NQ6 sx sd tx td ra el) (hh : HQ hx hd' tq sx sd tx td ra el) :
    TellR w 20 200 (.ref 605) [.ref hx] ([(hx, instObj 762 hd'), (hd', hdD8 w κh sx lf tq st ct), (tq, W.listOf qs.toArray tep)] ++ stS w sx sd tx td ra el nl κ κ' τ₀ τ₁ τ₂ τ₃ τ₄ σ₀ σ₁ S bf vs ep)
      (fun r f' rest => r = .bool true ∧ ∃ (S' : SS) (a0 a1 a2 a3 a4 b0 b1 : Nat) (bv : Value) (vs' : List Value) (ep' : Nat) (st' : Value) (da : Nat) (o' : Obj) (te t1 t2 : Nat), BfV S'.bo bv ∧ Errs vs' S'.n ∧ Ends pz M N S' 0 ∧ ((da : Addr) == sysModules) = false ∧
        (hx < da ∧ hd' < da ∧ tq < da ∧ sx < da ∧ sd < da ∧ tx < da ∧ td < da ∧ ra < da ∧ el < da ∧ AllLt da rest) ∧ Obj.IsDictOf (PySem.strKind PG w) o' [(Str.ofString "type", .int 7 t1), (Str.ofString "data", .str (Str.ofString "expected-dashes-or-doctype") t2)] ∧
        f' = [(hx, instObj 762 hd'), (hd', hdD8 w κh sx lf tq st' ct), (tq, W.listOf (qs ++ [Value.ref da]).toArray te)] ++ stS w sx sd tx td ra el nl κ κ' a0 a1 a2 a3 a4 b0 b1 S' bv vs' ep' ++ [(da, o')]) := by
  have hw := hE.wf
  have hr := hE.rem
  rw [List.drop_zero] at hr
  refine TellR.mono (markup_t hgo hcl hsuf hv hbf hw hqs hnd hh) ?_
  rintro r f' rest ⟨rfl, S', a0, a1, a2, a3, a4, b0, b1, bv, vs', ep', st', da, o', hb2, hv2, hw2, hord, ⟨l, hG, hc, rfl⟩ | ⟨_, _, hr2, ht2, hp2, te, t1, t2, hD, rfl⟩⟩
  · exfalso
    obtain ⟨e1, e2⟩ := Got.ends hE hw2 hG
    rcases hc with ⟨rfl, _⟩ | ⟨hl, _⟩
    · exact hA e2
    · have h7 : l.length = 7 := by
        have := congrArg List.length hl
        rw [List.length_map] at this
        exact this
      rw [h7] at e2
      exact hB (by rw [e2]; exact hl)
  · refine ⟨rfl, S', a0, a1, a2, a3, a4, b0, b1, bv, vs', ep', st', da, o', te, t1, t2, hb2, hv2, ⟨hw2, ?_, ht2.trans hE.tot, fun hz => ?_⟩, sys_no hlt hord.1, hord, hD, rfl⟩
    · rw [hr2, hr, List.drop_zero]
    · rw [List.take_zero]
      exact (hp2 (h1 hz)).ok
theorem bogus_e (hlt : hd' < hx) (hE : Ends pz M N S 0) (hv : Errs vs S.n) (hbf : BfV S.bo bf) (hqs : qs.length ≤ 100) (hnd : NQ6 sx sd tx td ra el) (hh : HQ hx hd' tq sx sd tx td ra el) :
    TellR w 20 200 (.ref 598) [.ref hx] ([(hx, instObj 762 hd'), (hd', hdD8 w κh sx lf tq st ct), (tq, W.listOf qs.toArray tep)] ++ stS w sx sd tx td ra el nl κ κ' τ₀ τ₁ τ₂ τ₃ τ₄ σ₀ σ₁ S bf vs ep)
      (fun r f' rest => ∃ (S' : SS) (a0 a1 a2 a3 a4 b0 b1 : Nat) (bv : Value) (vs' : List Value) (ep' : Nat) (da q' : Nat) (o' : Obj) (x : PySem.Str) (xt tt te : Nat), r = .bool true ∧ x.cps.toList = (M.takeWhile ngt).map (fun a => if a = 0 then 65533 else a) ∧
        Ends pz M N S' (min ((M.takeWhile ngt).length + 1) M.length) ∧ BfV S'.bo bv ∧ Errs vs' S'.n ∧ ((da : Addr) == sysModules) = false ∧
        (hx < da ∧ hd' < da ∧ tq < da ∧ sx < da ∧ sd < da ∧ tx < da ∧ td < da ∧ ra < da ∧ el < da ∧ AllLt da rest ∧ da < q' ∧ AllLt q' rest) ∧ Obj.IsDictOf (PySem.strKind PG w) o' [(Str.ofString "type", .int 6 tt), (Str.ofString "data", .str x xt)] ∧
        f' = [(hx, instObj 762 hd'), (hd', hdD8 w κh sx lf tq (.ref q') ct), (tq, W.listOf (qs ++ [Value.ref da]).toArray te)] ++ stS w sx sd tx td ra el nl κ κ' a0 a1 a2 a3 a4 b0 b1 S' bv vs' ep' ++ [(da, o'), (q', methodObj (.ref 304) (.ref hx))]) := by
  have hw := hE.wf
  have hr := hE.rem
  rw [List.drop_zero] at hr
  refine TellR.mono (bogus_t hv hbf hw hqs hnd hh) ?_
  rintro r f' rest ⟨S', a0, a1, a2, a3, a4, b0, b1, bv, vs', ep', da, q', o', x, xt, tt, te, rfl, hx2, hr2, hw2, ht2, hp2, hb2, hv2, hord, hD, rfl⟩
  rw [hr] at hx2 hr2
  refine ⟨S', a0, a1, a2, a3, a4, b0, b1, bv, vs', ep', da, q', o', x, xt, tt, te, rfl, hx2, ⟨hw2, hr2.trans (tw_tail M), ht2.trans hE.tot, fun hz => ?_⟩, hb2, hv2, sys_no hlt hord.1, hord, hD, ?_⟩
  · have := hp2 _ (hE.pos hz)
    rw [hr, List.take_zero, List.nil_append] at this
    rw [← tw_head]
    exact this
  · rw [List.push_toArray]
theorem position_e (hE : Ends pz M N S k) (hz : pz) (hne : sx ≠ sd) :
    TellR w 3 30 (.ref 126) [.ref sx] [(sx, instObj 166 sd), (sd, sdD w κ ra nl tx el S.c S.c.length S.o S.pl S.pc bf τ₀ τ₁ τ₂ τ₃ τ₄)]
      (fun r f' rest => ∃ ta t1 t2, r = .ref ta ∧ f' = [(ta, pairObj (lcL (M.take k) + 1) (lcC 0 (M.take k)) t1 t2), (sx, instObj 166 sd), (sd, sdD w κ ra nl tx el S.c S.c.length S.o S.pl S.pc bf τ₀ τ₁ τ₂ τ₃ τ₄)] ∧ AllLt ta ((sx, instObj 166 sd) :: (sd, sdD w κ ra nl tx el S.c S.c.length S.o S.pl S.pc bf τ₀ τ₁ τ₂ τ₃ τ₄) :: rest)) := by
  obtain ⟨e1, e2⟩ := (hE.pos hz).pos hE.wf
  refine TellR.mono (position_t hne hE.wf.o0) ?_
  rintro r f' rest ⟨ta, t1, t2, rfl, rfl, h⟩
  rw [e1, e2]
  exact ⟨ta, t1, t2, rfl, rfl, h⟩
theorem inby_none {w : World} {e : Addr} {n : Nat} : InBy w (.ref e) [(e, { cls := .type "tuple", data := .seq #[] n })] (fun _ => false) := by
  intro A E s h₀ L m news ch u Q F X N hs h
  have hl : s.heap.IsTuple e #[] := ⟨_, (N _ (hs _ (.head _))).1, rfl, _, rfl⟩
  exact PySem.SeqAt.in_tupleAt (fun _ => false) hl (fun y hy => absurd hy (by simp)) (by rw [Array.any_empty]; exact h s.toks)
theorem tw_all : ∀ l : List Nat, l.takeWhile (fun _ => false == false) = l ∧ l.dropWhile (fun _ => false == false) = []
  | [] => ⟨rfl, rfl⟩
  | a :: l => by
    obtain ⟨h1, h2⟩ := tw_all l
    exact ⟨by rw [List.takeWhile_cons_of_pos rfl, h1], by rw [List.dropWhile_cons_of_pos rfl, h2]⟩
theorem cuall_e {e n : Nat} (hE : Ends pz M N S k) (he : e ≠ sx ∧ e ≠ sd ∧ e ≠ tx ∧ e ≠ td ∧ e ≠ ra ∧ e ≠ el) (hv : Errs vs S.n) (hbf : BfV S.bo bf) (hnd : NQ6 sx sd tx td ra el) :
    TellR w 12 120 (.ref 156) [.ref sx, .ref e] (stS w sx sd tx td ra el nl κ κ' τ₀ τ₁ τ₂ τ₃ τ₄ σ₀ σ₁ S bf vs ep ++ [(e, { cls := .type "tuple", data := .seq #[] n })])
      (fun r f' rest => ∃ (S' : SS) (a0 a1 a2 a3 a4 b0 b1 : Nat) (bv : Value) (vs' : List Value) (ep' : Nat) (x : PySem.Str) (t : Nat), r = .str x t ∧ x.cps.toList = M.drop k ∧ Ends pz M N S' M.length ∧ x.length ≤ 40000 ∧
        BfV S'.bo bv ∧ Errs vs' S'.n ∧ f' = stS w sx sd tx td ra el nl κ κ' a0 a1 a2 a3 a4 b0 b1 S' bv vs' ep' ++ [(e, { cls := .type "tuple", data := .seq #[] n })]) := by
  have hw := hE.wf
  refine TellR.mono (charsUntil_t inby_none (List.forall_mem_singleton.mpr he) hv hbf hw hnd) ?_
  rintro r f' rest ⟨S', a0, a1, a2, a3, a4, b0, b1, bv, vs', ep', x, t, rfl, hx2, hr2, hw2, ht2, hp2, hb2, hv2, rfl⟩
  have hl := tw_len hw hx2
  obtain ⟨h1, h2⟩ := tw_all (rem S)
  rw [h1] at hx2 hp2
  rw [h2] at hr2
  rw [hE.rem] at hx2 hp2
  refine ⟨S', a0, a1, a2, a3, a4, b0, b1, bv, vs', ep', x, t, rfl, hx2, ⟨hw2, ?_, ht2.trans hE.tot, fun hz => ?_⟩, hl, hb2, hv2, rfl⟩
  · rw [hr2, List.drop_length]
  · have := hp2 _ (hE.pos hz)
    rw [List.take_append_drop] at this
    rw [List.take_length]; exact this
theorem char_e (hE : Ends pz M N S M.length) (hv : Errs vs S.n) (hbf : BfV S.bo bf) (hnd : NQ6 sx sd tx td ra el) :
    TellR w 8 80 (.ref 133) [.ref sx] (stS w sx sd tx td ra el nl κ κ' τ₀ τ₁ τ₂ τ₃ τ₄ σ₀ σ₁ S bf vs ep)
      (fun r f' rest => ∃ (S' : SS) (a0 a1 a2 a3 a4 b0 b1 : Nat) (bv : Value) (vs' : List Value) (ep' : Nat), r = .none ∧ Ends pz M N S' M.length ∧ BfV S'.bo bv ∧ Errs vs' S'.n ∧ f' = stS w sx sd tx td ra el nl κ κ' a0 a1 a2 a3 a4 b0 b1 S' bv vs' ep') := by
  have hw := hE.wf
  have hr := hE.rem
  rw [List.drop_length] at hr
  refine TellR.mono (char_s hv hbf hw hnd) ?_
  rintro r f' rest ⟨S', a0, a1, a2, a3, a4, b0, b1, bv, vs', ep', h1, h2, hw2, ht2, hp2, _, _, hb2, hv2, rfl⟩
  rw [hr] at h1 h2 hp2
  refine ⟨S', a0, a1, a2, a3, a4, b0, b1, bv, vs', ep', h1, ⟨hw2, ?_, ht2.trans hE.tot, fun hz => ?_⟩, hb2, hv2, rfl⟩
  · rw [h2, List.drop_length]; rfl
  · have := hp2 _ (hE.pos hz)
    rw [List.head?_nil, Option.toList_none, List.append_nil] at this
    exact this
end
theorem mend_nil : ∀ {l : List Nat}, mend false l = [] → l = []
  | [], _ => rfl
  | x :: l, h => by
    rw [mend_cons] at h
    split at h
    · cases h
    · rw [if_neg (by simp)] at h
      cases h
/-- at the end all faulty signs are told -/
theorem Ends.errs {pz : Prop} {M : List Nat} {N : Nat} {S : SS} (hE : Ends pz M N S M.length) : S.n = N := by
  have h1 := hE.rem
  have h2 := hE.tot
  rw [List.drop_length] at h1
  unfold Mine.rem at h1
  have h3 := mend_nil (List.append_eq_nil_iff.mp h1).2
  unfold Mine.tot at h2
  rw [h3] at h2
  exact h2
theorem cut_same {x y : PySem.Str} {M : List Nat} {k : Nat} {i : Int} (hx : x.cps.toList = M.drop k) (hy : y.cps.toList = M) (hi : i = (k : Nat)) (hk : k ≤ M.length) : (x != Txt.slice y (some i) none) = false := by
  have hl : y.length = M.length := by rw [← hy]; simp [PySem.Str.length]
  have e : (Txt.slice y (some i) none).cps.toList = M.drop k := by rw [slice_from (by omega) (by omega), hy, hi]; rfl
  show (!(x == Txt.slice y (some i) none)) = false
  rw [str_beq, hx, e]
  simp
theorem errs_carried : ∀ {vs : List Value} {n : Nat}, Errs vs n → CarriedAll vs (List.replicate n (PyData.str icS))
  | [], n, h => by
    have e : 0 = n := h.1
    subst e
    exact .nil
  | v :: vs, n, h => by
    obtain ⟨h1, h2⟩ := h
    obtain ⟨t, rfl⟩ := h2 v (.head _)
    have e : n = vs.length + 1 := h1.symm
    subst e
    rw [List.replicate_succ]
    exact .cons (.str _ _) (errs_carried ⟨rfl, fun u hu => h2 u (.tail _ hu)⟩)
theorem ic_lay : ∀ n, PyData.canLayAll0 (List.replicate n (PyData.str icS)) = true
  | 0 => rfl
  | n + 1 => by
    have e : PyData.canLay0 (PyData.str icS) = true := by decide +kernel
    rw [List.replicate_succ, PyData.canLayAll0, e, ic_lay n]
    rfl
theorem ic_depth : ∀ n, PyData.depthAll (List.replicate n (PyData.str icS)) = 0
  | 0 => rfl
  | n + 1 => by rw [List.replicate_succ, PyData.depthAll, ic_depth n]; rfl
theorem ic_shaped (n : Nat) : PySem.SeqAt.shaped (.list (List.replicate n (PyData.str icS))) = true := by
  simp [PySem.SeqAt.shaped, PyData.canLay0, PyData.depth, ic_lay, ic_depth]
theorem ic_eqv : ∀ n, PyData.eqvAll (List.replicate n (PyData.str icS)) (List.replicate n (PyData.str icS)) = true
  | 0 => rfl
  | n + 1 => by
    rw [List.replicate_succ, PyData.eqvAll, ic_eqv n]
    simp [PyData.eqv]
theorem errs_eq {prog : Program} {w : World} {A : Around} {E : Value → Shared → Prop} {s : Shared} {h₀ : Heap} {L a b : Addr} {news : List (Addr × Obj)} {vs ys : List Value} {n ep : Nat} {nx : Nat} {Q : Value → Shared → Prop} (N : News h₀ L s.heap news) (ha : (a, W.listOf vs.toArray ep) ∈ news) (hb : (b, { cls := Value.type "list", data := Data.seq ys.toArray nx }) ∈ news)
    (hv : Errs vs n) (hy : CarriedAll ys (List.replicate n (PyData.str icS))) (hu : A.units + 64 < cLine) (h : Q (.bool true) s) : wpAny (model prog w) A (compareOp .Eq (.ref a) (.ref b)) Q E s := by
  have ra : Reads s.heap (.ref a) (.list (List.replicate n (PyData.str icS))) [a] := reads_newData ⟨_, (N _ ha).1, rfl, _, rfl⟩ (errs_carried hv)
  have rb : Reads s.heap (.ref b) (.list (List.replicate n (PyData.str icS))) [b] := reads_newData ⟨_, (N _ hb).1, rfl, _, rfl⟩ hy
  refine eq_dataH ra rb (ic_shaped n) (ic_shaped n) hu ?_
  have e : PyData.eqv (.list (List.replicate n (PyData.str icS))) (.list (List.replicate n (PyData.str icS))) = true := by rw [PyData.eqv]; exact ic_eqv n
  rw [e]
  exact h
theorem faulty_count {y : PySem.Str} {M : List Nat} (hy : y.cps.toList = M) : ((signs y).filter fun a => a == PySem.Str.ofString "\x01").length = (M.filter fun c => decide (c = 1)).length := by
  have e : PySem.Str.ofString "\x01" = ⟨#[1]⟩ := by decide +kernel
  have h : ∀ l : List Nat, ((l.map fun c => (⟨#[c]⟩ : PySem.Str)).filter fun a => a == PySem.Str.ofString "\x01").length = (l.filter fun c => decide (c = 1)).length := by
    intro l
    induction l with
    | nil => rfl
    | cons c l ih =>
      rw [List.map_cons, List.filter_cons, List.filter_cons, one_eq e]
      split <;> simp [ih]
  have e2 : signs y = M.map fun c => (⟨#[c]⟩ : PySem.Str) := by rw [← hy]; rfl
  rw [e2]
  exact h M
theorem faulty_rep {ys : List Value} {y : PySem.Str} {M : List Nat} {n : Nat} (hy : y.cps.toList = M) (hn : n = (M.filter fun c => decide (c = 1)).length) (h : CarriedAll ys (((signs y).filter fun a => a == PySem.Str.ofString "\x01").map fun _ => PyData.str (PySem.Str.ofString "invalid-codepoint"))) : CarriedAll ys (List.replicate n (PyData.str icS)) := by
  rw [hn, ← faulty_count hy]
  rwa [List.map_const'] at h
section
variable {prog : Program} {w : World} {A : Around} {E : Value → Shared → Prop} {s : Shared} {h₀ : Heap} {L a b : Addr} {news : List (Addr × Obj)}
inductive AllAlike (prog : Program) (w : World) (A : Around) (s : Shared) : List Value → List Value → Prop
  | nil : AllAlike prog w A s [] []
  | cons {x y r l} : Alike prog w A s x y → AllAlike prog w A s r l → AllAlike prog w A s (x :: r) (y :: l)
theorem AllAlike.len : ∀ {xs ys : List Value}, AllAlike prog w A s xs ys → xs.length = ys.length
  | _, _, .nil => rfl
  | _, _, .cons _ h => by rw [List.length_cons, List.length_cons, h.len]
theorem AllAlike.at : ∀ {xs ys : List Value}, AllAlike prog w A s xs ys → ∀ (j : Nat) (x y : Value), xs[j]? = some x → ys[j]? = some y → Alike prog w A s x y
  | _, _, .nil, j, x, y, h, _ => by simp at h
  | _, _, .cons h1 h2, 0, x, y, hx, hy => by
    rw [List.getElem?_cons_zero] at hx hy
    cases hx
    cases hy
    exact h1
  | _, _, .cons h1 h2, j + 1, x, y, hx, hy => by
    rw [List.getElem?_cons_succ] at hx hy
    exact h2.at j x y hx hy
theorem alike_news {n m : Nat} {xs ys : List Value} {Q : Value → Shared → Prop} (N : News h₀ L s.heap news) (ha : (a, W.listOf xs.toArray n) ∈ news) (hb : (b, W.listOf ys.toArray m) ∈ news) (hu : A.units < cLine) (he : AllAlike prog w A.in1 s xs ys) (h : Q (.bool false) s) :
    wpAny (model prog w) A (compareOp .NotEq (.ref a) (.ref b)) Q E s := alike_lists he.len (N _ ha).1 (N _ hb).1 hu he.at h
theorem Rows.int {k : PySem.Str} {i : Int} {t u : Nat} {r l : List (PySem.Str × Value)} (h : valueAt l k = some (.int i u)) (hr : Rows r l) : Rows ((k, .int i t) :: r) l :=
  .cons h (fun _ => Reads.int _ _) (fun _ => Reads.int _ _) (by simp [PyData.eqv]) hr
theorem Rows.str {k x y : PySem.Str} {t u : Nat} {r l : List (PySem.Str × Value)} (h : valueAt l k = some (.str y u)) (e : x = y) (hr : Rows r l) : Rows ((k, .str x t) :: r) l := by
  subst e
  exact .cons h (fun _ => Reads.str _ _) (fun _ => Reads.str _ _) (by simp [PyData.eqv]) hr
end
theorem note_strs {ys : List Value} {z : PySem.Str} (h : CarriedAll ys (List.map (fun a => if (a == PySem.Str.ofString "\x00") = true then PyData.str (PySem.Str.ofString "�") else PyData.str a) (List.filter (fun _ => true) (signs z)))) :
    StrsAre ys.toArray.toList (z.cps.toList.map fun c => (⟨#[if c = 0 then 65533 else c]⟩ : PySem.Str)) := by
  have e0 : PySem.Str.ofString "\x00" = ⟨#[0]⟩ := by decide +kernel
  have e1 : PySem.Str.ofString "�" = ⟨#[65533]⟩ := by decide +kernel
  have e : (List.map (fun a => if (a == PySem.Str.ofString "\x00") = true then PyData.str (PySem.Str.ofString "�") else PyData.str a) (List.filter (fun _ => true) (signs z))) = z.cps.toList.map fun c => PyData.str (⟨#[if c = 0 then 65533 else c]⟩ : PySem.Str) := by
    have e3 : List.filter (fun _ => true) (signs z) = signs z := List.filter_eq_self.mpr fun _ _ => rfl
    rw [e3]
    show List.map _ (z.cps.toList.map fun n => (⟨#[n]⟩ : PySem.Str)) = _
    rw [List.map_map]
    refine List.map_congr_left fun c _ => ?_
    show (if ((⟨#[c]⟩ : PySem.Str) == PySem.Str.ofString "\x00") = true then PyData.str (PySem.Str.ofString "�") else PyData.str ⟨#[c]⟩) = _
    rw [one_eq e0, e1]
    by_cases hc : c = 0
    · rw [if_pos (decide_eq_true hc), if_pos hc]
    · rw [if_neg (by rw [decide_eq_false hc]; decide), if_neg hc]
  rw [e] at h
  exact h.strsOf
theorem flat_ones (f : Nat → Nat) : ∀ l : List Nat, flat (l.map fun c => (⟨#[f c]⟩ : PySem.Str)) = l.map f
  | [] => rfl
  | c :: l => by
    have := flat_ones f l
    simp only [flat, List.map_cons, List.flatMap_cons] at this ⊢
    rw [this]; rfl
theorem note_same {x y z : PySem.Str} {M : List Nat} (hM : y.cps.toList = M) (h1 : x.cps.toList = (M.takeWhile ngt).map fun a => if a = 0 then 65533 else a)
    (h2 : z.cps.toList = flat ((Txt.slice y none (some (((M.takeWhile ngt).length : Nat) : Int))).cps.toList.map fun c => (⟨#[if c = 0 then 65533 else c]⟩ : PySem.Str))) : x = z := by
  refine PySem.Str.ext' (Array.ext' ?_)
  rw [h1, h2, flat_ones, slice_to (Int.natCast_nonneg _), hM]
  rw [show (((M.takeWhile ngt).length : Nat) : Int).toNat = (M.takeWhile ngt).length from rfl, ← tw_take]
theorem join_i {prog : Program} {w : World} {A : Around} {E : Value → Shared → Prop} {s : Shared} {t : Tok} {Q : Value → Shared → Prop} {rv : Addr} {a : Array Value} {ws : List PySem.Str}
    (hl : s.heap.IsList rv a) (hs : StrsAre a.toList ws) (hb : (flat ws).length + ws.length ≤ 1048576)
    (h : ∀ t' k x, x.cps.toList = flat ws → Q (.str x t') { s with toks := k }) : wpAny (model prog w) A (call (.builtin "str.join") [.str (PySem.Str.ofString "") t, .ref rv]) Q E s := by
  have e : (PySem.Str.ofString "").length = 0 := by decide +kernel
  refine join_listW hl hs (by rw [e]; decide) (by rw [flat_len]; exact hb) fun t' k => h t' k _ (by unfold Txt.join; rw [StrLaws.glued_eq_join]; exact join_flat ws)
theorem note_len {y : PySem.Str} {i : Int} {f : Nat → Nat} (h0 : 0 ≤ i) (h : y.length ≤ 200) : (flat ((Txt.slice y none (some i)).cps.toList.map fun c => (⟨#[f c]⟩ : PySem.Str))).length + ((Txt.slice y none (some i)).cps.toList.map fun c => (⟨#[f c]⟩ : PySem.Str)).length ≤ 1048576 := by
  rw [flat_ones, List.length_map, List.length_map, slice_to h0, List.length_take, Array.length_toList]
  have : y.cps.size = y.length := rfl
  omega
end Mine
namespace Mine
/-! the law's body in pieces -/
def recOfWalk {q : Program} {loose : List PySem.Str} {XP : (PySem.Str → Option Value) → Heap → Prop} {YP : World → Heap → Prop} {r : RowW} {d : DefRec} {kwd : List (PySem.Str × PySem.Expr)} {run : Value → List Value → Sem Value} {R : Prop} (_h : WalkO q loose XP YP r d kwd run → R) : DefRec := d
noncomputable abbrev LR : DefRec := recOfWalk hd09
/-- from the n-th statement on the law hands back True, where the names ps and the objects led stand -/
def LawAt (w : World) (n : Nat) (ps : List (PySem.Str × Value)) (led : List (Addr × Obj)) : Prop :=
  ∀ (mean : ExcName → Option Value) (mg mb : PySem.Str → Option Value) (base h₀ : Heap) (L fa : Addr) (cd : Value) (m : PySem.Str → Option Value) (s : Shared) (Q : Flow → Shared → Prop) (E : Value → Shared → Prop),
    Below callerA base [] h₀ → Fr h₀ L s.heap m → (∀ p ∈ ps, m p.1 = some p.2) → (KF w).In h₀ → News h₀ L s.heap led → Top VW LZ mean mg mb h₀ → 0 < s.toks →
    (∀ h' tk' m', Fr h₀ L h' m' → Q (.ret (.bool true)) { s with heap := h', toks := tk' }) →
    wpAny (model PG w) (callerA.deeper (envOf (Str.ofString "law") LR.scope L fa cd)) (execs (LR.body.drop n) (envOf (Str.ofString "law") LR.scope L fa cd)) Q E s
theorem Ends.weak {pz pz' : Prop} {M : List Nat} {N : Nat} {S : SS} {k : Nat} (h : Ends pz M N S k) (hz : pz' → pz) : Ends pz' M N S k := ⟨h.wf, h.rem, h.tot, fun q => h.pos (hz q)⟩
theorem LawAt.use {w : World} {n : Nat} {ps : List (PySem.Str × Value)} {led news : List (Addr × Obj)} (hT : LawAt w n ps led) {mean : ExcName → Option Value} {mg mb : PySem.Str → Option Value} {base h₀ : Heap} {L fa : Addr} {cd : Value} {m : PySem.Str → Option Value} {s : Shared} {Q : Flow → Shared → Prop} {E : Value → Shared → Prop}
    (N : News h₀ L s.heap news) (hs : ∀ p ∈ led, p ∈ news) (F : Fr h₀ L s.heap m) (hps : ∀ p ∈ ps, m p.1 = some p.2) (B : Below callerA base [] h₀) (X : (KF w).In h₀) (T : Top VW LZ mean mg mb h₀) (htk : 0 < s.toks) (hret : ∀ h' tk' m', Fr h₀ L h' m' → Q (.ret (.bool true)) { s with heap := h', toks := tk' }) :
    wpAny (model PG w) (callerA.deeper (envOf (Str.ofString "law") LR.scope L fa cd)) (execs (LR.body.drop n) (envOf (Str.ofString "law") LR.scope L fa cd)) Q E s :=
  hT mean mg mb base h₀ L fa cd m s Q E B F hps X (nsub N hs) T htk hret
end Mine
theorem Mine.off_s1 {M : Model} {A : Around} {env : Env} {Q : Flow → Shared → Prop} {E : Value → Shared → Prop} {s : Shared} (h : wpAny M A (execs [] env) Q E s) : wpAny M A (execs [] env) Q E s := by
  (try (walk1; fail "no"))
  w_top off
  exact h
namespace Mine
local macro_rules | `(tactic| k_ne) => `(tactic| first | exact (show Nq _ _ by with_reducible assumption) | exact Ne.symm (show Nq _ _ by with_reducible assumption) | (refine neN ?_; (try dsimp only); omega))
local macro_rules | `(tactic| k_room) => `(tactic| ((try simp only [depth_under_make, depth_under_kw, depth_in1, depth_deeper, depth_caller, ktrTop, recursionLimit] at *); omega))
local macro_rules | `(tactic| k_units) => `(tactic| ((have hcL9 := cLine_is); (try simp only [units_in1, units_deeper, Around.mark_units, units_caller, ktrTop] at *); omega))
local macro_rules | `(tactic| ktr_enter) => `(tactic| (refine' code_def ?k1 ?k2 ?k3 ?k4 ?k5 ?kA ?kF ?kK ?k6 ?k7 ?k8 ?k9 ?kB ?_ ?c2 ?c3 ?c4 ?c5; (case kA => exact rfl); (case kF => exact rfl); (case kK => first | exact rfl | assumption); (case k1 => k_asm); (case k2 => k_asm); (case k3 => k_asm); (case k4 => k_asm); (case k5 => k_asm); (case k6 => k_is); (case k7 => k_is); (case k8 => k_room); (case k9 => first | exact BindsTo.of_eq rfl | exact binds_K (by k_in) rfl (by k_is) rfl rfl rfl); (case c5 => decide); (case kB => exact locs rfl); (case c2 => exact rfl); (case c3 => exact rfl); (case c4 => exact rfl); k_whole; intro g' L' h' FG' F' N' B' X' T'; (try dsimp only); (try k_fold)))
local macro_rules | `(tactic| k_all) => `(tactic| (with_reducible assumption))
local macro_rules | `(tactic| tb_lt) => `(tactic| first | exact Pick.head | (refine' Pick.tail ?c; (case c => tb_lt)))
local macro_rules | `(tactic| tb_start) => `(tactic| first | exact Picks.nil | (refine' Picks.cons ?a ?b; (case a => tb_lt); (case b => tb_start)))
local macro_rules | `(tactic| tb_rel) => `(tactic| first | exact List.forall_mem_nil _ | (refine' List.forall_mem_cons.mpr ⟨?a, ?b⟩; (case a => k_all); (case b => tb_rel)))
local macro_rules | `(tactic| walk_at "TPost") => `(tactic| (dsimp only [TPost]))
local macro_rules | `(tactic| size_fits) => `(tactic| ((simp only [PySem.sizeLine_eq, List.size_toArray]); omega))
local macro_rules | `(tactic| k_gentoks) => `(tactic| (with_reducible refine' gen_toksP ?hp ?_; (case hp => first | omega | ((try simp only [List.length_cons]); omega)); intro tk htk))
local macro_rules | `(tactic| kstt_sub) => `(tactic| first | exact fun _ h => h | assumption | (refine' subCons ?a ?b; (case a => k_mem); (case b => kstt_sub)) | (refine' subTail ?a; (case a => kstt_sub)))
local macro_rules | `(tactic| kst_all) => `(tactic| first | exact List.forall_mem_nil _ | (refine' List.forall_mem_cons.mpr ⟨?a, ?b⟩; (case a => exact rfl); (case b => kst_all)))
local macro_rules | `(tactic| walk_at "MidEnd") => `(tactic| first
  | ((with_reducible show MidEnd _ _ _ _ _ _ _ Flow.next _); (refine' ⟨(tk8 _ _ _ _ _ _ _ _, _), _, _, _, rfl, ?F, ?N, ?ps, ?P⟩); (case F => assumption); (case N => (refine' nsub ?N1 ?N2; (case N1 => assumption); (case N2 => kstt_sub))); (case ps => kst_all); (case P => k_extra "mid"))
  | ((fail_if_success (with_reducible show MidEnd _ _ _ _ _ _ _ Flow.next _)); dsimp only [MidEnd]))
local macro_rules | `(tactic| walk_at "WEnd") => `(tactic| ((fail_if_success (with_reducible show WEnd _ _ _ _ _ _ _ _ _ Flow.next _)); dsimp only [WEnd]))
local macro_rules | `(tactic| walk_at "callWith") => `(tactic| (k_here; (with_reducible refine' callWith_method1 ?_ ?he ?hp); (case he => k_dflt rfl); (case hp => k_dflt rfl)))
local macro_rules | `(tactic| k_steps) => `(tactic| repeat' (first | (k_unfold; (try dsimp only)) | (k_end; wrow_close) | walk1 | (dsimp only [List.cons_append, List.nil_append]; walk1) | (dsimp only) | fail "no step"))
section
local macro_rules | `(tactic| walk_at "ite") => `(tactic| (k_here; first | (refine if_yes ?a ?_; (case a => with_reducible assumption)) | (refine if_no ?a ?_; (case a => with_reducible assumption)) | (refine if_no ?a ?_; (case a => k_extra "same"))))
local macro_rules | `(tactic| walk_at "subscriptTail") => `(tactic| (k_here; (with_reducible show wpAny _ _ (subscriptTail _ _ (Value.ref _) (Value.int _ _)) _ _ _); k_dflt (refine' item_last_t ?N ?hm ?hv ?_; (case N => assumption); (case hm => k_mem); (case hv => assumption))))
local macro_rules | `(tactic| walk_at "subscriptTail Name UnaryOp ref int") => `(tactic| (k_here; (with_reducible show wpAny _ _ (subscriptTail _ _ (Value.ref _) (Value.int _ _)) _ _ _); k_dflt (refine' item_last_t ?N ?hm ?hv ?_; (case N => assumption); (case hm => k_mem); (case hv => assumption))))
local macro_rules | `(tactic| walk_at "compareOp Eq ref ref") => `(tactic| (k_here; (with_reducible show wpAny _ _ (compareOp CmpOp.Eq (Value.ref _) (Value.ref _)) _ _ _); k_dflt (refine' pair_eq ?N ?ha ?hb ?hx ?hy ?hu ?_; (case N => assumption); (case ha => k_mem); (case hb => ((repeat refine' List.Mem.tail _ ?_); with_reducible assumption)); (case hx => first | rfl | rw [List.take_length]); (case hy => first | rfl | rw [List.take_length]); (case hu => ke_room))))
local macro_rules | `(tactic| walk_at "newTuple") => `(tactic| (k_here; k_dflt (refine' kup_newTuple ?F ?N ?_ ?z; (case F => k_asm); (case N => k_asm); (case z => kmk_size)); intro D' h' F' N' l1; (try k_lt l1); (try k_sweep)))
local macro_rules | `(tactic| walk_at "compareOp Eq ref ref") => `(tactic| (k_here; (with_reducible show wpAny _ _ (compareOp CmpOp.Eq (Value.ref _) (Value.ref _)) _ _ _); k_dflt (refine' errs_eq ?N ?ha ?hb ?hv ?hy ?hu ?_; (case N => assumption); (case ha => k_mem); (case hb => k_mem); (case hv => assumption); (case hy => k_extra "fa"); (case hu => ke_room))))
local macro_rules | `(tactic| walk_at "call ref") => `(tactic| (k_here; k_dflt (refine' TellR.use (position_e ?a1 ?a2 ?a3) ?k1 ?k2 ?k3 ?k4 ?k5 ?kK ?kp ?ko ?kd ?ku ?k0 ?_; (case k1 => k_asm); (case k2 => k_asm); (case k3 => k_asm); (case k4 => k_asm); (case k5 => k_asm); (case kK => first | exact rfl | assumption); (case kp => tb_start); (case ko => tb_rel); (case a1 => with_reducible assumption); (case a2 => k_extra "pz"); (case a3 => k_ne); (case kd => k_room); (case ku => k_units); (case k0 => first | exact (show 1 ≤ _ by (try dsimp only); omega) | exact Nat.zero_le _); intro r9 f9 h9 tk9 p9 F9 N9 hP9; obtain ⟨ta2, t1, t2, e1, e2, hl2⟩ := hP9; subst e1; subst e2; simp only [AllLt, and_true] at hl2; (try dsimp only [List.nil_append, List.cons_append] at N9); (try k_fold))))
local macro_rules | `(tactic| walk_at "call ref") => `(tactic| (k_here; k_dflt (refine' TellR.use (char_e ?a1 ?a2 ?a3 ?a4) ?k1 ?k2 ?k3 ?k4 ?k5 ?kK ?kp ?ko ?kd ?ku ?k0 ?_; (case k1 => k_asm); (case k2 => k_asm); (case k3 => k_asm); (case k4 => k_asm); (case k5 => k_asm); (case kK => first | exact rfl | assumption); (case kp => tb_start); (case ko => tb_rel); (case a1 => with_reducible assumption); (case a2 => with_reducible assumption); (case a3 => with_reducible assumption); (case a4 => with_reducible assumption); (case kd => k_room); (case ku => k_units); (case k0 => first | exact (show 1 ≤ _ by (try dsimp only); omega) | exact Nat.zero_le _); intro r9 f9 h9 tk9 p9 F9 N9 hP9; obtain ⟨S2, a0, a1, a2, a3, a4, b0, b1, bv2, vs2, ep2, e1, hE2, hb2, hv2, e2⟩ := hP9; subst e1; subst e2; dsimp only [stS, stL, List.cons_append, List.nil_append] at N9; (try dsimp only [List.nil_append, List.cons_append] at N9); (try k_fold))))
local macro_rules | `(tactic| walk_at "call ref") => `(tactic| (k_here; k_dflt (refine' TellR.use (cuall_e ?a1 ?a2 ?a3 ?a4 ?a5) ?k1 ?k2 ?k3 ?k4 ?k5 ?kK ?kp ?ko ?kd ?ku ?k0 ?_; (case k1 => k_asm); (case k2 => k_asm); (case k3 => k_asm); (case k4 => k_asm); (case k5 => k_asm); (case kK => first | exact rfl | assumption); (case kp => tb_start); (case ko => tb_rel); (case a1 => with_reducible assumption); (case a2 => refine ⟨?_, ?_, ?_, ?_, ?_, ?_⟩ <;> k_ne); (case a3 => with_reducible assumption); (case a4 => with_reducible assumption); (case a5 => with_reducible assumption); (case kd => k_room); (case ku => k_units); (case k0 => first | exact (show 1 ≤ _ by (try dsimp only); omega) | exact Nat.zero_le _); intro r9 f9 h9 tk9 p9 F9 N9 hP9; obtain ⟨S2, a0, a1, a2, a3, a4, b0, b1, bv2, vs2, ep2, x2, t2, e1, hx2, hE2, hl9, hb2, hv2, e2⟩ := hP9; subst e1; subst e2; dsimp only [stS, stL, List.cons_append, List.nil_append] at N9; (try dsimp only [List.nil_append, List.cons_append] at N9); (try k_fold))))
theorem tail_t {w : World} {hx hd tq lf sx sd tx td ra el nl fa9 pa9 pl9 : Nat} {κ κs κx : Nat → Nat} {a0 a1 a2 a3 a4 b0 b1 : Nat} {S : SS} {bv st cto : Value} {vs ysF usP : List Value} {ep nxF epP bt mt ct plt plu : Nat} {R : List (Addr × Obj)} {yy : PySem.Str} {M : List Nat} {N k : Nat} {b kt : Int}
    (hM : yy.cps.toList = M) (hyl : yy.length ≤ 200) (hk9 : k ≤ M.length) (hkt : kt = (k : Nat)) (hE : Ends (b = 0) M N S k) (hb0 : 0 ≤ b) (hfa : CarriedAll ysF (List.replicate N (PyData.str icS))) (hpl2 : usP.toArray.back? = some (Value.ref pl9)) (hpm2 : List.Mem (pl9, pairObj (lcL M + 1) (lcC 0 M) plt plu) R)
    (hv : Errs vs S.n) (hbf : BfV S.bo bv) (hnd : NQ6 sx sd tx td ra el) (hh : HQ hx hd tq sx sd tx td ra el)
    (hf : Nq fa9 hx ∧ Nq fa9 hd ∧ Nq fa9 sx ∧ Nq fa9 sd ∧ Nq fa9 tx ∧ Nq fa9 td ∧ Nq fa9 ra ∧ Nq fa9 el) (hp : Nq pa9 hx ∧ Nq pa9 hd ∧ Nq pa9 sx ∧ Nq pa9 sd ∧ Nq pa9 tx ∧ Nq pa9 td ∧ Nq pa9 ra ∧ Nq pa9 el)
    (r1 : ∀ p ∈ R, p.1 ≠ sx) (r2 : ∀ p ∈ R, p.1 ≠ sd) (r3 : ∀ p ∈ R, p.1 ≠ tx) (r4 : ∀ p ∈ R, p.1 ≠ td) (r5 : ∀ p ∈ R, p.1 ≠ ra) (r6 : ∀ p ∈ R, p.1 ≠ el) :
    LawAt w 16 [(Str.ofString "reader", .ref hx), (Str.ofString "mended", .str yy mt), (Str.ofString "places", .ref pa9), (Str.ofString "faulty", .ref fa9), (Str.ofString "border", .int b bt), (Str.ofString "taken", .int kt ct)]
      ((hx, instObj 762 hd) :: (hd, hdD8 w κ sx lf tq st cto) :: (stS w sx sd tx td ra el nl κs κx a0 a1 a2 a3 a4 b0 b1 S bv vs ep ++ (fa9, { cls := Value.type "list", data := Data.seq ysF.toArray nxF }) :: (pa9, W.listOf usP.toArray epP) :: R)) := by
  unfold LawAt KF PG
  k_fill
  intro mean mg mb base h₀ L fa cd m s Q E B F hps X N9 T htk hret
  rw [← kstB_self hps] at F
  clear hps
  dsimp only [stS, stL, List.cons_append, List.nil_append] at N9
  unfold NQ6 at hnd
  have hnd' : NQ6 sx sd tx td ra el := hnd
  obtain ⟨q1, q2, q3, q4, q5, q6, q7, q8, q9, q10, q11, q12, q13, q14, q15⟩ := hnd
  unfold HQ at hh
  obtain ⟨g1, g2, g3, g4, g5, g6, g7, g8, g9, g10, g11, g12, g13, g14, g15, g16, g17, g18, g19, g20, g21⟩ := hh
  obtain ⟨f1, f2, f3, f4, f5, f6, f7, f8⟩ := hf
  obtain ⟨p1, p2, p3, p4, p5, p6, p7, p8⟩ := hp
  simp only [LR, recOfWalk, List.drop_succ_cons, List.drop_zero]
  (try k_fold)
  k_with_none
  k_with "pz" => first | trivial | omega
  k_with "same" => ((rename _ = List.drop _ _ => hcut9); exact cut_same hcut9 hM hkt hk9)
  k_with "fa" => ((rename Ends _ _ _ _ _ => hEf9); rw [hEf9.errs]; exact hfa)
  k_steps
  all_goals first | exact hret _ _ _ (by assumption) | (rw [show decide (0 < b) = true from decide_eq_true (by omega)]; exact hret _ _ _ (by assumption))
end
end Mine
theorem Mine.off_s2 {M : Model} {A : Around} {env : Env} {Q : Flow → Shared → Prop} {E : Value → Shared → Prop} {s : Shared} (h : wpAny M A (execs [] env) Q E s) : wpAny M A (execs [] env) Q E s := by
  (try (walk1; fail "no"))
  w_top off
  exact h
namespace Mine
local macro_rules | `(tactic| k_ne) => `(tactic| first | exact (show Nq _ _ by with_reducible assumption) | exact Ne.symm (show Nq _ _ by with_reducible assumption) | (refine neN ?_; (try dsimp only); omega))
local macro_rules | `(tactic| k_room) => `(tactic| ((try simp only [depth_under_make, depth_under_kw, depth_in1, depth_deeper, depth_caller, ktrTop, recursionLimit] at *); omega))
local macro_rules | `(tactic| k_units) => `(tactic| ((have hcL9 := cLine_is); (try simp only [units_in1, units_deeper, Around.mark_units, units_caller, ktrTop] at *); omega))
local macro_rules | `(tactic| ktr_enter) => `(tactic| (refine' code_def ?k1 ?k2 ?k3 ?k4 ?k5 ?kA ?kF ?kK ?k6 ?k7 ?k8 ?k9 ?kB ?_ ?c2 ?c3 ?c4 ?c5; (case kA => exact rfl); (case kF => exact rfl); (case kK => first | exact rfl | assumption); (case k1 => k_asm); (case k2 => k_asm); (case k3 => k_asm); (case k4 => k_asm); (case k5 => k_asm); (case k6 => k_is); (case k7 => k_is); (case k8 => k_room); (case k9 => first | exact BindsTo.of_eq rfl | exact binds_K (by k_in) rfl (by k_is) rfl rfl rfl); (case c5 => decide); (case kB => exact locs rfl); (case c2 => exact rfl); (case c3 => exact rfl); (case c4 => exact rfl); k_whole; intro g' L' h' FG' F' N' B' X' T'; (try dsimp only); (try k_fold)))
local macro_rules | `(tactic| k_all) => `(tactic| (with_reducible assumption))
local macro_rules | `(tactic| tb_lt) => `(tactic| first | exact Pick.head | (refine' Pick.tail ?c; (case c => tb_lt)))
local macro_rules | `(tactic| tb_start) => `(tactic| first | exact Picks.nil | (refine' Picks.cons ?a ?b; (case a => tb_lt); (case b => tb_start)))
local macro_rules | `(tactic| tb_rel) => `(tactic| first | exact List.forall_mem_nil _ | (refine' List.forall_mem_cons.mpr ⟨?a, ?b⟩; (case a => k_all); (case b => tb_rel)))
local macro_rules | `(tactic| walk_at "TPost") => `(tactic| (dsimp only [TPost]))
local macro_rules | `(tactic| size_fits) => `(tactic| ((simp only [PySem.sizeLine_eq, List.size_toArray]); omega))
local macro_rules | `(tactic| k_gentoks) => `(tactic| (with_reducible refine' gen_toksP ?hp ?_; (case hp => first | omega | ((try simp only [List.length_cons]); omega)); intro tk htk))
local macro_rules | `(tactic| kstt_sub) => `(tactic| first | exact fun _ h => h | assumption | (refine' subCons ?a ?b; (case a => k_mem); (case b => kstt_sub)) | (refine' subTail ?a; (case a => kstt_sub)))
local macro_rules | `(tactic| kst_all) => `(tactic| first | exact List.forall_mem_nil _ | (refine' List.forall_mem_cons.mpr ⟨?a, ?b⟩; (case a => exact rfl); (case b => kst_all)))
local macro_rules | `(tactic| walk_at "MidEnd") => `(tactic| first
  | ((with_reducible show MidEnd _ _ _ _ _ _ _ Flow.next _); (refine' ⟨(tk8 _ _ _ _ _ _ _ _, _), _, _, _, rfl, ?F, ?N, ?ps, ?P⟩); (case F => assumption); (case N => (refine' nsub ?N1 ?N2; (case N1 => assumption); (case N2 => kstt_sub))); (case ps => kst_all); (case P => k_extra "mid"))
  | ((fail_if_success (with_reducible show MidEnd _ _ _ _ _ _ _ Flow.next _)); dsimp only [MidEnd]))
local macro_rules | `(tactic| walk_at "WEnd") => `(tactic| ((fail_if_success (with_reducible show WEnd _ _ _ _ _ _ _ _ _ Flow.next _)); dsimp only [WEnd]))
local macro_rules | `(tactic| walk_at "callWith") => `(tactic| (k_here; (with_reducible refine' callWith_method1 ?_ ?he ?hp); (case he => k_dflt rfl); (case hp => k_dflt rfl)))
local macro_rules | `(tactic| k_steps) => `(tactic| repeat' (first | (k_unfold; (try dsimp only)) | (k_end; wrow_close) | walk1 | (dsimp only [List.cons_append, List.nil_append]; walk1) | (dsimp only) | fail "no step"))
section
local macro_rules | `(tactic| walk_at "ite") => `(tactic| (k_here; first | (refine if_yes ?a ?_; (case a => with_reducible assumption)) | (refine if_no ?a ?_; (case a => with_reducible assumption)) | (refine if_no ?a ?_; (case a => k_extra "same"))))
local macro_rules | `(tactic| walk_at "subscriptTail") => `(tactic| (k_here; (with_reducible show wpAny _ _ (subscriptTail _ _ (Value.ref _) (Value.int _ _)) _ _ _); k_dflt (refine' item_last_t ?N ?hm ?hv ?_; (case N => assumption); (case hm => k_mem); (case hv => assumption))))
local macro_rules | `(tactic| walk_at "subscriptTail Name UnaryOp ref int") => `(tactic| (k_here; (with_reducible show wpAny _ _ (subscriptTail _ _ (Value.ref _) (Value.int _ _)) _ _ _); k_dflt (refine' item_last_t ?N ?hm ?hv ?_; (case N => assumption); (case hm => k_mem); (case hv => assumption))))
local macro_rules | `(tactic| walk_at "compareOp Eq ref ref") => `(tactic| (k_here; (with_reducible show wpAny _ _ (compareOp CmpOp.Eq (Value.ref _) (Value.ref _)) _ _ _); k_dflt (refine' pair_eq ?N ?ha ?hb ?hx ?hy ?hu ?_; (case N => assumption); (case ha => k_mem); (case hb => ((repeat refine' List.Mem.tail _ ?_); with_reducible assumption)); (case hx => first | rfl | rw [List.take_length]); (case hy => first | rfl | rw [List.take_length]); (case hu => ke_room))))
local macro_rules | `(tactic| walk_at "newTuple") => `(tactic| (k_here; k_dflt (refine' kup_newTuple ?F ?N ?_ ?z; (case F => k_asm); (case N => k_asm); (case z => kmk_size)); intro D' h' F' N' l1; (try k_lt l1); (try k_sweep)))
local macro_rules | `(tactic| walk_at "compareOp Eq ref ref") => `(tactic| (k_here; (with_reducible show wpAny _ _ (compareOp CmpOp.Eq (Value.ref _) (Value.ref _)) _ _ _); k_dflt (refine' errs_eq ?N ?ha ?hb ?hv ?hy ?hu ?_; (case N => assumption); (case ha => k_mem); (case hb => k_mem); (case hv => assumption); (case hy => k_extra "fa"); (case hu => ke_room))))
local macro_rules | `(tactic| walk_at "subscriptTail") => `(tactic| (k_here; (with_reducible show wpAny _ _ (subscriptTail _ _ (Value.ref _) (Value.int _ _)) _ _ _); k_dflt (refine' item_pl ?N ?hm ?h0 ?hk ?hv ?_; (case N => assumption); (case hm => k_mem); (case h0 => omega); (case hk => omega); (case hv => with_reducible assumption))))
local macro_rules | `(tactic| walk_at "compareOp NotEq ref ref") => `(tactic| (k_here; (with_reducible show wpAny _ _ (compareOp CmpOp.NotEq (Value.ref _) (Value.ref _)) _ _ _); k_dflt (refine' pair_ne ?N ?ha ?hb ?hx ?hy ?hu ?_; (case N => assumption); (case ha => k_mem); (case hb => ((repeat refine' List.Mem.tail _ ?_); with_reducible assumption)); (case hx => rfl); (case hy => rfl); (case hu => ke_room))))
local macro_rules | `(tactic| walk_at "call ref") => `(tactic| (k_here; k_dflt (refine' TellR.use (position_e ?a1 ?a2 ?a3) ?k1 ?k2 ?k3 ?k4 ?k5 ?kK ?kp ?ko ?kd ?ku ?k0 ?_; (case k1 => k_asm); (case k2 => k_asm); (case k3 => k_asm); (case k4 => k_asm); (case k5 => k_asm); (case kK => first | exact rfl | assumption); (case kp => tb_start); (case ko => tb_rel); (case a1 => with_reducible assumption); (case a2 => k_extra "pz"); (case a3 => k_ne); (case kd => k_room); (case ku => k_units); (case k0 => first | exact (show 1 ≤ _ by (try dsimp only); omega) | exact Nat.zero_le _); intro r9 f9 h9 tk9 p9 F9 N9 hP9; obtain ⟨ta2, t1, t2, e1, e2, hl2⟩ := hP9; subst e1; subst e2; simp only [AllLt, and_true] at hl2; (try dsimp only [List.nil_append, List.cons_append] at N9); (try k_fold))))
theorem midAB2_t {w : World} {hx hd tq lf sx sd tx td ra el nl fa9 pa9 pl9 : Nat} {κ κs κx : Nat → Nat} {a0 a1 a2 a3 a4 b0 b1 : Nat} {S : SS} {bv st cto : Value} {vs ysF usP : List Value} {ep nxF epP bt mt ct plt plu pk pkt pku : Nat} {R : List (Addr × Obj)} {yy : PySem.Str} {M : List Nat} {N : Nat} {b : Int}
    (hM : yy.cps.toList = M) (hyl : yy.length ≤ 200) (hk9 : 2 ≤ M.length) (hE : Ends True M N S 2) (hpk : usP[Int.toNat 2]? = some (Value.ref pk)) (hmk : List.Mem (pk, pairObj (lcL (M.take 2) + 1) (lcC 0 (M.take 2)) pkt pku) R) (hb0 : 0 ≤ b) (hfa : CarriedAll ysF (List.replicate N (PyData.str icS))) (hpl2 : usP.toArray.back? = some (Value.ref pl9)) (hpm2 : List.Mem (pl9, pairObj (lcL M + 1) (lcC 0 M) plt plu) R)
    (hv : Errs vs S.n) (hbf : BfV S.bo bv) (hnd : NQ6 sx sd tx td ra el) (hh : HQ hx hd tq sx sd tx td ra el)
    (hf : Nq fa9 hx ∧ Nq fa9 hd ∧ Nq fa9 sx ∧ Nq fa9 sd ∧ Nq fa9 tx ∧ Nq fa9 td ∧ Nq fa9 ra ∧ Nq fa9 el) (hp : Nq pa9 hx ∧ Nq pa9 hd ∧ Nq pa9 sx ∧ Nq pa9 sd ∧ Nq pa9 tx ∧ Nq pa9 td ∧ Nq pa9 ra ∧ Nq pa9 el)
    (r1 : ∀ p ∈ R, p.1 ≠ sx) (r2 : ∀ p ∈ R, p.1 ≠ sd) (r3 : ∀ p ∈ R, p.1 ≠ tx) (r4 : ∀ p ∈ R, p.1 ≠ td) (r5 : ∀ p ∈ R, p.1 ≠ ra) (r6 : ∀ p ∈ R, p.1 ≠ el) :
    LawAt w 14 [(Str.ofString "reader", .ref hx), (Str.ofString "mended", .str yy mt), (Str.ofString "places", .ref pa9), (Str.ofString "faulty", .ref fa9), (Str.ofString "border", .int b bt), (Str.ofString "taken", .int 2 ct)]
      ((hx, instObj 762 hd) :: (hd, hdD8 w κ sx lf tq st cto) :: (stS w sx sd tx td ra el nl κs κx a0 a1 a2 a3 a4 b0 b1 S bv vs ep ++ (fa9, { cls := Value.type "list", data := Data.seq ysF.toArray nxF }) :: (pa9, W.listOf usP.toArray epP) :: R)) := by
  unfold LawAt KF PG
  k_fill
  intro mean mg mb base h₀ L fa cd m s Q E B F hps X N9 T htk hret
  rw [← kstB_self hps] at F
  clear hps
  dsimp only [stS, stL, List.cons_append, List.nil_append] at N9
  have hnd' : NQ6 sx sd tx td ra el := hnd
  unfold NQ6 at hnd
  obtain ⟨q1, q2, q3, q4, q5, q6, q7, q8, q9, q10, q11, q12, q13, q14, q15⟩ := hnd
  have hh' : HQ hx hd tq sx sd tx td ra el := hh
  unfold HQ at hh
  obtain ⟨g1, g2, g3, g4, g5, g6, g7, g8, g9, g10, g11, g12, g13, g14, g15, g16, g17, g18, g19, g20, g21⟩ := hh
  have hf' := hf
  obtain ⟨f1, f2, f3, f4, f5, f6, f7, f8⟩ := hf
  have hp' := hp
  obtain ⟨p1, p2, p3, p4, p5, p6, p7, p8⟩ := hp
  simp only [LR, recOfWalk, List.drop_succ_cons, List.drop_zero]
  (try k_fold)
  k_with_none
  k_with "pz" => trivial
  repeat' (first | ((fail_if_success (with_reducible show wpAny _ _ (execs (_ :: _ :: []) _) _ _ _)); (first | (k_unfold; (try dsimp only)) | (k_end; wrow_close) | walk1 | (dsimp only [List.cons_append, List.nil_append]; walk1) | (dsimp only) | fail "no step")) | fail "x")
  refine' LawAt.use (tail_t (fa9 := fa9) (pa9 := pa9) (ysF := ysF) (nxF := nxF) (usP := usP) (epP := epP) (R := R) (M := M) (N := N) (k := 2) hM hyl hk9 rfl ?tE hb0 hfa hpl2 hpm2 ?tv ?tb hnd' hh' hf' hp' r1 r2 r3 r4 r5 r6) ?tN ?ts ?tF ?tps ?tB ?tX ?tT ?ttk ?tret
  (case tN => assumption)
  (case ts => ((dsimp only [stS, stL, List.cons_append, List.nil_append]); kstt_sub))
  (case tF => assumption)
  (case tps => kst_all)
  (case tB => assumption)
  (case tX => assumption)
  (case tT => assumption)
  (case ttk => (first | assumption | (dsimp only; omega)))
  (case tret => (intro h' tk' m' F'; exact hret _ _ _ F'))
  (case tE => (rename Ends _ _ _ _ _ => hEl; exact hEl.weak (fun _ => trivial)))
  (case tv => assumption)
  (case tb => assumption)
theorem midAB7_t {w : World} {hx hd tq lf sx sd tx td ra el nl fa9 pa9 pl9 : Nat} {κ κs κx : Nat → Nat} {a0 a1 a2 a3 a4 b0 b1 : Nat} {S : SS} {bv st cto : Value} {vs ysF usP : List Value} {ep nxF epP bt mt ct plt plu pk pkt pku : Nat} {R : List (Addr × Obj)} {yy : PySem.Str} {M : List Nat} {N : Nat} {b : Int}
    (hM : yy.cps.toList = M) (hyl : yy.length ≤ 200) (hk9 : 7 ≤ M.length) (hE : Ends True M N S 7) (hpk : usP[Int.toNat 7]? = some (Value.ref pk)) (hmk : List.Mem (pk, pairObj (lcL (M.take 7) + 1) (lcC 0 (M.take 7)) pkt pku) R) (hb0 : 0 ≤ b) (hfa : CarriedAll ysF (List.replicate N (PyData.str icS))) (hpl2 : usP.toArray.back? = some (Value.ref pl9)) (hpm2 : List.Mem (pl9, pairObj (lcL M + 1) (lcC 0 M) plt plu) R)
    (hv : Errs vs S.n) (hbf : BfV S.bo bv) (hnd : NQ6 sx sd tx td ra el) (hh : HQ hx hd tq sx sd tx td ra el)
    (hf : Nq fa9 hx ∧ Nq fa9 hd ∧ Nq fa9 sx ∧ Nq fa9 sd ∧ Nq fa9 tx ∧ Nq fa9 td ∧ Nq fa9 ra ∧ Nq fa9 el) (hp : Nq pa9 hx ∧ Nq pa9 hd ∧ Nq pa9 sx ∧ Nq pa9 sd ∧ Nq pa9 tx ∧ Nq pa9 td ∧ Nq pa9 ra ∧ Nq pa9 el)
    (r1 : ∀ p ∈ R, p.1 ≠ sx) (r2 : ∀ p ∈ R, p.1 ≠ sd) (r3 : ∀ p ∈ R, p.1 ≠ tx) (r4 : ∀ p ∈ R, p.1 ≠ td) (r5 : ∀ p ∈ R, p.1 ≠ ra) (r6 : ∀ p ∈ R, p.1 ≠ el) :
    LawAt w 14 [(Str.ofString "reader", .ref hx), (Str.ofString "mended", .str yy mt), (Str.ofString "places", .ref pa9), (Str.ofString "faulty", .ref fa9), (Str.ofString "border", .int b bt), (Str.ofString "taken", .int 7 ct)]
      ((hx, instObj 762 hd) :: (hd, hdD8 w κ sx lf tq st cto) :: (stS w sx sd tx td ra el nl κs κx a0 a1 a2 a3 a4 b0 b1 S bv vs ep ++ (fa9, { cls := Value.type "list", data := Data.seq ysF.toArray nxF }) :: (pa9, W.listOf usP.toArray epP) :: R)) := by
  unfold LawAt KF PG
  k_fill
  intro mean mg mb base h₀ L fa cd m s Q E B F hps X N9 T htk hret
  rw [← kstB_self hps] at F
  clear hps
  dsimp only [stS, stL, List.cons_append, List.nil_append] at N9
  have hnd' : NQ6 sx sd tx td ra el := hnd
  unfold NQ6 at hnd
  obtain ⟨q1, q2, q3, q4, q5, q6, q7, q8, q9, q10, q11, q12, q13, q14, q15⟩ := hnd
  have hh' : HQ hx hd tq sx sd tx td ra el := hh
  unfold HQ at hh
  obtain ⟨g1, g2, g3, g4, g5, g6, g7, g8, g9, g10, g11, g12, g13, g14, g15, g16, g17, g18, g19, g20, g21⟩ := hh
  have hf' := hf
  obtain ⟨f1, f2, f3, f4, f5, f6, f7, f8⟩ := hf
  have hp' := hp
  obtain ⟨p1, p2, p3, p4, p5, p6, p7, p8⟩ := hp
  simp only [LR, recOfWalk, List.drop_succ_cons, List.drop_zero]
  (try k_fold)
  k_with_none
  k_with "pz" => trivial
  repeat' (first | ((fail_if_success (with_reducible show wpAny _ _ (execs (_ :: _ :: []) _) _ _ _)); (first | (k_unfold; (try dsimp only)) | (k_end; wrow_close) | walk1 | (dsimp only [List.cons_append, List.nil_append]; walk1) | (dsimp only) | fail "no step")) | fail "x")
  refine' LawAt.use (tail_t (fa9 := fa9) (pa9 := pa9) (ysF := ysF) (nxF := nxF) (usP := usP) (epP := epP) (R := R) (M := M) (N := N) (k := 7) hM hyl hk9 rfl ?tE hb0 hfa hpl2 hpm2 ?tv ?tb hnd' hh' hf' hp' r1 r2 r3 r4 r5 r6) ?tN ?ts ?tF ?tps ?tB ?tX ?tT ?ttk ?tret
  (case tN => assumption)
  (case ts => ((dsimp only [stS, stL, List.cons_append, List.nil_append]); kstt_sub))
  (case tF => assumption)
  (case tps => kst_all)
  (case tB => assumption)
  (case tX => assumption)
  (case tT => assumption)
  (case ttk => (first | assumption | (dsimp only; omega)))
  (case tret => (intro h' tk' m' F'; exact hret _ _ _ F'))
  (case tE => (rename Ends _ _ _ _ _ => hEl; exact hEl.weak (fun _ => trivial)))
  (case tv => assumption)
  (case tb => assumption)
end
end Mine
theorem Mine.off_s3 {M : Model} {A : Around} {env : Env} {Q : Flow → Shared → Prop} {E : Value → Shared → Prop} {s : Shared} (h : wpAny M A (execs [] env) Q E s) : wpAny M A (execs [] env) Q E s := by
  (try (walk1; fail "no"))
  w_top off
  exact h
namespace Mine
local macro_rules | `(tactic| k_ne) => `(tactic| first | exact (show Nq _ _ by with_reducible assumption) | exact Ne.symm (show Nq _ _ by with_reducible assumption) | (refine neN ?_; (try dsimp only); omega))
local macro_rules | `(tactic| k_room) => `(tactic| ((try simp only [depth_under_make, depth_under_kw, depth_in1, depth_deeper, depth_caller, ktrTop, recursionLimit] at *); omega))
local macro_rules | `(tactic| k_units) => `(tactic| ((have hcL9 := cLine_is); (try simp only [units_in1, units_deeper, Around.mark_units, units_caller, ktrTop] at *); omega))
local macro_rules | `(tactic| ktr_enter) => `(tactic| (refine' code_def ?k1 ?k2 ?k3 ?k4 ?k5 ?kA ?kF ?kK ?k6 ?k7 ?k8 ?k9 ?kB ?_ ?c2 ?c3 ?c4 ?c5; (case kA => exact rfl); (case kF => exact rfl); (case kK => first | exact rfl | assumption); (case k1 => k_asm); (case k2 => k_asm); (case k3 => k_asm); (case k4 => k_asm); (case k5 => k_asm); (case k6 => k_is); (case k7 => k_is); (case k8 => k_room); (case k9 => first | exact BindsTo.of_eq rfl | exact binds_K (by k_in) rfl (by k_is) rfl rfl rfl); (case c5 => decide); (case kB => exact locs rfl); (case c2 => exact rfl); (case c3 => exact rfl); (case c4 => exact rfl); k_whole; intro g' L' h' FG' F' N' B' X' T'; (try dsimp only); (try k_fold)))
local macro_rules | `(tactic| k_all) => `(tactic| (with_reducible assumption))
local macro_rules | `(tactic| tb_lt) => `(tactic| first | exact Pick.head | (refine' Pick.tail ?c; (case c => tb_lt)))
local macro_rules | `(tactic| tb_start) => `(tactic| first | exact Picks.nil | (refine' Picks.cons ?a ?b; (case a => tb_lt); (case b => tb_start)))
local macro_rules | `(tactic| tb_rel) => `(tactic| first | exact List.forall_mem_nil _ | (refine' List.forall_mem_cons.mpr ⟨?a, ?b⟩; (case a => k_all); (case b => tb_rel)))
local macro_rules | `(tactic| walk_at "TPost") => `(tactic| (dsimp only [TPost]))
local macro_rules | `(tactic| size_fits) => `(tactic| ((simp only [PySem.sizeLine_eq, List.size_toArray]); omega))
local macro_rules | `(tactic| k_gentoks) => `(tactic| (with_reducible refine' gen_toksP ?hp ?_; (case hp => first | omega | ((try simp only [List.length_cons]); omega)); intro tk htk))
local macro_rules | `(tactic| kstt_sub) => `(tactic| first | exact fun _ h => h | assumption | (refine' subCons ?a ?b; (case a => k_mem); (case b => kstt_sub)) | (refine' subTail ?a; (case a => kstt_sub)))
local macro_rules | `(tactic| kst_all) => `(tactic| first | exact List.forall_mem_nil _ | (refine' List.forall_mem_cons.mpr ⟨?a, ?b⟩; (case a => exact rfl); (case b => kst_all)))
local macro_rules | `(tactic| walk_at "MidEnd") => `(tactic| first
  | ((with_reducible show MidEnd _ _ _ _ _ _ _ Flow.next _); (refine' ⟨(tk8 _ _ _ _ _ _ _ _, _), _, _, _, rfl, ?F, ?N, ?ps, ?P⟩); (case F => assumption); (case N => (refine' nsub ?N1 ?N2; (case N1 => assumption); (case N2 => kstt_sub))); (case ps => kst_all); (case P => k_extra "mid"))
  | ((fail_if_success (with_reducible show MidEnd _ _ _ _ _ _ _ Flow.next _)); dsimp only [MidEnd]))
local macro_rules | `(tactic| walk_at "WEnd") => `(tactic| ((fail_if_success (with_reducible show WEnd _ _ _ _ _ _ _ _ _ Flow.next _)); dsimp only [WEnd]))
local macro_rules | `(tactic| walk_at "callWith") => `(tactic| (k_here; (with_reducible refine' callWith_method1 ?_ ?he ?hp); (case he => k_dflt rfl); (case hp => k_dflt rfl)))
local macro_rules | `(tactic| k_steps) => `(tactic| repeat' (first | (k_unfold; (try dsimp only)) | (k_end; wrow_close) | walk1 | (dsimp only [List.cons_append, List.nil_append]; walk1) | (dsimp only) | fail "no step"))
section
local macro_rules | `(tactic| walk_at "ite") => `(tactic| (k_here; first | (refine if_yes ?a ?_; (case a => with_reducible assumption)) | (refine if_no ?a ?_; (case a => with_reducible assumption))))
local macro_rules | `(tactic| walk_at "call ref") => `(tactic| (k_here; k_dflt (refine' TellR.use (markup_A ?u1 ?u2 ?u3 ?u4 ?u5 ?u6 ?u7 ?u8 ?u9 ?u10 ?u11) ?k1 ?k2 ?k3 ?k4 ?k5 ?kK ?kp ?ko ?kd ?ku ?k0 ?_; (case k1 => k_asm); (case k2 => k_asm); (case k3 => k_asm); (case k4 => k_asm); (case k5 => k_asm); (case kK => first | exact rfl | assumption); (case kp => tb_start); (case ko => tb_rel); (case u1 => with_reducible assumption); (case u2 => with_reducible assumption); (case u3 => with_reducible assumption); (case u4 => with_reducible assumption); (case u5 => with_reducible assumption); (case u6 => with_reducible assumption); (case u7 => with_reducible assumption); (case u8 => with_reducible assumption); (case u9 => exact Nat.le_of_ble_eq_true rfl); (case u10 => with_reducible assumption); (case u11 => with_reducible assumption); (case kd => k_room); (case ku => k_units); (case k0 => first | exact (show 1 ≤ _ by (try dsimp only); omega) | exact Nat.zero_le _); intro r9 f9 h9 tk9 p9 F9 N9 hP9; obtain ⟨e1, S2, a0, a1, a2, a3, a4, b0, b1, bv2, vs2, ep2, st2, da2, o2, t2a, t2b, hb2, hv2, hE2, hs2, hord2, hdict2, e2⟩ := hP9; subst e1; subst e2; simp only [AllLt, and_true] at hord2; dsimp only [stS, stL, List.cons_append, List.nil_append] at N9; (try dsimp only [List.nil_append, List.cons_append] at N9); (try k_fold))))
local macro_rules | `(tactic| walk_at "call ref") => `(tactic| (k_here; k_dflt (refine' TellR.use (markup_B ?u1 ?u2 ?u3 ?u4 ?u5 ?u6 ?u7 ?u8 ?u9 ?u10 ?u11 ?u12) ?k1 ?k2 ?k3 ?k4 ?k5 ?kK ?kp ?ko ?kd ?ku ?k0 ?_; (case k1 => k_asm); (case k2 => k_asm); (case k3 => k_asm); (case k4 => k_asm); (case k5 => k_asm); (case kK => first | exact rfl | assumption); (case kp => tb_start); (case ko => tb_rel); (case u1 => with_reducible assumption); (case u2 => with_reducible assumption); (case u3 => with_reducible assumption); (case u4 => with_reducible assumption); (case u5 => with_reducible assumption); (case u6 => with_reducible assumption); (case u7 => with_reducible assumption); (case u8 => with_reducible assumption); (case u9 => with_reducible assumption); (case u10 => exact Nat.le_of_ble_eq_true rfl); (case u11 => with_reducible assumption); (case u12 => with_reducible assumption); (case kd => k_room); (case ku => k_units); (case k0 => first | exact (show 1 ≤ _ by (try dsimp only); omega) | exact Nat.zero_le _); intro r9 f9 h9 tk9 p9 F9 N9 hP9; obtain ⟨e1, S2, a0, a1, a2, a3, a4, b0, b1, bv2, vs2, ep2, st2, da2, o2, t2a, t2b, hb2, hv2, hE2, hs2, hord2, hdict2, e2⟩ := hP9; subst e1; subst e2; simp only [AllLt, and_true] at hord2; dsimp only [stS, stL, List.cons_append, List.nil_append] at N9; (try dsimp only [List.nil_append, List.cons_append] at N9); (try k_fold))))
theorem headA_t {w : World} {hx hd tq lf sx sd tx td ra el nl fa9 pa9 pl9 qq : Nat} {κ κs κx : Nat → Nat} {a0 a1 a2 a3 a4 b0 b1 : Nat} {S : SS} {bv : Value} {vs ysF usP : List Value} {ep nxF epP bt mt plt plu pk pkt pku : Nat} {R : List (Addr × Obj)} {yy : PySem.Str} {M : List Nat} {N : Nat} {b : Int}
    (hM : yy.cps.toList = M) (hyl : yy.length ≤ 200) (hasc : ∀ c ∈ M, c < 128) (hA : M.take 2 = [45, 45]) (hE : Ends True M N S 0) (hgo : Go S) (hcl : S.c.length ≤ 10001) (hsuf : Suf S []) (hlt : hd < hx)
    (hpk : usP[Int.toNat 2]? = some (Value.ref pk)) (hmk : List.Mem (pk, pairObj (lcL (M.take 2) + 1) (lcC 0 (M.take 2)) pkt pku) R) (hb0 : 0 ≤ b) (hfa : CarriedAll ysF (List.replicate N (PyData.str icS))) (hpl2 : usP.toArray.back? = some (Value.ref pl9)) (hpm2 : List.Mem (pl9, pairObj (lcL M + 1) (lcC 0 M) plt plu) R)
    (hv : Errs vs S.n) (hbf : BfV S.bo bv) (hnd : NQ6 sx sd tx td ra el) (hh : HQ hx hd tq sx sd tx td ra el)
    (hf : Nq fa9 hx ∧ Nq fa9 hd ∧ Nq fa9 sx ∧ Nq fa9 sd ∧ Nq fa9 tx ∧ Nq fa9 td ∧ Nq fa9 ra ∧ Nq fa9 el) (hp : Nq pa9 hx ∧ Nq pa9 hd ∧ Nq pa9 sx ∧ Nq pa9 sd ∧ Nq pa9 tx ∧ Nq pa9 td ∧ Nq pa9 ra ∧ Nq pa9 el) (hft : Nq fa9 tq ∧ Nq pa9 tq)
    (r1 : ∀ p ∈ R, p.1 ≠ sx) (r2 : ∀ p ∈ R, p.1 ≠ sd) (r3 : ∀ p ∈ R, p.1 ≠ tx) (r4 : ∀ p ∈ R, p.1 ≠ td) (r5 : ∀ p ∈ R, p.1 ≠ ra) (r6 : ∀ p ∈ R, p.1 ≠ el) (r7 : ∀ p ∈ R, p.1 ≠ hx) (r8 : ∀ p ∈ R, p.1 ≠ hd) (r9 : ∀ p ∈ R, p.1 ≠ tq) :
    LawAt w 9 [(Str.ofString "reader", .ref hx), (Str.ofString "mended", .str yy mt), (Str.ofString "places", .ref pa9), (Str.ofString "faulty", .ref fa9), (Str.ofString "border", .int b bt)]
      ((hx, instObj 762 hd) :: (hd, hdD8 w κ sx lf tq (.ref qq) Value.none) :: (tq, W.listOf #[] 0) :: (stS w sx sd tx td ra el nl κs κx a0 a1 a2 a3 a4 b0 b1 S bv vs ep ++ (fa9, { cls := Value.type "list", data := Data.seq ysF.toArray nxF }) :: (pa9, W.listOf usP.toArray epP) :: R)) := by
  unfold LawAt KF PG
  k_fill
  intro mean mg mb base h₀ L fa cd m s Q E B F hps X N9 T htk hret
  rw [← kstB_self hps] at F
  clear hps
  dsimp only [stS, stL, List.cons_append, List.nil_append] at N9
  have hnd' : NQ6 sx sd tx td ra el := hnd
  unfold NQ6 at hnd
  obtain ⟨q1, q2, q3, q4, q5, q6, q7, q8, q9, q10, q11, q12, q13, q14, q15⟩ := hnd
  have hh' : HQ hx hd tq sx sd tx td ra el := hh
  unfold HQ at hh
  obtain ⟨g1, g2, g3, g4, g5, g6, g7, g8, g9, g10, g11, g12, g13, g14, g15, g16, g17, g18, g19, g20, g21⟩ := hh
  have hf' := hf
  obtain ⟨f1, f2, f3, f4, f5, f6, f7, f8⟩ := hf
  have hp' := hp
  obtain ⟨p1, p2, p3, p4, p5, p6, p7, p8⟩ := hp
  obtain ⟨ft1, ft2⟩ := hft
  have y2 := head2_is hM
  have y7 := head7_is hM hasc
  rw [decide_eq_true hA] at y2
  simp only [LR, recOfWalk, List.drop_succ_cons, List.drop_zero]
  (try k_fold)
  k_with_none
  repeat' (first | ((fail_if_success (with_reducible show wpAny _ _ (execs (_ :: _ :: _ :: _ :: []) _) _ _ _)); (first | (k_unfold; (try dsimp only)) | (k_end; wrow_close) | walk1 | (dsimp only [List.cons_append, List.nil_append]; walk1) | (dsimp only) | fail "no step")) | fail "x")
  refine' LawAt.use (midAB2_t (fa9 := fa9) (pa9 := pa9) (ysF := ysF) (nxF := nxF) (usP := usP) (epP := epP) (R := R) (M := M) (N := N) hM hyl (by have := congrArg List.length hA; rw [List.length_take] at this; have e : ([45, 45] : List Nat).length = 2 := rfl; omega) ?tE hpk hmk hb0 hfa hpl2 hpm2 ?tv ?tb hnd' hh' hf' hp' r1 r2 r3 r4 r5 r6) ?tN ?ts ?tF ?tps ?tB ?tX ?tT ?ttk ?tret
  (case tN => assumption)
  (case ts => ((dsimp only [stS, stL, List.cons_append, List.nil_append]); kstt_sub))
  (case tF => assumption)
  (case tps => kst_all)
  (case tB => assumption)
  (case tX => assumption)
  (case tT => assumption)
  (case ttk => (first | assumption | (dsimp only; omega)))
  (case tret => (intro h' tk' m' F'; exact hret _ _ _ F'))
  (case tE => assumption)
  (case tv => assumption)
  (case tb => assumption)
theorem headB_t {w : World} {hx hd tq lf sx sd tx td ra el nl fa9 pa9 pl9 qq : Nat} {κ κs κx : Nat → Nat} {a0 a1 a2 a3 a4 b0 b1 : Nat} {S : SS} {bv : Value} {vs ysF usP : List Value} {ep nxF epP bt mt plt plu pk pkt pku : Nat} {R : List (Addr × Obj)} {yy : PySem.Str} {M : List Nat} {N : Nat} {b : Int}
    (hM : yy.cps.toList = M) (hyl : yy.length ≤ 200) (hasc : ∀ c ∈ M, c < 128) (hA : ¬ M.take 2 = [45, 45]) (hB : (M.take 7).map lw = docW) (hE : Ends True M N S 0) (hgo : Go S) (hcl : S.c.length ≤ 10001) (hsuf : Suf S []) (hlt : hd < hx)
    (hpk : usP[Int.toNat 7]? = some (Value.ref pk)) (hmk : List.Mem (pk, pairObj (lcL (M.take 7) + 1) (lcC 0 (M.take 7)) pkt pku) R) (hb0 : 0 ≤ b) (hfa : CarriedAll ysF (List.replicate N (PyData.str icS))) (hpl2 : usP.toArray.back? = some (Value.ref pl9)) (hpm2 : List.Mem (pl9, pairObj (lcL M + 1) (lcC 0 M) plt plu) R)
    (hv : Errs vs S.n) (hbf : BfV S.bo bv) (hnd : NQ6 sx sd tx td ra el) (hh : HQ hx hd tq sx sd tx td ra el)
    (hf : Nq fa9 hx ∧ Nq fa9 hd ∧ Nq fa9 sx ∧ Nq fa9 sd ∧ Nq fa9 tx ∧ Nq fa9 td ∧ Nq fa9 ra ∧ Nq fa9 el) (hp : Nq pa9 hx ∧ Nq pa9 hd ∧ Nq pa9 sx ∧ Nq pa9 sd ∧ Nq pa9 tx ∧ Nq pa9 td ∧ Nq pa9 ra ∧ Nq pa9 el) (hft : Nq fa9 tq ∧ Nq pa9 tq)
    (r1 : ∀ p ∈ R, p.1 ≠ sx) (r2 : ∀ p ∈ R, p.1 ≠ sd) (r3 : ∀ p ∈ R, p.1 ≠ tx) (r4 : ∀ p ∈ R, p.1 ≠ td) (r5 : ∀ p ∈ R, p.1 ≠ ra) (r6 : ∀ p ∈ R, p.1 ≠ el) (r7 : ∀ p ∈ R, p.1 ≠ hx) (r8 : ∀ p ∈ R, p.1 ≠ hd) (r9 : ∀ p ∈ R, p.1 ≠ tq) :
    LawAt w 9 [(Str.ofString "reader", .ref hx), (Str.ofString "mended", .str yy mt), (Str.ofString "places", .ref pa9), (Str.ofString "faulty", .ref fa9), (Str.ofString "border", .int b bt)]
      ((hx, instObj 762 hd) :: (hd, hdD8 w κ sx lf tq (.ref qq) Value.none) :: (tq, W.listOf #[] 0) :: (stS w sx sd tx td ra el nl κs κx a0 a1 a2 a3 a4 b0 b1 S bv vs ep ++ (fa9, { cls := Value.type "list", data := Data.seq ysF.toArray nxF }) :: (pa9, W.listOf usP.toArray epP) :: R)) := by
  unfold LawAt KF PG
  k_fill
  intro mean mg mb base h₀ L fa cd m s Q E B F hps X N9 T htk hret
  rw [← kstB_self hps] at F
  clear hps
  dsimp only [stS, stL, List.cons_append, List.nil_append] at N9
  have hnd' : NQ6 sx sd tx td ra el := hnd
  unfold NQ6 at hnd
  obtain ⟨q1, q2, q3, q4, q5, q6, q7, q8, q9, q10, q11, q12, q13, q14, q15⟩ := hnd
  have hh' : HQ hx hd tq sx sd tx td ra el := hh
  unfold HQ at hh
  obtain ⟨g1, g2, g3, g4, g5, g6, g7, g8, g9, g10, g11, g12, g13, g14, g15, g16, g17, g18, g19, g20, g21⟩ := hh
  have hf' := hf
  obtain ⟨f1, f2, f3, f4, f5, f6, f7, f8⟩ := hf
  have hp' := hp
  obtain ⟨p1, p2, p3, p4, p5, p6, p7, p8⟩ := hp
  obtain ⟨ft1, ft2⟩ := hft
  have y2 := head2_is hM
  have y7 := head7_is hM hasc
  rw [decide_eq_false hA] at y2
  rw [decide_eq_true hB] at y7
  simp only [LR, recOfWalk, List.drop_succ_cons, List.drop_zero]
  (try k_fold)
  k_with_none
  repeat' (first | ((fail_if_success (with_reducible show wpAny _ _ (execs (_ :: _ :: _ :: _ :: []) _) _ _ _)); (first | (k_unfold; (try dsimp only)) | (k_end; wrow_close) | walk1 | (dsimp only [List.cons_append, List.nil_append]; walk1) | (dsimp only) | fail "no step")) | fail "x")
  refine' LawAt.use (midAB7_t (fa9 := fa9) (pa9 := pa9) (ysF := ysF) (nxF := nxF) (usP := usP) (epP := epP) (R := R) (M := M) (N := N) hM hyl (by have := congrArg List.length hB; rw [List.length_map, List.length_take] at this; have e : docW.length = 7 := rfl; omega) ?tE hpk hmk hb0 hfa hpl2 hpm2 ?tv ?tb hnd' hh' hf' hp' r1 r2 r3 r4 r5 r6) ?tN ?ts ?tF ?tps ?tB ?tX ?tT ?ttk ?tret
  (case tN => assumption)
  (case ts => ((dsimp only [stS, stL, List.cons_append, List.nil_append]); kstt_sub))
  (case tF => assumption)
  (case tps => kst_all)
  (case tB => assumption)
  (case tX => assumption)
  (case tT => assumption)
  (case ttk => (first | assumption | (dsimp only; omega)))
  (case tret => (intro h' tk' m' F'; exact hret _ _ _ F'))
  (case tE => assumption)
  (case tv => assumption)
  (case tb => assumption)
end
end Mine
theorem Mine.off_s4 {M : Model} {A : Around} {env : Env} {Q : Flow → Shared → Prop} {E : Value → Shared → Prop} {s : Shared} (h : wpAny M A (execs [] env) Q E s) : wpAny M A (execs [] env) Q E s := by
  (try (walk1; fail "no"))
  w_top off
  exact h
namespace Mine
local macro_rules | `(tactic| k_ne) => `(tactic| first | exact (show Nq _ _ by with_reducible assumption) | exact Ne.symm (show Nq _ _ by with_reducible assumption) | (refine neN ?_; (try dsimp only); omega))
local macro_rules | `(tactic| k_room) => `(tactic| ((try simp only [depth_under_make, depth_under_kw, depth_in1, depth_deeper, depth_caller, ktrTop, recursionLimit] at *); omega))
local macro_rules | `(tactic| k_units) => `(tactic| ((have hcL9 := cLine_is); (try simp only [units_in1, units_deeper, Around.mark_units, units_caller, ktrTop] at *); omega))
local macro_rules | `(tactic| ktr_enter) => `(tactic| (refine' code_def ?k1 ?k2 ?k3 ?k4 ?k5 ?kA ?kF ?kK ?k6 ?k7 ?k8 ?k9 ?kB ?_ ?c2 ?c3 ?c4 ?c5; (case kA => exact rfl); (case kF => exact rfl); (case kK => first | exact rfl | assumption); (case k1 => k_asm); (case k2 => k_asm); (case k3 => k_asm); (case k4 => k_asm); (case k5 => k_asm); (case k6 => k_is); (case k7 => k_is); (case k8 => k_room); (case k9 => first | exact BindsTo.of_eq rfl | exact binds_K (by k_in) rfl (by k_is) rfl rfl rfl); (case c5 => decide); (case kB => exact locs rfl); (case c2 => exact rfl); (case c3 => exact rfl); (case c4 => exact rfl); k_whole; intro g' L' h' FG' F' N' B' X' T'; (try dsimp only); (try k_fold)))
local macro_rules | `(tactic| k_all) => `(tactic| (with_reducible assumption))
local macro_rules | `(tactic| tb_lt) => `(tactic| first | exact Pick.head | (refine' Pick.tail ?c; (case c => tb_lt)))
local macro_rules | `(tactic| tb_start) => `(tactic| first | exact Picks.nil | (refine' Picks.cons ?a ?b; (case a => tb_lt); (case b => tb_start)))
local macro_rules | `(tactic| tb_rel) => `(tactic| first | exact List.forall_mem_nil _ | (refine' List.forall_mem_cons.mpr ⟨?a, ?b⟩; (case a => k_all); (case b => tb_rel)))
local macro_rules | `(tactic| walk_at "TPost") => `(tactic| (dsimp only [TPost]))
local macro_rules | `(tactic| size_fits) => `(tactic| ((simp only [PySem.sizeLine_eq, List.size_toArray]); omega))
local macro_rules | `(tactic| k_gentoks) => `(tactic| (with_reducible refine' gen_toksP ?hp ?_; (case hp => first | omega | ((try simp only [List.length_cons]); omega)); intro tk htk))
local macro_rules | `(tactic| kstt_sub) => `(tactic| first | exact fun _ h => h | assumption | (refine' subCons ?a ?b; (case a => k_mem); (case b => kstt_sub)) | (refine' subTail ?a; (case a => kstt_sub)))
local macro_rules | `(tactic| kst_all) => `(tactic| first | exact List.forall_mem_nil _ | (refine' List.forall_mem_cons.mpr ⟨?a, ?b⟩; (case a => exact rfl); (case b => kst_all)))
local macro_rules | `(tactic| walk_at "MidEnd") => `(tactic| first
  | ((with_reducible show MidEnd _ _ _ _ _ _ _ Flow.next _); (refine' ⟨(tk8 _ _ _ _ _ _ _ _, _), _, _, _, rfl, ?F, ?N, ?ps, ?P⟩); (case F => assumption); (case N => (refine' nsub ?N1 ?N2; (case N1 => assumption); (case N2 => kstt_sub))); (case ps => kst_all); (case P => k_extra "mid"))
  | ((fail_if_success (with_reducible show MidEnd _ _ _ _ _ _ _ Flow.next _)); dsimp only [MidEnd]))
local macro_rules | `(tactic| walk_at "WEnd") => `(tactic| ((fail_if_success (with_reducible show WEnd _ _ _ _ _ _ _ _ _ Flow.next _)); dsimp only [WEnd]))
local macro_rules | `(tactic| walk_at "callWith") => `(tactic| (k_here; (with_reducible refine' callWith_method1 ?_ ?he ?hp); (case he => k_dflt rfl); (case hp => k_dflt rfl)))
local macro_rules | `(tactic| k_steps) => `(tactic| repeat' (first | (k_unfold; (try dsimp only)) | (k_end; wrow_close) | walk1 | (dsimp only [List.cons_append, List.nil_append]; walk1) | (dsimp only) | fail "no step"))
section
local macro_rules | `(tactic| walk_at "ite") => `(tactic| (k_here; first | (refine if_yes ?a ?_; (case a => with_reducible assumption)) | (refine if_no ?a ?_; (case a => with_reducible assumption)) | (refine if_no ?a ?_; (case a => k_extra "same"))))
local macro_rules | `(tactic| walk_at "subscriptTail") => `(tactic| (k_here; (with_reducible show wpAny _ _ (subscriptTail _ _ (Value.ref _) (Value.int _ _)) _ _ _); k_dflt (refine' item_last_t ?N ?hm ?hv ?_; (case N => assumption); (case hm => k_mem); (case hv => k_extra "last"))))
local macro_rules | `(tactic| walk_at "subscriptTail Name UnaryOp ref int") => `(tactic| (k_here; (with_reducible show wpAny _ _ (subscriptTail _ _ (Value.ref _) (Value.int _ _)) _ _ _); k_dflt (refine' item_last_t ?N ?hm ?hv ?_; (case N => assumption); (case hm => k_mem); (case hv => k_extra "last"))))
local macro_rules | `(tactic| walk_at "subscriptTail") => `(tactic| (k_here; (with_reducible show wpAny _ _ (subscriptTail _ _ (Value.ref _) (Value.int _ _)) _ _ _); k_dflt (refine' item_pl ?N ?hm ?h0 ?hk ?hv ?_; (case N => assumption); (case hm => k_mem); (case h0 => omega); (case hk => omega); (case hv => with_reducible assumption))))
local macro_rules | `(tactic| walk_at "compareOp NotEq ref ref") => `(tactic| (k_here; (with_reducible show wpAny _ _ (compareOp CmpOp.NotEq (Value.ref _) (Value.ref _)) _ _ _); k_dflt (refine' pair_ne ?N ?ha ?hb ?hx ?hy ?hu ?_; (case N => assumption); (case ha => k_mem); (case hb => first | k_mem | ((repeat refine' List.Mem.tail _ ?_); with_reducible assumption)); (case hx => first | rfl | rw [List.take_length]); (case hy => first | rfl | rw [List.take_length]); (case hu => ke_room))))
local macro_rules | `(tactic| walk_at "compareOp Eq ref ref") => `(tactic| (k_here; (with_reducible show wpAny _ _ (compareOp CmpOp.Eq (Value.ref _) (Value.ref _)) _ _ _); k_dflt (refine' pair_eq ?N ?ha ?hb ?hx ?hy ?hu ?_; (case N => assumption); (case ha => k_mem); (case hb => first | k_mem | ((repeat refine' List.Mem.tail _ ?_); with_reducible assumption)); (case hx => first | rfl | rw [List.take_length]); (case hy => first | rfl | rw [List.take_length]); (case hu => ke_room))))
local macro_rules | `(tactic| walk_at "newTuple") => `(tactic| (k_here; k_dflt (refine' kup_newTuple ?F ?N ?_ ?z; (case F => k_asm); (case N => k_asm); (case z => kmk_size)); intro D' h' F' N' l1; (try k_lt l1); (try k_sweep)))
local macro_rules | `(tactic| walk_at "compareOp Eq ref ref") => `(tactic| (k_here; (with_reducible show wpAny _ _ (compareOp CmpOp.Eq (Value.ref _) (Value.ref _)) _ _ _); k_dflt (refine' errs_eq ?N ?ha ?hb ?hv ?hy ?hu ?_; (case N => assumption); (case ha => k_mem); (case hb => k_mem); (case hv => assumption); (case hy => k_extra "fa"); (case hu => ke_room))))
local macro_rules | `(tactic| kpa_room) => `(tactic| first | exact Rows.nil | (refine Rows.int (by rfl) ?r; (case r => kpa_room)) | (refine Rows.str (by rfl) ?e ?r; (case e => first | rfl | k_extra "note"); (case r => kpa_room)))
local macro_rules | `(tactic| kpa_letter) => `(tactic| first | exact AllAlike.nil | (refine' AllAlike.cons (alike_dicts ?N ?pa ?pb ?da ?db ?la ?lb ?ab ?hl ?hu ?rows) ?r; (case N => assumption); (case pa => k_mem); (case pb => k_mem); (case da => assumption); (case db => assumption); (case la => assumption); (case lb => assumption); (case ab => k_ne); (case hl => rfl); (case hu => k_units); (case rows => kpa_room); (case r => kpa_letter)))
local macro_rules | `(tactic| walk_at "compareOp NotEq ref ref") => `(tactic| (k_here; (with_reducible show wpAny _ _ (compareOp CmpOp.NotEq (Value.ref _) (Value.ref _)) _ _ _); k_dflt (refine' alike_news (xs := [_]) (ys := [_]) ?N ?ha ?hb ?hu ?he ?_; (case N => assumption); (case ha => k_mem); (case hb => k_mem); (case hu => k_units); (case he => kpa_letter))))
local macro_rules | `(tactic| walk_at "compareOp NotEq ref ref") => `(tactic| (k_here; (with_reducible show wpAny _ _ (compareOp CmpOp.NotEq (Value.ref _) (Value.ref _)) _ _ _); k_dflt (refine' alike_news (xs := [_, _]) (ys := [_, _]) ?N ?ha ?hb ?hu ?he ?_; (case N => assumption); (case ha => k_mem); (case hb => k_mem); (case hu => k_units); (case he => kpa_letter))))
local macro_rules | `(tactic| walk_at "call builtin:str.join") => `(tactic| (k_here; (rename CarriedAll _ (List.map _ (List.filter _ (signs (Txt.slice _ _ _)))) => hca9); k_dflt (refine' join_i ?hl ?hs ?hb ?_; (case hl => assumption); (case hs => exact note_strs hca9); (case hb => k_extra "jn")); intro tj kj xj ej))
local macro_rules | `(tactic| walk_at "call ref") => `(tactic| (k_here; k_dflt (refine' TellR.use (bogus_e ?u1 ?u2 ?u3 ?u4 ?u5 ?u6 ?u7) ?k1 ?k2 ?k3 ?k4 ?k5 ?kK ?kp ?ko ?kd ?ku ?k0 ?_; (case k1 => k_asm); (case k2 => k_asm); (case k3 => k_asm); (case k4 => k_asm); (case k5 => k_asm); (case kK => first | exact rfl | assumption); (case kp => tb_start); (case ko => tb_rel); (case u1 => with_reducible assumption); (case u2 => with_reducible assumption); (case u3 => with_reducible assumption); (case u4 => with_reducible assumption); (case u5 => exact Nat.le_of_ble_eq_true rfl); (case u6 => with_reducible assumption); (case u7 => with_reducible assumption); (case kd => k_room); (case ku => k_units); (case k0 => first | exact (show 1 ≤ _ by (try dsimp only); omega) | exact Nat.zero_le _); intro r9 f9 h9 tk9 p9 F9 N9 hP9; obtain ⟨S3, a0, a1, a2, a3, a4, b0, b1, bv3, vs3, ep3, da3, q3, o3, x3, xt3, tt3, te3, e1, hx3, hE3, hb3, hv3, hs3, hord3, hdict3, e2⟩ := hP9; subst e1; subst e2; simp only [AllLt, and_true] at hord3; dsimp only [stS, stL, List.cons_append, List.nil_append] at N9; (try dsimp only [List.nil_append, List.cons_append] at N9); (try k_fold))))
local macro_rules | `(tactic| walk_at "call ref") => `(tactic| (k_here; k_dflt (refine' TellR.use (position_e ?a1 ?a2 ?a3) ?k1 ?k2 ?k3 ?k4 ?k5 ?kK ?kp ?ko ?kd ?ku ?k0 ?_; (case k1 => k_asm); (case k2 => k_asm); (case k3 => k_asm); (case k4 => k_asm); (case k5 => k_asm); (case kK => first | exact rfl | assumption); (case kp => tb_start); (case ko => tb_rel); (case a1 => with_reducible assumption); (case a2 => k_extra "pz"); (case a3 => k_ne); (case kd => k_room); (case ku => k_units); (case k0 => first | exact (show 1 ≤ _ by (try dsimp only); omega) | exact Nat.zero_le _); intro r9 f9 h9 tk9 p9 F9 N9 hP9; obtain ⟨ta2, t1, t2, e1, e2, hl2⟩ := hP9; subst e1; subst e2; simp only [AllLt, and_true] at hl2; (try dsimp only [List.nil_append, List.cons_append] at N9); (try k_fold))))
theorem midC_t {w : World} {hx hd tq lf sx sd tx td ra el nl fa9 pa9 pl9 da2 l2 d2 te2 t2a t2b t3a t3b : Nat} {o2 o3 : Obj} {κ κs κx : Nat → Nat} {a0 a1 a2 a3 a4 b0 b1 : Nat} {S : SS} {bv st2 : Value} {vs ysF usP : List Value} {ep nxF epP bt mt ct plt plu : Nat} {R : List (Addr × Obj)} {yy : PySem.Str} {M : List Nat} {N : Nat} {b : Int}
    (hM : yy.cps.toList = M) (hyl : yy.length ≤ 200) (hlt : hd < hx) (hE2 : Ends (b = 0) M N S 0) (hpl : PlOK M usP R)
    (hb0 : 0 ≤ b) (hfa : CarriedAll ysF (List.replicate N (PyData.str icS))) (hpl2 : usP.toArray.back? = some (Value.ref pl9)) (hpm2 : List.Mem (pl9, pairObj (lcL M + 1) (lcC 0 M) plt plu) R)
    (hv2 : Errs vs S.n) (hb2 : BfV S.bo bv) (hnd : NQ6 sx sd tx td ra el) (hh : HQ hx hd tq sx sd tx td ra el)
    (hf : Nq fa9 hx ∧ Nq fa9 hd ∧ Nq fa9 sx ∧ Nq fa9 sd ∧ Nq fa9 tx ∧ Nq fa9 td ∧ Nq fa9 ra ∧ Nq fa9 el) (hp : Nq pa9 hx ∧ Nq pa9 hd ∧ Nq pa9 sx ∧ Nq pa9 sd ∧ Nq pa9 tx ∧ Nq pa9 td ∧ Nq pa9 ra ∧ Nq pa9 el) (hft : Nq fa9 tq ∧ Nq pa9 tq)
    (r1 : ∀ p ∈ R, p.1 ≠ sx) (r2 : ∀ p ∈ R, p.1 ≠ sd) (r3 : ∀ p ∈ R, p.1 ≠ tx) (r4 : ∀ p ∈ R, p.1 ≠ td) (r5 : ∀ p ∈ R, p.1 ≠ ra) (r6 : ∀ p ∈ R, p.1 ≠ el) (r7 : ∀ p ∈ R, p.1 ≠ hx) (r8 : ∀ p ∈ R, p.1 ≠ hd) (r9 : ∀ p ∈ R, p.1 ≠ tq)
    (ha2 : hx < da2 ∧ hd < da2 ∧ tq < da2 ∧ sx < da2 ∧ sd < da2 ∧ tx < da2 ∧ td < da2 ∧ ra < da2 ∧ el < da2) (hl2 : hx < l2 ∧ hd < l2 ∧ tq < l2 ∧ sx < l2 ∧ sd < l2 ∧ tx < l2 ∧ td < l2 ∧ ra < l2 ∧ el < l2) (hd2 : hx < d2 ∧ hd < d2 ∧ tq < d2 ∧ sx < d2 ∧ sd < d2 ∧ tx < d2 ∧ td < d2 ∧ ra < d2 ∧ el < d2) (hda : d2 < da2) (hs2 : ((da2 : Addr) == sysModules) = false) (hs3 : ((d2 : Addr) == sysModules) = false)
    (hdict2 : Obj.IsDictOf (PySem.strKind PG w) o2 [(Str.ofString "type", .int 7 t2a), (Str.ofString "data", .str (Str.ofString "expected-dashes-or-doctype") t2b)]) (hdict3 : Obj.IsDictOf (PySem.strKind PG w) o3 [(Str.ofString "type", .int 7 t3a), (Str.ofString "data", .str (Str.ofString "expected-dashes-or-doctype") t3b)]) :
    LawAt w 14 [(Str.ofString "reader", .ref hx), (Str.ofString "mended", .str yy mt), (Str.ofString "places", .ref pa9), (Str.ofString "faulty", .ref fa9), (Str.ofString "border", .int b bt), (Str.ofString "told", .ref l2), (Str.ofString "taken", .int 0 ct)]
      ((hx, instObj 762 hd) :: (hd, hdD8 w κ sx lf tq st2 Value.none) :: (tq, W.listOf #[Value.ref da2] te2) :: (stS w sx sd tx td ra el nl κs κx a0 a1 a2 a3 a4 b0 b1 S bv vs ep ++ (da2, o2) :: (l2, W.listOf #[Value.ref d2] 0) :: (d2, o3) :: (fa9, { cls := Value.type "list", data := Data.seq ysF.toArray nxF }) :: (pa9, W.listOf usP.toArray epP) :: R)) := by
  unfold LawAt KF PG
  k_fill
  intro mean mg mb base h₀ L fa cd m s Q E B F hps X N9 T htk hret
  rw [← kstB_self hps] at F
  clear hps
  dsimp only [stS, stL, List.cons_append, List.nil_append] at N9
  have hnd' : NQ6 sx sd tx td ra el := hnd
  unfold NQ6 at hnd
  obtain ⟨q1, q2, q3, q4, q5, q6, q7, q8, q9, q10, q11, q12, q13, q14, q15⟩ := hnd
  have hh' : HQ hx hd tq sx sd tx td ra el := hh
  unfold HQ at hh
  obtain ⟨g1, g2, g3, g4, g5, g6, g7, g8, g9, g10, g11, g12, g13, g14, g15, g16, g17, g18, g19, g20, g21⟩ := hh
  have hf' := hf
  obtain ⟨f1, f2, f3, f4, f5, f6, f7, f8⟩ := hf
  have hp' := hp
  obtain ⟨p1, p2, p3, p4, p5, p6, p7, p8⟩ := hp
  obtain ⟨ft1, ft2⟩ := hft
  have hMl : M.length = yy.length := by rw [← hM]; simp [PySem.Str.length]
  have hylen := hyl
  obtain ⟨p0, pt0, pu0, hp0, hm0⟩ := hpl.all 0 (Nat.zero_le _)
  replace hm0 := (show List.Mem _ _ from hm0)
  replace hp0 : usP[Int.toNat 0]? = some (Value.ref p0) := hp0
  simp only [LR, recOfWalk, List.drop_succ_cons, List.drop_zero]
  (try k_fold)
  k_with_none
  k_with "pz" => first | trivial | omega
  repeat' (first | ((fail_if_success (with_reducible show wpAny _ _ (PySem.exec (PySem.Stmt.If (PySem.Expr.BoolOp BoolOp.And _ _) _ _ _) _) _ _ _)); (first | (k_unfold; (try dsimp only)) | (k_end; wrow_close) | walk1 | (dsimp only [List.cons_append, List.nil_append]; walk1) | (dsimp only) | fail "no step")) | fail "x")
  (rename Fr _ _ _ _ => f9)
  refine mid_cut (fun _ : Nat => [(Str.ofString "reader", .ref hx), (Str.ofString "mended", .str yy mt), (Str.ofString "places", .ref pa9), (Str.ofString "faulty", .ref fa9), (Str.ofString "border", .int b bt), (Str.ofString "told", .ref l2), (Str.ofString "taken", .int 0 ct)])
      (fun _ => [(hx, instObj 762 hd), (hd, hdD8 w κ sx lf tq st2 Value.none), (tq, W.listOf #[Value.ref da2] te2)] ++ stS w sx sd tx td ra el nl κs κx a0 a1 a2 a3 a4 b0 b1 S bv vs ep ++ (da2, o2) :: (l2, W.listOf #[Value.ref d2] 0) :: (d2, o3) :: (fa9, { cls := Value.type "list", data := Data.seq ysF.toArray nxF }) :: (pa9, W.listOf usP.toArray epP) :: R) (fun _ => True) f9 ?nh0 ?nh ?nk
  case nh0 => first | assumption | omega
  case nh =>
    repeat' (first | ((fail_if_success (with_reducible show MidEnd _ _ _ _ _ _ _ _ _)); first | (k_unfold; (try dsimp only)) | (k_end; wrow_close) | walk1 | (dsimp only [List.cons_append, List.nil_append]; walk1) | (dsimp only) | fail "no step"))
    all_goals (
      (rename News _ _ _ _ => n9)
      refine' ⟨0, _, _, _, rfl, ?F1, ?N1, ?p1, trivial⟩
      case F1 => assumption
      case N1 =>
        dsimp only [stS, stL, List.cons_append, List.nil_append]
        refine' nsub n9 ?N2
        case N2 => kstt_sub
      case p1 => kst_all)
  case nk =>
    rintro _ m9 h9 tk9 p9 - F9 N9'
    dsimp only [stS, stL, List.cons_append, List.nil_append] at F9 N9'
    clear f9
    (try k_fold)
    repeat' (first | ((fail_if_success (with_reducible show wpAny _ _ (PySem.exec (PySem.Stmt.Assign _ (PySem.Expr.IfExp _ _ _ _) _) _) _ _ _)); first | (k_unfold; (try dsimp only)) | (k_end; wrow_close) | walk1 | (dsimp only [List.cons_append, List.nil_append]; walk1) | (dsimp only) | fail "no step"))
    (rename Fr _ _ _ _ => f9)
    refine mid_cut (fun c : Nat => [(Str.ofString "reader", .ref hx), (Str.ofString "mended", .str yy mt), (Str.ofString "places", .ref pa9), (Str.ofString "faulty", .ref fa9), (Str.ofString "border", .int b bt), (Str.ofString "told", .ref l2), (Str.ofString "taken", .int 0 ct), (Str.ofString "end", .int ((M.takeWhile ngt).length : Nat) c)])
        (fun c => [(hx, instObj 762 hd), (hd, hdD8 w κ sx lf tq st2 Value.none), (tq, W.listOf #[Value.ref da2] te2)] ++ stS w sx sd tx td ra el nl κs κx a0 a1 a2 a3 a4 b0 b1 S bv vs ep ++ (da2, o2) :: (l2, W.listOf #[Value.ref d2] 0) :: (d2, o3) :: (fa9, { cls := Value.type "list", data := Data.seq ysF.toArray nxF }) :: (pa9, W.listOf usP.toArray epP) :: R) (fun _ => True) f9 ?nh0 ?nh ?nk
    case nh0 => first | assumption | omega
    case nh =>
      cases hgt9 : !(PySem.Builtin.Str.occurrences yy (Str.ofString ">") 0 yy.length 1).isEmpty
      all_goals repeat' (first | ((fail_if_success (with_reducible show MidEnd _ _ _ _ _ _ _ _ _)); first | (k_unfold; (try dsimp only)) | (k_end; wrow_close) | walk1 | (dsimp only [List.cons_append, List.nil_append]; walk1) | (dsimp only) | fail "no step"))
      all_goals (
        (rename News _ _ _ _ => n9)
        (rename Fr _ _ _ _ => f8)
        first | rw [find_gt hM hgt9] at f8 | rw [nofind_gt hM hgt9] at f8
        refine' ⟨_, _, _, _, rfl, f8, ?N1, ?p1, trivial⟩
        case N1 =>
          dsimp only [stS, stL, List.cons_append, List.nil_append]
          refine' nsub n9 ?N2
          case N2 => kstt_sub
        case p1 => kst_all)
    case nk =>
      rintro et9 m9 h9 tk9 p9 - F9 N9'
      dsimp only [stS, stL, List.cons_append, List.nil_append] at F9 N9'
      clear f9
      (try k_fold)
      k_with_none
      k_with "pz" => first | trivial | omega
      k_with "jn" => exact note_len (Int.natCast_nonneg _) hylen
      k_with "note" => ((rename _ = flat _ => hfl9); (rename _ = List.map _ (List.takeWhile _ _) => hmp9); exact note_same hM hmp9 hfl9)
      repeat' (first | ((fail_if_success (with_reducible show wpAny _ _ (PySem.exec (PySem.Stmt.Assign _ _ _) _) _ _ _)); first | (k_unfold; (try dsimp only)) | (k_end; wrow_close) | walk1 | (dsimp only [List.cons_append, List.nil_append]; walk1) | (dsimp only) | fail "no step"))
      all_goals (first | walk1 | skip)
      repeat' (first | ((fail_if_success (with_reducible show wpAny _ _ (PySem.exec (PySem.Stmt.Assign _ _ _) _) _ _ _)); first | (k_unfold; (try dsimp only)) | (k_end; wrow_close) | walk1 | (dsimp only [List.cons_append, List.nil_append]; walk1) | (dsimp only) | fail "no step"))
      repeat' (first | ((fail_if_success (with_reducible show wpAny _ _ (PySem.exec (PySem.Stmt.If _ _ _ _) _) _ _ _)); first | (k_unfold; (try dsimp only)) | (k_end; wrow_close) | walk1 | (dsimp only [List.cons_append, List.nil_append]; walk1) | (dsimp only) | fail "no step"))
      have hkt : (if (yy.length : Int) < ((M.takeWhile ngt).length : Int) + 1 then (yy.length : Int) else ((M.takeWhile ngt).length : Int) + 1) = ((min ((M.takeWhile ngt).length + 1) M.length : Nat) : Int) := by
        rw [hMl]
        split <;> omega
      generalize hkt2 : (if (yy.length : Int) < ((M.takeWhile ngt).length : Int) + 1 then (yy.length : Int) else ((M.takeWhile ngt).length : Int) + 1) = kt at *
      have hkl : min ((M.takeWhile ngt).length + 1) M.length ≤ M.length := Nat.min_le_right _ _
      obtain ⟨p3, pt3, pu3, hp3, hm3⟩ := hpl.all _ hkl
      replace hm3 := (show List.Mem _ _ from hm3)
      replace hp3 : usP[Int.toNat kt]? = some (Value.ref p3) := by rw [hkt]; exact hp3
      have hkt0 : 0 ≤ kt := by omega
      have hkt1 : kt ≤ 1000 := by omega
      k_with_none
      k_with "pz" => first | trivial | omega
      repeat' (first | ((fail_if_success (with_reducible show wpAny _ _ (execs (_ :: _ :: []) _) _ _ _)); (first | (k_unfold; (try dsimp only)) | (k_end; wrow_close) | walk1 | (dsimp only [List.cons_append, List.nil_append]; walk1) | (dsimp only) | fail "no step")) | fail "x")
      all_goals (
        refine' LawAt.use (tail_t (fa9 := fa9) (pa9 := pa9) (ysF := ysF) (nxF := nxF) (usP := usP) (epP := epP) (R := R) (M := M) (N := N) (k := min ((M.takeWhile ngt).length + 1) M.length) hM hyl hkl hkt ?tE hb0 hfa hpl2 hpm2 ?tv ?tb hnd' hh' hf' hp' r1 r2 r3 r4 r5 r6) ?tN ?ts ?tF ?tps ?tB ?tX ?tT ?ttk ?tret
        (case tN => assumption)
        (case ts => ((dsimp only [stS, stL, List.cons_append, List.nil_append]); kstt_sub))
        (case tF => assumption)
        (case tps => kst_all)
        (case tB => assumption)
        (case tX => assumption)
        (case tT => assumption)
        (case ttk => (first | assumption | (dsimp only; omega)))
        (case tret => (intro h' tk' m' F'; exact hret _ _ _ F'))
        (case tE => assumption)
        (case tv => assumption)
        (case tb => assumption))
end
end Mine
theorem Mine.off_s5 {M : Model} {A : Around} {env : Env} {Q : Flow → Shared → Prop} {E : Value → Shared → Prop} {s : Shared} (h : wpAny M A (execs [] env) Q E s) : wpAny M A (execs [] env) Q E s := by
  (try (walk1; fail "no"))
  w_top off
  exact h
namespace Mine
local macro_rules | `(tactic| k_ne) => `(tactic| first | exact (show Nq _ _ by with_reducible assumption) | exact Ne.symm (show Nq _ _ by with_reducible assumption) | (refine neN ?_; (try dsimp only); omega))
local macro_rules | `(tactic| k_room) => `(tactic| ((try simp only [depth_under_make, depth_under_kw, depth_in1, depth_deeper, depth_caller, ktrTop, recursionLimit] at *); omega))
local macro_rules | `(tactic| k_units) => `(tactic| ((have hcL9 := cLine_is); (try simp only [units_in1, units_deeper, Around.mark_units, units_caller, ktrTop] at *); omega))
local macro_rules | `(tactic| ktr_enter) => `(tactic| (refine' code_def ?k1 ?k2 ?k3 ?k4 ?k5 ?kA ?kF ?kK ?k6 ?k7 ?k8 ?k9 ?kB ?_ ?c2 ?c3 ?c4 ?c5; (case kA => exact rfl); (case kF => exact rfl); (case kK => first | exact rfl | assumption); (case k1 => k_asm); (case k2 => k_asm); (case k3 => k_asm); (case k4 => k_asm); (case k5 => k_asm); (case k6 => k_is); (case k7 => k_is); (case k8 => k_room); (case k9 => first | exact BindsTo.of_eq rfl | exact binds_K (by k_in) rfl (by k_is) rfl rfl rfl); (case c5 => decide); (case kB => exact locs rfl); (case c2 => exact rfl); (case c3 => exact rfl); (case c4 => exact rfl); k_whole; intro g' L' h' FG' F' N' B' X' T'; (try dsimp only); (try k_fold)))
local macro_rules | `(tactic| k_all) => `(tactic| (with_reducible assumption))
local macro_rules | `(tactic| tb_lt) => `(tactic| first | exact Pick.head | (refine' Pick.tail ?c; (case c => tb_lt)))
local macro_rules | `(tactic| tb_start) => `(tactic| first | exact Picks.nil | (refine' Picks.cons ?a ?b; (case a => tb_lt); (case b => tb_start)))
local macro_rules | `(tactic| tb_rel) => `(tactic| first | exact List.forall_mem_nil _ | (refine' List.forall_mem_cons.mpr ⟨?a, ?b⟩; (case a => k_all); (case b => tb_rel)))
local macro_rules | `(tactic| walk_at "TPost") => `(tactic| (dsimp only [TPost]))
local macro_rules | `(tactic| size_fits) => `(tactic| ((simp only [PySem.sizeLine_eq, List.size_toArray]); omega))
local macro_rules | `(tactic| k_gentoks) => `(tactic| (with_reducible refine' gen_toksP ?hp ?_; (case hp => first | omega | ((try simp only [List.length_cons]); omega)); intro tk htk))
local macro_rules | `(tactic| kstt_sub) => `(tactic| first | exact fun _ h => h | assumption | (refine' subCons ?a ?b; (case a => k_mem); (case b => kstt_sub)) | (refine' subTail ?a; (case a => kstt_sub)))
local macro_rules | `(tactic| kst_all) => `(tactic| first | exact List.forall_mem_nil _ | (refine' List.forall_mem_cons.mpr ⟨?a, ?b⟩; (case a => exact rfl); (case b => kst_all)))
local macro_rules | `(tactic| walk_at "MidEnd") => `(tactic| first
  | ((with_reducible show MidEnd _ _ _ _ _ _ _ Flow.next _); (refine' ⟨(tk8 _ _ _ _ _ _ _ _, _), _, _, _, rfl, ?F, ?N, ?ps, ?P⟩); (case F => assumption); (case N => (refine' nsub ?N1 ?N2; (case N1 => assumption); (case N2 => kstt_sub))); (case ps => kst_all); (case P => k_extra "mid"))
  | ((fail_if_success (with_reducible show MidEnd _ _ _ _ _ _ _ Flow.next _)); dsimp only [MidEnd]))
local macro_rules | `(tactic| walk_at "WEnd") => `(tactic| ((fail_if_success (with_reducible show WEnd _ _ _ _ _ _ _ _ _ Flow.next _)); dsimp only [WEnd]))
local macro_rules | `(tactic| walk_at "callWith") => `(tactic| (k_here; (with_reducible refine' callWith_method1 ?_ ?he ?hp); (case he => k_dflt rfl); (case hp => k_dflt rfl)))
local macro_rules | `(tactic| k_steps) => `(tactic| repeat' (first | (k_unfold; (try dsimp only)) | (k_end; wrow_close) | walk1 | (dsimp only [List.cons_append, List.nil_append]; walk1) | (dsimp only) | fail "no step"))
section
local macro_rules | `(tactic| walk_at "ite") => `(tactic| (k_here; first | (refine if_yes ?a ?_; (case a => with_reducible assumption)) | (refine if_no ?a ?_; (case a => with_reducible assumption))))
local macro_rules | `(tactic| kpa_room) => `(tactic| first | exact Rows.nil | (refine Rows.int (by rfl) ?r; (case r => kpa_room)) | (refine Rows.str (by rfl) ?e ?r; (case e => first | rfl | k_extra "note"); (case r => kpa_room)))
local macro_rules | `(tactic| kpa_letter) => `(tactic| first | exact AllAlike.nil | (refine' AllAlike.cons (alike_dicts ?N ?pa ?pb ?da ?db ?la ?lb ?ab ?hl ?hu ?rows) ?r; (case N => assumption); (case pa => k_mem); (case pb => k_mem); (case da => assumption); (case db => assumption); (case la => assumption); (case lb => assumption); (case ab => k_ne); (case hl => rfl); (case hu => k_units); (case rows => kpa_room); (case r => kpa_letter)))
local macro_rules | `(tactic| walk_at "compareOp NotEq ref ref") => `(tactic| (k_here; (with_reducible show wpAny _ _ (compareOp CmpOp.NotEq (Value.ref _) (Value.ref _)) _ _ _); k_dflt (refine' alike_news (xs := [_]) (ys := [_]) ?N ?ha ?hb ?hu ?he ?_; (case N => assumption); (case ha => k_mem); (case hb => k_mem); (case hu => k_units); (case he => kpa_letter))))
local macro_rules | `(tactic| walk_at "call ref") => `(tactic| (k_here; k_dflt (refine' TellR.use (markup_C ?u1 ?u2 ?u3 ?u4 ?u5 ?u6 ?u7 ?u8 ?u9 ?u10 ?u11 ?u12 ?u13) ?k1 ?k2 ?k3 ?k4 ?k5 ?kK ?kp ?ko ?kd ?ku ?k0 ?_; (case k1 => k_asm); (case k2 => k_asm); (case k3 => k_asm); (case k4 => k_asm); (case k5 => k_asm); (case kK => first | exact rfl | assumption); (case kp => tb_start); (case ko => tb_rel); (case u1 => with_reducible assumption); (case u2 => with_reducible assumption); (case u3 => with_reducible assumption); (case u4 => with_reducible assumption); (case u5 => with_reducible assumption); (case u6 => with_reducible assumption); (case u7 => with_reducible assumption); (case u8 => with_reducible assumption); (case u9 => with_reducible assumption); (case u10 => with_reducible assumption); (case u11 => exact Nat.le_of_ble_eq_true rfl); (case u12 => with_reducible assumption); (case u13 => with_reducible assumption); (case kd => k_room); (case ku => k_units); (case k0 => first | exact (show 1 ≤ _ by (try dsimp only); omega) | exact Nat.zero_le _); intro r9 f9 h9 tk9 p9 F9 N9 hP9; obtain ⟨e1, S2, a0, a1, a2, a3, a4, b0, b1, bv2, vs2, ep2, st2, da2, o2, te2, t2a, t2b, hb2, hv2, hE2, hs2, hord2, hdict2, e2⟩ := hP9; subst e1; subst e2; simp only [AllLt, and_true] at hord2; dsimp only [stS, stL, List.cons_append, List.nil_append] at N9; (try dsimp only [List.nil_append, List.cons_append] at N9); (try k_fold))))
theorem headC_t {w : World} {hx hd tq lf sx sd tx td ra el nl fa9 pa9 pl9 qq : Nat} {κ κs κx : Nat → Nat} {a0 a1 a2 a3 a4 b0 b1 : Nat} {S : SS} {bv : Value} {vs ysF usP : List Value} {ep nxF epP bt mt plt plu : Nat} {R : List (Addr × Obj)} {yy : PySem.Str} {M : List Nat} {N : Nat} {b : Int}
    (hM : yy.cps.toList = M) (hyl : yy.length ≤ 200) (hasc : ∀ c ∈ M, c < 128) (hA : ¬ M.take 2 = [45, 45]) (hB : ¬ (M.take 7).map lw = docW) (h1 : b = 0 → Pos1 S []) (hE : Ends (b = 0) M N S 0) (hgo : Go S) (hcl : S.c.length ≤ 10001) (hsuf : Suf S []) (hlt : hd < hx)
    (hpl : PlOK M usP R) (hb0 : 0 ≤ b) (hfa : CarriedAll ysF (List.replicate N (PyData.str icS))) (hpl2 : usP.toArray.back? = some (Value.ref pl9)) (hpm2 : List.Mem (pl9, pairObj (lcL M + 1) (lcC 0 M) plt plu) R)
    (hv : Errs vs S.n) (hbf : BfV S.bo bv) (hnd : NQ6 sx sd tx td ra el) (hh : HQ hx hd tq sx sd tx td ra el)
    (hf : Nq fa9 hx ∧ Nq fa9 hd ∧ Nq fa9 sx ∧ Nq fa9 sd ∧ Nq fa9 tx ∧ Nq fa9 td ∧ Nq fa9 ra ∧ Nq fa9 el) (hp : Nq pa9 hx ∧ Nq pa9 hd ∧ Nq pa9 sx ∧ Nq pa9 sd ∧ Nq pa9 tx ∧ Nq pa9 td ∧ Nq pa9 ra ∧ Nq pa9 el) (hft : Nq fa9 tq ∧ Nq pa9 tq)
    (r1 : ∀ p ∈ R, p.1 ≠ sx) (r2 : ∀ p ∈ R, p.1 ≠ sd) (r3 : ∀ p ∈ R, p.1 ≠ tx) (r4 : ∀ p ∈ R, p.1 ≠ td) (r5 : ∀ p ∈ R, p.1 ≠ ra) (r6 : ∀ p ∈ R, p.1 ≠ el) (r7 : ∀ p ∈ R, p.1 ≠ hx) (r8 : ∀ p ∈ R, p.1 ≠ hd) (r9 : ∀ p ∈ R, p.1 ≠ tq) :
    LawAt w 9 [(Str.ofString "reader", .ref hx), (Str.ofString "mended", .str yy mt), (Str.ofString "places", .ref pa9), (Str.ofString "faulty", .ref fa9), (Str.ofString "border", .int b bt)]
      ((hx, instObj 762 hd) :: (hd, hdD8 w κ sx lf tq (.ref qq) Value.none) :: (tq, W.listOf #[] 0) :: (stS w sx sd tx td ra el nl κs κx a0 a1 a2 a3 a4 b0 b1 S bv vs ep ++ (fa9, { cls := Value.type "list", data := Data.seq ysF.toArray nxF }) :: (pa9, W.listOf usP.toArray epP) :: R)) := by
  unfold LawAt KF PG
  k_fill
  intro mean mg mb base h₀ L fa cd m s Q E B F hps X N9 T htk hret
  rw [← kstB_self hps] at F
  clear hps
  dsimp only [stS, stL, List.cons_append, List.nil_append] at N9
  have hnd' : NQ6 sx sd tx td ra el := hnd
  unfold NQ6 at hnd
  obtain ⟨q1, q2, q3, q4, q5, q6, q7, q8, q9, q10, q11, q12, q13, q14, q15⟩ := hnd
  have hh' : HQ hx hd tq sx sd tx td ra el := hh
  unfold HQ at hh
  obtain ⟨g1, g2, g3, g4, g5, g6, g7, g8, g9, g10, g11, g12, g13, g14, g15, g16, g17, g18, g19, g20, g21⟩ := hh
  have hf' := hf
  obtain ⟨f1, f2, f3, f4, f5, f6, f7, f8⟩ := hf
  have hp' := hp
  obtain ⟨p1, p2, p3, p4, p5, p6, p7, p8⟩ := hp
  obtain ⟨ft1, ft2⟩ := hft
  have y2 := head2_is hM
  have y7 := head7_is hM hasc
  rw [decide_eq_false hA] at y2
  rw [decide_eq_false hB] at y7
  simp only [LR, recOfWalk, List.drop_succ_cons, List.drop_zero]
  (try k_fold)
  k_with_none
  repeat' (first | ((fail_if_success (with_reducible show wpAny _ _ (execs (_ :: _ :: _ :: _ :: []) _) _ _ _)); (first | (k_unfold; (try dsimp only)) | (k_end; wrow_close) | walk1 | (dsimp only [List.cons_append, List.nil_append]; walk1) | (dsimp only) | fail "no step")) | fail "x")
  repeat' ((rename _ < _ ∧ _ => lx9); obtain ⟨lx1, lx2⟩ := lx9)
  refine' LawAt.use (midC_t (fa9 := fa9) (pa9 := pa9) (ysF := ysF) (nxF := nxF) (usP := usP) (epP := epP) (R := R) (M := M) (N := N) hM hyl hlt ?tE hpl hb0 hfa hpl2 hpm2 ?tv ?tb hnd' hh' hf' hp' ⟨ft1, ft2⟩ r1 r2 r3 r4 r5 r6 r7 r8 r9 ?o1 ?o2 ?o3 ?o4 ?s1 ?s2 ?d1 ?d2) ?tN ?ts ?tF ?tps ?tB ?tX ?tT ?ttk ?tret
  (case tN => assumption)
  (case ts => ((dsimp only [stS, stL, List.cons_append, List.nil_append]); kstt_sub))
  (case tF => assumption)
  (case tps => kst_all)
  (case tB => assumption)
  (case tX => assumption)
  (case tT => assumption)
  (case ttk => (first | assumption | (dsimp only; omega)))
  (case tret => (intro h' tk' m' F'; exact hret _ _ _ F'))
  (case tE => assumption)
  (case tv => assumption)
  (case tb => assumption)
  (case o1 => (refine ⟨?_, ?_, ?_, ?_, ?_, ?_, ?_, ?_, ?_⟩ <;> assumption))
  (case o2 => (refine ⟨?_, ?_, ?_, ?_, ?_, ?_, ?_, ?_, ?_⟩ <;> assumption))
  (case o3 => (refine ⟨?_, ?_, ?_, ?_, ?_, ?_, ?_, ?_, ?_⟩ <;> assumption))
  (case o4 => assumption)
  (case s1 => assumption)
  (case s2 => assumption)
  (case d1 => assumption)
  (case d2 => assumption)
end
end Mine
namespace Mine
theorem head_t {w : World} {hx hd tq lf sx sd tx td ra el nl fa9 pa9 qq : Nat} {κ κs κx : Nat → Nat} {a0 a1 a2 a3 a4 b0 b1 : Nat} {S : SS} {bv : Value} {vs : List Value} {ep : Nat} {ysF usP : List Value} {nxF epP bt mt : Nat} {R : List (Addr × Obj)} {xx yy : PySem.Str} {ns : List Int} {b : Int}
    (hst : Start (xx ++ Str.ofString "x") xx.cps.toList) (hmend : yy.cps.toList = mend false (xx ++ Str.ofString "x" : PySem.Str).cps.toList) (hflat : xx.cps.toList = flat (ns.map sgS)) (hylen : yy.length ≤ 200) (hpl : PlOK yy.cps.toList usP R)
    (hfa0 : CarriedAll ysF (List.map (fun _ => PyData.str (Str.ofString "invalid-codepoint")) (List.filter (fun a => a == Str.ofString "\x01") (signs yy)))) (hrd : Ready S xx.cps.toList) (hone : b = 0 → Pos1 S []) (hvs : Errs vs S.n) (hbv : BfV S.bo bv) (hb0 : 0 ≤ b) (t1 : hd < hx) (hnd : NQ6 sx sd tx td ra el) (hh : HQ hx hd tq sx sd tx td ra el)
    (hfq : Nq fa9 hx ∧ Nq fa9 hd ∧ Nq fa9 sx ∧ Nq fa9 sd ∧ Nq fa9 tx ∧ Nq fa9 td ∧ Nq fa9 ra ∧ Nq fa9 el) (hpq : Nq pa9 hx ∧ Nq pa9 hd ∧ Nq pa9 sx ∧ Nq pa9 sd ∧ Nq pa9 tx ∧ Nq pa9 td ∧ Nq pa9 ra ∧ Nq pa9 el) (hftq : Nq fa9 tq ∧ Nq pa9 tq)
    (r1 : ∀ p ∈ R, p.1 ≠ sx) (r2 : ∀ p ∈ R, p.1 ≠ sd) (r3 : ∀ p ∈ R, p.1 ≠ tx) (r4 : ∀ p ∈ R, p.1 ≠ td) (r5 : ∀ p ∈ R, p.1 ≠ ra) (r6 : ∀ p ∈ R, p.1 ≠ el) (r7 : ∀ p ∈ R, p.1 ≠ hx) (r8 : ∀ p ∈ R, p.1 ≠ hd) (r9 : ∀ p ∈ R, p.1 ≠ tq) :
    LawAt w 9 [(Str.ofString "reader", .ref hx), (Str.ofString "mended", .str yy mt), (Str.ofString "places", .ref pa9), (Str.ofString "faulty", .ref fa9), (Str.ofString "border", .int b bt)]
      ((hx, instObj 762 hd) :: (hd, hdD8 w κ sx lf tq (.ref qq) Value.none) :: (tq, W.listOf #[] 0) :: (stS w sx sd tx td ra el nl κs κx a0 a1 a2 a3 a4 b0 b1 S bv vs ep ++ (fa9, { cls := Value.type "list", data := Data.seq ysF.toArray nxF }) :: (pa9, W.listOf usP.toArray epP) :: R)) := by
  have hM : yy.cps.toList = mend false xx.cps.toList ++ [120] := by rw [hmend, hst.hT, mend_x]
  have hok : Okay xx.cps.toList := by rw [hflat]; exact sg_okay ns
  have hokM : Okay (mend false xx.cps.toList ++ [120]) := okay_x (okay_mend hok)
  have hasc : ∀ c ∈ mend false xx.cps.toList ++ [120], c < 128 := fun c hc => (hokM c hc).1
  have hN : cntI (xx.cps.toList ++ [120]) = ((mend false xx.cps.toList ++ [120]).filter fun c => decide (c = 1)).length := by rw [cntI_ones (okay_x hok), mend_x]
  have hE : ∀ pz : Prop, Ends pz (mend false xx.cps.toList ++ [120]) (cntI (xx.cps.toList ++ [120])) S 0 := fun pz => ⟨hrd.wf, by rw [hrd.rem, List.drop_zero], hrd.tot, fun _ => by rw [List.take_zero]; exact hrd.pos⟩
  have hgo := hrd.go
  have hcl := hrd.len
  have hsuf := hrd.pos.suf
  have hMl : (mend false xx.cps.toList ++ [120]).length = yy.length := by rw [← hM]; simp [PySem.Str.length]
  generalize hMM : mend false xx.cps.toList ++ [120] = M at *
  rw [hM] at hpl
  have hfa := faulty_rep hM hN hfa0
  obtain ⟨pl9, plt9, plu9, hpl2, hpm2⟩ := hpl.last
  replace hpm2 := (show List.Mem _ _ from hpm2)
  by_cases hA : M.take 2 = [45, 45]
  · obtain ⟨pk, pt, pu, hp2, hm2⟩ := hpl.all 2 (by have := congrArg List.length hA; rw [List.length_take] at this; have e : ([45, 45] : List Nat).length = 2 := rfl; omega)
    exact headA_t (fa9 := fa9) (pa9 := pa9) (ysF := ysF) (nxF := nxF) (usP := usP) (epP := epP) (R := R) (M := M) hM hylen hasc hA (hE True) hgo hcl hsuf t1 hp2 hm2 hb0 hfa hpl2 hpm2 hvs hbv hnd hh hfq hpq hftq r1 r2 r3 r4 r5 r6 r7 r8 r9
  · by_cases hB : (M.take 7).map lw = docW
    · obtain ⟨pk, pt, pu, hp2, hm2⟩ := hpl.all 7 (by have := congrArg List.length hB; rw [List.length_map, List.length_take] at this; have e : docW.length = 7 := rfl; omega)
      exact headB_t (fa9 := fa9) (pa9 := pa9) (ysF := ysF) (nxF := nxF) (usP := usP) (epP := epP) (R := R) (M := M) hM hylen hasc hA hB (hE True) hgo hcl hsuf t1 hp2 hm2 hb0 hfa hpl2 hpm2 hvs hbv hnd hh hfq hpq hftq r1 r2 r3 r4 r5 r6 r7 r8 r9
    · exact headC_t (fa9 := fa9) (pa9 := pa9) (ysF := ysF) (nxF := nxF) (usP := usP) (epP := epP) (R := R) (M := M) hM hylen hasc hA hB hone (hE (b = 0)) hgo hcl hsuf t1 hpl hb0 hfa hpl2 hpm2 hvs hbv hnd hh hfq hpq hftq r1 r2 r3 r4 r5 r6 r7 r8 r9
end Mine
theorem Mine.off_s7 {M : Model} {A : Around} {env : Env} {Q : Flow → Shared → Prop} {E : Value → Shared → Prop} {s : Shared} (h : wpAny M A (execs [] env) Q E s) : wpAny M A (execs [] env) Q E s := by
  (try (walk1; fail "no"))
  w_top off
  exact h
namespace Mine
local macro_rules | `(tactic| k_ne) => `(tactic| first | exact (show Nq _ _ by with_reducible assumption) | exact Ne.symm (show Nq _ _ by with_reducible assumption) | (refine neN ?_; (try dsimp only); omega))
local macro_rules | `(tactic| k_room) => `(tactic| ((try simp only [depth_under_make, depth_under_kw, depth_in1, depth_deeper, depth_caller, ktrTop, recursionLimit] at *); omega))
local macro_rules | `(tactic| k_units) => `(tactic| ((have hcL9 := cLine_is); (try simp only [units_in1, units_deeper, Around.mark_units, units_caller, ktrTop] at *); omega))
local macro_rules | `(tactic| ktr_enter) => `(tactic| (refine' code_def ?k1 ?k2 ?k3 ?k4 ?k5 ?kA ?kF ?kK ?k6 ?k7 ?k8 ?k9 ?kB ?_ ?c2 ?c3 ?c4 ?c5; (case kA => exact rfl); (case kF => exact rfl); (case kK => first | exact rfl | assumption); (case k1 => k_asm); (case k2 => k_asm); (case k3 => k_asm); (case k4 => k_asm); (case k5 => k_asm); (case k6 => k_is); (case k7 => k_is); (case k8 => k_room); (case k9 => first | exact BindsTo.of_eq rfl | exact binds_K (by k_in) rfl (by k_is) rfl rfl rfl); (case c5 => decide); (case kB => exact locs rfl); (case c2 => exact rfl); (case c3 => exact rfl); (case c4 => exact rfl); k_whole; intro g' L' h' FG' F' N' B' X' T'; (try dsimp only); (try k_fold)))
local macro_rules | `(tactic| k_all) => `(tactic| (with_reducible assumption))
local macro_rules | `(tactic| tb_lt) => `(tactic| first | exact Pick.head | (refine' Pick.tail ?c; (case c => tb_lt)))
local macro_rules | `(tactic| tb_start) => `(tactic| first | exact Picks.nil | (refine' Picks.cons ?a ?b; (case a => tb_lt); (case b => tb_start)))
local macro_rules | `(tactic| tb_rel) => `(tactic| first | exact List.forall_mem_nil _ | (refine' List.forall_mem_cons.mpr ⟨?a, ?b⟩; (case a => k_all); (case b => tb_rel)))
local macro_rules | `(tactic| walk_at "TPost") => `(tactic| (dsimp only [TPost]))
local macro_rules | `(tactic| size_fits) => `(tactic| ((simp only [PySem.sizeLine_eq, List.size_toArray]); omega))
local macro_rules | `(tactic| k_gentoks) => `(tactic| (with_reducible refine' gen_toksP ?hp ?_; (case hp => first | omega | ((try simp only [List.length_cons]); omega)); intro tk htk))
local macro_rules | `(tactic| kstt_sub) => `(tactic| first | exact fun _ h => h | assumption | (refine' subCons ?a ?b; (case a => k_mem); (case b => kstt_sub)) | (refine' subTail ?a; (case a => kstt_sub)))
local macro_rules | `(tactic| kst_all) => `(tactic| first | exact List.forall_mem_nil _ | (refine' List.forall_mem_cons.mpr ⟨?a, ?b⟩; (case a => exact rfl); (case b => kst_all)))
local macro_rules | `(tactic| walk_at "MidEnd") => `(tactic| first
  | ((with_reducible show MidEnd _ _ _ _ _ _ _ Flow.next _); (refine' ⟨(tk8 _ _ _ _ _ _ _ _, _), _, _, _, rfl, ?F, ?N, ?ps, ?P⟩); (case F => assumption); (case N => (refine' nsub ?N1 ?N2; (case N1 => assumption); (case N2 => kstt_sub))); (case ps => kst_all); (case P => k_extra "mid"))
  | ((fail_if_success (with_reducible show MidEnd _ _ _ _ _ _ _ Flow.next _)); dsimp only [MidEnd]))
local macro_rules | `(tactic| walk_at "WEnd") => `(tactic| ((fail_if_success (with_reducible show WEnd _ _ _ _ _ _ _ _ _ Flow.next _)); dsimp only [WEnd]))
local macro_rules | `(tactic| walk_at "callWith") => `(tactic| (k_here; (with_reducible refine' callWith_method1 ?_ ?he ?hp); (case he => k_dflt rfl); (case hp => k_dflt rfl)))
local macro_rules | `(tactic| k_steps) => `(tactic| repeat' (first | (k_unfold; (try dsimp only)) | (k_end; wrow_close) | walk1 | (dsimp only [List.cons_append, List.nil_append]; walk1) | (dsimp only) | fail "no step"))
section
local macro_rules | `(tactic| walk_at "ite") => `(tactic| (k_here; first | (refine if_yes ?a ?_; (case a => with_reducible assumption)) | (refine if_no ?a ?_; (case a => with_reducible assumption))))
local macro_rules | `(tactic| walk_at "call ref") => `(tactic| (k_here; k_dflt (refine' TellR.use (readChunk_k ?a1 ?a2 ?a3 ?a4 ?a5 ?a6) ?k1 ?k2 ?k3 ?k4 ?k5 ?kK ?kp ?ko ?kd ?ku ?k0 ?_; (case k1 => k_asm); (case k2 => k_asm); (case k3 => k_asm); (case k4 => k_asm); (case k5 => k_asm); (case kK => first | exact rfl | assumption); (case kp => tb_start); (case ko => tb_rel); (case a1 => assumption); (case a2 => assumption); (case a3 => omega); (case a4 => omega); (case a5 => omega); (case a6 => assumption); (case kd => k_room); (case ku => k_units); (case k0 => first | exact (show 1 ≤ _ by (try dsimp only); omega) | exact Nat.zero_le _); intro r9 f9 h9 tk9 p9 F9 N9 hP9; obtain ⟨a0, a1, a2, a3, a4, b0, b1, bv, vs2, ep2, e1, hb2, hv2, e2⟩ := hP9; subst e1; subst e2; dsimp only [stL, List.cons_append, List.nil_append] at N9; (try dsimp only [List.nil_append, List.cons_append] at N9); (try k_fold))))
theorem border_t {w : World} {hx hd tq lf sx sd tx td ra el nl fa9 pa9 qq : Nat} {κ κs κx : Nat → Nat} {a0 a1 a2 a3 a4 b0 b1 : Nat} {ysF usP : List Value} {nxF epP bt mt : Nat} {R : List (Addr × Obj)} {xx yy : PySem.Str} {ns : List Int} {b : Int}
    (hst : Start (xx ++ Str.ofString "x") xx.cps.toList) (hmend : yy.cps.toList = mend false (xx ++ Str.ofString "x" : PySem.Str).cps.toList) (hflat : xx.cps.toList = flat (ns.map sgS)) (hylen : yy.length ≤ 200) (hpl : PlOK yy.cps.toList usP R)
    (hfa0 : CarriedAll ysF (List.map (fun _ => PyData.str (Str.ofString "invalid-codepoint")) (List.filter (fun a => a == Str.ofString "\x01") (signs yy)))) (hb3 : b ≤ 3) (hb0 : 0 ≤ b) (t1 : hd < hx) (hnd : NQ6 sx sd tx td ra el) (hh : HQ hx hd tq sx sd tx td ra el)
    (hfq : Nq fa9 hx ∧ Nq fa9 hd ∧ Nq fa9 sx ∧ Nq fa9 sd ∧ Nq fa9 tx ∧ Nq fa9 td ∧ Nq fa9 ra ∧ Nq fa9 el) (hpq : Nq pa9 hx ∧ Nq pa9 hd ∧ Nq pa9 sx ∧ Nq pa9 sd ∧ Nq pa9 tx ∧ Nq pa9 td ∧ Nq pa9 ra ∧ Nq pa9 el) (hftq : Nq fa9 tq ∧ Nq pa9 tq)
    (r1 : ∀ p ∈ R, p.1 ≠ sx) (r2 : ∀ p ∈ R, p.1 ≠ sd) (r3 : ∀ p ∈ R, p.1 ≠ tx) (r4 : ∀ p ∈ R, p.1 ≠ td) (r5 : ∀ p ∈ R, p.1 ≠ ra) (r6 : ∀ p ∈ R, p.1 ≠ el) (r7 : ∀ p ∈ R, p.1 ≠ hx) (r8 : ∀ p ∈ R, p.1 ≠ hd) (r9 : ∀ p ∈ R, p.1 ≠ tq) :
    LawAt w 8 [(Str.ofString "reader", .ref hx), (Str.ofString "mended", .str yy mt), (Str.ofString "places", .ref pa9), (Str.ofString "faulty", .ref fa9), (Str.ofString "border", .int b bt)]
      ((hx, instObj 762 hd) :: (hd, hdD8 w κ sx lf tq (.ref qq) Value.none) :: (tq, W.listOf #[] 0) :: (stL w sx sd tx td ra el nl κs κx a0 a1 a2 a3 a4 b0 b1 (xx ++ Str.ofString "x") 0 (Str.ofString "") 0 0 0 0 .none [] 0 ++ (fa9, { cls := Value.type "list", data := Data.seq ysF.toArray nxF }) :: (pa9, W.listOf usP.toArray epP) :: R)) := by
  unfold LawAt KF PG
  k_fill
  intro mean mg mb base h₀ L fa cd m s Q E B F hps X N9 T htk hret
  rw [← kstB_self hps] at F
  clear hps
  dsimp only [stL, List.cons_append, List.nil_append] at N9
  have hnd' : NQ6 sx sd tx td ra el := hnd
  have hh' : HQ hx hd tq sx sd tx td ra el := hh
  unfold HQ at hh
  obtain ⟨g1, g2, g3, g4, g5, g6, g7, g8, g9, g10, g11, g12, g13, g14, g15, g16, g17, g18, g19, g20, g21⟩ := hh
  have hf' := hfq
  obtain ⟨f1, f2, f3, f4, f5, f6, f7, f8⟩ := hf'
  have hp' := hpq
  obtain ⟨p1, p2, p3, p4, p5, p6, p7, p8⟩ := hp'
  have he9 : Errs [] 0 := ⟨rfl, fun _ h => nomatch h⟩
  have hbf9 : BfV none .none := BfV_none
  have hTl : (xx ++ Str.ofString "x" : PySem.Str).length ≤ 1000 := hst.len
  have e0 : (((Str.ofString "").length : Nat) : Int) = 0 := by rw [len_nil]; rfl
  by_cases hbz : b = 0
  · subst hbz
    simp only [LR, recOfWalk, List.drop_succ_cons, List.drop_zero]
    (try k_fold)
    k_with_none
    repeat' (first | ((fail_if_success (with_reducible show wpAny _ _ (execs (_ :: _ :: _ :: _ :: _ :: _ :: _ :: _ :: _ :: []) _) _ _ _)); (first | (k_unfold; (try dsimp only)) | (k_end; wrow_close) | walk1 | (dsimp only [List.cons_append, List.nil_append]; walk1) | (dsimp only) | fail "no step")) | fail "x")
    refine' LawAt.use (head_t (S := ⟨xx ++ Str.ofString "x", 0, Str.ofString "", 0, 0, 0, none, 0⟩) (fa9 := fa9) (pa9 := pa9) (ysF := ysF) (nxF := nxF) (usP := usP) (epP := epP) (R := R) (b := 0) hst hmend hflat hylen hpl hfa0 hst.ready (fun _ => hst.one) ?hv1 ?hb1 (Int.le_refl 0) t1 hnd' hh' hfq hpq hftq r1 r2 r3 r4 r5 r6 r7 r8 r9) ?tN ?ts ?tF ?tps ?tB ?tX ?tT ?ttk ?tret
    (case tN => assumption)
    (case ts =>
      dsimp only [stS, stL, rdS, List.cons_append, List.nil_append]
      (try rw [e0])
      kstt_sub)
    (case tF => assumption)
    (case tps => kst_all)
    (case tB => assumption)
    (case tX => assumption)
    (case tT => assumption)
    (case ttk => (first | assumption | (dsimp only; omega)))
    (case tret => (intro h' tk' m' F'; exact hret _ _ _ F'))
    (case hv1 => assumption)
    (case hb1 => assumption)
  · obtain ⟨hrd, hrp⟩ := hst.read (k := b + 1) (by omega) (by omega)
    simp only [LR, recOfWalk, List.drop_succ_cons, List.drop_zero]
    (try k_fold)
    k_with_none
    repeat' (first | ((fail_if_success (with_reducible show wpAny _ _ (execs (_ :: _ :: _ :: _ :: _ :: _ :: _ :: _ :: _ :: []) _) _ _ _)); (first | (k_unfold; (try dsimp only)) | (k_end; wrow_close) | walk1 | (dsimp only [List.cons_append, List.nil_append]; walk1) | (dsimp only) | fail "no step")) | fail "x")
    · refine' LawAt.use (head_t (S := rdS (b + 1) ⟨xx ++ Str.ofString "x", 0, Str.ofString "", 0, 0, 0, none, 0⟩) (fa9 := fa9) (pa9 := pa9) (ysF := ysF) (nxF := nxF) (usP := usP) (epP := epP) (R := R) (b := b) hst hmend hflat hylen hpl hfa0 hrd (fun e => absurd e hbz) ?hv1 ?hb1 hb0 t1 hnd' hh' hfq hpq hftq r1 r2 r3 r4 r5 r6 r7 r8 r9) ?tN ?ts ?tF ?tps ?tB ?tX ?tT ?ttk ?tret
      (case tN => assumption)
      (case ts =>
        dsimp only [stS, stL, rdS, List.cons_append, List.nil_append]
        (try rw [e0])
        kstt_sub)
      (case tF => assumption)
      (case tps => kst_all)
      (case tB => assumption)
      (case tX => assumption)
      (case tT => assumption)
      (case ttk => (first | assumption | (dsimp only; omega)))
      (case tret => (intro h' tk' m' F'; exact hret _ _ _ F'))
      (case hv1 => assumption)
      (case hb1 => assumption)
    · exfalso
      omega
end
end Mine
theorem Mine.off_law9 {M : Model} {A : Around} {env : Env} {Q : Flow → Shared → Prop} {E : Value → Shared → Prop} {s : Shared} (h : wpAny M A (execs [] env) Q E s) : wpAny M A (execs [] env) Q E s := by
  (try (walk1; fail "no"))
  w_top off
  exact h
namespace Mine
local macro_rules | `(tactic| k_ne) => `(tactic| first | exact (show Nq _ _ by with_reducible assumption) | exact Ne.symm (show Nq _ _ by with_reducible assumption) | (refine neN ?_; (try dsimp only); omega))
local macro_rules | `(tactic| k_room) => `(tactic| ((try simp only [depth_under_make, depth_under_kw, depth_in1, depth_deeper, depth_caller, ktrTop, recursionLimit] at *); omega))
local macro_rules | `(tactic| k_units) => `(tactic| ((have hcL9 := cLine_is); (try simp only [units_in1, units_deeper, Around.mark_units, units_caller, ktrTop] at *); omega))
local macro_rules | `(tactic| ktr_enter) => `(tactic| (refine' code_def ?k1 ?k2 ?k3 ?k4 ?k5 ?kA ?kF ?kK ?k6 ?k7 ?k8 ?k9 ?kB ?_ ?c2 ?c3 ?c4 ?c5; (case kA => exact rfl); (case kF => exact rfl); (case kK => first | exact rfl | assumption); (case k1 => k_asm); (case k2 => k_asm); (case k3 => k_asm); (case k4 => k_asm); (case k5 => k_asm); (case k6 => k_is); (case k7 => k_is); (case k8 => k_room); (case k9 => first | exact BindsTo.of_eq rfl | exact binds_K (by k_in) rfl (by k_is) rfl rfl rfl); (case c5 => decide); (case kB => exact locs rfl); (case c2 => exact rfl); (case c3 => exact rfl); (case c4 => exact rfl); k_whole; intro g' L' h' FG' F' N' B' X' T'; (try dsimp only); (try k_fold)))
local macro_rules | `(tactic| k_all) => `(tactic| (with_reducible assumption))
local macro_rules | `(tactic| tb_lt) => `(tactic| first | exact Pick.head | (refine' Pick.tail ?c; (case c => tb_lt)))
local macro_rules | `(tactic| tb_start) => `(tactic| first | exact Picks.nil | (refine' Picks.cons ?a ?b; (case a => tb_lt); (case b => tb_start)))
local macro_rules | `(tactic| tb_rel) => `(tactic| first | exact List.forall_mem_nil _ | (refine' List.forall_mem_cons.mpr ⟨?a, ?b⟩; (case a => k_all); (case b => tb_rel)))
local macro_rules | `(tactic| walk_at "TPost") => `(tactic| (dsimp only [TPost]))
local macro_rules | `(tactic| size_fits) => `(tactic| ((simp only [PySem.sizeLine_eq, List.size_toArray]); omega))
local macro_rules | `(tactic| k_gentoks) => `(tactic| (with_reducible refine' gen_toksP ?hp ?_; (case hp => first | omega | ((try simp only [List.length_cons]); omega)); intro tk htk))
local macro_rules | `(tactic| kstt_sub) => `(tactic| first | exact fun _ h => h | assumption | (refine' subCons ?a ?b; (case a => k_mem); (case b => kstt_sub)) | (refine' subTail ?a; (case a => kstt_sub)))
local macro_rules | `(tactic| kst_all) => `(tactic| first | exact List.forall_mem_nil _ | (refine' List.forall_mem_cons.mpr ⟨?a, ?b⟩; (case a => exact rfl); (case b => kst_all)))
local macro_rules | `(tactic| walk_at "MidEnd") => `(tactic| first
  | ((with_reducible show MidEnd _ _ _ _ _ _ _ Flow.next _); (refine' ⟨(tk8 _ _ _ _ _ _ _ _, _), _, _, _, rfl, ?F, ?N, ?ps, ?P⟩); (case F => assumption); (case N => (refine' nsub ?N1 ?N2; (case N1 => assumption); (case N2 => kstt_sub))); (case ps => kst_all); (case P => k_extra "mid"))
  | ((fail_if_success (with_reducible show MidEnd _ _ _ _ _ _ _ Flow.next _)); dsimp only [MidEnd]))
local macro_rules | `(tactic| walk_at "WEnd") => `(tactic| ((fail_if_success (with_reducible show WEnd _ _ _ _ _ _ _ _ _ Flow.next _)); dsimp only [WEnd]))
local macro_rules | `(tactic| walk_at "callWith") => `(tactic| (k_here; (with_reducible refine' callWith_method1 ?_ ?he ?hp); (case he => k_dflt rfl); (case hp => k_dflt rfl)))
local macro_rules | `(tactic| k_steps) => `(tactic| repeat' (first | (k_unfold; (try dsimp only)) | (k_end; wrow_close) | walk1 | (dsimp only [List.cons_append, List.nil_append]; walk1) | (dsimp only) | fail "no step"))
theorem law_led {h₀ h : Heap} {L D pa : Nat} {oD oP : Obj} {tl : List (Addr × Obj)} {a b : Addr × Obj} (N : News h₀ L h ((D, oD) :: (pa, oP) :: (tl ++ [a, b]))) :
    ∃ (D' pa' : Nat) (R : List (Addr × Obj)) (oD' oP' : Obj), D' = D ∧ pa' = pa ∧ R = tl ∧ oD' = oD ∧ oP' = oP ∧ News h₀ L h ((D', oD') :: (pa', oP') :: b :: R) :=
  ⟨D, pa, tl, oD, oP, rfl, rfl, rfl, rfl, rfl, nsub N fun p hp => by
    rcases List.mem_cons.mp hp with rfl | hp
    · exact .head _
    · rcases List.mem_cons.mp hp with rfl | hp
      · exact .tail _ (.head _)
      · rcases List.mem_cons.mp hp with rfl | hp
        · exact .tail _ (.tail _ (List.mem_append_right _ (.tail _ (.head _))))
        · exact .tail _ (.tail _ (List.mem_append_left _ hp))⟩
theorem law_names {h₀ h : Heap} {L tq hx hd sx sd tx td ra el nl lf qq : Nat} {oo0 oo1 oo2 oo3 oo4 oo5 oo6 oo7 oo8 oo9 oo10 oo11 : Obj} {r : List (Addr × Obj)} (_N : News h₀ L h ((tq, oo0) :: (hx, oo1) :: (hd, oo2) :: (sx, oo3) :: (sd, oo4) :: (tx, oo5) :: (td, oo6) :: (ra, oo7) :: (el, oo8) :: (nl, oo9) :: (lf, oo10) :: (qq, oo11) :: r)) :
    ∃ (tq' hx' hd' sx' sd' tx' td' ra' el' nl' lf' qq' : Nat), tq' = tq ∧ hx' = hx ∧ hd' = hd ∧ sx' = sx ∧ sd' = sd ∧ tx' = tx ∧ td' = td ∧ ra' = ra ∧ el' = el ∧ nl' = nl ∧ lf' = lf ∧ qq' = qq := ⟨tq, hx, hd, sx, sd, tx, td, ra, el, nl, lf, qq, rfl, rfl, rfl, rfl, rfl, rfl, rfl, rfl, rfl, rfl, rfl, rfl⟩
theorem allLt_ne {a b : Nat} {R : List (Addr × Obj)} (h : AllLt a R) (hab : a ≤ b) : ∀ p ∈ R, p.1 ≠ b := fun p hp => Nat.ne_of_lt (Nat.lt_of_lt_of_le (tb_ltOf h p hp) hab)
/-- what stands of the tokenizer, in the order of its making -/
theorem law_nq {hd hx sd sx ra nl td tx el : Nat} (h1 : hd < hx) (h2 : hx < sd) (h3 : sd < sx) (h4 : sx < ra) (h5 : ra < nl) (h6 : nl < td) (h7 : td < tx) (h8 : tx < el) : NQ6 sx sd tx td ra el :=
  ⟨by unfold Nq; omega, by unfold Nq; omega, by unfold Nq; omega, by unfold Nq; omega, by unfold Nq; omega, by unfold Nq; omega, by unfold Nq; omega, by unfold Nq; omega, by unfold Nq; omega, by unfold Nq; omega, by unfold Nq; omega, by unfold Nq; omega, by unfold Nq; omega, by unfold Nq; omega, by unfold Nq; omega⟩
theorem law_hq {hd hx sd sx ra nl td tx el tq : Nat} (h1 : hd < hx) (h2 : hx < sd) (h3 : sd < sx) (h4 : sx < ra) (h5 : ra < nl) (h6 : nl < td) (h7 : td < tx) (h8 : tx < el) (h9 : el < tq) : HQ hx hd tq sx sd tx td ra el := by
  unfold HQ Nq
  refine ⟨?_, ?_, ?_, ?_, ?_, ?_, ?_, ?_, ?_, ?_, ?_, ?_, ?_, ?_, ?_, ?_, ?_, ?_, ?_, ?_, ?_⟩ <;> omega
theorem seq_names {o : Obj} {ys : List Value} {n : Nat} (_e : o = { cls := Value.type "list", data := Data.seq ys.toArray n }) : ∃ (ys' : List Value) (n' : Nat), ys' = ys ∧ n' = n := ⟨ys, n, rfl, rfl⟩
section
local macro_rules | `(tactic| walk_at "call ref") => `(tactic| (k_here; k_dflt (refine' TellR.use (make_t ) ?k1 ?k2 ?k3 ?k4 ?k5 ?kK ?kp ?ko ?kd ?ku ?k0 ?_; (case k1 => k_asm); (case k2 => k_asm); (case k3 => k_asm); (case k4 => k_asm); (case k5 => k_asm); (case kK => first | exact rfl | assumption); (case kp => tb_start); (case ko => tb_rel); (case kd => k_room); (case ku => k_units); (case k0 => first | exact (show 1 ≤ _ by (try dsimp only); omega) | exact Nat.zero_le _); intro r9 f9 h9 tk9 p9 F9 N9 hP9; obtain ⟨hd9, hx9, sd9, sx9, ra9, nl9, td9, tx9, el9, lf9, qq9, κh9, κ9, κ9', a0, a1, a2, a3, a4, b0, b1, c0, e1, hord9, e2⟩ := hP9; subst e1; subst e2; dsimp only [stL, List.cons_append, List.nil_append] at N9; (try dsimp only [List.nil_append, List.cons_append] at N9); (try k_fold))))
local macro_rules | `(tactic| walk_at "call ref") => `(tactic| (k_here; k_dflt (refine' TellR.use (mended_t ?a1) ?k1 ?k2 ?k3 ?k4 ?k5 ?kK ?kp ?ko ?kd ?ku ?k0 ?_; (case k1 => k_asm); (case k2 => k_asm); (case k3 => k_asm); (case k4 => k_asm); (case k5 => k_asm); (case kK => first | exact rfl | assumption); (case kp => tb_start); (case ko => tb_rel); (case a1 => omega); (case kd => k_room); (case ku => k_units); (case k0 => first | exact (show 1 ≤ _ by (try dsimp only); omega) | exact Nat.zero_le _); intro r9 f9 h9 tk9 p9 F9 N9 hP9; obtain ⟨y9, t9, e1, hy9, e2⟩ := hP9; subst e1; subst e2; have hyl9 := md_len hy9; (try dsimp only [List.nil_append, List.cons_append] at N9); (try k_fold))))
local macro_rules | `(tactic| walk_at "call ref") => `(tactic| (k_here; k_dflt (refine' TellR.use (places_t ?a1) ?k1 ?k2 ?k3 ?k4 ?k5 ?kK ?kp ?ko ?kd ?ku ?k0 ?_; (case k1 => k_asm); (case k2 => k_asm); (case k3 => k_asm); (case k4 => k_asm); (case k5 => k_asm); (case kK => first | exact rfl | assumption); (case kp => tb_start); (case ko => tb_rel); (case a1 => omega); (case kd => k_room); (case ku => k_units); (case k0 => first | exact (show 1 ≤ _ by (try dsimp only); omega) | exact Nat.zero_le _); intro r9 f9 h9 tk9 p9 F9 N9 hP9; obtain ⟨pa9, ep9, us9, tl9, e1, hp9, e2⟩ := hP9; subst e1; subst e2; (try dsimp only [List.nil_append, List.cons_append] at N9); (try k_fold))))
local macro_rules | `(tactic| walk_at "eval ListComp") => `(tactic| (k_here; k_dflt (refine LCg.ListComp_U (F₀ := by k_asm) (by with_unfolding_all rfl) (by decide) (by rfl) (by decide) (by rfl) ?_)))
local macro_rules | `(tactic| walk_at "CompSrc") => `(tactic| (k_here; k_dflt (refine LCg.CompSrc.ledger (by rfl) (by k_asm) (by k_asm) (by k_mem) (by size_fits) ?_; intro g'; (refine' kct_list sgS (by assumption) (fun k' t' I' oI' C' oC' D' m' ys' h' tk' E' hk' hC' hx' F' N' off' ne' => ?_) ?_); (all_goals (try (simp only [LCg.Off3, and_true] at off'))); (all_goals (try ((show KPfMark → _); intro hMark'))))))
local macro_rules | `(tactic| walk_at "KCtEl") => `(tactic| (k_dflt (exact kct_el rfl rfl rfl)))
local macro_rules | `(tactic| walk_at "KPfDone") => `(tactic| (k_dflt (unfold KPfDone; intro ys9 hca9 hcl9)))
local macro_rules | `(tactic| walk_at "call builtin:str.join") => `(tactic| (k_here; (rename CarriedAll _ _ => hca9); k_dflt (refine' join_t ?N ?hm ?hs ?hb ?_; (case N => assumption); (case hm => k_mem); (case hs => exact sg_strs hca9); (case hb => k_extra "jb")); intro tj kj xj ej; (have hjl9 := sg_join ej)))
theorem law9 : PySem.Challenge.rw_ru0004_09.Holds := hd09 (by
  k_with_none
  k_go0
  all_goals try k_fold
  repeat' (first | ((fail_if_success (with_reducible show wpAny _ _ (PySem.exec (PySem.Stmt.Assign _ _ _) _) _ _ _)); first | (k_unfold; (try dsimp only)) | (k_end; wrow_close) | walk1 | (dsimp only [List.cons_append, List.nil_append]; walk1) | fail "no step"))
  (rename Fr _ _ _ _ => f8)
  (rename News _ _ _ _ => n8)
  refine mid_cut (fun c : Nat × List Value × Nat × List Int => [(Str.ofString "numbers", .ref c.1)]) (fun c => [(c.1, W.listOf c.2.1.toArray c.2.2.1)]) (fun c => IntsAre c.2.1 c.2.2.2 ∧ 1 ≤ c.2.2.2.length ∧ c.2.2.2.length ≤ 12) f8 ?mh0 ?mh ?mk
  case mh0 => omega
  case mh =>
    repeat' (first | ((fail_if_success (with_reducible show MidEnd _ _ _ _ _ _ _ _ _)); first | (k_unfold; (try dsimp only)) | (k_end; wrow_close) | walk1 | (dsimp only [List.cons_append, List.nil_append]; walk1) | fail "no step"))
    · (rename IntsAre _ _ => hI9)
      (rename News _ _ _ _ => n9)
      exact ⟨(_, _, _, _), _, _, _, rfl, (by assumption), n9, (by kst_all), hI9, (by dsimp only; omega), (by dsimp only; omega)⟩
    · (rename News _ _ _ _ => n9)
      exact ⟨(_, [.int 10 _], _, [10]), _, _, _, rfl, (by assumption), n9, (by kst_all), .cons _ _ .nil, Nat.le_refl _, (by show 1 ≤ 12; omega)⟩
  case mk =>
    rename World => w
    rintro ⟨na, vs, ep, ns⟩ m8 h8 tk8' p8 ⟨hi, hl1, hl2⟩ F8 N8
    dsimp only at hi hl1 hl2 F8 N8
    clear f8 n8
    have hvl := hi.length
    have hxl := x_len
    (try k_fold)
    k_with "jb" => (have h9 := sg_flat ns; rw [List.length_map]; omega)
    repeat' (first | ((fail_if_success (with_reducible show wpAny _ _ (PySem.exec (PySem.Stmt.Assign [PySem.Expr.Name _ _] (PySem.Expr.ListComp _ _ _ _) _) _) _ _ _)); first | (k_unfold; (try dsimp only)) | (k_end; wrow_close) | walk1 | (dsimp only [List.cons_append, List.nil_append]; walk1) | fail "no step"))
    -- faulty: the library's own lines; then HTMLTokenizer(text) by make_t
    repeat' (first | ((fail_if_success (with_reducible show wpAny _ _ (PySem.exec (PySem.Stmt.Assign [PySem.Expr.Name _ _] (PySem.Expr.Call (PySem.Expr.Name (Str.ofString "HTMLTokenizer") _) _ _ _) _) _) _ _ _)); first | (k_unfold; (try dsimp only)) | (k_end; wrow_close) | walk1 | (dsimp only [List.cons_append, List.nil_append]; walk1) | fail "no step"))
    (rename News _ _ _ _ => n7)
    (rename PlOK _ _ _ => hpl)
    obtain ⟨fa9, pa9, R, ofa, opa, efa, epa, eR, eofa, eopa, N7⟩ := law_led n7
    subst efa
    subst epa
    subst eR
    clear n7
    revert N7
    repeat' ((rename News _ _ _ _ => nx9); clear nx9)
    intro N7
    (try k_fold)
    repeat' (first | ((fail_if_success (with_reducible show wpAny _ _ (setAttr (Value.ref _) _ _) _ _ _)); first | (k_unfold; (try dsimp only)) | (k_end; wrow_close) | walk1 | (dsimp only [List.cons_append, List.nil_append]; walk1) | fail "no step"))
    (rename AllLt _ _ ∧ _ => ho)
    (rename _ < _ ∧ _ => hq)
    (rename News _ _ _ _ => n8)
    obtain ⟨tq, hx, hd, sx, sd, tx, td, ra, el, nl, lf, qq, f1, f2, f3, f4, f5, f6, f7, f8, f9, f10, f11, f12⟩ := law_names n8
    subst f1 f2 f3 f4 f5 f6 f7 f8 f9 f10 f11 f12
    obtain ⟨hAll, t1, t2, t3, t4, t5, t6, t7, t8, t9, t10⟩ := ho
    simp only [AllLt] at hAll
    obtain ⟨y1, y2, y3, hR⟩ := hAll
    obtain ⟨q1, q2, q3, q4, q5, q6, q7, q8, q9, q10, q11, q12, q13, q14, q15⟩ := hq
    have hnd := law_nq t1 t2 t3 t4 t5 t6 t7 t8
    have hh := law_hq t1 t2 t3 t4 t5 t6 t7 t8 q8
    have r1 : ∀ p ∈ R, p.1 ≠ hd := allLt_ne hR (Nat.le_refl _)
    have r2 : ∀ p ∈ R, p.1 ≠ hx := allLt_ne hR (by omega)
    have r3 : ∀ p ∈ R, p.1 ≠ sx := allLt_ne hR (by omega)
    have r4 : ∀ p ∈ R, p.1 ≠ sd := allLt_ne hR (by omega)
    have r5 : ∀ p ∈ R, p.1 ≠ tx := allLt_ne hR (by omega)
    have r6 : ∀ p ∈ R, p.1 ≠ td := allLt_ne hR (by omega)
    have r7 : ∀ p ∈ R, p.1 ≠ ra := allLt_ne hR (by omega)
    have r8 : ∀ p ∈ R, p.1 ≠ el := allLt_ne hR (by omega)
    have r9 : ∀ p ∈ R, p.1 ≠ tq := allLt_ne hR (by omega)
    (try k_fold)
    repeat' (first | ((fail_if_success (with_reducible show wpAny _ _ (execs (_ :: _ :: _ :: _ :: _ :: _ :: _ :: _ :: _ :: _ :: []) _) _ _ _)); first | (k_unfold; (try dsimp only)) | (k_end; wrow_close) | walk1 | (dsimp only [List.cons_append, List.nil_append]; walk1) | fail "no step"))
    (rename _ = flat _ => hflat)
    obtain ⟨xx, exx⟩ := flat_name hflat
    subst exx
    (rename _ = mend _ _ => hmend)
    obtain ⟨yy, eyy⟩ := mend_name hmend
    subst eyy
    have hxl9 := sg_join hflat
    obtain ⟨hbl, hbu⟩ := fm4 ((ns.getD (Int.toNat 0) 0).fdiv 21)
    generalize hbb : ((ns.getD (Int.toNat 0) 0).fdiv 21).fmod 4 = b9 at *
    have hst := start_of (x := xx) (by omega)
    obtain ⟨ysF, nxF, u1, u2⟩ := seq_names eofa
    subst u1 u2
    obtain ⟨usP, epP, u1, u2⟩ := seq_names eopa
    subst u1 u2
    subst eofa eopa
    have hylen : yy.length ≤ 200 := by have := hst.len; have := hst.alen; omega
    (rename CarriedAll _ (List.map _ (List.filter _ _)) => hfa0)
    have hfq : Nq fa9 hx ∧ Nq fa9 hd ∧ Nq fa9 sx ∧ Nq fa9 sd ∧ Nq fa9 tx ∧ Nq fa9 td ∧ Nq fa9 ra ∧ Nq fa9 el := by unfold Nq; omega
    have hpq : Nq pa9 hx ∧ Nq pa9 hd ∧ Nq pa9 sx ∧ Nq pa9 sd ∧ Nq pa9 tx ∧ Nq pa9 td ∧ Nq pa9 ra ∧ Nq pa9 el := by unfold Nq; omega
    have hftq : Nq fa9 tq ∧ Nq pa9 tq := by unfold Nq; omega
    dsimp only
    refine' LawAt.use (border_t (κ := tk8 _ _ _ _ _ _ _ _) (fa9 := fa9) (pa9 := pa9) (ysF := ysF) (nxF := nxF) (usP := usP) (epP := epP) (R := R) (b := b9) hst hmend hflat hylen hpl hfa0 hbu hbl t1 hnd hh hfq hpq hftq r3 r4 r5 r6 r7 r8 r2 r1 r9) ?tN ?ts ?tF ?tps ?tB ?tX ?tT ?ttk ?tret
    (case tN => assumption)
    (case ts =>
      dsimp only [stL, List.cons_append, List.nil_append]
      kstt_sub)
    (case tF => assumption)
    (case tps => kst_all)
    (case tB => assumption)
    (case tX => assumption)
    (case tT => assumption)
    (case ttk => (first | assumption | (dsimp only; omega)))
    (case tret => (intro h' tk' m' F'; k_steps)))
end
end Mine
set_option maxRecDepth 100000 in
set_option maxHeartbeats 8000000 in
theorem PySem.Challenge.cw_ru0004_09_holds : PySem.Challenge.rw_ru0004_09.Holds := by
  exact Mine.law9
