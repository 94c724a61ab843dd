import PyProof.Rows.All
import Wide.All
import OpenK.AllK
import Wide.FinOn
import PySem.Challenge.RW_bv5018_01
open PySem PySem.W PyProof.Rows
set_option Elab.async false
set_option maxRecDepth 100000
set_option maxHeartbeats 8000000
set_option rowWalk.seconds 0
namespace Mine
open_top hd for PySem.Challenge.rw_bv5018_01
end Mine

namespace Mine
open PySem PySem.W PySem.Calls PyProof.Rows PySem.Spec PyProof.V

def StayC (D : Nat) (prog : Program) (w : World) (K : Frag) (p : Program) (loose : List Str) (mean : ExcName → Option Value) (mg mb : Str → Option Value) (f : Addr) (vs : List Value) (pre : Heap → Prop) (R : Heap → Heap → Tok → Value → Prop) : Prop :=
  ∀ (dp un : Nat) (gd : Option (List Code)) (cn : Str) (cs : Scope) (a : Addr) (ccd : Value) (cl : List (Str × Addr)) (outer : List Env) (A₀ : Around) (base h₀ : Heap) (L : Addr) (m : Str → Option Value) (s : Shared) (Q E : Value → Shared → Prop),
    Below A₀ base outer h₀ → Fr h₀ L s.heap m → K.In h₀ → Top p loose mean mg mb h₀ → cs.kind = .function → dp ≤ D → un ≤ D → pre s.heap →
    (∀ v h' tk', s.heap.StaysIn h' → R s.heap h' tk' v → Q v { s with heap := h', toks := tk' }) →
    wpAny (model prog w) (ktrTop dp un gd cn cs L a ccd cl outer) (call (.ref f) vs) Q E s

section
variable {prog : Program} {w : World} {A₀ A : Around} {s : Shared} {base h₀ : Heap} {outer : List Env} {L : Addr} {m mg mb : Str → Option Value} {env : Env} {K : Frag} {p : Program} {loose : List Str} {mean : ExcName → Option Value}
  {R : Result → Shared → Prop} {name qual : Str} {params : Arguments} {body : List Stmt} {scope : Scope} {dV kV doc pm cdv ct oc : Value} {an od : Option Addr} {osl : Array (Option Value)} {f : Addr} {args : Args} {binds : List (Str × Value)}

theorem enterS (B : Below A₀ base outer h₀) (F : Fr h₀ L s.heap m) (X₀ : K.In h₀) (T : Top p loose mean mg mb h₀) (hA : A.frames = some (env :: outer)) (hf : env.frame = some L) (hke : env.scope.kind = .function)
    (ho : K.lookup f = some ⟨oc, od, .func (fnOf name qual params body scope dV kV doc pm an cdv ct), osl⟩) (hcd : codeIn K cdv qual = true) (hroom : A.depth < recursionLimit)
    (hbind : BindsTo s (fnOf name qual params body scope dV kV doc pm an cdv ct) args binds) (hloc : ∀ y ∈ binds, scope.names.lookup y.1 = some .local)
    (h : ∀ L' h₁, Fr s.heap L' h₁ (fun y => binds.reverse.lookup y) → News s.heap L' h₁ [] → Below A base (env :: outer) s.heap → K.In s.heap → Top p loose mean mg mb s.heap →
      wpAny (model prog w) (A.deeper (envOf qual scope L' f cdv)) (execs body (envOf qual scope L' f cdv))
        (fun fl s' => LeaveK h₀ L m s.heap (fun r s'' => s.heap.StaysIn s''.heap → R r s'') (match fl with | .ret v => v | _ => .none) s')
        (fun e s' => wpAny (model prog w) (A.deeper (envOf qual scope L' f cdv)) (leaving (envOf qual scope L' f cdv) e) (fun _ s'' => R (.error e) s'') (fun e' s'' => R (.error e') s'') s')
        { s with heap := h₁, toks := s.toks + binds.length })
    (hco : scope.isCoroutine = false) (hgen : scope.isGenerator = false) (hk : scope.kind = .function)
    (hcell : ∀ x ∈ scope.names, x.2 ≠ .cell) : codeAny (model prog w) A (.call (.ref f) args) R s := by
  have B₁ := pushX B F hf hke
  refine codeAny_call_def (fd := fnOf name qual params body scope dV kV doc pm an cdv ct) (body := body) (binds := binds) hroom ((X₀.keeps F.keep) _ _ ho) rfl (T.nolimit.keeps F.keep) (codeRec_of (X₀.keeps F.keep) hcd) rfl hbind hcell hloc (fun h₁ hns hk₁ => ?_) hco hgen hk
  refine wpAny_mono (h s.heap.objs.size h₁ ⟨hns, fun b o e => hk₁ b o e, Nat.le_refl _⟩ News.nil ⟨hA, B₁.stays, B₁.frames⟩ (X₀.keeps F.keep) (T.keeps F.keep)) (fun fl s' hl => ?_) fun _ _ y => y
  obtain ⟨L', m', news', F', N', k⟩ := hl
  obtain ⟨oL, es, ep, hL, hLd, hLk, hLf⟩ := F.ns
  exact k ⟨⟨oL, es, ep, F'.keep L oL hL, hLd, hLk, hLf⟩, fun b o e => F'.keep b o (F.keep b o e), F.above⟩
    (fun p hp => ⟨(N' p hp).1, fun q => (by have := (N' p hp).2.2; rw [q, hL] at this; cases this), (by
      cases q : h₀.get? p.1 with
      | none => rfl
      | some o => have := (N' p hp).2.2; rw [F.keep _ _ q] at this; cases this)⟩) F'.keep
end
theorem envX_frames {dp un : Nat} {gd : Option (List Code)} {cn : Str} {cs : Scope} {L a : Addr} {ccd : Value} {cl : List (Str × Addr)} {outer : List Env} : (ktrTop dp un gd cn cs L a ccd cl outer).frames = some (envX cn cs L a ccd cl :: outer) := rfl
end Mine
namespace Mine
open PySem PySem.W PySem.Calls PyProof.Rows PySem.Spec PyProof.V
theorem leaveS {h₀ g : Heap} {L L' : Addr} {m m' : Str → Option Value} {Q E : Value → Shared → Prop} {v : Value} {s' : Shared} (F' : Fr g L' s'.heap m') (k : g.StaysIn s'.heap → Q v s') :
    LeaveK h₀ L m g (fun r s'' => g.StaysIn s''.heap → match r with | .ok (.ret v) => Q v s'' | .ok _ => False | .error e => E e s'') v s' := leaveK_ F' News.nil fun _ _ h => k h

theorem stay_use {D : Nat} {prog : Program} {w : World} {K : Frag} {p : Program} {loose : List Str} {mean : ExcName → Option Value} {mg mb : Str → Option Value} {f : Addr} {vs : List Value} {pre : Heap → Prop} {R : Heap → Heap → Tok → Value → Prop}
    (C : StayC D prog w K p loose mean mg mb f vs pre R)
    {dp un : Nat} {gd : Option (List Code)} {cn : Str} {cs : Scope} {a : Addr} {ccd : Value} {cl : List (Str × Addr)} {outer : List Env} {A₀ : Around} {base h₀ : Heap} {L : Addr} {m : Str → Option Value} {news : List (Addr × Obj)} {s : Shared} {Q E : Value → Shared → Prop}
    (B : Below A₀ base outer h₀) (F : Fr h₀ L s.heap m) (X : K.In h₀) (N : News h₀ L s.heap news) (T : Top p loose mean mg mb h₀) (hk : cs.kind = .function) (hd : dp ≤ D) (hu : un ≤ D) (hpre : pre s.heap)
    (h : ∀ v h' tk', Fr h₀ L h' m → News h₀ L h' news → s.heap.StaysIn h' → R s.heap h' tk' v → Q v { s with heap := h', toks := tk' }) :
    wpAny (model prog w) (ktrTop dp un gd cn cs L a ccd cl outer) (call (.ref f) vs) Q E s :=
  C _ _ _ _ _ _ _ _ _ _ _ _ _ _ _ _ _ B F X T hk hd hu hpre fun v h' tk' st r => h v h' tk' (F.keeps st) (fun q hq => ⟨st _ _ (N q hq).1, (N q hq).2⟩) st r
/-- fresh objects that a callee left, onto the caller's ledger -/
theorem news_left {h₀ h h' : Heap} {L : Addr} {m : Str → Option Value} {news led : List (Addr × Obj)} (F : Fr h₀ L h m) (N : News h₀ L h' news) (hl : ∀ p ∈ led, h'.get? p.1 = some p.2 ∧ h.get? p.1 = none) : News h₀ L h' (led ++ news) := by
  intro p hp
  rcases List.mem_append.mp hp with hp | hp
  · refine ⟨(hl p hp).1, fun q => ?_, ?_⟩
    · obtain ⟨oL, es, ep, hL, _⟩ := F.ns
      have := (hl p hp).2
      rw [q, hL] at this; cases this
    · cases q : h₀.get? p.1 with
      | none => rfl
      | some o => have := (hl p hp).2; rw [F.keep _ _ q] at this; cases this
  · exact N p hp
end Mine

namespace Mine
open PySem PySem.W PySem.Calls PyProof.Rows PySem.Spec PyProof.V PyProof

abbrev FIG : Str := Str.ofString "123456789ABCDEFGHJKLMNPQRSTUVWXYZabcdefghijkmnopqrstuvwxyz"
def figs : List Nat := [49,50,51,52,53,54,55,56,57,65,66,67,68,69,70,71,72,74,75,76,77,78,80,81,82,83,84,85,86,87,88,89,90,97,98,99,100,101,102,103,104,105,106,107,109,110,111,112,113,114,115,116,117,118,119,120,121,122]
theorem figs_eq : FIG.cps.toList = figs := by decide +kernel
/-- the figure's number (58 off the figures) -/
def dig (c : Int) : Int := (figs.idxOf c.toNat : Nat)
def isFig (c : Int) : Prop := c.toNat ∈ figs ∧ 0 ≤ c
/-- the number that a text's codes tell -/
def valC (l : List Int) : Int := l.foldl (fun a c => a * 58 + dig c) 0
theorem valC_nil : valC [] = 0 := rfl
theorem valC_snoc (l : List Int) (c : Int) : valC (l ++ [c]) = valC l * 58 + dig c := by simp [valC]

theorem figs_occ : ∀ n ∈ figs, (Builtin.Str.occurrences FIG ⟨#[n]⟩ 0 FIG.length 1).isEmpty = false ∧ Txt.find FIG ⟨#[n]⟩ = (figs.idxOf n : Nat) := by decide +kernel

section
variable {prog : Program} {w : World} {A : Around} {E : Value → Shared → Prop} {s : Shared} {t u v : Tok} {n : Nat}
theorem notin_fig {Q : Value → Shared → Prop} (hn : isFig (n : Int)) (h : Q (.bool false) s) : wpAny (model prog w) A (compareOp .NotIn (.str ⟨#[n]⟩ t) (.str FIG u)) Q E s := by
  refine notIn_str ?_
  rw [(figs_occ n (by simpa using hn.1)).1]
  exact h
theorem index_fig {Q : Value → Shared → Prop} (hA : A.handled = none) (hn : isFig (n : Int)) (h : Q (.int (dig n) s.toks) { s with toks := s.toks + 1 }) : wpAny (model prog w) A (call (.builtin "str.index") [.str FIG t, .str ⟨#[n]⟩ u]) Q E s := by
  have hf := figs_occ n (by simpa using hn.1)
  refine index_or hA (fun _ q => ?_) (fun _ _ => ?_)
  · rw [hf.1] at q; cases q
  · rw [hf.2]
    exact h
end

section
open KTBy
open PySem.Builtin.Int (intBits)
variable {prog : Program} {w : World} {A : Around} {E : Value → Shared → Prop} {s : Shared} {x z : Int} {k : Nat} {t u v : Tok}
/-- an action that is a plain value, then what follows -/
theorem plain_then {α β : Type} {M : Model} {y : Sem α} {a : α} {f : α → Sem β} {Q : β → Shared → Prop} (e : y = pure a) (h : wpAny M A (f a) Q E s) : wpAny M A (y >>= f) Q E s := wpAny_bind (wpAny_of_eq e h)
theorem bits_room (h0 : 0 ≤ x) (h1 : x < 256 ^ k) : ¬ ((intBits x : Int) > 8 * (k : Int)) := by
  have p : (2 : Nat) ^ (8 * k) = 256 ^ k := Nat.pow_mul 2 8 k
  rw [p256] at h1
  have le : intBits x ≤ 8 * k := intBits_le_iff.mpr (by rw [p]; omega)
  omega
theorem low_row (h0 : 0 ≤ x) (h1 : x < 256 ^ k) : KBw.bInts (low x (Int.toNat (k : Int))).reverse.toArray = (little k x).reverse := by
  rw [little_eq, ← low_ints h0 h1, ← List.map_reverse]
  rfl
theorem to_bytes_any {Q : Value → Shared → Prop} (hz : z = (k : Int)) (hk : k ≤ 1000000) (h0 : 0 ≤ x) (h1 : x < 256 ^ k) (h : ∀ (b : Array UInt8) t' k', KBw.bInts b = (little k x).reverse → Q (.bytes b t') { s with toks := k' }) :
    wpAny (model prog w) A (call (.builtin "int.to_bytes") [.int x t, .int z u, .str (PySem.Str.ofString "big") v]) Q E s := by
  subst hz
  have line : ¬ ((k : Int) > (sizeLine : Int)) := by rw [sizeLine_eq]; omega
  have fits : (low x (Int.toNat (k : Int))).reverse.length ≤ sizeLine := by rw [List.length_reverse, low_length]; omega
  refine wpAny_call_entry slot (typeIs_int s x t) entry ?_ (args _ _ _)
  refine plain_then (y := Builtin.Int.intOfSelf (.int x t)) (a := x) rfl ?_
  refine plain_then (y := Builtin.Int.intBindNamed "to_bytes" ["length", "byteorder", "signed"] 0 2 [.int (k : Int) u, .str (PySem.Str.ofString "big") v] []) (a := [some (.int (k : Int) u), some (.str (PySem.Str.ofString "big") v), none]) (by kernel_rfl) ?_
  refine plain_then (y := Builtin.Int.intIndex "int.to_bytes" (.int (k : Int) u)) (a := (k : Int)) rfl ?_
  refine if_not (Bool.or_eq_false_iff.mpr ⟨decide_eq_false (by omega), decide_eq_false (by omega)⟩) ?_
  refine plain_then (a := PySem.Str.ofString "big") (by kernel_rfl) (plain_then (a := false) rfl (plain_then (a := false) (by kernel_rfl) ?_))
  refine wpAny_ite_false (decide_eq_false (by omega)) (wpAny_ite_false (decide_eq_false (by omega)) (wpAny_ite_false (decide_eq_false line) ?_))
  refine if_not (Bool.and_eq_false_iff.mpr (.inl (decide_eq_false (Int.not_lt.mpr h0)))) ?_
  refine if_not (Bool.and_eq_false_iff.mpr (.inr (decide_eq_false (bits_room h0 h1)))) ?_
  exact wpAny_bind (wpAny_mkBytes (wpAny_pure ⟨_, rfl, h _ _ _ (low_row h0 h1)⟩) fits)

/-- octets that the number wants -/
def nb (n : Int) : Nat := (intBits n + 7) / 8
theorem nb_eq (n : Int) : ((intBits n : Int) + 7).fdiv 8 = ((nb n : Nat) : Int) := by
  unfold nb
  rw [Int.fdiv_eq_ediv_of_nonneg _ (by decide)]
  omega
/-- the number's row of octets, big end first; at least one -/
def octs (n : Int) : List Int := (little (if nb n = 0 then 1 else nb n) n).reverse
/-- the same, of no octet for nought -/
def octs0 (n : Int) : List Int := (little (nb n) n).reverse
theorem lt_nb {n : Int} {k : Nat} (h0 : 0 ≤ n) (hk : nb n ≤ k) : n < 256 ^ k := by
  have hb : intBits n ≤ 8 * k := by unfold nb at hk; omega
  have h := intBits_le_iff.mp hb
  have e256 : (2 : Nat) ^ 8 = 256 := by decide
  rw [Nat.pow_mul, e256] at h
  rw [p256]
  omega
theorem to_bytes_dec1 {N : Int} {Q : Value → Shared → Prop} (hne : ((intBits x : Int) + 7).fdiv 8 ≠ 0) (e : x = N) (h0 : 0 ≤ N) (hN : nb N ≤ 1000000) (h : ∀ (b : Array UInt8) t' k', KBw.bInts b = octs N → Q (.bytes b t') { s with toks := k' }) :
    wpAny (model prog w) A (call (.builtin "int.to_bytes") [.int x t, .int (((intBits x : Int) + 7).fdiv 8) u, .str (PySem.Str.ofString "big") v]) Q E s := by
  subst e
  refine to_bytes_any (nb_eq x) hN h0 (lt_nb h0 (Nat.le_refl _)) fun b t' k' hb => h b t' k' ?_
  rw [nb_eq] at hne
  have hz : nb x ≠ 0 := by omega
  unfold octs
  rw [hb, if_neg hz]
theorem to_bytes_dec2 {N : Int} {Q : Value → Shared → Prop} (hne : ((intBits x : Int) + 7).fdiv 8 = 0) (e : x = N) (h0 : 0 ≤ N) (h : ∀ (b : Array UInt8) t' k', KBw.bInts b = octs N → Q (.bytes b t') { s with toks := k' }) :
    wpAny (model prog w) A (call (.builtin "int.to_bytes") [.int x t, .int 1 u, .str (PySem.Str.ofString "big") v]) Q E s := by
  subst e
  rw [nb_eq] at hne
  have hz : nb x = 0 := by omega
  refine to_bytes_any (k := 1) rfl (by decide) h0 (lt_nb h0 (by omega)) fun b t' k' hb => h b t' k' ?_
  unfold octs
  rw [hb, if_pos hz]
end
theorem dig_le (c : Int) : 0 ≤ dig c ∧ dig c ≤ 58 := by
  unfold dig
  have h : figs.idxOf c.toNat ≤ figs.length := List.idxOf_le_length
  have e : figs.length = 58 := by decide
  omega
theorem foldC (l : List Int) : ∀ a : Int, 0 ≤ a → 0 ≤ l.foldl (fun a c => a * 58 + dig c) a ∧ l.foldl (fun a c => a * 58 + dig c) a + 1 ≤ (a + 1) * 64 ^ l.length := by
  induction l with
  | nil => intro a h; simp; exact h
  | cons c r ih =>
    intro a h
    have hd := dig_le c
    have h2 := ih (a * 58 + dig c) (by omega)
    refine ⟨h2.1, Int.le_trans h2.2 ?_⟩
    rw [List.length_cons, Int.pow_succ, Int.mul_comm (64 ^ r.length) 64, ← Int.mul_assoc]
    exact Int.mul_le_mul_of_nonneg_right (by omega) (Int.pow_nonneg (by decide))
theorem valC_nonneg (l : List Int) : 0 ≤ valC l := (foldC l 0 (by decide)).1
theorem valC_lt (l : List Int) : valC l < 64 ^ l.length := by
  have h := (foldC l 0 (by decide)).2
  unfold valC
  omega
theorem valC_bits (l : List Int) : PySem.Builtin.Int.intBits (valC l) ≤ 6 * l.length := by
  refine intBits_le_iff.mpr ?_
  have h0 := valC_nonneg l
  have h := valC_lt l
  have e : ((64 : Int) ^ l.length) = ((2 ^ (6 * l.length) : Nat) : Int) := by
    rw [Nat.pow_mul, Int.natCast_pow]; rfl
  rw [e] at h
  omega
theorem valC_nb (l : List Int) : nb (valC l) ≤ l.length + 7 := by
  have h := valC_bits l
  unfold nb
  omega
theorem fig_here {x : Str} {pre post : List Int} {n : Nat} (hf : ∀ c ∈ KStt.codes x, isFig c) (e : KStt.codes x = pre ++ (n : Int) :: post) : isFig (n : Int) :=
  hf _ (by rw [e]; simp)
end Mine

namespace Mine
open PySem PySem.W PySem.Calls PyProof.Rows PySem.Spec PyProof.V PyProof
section
variable {prog : Program} {w : World} {M : Model} {A : Around} {E : Value → Shared → Prop} {s : Shared} {h₀ : Heap} {L : Addr} {news : List (Addr × Obj)}
theorem log_room {n k : Nat} (hn : n < 2 ^ k) (hk : k ≤ 100000000) : ((n : Nat) : Int).natAbs.log2 < bitsLine := by
  have line : 100000000 < bitsLine := by decide
  refine Nat.lt_of_le_of_lt (Nat.le_trans ?_ hk) line
  rw [Int.natAbs_natCast]
  rcases Nat.eq_zero_or_pos n with rfl | hp
  · exact Nat.zero_le _
  · exact Nat.le_of_lt ((Nat.log2_lt (Nat.ne_of_gt hp)).mpr hn)
theorem grown_any {n k : Nat} {Q : Value → Shared → Prop} (hn : n < 2 ^ k) (hk : k ≤ 100000000) (h : Q (.int (n : Int) s.toks) { s with toks := s.toks + 1 }) : wpAny M A (mkIntGrown (n : Int)) Q E s := by
  unfold mkIntGrown
  rw [if_neg (Nat.not_le.mpr (log_room hn hk))]
  exact wpAny_mkInt h
/-- a row's number, as the model folds it -/
theorem row_number (b : Array UInt8) : ∃ n : Nat, n < 2 ^ (8 * b.size) ∧ KFB.value (KBw.bInts b) = (n : Int) ∧ b.toList.foldl (fun (acc : Int) (b : UInt8) => acc * 256 + (b.toNat : Int)) 0 = (n : Int) := by
  refine ⟨_, ?_, (KFB.fold_cast b.toList 0).symm, KFB.foldI_eq b.toList 0⟩
  have lt := KFB.fold_lt b.toList 0
  have p : (2 : Nat) ^ (8 * b.size) = 256 ^ b.size := Nat.pow_mul 2 8 _
  simpa [p] using lt
theorem from_tree {b : Array UInt8} {t u : Tok} {P : Fin → Shared → Prop} (hl : b.size ≤ 1000000) (h : P (.done (.ret (.int (KFB.value (KBw.bInts b)) s.toks))) { s with toks := s.toks + 1 }) :
    wpAny M A (Builtin.«int.from_bytes» ⟨[.type "int", .bytes b t, .str (PySem.Str.ofString "big") u], []⟩) P E s := by
  obtain ⟨n, room, told, fold⟩ := row_number b
  rw [told] at h
  unfold Builtin.«int.from_bytes»
  refine plain_then KFB.type_int (KFB.if_not rfl (plain_then F.conv_sub_int (KFB.if_not rfl ?_)))
  refine plain_then (a := [some (.bytes b t), some (.str (PySem.Str.ofString "big") u), none]) (by kernel_rfl) (plain_then (a := PySem.Str.ofString "big") (by kernel_rfl) ?_)
  refine plain_then (a := false) rfl (plain_then (a := false) (by kernel_rfl) (plain_then (a := b) rfl ?_))
  have grow : ∀ {Q : Value → Shared → Prop}, Q (.int (n : Int) s.toks) { s with toks := s.toks + 1 } → wpAny M A (mkIntGrown (b.toList.foldl (fun (acc : Int) (b : UInt8) => acc * 256 + (b.toNat : Int)) 0)) Q E s := fun q => by
    rw [fold]
    exact grown_any room (by omega) q
  exact wpAny_bind (grow (KFB.if_so (by decide +kernel) (wpAny_bind (wpAny_pure (wpAny_pure h)))))
theorem from_any {x : Addr} {b : Array UInt8} {t u : Tok} {ks : List Int} {Q : Value → Shared → Prop} (N : News h₀ L s.heap news) (hm : (x, KFB.bound) ∈ news) (hb : KBw.bInts b = ks) (hl : ks.length ≤ 1000000)
    (h : ∀ t' k, Q (.int (KFB.value ks) t') { s with toks := k }) : wpAny (model prog w) A (call (.ref x) [.bytes b t, .str (PySem.Str.ofString "big") u]) Q E s := by
  have size : b.size ≤ 1000000 := by rw [← KBw.ints_length, hb]; exact hl
  rw [← hb] at h
  exact KFB.call_of (KFB.at_of N hm) (from_tree size) (h _ _)
end
end Mine

namespace Mine
open PySem PySem.W PySem.Calls PyProof.Rows PySem.Spec PyProof.V PyProof

theorem octs_length (n : Int) : (octs n).length = if nb n = 0 then 1 else nb n := by unfold octs; rw [List.length_reverse, KTBy.little_length]
/-- how many ones lead -/
def lead (z : Int) (l : List Int) : Nat := (l.takeWhile (· == z)).length
def decS (cs : List Int) : List Int := List.replicate (lead 49 cs.dropLast) 0 ++ octs (valC cs)
theorem lead_le (z : Int) (l : List Int) : lead z l ≤ l.length := (List.takeWhile_sublist _).length_le
theorem lead_all {z : Int} {l : List Int} (h : ∀ c ∈ l, c = z) : lead z l = l.length := by
  unfold lead
  have e := List.takeWhile_append_of_pos (p := (· == z)) (l₁ := l) (l₂ := []) (fun c hc => by simp [h c hc])
  rw [List.append_nil] at e
  rw [e]; simp
theorem lead_stop {z : Int} {pre post : List Int} {n : Int} (h : ∀ c ∈ pre, c = z) (hn : n ≠ z) : lead z (pre ++ n :: post) = pre.length := by
  unfold lead
  rw [List.takeWhile_append_of_pos (fun c hc => by simp [h c hc])]
  simp [hn]
theorem last_codes {x : Str} (h : 1 ≤ x.length) : KStt.codes (Txt.slice x none (some (-1))) = (KStt.codes x).dropLast := by
  have e : Txt.slice x none (some (-1)) = _ := eq_of_beq (slice_closes_to_neg (x := x) (j := -1) (k := (x.length : Int) - 1) (by decide) (by omega) (by omega))
  rw [e]
  have e2 : ((x.length : Int) - 1 - 0).toNat = x.cps.toList.length - 1 := by
    rw [show x.length = x.cps.toList.length by simp [Str.length]]; omega
  show ((List.take ((x.length : Int) - 1 - 0).toNat (List.drop 0 x.cps.toList)).toArray.toList.map fun (c : Nat) => (c : Int)) = _
  rw [e2, List.drop_zero, ← List.dropLast_eq_take]
  simp [KStt.codes, List.map_dropLast]
theorem one_is : Txt.item FIG 0 = ⟨#[49]⟩ := by decide +kernel
theorem one_eq {n : Nat} (h : ((⟨#[n]⟩ : Str) == Txt.item FIG 0) = true) : (n : Int) = 49 := by
  rw [one_is] at h
  have := eq_of_beq h
  simp at this
  omega
theorem one_ne {n : Nat} (h : ((⟨#[n]⟩ : Str) == Txt.item FIG 0) = false) : (n : Int) ≠ 49 := by
  intro q
  rw [one_is] at h
  have e : n = 49 := by omega
  subst e
  simp at h
theorem pad_start : (∀ c ∈ ([] : List Int), c = 49) ∧ (0 : Int) = (([] : List Int).length : Int) := ⟨fun _ h => (nomatch h), rfl⟩
theorem pad_turn {pre : List Int} {n : Nat} {p : Int} (h1 : ∀ c ∈ pre, c = 49) (h2 : p = (pre.length : Int)) (h : ((⟨#[n]⟩ : Str) == Txt.item FIG 0) = true) :
    (∀ c ∈ pre ++ [(n : Int)], c = 49) ∧ p + 1 = ((pre ++ [(n : Int)]).length : Int) := by
  refine ⟨fun c hc => ?_, by rw [List.length_append, h2]; simp⟩
  rcases List.mem_append.mp hc with hc | hc
  · exact h1 c hc
  · rw [List.mem_singleton.mp hc]; exact one_eq h
theorem zeros_ints (k : Nat) : KBw.bInts (List.replicate k ([0] : List UInt8)).flatten.toArray = List.replicate k 0 := by
  have e : (List.replicate k ([0] : List UInt8)).flatten = List.replicate k 0 := by
    induction k with
    | zero => rfl
    | succ k ih => rw [List.replicate_succ, List.flatten_cons, ih]; rfl
  rw [e]
  simp [KBw.bInts]
theorem dec_break {x : Str} {pre post : List Int} {n : Nat} {p : Int} (hx : 1 ≤ x.length) (e : KStt.codes (Txt.slice x none (some (-1))) = pre ++ (n : Int) :: post)
    (h1 : ∀ c ∈ pre, c = 49) (h2 : p = (pre.length : Int)) (h : ((⟨#[n]⟩ : Str) == Txt.item FIG 0) = false) :
    List.replicate p.toNat 0 ++ octs (valC (KStt.codes x)) = decS (KStt.codes x) := by
  unfold decS
  rw [← last_codes hx, e, lead_stop h1 (one_ne h), h2, Int.toNat_natCast]
theorem dec_done {x : Str} {p : Int} (hx : 1 ≤ x.length) (h1 : ∀ c ∈ KStt.codes (Txt.slice x none (some (-1))), c = 49)
    (h2 : p = ((Txt.slice x none (some (-1))).length : Int)) :
    List.replicate p.toNat 0 ++ octs (valC (KStt.codes x)) = decS (KStt.codes x) := by
  unfold decS
  rw [← last_codes hx, lead_all h1, h2, Int.toNat_natCast, KStt.codes_length]
section
variable {prog : Program} {w : World} {A : Around} {E : Value → Shared → Prop} {s : Shared} {t u : Tok} {p : Int} {b : Array UInt8} {ks : List Int}
theorem pad_add {Q : Value → Shared → Prop} (hb : KBw.bInts b = ks) (hp : p ≤ 1000000) (hk : ks.length ≤ 1100000) (h : ∀ b' t' k, KBw.bInts b' = List.replicate p.toNat 0 ++ ks → Q (.bytes b' t') { s with toks := k }) :
    wpAny (model prog w) A (binaryOp .Add (.bytes (List.replicate p.toNat ([0] : List UInt8)).flatten.toArray t) (.bytes b u)) Q E s :=
  KBa.add_K (zeros_ints _) hb (by rw [List.length_replicate]; omega) fun t' k e => h _ t' k e
end
theorem octs_small {n : Int} (h : nb n ≤ 1000000) : (octs n).length ≤ 1100000 := by rw [octs_length]; split <;> omega
end Mine

namespace Mine
open PySem PySem.W PySem.Calls PyProof.Rows PySem.Spec PyProof.V PyProof

/-- the figures of a number, the small end first -/
def L58 (n : Nat) : List Str := if n = 0 then [] else Txt.item FIG ((n : Int).fmod 58) :: L58 (n / 58)
decreasing_by omega
theorem L58_zero : L58 0 = [] := by rw [L58]; rfl
theorem L58_pos {n : Nat} (h : n ≠ 0) : L58 n = Txt.item FIG ((n : Int).fmod 58) :: L58 (n / 58) := by rw [L58, if_neg h]
theorem L58_len : ∀ (k n : Nat), n < 2 ^ k → (L58 n).length ≤ k
  | 0, n, h => by
    have : n = 0 := by omega
    subst this
    simp [L58_zero]
  | k + 1, n, h => by
    by_cases hn : n = 0
    · subst hn; simp [L58_zero]
    · rw [L58_pos hn, List.length_cons]
      have h2 : n / 58 < 2 ^ k := by rw [Nat.pow_succ] at h; omega
      have := L58_len k _ h2
      omega
/-- between the turns: n is what is left, chars the figures so far -/
def EncP (N : Int) (n : Int) (chars : List Str) : Prop := 0 ≤ n ∧ n ≤ N ∧ chars ++ L58 n.toNat = L58 N.toNat ∧ chars.length ≤ 100000
theorem enc_start {N : Int} (h : 0 ≤ N) : EncP N N [] := ⟨h, Int.le_refl _, rfl, by decide⟩
theorem enc_turn {N n : Int} {chars : List Str} (hN : N.toNat < 2 ^ 100000) (h : EncP N n chars) (hn : 0 < n) : EncP N (n.fdiv 58) (chars ++ [Txt.item FIG (n.fmod 58)]) := by
  obtain ⟨h0, h1, h2, h3⟩ := h
  have e1 : n.fdiv 58 = n / 58 := Int.fdiv_eq_ediv_of_nonneg _ (by decide)
  have e2 : (n.fdiv 58).toNat = n.toNat / 58 := by rw [e1]; omega
  have hl : (L58 N.toNat).length ≤ 100000 := L58_len _ _ hN
  have h4 : (chars ++ [Txt.item FIG (n.fmod 58)]) ++ L58 (n.fdiv 58).toNat = L58 N.toNat := by
    rw [← h2, L58_pos (n := n.toNat) (by omega), e2, show ((n.toNat : Nat) : Int) = n by omega]
    simp
  refine ⟨by rw [e1]; omega, by rw [e1]; omega, h4, ?_⟩
  have h5 := congrArg List.length h4
  rw [List.length_append] at h5
  omega
theorem enc_less {n : Int} (hn : 0 < n) : (n.fdiv 58).toNat < n.toNat := by
  have e1 : n.fdiv 58 = n / 58 := Int.fdiv_eq_ediv_of_nonneg _ (by decide)
  rw [e1]; omega
theorem enc_end {N n : Int} {chars : List Str} (h : EncP N n chars) (hn : ¬ 0 < n) : chars = L58 N.toNat := by
  obtain ⟨h0, h1, h2, h3⟩ := h
  have e : n.toNat = 0 := by omega
  rw [e, L58_zero, List.append_nil] at h2
  exact h2

/-- the octets lie in 0 to 255 -/
abbrev Oct (ks : List Int) : Prop := ∀ k ∈ ks, 0 ≤ k ∧ k < 256
theorem oct_of {b : Array UInt8} {ks : List Int} (h : KBw.bInts b = ks) : Oct ks := by
  subst h
  exact fun k hk => KBw.ints_in hk
theorem foldV (l : List Int) : ∀ a : Int, 0 ≤ a → Oct l → 0 ≤ l.foldl (fun a k => a * 256 + k) a ∧ l.foldl (fun a k => a * 256 + k) a + 1 ≤ (a + 1) * 256 ^ l.length := by
  induction l with
  | nil => intro a h _; simp; exact h
  | cons c r ih =>
    intro a h ho
    have hd := ho c (.head _)
    have h2 := ih (a * 256 + c) (by omega) fun k hk => ho k (.tail _ hk)
    refine ⟨h2.1, Int.le_trans h2.2 ?_⟩
    rw [List.length_cons, Int.pow_succ, Int.mul_comm (256 ^ r.length) 256, ← Int.mul_assoc]
    exact Int.mul_le_mul_of_nonneg_right (by omega) (Int.pow_nonneg (by decide))
theorem value_nonneg {ks : List Int} (h : Oct ks) : 0 ≤ KFB.value ks := (foldV ks 0 (by decide) h).1
theorem value_lt {ks : List Int} (h : Oct ks) : KFB.value ks < 256 ^ ks.length := by
  have h := (foldV ks 0 (by decide) h).2
  unfold KFB.value
  omega
theorem value_small {ks : List Int} (h : Oct ks) (hl : ks.length ≤ 5000) : (KFB.value ks).toNat < 2 ^ 100000 := by
  have h1 := value_lt h
  have h0 := value_nonneg h
  have e : ((256 : Int) ^ ks.length) = ((2 ^ (8 * ks.length) : Nat) : Int) := by rw [Nat.pow_mul, Int.natCast_pow]; rfl
  rw [e] at h1
  have h2 : 2 ^ (8 * ks.length) ≤ 2 ^ 100000 := Nat.pow_le_pow_right (by decide) (by omega)
  have h3 : (KFB.value ks).toNat < 2 ^ (8 * ks.length) := by omega
  exact Nat.lt_of_lt_of_le h3 h2

def fig (d : Nat) : Int := ((figs.getD d 0 : Nat) : Int)
theorem item_fig : ∀ d < 58, (Txt.item FIG ((d : Nat) : Int)).cps = #[figs.getD d 0] := by decide +kernel
/-- the figures of a number, the big end first -/
def E58 (n : Nat) : List Int := if n = 0 then [] else E58 (n / 58) ++ [fig (n % 58)]
decreasing_by omega
theorem E58_zero : E58 0 = [] := by rw [E58]; rfl
theorem E58_pos {n : Nat} (h : n ≠ 0) : E58 n = E58 (n / 58) ++ [fig (n % 58)] := by rw [E58, if_neg h]
theorem codes_app (x y : Str) : KStt.codes (x ++ y) = KStt.codes x ++ KStt.codes y := by
  unfold KStt.codes
  rw [Str.cps_append, Array.toList_append, List.map_append]
theorem codes_join : ∀ ys : List Str, KStt.codes (Str.join (Str.ofString "") ys) = (ys.map KStt.codes).flatten
  | [] => rfl
  | [x] => by simp [Str.join]
  | x :: y :: r => by
    show KStt.codes (x ++ Str.ofString "" ++ Str.join (Str.ofString "") (y :: r)) = _
    rw [codes_app, codes_app, codes_join (y :: r)]
    have e : KStt.codes (Str.ofString "") = [] := by decide +kernel
    rw [e]; simp
theorem codes_item {n : Nat} : KStt.codes (Txt.item FIG ((n : Int).fmod 58)) = [fig (n % 58)] := by
  have e : (n : Int).fmod 58 = ((n % 58 : Nat) : Int) := by
    rw [Int.fmod_eq_emod_of_nonneg _ (by decide)]; rfl
  rw [e]
  unfold KStt.codes
  rw [item_fig _ (Nat.mod_lt _ (by decide))]
  rfl
theorem codes_L58 (n : Nat) : ((L58 n).reverse.map KStt.codes).flatten = E58 n := by
  induction n using Nat.strongRecOn with
  | ind n ih =>
    by_cases hn : n = 0
    · subst hn; rw [L58_zero, E58_zero]; rfl
    · rw [L58_pos hn, E58_pos hn, List.reverse_cons, List.map_append, List.flatten_append, ih (n / 58) (by omega)]
      simp [codes_item]
theorem L58_ones {n : Nat} : ∀ y ∈ L58 n, y.length = 1 := by
  induction n using Nat.strongRecOn with
  | ind n ih =>
    by_cases hn : n = 0
    · subst hn; rw [L58_zero]; exact fun _ h => nomatch h
    · rw [L58_pos hn]
      intro y hy
      rcases List.mem_cons.mp hy with rfl | hy
      · rw [← KStt.codes_length, codes_item]; rfl
      · exact ih (n / 58) (by omega) y hy
theorem strs_rev {vs : List Value} {ys : List Str} (h : StrsAre vs ys) : StrsAre vs.reverse ys.reverse := by
  induction h with
  | nil => exact .nil
  | cons y t _ ih => rw [List.reverse_cons, List.reverse_cons]; exact StrsAre.append' ih (.cons _ _ .nil)
theorem sum_ones : ∀ {ys : List Str}, (∀ y ∈ ys, y.length = 1) → (ys.map (·.length)).sum = ys.length
  | [], _ => rfl
  | y :: r, h => by
    rw [List.map_cons, List.sum_cons, sum_ones fun z hz => h z (.tail _ hz), h y (.head _), List.length_cons]
    omega
section
variable {prog : Program} {w : World} {A : Around} {E : Value → Shared → Prop} {s : Shared} {h₀ : Heap} {L l : Addr} {m : Str → Option Value} {news : List (Addr × Obj)} {value slice : PySem.Expr} {vs : List Value} {ys : List Str} {vk : Value} {ops : List Value} {Q : Value → Shared → Prop} {t u : Tok} {N n p : Int} {x y : Str} {as bs : List Int}
theorem rev_figs (F : Fr h₀ L s.heap m) (N' : News h₀ L s.heap news) {c : Nat} (hm : (l, W.listOf vs.toArray c) ∈ news) (pk : IsPart vk (some (-1))) (hi : StrsAre vs ys) (hP : EncP N n ys) (hn : ¬ 0 < n)
    (h : ∀ D ws h', Fr h₀ L h' m → News h₀ L h' ((D, W.listOf (List.toArray ws) 0) :: news) → (∀ p ∈ news, p.1 < D) → StrsAre ws (L58 N.toNat).reverse → (L58 N.toNat).length ≤ 100000 → Q (.ref D) { s with heap := h' })
    (hs : subscripted slice false (.ref l) (.ref s.heap.objs.size) = operate ops (getItem (.ref l) (.ref s.heap.objs.size))) (ht : ∀ r, letTemporaryGo value (.ref l) r = pure ()) :
    wpAny (model prog w) A (subscriptTail value slice (.ref l) (.ref s.heap.objs.size)) Q E { s with heap := s.heap.push { cls := .type "slice", data := .fields #[.none, .none, vk] } } := by
  have e := enc_end hP hn
  subst e
  have hl := hP.2.2.2
  have hz : vs.toArray.size ≤ sizeLine := by rw [List.size_toArray, hi.length, sizeLine_eq]; omega
  exact krv_lit (its := vs.toArray) (zs := vs.reverse) F N' (News.isList N' hm) pk rfl (fun D h' F' N' l1 => h D vs.reverse h' F' N' l1 (strs_rev hi) hl) hs ht hz
theorem join_figs (N' : News h₀ L s.heap news) {c : Nat} (hm : (l, W.listOf vs.toArray c) ∈ news) {k : Nat} (hi : StrsAre vs (L58 k).reverse) (hl : (L58 k).length ≤ 100000)
    (h : ∀ x t' k', KStt.codes x = E58 k → (E58 k).length ≤ 100000 → Q (.str x t') { s with toks := k' }) : wpAny (model prog w) A (call (.builtin "str.join") [.str (Str.ofString "") t, .ref l]) Q E s := by
  have hs : ((L58 k).reverse.map (·.length)).sum = (L58 k).reverse.length := sum_ones fun y hy => L58_ones y (List.mem_reverse.mp hy)
  have hc : KStt.codes (Txt.join (Str.ofString "") (L58 k).reverse) = E58 k := by
    rw [← codes_L58]
    show KStt.codes (Builtin.Str.glued _ _) = _
    rw [StrLaws.glued_eq_join, codes_join]
  have hlen : (E58 k).length ≤ 100000 := by
    rw [← codes_L58]
    have : (((L58 k).reverse.map KStt.codes).flatten).length = (L58 k).reverse.length := by
      rw [List.length_flatten, List.map_map, ← hs]
      congr 1
      exact List.map_congr_left fun y _ => KStt.codes_length y
    rw [this, List.length_reverse]; exact hl
  exact join_listC (News.isList N' hm) (by simpa using hi) (by decide +kernel) (by rw [hs, List.length_reverse]; omega) fun t' k' => h _ t' k' hc hlen
theorem codes_rep (k c : Nat) : KStt.codes ⟨(List.replicate k #[c]).foldl (· ++ ·) #[]⟩ = List.replicate k ((c : Nat) : Int) := by
  have e : ∀ (k : Nat) (a : Array Nat), ((List.replicate k #[c]).foldl (· ++ ·) a).toList = a.toList ++ List.replicate k c := by
    intro k
    induction k with
    | zero => intro a; simp
    | succ k ih => intro a; rw [List.replicate_succ, List.foldl_cons, ih]; simp [List.replicate_succ]
  unfold KStt.codes
  rw [e]; simp
theorem mul_codes {c : Nat} (hp0 : 0 ≤ p) (hp : p ≤ 100000) (h : ∀ y t' k, KStt.codes y = List.replicate p.toNat (c : Int) → Q (.str y t') { s with toks := k }) :
    wpAny (model prog w) A (binaryOp .Mult (.str ⟨#[c]⟩ t) (.int p u)) Q E s := by
  have hc : KStt.codes (Txt.mul ⟨#[c]⟩ p) = List.replicate p.toNat (c : Int) := by
    unfold Txt.mul
    by_cases h1 : p < 1
    · rw [if_pos h1, show p.toNat = 0 by omega]; rfl
    · rw [if_neg h1]
      by_cases h2 : p = 1
      · subst h2; rfl
      · rw [if_neg (by simp [Str.length, h2])]
        exact codes_rep _ _
  have hok : MulOk ⟨#[c]⟩ p := by
    refine ⟨?_, fun _ _ => ?_, fun _ _ => ?_⟩
    · rw [decide_eq_false (show ¬ p < -(2 ^ 63 : Int) by omega), decide_eq_false (show ¬ p ≥ 2 ^ 63 by omega)]; rfl
    · have h1 : 1 ≤ (2 ^ 63 - 1) / p := by
        rw [Int.le_ediv_iff_mul_le (by omega)]; omega
      show ¬ ((1 : Int) > (2 ^ 63 - 1) / p)
      omega
    · show PySem.Builtin.Str.tooLong (1 * p.toNat) = false
      exact KBy.tooLong_not (by omega)
  exact SB.mul hok fun t' k => h _ t' k hc
theorem mul_fig0 (hp0 : 0 ≤ p) (hp : p ≤ 100000) (h : ∀ y t' k, KStt.codes y = List.replicate p.toNat ((49 : Nat) : Int) → Q (.str y t') { s with toks := k }) :
    wpAny (model prog w) A (binaryOp .Mult (.str (Txt.item FIG 0) t) (.int p u)) Q E s := by
  rw [one_is]
  exact mul_codes hp0 hp h
theorem add_codes (hx : KStt.codes x = as) (hy : KStt.codes y = bs) (hsz : as.length + bs.length ≤ 16777216) (h : ∀ z t' k, KStt.codes z = as ++ bs → Q (.str z t') { s with toks := k }) :
    wpAny (model prog w) A (binaryOp .Add (.str x t) (.str y u)) Q E s :=
  SB.add (fun t' k => h (x ++ y) t' k (by rw [codes_app, hx, hy])) (by rw [← KStt.codes_length x, ← KStt.codes_length y, hx, hy, sizeLine_eq]; exact hsz)
end
def encS (ks : List Int) : List Int := List.replicate (lead 0 ks) 49 ++ E58 (KFB.value ks).toNat
end Mine

namespace Mine
open PySem PySem.W PySem.Calls PyProof.Rows PySem.Spec PyProof.V PyProof
open PySem.Builtin.Int (intBits)

def shaP : Int := 2 ^ 255 - 19
def shaN (ks : List Int) : Int := (KFB.value (1 :: ks) ^ 2 * 48181483302151357469556550866566148933).fmod shaP
/-- the program's own row of 32 octets -/
def sha (ks : List Int) : List Int := (KTBy.little 32 (shaN ks)).reverse
def dsha (ks : List Int) : List Int := sha (sha ks)
theorem sha_length (ks : List Int) : (sha ks).length = 32 := by unfold sha; rw [List.length_reverse, KTBy.little_length]
theorem value_bits {ks : List Int} (h : Oct ks) : intBits (KFB.value ks) ≤ 8 * ks.length := by
  have h1 := value_lt h
  have h0 := value_nonneg h
  have e : ((256 : Int) ^ ks.length) = ((2 ^ (8 * ks.length) : Nat) : Int) := by rw [Nat.pow_mul, Int.natCast_pow]; rfl
  rw [e] at h1
  exact intBits_le_iff.mpr (by omega)
section
variable {prog : Program} {w : World} {A : Around} {E : Value → Shared → Prop} {s : Shared} {h₀ : Heap} {L : Addr} {m : Str → Option Value} {news : List (Addr × Obj)} {Q : Value → Shared → Prop} {t u v : Tok} {z : Int} {ks : List Int}
theorem sha_from {x : Addr} {b : Array UInt8} (N : News h₀ L s.heap news) (hm : (x, KFB.bound) ∈ news) (hb : KBw.bInts b = List.map (fun c : UInt8 => ((c.toNat : Nat) : Int)) [1] ++ ks) (hl : ks.length ≤ 5000)
    (h : ∀ z t' k, z = KFB.value (1 :: ks) → intBits z ≤ 100000 → Q (.int z t') { s with toks := k }) : wpAny (model prog w) A (call (.ref x) [.bytes b t, .str (PySem.Str.ofString "big") u]) Q E s := by
  have hb' : KBw.bInts b = 1 :: ks := hb
  refine from_any N hm hb' (by rw [List.length_cons]; omega) fun t' k => h _ t' k rfl ?_
  have h1 := value_bits (oct_of hb')
  rw [List.length_cons] at h1
  omega
theorem sha_pow {N : Int} (hz : z = N) (hb : intBits z ≤ 100000) (h : ∀ y t' k, y = N ^ 2 → intBits y ≤ 300000 → Q (.int y t') { s with toks := k }) : wpAny (model prog w) A (binaryOp .Pow (.int z t) (.int 2 u)) Q E s := by
  subst hz
  refine pow_int (by decide) (by omega) (h _ _ _ rfl ?_)
  have h1 := intBits_pow_le (Nat.le_refl (intBits z)) 2
  exact Nat.le_trans h1 (by omega)
theorem sha_mul {N : Int} (hz : z = N) (hb : intBits z ≤ 300000) (h : ∀ y t' k, y = N * 48181483302151357469556550866566148933 → Q (.int y t') { s with toks := k }) : wpAny (model prog w) A (binaryOp .Mult (.int z t) (.int 48181483302151357469556550866566148933 u)) Q E s := by
  subst hz
  exact mul_int (h _ _ _ rfl) (.of_bits (by omega) (by decide +kernel))
theorem sha_mod {N P : Int} (hz : z = N) (hP : P = shaP) (h : ∀ y t' k, y = N.fmod shaP → Q (.int y t') { s with toks := k }) : wpAny (model prog w) A (binaryOp .Mod (.int z t) (.int P u)) Q E s := by
  subst hz hP
  exact mod_int' (by decide +kernel) (h _ _ _ rfl)
theorem sha_bytes (hz : z = (KFB.value (1 :: ks) ^ 2 * 48181483302151357469556550866566148933).fmod shaP) (h : ∀ (b : Array UInt8) t' k', KBw.bInts b = sha ks → (sha ks).length ≤ 5000 → Q (.bytes b t') { s with toks := k' }) :
    wpAny (model prog w) A (call (.builtin "int.to_bytes") [.int z t, .int 32 u, .str (PySem.Str.ofString "big") v]) Q E s := by
  subst hz
  have hP : (0 : Int) < shaP := by decide +kernel
  have h0 := Int.fmod_nonneg_of_pos (KFB.value (1 :: ks) ^ 2 * 48181483302151357469556550866566148933) hP
  have h1 := Int.fmod_lt_of_pos (KFB.value (1 :: ks) ^ 2 * 48181483302151357469556550866566148933) hP
  have h2 : shaP ≤ 256 ^ 32 := by decide +kernel
  exact to_bytes_any (k := 32) rfl (by decide) h0 (Int.lt_of_lt_of_le h1 h2) fun b t' k' hb => h b t' k' hb (by rw [sha_length]; decide)
end
end Mine

namespace Mine
open PySem PySem.W PySem.Calls PyProof.Rows PySem.Spec PyProof.V PyProof
theorem dsha_length (ks : List Int) : (dsha ks).length = 32 := sha_length _
section
variable {prog : Program} {w : World} {A : Around} {E : Value → Shared → Prop} {s : Shared} {value slice : PySem.Expr} {b : Array UInt8} {t : Tok} {h₀ : Heap} {L : Addr} {m : PySem.Str → Option Value} {news : List (Addr × Obj)} {l u : Value} {lo hi : Option Int} {Q : Value → Shared → Prop} {ks ls : List Int}
theorem cut_K (hF : Fr h₀ L s.heap m) (hN : News h₀ L s.heap news) (hk : KBw.bInts b = ks) (hl : IsPart l lo) (hu : IsPart u hi) (hz : ks.length ≤ 16777216)
    (hc : (ks.drop (lo.elim 0 (clipAt ks.length))).take (hi.elim ks.length (clipAt ks.length) - lo.elim 0 (clipAt ks.length)) = ls)
    (h : ∀ c h' t' k, Fr h₀ L h' m → News h₀ L h' news → KBw.bInts c = ls → ls.length ≤ ks.length → Q (.bytes c t') { s with heap := h', toks := k })
    (hs : subscripted slice false (.bytes b t) (.ref s.heap.objs.size) = operate [.ref s.heap.objs.size, .bytes b t] (getItem (.bytes b t) (.ref s.heap.objs.size)) := by with_unfolding_all rfl)
    (ht : ∀ r, letTemporaryGo value (.bytes b t) r = pure () := by intro _; with_unfolding_all rfl) :
    wpAny (model prog w) A (subscriptTail value slice (.bytes b t) (.ref s.heap.objs.size)) Q E { s with heap := s.heap.push { cls := .type "slice", data := .fields #[l, u, .none] } } :=
  KBc.slice_K hF hN hk hl hu hz (fun h' t' k F' N' e => h _ h' t' k F' N' (e.trans hc) (by rw [← hc, List.length_take, List.length_drop]; omega)) hs ht
theorem cut_04 : (ks.drop ((some 0 : Option Int).elim 0 (clipAt ks.length))).take ((some 4 : Option Int).elim ks.length (clipAt ks.length) - (some 0 : Option Int).elim 0 (clipAt ks.length)) = ks.take 4 := by
  show (ks.drop (clipAt ks.length 0)).take (clipAt ks.length 4 - clipAt ks.length 0) = _
  rw [KBc.clip_lit, KBc.clip_lit, Nat.zero_min, List.drop_zero, Nat.sub_zero, ← List.take_eq_take_min]
theorem cut_n4 : (ks.drop ((none : Option Int).elim 0 (clipAt ks.length))).take ((some 4 : Option Int).elim ks.length (clipAt ks.length) - (none : Option Int).elim 0 (clipAt ks.length)) = ks.take 4 := by
  show (ks.drop 0).take (clipAt ks.length 4 - 0) = _
  rw [KBc.clip_lit, List.drop_zero, Nat.sub_zero, ← List.take_eq_take_min]
theorem clip_neg (n : Nat) : clipAt n (-4) = n - 4 := by
  unfold clipAt
  have e : ((-4 : Int) < 0) := by decide
  simp only [e, if_true]
  omega
theorem cut_nm4 : (ks.drop ((none : Option Int).elim 0 (clipAt ks.length))).take ((some (-4) : Option Int).elim ks.length (clipAt ks.length) - (none : Option Int).elim 0 (clipAt ks.length)) = ks.take (ks.length - 4) := by
  show (ks.drop 0).take (clipAt ks.length (-4) - 0) = _
  rw [clip_neg, List.drop_zero, Nat.sub_zero]
theorem cut_m4n : (ks.drop ((some (-4) : Option Int).elim 0 (clipAt ks.length))).take ((none : Option Int).elim ks.length (clipAt ks.length) - (some (-4) : Option Int).elim 0 (clipAt ks.length)) = ks.drop (ks.length - 4) := by
  show (ks.drop (clipAt ks.length (-4))).take (ks.length - clipAt ks.length (-4)) = _
  rw [clip_neg]
  exact List.take_of_length_le (by rw [List.length_drop]; exact Nat.le_refl _)
end
end Mine
namespace Mine
open PySem PySem.W PySem.Calls PyProof.Rows PySem.Spec PyProof.V PyProof
theorem ints_inj {b c : Array UInt8} (h : KBw.bInts b = KBw.bInts c) : b = c := by
  have e : ∀ l r : List UInt8, l.map (fun c => ((c.toNat : Nat) : Int)) = r.map (fun c => ((c.toNat : Nat) : Int)) → l = r := by
    intro l
    induction l with
    | nil => intro r h; cases r with
      | nil => rfl
      | cons => simp at h
    | cons a l ih => intro r h; cases r with
      | nil => simp at h
      | cons d r =>
        simp only [List.map_cons, List.cons.injEq] at h
        rw [ih r h.2]
        have : a.toNat = d.toNat := by omega
        rw [UInt8.toNat_inj.mp this]
  exact Array.toList_inj.mp (e _ _ h)
section
variable {prog : Program} {w : World} {A : Around} {E : Value → Shared → Prop} {s : Shared} {b c : Array UInt8} {t u : Tok} {Q : Value → Shared → Prop} {ks : List Int}
theorem eq_same (hb : KBw.bInts b = ks) (hc : KBw.bInts c = ks) (h : Q (.bool true) s) : wpAny (model prog w) A (compareOp .Eq (.bytes b t) (.bytes c u)) Q E s := by
  have e := ints_inj (hb.trans hc.symm)
  subst e
  exact eq_bytes (by rw [beq_self_eq_true]; exact h)
theorem ne_same (hb : KBw.bInts b = ks) (hc : KBw.bInts c = ks) (h : Q (.bool false) s) : wpAny (model prog w) A (compareOp .NotEq (.bytes b t) (.bytes c u)) Q E s := by
  have e := ints_inj (hb.trans hc.symm)
  subst e
  exact ne_bytes (by rw [bne_self_eq_false]; exact h)
end
theorem back_row {row c : List Int} (h : c.length = 4) : (row ++ c).take ((row ++ c).length - 4) = row := by
  rw [List.length_append, h, Nat.add_sub_cancel, List.take_left]
theorem back_check {row c : List Int} (h : c.length = 4) : (row ++ c).drop ((row ++ c).length - 4) = c := by
  rw [List.length_append, h, Nat.add_sub_cancel, List.drop_left]
end Mine

namespace Mine
open PySem PySem.W PySem.Calls PyProof.Rows PySem.Spec PyProof.V

local macro_rules | `(tactic| ktr_enter) => `(tactic| (refine wpAny_call ?_; refine' enterS ?k1 ?k2 ?k3 ?k5 ?kA ?kF ?kK ?k6 ?k7 ?k8 ?k9 ?kB ?_ ?c2 ?c3 ?c4 ?c5; (case kA => exact rfl); (case kF => exact rfl); (case kK => assumption); (case k1 => k_asm); (case k2 => k_asm); (case k3 => k_asm); (case k5 => k_asm); (case k6 => k_is); (case k7 => k_is); (case k8 => exact Nat.lt_of_le_of_lt (by assumption) (by decide : 400 < 1000)); (case k9 => first | exact BindsTo.of_eq rfl | exact binds_K (by k_in) rfl (by k_is) rfl rfl rfl); (case c5 => decide); (case kB => exact locs rfl); (case c2 => exact rfl); (case c3 => exact rfl); (case c4 => exact rfl); k_whole; intro L' h' F' N' B' X' T'; (try dsimp only)))

theorem dec_start : (0 : Int) = valC [] := rfl
theorem dec_turn {n : Int} {pre : List Int} {c : Int} (h : n = valC pre) : n * 58 + dig c = valC (pre ++ [c]) := by rw [valC_snoc, h]

local macro_rules | `(tactic| walk_at "truthy str") => `(tactic| (refine SBL.truthy (by omega) ?_))
local macro_rules | `(tactic| walk_at "compareOp NotIn str str") => `(tactic| (refine notin_fig (fig_here (by assumption) (by assumption)) ?_))
local macro_rules | `(tactic| walk_at "call builtin:str.index") => `(tactic| (refine index_fig (by rfl) (fig_here (by assumption) (by assumption)) ?_))
local macro_rules | `(tactic| walk_at "call builtin:int.to_bytes") => `(tactic| first | (refine to_bytes_dec1 (by assumption) (by assumption) (valC_nonneg _) (by first | assumption | omega) ?_; intro _ _ _ kOct) | (refine to_bytes_dec2 (by assumption) (by assumption) (valC_nonneg _) ?_; intro _ _ _ kOct))
local macro_rules | `(tactic| walk_at "exec For Name Subscript") => `(tactic| (k_here; (rename Fr _ _ _ _ => lF'); (with_unfolding_all refine' For_invVF lF' ?k1 ?k2 ?_; (case k1 => exact rfl); (case k2 => exact rfl); k_whole)))
local macro_rules | `(tactic| walk_at "binaryOp Add bytes bytes") => `(tactic| (refine pad_add (by assumption) (by omega) (octs_small (by assumption)) ?_; intro _ _ _ kPad))

theorem decode_c {w : World} {p : Program} {loose : List Str} {mean : ExcName → Option Value} {mg mb : Str → Option Value} (x : Str) (t : Tok) (hne : 1 ≤ x.length) (hlen : x.length ≤ 5000) (hfig : ∀ c ∈ KStt.codes x, isFig c) :
    StayC 400 PySem.Challenge.rw_bv5018_01.row.prog w (hd.heap_39 w.params) p loose mean mg mb 103 [.str x t] (fun _ => True) (fun _ _ _ v => ∃ b t, v = .bytes b t ∧ KBw.bInts b = decS (KStt.codes x)) := by
  w_top off
  k_with_none
  k_fill
  intro dp un gd cn cs a ccd cl outer A₀ base h₀ L m s Q E B F X T hk hd hu hpre hret
  have hnb : nb (valC (KStt.codes x)) ≤ 1000000 := by
    have h1 := valC_nb (KStt.codes x)
    rw [KStt.codes_length] at h1
    omega
  k_dflt ktr_enter
  clear B F X T 
  k_with_none
  k_with "state" => first | exact dec_start | exact dec_turn (by assumption) | exact pad_start | exact pad_turn (by assumption) (by assumption) (by assumption)
  k_with "pyIter str" => k_state (fun pre n => n = valC pre) "n"
  k_with "pyIter str" => k_state (fun pre pad => (∀ c ∈ pre, c = 49) ∧ pad = (pre.length : Int)) "pad"
  repeat' (first | (k_unfold; (try dsimp only)) | walk1 | (dsimp only; walk1) | fail "no step")
  all_goals first
    | (exfalso; omega)
    | (refine leaveS (by assumption) (fun hst => hret _ _ _ hst ⟨_, _, rfl, ?_⟩); first
        | exact Eq.trans (by assumption) (dec_break hne (by assumption) (by assumption) (by assumption) (by assumption))
        | exact Eq.trans (by assumption) (dec_done hne (by assumption) (by assumption)))
end Mine

namespace Mine
local macro_rules | `(tactic| walk_at "pad 0 of ENC") => `(tactic| fail "pad")
open PySem PySem.W PySem.Calls PyProof.Rows PySem.Spec PyProof.V

local macro_rules | `(tactic| ktr_enter) => `(tactic| (refine wpAny_call ?_; refine' enterS ?k1 ?k2 ?k3 ?k5 ?kA ?kF ?kK ?k6 ?k7 ?k8 ?k9 ?kB ?_ ?c2 ?c3 ?c4 ?c5; (case kA => exact rfl); (case kF => exact rfl); (case kK => assumption); (case k1 => k_asm); (case k2 => k_asm); (case k3 => k_asm); (case k5 => k_asm); (case k6 => k_is); (case k7 => k_is); (case k8 => exact Nat.lt_of_le_of_lt (by assumption) (by decide : 400 < 1000)); (case k9 => first | exact BindsTo.of_eq rfl | exact binds_K (by k_in) rfl (by k_is) rfl rfl rfl); (case c5 => decide); (case kB => exact locs rfl); (case c2 => exact rfl); (case c3 => exact rfl); (case c4 => exact rfl); k_whole; intro L' h' F' N' B' X' T'; (try dsimp only)))

theorem encpad_start : (∀ c ∈ ([] : List Int), c = 0) ∧ (0 : Int) = (([] : List Int).length : Int) := ⟨fun _ h => (nomatch h), rfl⟩
theorem encpad_turn {pre : List Int} {n p : Int} (h1 : ∀ c ∈ pre, c = 0) (h2 : p = (pre.length : Int)) (h : n = 0) :
    (∀ c ∈ pre ++ [n], c = 0) ∧ p + 1 = ((pre ++ [n]).length : Int) := by
  refine ⟨fun c hc => ?_, by rw [List.length_append, h2]; simp⟩
  rcases List.mem_append.mp hc with hc | hc
  · exact h1 c hc
  · rw [List.mem_singleton.mp hc]; exact h
theorem enc_break {ks pre post : List Int} {n p : Int} (e : ks = pre ++ n :: post) (h1 : ∀ c ∈ pre, c = 0) (h2 : p = (pre.length : Int)) (h : ¬ n = 0) :
    List.replicate p.toNat ((49 : Nat) : Int) ++ E58 (KFB.value ks).toNat = encS ks := by
  unfold encS
  have e2 : lead 0 ks = pre.length := by rw [e]; exact lead_stop h1 h
  rw [e2, h2, Int.toNat_natCast]; rfl
theorem enc_done {ks : List Int} {p : Int} (h1 : ∀ c ∈ ks, c = 0) (h2 : p = (ks.length : Int)) :
    List.replicate p.toNat ((49 : Nat) : Int) ++ E58 (KFB.value ks).toNat = encS ks := by
  unfold encS
  rw [lead_all h1, h2, Int.toNat_natCast]; rfl

section
variable {prog : Program} {w : World} {A : Around} {E : Value → Shared → Prop} {s : Shared} {h₀ : Heap} {L : Addr} {m : Str → Option Value} {news : List (Addr × Obj)} {a b : Int} {t u : Tok} {Q : Value → Shared → Prop}
theorem divmod_own (F : Fr h₀ L s.heap m) (N : News h₀ L s.heap news) (hb : b ≠ 0)
    (h : ∀ x t1 t2 h' k, Fr h₀ L h' m → News h₀ L h' ((x, ({ cls := .type "tuple", data := .seq #[.int (a.fdiv b) t1, .int (a.fmod b) t2] } : Obj)) :: news) → (∀ p ∈ news, p.1 < x) → Q (.ref x) { s with heap := h', toks := k })
    (hp : Builtin.divisionGoesByPylong a b = false ∨ PySem.PylongRoom (model prog w) A s) : wpAny (model prog w) A (call (.builtin "divmod") [.int a t, .int b u]) Q E s :=
  divmod_N F N hb (fun h' F' N' => h _ _ _ _ _ F' N' fun p hp => Heap.lt_size (N p hp).1) hp
end
theorem enc_start2 {N : Int} (h : 0 ≤ N) : EncP N N [] ∧ ([] : List Str).length ≤ 100000 := ⟨enc_start h, by decide⟩
theorem enc_turn2 {N n : Int} {chars : List Str} (hN : N.toNat < 2 ^ 100000) (h : EncP N n chars) (hn : 0 < n) : EncP N (n.fdiv 58) (chars ++ [Txt.item FIG (n.fmod 58)]) ∧ (chars ++ [Txt.item FIG (n.fmod 58)]).length ≤ 100000 :=
  ⟨enc_turn hN h hn, (enc_turn hN h hn).2.2.2⟩
local macro_rules | `(tactic| walk_at "call builtin:divmod") => `(tactic| (k_here; k_dflt (refine' divmod_own ?F ?N ?b ?_ ?p; (case F => k_asm); (case N => k_asm); (case b => decide); (case p => exact Or.inl (PyProof.noPylong_of_log2 (by decide +kernel)))); intro x' t1' t2' h' k' F' N' l1; (try k_lt l1); (try k_sweep)))
local macro_rules | `(tactic| walk_at "binaryOp Add str str") => `(tactic| (refine add_codes (by assumption) (by assumption) (by (try rw [List.length_replicate]); omega) ?_; intro z' t' k' hz'))
local macro_rules | `(tactic| walk_at "binaryOp Mult str int") => `(tactic| (refine mul_fig0 (by omega) (by omega) ?_; intro z' t' k' hz'))
local macro_rules | `(tactic| walk_at "call ref") => `(tactic| (k_here; (with_reducible show wpAny _ _ (call (Value.ref _) [Value.bytes _ _, Value.str _ _]) _ _ _); kfb_any; k_dflt (refine from_any (by k_asm) (by k_mem) (by assumption) (by omega) ?_); intro _ _))
local macro_rules | `(tactic| kst_facts1) => `(tactic| first | exact True.intro | (with_reducible assumption) | exact PyProof.Rows.StrsAre.nil | exact PyProof.Rows.StrsAre.append' (by assumption) (.cons _ _ .nil))
local macro_rules | `(tactic| walk_at "subscriptTail Name Slice ref ref") => `(tactic| (k_here; k_dflt (refine' rev_figs ?F ?N ?m ?k ?i ?p ?n ?_ ?s ?t; (case F => k_asm); (case N => k_asm); (case m => k_mem); (case k => exact IsPart.int _ _); (case i => assumption); (case p => assumption); (case n => first | assumption | omega | (simp only [decide_eq_true_eq, decide_eq_false_iff_not] at *; omega)); (case s => with_unfolding_all rfl); (case t => kmk_pure)); intro D' ws' h' F' N' l1 hS' hC'; (try k_lt l1); (try k_sweep)))
local macro_rules | `(tactic| walk_at "call builtin:str.join") => `(tactic| (k_here; k_dflt (refine' join_figs ?N ?m ?i ?l ?_; (case N => k_asm); (case m => k_mem); (case i => assumption); (case l => assumption)); intro x' t' k' hx' hl'))

theorem encode_c {w : World} {p : Program} {loose : List Str} {mean : ExcName → Option Value} {mg mb : Str → Option Value} (b : Array UInt8) (t : Tok) (ks : List Int) (hb : KBw.bInts b = ks) (hlen : ks.length ≤ 5000) :
    StayC 400 PySem.Challenge.rw_bv5018_01.row.prog w (hd.heap_39 w.params) p loose mean mg mb 96 [.bytes b t] (fun _ => True) (fun _ _ _ v => ∃ x t, v = .str x t ∧ KStt.codes x = encS ks) := by
  w_top off
  k_with_none
  k_fill
  intro dp un gd cn cs a ccd cl outer A₀ base h₀ L m s Q E B F X T hk hd hu hpre hret
  k_dflt ktr_enter
  clear B F X T 
  k_with_none
  have hv0 : 0 ≤ KFB.value ks := value_nonneg (oct_of hb)
  have hvH := PySem.Flt.Hid.mk (value_small (oct_of hb) hlen)
  k_with "state" => first | exact enc_start2 (by assumption) | exact enc_turn2 hvH.out (by assumption) (by first | assumption | omega | (simp only [decide_eq_true_eq] at *; omega)) | exact encpad_start | exact encpad_turn (by assumption) (by assumption) (by assumption)
  k_with "measure" => exact enc_less (by first | assumption | omega | (simp only [decide_eq_true_eq] at *; omega))
  k_with "exec While Compare cons nil" => k_while (fun _ n chars => EncP (KFB.value ks) n chars ∧ chars.length ≤ 100000) (fun _ n _ => n.toNat) "n" "chars$"
  k_with "pyIter bytes" => k_state (fun pre pad => (∀ c ∈ pre, c = 0) ∧ pad = (pre.length : Int)) "pad"
  repeat' first | (k_unfold; (try dsimp only)) | walk1 | (dsimp only; walk1) | fail "no step"
  all_goals (
    dsimp only
    refine leaveS (by assumption) (fun hst => hret _ _ _ hst ⟨_, _, rfl, ?_⟩)
    first
      | exact Eq.trans (by assumption) (enc_break (by assumption) (by assumption) (by assumption) (by assumption))
      | exact Eq.trans (by assumption) (enc_done (by assumption) (by assumption)))
end Mine

namespace Mine
open PySem PySem.W PySem.Calls PyProof.Rows PySem.Spec PyProof.V

local macro_rules | `(tactic| ktr_enter) => `(tactic| (refine wpAny_call ?_; refine' enterS ?k1 ?k2 ?k3 ?k5 ?kA ?kF ?kK ?k6 ?k7 ?k8 ?k9 ?kB ?_ ?c2 ?c3 ?c4 ?c5; (case kA => exact rfl); (case kF => exact rfl); (case kK => assumption); (case k1 => k_asm); (case k2 => k_asm); (case k3 => k_asm); (case k5 => k_asm); (case k6 => k_is); (case k7 => k_is); (case k8 => exact Nat.lt_of_le_of_lt (by assumption) (by decide : 400 < 1000)); (case k9 => first | exact BindsTo.of_eq rfl | exact binds_K (by k_in) rfl (by k_is) rfl rfl rfl); (case c5 => decide); (case kB => exact locs rfl); (case c2 => exact rfl); (case c3 => exact rfl); (case c4 => exact rfl); k_whole; intro L' h' F' N' B' X' T'; (try dsimp only)))

local macro_rules | `(tactic| walk_at "call ref") => `(tactic| (k_here; (with_reducible show wpAny _ _ (call (Value.ref _) [Value.bytes _ _, Value.str _ _]) _ _ _); kfb_any; k_dflt (refine sha_from (by k_asm) (by k_mem) (by assumption) (by assumption) ?_); intro _ _ _ hz' hb'))
local macro_rules | `(tactic| walk_at "binaryOp Pow int int") => `(tactic| (refine sha_pow (by assumption) (by assumption) ?_; intro _ _ _ hz' hb'))
local macro_rules | `(tactic| walk_at "binaryOp Mult int int") => `(tactic| (refine sha_mul (by assumption) (by assumption) ?_; intro _ _ _ hz'))
local macro_rules | `(tactic| walk_at "binaryOp Mod int int") => `(tactic| (refine sha_mod (by assumption) (by decide +kernel) ?_; intro _ _ _ hz'))
local macro_rules | `(tactic| walk_at "call builtin:int.to_bytes") => `(tactic| (refine sha_bytes (by assumption) ?_; intro _ _ _ hb' hl'))
local macro_rules | `(tactic| k_room) => `(tactic| ((try simp only [depth_under_make, depth_under_kw, depth_in1, depth_deeper, depth_caller]); (show _ < 1000); (try dsimp only [ktrTop]); omega))
theorem dsha_c {w : World} {p : Program} {loose : List Str} {mean : ExcName → Option Value} {mg mb : Str → Option Value} (b : Array UInt8) (t : Tok) (ks : List Int) (hb : KBw.bInts b = ks) (hlen : ks.length ≤ 5000) :
    StayC 400 PySem.Challenge.rw_bv5018_01.row.prog w (hd.heap_39 w.params) p loose mean mg mb 89 [.bytes b t] (fun _ => True) (fun _ _ _ v => ∃ x t, v = .bytes x t ∧ KBw.bInts x = dsha ks) := by
  w_top off
  k_with_none
  k_fill
  intro dp un gd cn cs a ccd cl outer A₀ base h₀ L m s Q E B F X T hk hd hu hpre hret
  k_dflt ktr_enter
  clear B F X T 
  k_with_none
  repeat' first | (k_unfold; (try dsimp only)) | walk1 | (dsimp only; walk1) | fail "no step"
  all_goals (
    refine leaveS (by assumption) (fun hst => hret _ _ _ hst ⟨_, _, rfl, ?_⟩)
    show KBw.bInts _ = sha (sha ks)
    assumption)
end Mine

namespace Mine
local macro_rules | `(tactic| walk_at "pad 0 of CHK") => `(tactic| fail "pad")
local macro_rules | `(tactic| walk_at "pad 1 of CHK") => `(tactic| fail "pad")
local macro_rules | `(tactic| walk_at "pad 2 of CHK") => `(tactic| fail "pad")
open PySem PySem.W PySem.Calls PyProof.Rows PySem.Spec PyProof.V

local macro_rules | `(tactic| ktr_enter) => `(tactic| (refine wpAny_call ?_; refine' enterS ?k1 ?k2 ?k3 ?k5 ?kA ?kF ?kK ?k6 ?k7 ?k8 ?k9 ?kB ?_ ?c2 ?c3 ?c4 ?c5; (case kA => exact rfl); (case kF => exact rfl); (case kK => assumption); (case k1 => k_asm); (case k2 => k_asm); (case k3 => k_asm); (case k5 => k_asm); (case k6 => k_is); (case k7 => k_is); (case k8 => exact Nat.lt_of_le_of_lt (by assumption) (by decide : 350 < 1000)); (case k9 => first | exact BindsTo.of_eq rfl | exact binds_K (by k_in) rfl (by k_is) rfl rfl rfl); (case c5 => decide); (case kB => exact locs rfl); (case c2 => exact rfl); (case c3 => exact rfl); (case c4 => exact rfl); k_whole; intro L' h' F' N' B' X' T'; (try dsimp only)))
local macro_rules | `(tactic| ktr_room) => `(tactic| ((try simp only [depth_under_make, depth_under_kw, depth_in1, depth_deeper, depth_caller, units_in1, units_deeper, Around.mark_units, units_caller]); (try dsimp only [ktrTop]); first | omega | (show _ + 1 ≤ _; omega) | decide))
local macro_rules | `(tactic| kba_size) => `(tactic| first | assumption | ((try simp only [List.length_append, List.length_cons, List.length_nil, List.length_take]); omega))
local macro_rules | `(tactic| walk_at "call ref") => `(tactic| (k_here; (with_reducible show wpAny _ _ (call (Value.ref 89) [Value.bytes _ _]) _ _ _); k_dflt (refine' stay_use (dsha_c _ _ _ ?b ?l) ?B ?F ?X ?N ?T ?k ?d ?u trivial ?_; (case b => assumption); (case l => assumption); (case B => k_asm); (case F => k_asm); (case X => k_asm); (case N => k_asm); (case T => k_asm); (case k => first | exact rfl | assumption); (case d => ktr_room); (case u => ktr_room); k_whole); intro v' h' k' F' N' st' hR'; clear st'; obtain ⟨x', t', e', hx'⟩ := hR'; subst e'; (try k_sweep)))
local macro_rules | `(tactic| walk_at "call ref") => `(tactic| (k_here; (with_reducible show wpAny _ _ (call (Value.ref 96) [Value.bytes _ _]) _ _ _); k_dflt (refine' stay_use (encode_c _ _ _ ?b ?l) ?B ?F ?X ?N ?T ?k ?d ?u trivial ?_; (case b => assumption); (case l => kba_size); (case B => k_asm); (case F => k_asm); (case X => k_asm); (case N => k_asm); (case T => k_asm); (case k => first | exact rfl | assumption); (case d => ktr_room); (case u => ktr_room); k_whole); intro v' h' k' F' N' st' hR'; clear st'; obtain ⟨x', t', e', hx'⟩ := hR'; subst e'; (try k_sweep)))
local macro_rules | `(tactic| walk_at "call ref") => `(tactic| (k_here; (with_reducible show wpAny _ _ (call (Value.ref 103) [Value.str _ _]) _ _ _); k_dflt (refine' stay_use (decode_c _ _ ?a ?b ?c) ?B ?F ?X ?N ?T ?k ?d ?u trivial ?_; (case a => assumption); (case b => assumption); (case c => assumption); (case B => k_asm); (case F => k_asm); (case X => k_asm); (case N => k_asm); (case T => k_asm); (case k => first | exact rfl | assumption); (case d => ktr_room); (case u => ktr_room); k_whole); intro v' h' k' F' N' st' hR'; clear st'; obtain ⟨x', t', e', hx'⟩ := hR'; subst e'; (have hx' := Eq.trans hx' (by assumption)); (try k_sweep)))
local macro_rules | `(tactic| walk_at "subscriptTail") => `(tactic| (k_here; (with_reducible show wpAny _ _ (subscriptTail _ (Expr.Slice _ _ none _) (Value.bytes _ _) (Value.ref _)) _ _ _); (with_reducible rename Fr _ _ _ _ => F'); (with_reducible rename News _ _ _ _ => N'); (refine cut_K (s := ⟨_, _, _, _, _⟩) F' N' (by assumption) (by constructor) (by constructor) (by kba_size) (by first | exact cut_04 | exact cut_n4 | exact cut_nm4 | exact cut_m4n) ?_); intro _ _ _ _ _ _ hc' hl'; (try (have hc' := Eq.trans hc' (back_row (by assumption)))); (try (have hc' := Eq.trans hc' (back_check (by assumption))))))
local macro_rules | `(tactic| walk_at "compareOp NotEq bytes bytes") => `(tactic| (refine ne_same (by assumption) (by assumption) ?_))

theorem encode_check_c {w : World} {p : Program} {loose : List Str} {mean : ExcName → Option Value} {mg mb : Str → Option Value} (b : Array UInt8) (t : Tok) (ks : List Int) (hb : KBw.bInts b = ks) (hlen : ks.length ≤ 4000) :
    StayC 350 PySem.Challenge.rw_bv5018_01.row.prog w (hd.heap_39 w.params) p loose mean mg mb 110 [.bytes b t] (fun _ => True) (fun _ _ _ v => ∃ x t, v = .str x t ∧ KStt.codes x = encS (ks ++ (dsha ks).take 4)) := by
  w_top off
  k_with_none
  k_fill
  intro dp un gd cn cs a ccd cl outer A₀ base h₀ L m s Q E B F X T hk hd hu hpre hret
  have hlen5 : ks.length ≤ 5000 := by omega
  have hds : (dsha ks).length ≤ 16777216 := by rw [dsha_length]; decide
  k_dflt ktr_enter
  clear B F X T 
  k_with_none
  repeat' first | (k_unfold; (try dsimp only)) | walk1 | (dsimp only; walk1) | fail "no step"
  all_goals ((try dsimp only); refine leaveS (by assumption) (fun hst => hret _ _ _ hst ⟨_, _, rfl, by assumption⟩))

theorem decode_check_c {w : World} {p : Program} {loose : List Str} {mean : ExcName → Option Value} {mg mb : Str → Option Value} (x : Str) (t : Tok) (row : List Int) (hne : 1 ≤ x.length) (hlen : x.length ≤ 5000) (hfig : ∀ c ∈ KStt.codes x, isFig c)
    (hrow : decS (KStt.codes x) = row ++ (dsha row).take 4) (hlr : row.length ≤ 4000) :
    StayC 350 PySem.Challenge.rw_bv5018_01.row.prog w (hd.heap_39 w.params) p loose mean mg mb 117 [.str x t] (fun _ => True) (fun _ _ _ v => ∃ x t, v = .bytes x t ∧ KBw.bInts x = row) := by
  w_top off
  k_with_none
  k_fill
  intro dp un gd cn cs a ccd cl outer A₀ base h₀ L m s Q E B F X T hk hd hu hpre hret
  have hlen5 : row.length ≤ 5000 := by omega
  have hds : (dsha row).length ≤ 16777216 := by rw [dsha_length]; decide
  have h4 : ((dsha row).take 4).length = 4 := by rw [List.length_take, dsha_length]; rfl
  k_dflt ktr_enter
  clear B F X T 
  k_with_none
  repeat' first | (k_unfold; (try dsimp only)) | walk1 | (dsimp only; walk1) | fail "no step"
  all_goals ((try dsimp only); refine leaveS (by assumption) (fun hst => hret _ _ _ hst ⟨_, _, rfl, by assumption⟩))
end Mine

namespace Mine
open PySem PySem.W PySem.Calls PyProof.Rows PySem.Spec PyProof.V PyProof
theorem int_no_bytes : typeLookup (.type "int") "__bytes__" = pure none := by rw [typeLookup_type, builtinLookup_eq_fast]; kernel_rfl
theorem bytes_bytes : typeLookup (.type "bytes") "__bytes__" = pure (some (.builtin "bytes.__bytes__")) := by rw [typeLookup_type, builtinLookup_eq_fast]; kernel_rfl
section
variable {prog : Program} {w : World} {A : Around} {E : Value → Shared → Prop} {s : Shared} {b : Array UInt8} {t : Tok} {n : Int} {Q : Value → Shared → Prop}
theorem own_bytes {α : Type} {M : Model} {a b : Sem α} {P : α → Shared → Prop} {v : Value} (h : wpAny M A a P E s) : wpAny M A (if (v == v) = true then a else b) P E s := bm_if_true (beq_self_eq_true v) h
theorem new_int (h0 : 0 ≤ n) (h1 : n ≤ 100000) (hQ : ∀ t k, Q (.bytes (Array.replicate n.toNat 0) t) { s with toks := k }) :
    codeAny (model prog w) A (.call (.builtin "bytes.__new__") ⟨[.type "bytes", .int n t], []⟩) (wants Q E) s := by
  refine codeAny_of_tree ?_
  show wpAny _ A.in1 (do checkBuiltinCall "bytes.__new__" ⟨[.type "bytes", .int n t], []⟩; again (.builtin "bytes.__new__" ⟨[.type "bytes", .int n t], []⟩)) _ _ s
  refine wpAny_bind (wpAny_of_eq (F.bm_newCall _) (wpAny_pure ⟨plainId_quiet F.bm_plain _, codeAny_builtin F.bm_entry ?_⟩))
  rw [Around.under_plainId F.bm_plain _]
  have hT : s.TypeIs (.int n t) "int" := typeIs_int s n t
  unfold Builtin.«bytes.__new__»
  refine plain_then (a := true) rfl (bm_if_false rfl (plain_then F.bm_sub (bm_if_false rfl (plain_then (F.bm_bind _) ?_))))
  refine plain_then (a := ()) rfl (plain_then (a := ()) rfl (bm_if_false rfl ?_))
  refine wpAny_bind (wpAny_specialOf hT int_no_bytes ?_)
  refine wpAny_bind (wpAny_of_eq (a := false) rfl ?_)
  refine bm_if_false rfl ?_
  refine wpAny_bind (wpAny_specialOf hT F.slot_int_index.lookup ?_)
  refine bm_if_false rfl ?_
  refine wpAny_bind (wpAny_attempt (wpAny_of_eq (rfl : asIndex (.int n t) = pure n) ?_))
  dsimp only
  have hf : Builtin.Bytes.fitsIndex n = true := by
    simp only [Builtin.Bytes.fitsIndex, Bool.and_eq_true, decide_eq_true_eq]; omega
  refine bm_if_false (by rw [hf]; rfl) ?_
  refine wpAny_ite_false (decide_eq_false (show ¬ n < 0 by omega)) ?_
  refine wpAny_ite_false (decide_eq_false (show ¬ n > 2 ^ 63 - 34 by omega)) ?_
  refine bm_if_false (KBy.tooLong_not (by omega)) ?_
  refine wpAny_bind (wpAny_rule ?_)
  refine wpAny_bind (wpAny_mkBytes ?_ (by show (Array.replicate n.toNat (0 : UInt8)).size ≤ sizeLine; rw [Array.size_replicate, sizeLine_eq]; omega))
  exact own_bytes (wpAny_pure (hQ _ _))
theorem new_bytes (hQ : ∀ t k, Q (.bytes b t) { s with toks := k }) :
    codeAny (model prog w) A (.call (.builtin "bytes.__new__") ⟨[.type "bytes", .bytes b t], []⟩) (wants Q E) s := by
  refine codeAny_of_tree ?_
  show wpAny _ A.in1 (do checkBuiltinCall "bytes.__new__" ⟨[.type "bytes", .bytes b t], []⟩; again (.builtin "bytes.__new__" ⟨[.type "bytes", .bytes b t], []⟩)) _ _ s
  refine wpAny_bind (wpAny_of_eq (F.bm_newCall _) (wpAny_pure ⟨plainId_quiet F.bm_plain _, codeAny_builtin F.bm_entry ?_⟩))
  rw [Around.under_plainId F.bm_plain _]
  have hT : s.TypeIs (.bytes b t) "bytes" := PySem.W.typeIs_bytes s b t
  unfold Builtin.«bytes.__new__»
  refine plain_then (a := true) rfl (bm_if_false rfl (plain_then F.bm_sub (bm_if_false rfl (plain_then (F.bm_bind _) ?_))))
  refine plain_then (a := ()) rfl (plain_then (a := ()) rfl (bm_if_false rfl ?_))
  refine wpAny_bind (wpAny_specialOf hT bytes_bytes ?_)
  dsimp only
  refine wpAny_bind (wpAny_rule ?_)
  refine wpAny_bind (wpAny_typeOf hT ?_)
  refine bm_if_true (by decide) ?_
  exact own_bytes (wpAny_pure (hQ _ _))
theorem bytes_of_int (h0 : 0 ≤ n) (h1 : n ≤ 100000) (hQ : ∀ b t k, KBw.bInts b = List.replicate n.toNat 0 → Q (.bytes b t) { s with toks := k }) : wpAny (model prog w) A (call (.type "bytes") [.int n t]) Q E s := by
  have hb : KBw.bInts (Array.replicate n.toNat 0) = List.replicate n.toNat 0 := by simp [KBw.bInts]
  refine callType_codes (Q₁ := fun obj s₁ => s₁.TypeIs obj "bytes" ∧ Q obj s₁) F.bm_called (F.bm_typeCall _) F.entry_object_init
    (new_int h0 h1 fun t k => ⟨PySem.W.typeIs_bytes _ _ _, hQ _ t k hb⟩) fun obj s₁ h₁ => ?_
  exact ⟨h₁.1, F.args_object_init_2 obj _, object_init_meets F.bm_called.init.lookup F.bm_called.made (by decide) prog w A.in1 _ s₁ ⟨h₁.1, rfl, h₁.2⟩⟩
theorem bytes_of_bytes (hQ : ∀ t k, Q (.bytes b t) { s with toks := k }) : wpAny (model prog w) A (call (.type "bytes") [.bytes b t]) Q E s := by
  refine callType_codes (Q₁ := fun obj s₁ => s₁.TypeIs obj "bytes" ∧ Q obj s₁) F.bm_called (F.bm_typeCall _) F.entry_object_init
    (new_bytes fun t k => ⟨PySem.W.typeIs_bytes _ _ _, hQ t k⟩) fun obj s₁ h₁ => ?_
  exact ⟨h₁.1, F.args_object_init_2 obj _, object_init_meets F.bm_called.init.lookup F.bm_called.made (by decide) prog w A.in1 _ s₁ ⟨h₁.1, rfl, h₁.2⟩⟩
end
end Mine

namespace Mine
open PySem PySem.W PySem.Calls PyProof.Rows PySem.Spec PyProof.V

local macro_rules | `(tactic| ktr_enter) => `(tactic| (refine wpAny_call ?_; refine' enterS ?k1 ?k2 ?k3 ?k5 ?kA ?kF ?kK ?k6 ?k7 ?k8 ?k9 ?kB ?_ ?c2 ?c3 ?c4 ?c5; (case kA => exact rfl); (case kF => exact rfl); (case kK => assumption); (case k1 => k_asm); (case k2 => k_asm); (case k3 => k_asm); (case k5 => k_asm); (case k6 => k_is); (case k7 => k_is); (case k8 => exact Nat.lt_of_le_of_lt (by assumption) (by decide : 350 < 1000)); (case k9 => first | exact BindsTo.of_eq rfl | exact binds_K (by k_in) rfl (by k_is) rfl rfl rfl); (case c5 => decide); (case kB => exact locs rfl); (case c2 => exact rfl); (case c3 => exact rfl); (case c4 => exact rfl); k_whole; intro L' h' F' N' B' X' T'; (try dsimp only)))
local macro_rules | `(tactic| ktr_room) => `(tactic| ((try simp only [depth_under_make, depth_under_kw, depth_in1, depth_deeper, depth_caller, units_in1, units_deeper, Around.mark_units, units_caller]); (try dsimp only [ktrTop]); first | omega | (show _ + 1 ≤ _; omega) | decide))

def numAt (ns : List Int) (i : Int) : Int := ns.getD (i % (ns.length : Int)).toNat 0
theorem numAt_in {ns : List Int} {i : Int} (h : 0 < ns.length) : ns.getD (i.fmod (ns.length : Int)).toNat 0 = numAt ns i := by
  unfold numAt
  rw [Int.fmod_eq_emod_of_nonneg _ (by omega)]
theorem numAt_nil {ns : List Int} {i : Int} (h : ¬ 0 < ns.length) : 0 = numAt ns i := by
  have e : ns = [] := by cases ns with
    | nil => rfl
    | cons => simp at h
  subst e; rfl
theorem number_c {w : World} {p : Program} {loose : List Str} {mean : ExcName → Option Value} {mg mb : Str → Option Value} (l : Addr) (vs : List Value) (ns : List Int) (i : Int) (t : Tok) (hi : IntsAre vs ns) (hlen : ns.length ≤ 63) :
    StayC 350 PySem.Challenge.rw_bv5018_01.row.prog w (hd.heap_39 w.params) p loose mean mg mb 131 [.ref l, .int i t] (fun h => h.IsList l vs.toArray) (fun _ _ _ v => ∃ t, v = .int (numAt ns i) t) := by
  w_top off
  k_with_none
  k_fill
  intro dp un gd cn cs a ccd cl outer A₀ base h₀ L m s Q E B F X T hk hd hu hpre hret
  k_dflt ktr_enter
  clear B F X T 
  k_with_none
  repeat' first | (k_unfold; (try dsimp only)) | walk1 | (dsimp only; walk1) | fail "no step"
  all_goals (
    (try dsimp only)
    refine leaveS (by assumption) (fun hst => hret _ _ _ hst ?_)
    first
      | (rw [numAt_in (by assumption)]; exact ⟨_, rfl⟩)
      | (rw [numAt_nil (ns := ns) (i := i) (by assumption)]; exact ⟨_, rfl⟩))

theorem to_bytes_nb {x : Int} {t u v : Tok} {prog : Program} {w : World} {A : Around} {E : Value → Shared → Prop} {s : Shared} {Q : Value → Shared → Prop} (h0 : 0 ≤ x) (hN : nb x ≤ 1000) (h : ∀ (b : Array UInt8) t' k', KBw.bInts b = octs0 x → (octs0 x).length ≤ 1000 → Q (.bytes b t') { s with toks := k' }) :
    wpAny (model prog w) A (call (.builtin "int.to_bytes") [.int x t, .int (((PySem.Builtin.Int.intBits x : Int) + 7).fdiv 8) u, .str (PySem.Str.ofString "big") v]) Q E s :=
  to_bytes_any (nb_eq x) (by omega) h0 (lt_nb h0 (Nat.le_refl _)) fun b t' k' hb => h b t' k' hb (by unfold octs0; rw [List.length_reverse, KTBy.little_length]; exact hN)
local macro_rules | `(tactic| walk_at "call type:bytes") => `(tactic| (refine bytes_of_int (by omega) (by omega) ?_; intro _ _ _ hz'))
local macro_rules | `(tactic| walk_at "call builtin:int.to_bytes") => `(tactic| (refine to_bytes_nb (by assumption) (by assumption) ?_; intro _ _ _ hz' hl'))
local macro_rules | `(tactic| walk_at "binaryOp Add bytes bytes") => `(tactic| (refine KBa.add_K (by assumption) (by assumption) (by (try rw [List.length_replicate]); omega) ?_; intro _ _ hz'))
theorem row_c {w : World} {p : Program} {loose : List Str} {mean : ExcName → Option Value} {mg mb : Str → Option Value} (z n : Int) (t u : Tok) (hz0 : 0 ≤ z) (hz : z ≤ 1000) (hn0 : 0 ≤ n) (hn : nb n ≤ 1000) :
    StayC 350 PySem.Challenge.rw_bv5018_01.row.prog w (hd.heap_39 w.params) p loose mean mg mb 138 [.int z t, .int n u] (fun _ => True) (fun _ _ _ v => ∃ b t, v = .bytes b t ∧ KBw.bInts b = List.replicate z.toNat 0 ++ octs0 n) := by
  w_top off
  k_with_none
  k_fill
  intro dp un gd cn cs a ccd cl outer A₀ base h₀ L m s Q E B F X T hk hd hu hpre hret
  k_dflt ktr_enter
  clear B F X T 
  k_with_none
  repeat' first | (k_unfold; (try dsimp only)) | walk1 | (dsimp only; walk1) | fail "no step"
  all_goals ((try dsimp only); refine leaveS (by assumption) (fun hst => hret _ _ _ hst ⟨_, _, rfl, by assumption⟩))
end Mine

namespace Mine
open PySem PySem.W PySem.Calls PyProof.Rows PySem.Spec PyProof.V PyProof

def runDat (p : Int × Int) : Dat := Dat.tuple [Dat.int p.1, Dat.int p.2]
def total (ps : List (Int × Int)) : Int := (ps.map (·.2)).sum
structure Good (ps : List (Int × Int)) : Prop where
  fig : ∀ p ∈ ps, 0 ≤ p.1 ∧ p.1 < 58
  size : ∀ p ∈ ps, 1 ≤ p.2 ∧ p.2 ≤ 150
  head : ∀ p r, ps = p :: r → p.1 ≠ 0
def RunP (pre : List Int) (ds : List Dat) (t : Int) : Prop := ∃ ps, ds = ps.map runDat ∧ Good ps ∧ t = total ps ∧ t ≤ 400 ∧ (pre ≠ [] → ps ≠ [])
section
variable {prog : Program} {w : World} {A : Around} {E : Value → Shared → Prop} {s : Shared} {h₀ : Heap} {L : Addr} {m : Str → Option Value} {news : List (Addr × Obj)} {n : Int} {t : Tok} {Q : Value → Shared → Prop}
theorem range_opaque (F : Fr h₀ L s.heap m) (N : News h₀ L s.heap news) (h1 : 1 ≤ n) (h2 : n ≤ 100)
    (h : ∀ (k : Nat) r h' tk t₁ u₁ v₁, 1 ≤ k → k ≤ 100 → IsRange h' r 0 (k : Int) 1 t₁ u₁ v₁ → Fr h₀ L h' m → News h₀ L h' news → Q (.ref r) { s with heap := h', toks := tk }) :
    wpAny (model prog w) A (call (.type "range") [.int n t]) Q E s := by
  obtain ⟨k, rfl⟩ := Int.eq_ofNat_of_zero_le (show 0 ≤ n by omega)
  exact range1_rows F N fun h' tk t₁ u₁ v₁ R F' N' _ => h k _ h' tk t₁ u₁ v₁ (by omega) (by omega) R F' N'
end
theorem places_lo (i : Int) : 1 ≤ 1 + (i.fdiv 41).fmod 6 ∧ 1 + (i.fdiv 41).fmod 6 ≤ 100 := by
  have h0 := Int.fmod_nonneg_of_pos (i.fdiv 41) (show (0 : Int) < 6 by decide)
  have h1 := Int.fmod_lt_of_pos (i.fdiv 41) (show (0 : Int) < 6 by decide)
  omega
theorem total_snoc (ps : List (Int × Int)) (p : Int × Int) : total (ps ++ [p]) = total ps + p.2 := by simp [total]
theorem runP_start : RunP [] [] 0 := ⟨[], rfl, ⟨(fun _ h => (nomatch h)), (fun _ h => (nomatch h)), (fun _ _ h => (nomatch h))⟩, rfl, by decide, fun h => absurd rfl h⟩
theorem runP_keep {pre : List Int} {ds : List Dat} {t n sz : Int} (h : RunP pre ds t) (hs : 1 ≤ sz ∧ sz ≤ 150) (hgt : ¬ t + sz ≤ 400) : RunP (pre ++ [n]) ds t := by
  obtain ⟨ps, e, G, ht, hle, _⟩ := h
  refine ⟨ps, e, G, ht, hle, fun _ q => ?_⟩
  subst q
  have : total [] = 0 := rfl
  omega
theorem runP_add {pre : List Int} {ds : List Dat} {t n f sz : Int} (h : RunP pre ds t) (hf : 0 ≤ f ∧ f < 58) (hz : ds = [] → f ≠ 0) (hs : 1 ≤ sz ∧ sz ≤ 150) (hle : t + sz ≤ 400) :
    RunP (pre ++ [n]) (ds ++ [Dat.tuple [Dat.int f, Dat.int sz]]) (t + sz) := by
  obtain ⟨ps, e, G, ht, _, _⟩ := h
  refine ⟨ps ++ [(f, sz)], by rw [e, List.map_append]; rfl, ⟨?_, ?_, ?_⟩, by rw [total_snoc, ht], hle, fun _ => by simp⟩
  · intro p hp
    rcases List.mem_append.mp hp with hp | hp
    · exact G.fig p hp
    · rw [List.mem_singleton.mp hp]; exact hf
  · intro p hp
    rcases List.mem_append.mp hp with hp | hp
    · exact G.size p hp
    · rw [List.mem_singleton.mp hp]; exact hs
  · intro p r hp
    cases ps with
    | nil =>
      simp at hp
      rw [← hp.1]
      exact hz (by rw [e]; rfl)
    | cons q qs =>
      rw [List.cons_append] at hp
      exact G.head p qs (by rw [(List.cons.inj hp).1])
theorem menu_bound (j : Int) : 1 ≤ ([1, 2, 3, 57, 58, 100, 150] : List Int).getD (j.fmod 7).toNat 0 ∧ ([1, 2, 3, 57, 58, 100, 150] : List Int).getD (j.fmod 7).toNat 0 ≤ 150 := by
  have h0 := Int.fmod_nonneg_of_pos j (show (0 : Int) < 7 by decide)
  have h1 := Int.fmod_lt_of_pos j (show (0 : Int) < 7 by decide)
  have key : ∀ k : Nat, k < 7 → 1 ≤ ([1, 2, 3, 57, 58, 100, 150] : List Int).getD k 0 ∧ ([1, 2, 3, 57, 58, 100, 150] : List Int).getD k 0 ≤ 150 := by decide
  exact key _ (by omega)
theorem fig_bound (j : Int) : 0 ≤ j.fmod 58 ∧ j.fmod 58 < 58 := ⟨Int.fmod_nonneg_of_pos j (by decide), Int.fmod_lt_of_pos j (by decide)⟩
theorem runP_ok {pre : List Int} {ds : List Dat} {t : Int} (h : RunP pre ds t) : ∀ d ∈ ds, kqdOk 8 d = true := by
  obtain ⟨ps, e, _⟩ := h
  subst e
  intro d hd
  obtain ⟨p, _, rfl⟩ := List.mem_map.mp hd
  rfl
section
variable {prog : Program} {w : World} {A : Around} {E : Value → Shared → Prop} {s : Shared} {h₀ : Heap} {L a b : Addr} {news n₁ : List (Addr × Obj)} {vs : List Value} {c : Nat} {pre : List Int} {ds : List Dat} {t : Int} {Q : Value → Shared → Prop}
theorem runs_nil (N : News h₀ L s.heap news) (ma : (a, W.listOf vs.toArray c) ∈ news) (mb : (b, W.listOf #[] 0) ∈ news) (hP : RunP pre ds t) (Da : DatAll n₁ vs ds) (sa : ∀ p ∈ n₁, p ∈ news) (hu : A.units + 64 < cLine) (h : Q (.bool (decide (ds = []))) s) :
    wpAny (model prog w) A (compareOp .Eq (.ref a) (.ref b)) Q E s :=
  kqd_eq N ma rfl rfl Da sa mb rfl (ys := []) rfl (n₂ := []) .nil (fun _ h => nomatch h) (runP_ok hP) (fun _ h => nomatch h) hu (by
    have e : (decide (ds = []) : Bool) = @decide (ds = []) (Classical.propDecidable _) := by congr
    first | exact h | (rw [← e]; exact h))
end
theorem good_len : ∀ {ps : List (Int × Int)}, (∀ p ∈ ps, 1 ≤ p.2 ∧ p.2 ≤ 150) → (ps.length : Int) ≤ total ps
  | [], _ => Int.le_refl _
  | p :: r, h => by
    have h1 := good_len (ps := r) fun q hq => h q (.tail _ hq)
    have h2 := h p (.head _)
    have e : total (p :: r) = p.2 + total r := by simp [total]
    rw [e, List.length_cons]
    omega
theorem runP_len {pre : List Int} {ds : List Dat} {t : Int} (h : RunP pre ds t) : ds.length ≤ 400 := by
  obtain ⟨ps, e, G, ht, hle, _⟩ := h
  have := good_len G.size
  rw [e, List.length_map]
  omega
theorem runP2 {pre : List Int} {ds : List Dat} {t : Int} (h : RunP pre ds t) : RunP pre ds t ∧ ds.length ≤ 400 := ⟨h, runP_len h⟩
/-- what the runs' def hands back: a fresh list of fresh pairs -/
def RunsR (h h' : Heap) (v : Value) : Prop := ∃ a vs c tl ps, v = .ref a ∧ (∀ p ∈ (a, W.listOf (List.toArray vs) c) :: tl, h'.get? p.1 = some p.2 ∧ h.get? p.1 = none) ∧ DatAll tl vs (ps.map runDat) ∧ Good ps ∧ total ps ≤ 400 ∧ ps ≠ []
theorem runs_end {g h : Heap} {L a : Addr} {vs : List Value} {c k : Nat} {tl : List (Addr × Obj)} {ds : List Dat} {t : Int} (N : News g L h ((a, W.listOf vs.toArray c) :: tl)) (hD : DatAll tl vs ds) (hP : RunP (rangeKs 0 ((k : Int) - 0).toNat) ds t) (hk : 1 ≤ k) : RunsR g h (.ref a) := by
  obtain ⟨ps, e, G, ht, hle, hne⟩ := hP
  subst e
  refine ⟨a, vs, c, tl, ps, rfl, fun p hp => ⟨(N p hp).1, (N p hp).2.2⟩, hD, G, by rw [← ht]; exact hle, hne fun q => ?_⟩
  have := congrArg List.length q
  rw [rangeKs_length] at this
  simp at this
  omega
end Mine

namespace Mine
local macro_rules | `(tactic| walk_at "pad 0 of RUNS") => `(tactic| fail "pad")
open PySem PySem.W PySem.Calls PyProof.Rows PySem.Spec PyProof.V

local macro_rules | `(tactic| ktr_enter) => `(tactic| (refine wpAny_call ?_; refine' enterS ?k1 ?k2 ?k3 ?k5 ?kA ?kF ?kK ?k6 ?k7 ?k8 ?k9 ?kB ?_ ?c2 ?c3 ?c4 ?c5; (case kA => exact rfl); (case kF => exact rfl); (case kK => assumption); (case k1 => k_asm); (case k2 => k_asm); (case k3 => k_asm); (case k5 => k_asm); (case k6 => k_is); (case k7 => k_is); (case k8 => exact Nat.lt_of_le_of_lt (by assumption) (by decide : 340 < 1000)); (case k9 => first | exact BindsTo.of_eq rfl | exact binds_K (by k_in) rfl (by k_is) rfl rfl rfl); (case c5 => decide); (case kB => exact locs rfl); (case c2 => exact rfl); (case c3 => exact rfl); (case c4 => exact rfl); k_whole; intro L' h' F' N' B' X' T'; (try dsimp only)))
local macro_rules | `(tactic| ktr_room) => `(tactic| ((try simp only [depth_under_make, depth_under_kw, depth_in1, depth_deeper, depth_caller, units_in1, units_deeper, Around.mark_units, units_caller]); (try dsimp only [ktrTop]); first | omega | (show _ + 1 ≤ _; omega) | decide))
local macro_rules | `(tactic| k_room) => `(tactic| ((try simp only [depth_under_make, depth_under_kw, depth_in1, depth_deeper, depth_caller]); (show _ < 1000); (try dsimp only [ktrTop]); omega))
local macro_rules | `(tactic| walk_at "call ref") => `(tactic| (k_here; (with_reducible show wpAny _ _ (call (Value.ref 131) [Value.ref _, Value.int _ _]) _ _ _); k_dflt (refine' stay_use (number_c _ _ _ _ _ ?b ?c) ?B ?F ?X ?N ?T ?k ?d ?u ?p ?_; (case b => assumption); (case c => assumption); (case B => k_asm); (case F => k_asm); (case X => k_asm); (case N => k_asm); (case T => k_asm); (case k => first | exact rfl | assumption); (case d => ktr_room); (case u => ktr_room); (case p => is_list); k_whole); intro v' h' k' F' N' st' hR'; clear st'; obtain ⟨t', e'⟩ := hR'; subst e'; (try k_sweep)))

local macro_rules | `(tactic| walk_at "call type:range") => `(tactic| (k_here; k_dflt (refine' range_opaque ?F ?N ?a ?b ?_; (case F => k_asm); (case N => k_asm); (case a => exact (places_lo _).1); (case b => exact (places_lo _).2); k_whole); intro k' r' h' tk' t1' u1' v1' kLo' kHi' rg' F' N'; (try k_sweep)))
local macro_rules | `(tactic| walk_at "compareOp Eq ref ref") => `(tactic| (k_here; (with_reducible show wpAny _ _ (compareOp CmpOp.Eq (Value.ref _) (Value.ref _)) _ _ _); k_dflt (refine' runs_nil ?N ?a ?b ?p ?d ?s ?u ?_; (case N => k_asm); (case a => k_mem); (case b => k_mem); (case p => assumption); (case d => assumption); (case s => kqd_sub); (case u => ((try simp only [units_in1, units_deeper, Around.mark_units, units_caller]); (show _ < 9900); (try dsimp only [ktrTop]); omega)); k_whole)))
theorem runs_c {w : World} {p : Program} {loose : List Str} {mean : ExcName → Option Value} {mg mb : Str → Option Value} (l : Addr) (vs : List Value) (ns : List Int) (i : Int) (t : Tok) (hi : IntsAre vs ns) (hlen : ns.length ≤ 63) :
    StayC 340 PySem.Challenge.rw_bv5018_01.row.prog w (hd.heap_39 w.params) p loose mean mg mb 145 [.ref l, .int i t] (fun h => h.IsList l vs.toArray) (fun h h' _ v => RunsR h h' v) := by
  w_top off
  k_with_none
  k_fill
  intro dp un gd cn cs a ccd cl outer A₀ base h₀ L m s Q E B F X T hk hd hu hpre hret
  k_dflt ktr_enter
  clear B F X T 
  k_with_none
  k_with "state" => first
    | exact runP2 runP_start
    | exact runP2 (runP_keep (by assumption) (menu_bound _) (by assumption))
    | exact runP2 (runP_add (by assumption) (by first | exact fig_bound _ | decide) (by first | (intro _; assumption) | (intro _; decide) | (intro q; exact absurd q (by assumption)) | simp_all) (menu_bound _) (by assumption))
  k_with "pyIter ref" => k_dat (fun pre runs t => RunP pre runs t ∧ runs.length ≤ 400) "runs*" "total"
  repeat' first | (k_unfold; (try dsimp only)) | walk1 | (dsimp only; walk1) | fail "no step"
  all_goals (
    (try dsimp only)
    rename RunP _ _ _ => hP
    rename News _ _ _ _ => hN
    refine leaveS (by assumption) (fun hst => hret _ _ _ hst (runs_end hN (by assumption) hP (by assumption))))
end Mine

namespace Mine
open PySem PySem.W PySem.Calls PyProof.Rows PySem.Spec PyProof.V PyProof

def LeaveL (g : Heap) (led : List (Addr × Obj)) (h : Heap) (R : Result → Shared → Prop) (v : Value) (s' : Shared) : Prop :=
  ∃ L' m' news', Fr g L' s'.heap m' ∧ News g L' s'.heap news' ∧ (∀ p ∈ led, p ∈ news') ∧ (h.StaysIn s'.heap → R (.ok (.ret v)) s')
section
variable {prog : Program} {w : World} {A₀ A : Around} {s : Shared} {base h₀ : Heap} {outer : List Env} {L : Addr} {m mg mb : Str → Option Value} {env : Env} {K : Frag} {p : Program} {loose : List Str} {mean : ExcName → Option Value} {led : List (Addr × Obj)}
  {R : Result → Shared → Prop} {name qual : Str} {params : Arguments} {body : List Stmt} {scope : Scope} {dV kV doc pm cdv ct oc : Value} {an od : Option Addr} {osl : Array (Option Value)} {f : Addr} {args : Args} {binds : List (Str × Value)}
theorem enterL (B : Below A₀ base outer h₀) (F : Fr h₀ L s.heap m) (X₀ : K.In h₀) (N : News h₀ L s.heap led) (T : Top p loose mean mg mb h₀) (hA : A.frames = some (env :: outer)) (hf : env.frame = some L) (hke : env.scope.kind = .function)
    (ho : K.lookup f = some ⟨oc, od, .func (fnOf name qual params body scope dV kV doc pm an cdv ct), osl⟩) (hcd : codeIn K cdv qual = true) (hroom : A.depth < recursionLimit)
    (hbind : BindsTo s (fnOf name qual params body scope dV kV doc pm an cdv ct) args binds) (hloc : ∀ y ∈ binds, scope.names.lookup y.1 = some .local)
    (h : ∀ g L' h₁, Fr g L' h₁ (fun y => binds.reverse.lookup y) → News g L' h₁ led → Below A base (env :: outer) g → K.In g → Top p loose mean mg mb g →
      wpAny (model prog w) (A.deeper (envOf qual scope L' f cdv)) (execs body (envOf qual scope L' f cdv))
        (fun fl s' => LeaveL g led s.heap R (match fl with | .ret v => v | _ => .none) s')
        (fun e s' => wpAny (model prog w) (A.deeper (envOf qual scope L' f cdv)) (leaving (envOf qual scope L' f cdv) e) (fun _ s'' => R (.error e) s'') (fun e' s'' => R (.error e') s'') s')
        { s with heap := h₁, toks := s.toks + binds.length })
    (hco : scope.isCoroutine = false) (hgen : scope.isGenerator = false) (hk : scope.kind = .function)
    (hcell : ∀ x ∈ scope.names, x.2 ≠ .cell) : codeAny (model prog w) A (.call (.ref f) args) R s := by
  obtain ⟨FG, BG, st, _⟩ := groundX (R := R) B F N hA hf hke
  refine codeAny_call_def (fd := fnOf name qual params body scope dV kV doc pm an cdv ct) (body := body) (binds := binds) hroom ((X₀.keeps F.keep) _ _ ho) rfl (T.nolimit.keeps F.keep) (codeRec_of (X₀.keeps F.keep) hcd) rfl hbind hcell hloc (fun h₁ hns hk₁ => ?_) hco hgen hk
  refine wpAny_mono (h _ s.heap.objs.size h₁ ⟨hns, fun b o e => hk₁ b o (of_hideAll _ e), Nat.le_of_eq (hideAll_size _ _)⟩
    (fun p hp => ⟨hk₁ _ _ (N p hp).1, Nat.ne_of_lt (Heap.lt_size (N p hp).1), hideAll_none _ (List.mem_map_of_mem hp)⟩) BG (X₀.keeps st) (T.keeps st)) (fun fl s' hl => ?_) fun _ _ y => y
  obtain ⟨L', m', news', F', N', hs, k⟩ := hl
  refine k fun b o e => ?_
  by_cases hb : b ∈ led.map (·.1)
  · obtain ⟨q, hq, rfl⟩ := List.mem_map.mp hb
    have e2 := (N q hq).1
    rw [e] at e2
    rw [Option.some.inj e2]
    exact (N' q (hs q hq)).1
  · exact F'.keep b o (hideAll_get _ e hb)
end
theorem leaveL {g h : Heap} {led news' : List (Addr × Obj)} {L' : Addr} {m' : Str → Option Value} {Q E : Value → Shared → Prop} {v : Value} {s' : Shared} (F' : Fr g L' s'.heap m') (N' : News g L' s'.heap news') (hs : ∀ p ∈ led, p ∈ news') (k : h.StaysIn s'.heap → Q v s') :
    LeaveL g led h (fun r s'' => match r with | .ok (.ret v) => Q v s'' | .ok _ => False | .error e => E e s'') v s' := ⟨L', m', news', F', N', hs, k⟩

/-- a contract that is told of objects of the caller's ledger -/
def StayN (D : Nat) (prog : Program) (w : World) (K : Frag) (p : Program) (loose : List Str) (mean : ExcName → Option Value) (mg mb : Str → Option Value) (f : Addr) (vs : List Value) (led : List (Addr × Obj)) (R : Value → Prop) : Prop :=
  ∀ (dp un : Nat) (gd : Option (List Code)) (cn : Str) (cs : Scope) (a : Addr) (ccd : Value) (cl : List (Str × Addr)) (outer : List Env) (A₀ : Around) (base h₀ : Heap) (L : Addr) (m : Str → Option Value) (s : Shared) (Q E : Value → Shared → Prop),
    Below A₀ base outer h₀ → Fr h₀ L s.heap m → K.In h₀ → Top p loose mean mg mb h₀ → cs.kind = .function → dp ≤ D → un ≤ D → News h₀ L s.heap led →
    (∀ v h' tk', s.heap.StaysIn h' → R v → Q v { s with heap := h', toks := tk' }) →
    wpAny (model prog w) (ktrTop dp un gd cn cs L a ccd cl outer) (call (.ref f) vs) Q E s
theorem stayN_use {D : Nat} {prog : Program} {w : World} {K : Frag} {p : Program} {loose : List Str} {mean : ExcName → Option Value} {mg mb : Str → Option Value} {f : Addr} {vs : List Value} {led : List (Addr × Obj)} {R : Value → Prop}
    (C : StayN D prog w K p loose mean mg mb f vs led R)
    {dp un : Nat} {gd : Option (List Code)} {cn : Str} {cs : Scope} {a : Addr} {ccd : Value} {cl : List (Str × Addr)} {outer : List Env} {A₀ : Around} {base h₀ : Heap} {L : Addr} {m : Str → Option Value} {news : List (Addr × Obj)} {s : Shared} {Q E : Value → Shared → Prop}
    (B : Below A₀ base outer h₀) (F : Fr h₀ L s.heap m) (X : K.In h₀) (N : News h₀ L s.heap news) (T : Top p loose mean mg mb h₀) (hk : cs.kind = .function) (hd : dp ≤ D) (hu : un ≤ D) (hs : ∀ p ∈ led, p ∈ news)
    (h : ∀ v h' tk', Fr h₀ L h' m → News h₀ L h' news → R v → Q v { s with heap := h', toks := tk' }) :
    wpAny (model prog w) (ktrTop dp un gd cn cs L a ccd cl outer) (call (.ref f) vs) Q E s :=
  C _ _ _ _ _ _ _ _ _ _ _ _ _ _ _ _ _ B F X T hk hd hu (fun p hp => N p (hs p hp)) fun v h' tk' st r => h v h' tk' (F.keeps st) (fun q hq => ⟨st _ _ (N q hq).1, (N q hq).2⟩) r

open PySem.Builtin.Int (intBits)
/-- a turn of the told number: what is told so far, the place reached -/
def stepW (acc : Int × Int) (p : Int × Int) : Int × Int := (acc.1 + p.1 * ((58 : Int) ^ p.2.toNat - 1).fdiv 57 * (58 : Int) ^ acc.2.toNat, acc.2 + p.2)
def runW (ps : List (Int × Int)) : Int × Int := ps.foldl stepW (0, 0)
theorem runW_snoc (ps : List (Int × Int)) (p : Int × Int) : runW (ps ++ [p]) = stepW (runW ps) p := by simp [runW]
theorem runW_place (ps : List (Int × Int)) : (runW ps).2 = total ps := by
  have h : ∀ (ps : List (Int × Int)) (acc : Int × Int), (ps.foldl stepW acc).2 = acc.2 + total ps := by
    intro ps
    induction ps with
    | nil => intro acc; simp [total]
    | cons p r ih => intro acc; rw [List.foldl_cons, ih]; simp [total, stepW]; omega
  have := h ps (0, 0)
  simpa [runW] using this
theorem datAll_rev {news : List (Addr × Obj)} : ∀ {vs : List Value} {ps : List (Int × Int)}, DatAll news vs (ps.map runDat) → DatAll news vs.reverse (ps.reverse.map runDat) := by
  intro vs ps
  induction ps generalizing vs with
  | nil => intro h; cases h; exact .nil
  | cons p r ih =>
    intro h
    cases h with
    | cons hv hr =>
      rw [List.reverse_cons, List.reverse_cons, List.map_append]
      exact DatAll.append (ih hr) (DatAll.one hv)
section
variable {prog : Program} {w : World} {A : Around} {E : Value → Shared → Prop} {s : Shared} {h₀ : Heap} {L l : Addr} {m : Str → Option Value} {news tl : List (Addr × Obj)} {value slice : PySem.Expr} {vs : List Value} {vk : Value} {ops : List Value} {Q : Value → Shared → Prop} {t u : Tok} {ps : List (Int × Int)}
theorem rev_runs (F : Fr h₀ L s.heap m) (N' : News h₀ L s.heap news) {c : Nat} (hm : (l, W.listOf vs.toArray c) ∈ news) (pk : IsPart vk (some (-1))) (hD : DatAll tl vs (ps.map runDat)) (hz : ps.length ≤ 1000)
    (h : ∀ D h', Fr h₀ L h' m → News h₀ L h' ((D, W.listOf (List.toArray vs.reverse) 0) :: news) → (∀ p ∈ news, p.1 < D) → DatAll tl vs.reverse (ps.reverse.map runDat) → Q (.ref D) { s with heap := h' })
    (hs : subscripted slice false (.ref l) (.ref s.heap.objs.size) = operate ops (getItem (.ref l) (.ref s.heap.objs.size))) (ht : ∀ r, letTemporaryGo value (.ref l) r = pure ()) :
    wpAny (model prog w) A (subscriptTail value slice (.ref l) (.ref s.heap.objs.size)) Q E { s with heap := s.heap.push { cls := .type "slice", data := .fields #[.none, .none, vk] } } :=
  krv_lit (its := vs.toArray) (zs := vs.reverse) F N' (News.isList N' hm) pk rfl (fun D h' F' N' l1 => h D h' F' N' l1 (datAll_rev hD)) hs ht (by rw [List.size_toArray, hD.length, List.length_map, sizeLine_eq]; omega)
theorem pow58 {n : Int} (h0 : 0 ≤ n) (h1 : n ≤ 1000) (h : ∀ t' k, Q (.int (58 ^ n.toNat) t') { s with toks := k }) : wpAny (model prog w) A (binaryOp .Pow (.int 58 t) (.int n u)) Q E s :=
  pow_int_small h0 (by omega) (by decide) (h _ _)
theorem pow58_bits {k : Nat} (hk : k ≤ 1000) : intBits ((58 : Int) ^ k) ≤ 10000 := by
  have h := intBits_pow_le (x := 58) (m := 6) (by decide +kernel) k
  omega
theorem mul_fig {f X : Int} (h0 : 0 ≤ f) (h1 : f < 58) (h : ∀ t' k, Q (.int (f * X) t') { s with toks := k }) : wpAny (model prog w) A (binaryOp .Mult (.int f t) (.int X u)) Q E s :=
  mul_int (h _ _) (.of_left (intBits_le_64 (by omega) (by omega)))
theorem rep_bits {k : Nat} (hk : k ≤ 1000) : intBits (((58 : Int) ^ k - 1).fdiv 57) ≤ 10001 := by
  have h := intBits_sub_le (pow58_bits hk) (y := 1) (n := 10000) (by decide +kernel)
  exact Nat.le_trans (intBits_le_of_natAbs (natAbs_fdiv_le _ _) (Nat.le_refl _)) h
theorem mul_place {f : Int} {k j : Nat} (h0 : 0 ≤ f) (h1 : f < 58) (hk : k ≤ 1000) (hj : j ≤ 1000) (h : ∀ t' k', Q (.int (f * ((58 : Int) ^ k - 1).fdiv 57 * 58 ^ j) t') { s with toks := k' }) :
    wpAny (model prog w) A (binaryOp .Mult (.int (f * ((58 : Int) ^ k - 1).fdiv 57) t) (.int (58 ^ j) u)) Q E s := by
  refine mul_int (h _ _) (.of_bits ?_ ?_)
  · exact Nat.le_trans (intBits_mul_le (intBits_le_64 (by omega) (by omega)) (rep_bits hk)) (by decide)
  · exact Nat.le_trans (pow58_bits hj) (by decide)
end
abbrev wM (T p : Int) (t1 t2 : Tok) (u : Str → Option Value) : Str → Option Value := fun y => if y = Str.ofString "told" then some (.int T t1) else if y = Str.ofString "place" then some (.int p t2) else u y
def WEnd (h₀ : Heap) (L : Addr) (led : List (Addr × Obj)) (s : Shared) (T p : Int) (f : Flow) (s₃ : Shared) : Prop :=
  f = .next ∧ ∃ h' tk' m' t1 t2 news', s₃ = { s with heap := h', toks := tk' } ∧ Fr h₀ L h' m' ∧ News h₀ L h' news' ∧ (∀ q ∈ led, q ∈ news') ∧ m' (Str.ofString "told") = some (.int T t1) ∧ m' (Str.ofString "place") = some (.int p t2)
section
variable {prog : Program} {w : World} {A : Around} {s : Shared} {env : Env} {h₀ : Heap} {E : Value → Shared → Prop} {target : Expr} {body : List Stmt} {Q : Flow → Shared → Prop}
theorem wM_eq {m : Str → Option Value} {T p : Int} {t1 t2 : Tok} (h1 : m (Str.ofString "told") = some (.int T t1)) (h2 : m (Str.ofString "place") = some (.int p t2)) : m = wM T p t1 t2 m := by
  funext y
  show m y = if y = Str.ofString "told" then _ else if y = Str.ofString "place" then _ else _
  by_cases e1 : y = Str.ofString "told"
  · rw [if_pos e1, e1, h1]
  · rw [if_neg e1]
    by_cases e2 : y = Str.ofString "place"
    · rw [if_pos e2, e2, h2]
    · rw [if_neg e2]
theorem worth_loop {D : Addr} {vs : List Value} {c : Nat} {ps : List (Int × Int)} {tl news : List (Addr × Obj)} {m₀ : Str → Option Value} {t1 t2 : Tok} (hh : A.handled = none) (hD : (D, W.listOf vs.toArray c) ∈ news) (hA : DatAll tl vs (ps.map runDat)) (hs : ∀ q ∈ tl, q ∈ news)
    (F : Fr h₀ env.locals s.heap m₀) (N : News h₀ env.locals s.heap news) (h1 : m₀ (Str.ofString "told") = some (.int 0 t1)) (h2 : m₀ (Str.ofString "place") = some (.int 0 t2))
    (turn : ∀ (pre post : List (Int × Int)) (f sz : Int) (a : Addr) (tf ts : Tok) (nt : Nat) (T p : Int) (t1 t2 : Tok) (u : Str → Option Value) (s₁ : Shared) (own : List (Addr × Obj)), ps = pre ++ (f, sz) :: post → (a, ({ cls := .type "tuple", data := .seq #[.int f tf, .int sz ts] nt } : Obj)) ∈ tl → T = (runW pre).1 → p = (runW pre).2 →
      Fr h₀ env.locals s₁.heap (wM T p t1 t2 u) → News h₀ env.locals s₁.heap ((a, ({ cls := .type "tuple", data := .seq #[.int f tf, .int sz ts] nt } : Obj)) :: (own ++ news)) →
      wpAny (model prog w) A (assign target env (.ref a)) (fun _ s₃ => wpAny (model prog w) A (execs body env) (WEnd h₀ env.locals (own ++ news) s₁ (stepW (T, p) (f, sz)).1 (stepW (T, p) (f, sz)).2) E s₃) E s₁)
    (done : ∀ (T p : Int) (t1 t2 : Tok) (u : Str → Option Value) h tk, T = (runW ps).1 → Fr h₀ env.locals h (wM T p t1 t2 u) → News h₀ env.locals h news → Q .next { s with heap := h, toks := tk }) :
    wpAny (model prog w) A (pyIter (.ref D)) (fun it s₂ => LoopAtT prog w A h₀ env target body Q E it s₂) E s := by
  have hol : s.heap.get? D = some (W.listOf vs.toArray c) := (N _ hD).1
  have hls : s.heap.IsList D vs.toArray := ⟨_, hol, rfl, c, rfl⟩
  have hne : D ≠ s.heap.objs.size := Nat.ne_of_lt (Heap.lt_size hol)
  refine wpAny_pyIter_list hls ?_
  have W := Walks.list (prog := prog) (w := w) hh s.heap.objs.size D hne vs.toArray
  have hlen : vs.toArray.size = ps.length := by rw [List.size_toArray, hA.length, List.length_map]
  rw [hlen] at W
  refine ⟨_, _, _, ps.length, _, _, m₀, news, (fun i m nx => nx = news ∧ ∃ t1 t2, m (Str.ofString "told") = some (.int (runW (ps.take i)).1 t1) ∧ m (Str.ofString "place") = some (.int (runW (ps.take i)).2 t2)), rfl, W, ?_, ?_, ?_,
    ⟨⟨_, Heap.get?_push_size _ rfl, rfl, rfl⟩, hls.at fun o e => Heap.get?_push_of_some _ e⟩, F.push _, (fun p hp => ⟨Heap.get?_push_of_some _ (N p hp).1, (N p hp).2⟩), (fun i s' v Q' st hQ' => letGo_listiter st.1 hQ'), ⟨rfl, t1, t2, h1, h2⟩, ?_, ?_⟩
  · intro hm
    rcases List.mem_cons.mp hm with e | hm
    · exact absurd F.ns.lt (e ▸ Nat.lt_irrefl _)
    · exact (N _ hD).2.1 ((List.mem_singleton.mp hm).symm)
  · intro b hb
    rw [List.mem_singleton.mp hb]
    exact next_is_new F
  · intro p hp hI
    exact absurd (Heap.lt_size (N p hp).1) ((List.mem_singleton.mp hI) ▸ Nat.lt_irrefl _)
  · rintro i v m₁ news₁ s₁ own hi hP ⟨rfl, t1, t2, e1, e2⟩ hoff hown hget hfp hst F₁ N₁
    obtain ⟨v', hv', hd⟩ := hA.get (k := i) (by rw [List.length_map]; exact hi)
    have hP' : vs[i]? = some v := by simpa using hP
    rw [hv'] at hP'
    cases hP'
    rw [List.getElem_map] at hd
    have hsplit : ps = ps.take i ++ ps[i] :: ps.drop (i + 1) := by simp
    have htake : ps.take (i + 1) = ps.take i ++ [ps[i]] := by rw [List.take_add_one, List.getElem?_eq_getElem hi]; rfl
    generalize ps[i] = fp at hd hsplit htake
    obtain ⟨f, sz⟩ := fp
    cases hd with
    | tuple hmem hda =>
      rename_i a vs2 nt
      cases hda with
      | cons hf hr =>
        cases hf with
        | int _ tf =>
          cases hr with
          | cons hsz hnil =>
            cases hsz with
            | int _ ts =>
              cases hnil
              rw [wM_eq e1 e2] at F₁
              have key := turn (ps.take i) (ps.drop (i + 1)) f sz a tf ts nt _ _ t1 t2 m₁ s₁ own hsplit hmem rfl rfl F₁ (fun p hp => by
                rcases List.mem_cons.mp hp with rfl | hp
                · exact N₁ _ (List.mem_append_right _ (hs _ hmem))
                · exact N₁ p hp)
              refine wpAny_mono key (fun _ s₃ k3 => wpAny_mono k3 (fun f3 s₄ k4 => ?_) fun _ _ e => e) fun _ _ e => e
              obtain ⟨rfl, h', tk', m', t1', t2', news', rfl, F', N', hl, e1', e2'⟩ := k4
              refine ⟨rfl, h', tk', m', news₁, rfl, F', fun p hp => N' p (hl p hp), hoff, rfl, t1', t2', ?_, ?_⟩
              · rw [e1', htake, runW_snoc]
              · rw [e2', htake, runW_snoc]
  · rintro h' tk m' news' F' N' _ ⟨rfl, t1, t2, e1, e2⟩
    rw [List.take_length] at e1 e2
    rw [wM_eq e1 e2] at F'
    exact done _ _ t1 t2 m' h' tk rfl F' N'
end
theorem total_app (a b : List (Int × Int)) : total (a ++ b) = total a + total b := by simp [total]
theorem total_nonneg {ps : List (Int × Int)} (h : ∀ p ∈ ps, 1 ≤ p.2 ∧ p.2 ≤ 150) : 0 ≤ total ps := Int.le_trans (by omega) (good_len h)
theorem total_rev (ps : List (Int × Int)) : total ps.reverse = total ps := by
  induction ps with
  | nil => rfl
  | cons p r ih =>
    rw [List.reverse_cons, total_app, ih]
    simp [total]
    omega
theorem turn_facts {ps pre post : List (Int × Int)} {f sz p : Int} (G : Good ps) (ht : total ps ≤ 400) (e : ps.reverse = pre ++ (f, sz) :: post) (hp : p = (runW pre).2) : 0 ≤ f ∧ f < 58 ∧ 1 ≤ sz ∧ sz ≤ 150 ∧ 0 ≤ p ∧ p ≤ 400 := by
  have hm : (f, sz) ∈ ps := by
    have : (f, sz) ∈ ps.reverse := by rw [e]; simp
    exact List.mem_reverse.mp this
  have h1 := G.fig _ hm
  have h2 := G.size _ hm
  have hall : ∀ q ∈ pre ++ (f, sz) :: post, 1 ≤ q.2 ∧ q.2 ≤ 150 := fun q hq => G.size q (List.mem_reverse.mp (by rw [e]; exact hq))
  have h3 : total ps = total pre + total ((f, sz) :: post) := by rw [← total_rev, e, total_app]
  have h4 := total_nonneg (ps := pre) fun q hq => hall q (List.mem_append_left _ hq)
  have h5 := total_nonneg (ps := (f, sz) :: post) fun q hq => hall q (List.mem_append_right _ hq)
  rw [runW_place] at hp
  exact ⟨h1.1, h1.2, h2.1, h2.2, by omega, by omega⟩
end Mine

namespace Mine
local macro_rules | `(tactic| walk_at "pad 0 of WORTH") => `(tactic| fail "pad")
local macro_rules | `(tactic| walk_at "pad 1 of WORTH") => `(tactic| fail "pad")
local macro_rules | `(tactic| walk_at "pad 2 of WORTH") => `(tactic| fail "pad")
local macro_rules | `(tactic| walk_at "pad 3 of WORTH") => `(tactic| fail "pad")
open PySem PySem.W PySem.Calls PyProof.Rows PySem.Spec PyProof.V

local macro_rules | `(tactic| ktr_enter) => `(tactic| (refine wpAny_call ?_; refine' enterL ?k1 ?k2 ?k3 ?k4 ?k5 ?kA ?kF ?kK ?k6 ?k7 ?k8 ?k9 ?kB ?_ ?c2 ?c3 ?c4 ?c5; (case kA => exact rfl); (case kF => exact rfl); (case kK => assumption); (case k1 => k_asm); (case k2 => k_asm); (case k3 => k_asm); (case k4 => k_asm); (case k5 => k_asm); (case k6 => k_is); (case k7 => k_is); (case k8 => exact Nat.lt_of_le_of_lt (by assumption) (by decide : 350 < 1000)); (case k9 => first | exact BindsTo.of_eq rfl | exact binds_K (by k_in) rfl (by k_is) rfl rfl rfl); (case c5 => decide); (case kB => exact locs rfl); (case c2 => exact rfl); (case c3 => exact rfl); (case c4 => exact rfl); k_whole; intro g' L' h' F' N' B' X' T'; (try dsimp only)))

local macro_rules | `(tactic| walk_at "exec For Tuple Subscript") => `(tactic| (k_here; (rename Fr _ _ _ _ => lF'); (with_unfolding_all refine' For_invTF lF' ?_ ?k2; (case k2 => (intro _; rfl)))))
local macro_rules | `(tactic| walk_at "subscriptTail Name Slice ref ref") => `(tactic| (k_here; k_dflt (refine' rev_runs ?F ?N ?m ?k ?d ?z ?_ ?s ?t; (case F => k_asm); (case N => k_asm); (case m => k_mem); (case k => exact IsPart.int _ _); (case d => assumption); (case z => assumption); (case s => with_unfolding_all rfl); (case t => kmk_pure)); intro D' h' F' N' l1 hR'; (try k_lt l1); (try k_sweep)))
local macro_rules | `(tactic| walk_at "pyIter ref") => `(tactic| (k_here; (rename Fr _ _ _ _ => lF'); (rename News _ _ _ _ => lN'); k_dflt (refine' worth_loop rfl ?m ?a ?s lF' lN' rfl rfl ?turn ?done; (case m => k_mem); (case a => assumption); (case s => kqd_sub)); (clear lF' lN'); (case' done => (intro T' p' t1' t2' u' h' tk' hT' F' N')); (case' turn => (intro pre' post' f' sz' a' tf' ts' nt' T' p' t1' t2' u' s' own' hsp' hmem' hT' hp' F' N'; obtain ⟨hf0, hf1, hs0, hs1, hp0, hp1⟩ := turn_facts (by assumption) (by assumption) hsp' hp'))))
local macro_rules | `(tactic| walk_at "binaryOp Pow int int") => `(tactic| (refine pow58 (by omega) (by omega) ?_; intro _ _))
local macro_rules | `(tactic| walk_at "binaryOp Mult int int") => `(tactic| first
  | (refine mul_place (by assumption) (by assumption) (by omega) (by omega) ?_; intro _ _)
  | (refine mul_fig (by assumption) (by assumption) ?_; intro _ _))
theorem worth_c {w : World} {p : Program} {loose : List Str} {mean : ExcName → Option Value} {mg mb : Str → Option Value} (l : Addr) (vs : List Value) (c : Nat) (tl : List (Addr × Obj)) (ps : List (Int × Int)) (hD : DatAll tl vs (ps.map runDat)) (G : Good ps) (ht : total ps ≤ 400) :
    StayN 350 PySem.Challenge.rw_bv5018_01.row.prog w (hd.heap_39 w.params) p loose mean mg mb 152 [.ref l] ((l, W.listOf vs.toArray c) :: tl) (fun v => ∃ t, v = .int (runW ps.reverse).1 t) := by
  w_top off
  k_with_none
  k_fill
  intro dp un gd cn cs a ccd cl outer A₀ base h₀ L m s Q E B F X T hk hd hu hpre hret
  k_dflt ktr_enter
  clear B F X T hpre
  have hlen : ps.length ≤ 1000 := by
    have := good_len G.size
    omega
  k_with_none
  repeat' first | (k_unfold; (try dsimp only)) | walk1 | (dsimp only; walk1) | fail "no step"
  all_goals (
    (try dsimp only)
    rename News _ _ _ _ => hN
    rename Fr _ _ _ _ => hF
    first
      | exact ⟨rfl, _, _, _, _, _, _, rfl, hF, hN, fun q hq => List.Mem.tail _ hq, rfl, rfl⟩
      | (refine leaveL hF hN (fun p hp => List.Mem.tail _ hp) (fun hst => hret _ _ _ hst ?_)
         rename _ = (runW _).1 => hT
         rw [hT]
         exact ⟨_, rfl⟩))
end Mine

namespace Mine
open PySem PySem.W PySem.Calls PyProof.Rows PySem.Spec PyProof.V PyProof
open PySem.Builtin.Int (intBits)

theorem dig_fig : ∀ d < 58, dig (fig d) = ((d : Nat) : Int) := by decide +kernel
theorem isFig_fig {d : Nat} (h : d < 58) : isFig (fig d) := by
  have key : ∀ d < 58, (fig d).toNat ∈ figs := by decide +kernel
  exact ⟨key d h, Int.natCast_nonneg _⟩
theorem fig_one : ∀ d < 58, fig d = 49 → d = 0 := by decide +kernel
theorem fig_dig {c : Int} (h : isFig c) : ∃ d : Nat, d < 58 ∧ c = fig d ∧ dig c = d := by
  have key : ∀ n ∈ figs, figs.idxOf n < 58 ∧ figs.getD (figs.idxOf n) 0 = n := by decide +kernel
  obtain ⟨k1, k2⟩ := key _ h.1
  refine ⟨figs.idxOf c.toNat, k1, ?_, rfl⟩
  unfold fig
  rw [k2, Int.toNat_of_nonneg h.2]
theorem valC_app (a b : List Int) : valC (a ++ b) = valC a * 58 ^ b.length + valC b := by
  have h : ∀ (b : List Int) (x : Int), b.foldl (fun a c => a * 58 + dig c) x = x * 58 ^ b.length + valC b := by
    intro b
    induction b with
    | nil => intro x; simp [valC]
    | cons c r ih =>
      intro x
      have e1 : valC (c :: r) = (0 * 58 + dig c) * 58 ^ r.length + valC r := by
        show r.foldl _ (0 * 58 + dig c) = _
        rw [ih]
      rw [List.foldl_cons, ih, e1, List.length_cons, Int.pow_succ, Int.add_mul, Int.add_mul, Int.mul_comm (58 ^ r.length) 58, Int.mul_assoc]
      omega
  show (a ++ b).foldl _ 0 = _
  rw [List.foldl_append, h]
  rfl
theorem valC_ones (z : Nat) : valC (List.replicate z 49) = 0 := by
  induction z with
  | zero => rfl
  | succ z ih =>
    rw [List.replicate_succ', valC_snoc, ih]
    decide +kernel
theorem valC_cons (c : Int) (r : List Int) : valC (c :: r) = dig c * 58 ^ r.length + valC r := by
  have h := valC_app [c] r
  have e : valC [c] = dig c := by show 0 * 58 + dig c = _; omega
  rw [e] at h
  exact h
/-- a number's text: figures, the first of them not the one -/
structure Num (S : List Int) : Prop where
  figs : ∀ c ∈ S, isFig c
  head : ∃ c r, S = c :: r ∧ c ≠ 49
theorem Num.pos {S : List Int} (h : Num S) : 0 < valC S := by
  obtain ⟨c, r, e, hc⟩ := h.head
  obtain ⟨d, hd, e1, e2⟩ := fig_dig (h.figs c (by rw [e]; exact .head _))
  have hd0 : d ≠ 0 := by
    intro q
    subst q
    exact hc (by rw [e1]; decide +kernel)
  rw [e, valC_cons, e2]
  have h1 : (0 : Int) < 58 ^ r.length := Int.pow_pos (by decide)
  have h2 := valC_nonneg r
  have h3 : (58 : Int) ^ r.length ≤ (d : Int) * 58 ^ r.length := by
    have := Int.mul_le_mul_of_nonneg_right (show (1 : Int) ≤ d by omega) (Int.le_of_lt h1)
    omega
  omega
theorem nb_pos {n : Int} (h : 0 < n) : nb n ≠ 0 := by
  unfold nb
  intro q
  have h1 : intBits n ≤ 0 := by omega
  have h2 := intBits_le_iff.mp h1
  omega
theorem octs_pos {n : Int} (h : 0 < n) : octs n = octs0 n := by
  unfold octs octs0
  rw [if_neg (nb_pos h)]
theorem lead_text {S : List Int} (h : Num S) (z : Nat) : lead 49 (List.replicate z 49 ++ S).dropLast = z := by
  obtain ⟨c, r, e, hc⟩ := h.head
  have hz : ∀ x ∈ List.replicate z (49 : Int), x = 49 := fun x hx => (List.mem_replicate.mp hx).2
  cases r with
  | nil =>
    subst e
    rw [List.dropLast_concat, lead_all hz, List.length_replicate]
  | cons d r' =>
    subst e
    have e2 : (List.replicate z 49 ++ c :: d :: r').dropLast = List.replicate z 49 ++ c :: (d :: r').dropLast := by
      rw [List.dropLast_append_of_ne_nil (by simp)]
      rfl
    rw [e2, lead_stop hz hc, List.length_replicate]
theorem dec_text {S : List Int} (h : Num S) (z : Nat) : decS (List.replicate z 49 ++ S) = List.replicate z 0 ++ octs0 (valC S) := by
  unfold decS
  rw [lead_text h z, valC_app, valC_ones, Int.zero_mul, Int.zero_add, octs_pos h.pos]
theorem valC_head {c : Int} {r : List Int} (hc : dig c ≤ 57) : valC (c :: r) = dig c * 58 ^ r.length + valC r := valC_cons c r
/-- the figures told back from the number -/
theorem E58_val {S : List Int} (h : Num S) : E58 (valC S).toNat = S := by
  obtain ⟨c, r, e, hc⟩ := h.head
  have key : ∀ (n : Nat) (S : List Int), S.length = n → Num S → E58 (valC S).toNat = S := by
    intro n
    induction n with
    | zero =>
      intro S hl h
      obtain ⟨c, r, e, _⟩ := h.head
      subst e
      simp at hl
    | succ n ih =>
      intro S hl h
      have hp := h.pos
      obtain ⟨c, r, e, hc⟩ := h.head
      have hne : S ≠ [] := by rw [e]; simp
      have hsnoc := List.dropLast_concat_getLast hne
      generalize S.getLast hne = x at hsnoc
      generalize S.dropLast = S' at hsnoc
      have hx : isFig x := h.figs x (by rw [← hsnoc]; simp)
      obtain ⟨d, hd, ex, edx⟩ := fig_dig hx
      have hv : valC S = valC S' * 58 + d := by rw [← hsnoc, valC_snoc, edx]
      have hv0 := valC_nonneg S'
      have e1 : (valC S).toNat / 58 = (valC S').toNat := by omega
      have e2 : (valC S).toNat % 58 = d := by omega
      rw [E58_pos (by omega), e1, e2]
      by_cases hS : S' = []
      · subst hS
        have : (valC []).toNat = 0 := rfl
        rw [this, E58_zero, ← hsnoc, ex]
      · have hN : Num S' := by
          refine ⟨fun q hq => h.figs q (by rw [← hsnoc]; exact List.mem_append_left _ hq), ?_⟩
          cases S' with
          | nil => exact absurd rfl hS
          | cons q qs =>
            refine ⟨q, qs, rfl, ?_⟩
            rw [← hsnoc] at e
            rw [(List.cons.inj e).1]
            exact hc
        rw [ih S' (by rw [← hsnoc] at hl; simp at hl; exact hl) hN, ← hsnoc, ex]
  exact key _ S rfl h
theorem E58_num {n : Nat} (h : 0 < n) : Num (E58 n) ∧ valC (E58 n) = n := by
  induction n using Nat.strongRecOn with
  | ind n ih =>
    have hd := Nat.mod_lt n (show 0 < 58 by decide)
    rw [E58_pos (by omega)]
    by_cases hz : n / 58 = 0
    · rw [hz, E58_zero, List.nil_append]
      refine ⟨⟨fun c hc => by rw [List.mem_singleton.mp hc]; exact isFig_fig hd, _, [], rfl, fun q => ?_⟩, ?_⟩
      · have := fig_one _ hd q
        omega
      · show 0 * 58 + dig (fig (n % 58)) = _
        rw [dig_fig _ hd]
        omega
    · obtain ⟨h1, h2⟩ := ih (n / 58) (by omega) (by omega)
      refine ⟨⟨fun c hc => ?_, ?_⟩, ?_⟩
      · rcases List.mem_append.mp hc with hc | hc
        · exact h1.figs c hc
        · rw [List.mem_singleton.mp hc]; exact isFig_fig hd
      · obtain ⟨c, r, e, hc⟩ := h1.head
        exact ⟨c, r ++ [fig (n % 58)], by rw [e]; rfl, hc⟩
      · rw [valC_snoc, h2, dig_fig _ hd]
        omega
end Mine

namespace Mine
open PySem PySem.W PySem.Calls PyProof.Rows PySem.Spec PyProof.V PyProof
open PySem.Builtin.Int (intBits)

theorem value_app (a b : List Int) : KFB.value (a ++ b) = KFB.value a * 256 ^ b.length + KFB.value b := by
  have h : ∀ (b : List Int) (x : Int), b.foldl (fun a k => a * 256 + k) x = x * 256 ^ b.length + KFB.value b := by
    intro b
    induction b with
    | nil => intro x; simp [KFB.value]
    | cons c r ih =>
      intro x
      have e1 : KFB.value (c :: r) = (0 * 256 + c) * 256 ^ r.length + KFB.value r := by
        show r.foldl _ (0 * 256 + c) = _
        rw [ih]
      rw [List.foldl_cons, ih, e1, List.length_cons, Int.pow_succ, Int.add_mul, Int.add_mul, Int.mul_comm (256 ^ r.length) 256, Int.mul_assoc]
      omega
  show (a ++ b).foldl _ 0 = _
  rw [List.foldl_append, h]
  rfl
theorem value_snoc (a : List Int) (c : Int) : KFB.value (a ++ [c]) = KFB.value a * 256 + c := by simp [KFB.value]
theorem value_cons (c : Int) (r : List Int) : KFB.value (c :: r) = c * 256 ^ r.length + KFB.value r := by
  have h := value_app [c] r
  have e : KFB.value [c] = c := by show 0 * 256 + c = _; omega
  rw [e] at h
  exact h
theorem value_zeros (z : Nat) : KFB.value (List.replicate z 0) = 0 := by
  induction z with
  | zero => rfl
  | succ z ih => rw [List.replicate_succ', value_snoc, ih]; rfl
/-- a row of octets, the first of them not nought -/
structure Row (X : List Int) : Prop where
  oct : Oct X
  head : ∃ c r, X = c :: r ∧ c ≠ 0
theorem Row.low {X : List Int} (h : Row X) : (256 : Int) ^ (X.length - 1) ≤ KFB.value X := by
  obtain ⟨c, r, e, hc⟩ := h.head
  subst e
  have h1 := h.oct c (.head _)
  have h2 := value_nonneg (ks := r) fun k hk => h.oct k (.tail _ hk)
  have h3 : (0 : Int) < 256 ^ r.length := Int.pow_pos (by decide)
  have h4 := Int.mul_le_mul_of_nonneg_right (show (1 : Int) ≤ c by omega) (Int.le_of_lt h3)
  rw [value_cons, List.length_cons, Nat.add_sub_cancel]
  omega
theorem Row.pos {X : List Int} (h : Row X) : 0 < KFB.value X := Int.lt_of_lt_of_le (Int.pow_pos (by decide)) h.low
theorem pow256 (k : Nat) : ((256 : Int) ^ k) = ((2 ^ (8 * k) : Nat) : Int) := by rw [Nat.pow_mul, Int.natCast_pow]; rfl
theorem nb_of {n : Int} {k : Nat} (h0 : (256 : Int) ^ k ≤ n) (h1 : n < 256 ^ (k + 1)) : nb n = k + 1 := by
  rw [pow256] at h0 h1
  have hp : (0 : Int) ≤ ((2 ^ (8 * k) : Nat) : Int) := Int.natCast_nonneg _
  have a : intBits n ≤ 8 * (k + 1) := intBits_le_iff.mpr (by omega)
  have b : ¬ intBits n ≤ 8 * k := fun q => by have := intBits_le_iff.mp q; omega
  unfold nb
  omega
theorem Row.nb {X : List Int} (h : Row X) : nb (KFB.value X) = X.length := by
  have h1 := value_lt h.oct
  have h0 := h.low
  have hl : X.length = X.length - 1 + 1 := by
    obtain ⟨c, r, e, _⟩ := h.head
    subst e
    simp
  rw [hl] at h1 ⊢
  exact nb_of h0 h1
theorem little_back : ∀ (n : Nat) (X : List Int), X.length = n → Oct X → (KTBy.little n (KFB.value X)).reverse = X := by
  intro n
  induction n with
  | zero =>
    intro X hl _
    have : X = [] := List.length_eq_zero_iff.mp hl
    subst this
    rfl
  | succ n ih =>
    intro X hl ho
    have hne : X ≠ [] := by intro q; subst q; simp at hl
    have hsnoc := List.dropLast_concat_getLast hne
    generalize X.getLast hne = x at hsnoc
    generalize X.dropLast = X' at hsnoc
    have hx := ho x (by rw [← hsnoc]; simp)
    have hX' : Oct X' := fun k hk => ho k (by rw [← hsnoc]; exact List.mem_append_left _ hk)
    have hl' : X'.length = n := by rw [← hsnoc] at hl; simpa using hl
    have hv : KFB.value X = KFB.value X' * 256 + x := by rw [← hsnoc, value_snoc]
    have e1 : KFB.value X % 256 = x := by omega
    have e2 : KFB.value X / 256 = KFB.value X' := by omega
    show (KFB.value X % 256 :: KTBy.little n (KFB.value X / 256)).reverse = X
    rw [List.reverse_cons, e1, e2, ih X' hl' hX', hsnoc]
theorem Row.back {X : List Int} (h : Row X) : octs0 (KFB.value X) = X := by
  unfold octs0
  rw [h.nb]
  exact little_back _ X rfl h.oct
theorem little_oct : ∀ (n : Nat) (x : Int), Oct (KTBy.little n x)
  | 0, _ => fun _ h => nomatch h
  | n + 1, x => by
    intro k hk
    rcases List.mem_cons.mp hk with rfl | hk
    · omega
    · exact little_oct n _ k hk
theorem little_value : ∀ (n : Nat) (x : Int), 0 ≤ x → x < 256 ^ n → KFB.value (KTBy.little n x).reverse = x
  | 0, x, h0, h1 => by
    have : x = 0 := by rw [Int.pow_zero] at h1; omega
    subst this
    rfl
  | n + 1, x, h0, h1 => by
    show KFB.value (x % 256 :: KTBy.little n (x / 256)).reverse = x
    rw [Int.pow_succ] at h1
    rw [List.reverse_cons, value_snoc, little_value n (x / 256) (by omega) (by omega)]
    omega
theorem octs0_row {n : Int} (h : 0 < n) : Row (octs0 n) ∧ KFB.value (octs0 n) = n := by
  have hlt := lt_nb (Int.le_of_lt h) (Nat.le_refl (Mine.nb n))
  have hval : KFB.value (octs0 n) = n := little_value _ n (Int.le_of_lt h) hlt
  have hoct : Oct (octs0 n) := fun k hk => little_oct _ _ k (List.mem_reverse.mp hk)
  refine ⟨⟨hoct, ?_⟩, hval⟩
  have hlen : (octs0 n).length = Mine.nb n := by unfold octs0; rw [List.length_reverse, KTBy.little_length]
  cases hX : octs0 n with
  | nil =>
    rw [hX] at hlen
    exact absurd hlen.symm (nb_pos h)
  | cons c r =>
    refine ⟨c, r, rfl, fun q => ?_⟩
    subst q
    rw [hX] at hval hoct hlen
    rw [value_cons, Int.zero_mul, Int.zero_add] at hval
    have h1 := value_lt (ks := r) fun k hk => hoct k (.tail _ hk)
    rw [hval, pow256] at h1
    have h2 : intBits n ≤ 8 * r.length := intBits_le_iff.mpr (by omega)
    rw [List.length_cons] at hlen
    unfold Mine.nb at hlen
    omega
theorem enc_row {X : List Int} (h : Row X) (z : Nat) : encS (List.replicate z 0 ++ X) = List.replicate z 49 ++ E58 (KFB.value X).toNat := by
  have hv : KFB.value (List.replicate z 0 ++ X) = KFB.value X := by rw [value_app, value_zeros, Int.zero_mul, Int.zero_add]
  have hl : lead 0 (List.replicate z 0 ++ X) = z := by
    obtain ⟨c, r, e, hc⟩ := h.head
    rw [e, lead_stop (fun x hx => (List.mem_replicate.mp hx).2) hc, List.length_replicate]
  unfold encS
  rw [hv, hl]
/-- M4: what is written is read -/
theorem round_row {X : List Int} (h : Row X) (z : Nat) : decS (encS (List.replicate z 0 ++ X)) = List.replicate z 0 ++ X := by
  have hp := h.pos
  obtain ⟨h1, h2⟩ := E58_num (n := (KFB.value X).toNat) (by omega)
  rw [enc_row h, dec_text h1, h2, Int.toNat_of_nonneg (Int.le_of_lt hp), h.back]
theorem num_enc {X : List Int} (h : Row X) : Num (E58 (KFB.value X).toNat) := (E58_num (by have := h.pos; omega)).1
theorem isFig49 : isFig 49 := isFig_fig (d := 0) (by decide)
theorem enc_figs {X : List Int} (h : Row X) (z : Nat) : ∀ c ∈ encS (List.replicate z 0 ++ X), isFig c := by
  rw [enc_row h]
  intro c hc
  rcases List.mem_append.mp hc with hc | hc
  · rw [(List.mem_replicate.mp hc).2]; exact isFig49
  · exact (num_enc h).figs c hc
theorem E58_len : ∀ (k n : Nat), n < 2 ^ k → (E58 n).length ≤ k
  | 0, n, h => by
    have : n = 0 := by omega
    subst this
    simp [E58_zero]
  | k + 1, n, h => by
    by_cases hn : n = 0
    · subst hn; simp [E58_zero]
    · rw [E58_pos hn, List.length_append, List.length_singleton]
      have h2 : n / 58 < 2 ^ k := by rw [Nat.pow_succ] at h; omega
      have := E58_len k _ h2
      omega
theorem enc_len {X : List Int} (h : Row X) (z : Nat) : 1 ≤ (encS (List.replicate z 0 ++ X)).length ∧ (encS (List.replicate z 0 ++ X)).length ≤ z + 8 * X.length := by
  rw [enc_row h, List.length_append, List.length_replicate]
  have h1 := value_lt h.oct
  rw [pow256] at h1
  have h2 := E58_len (8 * X.length) (KFB.value X).toNat (by have := h.pos; omega)
  obtain ⟨c, r, e, _⟩ := (num_enc h).head
  have h3 : 1 ≤ (E58 (KFB.value X).toNat).length := by rw [e]; simp
  omega
theorem row_app {X c : List Int} (h : Row X) (hc : Oct c) : Row (X ++ c) := by
  refine ⟨fun k hk => ?_, ?_⟩
  · rcases List.mem_append.mp hk with hk | hk
    · exact h.oct k hk
    · exact hc k hk
  · obtain ⟨a, r, e, ha⟩ := h.head
    exact ⟨a, r ++ c, by rw [e]; rfl, ha⟩

def signsOf (ps : List (Int × Int)) : List Int := (ps.map fun p => List.replicate p.2.toNat (fig p.1.toNat)).flatten
theorem signs_cons (p : Int × Int) (r : List (Int × Int)) : signsOf (p :: r) = List.replicate p.2.toNat (fig p.1.toNat) ++ signsOf r := rfl
theorem signs_len : ∀ {ps : List (Int × Int)}, (∀ p ∈ ps, 1 ≤ p.2 ∧ p.2 ≤ 150) → ((signsOf ps).length : Int) = total ps
  | [], _ => rfl
  | p :: r, h => by
    have h1 := signs_len (ps := r) fun q hq => h q (.tail _ hq)
    have h2 := h p (.head _)
    have e : total (p :: r) = p.2 + total r := by simp [total]
    rw [signs_cons, List.length_append, List.length_replicate, e]
    omega
theorem signs_num {ps : List (Int × Int)} (G : Good ps) (hne : ps ≠ []) : Num (signsOf ps) := by
  refine ⟨fun c hc => ?_, ?_⟩
  · unfold signsOf at hc
    obtain ⟨l, hl, hc⟩ := List.mem_flatten.mp hc
    obtain ⟨p, hp, rfl⟩ := List.mem_map.mp hl
    rw [(List.mem_replicate.mp hc).2]
    have := G.fig p hp
    exact isFig_fig (by omega)
  · cases ps with
    | nil => exact absurd rfl hne
    | cons p r =>
      have h1 := G.fig p (.head _)
      have h2 := G.size p (.head _)
      have h3 := G.head p r rfl
      obtain ⟨k, hk⟩ : ∃ k, p.2.toNat = k + 1 := ⟨p.2.toNat - 1, by omega⟩
      refine ⟨fig p.1.toNat, List.replicate k (fig p.1.toNat) ++ signsOf r, by rw [signs_cons, hk]; rfl, fun q => ?_⟩
      have := fig_one p.1.toNat (by omega) q
      omega
theorem rep57 {d : Nat} (hd : d < 58) : ∀ n : Nat, 57 * valC (List.replicate n (fig d)) = d * ((58 : Int) ^ n - 1)
  | 0 => by simp [valC]
  | n + 1 => by
    have ih := rep57 hd n
    rw [List.replicate_succ', valC_snoc, dig_fig d hd, Int.pow_succ]
    generalize valC (List.replicate n (fig d)) = v at ih ⊢
    generalize (58 : Int) ^ n = x at ih ⊢
    rw [Int.mul_sub, Int.mul_one] at ih ⊢
    rw [show (d : Int) * (x * 58) = (d : Int) * x * 58 by rw [Int.mul_assoc]]
    generalize (d : Int) * x = y at ih ⊢
    omega
theorem rep_val {d : Nat} (hd : d < 58) (n : Nat) : valC (List.replicate n (fig d)) = d * ((58 : Int) ^ n - 1).fdiv 57 := by
  have h1 := rep57 (d := 1) (by decide) n
  have h2 := rep57 hd n
  have e : ((58 : Int) ^ n - 1).fdiv 57 = valC (List.replicate n (fig 1)) := by
    rw [Int.fdiv_eq_ediv_of_nonneg _ (by decide)]
    omega
  rw [e]
  have e2 : (58 : Int) ^ n - 1 = 57 * valC (List.replicate n (fig 1)) := by omega
  rw [e2, ← Int.mul_assoc, Int.mul_comm (d : Int) 57, Int.mul_assoc] at h2
  omega
theorem worth_val : ∀ {ps : List (Int × Int)}, (∀ p ∈ ps, 0 ≤ p.1 ∧ p.1 < 58) → (∀ p ∈ ps, 1 ≤ p.2 ∧ p.2 ≤ 150) → (runW ps.reverse).1 = valC (signsOf ps)
  | [], _, _ => rfl
  | p :: r, hf, hs => by
    have ih := worth_val (ps := r) (fun q hq => hf q (.tail _ hq)) fun q hq => hs q (.tail _ hq)
    have h1 := hf p (.head _)
    have hl := signs_len (ps := r) fun q hq => hs q (.tail _ hq)
    have e : (runW r.reverse).2.toNat = (signsOf r).length := by rw [runW_place, total_rev]; omega
    have ed : ((p.1.toNat : Nat) : Int) = p.1 := Int.toNat_of_nonneg h1.1
    rw [List.reverse_cons, runW_snoc, signs_cons, valC_app, rep_val (by omega), ed]
    show (runW r.reverse).1 + p.1 * ((58 : Int) ^ p.2.toNat - 1).fdiv 57 * (58 : Int) ^ (runW r.reverse).2.toNat = _
    rw [ih, e]
    omega
/-- a figure changed -/
theorem val_turn {a b : List Int} {c c' : Int} : valC (a ++ c' :: b) = valC (a ++ c :: b) + (dig c' - dig c) * 58 ^ b.length := by
  rw [valC_app, valC_app, valC_cons, valC_cons, Int.sub_mul]
  have e : ∀ x : Int, (c' :: b).length = b.length + 1 := fun _ => rfl
  simp only [List.length_cons]
  omega
theorem num_turn {a b : List Int} {c c' : Int} (h : Num (a ++ c :: b)) (ha : a ≠ []) (hc : isFig c') : Num (a ++ c' :: b) := by
  refine ⟨fun x hx => ?_, ?_⟩
  · rcases List.mem_append.mp hx with hx | hx
    · exact h.figs x (List.mem_append_left _ hx)
    · rcases List.mem_cons.mp hx with rfl | hx
      · exact hc
      · exact h.figs x (List.mem_append_right _ (.tail _ hx))
  · cases a with
    | nil => exact absurd rfl ha
    | cons q qs =>
      obtain ⟨x, r, e, hx⟩ := h.head
      rw [List.cons_append] at e
      exact ⟨q, qs ++ c' :: b, rfl, by rw [(List.cons.inj e).1]; exact hx⟩
end Mine

namespace Mine
open PySem PySem.W PySem.Calls PyProof.Rows PySem.Spec PyProof.V PyProof

theorem codes_inj {x y : Str} (h : KStt.codes x = KStt.codes y) : x = y := by rw [← KStt.txt_codes x, h, KStt.txt_codes]
theorem codes_one (n : Nat) : KStt.codes ⟨#[n]⟩ = [(n : Int)] := rfl
theorem item_one {d : Int} (h0 : 0 ≤ d) (h1 : d < 58) : Txt.item FIG d = ⟨#[figs.getD d.toNat 0]⟩ := by
  have h := item_fig d.toNat (by omega)
  rw [Int.toNat_of_nonneg h0] at h
  exact Str.ext' h
theorem codes_itemI {d : Int} (h0 : 0 ≤ d) (h1 : d < 58) : KStt.codes (Txt.item FIG d) = [fig d.toNat] := by
  rw [item_one h0 h1]; rfl
section
variable {prog : Program} {w : World} {A : Around} {E : Value → Shared → Prop} {s : Shared} {h₀ : Heap} {L l : Addr} {m : Str → Option Value} {news : List (Addr × Obj)} {value slice : PySem.Expr} {x y : Str} {t u : Tok} {S : List Int} {i : Int} {Q : Value → Shared → Prop} {p : Int}
theorem len_codes (hx : KStt.codes x = S) (hS : S.length ≤ 1000000) (h : ∀ t k, Q (.int (S.length : Int) t) { s with toks := k }) : wpAny (model prog w) A (call (.builtin "len") [.str x t]) Q E s := by
  have e : x.length = S.length := by rw [← KStt.codes_length, hx]
  exact len_str (by rw [e]; omega) (by rw [e]; exact h _ _)
theorem ne_text (hx : KStt.codes x = S) (hy : KStt.codes y = S) (h : Q (.bool false) s) : wpAny (model prog w) A (compareOp .NotEq (.str x t) (.str y u)) Q E s := by
  have e := codes_inj (hx.trans hy.symm)
  subst e
  exact PyProof.Rows.ne_str (by rw [bne_self_eq_false]; exact h)
theorem getD_codes (i : Nat) : (KStt.codes x).getD i 0 = ((x.cps.toList.getD i 0 : Nat) : Int) := by
  unfold KStt.codes
  rw [List.getD_eq_getElem?_getD, List.getD_eq_getElem?_getD, List.getElem?_map]
  cases x.cps.toList[i]? <;> rfl
theorem item_codes (hx : KStt.codes x = S) (h0 : 0 ≤ i) (h1 : i < S.length) (hS : S.length ≤ 1000000) (hf : ∀ c ∈ S, isFig c)
    (h : ∀ (n : Nat) t' k, (n : Int) = S.getD i.toNat 0 → isFig (n : Int) → Q (.str ⟨#[n]⟩ t') { s with toks := k })
    (hs : subscripted slice false (.str x t) (.int i u) = operate [.str x t, .int i u] (getItem (.str x t) (.int i u)) := by with_unfolding_all rfl)
    (ht : ∀ r, letTemporaryGo value (.str x t) r = pure () := by intro _; with_unfolding_all rfl) :
    wpAny (model prog w) A (subscriptTail value slice (.str x t) (.int i u)) Q E s := by
  have e : x.length = S.length := by rw [← KStt.codes_length, hx]
  refine item_str (fitsSsize_of (N := 9223372036854775808) (by omega) (by omega) (Int.le_refl _)) (by omega) (by omega) (fun _ => ?_) hs ht
  have e2 : Txt.item x i = ⟨#[x.cps.toList.getD i.toNat 0]⟩ := by
    have hlt : i.toNat < x.cps.size := by have : x.cps.size = x.length := rfl; omega
    unfold Txt.item Txt.charAt
    have hidx : seqIndex? i x.length = some i.toNat := by
      have h2 : 0 ≤ i := h0
      have h3 : i < (x.length : Int) := by omega
      simp [seqIndex?, h3]
      omega
    rw [hidx]
    simp [hlt]
  rw [e2]
  have e3 : ((x.cps.toList.getD i.toNat 0 : Nat) : Int) = S.getD i.toNat 0 := by rw [← getD_codes, hx]
  refine h _ _ _ e3 ?_
  rw [e3]
  have hlt : i.toNat < S.length := by omega
  rw [List.getD_eq_getElem?_getD, List.getElem?_eq_getElem hlt]
  exact hf _ (List.getElem_mem hlt)
theorem slice_to (hF : Fr h₀ L s.heap m) (hN : News h₀ L s.heap news) {uj : Tok} (hx : KStt.codes x = S) (h0 : 0 ≤ i) (h1 : i ≤ S.length) (hS : S.length ≤ 1000000)
    (h : ∀ z h' t' k, Fr h₀ L h' m → News h₀ L h' news → KStt.codes z = S.take i.toNat → Q (.str z t') { s with heap := h', toks := k })
    (hs : subscripted slice false (.str x t) (.ref s.heap.objs.size) = operate [.ref s.heap.objs.size, .str x t] (getItem (.str x t) (.ref s.heap.objs.size)) := by with_unfolding_all rfl)
    (ht : ∀ r, letTemporaryGo value (.str x t) r = pure () := by intro _; with_unfolding_all rfl) :
    wpAny (model prog w) A (subscriptTail value slice (.str x t) (.ref s.heap.objs.size)) Q E { s with heap := s.heap.push { cls := .type "slice", data := .fields #[.none, .int i uj, .none] } } := by
  have e : x.length = S.length := by rw [← KStt.codes_length, hx]
  have e2 : Txt.slice x none (some i) = _ := eq_of_beq (slice_closes_toL (x := x) h0 (by omega))
  refine slice_strN_ns hF hN (fun h' t' k F' N' => h _ h' t' k F' N' ?_) hs ht (by rw [sizeLine_eq]; omega)
  rw [e2, ← hx]
  simp [KStt.codes]
theorem slice_from (hF : Fr h₀ L s.heap m) (hN : News h₀ L s.heap news) {ui : Tok} (hx : KStt.codes x = S) (h0 : 0 ≤ i) (h1 : i ≤ S.length) (hS : S.length ≤ 1000000)
    (h : ∀ z h' t' k, Fr h₀ L h' m → News h₀ L h' news → KStt.codes z = S.drop i.toNat → Q (.str z t') { s with heap := h', toks := k })
    (hs : subscripted slice false (.str x t) (.ref s.heap.objs.size) = operate [.ref s.heap.objs.size, .str x t] (getItem (.str x t) (.ref s.heap.objs.size)) := by with_unfolding_all rfl)
    (ht : ∀ r, letTemporaryGo value (.str x t) r = pure () := by intro _; with_unfolding_all rfl) :
    wpAny (model prog w) A (subscriptTail value slice (.str x t) (.ref s.heap.objs.size)) Q E { s with heap := s.heap.push { cls := .type "slice", data := .fields #[.int i ui, .none, .none] } } := by
  have e : x.length = S.length := by rw [← KStt.codes_length, hx]
  have e2 : Txt.slice x (some i) none = _ := eq_of_beq (slice_closes_fromL (x := x) (b := (x.length : Int)) h0 (by omega) rfl)
  refine slice_strN_sn hF hN (fun h' t' k F' N' => h _ h' t' k F' N' ?_) hs ht (by rw [sizeLine_eq]; omega)
  rw [e2, ← hx]
  have hlen : x.cps.toList.length = x.length := by simp [Str.length]
  show (List.map _ (List.take ((x.length : Int) - i).toNat (List.drop i.toNat x.cps.toList)).toArray.toList) = _
  rw [List.take_of_length_le (by rw [List.length_drop]; omega)]
  simp [KStt.codes]
theorem mul_one (hp0 : 0 ≤ p) (hp : p ≤ 100000) (h : ∀ y t' k, KStt.codes y = List.replicate p.toNat 49 → Q (.str y t') { s with toks := k }) :
    wpAny (model prog w) A (binaryOp .Mult (.str (Str.ofString "1") t) (.int p u)) Q E s := by
  rw [show Str.ofString "1" = ⟨#[49]⟩ by decide +kernel]
  exact mul_codes hp0 hp h
theorem mul_figN {d : Int} (hd0 : 0 ≤ d) (hd1 : d < 58) (hp0 : 0 ≤ p) (hp : p ≤ 100000) (h : ∀ y t' k, KStt.codes y = List.replicate p.toNat (fig d.toNat) → Q (.str y t') { s with toks := k }) :
    wpAny (model prog w) A (binaryOp .Mult (.str (Txt.item FIG d) t) (.int p u)) Q E s := by
  rw [item_one hd0 hd1]
  exact mul_codes hp0 hp h
theorem sum_lens : ∀ {xs : List Str}, (xs.map (·.length)).sum = ((xs.map KStt.codes).flatten).length
  | [] => rfl
  | y :: r => by
    have e : y.length = (KStt.codes y).length := (KStt.codes_length y).symm
    rw [List.map_cons, List.sum_cons, sum_lens (xs := r), List.map_cons, List.flatten_cons, List.length_append, e]
theorem join_runs (N' : News h₀ L s.heap news) {vs : List Value} {xs : List Str} {ps : List (Int × Int)} {c : Nat} (hm : (l, W.listOf vs.toArray c) ∈ news) (hi : StrsAre vs xs) (hc : xs.map KStt.codes = ps.map fun p => List.replicate p.2.toNat (fig p.1.toNat))
    (hl : ps.length ≤ 1000) (hS : (signsOf ps).length ≤ 400) (h : ∀ x t' k', KStt.codes x = signsOf ps → Q (.str x t') { s with toks := k' }) :
    wpAny (model prog w) A (call (.builtin "str.join") [.str (Str.ofString "") t, .ref l]) Q E s := by
  have e : (xs.map KStt.codes).flatten = signsOf ps := by rw [hc]; rfl
  have hx : xs.length = ps.length := by have := congrArg List.length hc; simpa using this
  have hj : KStt.codes (Txt.join (Str.ofString "") xs) = signsOf ps := by
    show KStt.codes (Builtin.Str.glued _ _) = _
    rw [StrLaws.glued_eq_join, codes_join, e]
  exact join_listC (News.isList N' hm) (by simpa using hi) (by decide +kernel) (by rw [sum_lens, e]; omega) fun t' k' => h _ t' k' hj
end
section
open LCg LCp
variable {prog : Program} {w : World} {A : Around} {s : Shared} {h₀ : Heap} {L : Addr} {m : Str → Option Value} {env : Env} {elt : Expr} {x x₂ : Str} {scope : Scope} {cl : List (Str × Addr)} {S : List (Addr × Obj) → Prop} {Fin : List Value → List (Addr × Obj) → Prop} {news tl : List (Addr × Obj)}
def TextEnd (h₀ : Heap) (L : Addr) (m : Str → Option Value) (s₁ : Shared) (led : List (Addr × Obj)) (cs : List Int) (y : Value) (s₂ : Shared) : Prop :=
  ∃ z t h' tk', y = .str z t ∧ KStt.codes z = cs ∧ s₂ = { s₁ with heap := h', toks := tk' } ∧ Fr h₀ L h' m ∧ News h₀ L h' led
theorem text_end {led : List (Addr × Obj)} {cs : List Int} {z : Str} {t : Tok} {h' : Heap} {tk' : Nat} {s₁ : Shared} (hz : KStt.codes z = cs) (F : Fr h₀ L h' m) (N : News h₀ L h' led) : TextEnd h₀ L m s₁ led cs (.str z t) { s₁ with heap := h', toks := tk' } := ⟨z, t, h', tk', rfl, hz, rfl, F, N⟩
theorem pairs_rest {vs : List Value} {ps : List (Int × Int)} (hD : DatAll tl vs (ps.map runDat)) (hs : ∀ q ∈ tl, q ∈ news) (hS : S news)
    (turn : ∀ f sz tf ts I oI C oC D m₂ ys h tk (E' : Value → Shared → Prop), (f, sz) ∈ ps → NsObj oC m₂ → m₂ x = some (.int f tf) → m₂ x₂ = some (.int sz ts) → Fr h₀ L h m → News h₀ L h ((I, oI) :: (C, oC) :: (D, LCg.lst ys) :: news) → ((@Ne Nat I C) ∧ (@Ne Nat I D) ∧ (@Ne Nat C D)) →
      wpAny (model prog w) A (eval elt (compEnvC scope cl C env)) (TextEnd h₀ L m { s with heap := h, toks := tk } ((I, oI) :: (C, oC) :: (D, LCg.lst ys) :: news) (List.replicate sz.toNat (fig f.toNat))) E' { s with heap := h, toks := tk })
    (fin : ∀ ys xs, StrsAre ys xs → xs.map KStt.codes = ps.map (fun p => List.replicate p.2.toNat (fig p.1.toNat)) → Fin ys news) :
    CompRestP prog w A h₀ L m env elt x x₂ scope cl s S (fun i v => vs.toArray[i]? = some v) Fin vs.toArray.size 0 [] news := by
  have hlen : vs.toArray.size = ps.length := by rw [List.size_toArray, hD.length, List.length_map]
  have key : ∀ (j i : Nat) (ys : List Value) (xs : List Str), i + j = ps.length → StrsAre ys xs → xs.map KStt.codes = (ps.take i).map (fun p => List.replicate p.2.toNat (fig p.1.toNat)) →
      CompRestP prog w A h₀ L m env elt x x₂ scope cl s S (fun i v => vs.toArray[i]? = some v) Fin j i ys news := by
    intro j
    induction j with
    | zero =>
      intro i ys xs hi hy hx
      have e : i = ps.length := by omega
      subst e
      rw [List.take_length] at hx
      exact CompRestP.zero (fin ys xs hy hx)
    | succ j ih =>
      intro i ys xs hi hy hx
      refine CompRestP.succ fun v hv => ?_
      obtain ⟨v', hv', hd⟩ := hD.get (k := i) (by rw [List.length_map]; omega)
      have hv2 : vs[i]? = some v := by simpa using hv
      rw [hv'] at hv2
      cases hv2
      rw [List.getElem_map] at hd
      have hi' : i < ps.length := by omega
      have htake : ps.take (i + 1) = ps.take i ++ [ps[i]] := by rw [List.take_add_one, List.getElem?_eq_getElem hi']; rfl
      have hmem : ps[i] ∈ ps := List.getElem_mem hi'
      generalize ps[i] = fp at hd htake hmem
      obtain ⟨f, sz⟩ := fp
      cases hd with
      | tuple hmt hda =>
        cases hda with
        | cons hf hr =>
          cases hf with
          | int _ tf =>
            cases hr with
            | cons hsz hnil =>
              cases hsz with
              | int _ ts =>
                cases hnil
                refine ⟨_, _, _, _, _, rfl, hs _ hmt, rfl, rfl, ?_⟩
                intro I oI C oC D m₂ h tk E' hC h1 h2 F N off ne
                refine wpAny_mono (turn f sz tf ts I oI C oC D m₂ ys h tk E' hmem hC h1 h2 F N ne) (fun y s₂ hq => ?_) fun _ _ e => e
                obtain ⟨z, t, h', tk', rfl, hz, rfl, F', N'⟩ := hq
                refine ⟨h', tk', news, rfl, F', N', off, hS, ?_⟩
                refine ih (i + 1) _ (xs ++ [z]) (by omega) (StrsAre.append' hy (.cons _ _ .nil)) ?_
                rw [htake, List.map_append, List.map_append, hx]
                simp [hz]
  rw [hlen]
  exact key ps.length 0 [] [] (by omega) .nil rfl
end
theorem runs_count {ps : List (Int × Int)} (G : Good ps) (ht : total ps ≤ 400) : ps.length ≤ 1000 := by
  have := good_len G.size
  omega
theorem runs_size {tl : List (Addr × Obj)} {vs : List Value} {ps : List (Int × Int)} (hD : DatAll tl vs (ps.map runDat)) (G : Good ps) (ht : total ps ≤ 400) : vs.toArray.size ≤ sizeLine := by
  have := runs_count G ht
  rw [List.size_toArray, hD.length, List.length_map, sizeLine_eq]
  omega
theorem signs_le {ps : List (Int × Int)} (G : Good ps) (ht : total ps ≤ 400) : (signsOf ps).length ≤ 400 := by
  have := signs_len G.size
  omega
end Mine

namespace Mine
open PySem PySem.W PySem.Calls PyProof.Rows PySem.Spec PyProof.V PyProof

theorem worth_told {v : Value} {ps : List (Int × Int)} (h : ∃ t, v = .int (runW ps.reverse).1 t) (G : Good ps) : ∃ t, v = .int (valC (signsOf ps)) t := by
  rw [← worth_val G.fig G.size]
  exact h
section
variable {prog : Program} {w : World} {A : Around} {E : Value → Shared → Prop} {s : Shared} {value slice : PySem.Expr} {t u : Tok} {d : Int} {Q : Value → Shared → Prop}
theorem fig_item (h0 : 0 ≤ d) (h1 : d < 58) (h : ∀ t' k, Q (.str (Txt.item FIG d) t') { s with toks := k })
    (hs : subscripted slice false (.str FIG t) (.int d u) = operate [.str FIG t, .int d u] (getItem (.str FIG t) (.int d u)) := by with_unfolding_all rfl)
    (ht : ∀ r, letTemporaryGo value (.str FIG t) r = pure () := by intro _; with_unfolding_all rfl) :
    wpAny (model prog w) A (subscriptTail value slice (.str FIG t) (.int d u)) Q E s := by
  have hl : FIG.length = 58 := by decide +kernel
  exact item_str (fitsSsize_of (N := 9223372036854775808) (by omega) (by omega) (Int.le_refl _)) (by rw [hl]; omega) (by rw [hl]; omega) (fun _ => h _ _) hs ht
theorem fig_run {ps : List (Int × Int)} {sz : Int} (hm : (d, sz) ∈ ps) (G : Good ps) (h : ∀ t' k, Q (.str (Txt.item FIG d) t') { s with toks := k })
    (hs : subscripted slice false (.str FIG t) (.int d u) = operate [.str FIG t, .int d u] (getItem (.str FIG t) (.int d u)) := by with_unfolding_all rfl)
    (ht : ∀ r, letTemporaryGo value (.str FIG t) r = pure () := by intro _; with_unfolding_all rfl) :
    wpAny (model prog w) A (subscriptTail value slice (.str FIG t) (.int d u)) Q E s := fig_item (G.fig _ hm).1 (G.fig _ hm).2 h hs ht
theorem mul_run {ps : List (Int × Int)} {sz : Int} (hm : (d, sz) ∈ ps) (G : Good ps) (h : ∀ y t' k, KStt.codes y = List.replicate sz.toNat (fig d.toNat) → Q (.str y t') { s with toks := k }) :
    wpAny (model prog w) A (binaryOp .Mult (.str (Txt.item FIG d) t) (.int sz u)) Q E s :=
  mul_figN (G.fig _ hm).1 (G.fig _ hm).2 (Int.le_trans (by decide) (G.size _ hm).1) (Int.le_trans (G.size _ hm).2 (by decide)) h
end
/-- a text that decode reads, and what it reads -/
structure TextOk (x : Str) (B : List Int) : Prop where
  ne : 1 ≤ x.length
  len : x.length ≤ 5000
  figs : ∀ c ∈ KStt.codes x, isFig c
  dec : decS (KStt.codes x) = B
theorem decode_of {w : World} {p : Program} {loose : List Str} {mean : ExcName → Option Value} {mg mb : Str → Option Value} {x : Str} {B : List Int} (t : Tok) (ok : TextOk x B) :
    StayC 400 PySem.Challenge.rw_bv5018_01.row.prog w (hd.heap_39 w.params) p loose mean mg mb 103 [.str x t] (fun _ => True) (fun _ _ _ v => ∃ b t, v = .bytes b t ∧ KBw.bInts b = B) := by
  rw [← ok.dec]
  exact decode_c x t ok.ne ok.len ok.figs
theorem decode_check_of {w : World} {p : Program} {loose : List Str} {mean : ExcName → Option Value} {mg mb : Str → Option Value} {x : Str} {row : List Int} (t : Tok) (ok : TextOk x (row ++ (dsha row).take 4)) (hl : row.length ≤ 4000) :
    StayC 350 PySem.Challenge.rw_bv5018_01.row.prog w (hd.heap_39 w.params) p loose mean mg mb 117 [.str x t] (fun _ => True) (fun _ _ _ v => ∃ b t, v = .bytes b t ∧ KBw.bInts b = row) :=
  decode_check_c x t row ok.ne ok.len ok.figs ok.dec hl
theorem fmod41 (a : Int) : 0 ≤ a.fmod 41 ∧ a.fmod 41 ≤ 40 := by
  have h0 := Int.fmod_nonneg_of_pos a (show (0 : Int) < 41 by decide)
  have h1 := Int.fmod_lt_of_pos a (show (0 : Int) < 41 by decide)
  omega
theorem textOk_num {x : Str} {S : List Int} {a : Int} (hx : KStt.codes x = List.replicate (a.fmod 41).toNat 49 ++ S) (h : Num S) (hS : S.length ≤ 400) : TextOk x (List.replicate (a.fmod 41).toNat 0 ++ octs0 (valC S)) := by
  have hz := fmod41 a
  have hl : x.length = (a.fmod 41).toNat + S.length := by rw [← KStt.codes_length, hx, List.length_append, List.length_replicate]
  obtain ⟨c, r, e, _⟩ := h.head
  have h1 : 1 ≤ S.length := by rw [e]; simp
  refine ⟨by omega, by omega, fun c hc => ?_, by rw [hx]; exact dec_text h _⟩
  rw [hx] at hc
  rcases List.mem_append.mp hc with hc | hc
  · rw [(List.mem_replicate.mp hc).2]; exact isFig49
  · exact h.figs c hc
theorem nb_signs {S : List Int} (hS : S.length ≤ 400) : nb (valC S) ≤ 1000 := by
  have := valC_nb S
  omega
theorem octs0_len (n : Int) : (octs0 n).length = nb n := by unfold octs0; rw [List.length_reverse, KTBy.little_length]
theorem row_len {S : List Int} {a : Int} (hS : S.length ≤ 400) : (List.replicate (a.fmod 41).toNat (0 : Int) ++ octs0 (valC S)).length ≤ 500 := by
  have hz := fmod41 a
  have := valC_nb S
  rw [List.length_append, List.length_replicate, octs0_len]
  omega
theorem enc_told {S : List Int} (h : Num S) (z : Nat) : encS (List.replicate z 0 ++ octs0 (valC S)) = List.replicate z 49 ++ S := by
  obtain ⟨h1, h2⟩ := octs0_row h.pos
  rw [enc_row h1, h2, E58_val h]
theorem oct_dsha (ks : List Int) : Oct ((dsha ks).take 4) := by
  intro k hk
  have h := List.mem_of_mem_take hk
  unfold dsha sha at h
  generalize shaN (KTBy.little 32 (shaN ks)).reverse = x at h
  exact little_oct 32 x k (List.mem_reverse.mp h)
theorem textOk_written {x : Str} {S : List Int} {a : Int} (h : Num S) (hS : S.length ≤ 400)
    (hx : KStt.codes x = encS ((List.replicate (a.fmod 41).toNat 0 ++ octs0 (valC S)) ++ (dsha (List.replicate (a.fmod 41).toNat 0 ++ octs0 (valC S))).take 4)) :
    TextOk x ((List.replicate (a.fmod 41).toNat 0 ++ octs0 (valC S)) ++ (dsha (List.replicate (a.fmod 41).toNat 0 ++ octs0 (valC S))).take 4) := by
  have hz := fmod41 a
  have hn := valC_nb S
  generalize hd : (dsha (List.replicate (a.fmod 41).toNat 0 ++ octs0 (valC S))).take 4 = c at hx ⊢
  have hc : Oct c := by rw [← hd]; exact oct_dsha _
  have hcl : c.length ≤ 4 := by rw [← hd]; exact List.length_take_le _ _
  have hr := row_app (octs0_row h.pos).1 hc
  rw [List.append_assoc] at hx ⊢
  have hl := enc_len hr (a.fmod 41).toNat
  have hxl : x.length = (encS (List.replicate (a.fmod 41).toNat 0 ++ (octs0 (valC S) ++ c))).length := by rw [← KStt.codes_length, hx]
  rw [List.length_append, octs0_len] at hl
  exact ⟨by omega, by omega, by rw [hx]; exact enc_figs hr _, by rw [hx]; exact round_row hr _⟩
/-- the place of the change -/
structure Spot (S : List Int) (sp new : Int) : Prop where
  lo : 0 ≤ sp
  hi : sp < (S.length : Int) - 1
  nlo : 0 ≤ new
  nhi : new < 58
abbrev turnS (S : List Int) (sp new : Int) : List Int := (S.take ((S.length : Int) - 1 - sp).toNat ++ [fig new.toNat]) ++ S.drop ((S.length : Int) - sp).toNat
theorem turn_all {S : List Int} {sp new : Int} (h : Num S) (P : Spot S sp new) :
    Num (turnS S sp new) ∧ (turnS S sp new).length = S.length ∧ valC S + (new - dig (S.getD ((S.length : Int) - 1 - sp).toNat 0)) * 58 ^ sp.toNat = valC (turnS S sp new) := by
  obtain ⟨h0, h1, h2, h3⟩ := P
  generalize hi : ((S.length : Int) - 1 - sp).toNat = i
  have hi2 : ((S.length : Int) - sp).toNat = i + 1 := by omega
  have hlt : i < S.length := by omega
  have hsplit : S = S.take i ++ S[i] :: S.drop (i + 1) := by simp
  have hget : S.getD i 0 = S[i] := by rw [List.getD_eq_getElem?_getD, List.getElem?_eq_getElem hlt]; rfl
  have hdl : (S.drop (i + 1)).length = sp.toNat := by rw [List.length_drop]; omega
  have hne : S.take i ≠ [] := by
    intro q
    have := congrArg List.length q
    rw [List.length_take, List.length_nil] at this
    omega
  unfold turnS
  rw [hi, hi2, List.append_assoc, List.singleton_append, hget]
  generalize S[i] = c at hsplit
  have hN : Num (S.take i ++ c :: S.drop (i + 1)) := by rw [← hsplit]; exact h
  refine ⟨num_turn hN hne (isFig_fig (by omega)), ?_, ?_⟩
  · rw [List.length_append, List.length_cons, List.length_take, List.length_drop]
    omega
  · have hv := val_turn (a := S.take i) (b := S.drop (i + 1)) (c := c) (c' := fig new.toNat)
    rw [hv, ← hsplit, hdl, dig_fig _ (by omega), Int.toNat_of_nonneg h2]
theorem spot_ok {S : List Int} {a b : Int} (h : (S.length : Int) > 1) : Spot S (a.fmod ((S.length : Int) - 1)) (b.fmod 58) := by
  have h0 := Int.fmod_nonneg_of_pos a (show (0 : Int) < (S.length : Int) - 1 by omega)
  have h1 := Int.fmod_lt_of_pos a (show (0 : Int) < (S.length : Int) - 1 by omega)
  have h2 := Int.fmod_nonneg_of_pos b (show (0 : Int) < 58 by decide)
  have h3 := Int.fmod_lt_of_pos b (show (0 : Int) < 58 by decide)
  exact ⟨h0, h1, h2, h3⟩
section
variable {prog : Program} {w : World} {A : Around} {E : Value → Shared → Prop} {s : Shared} {h₀ : Heap} {L : Addr} {m : Str → Option Value} {news : List (Addr × Obj)} {value slice : PySem.Expr} {x : Str} {t u : Tok} {a b d : Int} {S : List Int} {Q : Value → Shared → Prop} {n : Nat} {c : Int}
theorem item_spot (hx : KStt.codes x = S) (h1 : 1 < (S.length : Int)) (hS : S.length ≤ 400) (hN : Num S)
    (h : ∀ (n : Nat) t' k, (n : Int) = S.getD ((S.length : Int) - 1 - a.fmod ((S.length : Int) - 1)).toNat 0 → isFig (n : Int) → Q (.str ⟨#[n]⟩ t') { s with toks := k })
    (hs : subscripted slice false (.str x t) (.int ((S.length : Int) - 1 - a.fmod ((S.length : Int) - 1)) u) = operate [.str x t, .int ((S.length : Int) - 1 - a.fmod ((S.length : Int) - 1)) u] (getItem (.str x t) (.int ((S.length : Int) - 1 - a.fmod ((S.length : Int) - 1)) u)) := by with_unfolding_all rfl)
    (ht : ∀ r, letTemporaryGo value (.str x t) r = pure () := by intro _; with_unfolding_all rfl) :
    wpAny (model prog w) A (subscriptTail value slice (.str x t) (.int ((S.length : Int) - 1 - a.fmod ((S.length : Int) - 1)) u)) Q E s := by
  have P := spot_ok (S := S) (a := a) (b := 0) h1
  have p0 := P.lo
  have p1 := P.hi
  exact item_codes hx (by omega) (by omega) (by omega) hN.figs h hs ht
theorem index_spot (hA : A.handled = none) (hn : (n : Int) = c) (hf : isFig (n : Int)) (h : ∀ t' k, Q (.int (dig c) t') { s with toks := k }) : wpAny (model prog w) A (call (.builtin "str.index") [.str FIG t, .str ⟨#[n]⟩ u]) Q E s := by
  subst hn
  exact index_fig hA hf (h _ _)
theorem fig_new (h : ∀ y t' k, KStt.codes y = [fig (b.fmod 58).toNat] → Q (.str y t') { s with toks := k })
    (hs : subscripted slice false (.str FIG t) (.int (b.fmod 58) u) = operate [.str FIG t, .int (b.fmod 58) u] (getItem (.str FIG t) (.int (b.fmod 58) u)) := by with_unfolding_all rfl)
    (ht : ∀ r, letTemporaryGo value (.str FIG t) r = pure () := by intro _; with_unfolding_all rfl) :
    wpAny (model prog w) A (subscriptTail value slice (.str FIG t) (.int (b.fmod 58) u)) Q E s :=
  fig_item (fig_bound b).1 (fig_bound b).2 (fun t' k => h _ t' k (codes_itemI (fig_bound b).1 (fig_bound b).2)) hs ht
theorem slice_spot1 (hF : Fr h₀ L s.heap m) (hN : News h₀ L s.heap news) {uj : Tok} (hx : KStt.codes x = S) (h1 : 1 < (S.length : Int)) (hS : S.length ≤ 400)
    (h : ∀ z h' t' k, Fr h₀ L h' m → News h₀ L h' news → KStt.codes z = S.take ((S.length : Int) - 1 - a.fmod ((S.length : Int) - 1)).toNat → Q (.str z t') { s with heap := h', toks := k })
    (hs : subscripted slice false (.str x t) (.ref s.heap.objs.size) = operate [.ref s.heap.objs.size, .str x t] (getItem (.str x t) (.ref s.heap.objs.size)) := by with_unfolding_all rfl)
    (ht : ∀ r, letTemporaryGo value (.str x t) r = pure () := by intro _; with_unfolding_all rfl) :
    wpAny (model prog w) A (subscriptTail value slice (.str x t) (.ref s.heap.objs.size)) Q E { s with heap := s.heap.push { cls := .type "slice", data := .fields #[.none, .int ((S.length : Int) - 1 - a.fmod ((S.length : Int) - 1)) uj, .none] } } := by
  have P := spot_ok (S := S) (a := a) (b := 0) h1
  have p0 := P.lo
  have p1 := P.hi
  exact slice_to hF hN hx (by omega) (by omega) (by omega) h hs ht
theorem slice_spot2 (hF : Fr h₀ L s.heap m) (hN : News h₀ L s.heap news) {ui : Tok} (hx : KStt.codes x = S) (h1 : 1 < (S.length : Int)) (hS : S.length ≤ 400)
    (h : ∀ z h' t' k, Fr h₀ L h' m → News h₀ L h' news → KStt.codes z = S.drop ((S.length : Int) - a.fmod ((S.length : Int) - 1)).toNat → Q (.str z t') { s with heap := h', toks := k })
    (hs : subscripted slice false (.str x t) (.ref s.heap.objs.size) = operate [.ref s.heap.objs.size, .str x t] (getItem (.str x t) (.ref s.heap.objs.size)) := by with_unfolding_all rfl)
    (ht : ∀ r, letTemporaryGo value (.str x t) r = pure () := by intro _; with_unfolding_all rfl) :
    wpAny (model prog w) A (subscriptTail value slice (.str x t) (.ref s.heap.objs.size)) Q E { s with heap := s.heap.push { cls := .type "slice", data := .fields #[.int ((S.length : Int) - a.fmod ((S.length : Int) - 1)) ui, .none, .none] } } := by
  have P := spot_ok (S := S) (a := a) (b := 0) h1
  have p0 := P.lo
  have p1 := P.hi
  exact slice_from hF hN hx (by omega) (by omega) (by omega) h hs ht
theorem pow_spot (h1 : 1 < (S.length : Int)) (hS : S.length ≤ 400) (h : ∀ t' k, Q (.int (58 ^ (a.fmod ((S.length : Int) - 1)).toNat) t') { s with toks := k }) : wpAny (model prog w) A (binaryOp .Pow (.int 58 t) (.int (a.fmod ((S.length : Int) - 1)) u)) Q E s := by
  have P := spot_ok (S := S) (a := a) (b := 0) h1
  have p0 := P.lo
  have p1 := P.hi
  exact pow58 p0 (by omega) h
theorem mul_spot {X : Int} (h : ∀ t' k, Q (.int ((b.fmod 58 - dig c) * X) t') { s with toks := k }) : wpAny (model prog w) A (binaryOp .Mult (.int (b.fmod 58 - dig c) t) (.int X u)) Q E s := by
  have h0 := fig_bound b
  have h1 := dig_le c
  exact mul_int (h _ _) (.of_left (intBits_le_64 (by omega) (by omega)))
theorem add_turn (hN : Num S) (h1 : 1 < (S.length : Int)) (h : ∀ t' k, Q (.int (valC (turnS S (a.fmod ((S.length : Int) - 1)) (b.fmod 58))) t') { s with toks := k }) :
    wpAny (model prog w) A (binaryOp .Add (.int (valC S) t) (.int ((b.fmod 58 - dig (S.getD ((S.length : Int) - 1 - a.fmod ((S.length : Int) - 1)).toNat 0)) * 58 ^ (a.fmod ((S.length : Int) - 1)).toNat) u)) Q E s := by
  have e := (turn_all hN (spot_ok (a := a) (b := b) h1)).2.2
  rw [← e] at h
  exact add_int (h _ _)
end
theorem turn_le {S : List Int} {a b : Int} (hN : Num S) (h1 : 1 < (S.length : Int)) (hS : S.length ≤ 400) : (turnS S (a.fmod ((S.length : Int) - 1)) (b.fmod 58)).length ≤ 400 := by
  rw [(turn_all hN (spot_ok h1)).2.1]
  exact hS
theorem textOk_turn {x : Str} {S : List Int} {a b c : Int} (hx : KStt.codes x = List.replicate (c.fmod 41).toNat 49 ++ turnS S (a.fmod ((S.length : Int) - 1)) (b.fmod 58)) (hN : Num S) (h1 : 1 < (S.length : Int)) (hS : S.length ≤ 400) :
    TextOk x (List.replicate (c.fmod 41).toNat 0 ++ octs0 (valC (turnS S (a.fmod ((S.length : Int) - 1)) (b.fmod 58)))) :=
  textOk_num hx (turn_all hN (spot_ok h1)).1 (turn_le hN h1 hS)
theorem dsha_fit (ks : List Int) : (dsha ks).length ≤ 16777216 := by rw [dsha_length]; decide
theorem check_fit {S ks : List Int} {a : Int} (hS : S.length ≤ 400) : (List.replicate (a.fmod 41).toNat (0 : Int) ++ octs0 (valC S)).length + ((dsha ks).take 4).length ≤ 16777216 := by
  have := row_len (a := a) hS
  have := List.length_take_le 4 (dsha ks)
  omega
theorem size3 {S : List Int} {z n k : Nat} (hz : z ≤ 40) (hS : S.length ≤ 400) {f : Int} : (List.replicate z (49 : Int)).length + S.length ≤ 16777216 ∧ (S.take n).length + [f].length ≤ 16777216 ∧ (S.take n ++ [f]).length + (S.drop k).length ≤ 16777216 ∧ (List.replicate z (49 : Int)).length + ((S.take n ++ [f]) ++ S.drop k).length ≤ 16777216 := by
  have h1 := List.length_take_le n S
  have h2 : (S.take n).length ≤ S.length := by rw [List.length_take]; omega
  have h3 : (S.drop k).length ≤ S.length := by rw [List.length_drop]; omega
  simp only [List.length_append, List.length_replicate, List.length_singleton]
  omega
end Mine

namespace Mine
open PySem PySem.W PySem.Calls PyProof.Rows PySem.Spec PyProof.V

local macro_rules | `(tactic| ktr_room) => `(tactic| ((try simp only [depth_under_make, depth_under_kw, depth_in1, depth_deeper, depth_caller, units_in1, units_deeper, Around.mark_units, units_caller]); (try dsimp only [ktrTop]); first | decide | omega | (show _ + 1 ≤ _; omega)))
local macro_rules | `(tactic| walk_at "call ref") => `(tactic| (k_here; (with_reducible show wpAny _ _ (call (Value.ref 131) [Value.ref _, Value.int _ _]) _ _ _); k_dflt (refine' stay_use (number_c _ _ _ _ _ ?zqb ?zqc) ?zqB ?zqF ?zqX ?zqN ?zqT ?zqk ?zqd ?zqu ?zqp ?_; (case zqb => assumption); (case zqc => omega); (case zqB => k_asm); (case zqF => k_asm); (case zqX => k_asm); (case zqN => k_asm); (case zqT => k_asm); (case zqk => first | exact rfl | assumption); (case zqd => ktr_room); (case zqu => ktr_room); (case zqp => is_list); k_whole); intro v' h' k' F' N' st' hR'; clear st'; obtain ⟨t', e'⟩ := hR'; subst e'; (try k_sweep)))
local macro_rules | `(tactic| walk_at "call ref") => `(tactic| (k_here; (with_reducible show wpAny _ _ (call (Value.ref 145) [Value.ref _, Value.int _ _]) _ _ _); (rename Fr _ _ _ _ => oF'); k_dflt (refine' stay_use (runs_c _ _ _ _ _ ?zqb ?zqc) ?zqB ?zqF ?zqX ?zqN ?zqT ?zqk ?zqd ?zqu ?zqp ?_; (case zqb => assumption); (case zqc => omega); (case zqB => k_asm); (case zqF => exact oF'); (case zqX => k_asm); (case zqN => k_asm); (case zqT => k_asm); (case zqk => first | exact rfl | assumption); (case zqd => ktr_room); (case zqu => ktr_room); (case zqp => is_list); k_whole); intro v' h' k' F' N' st' hR'; clear st'; (dsimp only at hR'); (unfold RunsR at hR'); obtain ⟨a', vs', c', tl', ps', e', hl', hD', hG', ht', hn'⟩ := hR'; subst e'; (have N' := news_left oF' N' hl'); clear hl'; (simp only [List.cons_append, List.nil_append, List.append_nil] at N'); (try k_sweep)))
local macro_rules | `(tactic| walk_at "call ref") => `(tactic| (k_here; (with_reducible show wpAny _ _ (call (Value.ref 152) [Value.ref _]) _ _ _); k_dflt (refine' stayN_use (worth_c _ _ _ _ _ ?zqD ?zqG ?zqt) ?zqB ?zqF ?zqX ?zqN ?zqT ?zqk ?zqd ?zqu ?zqs ?_; (case zqD => assumption); (case zqG => assumption); (case zqt => assumption); (case zqB => k_asm); (case zqF => k_asm); (case zqX => k_asm); (case zqN => k_asm); (case zqT => k_asm); (case zqk => first | exact rfl | assumption); (case zqd => ktr_room); (case zqu => ktr_room); (case zqs => kqd_sub)); intro v' h' k' F' N' hR'; (have hR' := worth_told hR' (by assumption)); obtain ⟨t', e'⟩ := hR'; subst e'; (try k_sweep)))
local macro_rules | `(tactic| walk_at "eval ListComp") => `(tactic| (k_here; lcp_look; k_dflt (refine LCp.ListComp_P (F₀ := by k_asm) (by with_unfolding_all rfl) (by decide) (by rfl) (by decide) (by rfl) (by rfl) (by decide) ?_); k_dflt lcp_toSrc))
local macro_rules | `(tactic| walk_at "SrcLP") => `(tactic| (k_here; k_dflt (refine LCp.SrcLP.ledger (by rfl) (by k_asm) (by k_asm) (by k_mem) (runs_size (by assumption) (by assumption) (by assumption)) ?_); intro g'; k_dflt (refine' pairs_rest ?zqd ?zqs ?zqS ?zqturn ?zqfin; (case zqd => assumption); (case zqs => kqd_sub); (case zqS => exact Or.inr ⟨_, by k_mem, rfl, _, rfl⟩)); (case' zqfin => (intro ys' xs' hx' hc'; unfold LCg.FinE; intro D' h' tk' F' N' o1')); (case' zqturn => (intro f' sz' tf' ts' I' oI' C' oC' D' m2' ys' h' tk' E' hm' hC' h1' h2' F' N' ne'))))
local macro_rules | `(tactic| walk_at "call builtin:str.join") => `(tactic| (k_here; k_dflt (refine' join_runs ?zqN ?zqm ?zqi ?zqc ?zql ?zqS ?_; (case zqN => k_asm); (case zqm => k_mem); (case zqi => assumption); (case zqc => assumption); (case zql => exact runs_count (by assumption) (by assumption)); (case zqS => exact signs_le (by assumption) (by assumption))); intro x' t' k' hx'))

local macro_rules | `(tactic| walk_at "subscriptTail Name Name str int") => `(tactic| (k_here; first | (refine fig_run (by assumption) (by assumption) ?_; intro _ _) | (refine fig_item (Spot.nlo (by assumption)) (Spot.nhi (by assumption)) ?_; intro _ _)))
local macro_rules | `(tactic| walk_at "binaryOp Mult str int") => `(tactic| (k_here; first | (refine mul_run (by assumption) (by assumption) ?_; intro _ _ _ hz') | (refine mul_one (fmod41 _).1 (Int.le_trans (fmod41 _).2 (by decide)) ?_; intro _ _ _ hz')))
local macro_rules | `(tactic| walk_at "TextEnd") => `(tactic| (exact text_end (by assumption) (by assumption) (by assumption)))
local macro_rules | `(tactic| walk_at "compareOp NotEq str str") => `(tactic| (refine ne_text (by assumption) (by assumption) ?_))
local macro_rules | `(tactic| walk_at "compareOp NotEq bytes bytes") => `(tactic| (refine ne_same (by assumption) (by assumption) ?_))
local macro_rules | `(tactic| walk_at "compareOp Eq bytes bytes") => `(tactic| (refine eq_same (by assumption) (by assumption) ?_))
local macro_rules | `(tactic| walk_at "call type:bytes") => `(tactic| (refine bytes_of_bytes ?_; intro _ _))
local macro_rules | `(tactic| walk_at "call builtin:len") => `(tactic| (k_here; (with_reducible show wpAny _ _ (call (Value.builtin "len") [Value.str _ _]) _ _ _); (refine len_codes (by assumption) (Nat.le_trans (signs_le (by assumption) (by assumption)) (by decide)) ?_; intro _ _)))
local macro_rules | `(tactic| walk_at "call ref") => `(tactic| (k_here; (with_reducible show wpAny _ _ (call (Value.ref 138) [Value.int _ _, Value.int _ _]) _ _ _); k_dflt (refine' stay_use (row_c _ _ _ _ (fmod41 _).1 (Int.le_trans (fmod41 _).2 (by decide)) ?zqa ?zqb) ?zqB ?zqF ?zqX ?zqN ?zqT ?zqk ?zqd ?zqu trivial ?_; (case zqa => exact valC_nonneg _); (case zqb => first | exact nb_signs (signs_le (by assumption) (by assumption)) | exact nb_signs (turn_le (signs_num (by assumption) (by assumption)) (by assumption) (signs_le (by assumption) (by assumption)))); (case zqB => k_asm); (case zqF => k_asm); (case zqX => k_asm); (case zqN => k_asm); (case zqT => k_asm); (case zqk => first | exact rfl | assumption); (case zqd => ktr_room); (case zqu => ktr_room); k_whole); intro v' h' k' F' N' st' hR'; clear st'; obtain ⟨x', t', e', hx'⟩ := hR'; subst e'; (try k_sweep)))
local macro_rules | `(tactic| walk_at "call ref") => `(tactic| (k_here; (with_reducible show wpAny _ _ (call (Value.ref 96) [Value.bytes _ _]) _ _ _); k_dflt (refine' stay_use (encode_c _ _ _ ?zqb ?zql) ?zqB ?zqF ?zqX ?zqN ?zqT ?zqk ?zqd ?zqu trivial ?_; (case zqb => assumption); (case zql => exact Nat.le_trans (row_len (signs_le (by assumption) (by assumption))) (by decide)); (case zqB => k_asm); (case zqF => k_asm); (case zqX => k_asm); (case zqN => k_asm); (case zqT => k_asm); (case zqk => first | exact rfl | assumption); (case zqd => ktr_room); (case zqu => ktr_room); k_whole); intro v' h' k' F' N' st' hR'; clear st'; obtain ⟨x', t', e', hx'⟩ := hR'; subst e'; (have hx' := Eq.trans hx' (enc_told (signs_num (by assumption) (by assumption)) _)); (try k_sweep)))
local macro_rules | `(tactic| walk_at "call ref") => `(tactic| (k_here; (with_reducible show wpAny _ _ (call (Value.ref 103) [Value.str _ _]) _ _ _); k_dflt (refine' stay_use (decode_of _ ?zqo) ?zqB ?zqF ?zqX ?zqN ?zqT ?zqk ?zqd ?zqu trivial ?_; (case zqo => assumption); (case zqB => k_asm); (case zqF => k_asm); (case zqX => k_asm); (case zqN => k_asm); (case zqT => k_asm); (case zqk => first | exact rfl | assumption); (case zqd => ktr_room); (case zqu => ktr_room); k_whole); intro v' h' k' F' N' st' hR'; clear st'; obtain ⟨x', t', e', hx'⟩ := hR'; subst e'; (try k_sweep)))
local macro_rules | `(tactic| walk_at "call ref") => `(tactic| (k_here; (with_reducible show wpAny _ _ (call (Value.ref 89) [Value.bytes _ _]) _ _ _); k_dflt (refine' stay_use (dsha_c _ _ _ ?zqb ?zql) ?zqB ?zqF ?zqX ?zqN ?zqT ?zqk ?zqd ?zqu trivial ?_; (case zqb => assumption); (case zql => exact Nat.le_trans (row_len (signs_le (by assumption) (by assumption))) (by decide)); (case zqB => k_asm); (case zqF => k_asm); (case zqX => k_asm); (case zqN => k_asm); (case zqT => k_asm); (case zqk => first | exact rfl | assumption); (case zqd => ktr_room); (case zqu => ktr_room); k_whole); intro v' h' k' F' N' st' hR'; clear st'; obtain ⟨x', t', e', hx'⟩ := hR'; subst e'; (try k_sweep)))
local macro_rules | `(tactic| walk_at "call ref") => `(tactic| (k_here; (with_reducible show wpAny _ _ (call (Value.ref 110) [Value.bytes _ _]) _ _ _); k_dflt (refine' stay_use (encode_check_c _ _ _ ?zqb ?zql) ?zqB ?zqF ?zqX ?zqN ?zqT ?zqk ?zqd ?zqu trivial ?_; (case zqb => assumption); (case zql => exact Nat.le_trans (row_len (signs_le (by assumption) (by assumption))) (by decide)); (case zqB => k_asm); (case zqF => k_asm); (case zqX => k_asm); (case zqN => k_asm); (case zqT => k_asm); (case zqk => first | exact rfl | assumption); (case zqd => ktr_room); (case zqu => ktr_room); k_whole); intro v' h' k' F' N' st' hR'; clear st'; obtain ⟨x', t', e', hx'⟩ := hR'; subst e'; (have ok' := textOk_written (signs_num (by assumption) (by assumption)) (signs_le (by assumption) (by assumption)) hx'); (try k_sweep)))
local macro_rules | `(tactic| walk_at "call ref") => `(tactic| (k_here; (with_reducible show wpAny _ _ (call (Value.ref 117) [Value.str _ _]) _ _ _); k_dflt (refine' stay_use (decode_check_of _ ?zqo ?zql) ?zqB ?zqF ?zqX ?zqN ?zqT ?zqk ?zqd ?zqu trivial ?_; (case zqo => assumption); (case zql => exact Nat.le_trans (row_len (signs_le (by assumption) (by assumption))) (by decide)); (case zqB => k_asm); (case zqF => k_asm); (case zqX => k_asm); (case zqN => k_asm); (case zqT => k_asm); (case zqk => first | exact rfl | assumption); (case zqd => ktr_room); (case zqu => ktr_room); k_whole); intro v' h' k' F' N' st' hR'; clear st'; obtain ⟨x', t', e', hx'⟩ := hR'; subst e'; (try k_sweep)))
local macro_rules | `(tactic| walk_at "binaryOp Add str str") => `(tactic| (k_here; first
  | (refine add_codes (by assumption) (by assumption) (size3 (n := 0) (k := 0) (f := 0) (by have hq := fmod41 (numAt (by assumption) 0); omega) (signs_le (by assumption) (by assumption))).1 ?_; intro z' t' k' hz'; (have ok' := textOk_num hz' (signs_num (by assumption) (by assumption)) (signs_le (by assumption) (by assumption))))
  | (refine add_codes (by assumption) (by assumption) (size3 (z := 0) (k := 0) (by decide) (signs_le (by assumption) (by assumption))).2.1 ?_; intro z' t' k' hz')
  | (refine add_codes (by assumption) (by assumption) (size3 (z := 0) (by decide) (signs_le (by assumption) (by assumption))).2.2.1 ?_; intro z' t' k' hz')
  | (refine add_codes (by assumption) (by assumption) (size3 (by have hq := fmod41 (numAt (by assumption) 0); omega) (signs_le (by assumption) (by assumption))).2.2.2 ?_; intro z' t' k' hz'; (have ok' := textOk_turn hz' (signs_num (by assumption) (by assumption)) (by assumption) (signs_le (by assumption) (by assumption))))))
local macro_rules | `(tactic| walk_at "subscriptTail Name BinOp str int") => `(tactic| (k_here; (refine item_spot (by assumption) (by assumption) (signs_le (by assumption) (by assumption)) (signs_num (by assumption) (by assumption)) ?_; intro _ _ _ hn' hf')))
local macro_rules | `(tactic| walk_at "call builtin:str.index") => `(tactic| (refine index_spot (by rfl) (by assumption) (by assumption) ?_; intro _ _))
local macro_rules | `(tactic| walk_at "subscriptTail Name Name str int") => `(tactic| (k_here; first | (refine fig_run (by assumption) (by assumption) ?_; intro _ _) | (refine fig_new ?_; intro _ _ _ hz')))
local macro_rules | `(tactic| walk_at "subscriptTail Name Slice str ref") => `(tactic| (k_here; (with_reducible rename Fr _ _ _ _ => F'); (with_reducible rename News _ _ _ _ => N'); first
  | (refine slice_spot1 (s := ⟨_, _, _, _, _⟩) F' N' (by assumption) (by assumption) (signs_le (by assumption) (by assumption)) ?_; intro _ _ _ _ _ _ hz')
  | (refine slice_spot2 (s := ⟨_, _, _, _, _⟩) F' N' (by assumption) (by assumption) (signs_le (by assumption) (by assumption)) ?_; intro _ _ _ _ _ _ hz')))
local macro_rules | `(tactic| walk_at "binaryOp Pow int int") => `(tactic| (refine pow_spot (by assumption) (signs_le (by assumption) (by assumption)) ?_; intro _ _))
local macro_rules | `(tactic| walk_at "binaryOp Mult int int") => `(tactic| (refine mul_spot ?_; intro _ _))
local macro_rules | `(tactic| walk_at "binaryOp Add int int") => `(tactic| (refine add_turn (signs_num (by assumption) (by assumption)) (by assumption) ?_; intro _ _))
local macro_rules | `(tactic| walk_at "subscriptTail") => `(tactic| (k_here; (with_reducible show wpAny _ _ (subscriptTail _ (Expr.Slice _ _ none _) (Value.bytes _ _) (Value.ref _)) _ _ _); (with_reducible rename Fr _ _ _ _ => F'); (with_reducible rename News _ _ _ _ => N'); (refine cut_K (s := ⟨_, _, _, _, _⟩) F' N' (by assumption) (by constructor) (by constructor) (dsha_fit _) (by first | exact cut_n4 | exact cut_04) ?_); intro _ _ _ _ _ _ hc' hl'))
local macro_rules | `(tactic| walk_at "subscriptTail Call Name cons nil Slice bytes ref") => `(tactic| (k_here; (with_reducible rename Fr _ _ _ _ => F'); (with_reducible rename News _ _ _ _ => N'); (refine cut_K (s := ⟨_, _, _, _, _⟩) F' N' (by assumption) (by constructor) (by constructor) (dsha_fit _) (by first | exact cut_n4 | exact cut_04) ?_); intro _ _ _ _ _ _ hc' hl'))
local macro_rules | `(tactic| walk_at "binaryOp Add bytes bytes") => `(tactic| (refine KBa.add_K (by assumption) (by assumption) (check_fit (signs_le (by assumption) (by assumption))) ?_; intro _ _ hz'))
local macro_rules | `(tactic| walk_at "call type:str") => `(tactic| (refine P.str_of_str ?_))
set_option maxHeartbeats 8000000 in
theorem law_holds : PySem.Challenge.rw_bv5018_01.Holds := Mine.hd (by
  w_top off
  k_with_none
  w_strict (k_go0; (all_goals try k_fold))
  k_with_none
  k_steps
  (all_goals (try k_data)))
end Mine

theorem PySem.Challenge.cw_bv5018_01_holds : PySem.Challenge.rw_bv5018_01.Holds := by
  exact Mine.law_holds
