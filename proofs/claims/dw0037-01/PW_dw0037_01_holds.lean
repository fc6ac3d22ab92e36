import PyProof.Rows.All
import Wide.All
import OpenK.AllK
import Wide.FinOn
import Lean
import PySem.Challenge.RW_dw0037_01
set_option Elab.async false
section
open PySem PySem.W PyProof.Rows
namespace Mine
set_option maxRecDepth 100000 in
set_option maxHeartbeats 8000000 in
open_top hd for PySem.Challenge.rw_dw0037_01
end Mine
end
section
open PySem PySem.W PyProof.Rows PySem.Spec PySem.Calls
set_option maxRecDepth 100000
namespace Mine
structure RdParts where
  args : Arguments
  body : List Stmt
  scope : Scope
def RdParts.of {w : World} {s1 s3 s4 b c d e f g h i j oc od nm ql prm sc dV kV dc pm an cd ct sl}
    (_h : (hd.heap_39 w.params).lookup 56 = some ⟨oc, od, .func (fnOf nm ql prm [s1, Stmt.FunctionDef (Str.ofString "_law_read") b c d e f g h i j, s3, s4] sc dV kV dc pm an cd ct), sl⟩) : RdParts := ⟨b, c, g⟩
set_option maxHeartbeats 8000000 in
def rd (w : World) : RdParts := by
  have h0 : PySem.Challenge.rw_dw0037_01.prog = PySem.Challenge.rw_dw0037_01.prog ∧ hd.heap_39 = hd.heap_39 → True := fun _ => trivial
  revert h0; k_fill; intro _
  refine' RdParts.of (w := w) ?e
  case e => k_is
abbrev readFn (w : World) (qn : Str) (co cf : Addr) (dc pm : Value) (c : Addr) (ct : Value) : Obj :=
  fnMade (Str.ofString "_law_read") qn (rd w).args (rd w).body (rd w).scope [(Str.ofString "octets", co), (Str.ofString "f", cf)] dc pm c ct
abbrev strmDict (w : World) (t1 : Tok) (p : Int) (t2 t3 : Tok) (fn : Addr) : Obj :=
  dictOf [⟨PyData.keyHash w.params (Str.ofString "value"), .str (Str.ofString "value") t1, .int p t2⟩, ⟨PyData.keyHash w.params (Str.ofString "read"), .str (Str.ofString "read") t3, .ref fn⟩] 2
theorem ne_low {l : List (Addr × Obj)} {B d : Nat} (h : ∀ p ∈ l, p.1 < B) (hb : B ≤ d) : ∀ p ∈ l, p.1 ≠ d := fun p hp => Nat.ne_of_lt (Nat.lt_of_lt_of_le (h p hp) hb)
end Mine
end
section
open PySem PySem.W PyProof.Rows PySem.Spec PySem.Calls
set_option maxRecDepth 100000
namespace Mine
local macro_rules | `(tactic| k_room) => `(tactic| ktr_room)
local macro_rules | `(tactic| k_all) => `(tactic| first | assumption | exact ne_low (by assumption) (by omega))
theorem clip_int (n : Nat) {i : Int} (h : 0 ≤ i) : clipAt n i = min i.toNat n := by
  obtain ⟨j, rfl⟩ := Int.eq_ofNat_of_zero_le h
  exact clipAt_nat n j
theorem cut_ints {ks : List Int} {k n : Int} (h0 : 0 ≤ k) (h1 : k ≤ ks.length) (hn : 0 ≤ n) :
    (ks.drop (clipAt ks.length k)).take (clipAt ks.length (k + n) - clipAt ks.length k) = (ks.drop k.toNat).take n.toNat := by
  rw [clip_int _ h0, clip_int _ (Int.add_nonneg h0 hn)]
  have e1 : min k.toNat ks.length = k.toNat := by omega
  rw [e1]
  by_cases h : k.toNat + n.toNat ≤ ks.length
  · have e2 : min (k + n).toNat ks.length - k.toNat = n.toNat := by omega
    rw [e2]
  · rw [List.take_of_length_le (by simp; omega), List.take_of_length_le (by simp; omega)]
theorem cut_len {ks : List Int} {k n : Int} (h0 : 0 ≤ k) (h1 : k ≤ ks.length) (hn : 0 ≤ n) :
    k + ((min (clipAt ks.length (k + n) - clipAt ks.length k) (ks.length - clipAt ks.length k) : Nat) : Int) = k + (((ks.drop k.toNat).take n.toNat).length : Int) := by
  rw [← cut_ints h0 h1 hn]; simp
set_option maxHeartbeats 8000000 in
theorem rd_call {w : World} {p : Program} {loose : List Str} {mean : ExcName → Option Value} {mg mb : Str → Option Value}
    {dp un : Nat} {gd : Option (List Code)} {cn : Str} {cs : Scope} {a : Addr} {ccd : Value} {cl : List (Str × Addr)} {outer : List Env} {A₀ : Around} {base h₀ : Heap} {L : Addr} {m : Str → Option Value} {news : List (Addr × Obj)} {s : Shared} {bs : Array UInt8} {t : Tok}
    {Q E : Value → Shared → Prop} {qn : Str} {fn c x dx cf co : Addr} {dc pm ct : Value} {oc oof oo : Obj} {vs : Array Value} {tq t1 t2 t3 tn : Tok} {k n : Int} {ks : List Int}
    (B : Below A₀ base outer h₀) (F : Fr h₀ L s.heap m) (X : (hd.heap_39 w.params).In h₀)
    (N : News h₀ L s.heap ((fn, readFn w qn co cf dc pm c ct) :: (x, instObj 45 dx) :: (dx, strmDict w t1 k t2 t3 fn) :: (cf, oof) :: (co, oo) :: (c, oc) :: news)) (T : Top p loose mean mg mb h₀) (_C : CodeHd base 55 51) (hk : cs.kind = .function)
    (hc1 : oc.data = .fields vs) (hc2 : vs[1]? = some (.str qn tq)) (hcf : oof.data = .cell (some (.ref x))) (hco : oo.data = .cell (some (.bytes bs t)))
    (n1 : @Ne Nat dx fn) (n2 : @Ne Nat dx x) (n3 : @Ne Nat dx cf) (n4 : @Ne Nat dx co) (n5 : @Ne Nat dx c) (n6 : ∀ q ∈ news, q.1 ≠ dx)
    (hbi : KBw.bInts bs = ks) (k0 : 0 ≤ k) (k1 : k ≤ ks.length) (hn : 0 ≤ n) (hb : ks.length ≤ 63)
    (hdp : dp + 4 < recursionLimit)
    (hret : ∀ b tb k' t2' h' tk', Fr h₀ L h' m → News h₀ L h' ((fn, readFn w qn co cf dc pm c ct) :: (x, instObj 45 dx) :: (dx, strmDict w t1 k' t2' t3 fn) :: (cf, oof) :: (co, oo) :: (c, oc) :: news) →
      k' = k + (((ks.drop k.toNat).take n.toNat).length : Int) → KBw.bInts b = (ks.drop k.toNat).take n.toNat → Q (.bytes b tb) { s with heap := h', toks := tk' }) :
    wpAny (model Challenge.rw_dw0037_01.row.prog w) (ktrTop dp un gd cn cs L a ccd cl outer) (call (.ref fn) [.int n tn]) Q E s := by
  w_top off
  revert X; k_fill; intro X
  dsimp only [readFn, rd, RdParts.of] at N
  refine wpAny_call ?_
  k_dflt (refine' code_nest ?k1 ?k2 ?k3 ?k4 ?k5 ?kA ?kF ?kK ?k6 ?k7 ?k8 ?k9 ?kB ?_ ?c2 ?c3 ?c4 ?c5; (case kA => exact rfl); (case kF => exact rfl); (case kK => assumption); (case k1 => k_asm); (case k2 => k_asm); (case k3 => k_asm); (case k4 => k_asm); (case k5 => k_asm); (case k6 => k_mem); (case k7 => exact codeRec_news (by k_asm) (by k_mem) (by assumption) (by assumption)); (case k8 => ktr_room); (case k9 => exact BindsTo.of_eq rfl); (case c5 => decide); (case kB => exact locs rfl); (case c2 => exact rfl); (case c3 => exact rfl); (case c4 => exact rfl); k_whole; intro g' L' h' FG' F' N' B' X' T'; (try dsimp only); (try k_fold))
  k_steps
  exact hret _ _ _ _ _ _ (by k_asm) (by k_asm) (cut_len k0 k1 hn) (by rw [← cut_ints k0 k1 hn]; assumption)
end Mine
end
section
open PySem PySem.W PyProof.Rows PySem.Spec PySem.Calls
set_option maxRecDepth 100000
namespace Mine
local macro_rules | `(tactic| k_room) => `(tactic| ktr_room)
local macro_rules | `(tactic| k_all) => `(tactic| first | assumption | exact ne_low (by assumption) (by omega))
local macro_rules | `(tactic| walk_at "call ref") => `(tactic| (k_here; k_dflt (refine' rd_call ?k1 ?k2 ?k3 ?k4 ?k5 ?kC ?kk ?c1 ?c2 ?c3 ?c4 ?n1 ?n2 ?n3 ?n4 ?n5 ?n6 ?b1 ?b2 ?b3 ?b4 ?b5 ?d1 ?_; (case k1 => k_asm); (case k2 => k_asm); (case k3 => k_asm); (case k4 => k_asm); (case k5 => k_asm); (case kC => assumption); (case kk => first | rfl | assumption); (case c1 => assumption); (case c2 => assumption); (case c3 => assumption); (case c4 => assumption); (case n1 => assumption); (case n2 => assumption); (case n3 => assumption); (case n4 => assumption); (case n5 => assumption); (case n6 => assumption); (case b1 => assumption); (case b2 => omega); (case b3 => omega); (case b4 => first | assumption | omega); (case b5 => assumption); (case d1 => ktr_room)); intro b9 tb9 k9 t9 h9 tk9 F9 N9 e9 hb9; (try dsimp only); (try k_fold)))
theorem one_len {ks : List Int} {k : Int} (h0 : 0 ≤ k) (h1 : k < ks.length) : k + (((ks.drop k.toNat).take (Int.toNat 1)).length : Int) = k + 1 := by
  simp only [List.length_take, List.length_drop]
  have : Int.toNat 1 = 1 := rfl
  omega
theorem one_item (ks : List Int) (k : Nat) : ((ks.drop k).take (Int.toNat 1)).getD (Int.toNat 0) 0 = ks.getD k 0 := by
  show ((ks.drop k).take 1).getD 0 0 = _
  simp [List.getD]
set_option maxHeartbeats 8000000 in
theorem uint1_call {w : World} {p : Program} {loose : List Str} {mean : ExcName → Option Value} {mg mb : Str → Option Value}
    {dp un : Nat} {gd : Option (List Code)} {cn : Str} {cs : Scope} {a : Addr} {ccd : Value} {cl : List (Str × Addr)} {outer : List Env} {A₀ : Around} {base h₀ : Heap} {L : Addr} {m : Str → Option Value} {news : List (Addr × Obj)} {s : Shared} {bs : Array UInt8} {t : Tok}
    {Q E : Value → Shared → Prop} {qn : Str} {fn c x dx cf co : Addr} {dc pm ct : Value} {oc oof oo : Obj} {vs : Array Value} {tq t1 t2 t3 : Tok} {k : Int} {ks : List Int}
    (B : Below A₀ base outer h₀) (F : Fr h₀ L s.heap m) (X : (hd.heap_39 w.params).In h₀)
    (N : News h₀ L s.heap ((fn, readFn w qn co cf dc pm c ct) :: (x, instObj 45 dx) :: (dx, strmDict w t1 k t2 t3 fn) :: (cf, oof) :: (co, oo) :: (c, oc) :: news)) (T : Top p loose mean mg mb h₀) (_C : CodeHd base 55 51) (hk : cs.kind = .function)
    (hc1 : oc.data = .fields vs) (hc2 : vs[1]? = some (.str qn tq)) (hcf : oof.data = .cell (some (.ref x))) (hco : oo.data = .cell (some (.bytes bs t)))
    (n1 : @Ne Nat dx fn) (n2 : @Ne Nat dx x) (n3 : @Ne Nat dx cf) (n4 : @Ne Nat dx co) (n5 : @Ne Nat dx c) (n6 : ∀ q ∈ news, q.1 ≠ dx)
    (hbi : KBw.bInts bs = ks) (k0 : 0 ≤ k) (k1 : k < ks.length) (hb : ks.length ≤ 63)
    (hdp : dp + 5 < recursionLimit)
    (hret : ∀ n tn k' t2' h' tk', Fr h₀ L h' m → News h₀ L h' ((fn, readFn w qn co cf dc pm c ct) :: (x, instObj 45 dx) :: (dx, strmDict w t1 k' t2' t3 fn) :: (cf, oof) :: (co, oo) :: (c, oc) :: news) →
      k' = k + 1 → n = ks.getD k.toNat 0 → 0 ≤ n → n < 256 → Q (.int n tn) { s with heap := h', toks := tk' }) :
    wpAny (model Challenge.rw_dw0037_01.row.prog w) (ktrTop dp un gd cn cs L a ccd cl outer) (call (.ref 21) [.ref x]) Q E s := by
  w_top off
  revert X; k_fill; intro X
  refine wpAny_call ?_
  k_dflt ktr_enter
  k_steps
  exact hret _ _ _ _ _ _ (by k_asm) (by k_asm) (Eq.trans (by assumption) (one_len k0 k1)) (one_item _ _) (by assumption) (by assumption)
end Mine
end
section
open PySem PySem.W PyProof.Rows PySem.Spec PySem.Calls
set_option maxRecDepth 100000
namespace Mine
local macro_rules | `(tactic| k_room) => `(tactic| ktr_room)
local macro_rules | `(tactic| k_all) => `(tactic| first | assumption | exact ne_low (by assumption) (by omega))
local macro_rules | `(tactic| walk_at "call ref") => `(tactic| (k_here; k_dflt (refine' rd_call ?k1 ?k2 ?k3 ?k4 ?k5 ?kC ?kk ?c1 ?c2 ?c3 ?c4 ?n1 ?n2 ?n3 ?n4 ?n5 ?n6 ?b1 ?b2 ?b3 ?b4 ?b5 ?d1 ?_; (case k1 => k_asm); (case k2 => k_asm); (case k3 => k_asm); (case k4 => k_asm); (case k5 => k_asm); (case kC => assumption); (case kk => first | rfl | assumption); (case c1 => assumption); (case c2 => assumption); (case c3 => assumption); (case c4 => assumption); (case n1 => assumption); (case n2 => assumption); (case n3 => assumption); (case n4 => assumption); (case n5 => assumption); (case n6 => assumption); (case b1 => assumption); (case b2 => omega); (case b3 => omega); (case b4 => first | assumption | omega); (case b5 => assumption); (case d1 => ktr_room)); intro b9 tb9 k9 t9 h9 tk9 F9 N9 e9 hb9; (try dsimp only); (try k_fold)))
local macro_rules | `(tactic| walk_at "call ref") => `(tactic| (k_here; k_dflt (refine' uint1_call ?k1 ?k2 ?k3 ?k4 ?k5 ?kC ?kk ?c1 ?c2 ?c3 ?c4 ?n1 ?n2 ?n3 ?n4 ?n5 ?n6 ?b1 ?b2 ?b3 ?b5 ?d1 ?_; (case k1 => k_asm); (case k2 => k_asm); (case k3 => k_asm); (case k4 => k_asm); (case k5 => k_asm); (case kC => assumption); (case kk => first | rfl | assumption); (case c1 => assumption); (case c2 => assumption); (case c3 => assumption); (case c4 => assumption); (case n1 => assumption); (case n2 => assumption); (case n3 => assumption); (case n4 => assumption); (case n5 => assumption); (case n6 => assumption); (case b1 => assumption); (case b2 => omega); (case b3 => omega); (case b5 => assumption); (case d1 => ktr_room)); intro n9 tn9 kk9 t9 h9 tk9 F9 N9 ek9 en9 hlo9 hhi9; (try dsimp only); (try k_fold)))
local macro_rules | `(tactic| walk_at "exec Raise some none") => `(tactic| (k_here; (with_reducible show wpAny _ _ (exec (Stmt.Raise (some (Expr.Call (Expr.Name ("ValueError" : Str) _) (_ :: _) [] _)) none _) _) _ _ _); (with_reducible rename Fr _ _ _ _ => kF); k_dflt (refine' Raise_madeB PySem.F.excCall_ValueError PySem.F.excRaise_ValueError ?hh (name_B kF ?k1 ?k2 ?k3 ?k4 ?k5 ?_) ?ka ?kb; (case hh => rfl); (case k1 => k_asm); (case k2 => k_asm); (case k3 => k_is); (case k4 => boot_by_name); (case k5 => decide); (case ka => rfl); (case kb => rfl); refine ⟨rfl, ?_⟩; k_whole)))
def msgOf (n r : Int) : Str := Str.ofString "expected " ++ Str.ofString (toString n) ++ Str.ofString " bytes in a bytes1, but only " ++ Str.ofString (toString r) ++ Str.ofString " remain"
theorem raised_sub {base : Heap} {l : List Env} {e : Addr} {cls : Value} {t : Addr} {vs : List Value} {news news' : List (Addr × Obj)} {h : Heap} (R : RaisedK base l e cls t vs news h) (hs : ∀ q ∈ news', q ∈ news) : RaisedK base l e cls t vs news' h := by
  obtain ⟨⟨B, a, b, c, d⟩, t⟩ := R
  exact ⟨⟨B, a, fun q hq => b q (hs q hq), c, d⟩, t⟩
theorem cut_room {n k kk : Int} {len : Nat} (e : kk = k + 1) (h : ((min n.toNat (len - kk.toNat) : Nat) : Int) ≠ n) (k0 : 0 ≤ k) (k1 : k < len) (n0 : 0 ≤ n) : ((min n.toNat (len - kk.toNat) : Nat) : Int) = (len : Int) - (k + 1) := by omega
theorem cut_less {n k kk : Int} {len : Nat} (e : kk = k + 1) (h : ((min n.toNat (len - kk.toNat) : Nat) : Int) ≠ n) (k0 : 0 ≤ k) (k1 : k < len) (n0 : 0 ≤ n) : (len : Int) - (k + 1) < n := by omega
theorem cut_full1 {n k kk k' : Int} {ks : List Int} (e : kk = k + 1) (h : ((min n.toNat (ks.length - kk.toNat) : Nat) : Int) = n) (ek : k' = kk + (((ks.drop kk.toNat).take n.toNat).length : Int)) : k' = k + 1 + n := by
  subst e; rw [ek, List.length_take, List.length_drop, h]
theorem cut_full2 {n k kk k' : Int} {ks : List Int} (e : kk = k + 1) (h : ((min n.toNat (ks.length - kk.toNat) : Nat) : Int) = n) (k0 : 0 ≤ k) (k1 : k < ks.length) (ek : k' = kk + (((ks.drop kk.toNat).take n.toNat).length : Int)) : k' ≤ ks.length := by
  subst e; rw [ek, List.length_take, List.length_drop, h]; omega
theorem cut_full3 {n k kk : Int} {ks ls : List Int} (e : kk = k + 1) (h : ls = (ks.drop kk.toNat).take n.toNat) : ls = (ks.drop (k + 1).toNat).take n.toNat := by
  subst e; exact h
set_option maxHeartbeats 8000000 in
theorem bytes1_call {w : World} {p : Program} {loose : List Str} {mean : ExcName → Option Value} {mg mb : Str → Option Value}
    {dp un : Nat} {gd : Option (List Code)} {cn : Str} {cs : Scope} {a : Addr} {ccd : Value} {cl : List (Str × Addr)} {outer : List Env} {A₀ : Around} {base h₀ : Heap} {L : Addr} {m : Str → Option Value} {news : List (Addr × Obj)} {s : Shared} {bs : Array UInt8} {t : Tok}
    {Q E : Value → Shared → Prop} {qn : Str} {fn c x dx cf co : Addr} {dc pm ct : Value} {oc oof oo : Obj} {vs : Array Value} {tq t1 t2 t3 : Tok} {k : Int} {ks : List Int}
    (B : Below A₀ base outer h₀) (F : Fr h₀ L s.heap m) (X : (hd.heap_39 w.params).In h₀)
    (N : News h₀ L s.heap ((fn, readFn w qn co cf dc pm c ct) :: (x, instObj 45 dx) :: (dx, strmDict w t1 k t2 t3 fn) :: (cf, oof) :: (co, oo) :: (c, oc) :: news)) (T : Top p loose mean mg mb h₀) (_C : CodeHd base 55 51) (hk : cs.kind = .function)
    (hc1 : oc.data = .fields vs) (hc2 : vs[1]? = some (.str qn tq)) (hcf : oof.data = .cell (some (.ref x))) (hco : oo.data = .cell (some (.bytes bs t)))
    (n1 : @Ne Nat dx fn) (n2 : @Ne Nat dx x) (n3 : @Ne Nat dx cf) (n4 : @Ne Nat dx co) (n5 : @Ne Nat dx c) (n6 : ∀ q ∈ news, q.1 ≠ dx)
    (hbi : KBw.bInts bs = ks) (k0 : 0 ≤ k) (k1 : k < ks.length) (hb : ks.length ≤ 63)
    (hdp : dp + 6 < recursionLimit)
    (hret : ∀ b tb k' t2' h' tk', Fr h₀ L h' m → News h₀ L h' ((fn, readFn w qn co cf dc pm c ct) :: (x, instObj 45 dx) :: (dx, strmDict w t1 k' t2' t3 fn) :: (cf, oof) :: (co, oo) :: (c, oc) :: news) →
      ∀ n, n = ks.getD k.toNat 0 → 0 ≤ n → k' = k + 1 + n → k' ≤ ks.length → KBw.bInts b = (ks.drop (k + 1).toNat).take n.toNat → Q (.bytes b tb) { s with heap := h', toks := tk' })
    (hraise : ∀ e tx tm n r h' tk', n = ks.getD k.toNat 0 → 0 ≤ n → r = (ks.length : Int) - (k + 1) → r < n → RaisedK base (envX cn cs L a ccd cl :: outer) e (.type "ValueError") tx [.str (msgOf n r) tm] news h' → (∃ g, Fr h₀ L g m ∧ g.UpToSlots h') → E (.ref e) { s with heap := h', toks := tk' }) :
    wpAny (model Challenge.rw_dw0037_01.row.prog w) (ktrTop dp un gd cn cs L a ccd cl outer) (call (.ref 28) [.ref x]) Q E s := by
  w_top off
  revert X; k_fill; intro X
  refine wpAny_call ?_
  k_dflt ktr_enter
  k_steps
  · exact hret _ _ _ _ _ _ (by k_asm) (by k_asm) _ (by assumption) (by assumption) (cut_full1 (by assumption) (by assumption) (by assumption)) (cut_full2 (by assumption) (by assumption) k0 k1 (by assumption)) (cut_full3 (by assumption) (by assumption))
  · refine hraise _ _ _ _ _ _ _ (by assumption) (by assumption) rfl (cut_less (by assumption) (by assumption) k0 k1 (by assumption)) (raised_sub (by rw [msgOf, ← cut_room (by assumption) (by assumption) k0 k1 (by assumption)]; assumption) (fun q hq => by simp only [List.mem_cons, hq, or_true])) ⟨_, by assumption, by assumption⟩
end Mine
end
section
open PySem PySem.W PyProof.Rows PySem.Spec PySem.Calls
set_option maxRecDepth 100000
namespace Mine
local macro_rules | `(tactic| k_room) => `(tactic| ktr_room)
local macro_rules | `(tactic| k_all) => `(tactic| first | assumption | exact ne_low (by assumption) (by omega))
abbrev qnR : Str := Str.ofString "_law_stream" ++ Str.ofString ".<locals>." ++ Str.ofString "_law_read"
abbrev tab1 (c : Addr) : Array Value := #[rawInt 22, rawInt 4, .ref c]
theorem news_perm1 {h₀ h : Heap} {L : Addr} {a b c d e f g : Addr × Obj} {l : List (Addr × Obj)} (N : News h₀ L h (a :: b :: c :: d :: e :: f :: g :: l)) : News h₀ L h (a :: c :: d :: e :: f :: b :: g :: l) :=
  kst_newsOf N (by intro p hp; simp only [List.mem_cons] at hp ⊢; rcases hp with h | h | h | h | h | h | h | h <;> simp [h])
theorem news_more1 {h₀ h : Heap} {L : Addr} {a b c d e f g : Addr × Obj} {l : List (Addr × Obj)} (N : News h₀ L h (a :: c :: d :: e :: f :: g :: l)) (hb : b ∈ l) : News h₀ L h (a :: c :: d :: e :: f :: b :: g :: l) :=
  kst_newsOf N (by intro p hp; simp only [List.mem_cons] at hp ⊢; rcases hp with h | h | h | h | h | h | h | h <;> simp [h, hb])
theorem lt_all {d : Nat} {l : List (Addr × Obj)} (h : AllLt d l) : ∀ q ∈ l, q.1 < d := ktn_ltOf h
theorem lt_more {d e : Nat} {l : List (Addr × Obj)} (h : ∀ q ∈ l, q.1 < d) (k : d ≤ e) : ∀ q ∈ l, q.1 < e := fun q hq => Nat.lt_of_lt_of_le (h q hq) k
set_option maxHeartbeats 8000000 in
theorem strm_first {w : World} {p : Program} {loose : List Str} {mean : ExcName → Option Value} {mg mb : Str → Option Value}
    {dp un : Nat} {gd : Option (List Code)} {cn : Str} {cs : Scope} {a : Addr} {ccd : Value} {cl : List (Str × Addr)} {outer : List Env} {A₀ : Around} {base h₀ : Heap} {L : Addr} {m : Str → Option Value} {news : List (Addr × Obj)} {s : Shared} {bs : Array UInt8} {t : Tok}
    {Q E : Value → Shared → Prop}
    (B : Below A₀ base outer h₀) (F : Fr h₀ L s.heap m) (X : (hd.heap_39 w.params).In h₀)
    (N : News h₀ L s.heap ((51, tabObj #[]) :: news)) (T : Top p loose mean mg mb h₀) (C : CodeHd base 55 51) (hk : cs.kind = .function) (hn : ∀ q ∈ news, q.1 ≠ 51)
    (hdp : dp + 6 < recursionLimit)
    (hret : ∀ fn c x dx cf co dc pm ct oc oof oo vs tq t1 t2 t3 h' tk', Fr h₀ L h' m → News h₀ L h' ((fn, readFn w qnR co cf dc pm c ct) :: (x, instObj 45 dx) :: (dx, strmDict w t1 0 t2 t3 fn) :: (cf, oof) :: (co, oo) :: (c, oc) :: (51, tabObj (tab1 c)) :: news) →
      oc.data = .fields vs → vs[1]? = some (.str qnR tq) → oof.data = .cell (some (.ref x)) → oo.data = .cell (some (.bytes bs t)) →
      @Ne Nat dx fn → @Ne Nat dx x → @Ne Nat dx cf → @Ne Nat dx co → @Ne Nat dx c → @LT.lt Nat _ 51 co → (∀ q ∈ news, q.1 < co) → @LT.lt Nat _ co dx → @Ne Nat fn 51 → @Ne Nat x 51 → @Ne Nat cf 51 → @Ne Nat c 51 → Q (.ref x) { s with heap := h', toks := tk' }) :
    wpAny (model Challenge.rw_dw0037_01.row.prog w) (ktrTop dp un gd cn cs L a ccd cl outer) (call (.ref 56) [.bytes bs t]) Q E s := by
  w_top off
  revert X; k_fill; intro X
  refine wpAny_call ?_
  k_dflt (refine' code_defC ?k1 ?k2 ?k3 ?k4 ?k5 ?kA ?kF ?kK ?k6 ?k7 ?k8 ?k9 ?kB ?kD ?_ ?c2 ?c3 ?c4; (case kA => exact rfl); (case kF => exact rfl); (case kK => assumption); (case k1 => k_asm); (case k2 => k_asm); (case k3 => k_asm); (case k4 => k_asm); (case k5 => k_asm); (case k6 => k_is); (case k7 => k_is); (case k8 => ktr_room); (case k9 => exact BindsTo.of_eq rfl); (case kB => exact rfl); (case kD => decide +kernel); (case c2 => exact rfl); (case c3 => exact rfl); (case c4 => exact rfl); k_whole; intro g' L' h' tk' cells' FG' F' N' Y' B' X' T' l1; (try k_lt l1); (have lc1 : AllLt (L' + 1) news := tbn_up (Nat.lt_succ_self _) l1.2); (have lc2 : AllLt (L' + 1 + 1) news := tbn_up (Nat.lt_succ_self _) lc1); k_cells Y'; (try simp only [List.cons_append, List.nil_append] at N'); (try dsimp only); (try k_fold))
  k_steps
  refine' hret _ _ _ _ _ _ _ _ _ _ _ _ _ _ _ _ _ _ _ ?F (news_perm1 ?N) ?d1 ?d2 ?d3 ?d4 ?n1 ?n2 ?n3 ?n4 ?n5 ?n6 ?l ?n7 ?m1 ?m2 ?m3 ?m4
  case N => assumption
  case F => assumption
  case d1 => assumption
  case d2 => assumption
  case d3 => assumption
  case d4 => assumption
  case l => exact lt_all lc1
  all_goals (try (refine neN ?_))
  all_goals (try (refine ltN ?_))
  all_goals omega
set_option maxHeartbeats 8000000 in
theorem strm_hit {w : World} {p : Program} {loose : List Str} {mean : ExcName → Option Value} {mg mb : Str → Option Value}
    {dp un : Nat} {gd : Option (List Code)} {cn : Str} {cs : Scope} {a : Addr} {ccd : Value} {cl : List (Str × Addr)} {outer : List Env} {A₀ : Around} {base h₀ : Heap} {L : Addr} {m : Str → Option Value} {news : List (Addr × Obj)} {s : Shared} {bs : Array UInt8} {t : Tok}
    {Q E : Value → Shared → Prop} {c0 : Addr} {oc : Obj} {vs : Array Value} {tq : Tok} (hc : (c0, oc) ∈ news) (hd1 : oc.data = .fields vs) (hd2 : vs[1]? = some (.str qnR tq))
    (B : Below A₀ base outer h₀) (F : Fr h₀ L s.heap m) (X : (hd.heap_39 w.params).In h₀)
    (N : News h₀ L s.heap ((51, tabObj (tab1 c0)) :: news)) (T : Top p loose mean mg mb h₀) (C : CodeHd base 55 51) (hk : cs.kind = .function) (hn : ∀ q ∈ news, q.1 ≠ 51)
    (hdp : dp + 6 < recursionLimit)
    (hret : ∀ fn c x dx cf co dc pm ct oc oof oo vs tq t1 t2 t3 h' tk', Fr h₀ L h' m → News h₀ L h' ((fn, readFn w qnR co cf dc pm c ct) :: (x, instObj 45 dx) :: (dx, strmDict w t1 0 t2 t3 fn) :: (cf, oof) :: (co, oo) :: (c, oc) :: (51, tabObj (tab1 c)) :: news) →
      oc.data = .fields vs → vs[1]? = some (.str qnR tq) → oof.data = .cell (some (.ref x)) → oo.data = .cell (some (.bytes bs t)) →
      @Ne Nat dx fn → @Ne Nat dx x → @Ne Nat dx cf → @Ne Nat dx co → @Ne Nat dx c → @LT.lt Nat _ 51 co → (∀ q ∈ news, q.1 < co) → @LT.lt Nat _ co dx → @Ne Nat fn 51 → @Ne Nat x 51 → @Ne Nat cf 51 → @Ne Nat c 51 → c = c0 → Q (.ref x) { s with heap := h', toks := tk' }) :
    wpAny (model Challenge.rw_dw0037_01.row.prog w) (ktrTop dp un gd cn cs L a ccd cl outer) (call (.ref 56) [.bytes bs t]) Q E s := by
  w_top off
  revert X; k_fill; intro X
  refine wpAny_call ?_
  k_dflt (refine' code_defC ?k1 ?k2 ?k3 ?k4 ?k5 ?kA ?kF ?kK ?k6 ?k7 ?k8 ?k9 ?kB ?kD ?_ ?c2 ?c3 ?c4; (case kA => exact rfl); (case kF => exact rfl); (case kK => assumption); (case k1 => k_asm); (case k2 => k_asm); (case k3 => k_asm); (case k4 => k_asm); (case k5 => k_asm); (case k6 => k_is); (case k7 => k_is); (case k8 => ktr_room); (case k9 => exact BindsTo.of_eq rfl); (case kB => exact rfl); (case kD => decide +kernel); (case c2 => exact rfl); (case c3 => exact rfl); (case c4 => exact rfl); k_whole; intro g' L' h' tk' cells' FG' F' N' Y' B' X' T' l1; (try k_lt l1); (have lc1 : AllLt (L' + 1) news := tbn_up (Nat.lt_succ_self _) l1.2); (have lc2 : AllLt (L' + 1 + 1) news := tbn_up (Nat.lt_succ_self _) lc1); k_cells Y'; (try simp only [List.cons_append, List.nil_append] at N'); (try dsimp only); (try k_fold))
  k_steps
  refine' hret _ _ _ _ _ _ _ _ _ _ _ _ _ _ _ _ _ _ _ ?F (news_more1 ?N ?hc) ?d1 ?d2 ?d3 ?d4 ?n1 ?n2 ?n3 ?n4 ?n5 ?n6 ?l ?n7 ?m1 ?m2 ?m3 ?m4 rfl
  case N => assumption
  case F => assumption
  case hc => exact hc
  case d1 => assumption
  case d2 => assumption
  case d3 => assumption
  case d4 => assumption
  case l => exact lt_all lc1
  case m4 => exact hn _ hc
  case n5 => exact Ne.symm (Nat.ne_of_lt (Nat.lt_trans (lt_all lc1 _ hc) (ltN (by omega))))
  all_goals (try (refine neN ?_))
  all_goals (try (refine ltN ?_))
  all_goals omega
end Mine
end
section
open PySem PySem.W PyProof.Rows PySem.Spec PySem.Calls
set_option maxRecDepth 100000
namespace Mine
/-- the first octet that reaches too far -/
def perr : List Int → Option (Int × Int)
  | [] => none
  | n :: r => if (r.length : Int) < n then some (n, r.length) else (perr (r.take n.toNat)).or (perr (r.drop n.toNat))
termination_by ks => ks.length
decreasing_by all_goals (simp only [List.length_take, List.length_drop, List.length_cons]; omega)
inductive Forest where
  | nil
  | cons (a r : Forest)
def Forest.counts : Forest → List Int
  | .nil => []
  | .cons a r => (a.counts.length : Int) :: (a.counts ++ r.counts)
def Forest.add : Forest → Forest → Forest
  | .nil, b => .cons b .nil
  | .cons a r, b => .cons a (r.add b)
theorem Forest.counts_add (f b : Forest) : (f.add b).counts = f.counts ++ ((b.counts.length : Int) :: b.counts) := by
  induction f with
  | nil => simp [Forest.add, Forest.counts]
  | cons a r _ ih => simp [Forest.add, Forest.counts, ih, List.append_assoc]
/-- the values of a list of boxes, each a list of the ledger -/
inductive ListIn (news : List (Addr × Obj)) : List Value → Forest → Prop where
  | nil : ListIn news [] .nil
  | cons {a : Addr} {us vs : List Value} {n : Nat} {f r : Forest} : (a, listOf us.toArray n) ∈ news → ListIn news us f → ListIn news vs r → ListIn news (.ref a :: vs) (.cons f r)
theorem ListIn.mono {news news' : List (Addr × Obj)} (hs : ∀ p ∈ news, p ∈ news') {vs : List Value} {f : Forest} (h : ListIn news vs f) : ListIn news' vs f := by
  induction h with
  | nil => exact .nil
  | cons hm _ _ i1 i2 => exact .cons (hs _ hm) i1 i2
theorem ListIn.add {news : List (Addr × Obj)} {a : Addr} {us vs : List Value} {n : Nat} {f b : Forest} (h : ListIn news vs f) (hm : (a, listOf us.toArray n) ∈ news) (hb : ListIn news us b) : ListIn news (vs ++ [.ref a]) (f.add b) := by
  induction h with
  | nil => exact .cons hm hb .nil
  | cons h1 h2 _ _ i2 => exact .cons h1 h2 i2
theorem ListIn.length_le {news : List (Addr × Obj)} {vs : List Value} {f : Forest} (h : ListIn news vs f) : vs.length ≤ f.counts.length := by
  induction h with
  | nil => exact Nat.le_refl _
  | cons _ _ _ _ i2 => simp only [List.length_cons, Forest.counts, List.length_append]; omega
def BoxIn (news : List (Addr × Obj)) (v : Value) (f : Forest) : Prop := ∃ a us n, v = .ref a ∧ (a, listOf us.toArray n) ∈ news ∧ ListIn news us f
def TabSt (ps : Array Value) (news : List (Addr × Obj)) : Prop := ps = #[] ∨ ∃ c oc vs tq, ps = tab1 c ∧ (c, oc) ∈ news ∧ oc.data = .fields vs ∧ vs[1]? = some (.str qnR tq)
/-- what the loop knows behind p octets -/
structure LoopAt (ks : List Int) (p : Int) (f : Forest) : Prop where
  p0 : 0 ≤ p
  p1 : p ≤ ks.length
  told : f.counts = ks.take p.toNat
  err : perr ks = perr (ks.drop p.toNat)
theorem LoopAt.start (ks : List Int) : LoopAt ks 0 .nil := ⟨Int.le_refl _, by omega, by simp [Forest.counts], by simp⟩
theorem drop_at {ks : List Int} {p : Int} (h0 : 0 ≤ p) (h1 : p < ks.length) : ks.drop p.toNat = ks.getD p.toNat 0 :: ks.drop (p + 1).toNat := by
  have e : (p + 1).toNat = p.toNat + 1 := by omega
  have h : p.toNat < ks.length := by omega
  rw [e, List.drop_eq_getElem_cons h]
  simp [List.getD, h]
theorem LoopAt.short {ks : List Int} {p n r : Int} {f : Forest} (h : LoopAt ks p f) (hp : p < ks.length) (hn : n = ks.getD p.toNat 0) (hr : r = (ks.length : Int) - (p + 1)) (hl : r < n) : perr ks = some (n, r) := by
  have hp0 := h.p0
  rw [h.err, drop_at h.p0 hp, perr, ← hn]
  have e : ((ks.drop (p + 1).toNat).length : Int) = r := by rw [List.length_drop]; omega
  rw [e, if_pos hl]
theorem LoopAt.inner {ks ls : List Int} {p n p' : Int} {f : Forest} {e : Int × Int} (h : LoopAt ks p f) (hp : p < ks.length) (hn : n = ks.getD p.toNat 0) (h0 : 0 ≤ n) (hp' : p' = p + 1 + n) (hle : p' ≤ ks.length) (hi : ls = (ks.drop (p + 1).toNat).take n.toNat) (he : perr ls = some e) : perr ks = some e := by
  have hp0 := h.p0
  rw [h.err, drop_at h.p0 hp, perr, ← hn, ← hi, he]
  have e : ¬ ((ks.drop (p + 1).toNat).length : Int) < n := by rw [List.length_drop]; omega
  rw [if_neg e]; rfl
theorem LoopAt.next {ks ls : List Int} {p n p' : Int} {f b : Forest} (h : LoopAt ks p f) (hp : p < ks.length) (hn : n = ks.getD p.toNat 0) (h0 : 0 ≤ n) (hp' : p' = p + 1 + n) (hle : p' ≤ ks.length) (hi : ls = (ks.drop (p + 1).toNat).take n.toNat) (he : perr ls = none) (hb : b.counts = ls) : LoopAt ks p' (f.add b) := by
  have hp0 := h.p0
  have e : ¬ ((ks.drop (p + 1).toNat).length : Int) < n := by rw [List.length_drop]; omega
  have ed : (ks.drop (p + 1).toNat).drop n.toNat = ks.drop p'.toNat := by
    rw [List.drop_drop]; congr 1; omega
  have hd := drop_at h.p0 hp
  have hlen : ls.length = n.toNat := by rw [hi, List.length_take, List.length_drop]; omega
  refine ⟨by omega, hle, ?_, ?_⟩
  · rw [Forest.counts_add, h.told, hb, hlen]
    have e1 : p'.toNat = p.toNat + (n.toNat + 1) := by omega
    rw [e1, List.take_add, hd, List.take_succ_cons, ← hi, ← hn]
    have e2 : (n.toNat : Int) = n := by omega
    rw [e2]
  · rw [h.err, hd, perr, ← hn, ← hi, he, if_neg e, ed]; rfl
theorem LoopAt.end {ks : List Int} {p : Int} {f : Forest} (h : LoopAt ks p f) (he : (ks.length : Int) ≤ p) : f.counts = ks ∧ perr ks = none := by
  have h1 := h.p1
  have e : p.toNat = ks.length := by omega
  refine ⟨by rw [h.told, e, List.take_length], ?_⟩
  rw [h.err, e, List.drop_length, perr]
theorem inner_len {ks ls : List Int} {p n : Int} (h0 : 0 ≤ p) (hp : p < ks.length) (hi : ls = (ks.drop (p + 1).toNat).take n.toNat) : ls.length < ks.length := by
  rw [hi, List.length_take, List.length_drop]; omega
end Mine
end
section
open PySem PySem.W PyProof.Rows PySem.Spec PySem.Calls
set_option maxRecDepth 100000
namespace Mine
theorem rsize_nat (n : Nat) : Builtin.Range.rangeSize 0 (n : Int) 1 = (n : Int) := by
  unfold Builtin.Range.rangeSize
  simp only [show ((1 : Int) > 0) by decide, if_true, Int.ediv_one]
  split <;> omega
section
variable {prog : Program} {w : World} {A : Around} {E : Value → Shared → Prop} {s : Shared} {env : Env} {h₀ : Heap} {x : Str} {body : List Stmt} {Q : Flow → Shared → Prop}
/-- the explicit part of the ledger in the loop of the boxes -/
abbrev bxLed (e1 e2 e4 e5 e6 : Addr × Obj) (dx : Addr) (D : Int → Tok → Obj) (c51 : Obj) (lb : Addr) (p : Int) (t2 : Tok) (vs : List Value) (n : Nat) (R : List (Addr × Obj)) : List (Addr × Obj) :=
  e1 :: e2 :: (dx, D p t2) :: e4 :: e5 :: e6 :: (51, c51) :: (lb, listOf vs.toArray n) :: R
def BxEnd (ks : List Int) (m₀ : Str → Option Value) (Led : Int → Tok → List Value → Nat → List (Addr × Obj) → List (Addr × Obj)) (p : Int) (f : Forest) (vs : List Value) (R : List (Addr × Obj)) (h₀ : Heap) (L : Addr) (x : Str) (lb : Addr) (s₁ s₂ : Shared) : Prop :=
  ∃ h' tk m' p' f' vs' n' t2' tl', s₂ = { s₁ with heap := h', toks := tk } ∧ Fr h₀ L h' m' ∧ (∀ z, z ≠ x → m' z = m₀ z) ∧ News h₀ L h' (Led p' t2' vs' n' (tl' ++ R)) ∧ LoopAt ks p' f' ∧
    ((tl' = [] ∧ vs' = vs ∧ f' = f ∧ (ks.length : Int) ≤ p') ∨ (p < p' ∧ ∃ a us nn b, vs' = vs ++ [.ref a] ∧ f' = f.add b ∧ (a, listOf us.toArray nn) ∈ tl' ∧ ListIn tl' us b)) ∧ (∀ q ∈ tl', lb < q.1 ∧ ∀ r ∈ R, r.1 < q.1)
def BxPost (ks : List Int) (m₀ : Str → Option Value) (Led : Int → Tok → List Value → Nat → List (Addr × Obj) → List (Addr × Obj)) (p : Int) (f : Forest) (vs : List Value) (R : List (Addr × Obj)) (h₀ : Heap) (L : Addr) (x : Str) (lb : Addr) (s₁ : Shared) (fl : Flow) (s₂ : Shared) : Prop :=
  match fl with
  | .ret _ => False
  | .brk => False
  | _ => BxEnd ks m₀ Led p f vs R h₀ L x lb s₁ s₂
theorem boxes_iter {r lb dx : Addr} {t₀ u₀ v₀ t₂ : Tok} {m₀ : Str → Option Value} {news : List (Addr × Obj)} {ks : List Int} {e1 e2 e4 e5 e6 : Addr × Obj} {D : Int → Tok → Obj} {c51 : Obj} {co : Nat}
    (hh : A.handled = none) (hr : IsRange s.heap r 0 (ks.length : Int) 1 t₀ u₀ v₀) (hb : ks.length ≤ 63) (F : Fr h₀ env.locals s.heap m₀)
    (N : News h₀ env.locals s.heap ((lb, listOf #[] 0) :: e1 :: e2 :: (dx, D 0 t₂) :: e4 :: e5 :: e6 :: (51, c51) :: news))
    (hdl : @LT.lt Nat _ dx lb) (hcd : @LT.lt Nat _ co dx) (h51 : @LT.lt Nat _ 51 co) (hlo : ∀ q ∈ news, q.1 < co) (hn : ∀ q ∈ news, q.1 ≠ 51)
    (turn : ∀ kv tv p f vs n R t2 tl h tk, LoopAt ks p f → ListIn tl vs f → (∀ q ∈ R, q.1 ≠ dx) → (∀ q ∈ R, q.1 ≠ lb) → (∀ q ∈ R, q.1 ≠ 51) → vs.length ≤ 63 →
      Fr h₀ env.locals h (fun y => if y = x then some (.int kv tv) else m₀ y) → News h₀ env.locals h (bxLed e1 e2 e4 e5 e6 dx D c51 lb p t2 vs n R) →
      wpAny (model prog w) A (execs body env) (BxPost ks m₀ (bxLed e1 e2 e4 e5 e6 dx D c51 lb) p f vs R h₀ env.locals x lb { s with heap := h, toks := tk }) E { s with heap := h, toks := tk })
    (done : ∀ (u : Str → Option Value) f vs n tl h tk, f.counts = ks → perr ks = none → ListIn tl vs f → (∀ q ∈ tl, lb < q.1) → Fr h₀ env.locals h (fun z => if z = x then u z else m₀ z) → News h₀ env.locals h ((lb, listOf vs.toArray n) :: (51, c51) :: e6 :: (tl ++ news)) → Q .next { s with heap := h, toks := tk }) :
    wpAny (model prog w) A (pyIter (.ref r)) (fun it s₂ => LoopAtV prog w A h₀ env x body Q E it s₂) E s := by
  have h51d : @LT.lt Nat _ 51 dx := Nat.lt_trans h51 hcd
  have h51l : @LT.lt Nat _ 51 lb := Nat.lt_trans h51d hdl
  have hnews : ∀ q ∈ news, q.1 ≠ dx ∧ q.1 ≠ lb ∧ q.1 ≠ 51 := fun q hq => by
    have h1 : @LT.lt Nat _ q.1 co := hlo q hq
    exact ⟨Nat.ne_of_lt (Nat.lt_trans h1 hcd), Nat.ne_of_lt (Nat.lt_trans h1 (Nat.lt_trans hcd hdl)), hn q hq⟩
  refine tbr_invG (n := ks.length)
    (fun i m nx => ∃ p f vs n t2 tl, nx = bxLed e1 e2 e4 e5 e6 dx D c51 lb p t2 vs n (tl ++ news) ∧ (∀ z, z ≠ x → m z = m₀ z) ∧ LoopAt ks p f ∧ ListIn tl vs f ∧ ((i : Int) ≤ p ∨ (ks.length : Int) ≤ p) ∧ ∀ q ∈ tl, lb < q.1)
    hh hr (small_one (by omega) (by omega) (by omega) (by omega)) (rsize_nat _) F (kst_newsOf N (by intro q hq; simp only [bxLed, List.nil_append, List.mem_cons] at hq ⊢; rcases hq with h | h | h | h | h | h | h | h | h <;> simp [h]))
    ⟨0, .nil, [], 0, t₂, [], rfl, fun _ _ => rfl, LoopAt.start ks, .nil, .inl (by simp), fun _ h => nomatch h⟩ ?_ ?_
  · rintro i k t m₁ nx h tk own hk hoff ⟨p, f, vs, n, t2, tl, rfl, hm, hL, hI, hi, hl⟩ F₁ N₁
    have em : (fun y => if y = x then some (Value.int k t) else m₁ y) = fun y => if y = x then some (Value.int k t) else m₀ y := by
      funext z
      by_cases h1 : z = x
      · simp [h1]
      · simp only [if_neg h1]; exact hm z h1
    rw [em] at F₁
    have N₂ : News h₀ env.locals h (bxLed e1 e2 e4 e5 e6 dx D c51 lb p t2 vs n (tl ++ (news ++ own))) := kst_newsOf N₁ (by intro q hq; simp only [bxLed, List.cons_append, List.append_assoc] at hq ⊢; exact hq)
    have hR : ∀ q ∈ tl ++ (news ++ own), q.1 ≠ dx ∧ q.1 ≠ lb ∧ q.1 ≠ 51 := by
      intro q hq
      rcases List.mem_append.mp hq with hq | hq
      · have h1 : @LT.lt Nat _ lb q.1 := hl q hq
        exact ⟨Nat.ne_of_gt (Nat.lt_trans hdl h1), Nat.ne_of_gt h1, Nat.ne_of_gt (Nat.lt_trans h51l h1)⟩
      · rcases List.mem_append.mp hq with hq | hq
        · exact hnews q hq
        · exact ⟨hoff q hq (dx, D p t2) (by simp [bxLed]), hoff q hq (lb, listOf vs.toArray n) (by simp [bxLed]), hoff q hq (51, c51) (by simp [bxLed])⟩
    have hlen : vs.length ≤ 63 := by
      have h1 := hI.length_le
      rw [hL.told, List.length_take] at h1
      omega
    refine wpAny_mono (turn k t p f vs n (tl ++ (news ++ own)) t2 tl h tk hL hI (fun q hq => (hR q hq).1) (fun q hq => (hR q hq).2.1) (fun q hq => (hR q hq).2.2) hlen F₁ N₂) (fun fl s₂ P => ?_) fun _ _ e => e
    have fin : BxEnd ks m₀ (bxLed e1 e2 e4 e5 e6 dx D c51 lb) p f vs (tl ++ (news ++ own)) h₀ env.locals x lb { s with heap := h, toks := tk } s₂ →
        TbEnd h₀ env.locals (fun m nx => ∃ p f vs n t2 tl, nx = bxLed e1 e2 e4 e5 e6 dx D c51 lb p t2 vs n (tl ++ news) ∧ (∀ z, z ≠ x → m z = m₀ z) ∧ LoopAt ks p f ∧ ListIn tl vs f ∧ (((i + 1 : Nat) : Int) ≤ p ∨ (ks.length : Int) ≤ p) ∧ ∀ q ∈ tl, lb < q.1) own { s with heap := h, toks := tk } s₂ := by
      rintro ⟨h', tk', m', p', f', vs', n', t2', tl', e, F', hm', N', hL', hc, hl'⟩
      refine ⟨h', tk', m', _, bxLed e1 e2 e4 e5 e6 dx D c51 lb p' t2' vs' n' ((tl' ++ tl) ++ news), e, F', N', ?_, ?_, ?_, p', f', vs', n', t2', tl' ++ tl, rfl, hm', hL', ?_, ?_, ?_⟩
      · intro q hq
        simp only [bxLed, List.mem_cons, List.mem_append] at hq ⊢
        rcases hq with h | h | h | h | h | h | h | h | (h | h) | h <;> simp [h]
      · intro q hq
        simp only [bxLed, List.mem_cons, List.mem_append]
        simp [hq]
      · intro q hq r hr
        simp only [bxLed, List.mem_cons, List.mem_append] at hr
        have hin : q ∈ tl ++ (news ++ own) := by simp [hq]
        have low : ∀ r' ∈ tl', r'.1 ≠ q.1 := fun r' hr' => Nat.ne_of_gt ((hl' r' hr').2 q hin)
        rcases hr with rfl | rfl | rfl | rfl | rfl | rfl | rfl | rfl | (h | h) | h
        · exact hoff q hq _ (by simp [bxLed])
        · exact hoff q hq _ (by simp [bxLed])
        · exact hoff q hq (dx, D p t2) (by simp [bxLed])
        · exact hoff q hq _ (by simp [bxLed])
        · exact hoff q hq _ (by simp [bxLed])
        · exact hoff q hq _ (by simp [bxLed])
        · exact hoff q hq (51, c51) (by simp [bxLed])
        · exact hoff q hq (lb, listOf vs.toArray n) (by simp [bxLed])
        · exact (low r h).symm
        · exact hoff q hq r (by simp [bxLed, h])
        · exact hoff q hq r (by simp [bxLed, h])
      · rcases hc with ⟨rfl, rfl, rfl, _⟩ | ⟨_, a, us, nn, b, rfl, rfl, ha, hb'⟩
        · exact hI
        · exact ListIn.add (hI.mono fun q hq => List.mem_append.mpr (.inr hq)) (List.mem_append.mpr (.inl ha)) (hb'.mono fun q hq => List.mem_append.mpr (.inl hq))
      · rcases hc with ⟨_, _, _, h9⟩ | ⟨h9, _⟩
        · exact .inr h9
        · rcases hi with hi | hi
          · exact .inl (by omega)
          · exact .inr (by omega)
      · intro q hq
        rcases List.mem_append.mp hq with hq | hq
        · exact (hl' q hq).1
        · exact hl q hq
    cases fl with
    | ret v => exact P.elim
    | brk => exact P.elim
    | next => exact fin P
    | cont => exact fin P
  · rintro m₁ nx h tk ⟨p, f, vs, n, t2, tl, rfl, hm, hL, hI, hi, hl⟩ F₁ N₁
    have he : (ks.length : Int) ≤ p := by rcases hi with hi | hi <;> omega
    obtain ⟨h1, h2⟩ := hL.end he
    refine done m₁ f vs n tl h tk h1 h2 hI hl ?_ (kst_newsOf N₁ ?_)
    · have e : (fun z => if z = x then m₁ z else m₀ z) = m₁ := by
        funext z
        by_cases h1 : z = x
        · simp [h1]
        · simp only [if_neg h1]; exact (hm z h1).symm
      rw [e]; exact F₁
    · intro q hq
      simp only [bxLed, List.mem_cons, List.mem_append] at hq ⊢
      rcases hq with h | h | h | h | h <;> simp [h]
end
end Mine
end
section
open PySem PySem.W PyProof.Rows PySem.Spec PySem.Calls
set_option maxRecDepth 100000
namespace Mine
local macro_rules | `(tactic| k_room) => `(tactic| ktr_room)
local macro_rules | `(tactic| k_all) => `(tactic| first | assumption | exact ne_low (by assumption) (by omega))
theorem strm_call {w : World} {p : Program} {loose : List Str} {mean : ExcName → Option Value} {mg mb : Str → Option Value}
    {dp un : Nat} {gd : Option (List Code)} {cn : Str} {cs : Scope} {a : Addr} {ccd : Value} {cl : List (Str × Addr)} {outer : List Env} {A₀ : Around} {base h₀ : Heap} {L : Addr} {m : Str → Option Value} {news : List (Addr × Obj)} {s : Shared} {bs : Array UInt8} {t : Tok}
    {Q E : Value → Shared → Prop} {ps : Array Value}
    (B : Below A₀ base outer h₀) (F : Fr h₀ L s.heap m) (X : (hd.heap_39 w.params).In h₀)
    (N : News h₀ L s.heap ((51, tabObj ps) :: news)) (T : Top p loose mean mg mb h₀) (C : CodeHd base 55 51) (hk : cs.kind = .function) (hn : ∀ q ∈ news, q.1 ≠ 51) (ht : TabSt ps news)
    (hdp : dp + 6 < recursionLimit)
    (hret : ∀ fn c x dx cf co dc pm ct oc oof oo vs tq t1 t2 t3 h' tk', Fr h₀ L h' m → News h₀ L h' ((fn, readFn w qnR co cf dc pm c ct) :: (x, instObj 45 dx) :: (dx, strmDict w t1 0 t2 t3 fn) :: (cf, oof) :: (co, oo) :: (c, oc) :: (51, tabObj (tab1 c)) :: news) →
      oc.data = .fields vs → vs[1]? = some (.str qnR tq) → oof.data = .cell (some (.ref x)) → oo.data = .cell (some (.bytes bs t)) →
      @Ne Nat dx fn → @Ne Nat dx x → @Ne Nat dx cf → @Ne Nat dx co → @Ne Nat dx c → @LT.lt Nat _ 51 co → (∀ q ∈ news, q.1 < co) → @LT.lt Nat _ co dx → @Ne Nat fn 51 → @Ne Nat x 51 → @Ne Nat cf 51 → @Ne Nat c 51 → (ps = #[] ∨ ps = tab1 c) → Q (.ref x) { s with heap := h', toks := tk' }) :
    wpAny (model Challenge.rw_dw0037_01.row.prog w) (ktrTop dp un gd cn cs L a ccd cl outer) (call (.ref 56) [.bytes bs t]) Q E s := by
  rcases ht with rfl | ⟨c, oc, vs, tq, rfl, hc, h1, h2⟩
  · exact strm_first B F X N T C hk hn hdp fun _ _ _ _ _ _ _ _ _ _ _ _ _ _ _ _ _ _ _ a1 a2 a3 a4 a5 a6 a7 a8 a9 b1 b2 b3 b4 b5 b6 b7 b8 b9 => hret _ _ _ _ _ _ _ _ _ _ _ _ _ _ _ _ _ _ _ a1 a2 a3 a4 a5 a6 a7 a8 a9 b1 b2 b3 b4 b5 b6 b7 b8 b9 (.inl rfl)
  · exact strm_hit hc h1 h2 B F X N T C hk hn hdp fun _ _ _ _ _ _ _ _ _ _ _ _ _ _ _ _ _ _ _ a1 a2 a3 a4 a5 a6 a7 a8 a9 b1 b2 b3 b4 b5 b6 b7 b8 b9 e => hret _ _ _ _ _ _ _ _ _ _ _ _ _ _ _ _ _ _ _ a1 a2 a3 a4 a5 a6 a7 a8 a9 b1 b2 b3 b4 b5 b6 b7 b8 b9 (.inr (by rw [e]))
def BoxesOk (w : World) (ks : List Int) : Prop :=
  ∀ {p : Program} {loose : List Str} {mean : ExcName → Option Value} {mg mb : Str → Option Value}
    {dp un : Nat} {gd : Option (List Code)} {cn : Str} {cs : Scope} {a : Addr} {ccd : Value} {cl : List (Str × Addr)} {outer : List Env} {A₀ : Around} {base h₀ : Heap} {L : Addr} {m : Str → Option Value} {news : List (Addr × Obj)} {s : Shared} {bs : Array UInt8} {t : Tok}
    {Q E : Value → Shared → Prop} {ps : Array Value}
    (_ : Below A₀ base outer h₀) (_ : Fr h₀ L s.heap m) (_ : (hd.heap_39 w.params).In h₀)
    (_ : News h₀ L s.heap ((51, tabObj ps) :: news)) (_ : Top p loose mean mg mb h₀) (_ : CodeHd base 55 51) (_ : cs.kind = .function) (_ : ∀ q ∈ news, q.1 ≠ 51) (_ : TabSt ps news)
    (_ : KBw.bInts bs = ks) (_ : ks.length ≤ 63) (_ : dp + ks.length + 10 < recursionLimit)
    (_ : ∀ b c oc tl f h' tk', Fr h₀ L h' m → News h₀ L h' ((51, tabObj (tab1 c)) :: (c, oc) :: (tl ++ news)) → (ps = #[] ∨ ps = tab1 c) → BoxIn tl (.ref b) f → f.counts = ks → perr ks = none → (∀ q ∈ tl, ∀ r ∈ news, r.1 < q.1) → Q (.ref b) { s with heap := h', toks := tk' })
    (_ : ∀ e tx tm n r c h' tk', perr ks = some (n, r) → RaisedK base (envX cn cs L a ccd cl :: outer) e (.type "ValueError") tx [.str (msgOf n r) tm] [(51, tabObj (tab1 c))] h' → (∃ g, Fr h₀ L g m ∧ g.UpToSlots h') → E (.ref e) { s with heap := h', toks := tk' }),
    wpAny (model Challenge.rw_dw0037_01.row.prog w) (ktrTop dp un gd cn cs L a ccd cl outer) (call (.ref 70) [.bytes bs t]) Q E s
theorem inner_use {w : World} {ks ls : List Int} (IH : ∀ ls : List Int, ls.length < ks.length → BoxesOk w ls) {p : Program} {loose : List Str} {mean : ExcName → Option Value} {mg mb : Str → Option Value}
    {dp un : Nat} {gd : Option (List Code)} {cn : Str} {cs : Scope} {a : Addr} {ccd : Value} {cl : List (Str × Addr)} {outer : List Env} {A₀ : Around} {base h₀ : Heap} {L : Addr} {m : Str → Option Value} {s : Shared} {bs : Array UInt8} {t : Tok}
    {Q E : Value → Shared → Prop} {a1 a2 a4 a5 c dx lb : Addr} {o1 o2 o4 o5 oc : Obj} {o3 : Obj} {vs : List Value} {n : Nat} {R : List (Addr × Obj)} {vc : Array Value} {tq : Tok}
    (B : Below A₀ base outer h₀) (F : Fr h₀ L s.heap m) (X : (hd.heap_39 w.params).In h₀)
    (N : News h₀ L s.heap ((a1, o1) :: (a2, o2) :: (dx, o3) :: (a4, o4) :: (a5, o5) :: (c, oc) :: (51, tabObj (tab1 c)) :: (lb, listOf vs.toArray n) :: R)) (T : Top p loose mean mg mb h₀) (C : CodeHd base 55 51) (hk : cs.kind = .function)
    (h1 : @Ne Nat a1 51) (h2 : @Ne Nat a2 51) (h4 : @Ne Nat a4 51) (h5 : @LT.lt Nat _ 51 a5) (h6 : @Ne Nat c 51) (hdx : @LT.lt Nat _ a5 dx) (hlb : @LT.lt Nat _ dx lb) (hR : ∀ q ∈ R, q.1 ≠ 51) (hRl : ∀ q ∈ R, q.1 ≠ lb)
    (hc1 : oc.data = .fields vc) (hc2 : vc[1]? = some (.str qnR tq))
    (hbi : KBw.bInts bs = ls) (hlt : ls.length < ks.length) (hb : ks.length ≤ 63) (hdp : dp + ks.length + 9 < recursionLimit)
    (ret : ∀ b us nn tl f h' tk', Fr h₀ L h' m → News h₀ L h' ((a1, o1) :: (a2, o2) :: (dx, o3) :: (a4, o4) :: (a5, o5) :: (c, oc) :: (51, tabObj (tab1 c)) :: (lb, listOf vs.toArray n) :: (tl ++ R)) → (b, listOf us.toArray nn) ∈ tl → ListIn tl us f → f.counts = ls → perr ls = none → (∀ q ∈ tl, lb < q.1 ∧ ∀ r ∈ R, r.1 < q.1) → (∀ q ∈ tl ++ R, q.1 ≠ lb) → Q (.ref b) { s with heap := h', toks := tk' })
    (raise : ∀ e tx tm n r c h' tk', perr ls = some (n, r) → RaisedK base (envX cn cs L a ccd cl :: outer) e (.type "ValueError") tx [.str (msgOf n r) tm] [(51, tabObj (tab1 c))] h' → (∃ g, Fr h₀ L g m ∧ g.UpToSlots h') → E (.ref e) { s with heap := h', toks := tk' }) :
    wpAny (model Challenge.rw_dw0037_01.row.prog w) (ktrTop dp un gd cn cs L a ccd cl outer) (call (.ref 70) [.bytes bs t]) Q E s := by
  have h51l : @LT.lt Nat _ 51 lb := Nat.lt_trans (Nat.lt_trans h5 hdx) hlb
  refine IH ls hlt (news := (a1, o1) :: (a2, o2) :: (dx, o3) :: (a4, o4) :: (a5, o5) :: (c, oc) :: (lb, listOf vs.toArray n) :: R) B F X (kst_newsOf N ?_) T C hk ?_ (.inr ⟨c, oc, vc, tq, rfl, by simp, hc1, hc2⟩) hbi (by omega) (by omega) ?_ raise
  · intro q hq
    simp only [List.mem_cons] at hq ⊢
    rcases hq with h | h | h | h | h | h | h | h | h <;> simp [h]
  · intro q hq
    simp only [List.mem_cons] at hq
    rcases hq with rfl | rfl | rfl | rfl | rfl | rfl | rfl | h
    · exact h1
    · exact h2
    · exact Nat.ne_of_gt (Nat.lt_trans h5 hdx)
    · exact h4
    · exact Nat.ne_of_gt h5
    · exact h6
    · exact Nat.ne_of_gt h51l
    · exact hR q h
  · rintro b c' oc' tl f h' tk' F' N' hp ⟨b', us, nn, eb, hb', hI⟩ hf he hl
    cases eb
    have ec : c' = c := by
      rcases hp with hp | hp
      · exact absurd (congrArg Array.size hp) (by simp)
      · have := congrArg (fun q => q[2]?) hp
        simpa using this.symm
    subst ec
    have hl1 : ∀ q ∈ tl, lb < q.1 := fun q hq => hl q hq (lb, listOf vs.toArray n) (by simp)
    refine ret b us nn tl f h' tk' F' (kst_newsOf N' ?_) hb' hI hf he (fun q hq => ⟨hl1 q hq, fun r hr => hl q hq r (by simp [hr])⟩) ?_
    · intro q hq
      simp only [List.mem_cons, List.mem_append] at hq ⊢
      rcases hq with h | h | h | h | h | h | h | h | h | h <;> simp [h]
    · intro q hq
      rcases List.mem_append.mp hq with hq | hq
      · exact Nat.ne_of_gt (hl1 q hq)
      · exact hRl q hq
end Mine
end
section
open PySem PySem.W PyProof.Rows PySem.Spec PySem.Calls
set_option maxRecDepth 100000
namespace Mine
local macro_rules | `(tactic| k_room) => `(tactic| ktr_room)
local macro_rules | `(tactic| k_all) => `(tactic| first | assumption | exact ne_low (by assumption) (by omega))
theorem bx_ne {a b d : Nat} {o1 o2 : Obj} {R : List (Addr × Obj)} (h1 : a ≠ d) (h2 : b ≠ d) (h : ∀ q ∈ R, q.1 ≠ d) : ∀ q ∈ (a, o1) :: (b, o2) :: R, q.1 ≠ d := List.forall_mem_cons.mpr ⟨h1, List.forall_mem_cons.mpr ⟨h2, h⟩⟩
theorem bx_fin {h₀ h : Heap} {L : Addr} {l t c : Addr × Obj} {tl news : List (Addr × Obj)} (N : News h₀ L h (l :: t :: c :: (tl ++ news))) : News h₀ L h (t :: c :: ((l :: tl) ++ news)) := kst_newsOf N (by intro q hq; simp only [List.mem_cons, List.mem_append] at hq ⊢; rcases hq with h | h | (h | h) | h <;> simp [h])
def Stop (P : Prop) : Prop := P
theorem Stop.of {P : Prop} (h : Stop P) : P := h
local macro_rules | `(tactic| walk_at "call ref") => `(tactic| (refine Stop.of ?_))
local macro_rules | `(tactic| walk_at "call ref") => `(tactic| (k_here; k_dflt (refine' strm_call ?k1 ?k2 ?k3 ?k4 ?k5 ?kC ?kk ?hn ?ht ?d1 ?_; (case k1 => k_asm); (case k2 => k_asm); (case k3 => k_asm); (case k4 => k_asm); (case k5 => k_asm); (case kC => assumption); (case kk => first | rfl | assumption); (case hn => assumption); (case ht => assumption); (case d1 => ktr_room)); intro fn9 c9 x9 dx9 cf9 co9 dc9 pm9 ct9 oc9 oof9 oo9 vs9 tq9 t19 t29 t39 h9 tk9 F9 N9 hc19 hc29 hcf9 hco9 n19 n29 n39 n49 n59 n69 lo9 n79 m19 m29 m39 m49 hp9; (try dsimp only); (try k_fold)))
local macro_rules | `(tactic| walk_at "call ref") => `(tactic| (k_here; k_dflt (refine' bytes1_call ?k1 ?k2 ?k3 ?k4 ?k5 ?kC ?kk ?c1 ?c2 ?c3 ?c4 ?n1 ?n2 ?n3 ?n4 ?n5 ?n6 ?b1 ?b2 ?b3 ?b5 ?d1 ?ret ?rse; (case k1 => k_asm); (case k2 => k_asm); (case k3 => k_asm); (case k4 => k_asm); (case k5 => k_asm); (case kC => assumption); (case kk => first | rfl | assumption); (case c1 => assumption); (case c2 => assumption); (case c3 => assumption); (case c4 => assumption); (case n1 => assumption); (case n2 => assumption); (case n3 => assumption); (case n4 => assumption); (case n5 => assumption); (case n6 => exact bx_ne (by refine neN ?_; omega) (by refine neN ?_; omega) (by assumption)); (case b1 => assumption); (case b2 => omega); (case b3 => omega); (case b5 => assumption); (case d1 => ktr_room)); (case' rse => (intro e9 tx9 tm9 n9 r9 h9 tk9 en9 hlo9 er9 hlt9 R9 U9; obtain ⟨g9, F9, U9⟩ := U9)); (case' ret => (intro b9 tb9 kk9 t9 h9 tk9 F9 N9 n9 en9 hlo9 ek9 hle9 hb9)); (all_goals (try dsimp only)); (all_goals (try k_fold))))
local macro_rules | `(tactic| walk_at "inner here") => `(tactic| (k_here; k_dflt (refine' inner_use ?IH ?k1 ?k2 ?k3 ?k4 ?k5 ?kC ?kk ?h1 ?h2 ?h4 ?h5 ?h6 ?hdx ?hlb ?hR ?hRl ?c1 ?c2 ?b1 ?hlt ?b5 ?d1 ?ret ?rse; (case IH => assumption); (case k1 => k_asm); (case k2 => k_asm); (case k3 => k_asm); (case k4 => k_asm); (case k5 => k_asm); (case kC => assumption); (case kk => first | rfl | assumption); (case h1 => assumption); (case h2 => assumption); (case h4 => assumption); (case h5 => assumption); (case h6 => assumption); (case hdx => assumption); (case hlb => (refine ltN ?_; omega)); (case hR => assumption); (case hRl => assumption); (case c1 => assumption); (case c2 => assumption); (case b1 => assumption); (case hlt => exact inner_len (by assumption) (by assumption) rfl); (case b5 => assumption); (case d1 => ktr_room); (case' rse => (intro e9 tx9 tm9 nn9 r9 c9r h9 tk9 pe9 R9 U9; obtain ⟨g9, F9, U9⟩ := U9)); (case' ret => (intro bx9 us9 nn9 tl9 f9 h9 tk9 F9 N9 hm9 hI9 hf9 pe9 hl9 hRl9)); (all_goals (try dsimp only)); (all_goals (try k_fold)))))
local macro_rules | `(tactic| walk_at "pyIter ref") => `(tactic| (refine Stop.of ?_))
set_option maxHeartbeats 8000000 in
theorem boxes_step {w : World} {ks : List Int} (IH : ∀ ls : List Int, ls.length < ks.length → BoxesOk w ls) : BoxesOk w ks := by
  intro p loose mean mg mb dp un gd cn cs a ccd cl outer A₀ base h₀ L m news s bs t Q E ps B F X N T C hk hn ht hbi hb hdp hret hraise
  w_top off
  revert X; k_fill; intro X
  refine wpAny_call ?_
  k_dflt ktr_enter
  k_steps
  unfold Stop
  rename News _ _ _ _ => lN'
  rename Fr _ _ _ _ => lF'
  rename IsRange _ _ _ _ _ _ _ _ => rgX
  rename ∀ q ∈ news, q.1 < _ => lo9
  rename (ps = #[] ∨ ps = tab1 _) => hp9
  k_dflt (refine' boxes_iter (D := fun k t => strmDict w _ k t _ _) ?hh rgX hb lF' lN' ?i1 ?i2 ?i3 lo9 hn ?turn ?done; (case hh => rfl); (case i1 => (refine ltN ?_; omega)); (case i2 => assumption); (case i3 => assumption))
  case turn =>
    intro kv tv p f vs n R t2 tl h tk hL hI hRd hRl hR5 hvl F' N'
    clear lF' lN' rgX
    have hp0 := hL.p0
    have hp1 := hL.p1
    (try dsimp only [bxLed] at N')
    (try dsimp only); (try k_fold)
    k_steps
    · unfold Stop
      walk_at "inner here"
      all_goals k_steps
      · rename News _ _ _ _ => N9
        simp only [List.push_toArray] at N9
        dsimp only [BxPost]
        refine ⟨_, _, _, _, _, _, _, _, _, rfl, by assumption, ?_, N9, hL.next (by assumption) (by assumption) (by assumption) (by assumption) (by assumption) rfl (by assumption) (by assumption), .inr ⟨by omega, _, _, _, _, rfl, rfl, by assumption, by assumption⟩, by assumption⟩
        intro z hz
        simp only [if_neg hz]
      · exact hraise _ _ _ _ _ _ _ _ (hL.inner (by assumption) (by assumption) (by assumption) (by assumption) (by assumption) rfl (by assumption)) (by assumption) ⟨_, by assumption, by assumption⟩
    · exact hraise _ _ _ _ _ _ _ _ (hL.short (by assumption) (by assumption) (by assumption) (by assumption)) (raised_sub (by assumption) (fun q hq => List.mem_cons.mpr (.inl (List.mem_singleton.mp hq)))) ⟨_, by assumption, by assumption⟩
    · dsimp only [BxPost]
      refine ⟨_, _, _, _, _, _, _, _, [], rfl, by assumption, ?_, by assumption, hL, .inl ⟨rfl, rfl, rfl, by omega⟩, fun _ h => nomatch h⟩
      intro z hz
      simp only [if_neg hz]
  case done =>
    intro u f vs n tl h tk hf he hI hl F' N'
    clear lF' lN' rgX
    (try dsimp only); (try k_fold)
    k_steps
    rename News h₀ _ _ _ => N9
    refine hret _ _ _ ((_, listOf vs.toArray n) :: tl) f _ _ (by k_asm) (bx_fin N9) hp9 ⟨_, vs, n, rfl, .head _, hI.mono fun q hq => .tail _ hq⟩ hf he ?_
    · intro q hq r hr
      have h1 : r.1 < _ := lo9 r hr
      rcases List.mem_cons.mp hq with rfl | hq
      · refine Nat.lt_trans h1 (ltN ?_); omega
      · refine Nat.lt_trans h1 (Nat.lt_trans (ltN ?_) (hl q hq)); omega
theorem boxes_ok (w : World) : ∀ ks, BoxesOk w ks := by
  have all : ∀ n, ∀ ks : List Int, ks.length < n → BoxesOk w ks := by
    intro n
    induction n with
    | zero => intro ks h; exact absurd h (Nat.not_lt_zero _)
    | succ n ih => exact fun ks h => boxes_step fun ls hl => ih ls (Nat.lt_of_lt_of_le hl (Nat.le_of_lt_succ h))
  exact fun ks => all _ ks (Nat.lt_succ_self _)
end Mine
end
section
open PySem PySem.W PyProof.Rows PySem.Spec PySem.Calls
set_option maxRecDepth 100000
namespace Mine
def Forest.pre : Nat → Forest → Forest
  | 0, _ => .nil
  | _ + 1, .nil => .nil
  | n + 1, .cons a r => .cons a (r.pre n)
theorem ListIn.pre_all {news : List (Addr × Obj)} {us : List Value} {F : Forest} (h : ListIn news us F) : F.pre us.length = F := by
  induction h with
  | nil => rfl
  | cons _ _ _ _ i2 => simp only [List.length_cons, Forest.pre, i2]
theorem ListIn.at {news : List (Addr × Obj)} {us : List Value} {F : Forest} (h : ListIn news us F) : ∀ i v, us[i]? = some v → ∃ a us' n f, v = .ref a ∧ (a, listOf us'.toArray n) ∈ news ∧ ListIn news us' f ∧
    (F.pre (i + 1)).counts = (F.pre i).counts ++ ((f.counts.length : Int) :: f.counts) ∧ f.counts.length < F.counts.length ∧ (F.pre (i + 1)).counts.length ≤ F.counts.length := by
  induction h with
  | nil => intro i v h; simp at h
  | @cons a us' vs n f r hm hI _ _ i2 =>
    intro i v hv
    cases i with
    | zero =>
      simp only [List.getElem?_cons_zero, Option.some.injEq] at hv
      subst hv
      refine ⟨a, us', n, f, rfl, hm, hI, ?_, ?_, ?_⟩
      · cases r <;> simp [Forest.pre, Forest.counts]
      · simp only [Forest.counts, List.length_cons, List.length_append]; omega
      · cases r <;> simp [Forest.pre, Forest.counts]
    | succ i =>
      simp only [List.getElem?_cons_succ] at hv
      obtain ⟨a', us'', n', f', e, h1, h2, h3, h4, h5⟩ := i2 i v hv
      refine ⟨a', us'', n', f', e, h1, h2, ?_, ?_, ?_⟩
      · show (Forest.cons f (r.pre (i + 1))).counts = (Forest.cons f (r.pre i)).counts ++ _
        simp only [Forest.counts, h3, List.cons_append, List.append_assoc]
      · simp only [Forest.counts, List.length_cons, List.length_append]; omega
      · show (Forest.cons f (r.pre (i + 1))).counts.length ≤ _
        simp only [Forest.counts, List.length_cons, List.length_append]; omega
section
variable {prog : Program} {w : World} {A : Around} {E : Value → Shared → Prop} {s : Shared} {env : Env} {h₀ : Heap} {x y : Str} {body : List Stmt} {Q : Flow → Shared → Prop}
def WtEnd (m₀ : Str → Option Value) (ns : List Int) (lt : Addr) (R : List (Addr × Obj)) (h₀ : Heap) (L : Addr) (x y : Str) (s₁ s₂ : Shared) : Prop :=
  ∃ h' tk m' ws n tl, s₂ = { s₁ with heap := h', toks := tk } ∧ Fr h₀ L h' m' ∧ (∀ z, z ≠ x → z ≠ y → m' z = m₀ z) ∧ News h₀ L h' ((lt, listOf ws.toArray n) :: (tl ++ R)) ∧ IntsAre ws ns ∧ (∀ q ∈ tl, lt < q.1 ∧ ∀ r ∈ R, r.1 < q.1)
def WtPost (m₀ : Str → Option Value) (ns : List Int) (lt : Addr) (R : List (Addr × Obj)) (h₀ : Heap) (L : Addr) (x y : Str) (s₁ : Shared) (fl : Flow) (s₂ : Shared) : Prop :=
  match fl with
  | .ret _ => False
  | .brk => False
  | _ => WtEnd m₀ ns lt R h₀ L x y s₁ s₂
theorem within_iter {l lt : Addr} {us : List Value} {nn : Nat} {m₀ : Str → Option Value} {news : List (Addr × Obj)} {F : Forest}
    (hh : A.handled = none) (hl : (l, listOf us.toArray nn) ∈ news) (hI : ListIn news us F) (Fr₀ : Fr h₀ env.locals s.heap m₀) (N : News h₀ env.locals s.heap ((lt, listOf #[] 0) :: news)) (hlt : ∀ q ∈ news, q.1 < lt)
    (turn : ∀ a us' n f ns (m₁ : Str → Option Value) ws n' R h tk, (a, listOf us'.toArray n) ∈ R → ListIn R us' f → f.counts.length < F.counts.length → (ns ++ ((f.counts.length : Int) :: f.counts)).length ≤ F.counts.length → (∀ q ∈ R, q.1 ≠ lt) → IntsAre ws ns →
      Fr h₀ env.locals h (fun z => if z = x then some (.ref a) else if z = y then m₁ z else m₀ z) → News h₀ env.locals h ((lt, listOf ws.toArray n') :: R) →
      wpAny (model prog w) A (execs body env) (WtPost m₀ (ns ++ ((f.counts.length : Int) :: f.counts)) lt R h₀ env.locals x y { s with heap := h, toks := tk }) E { s with heap := h, toks := tk })
    (done : ∀ (u : Str → Option Value) ws n tl h tk, IntsAre ws F.counts → (∀ q ∈ tl, lt < q.1) → Fr h₀ env.locals h (fun z => if z = x then u z else if z = y then u z else m₀ z) → News h₀ env.locals h ((lt, listOf ws.toArray n) :: (tl ++ news)) → Q .next { s with heap := h, toks := tk }) :
    wpAny (model prog w) A (pyIter (.ref l)) (fun it s₂ => LoopAtV prog w A h₀ env x body Q E it s₂) E s := by
  refine kdl_iter (vs := us) (nn := nn) (news := (lt, listOf #[] 0) :: news)
    (fun i m nx => ∃ ws n tl, nx = (lt, listOf ws.toArray n) :: (tl ++ news) ∧ (∀ z, z ≠ x → z ≠ y → m z = m₀ z) ∧ IntsAre ws (F.pre i).counts ∧ ∀ q ∈ tl, lt < q.1)
    hh (.tail _ hl) Fr₀ N ⟨[], 0, [], rfl, fun _ _ _ => rfl, IntsAre.nil, fun _ h => nomatch h⟩ ?_ ?_
  · rintro i v m₁ nx h tk own hv hoff _ ⟨ws, n, tl, rfl, hm, hW, htl⟩ F₁ N₁
    obtain ⟨a, us', n', f, rfl, ha, hI', hc, hlen, hlen2⟩ := hI.at i v hv
    have em : (fun z => if z = x then some (Value.ref a) else m₁ z) = fun z => if z = x then some (Value.ref a) else if z = y then m₁ z else m₀ z := by
      funext z
      by_cases h1 : z = x
      · simp [h1]
      · simp only [if_neg h1]
        by_cases h2 : z = y
        · simp [h2]
        · simp only [if_neg h2]; exact hm z h1 h2
    rw [em] at F₁
    have N₂ : News h₀ env.locals h ((lt, listOf ws.toArray n) :: (tl ++ (news ++ own))) := kst_newsOf N₁ (by intro q hq; simpa [List.append_assoc] using hq)
    have hsub : ∀ q ∈ news, q ∈ tl ++ (news ++ own) := fun q hq => by simp [hq]
    have hR : ∀ q ∈ tl ++ (news ++ own), q.1 ≠ lt := by
      intro q hq
      rcases List.mem_append.mp hq with hq | hq
      · exact Nat.ne_of_gt (htl q hq)
      · rcases List.mem_append.mp hq with hq | hq
        · exact Nat.ne_of_lt (hlt q hq)
        · exact hoff q hq lt (by simp)
    refine wpAny_mono (turn a us' n' f (F.pre i).counts m₁ ws n (tl ++ (news ++ own)) h tk (hsub _ ha) (hI'.mono hsub) hlen (by rw [← hc]; exact hlen2) hR hW F₁ N₂) (fun fl s₂ P => ?_) fun _ _ e => e
    rw [← hc] at P
    have fin : WtEnd m₀ (F.pre (i + 1)).counts lt (tl ++ (news ++ own)) h₀ env.locals x y { s with heap := h, toks := tk } s₂ →
        InvEndG h₀ env.locals (fun m' nx => (l, listOf us.toArray nn) ∈ nx ∧ ∃ ws n tl, nx = (lt, listOf ws.toArray n) :: (tl ++ news) ∧ (∀ z, z ≠ x → z ≠ y → m' z = m₀ z) ∧ IntsAre ws (F.pre (i + 1)).counts ∧ ∀ q ∈ tl, lt < q.1) own { s with heap := h, toks := tk } s₂ := by
      rintro ⟨h', tk', m', ws', n2, tl', e, F', hm', N', hW', hl'⟩
      refine ⟨h', tk', m', _, (lt, listOf ws'.toArray n2) :: ((tl' ++ tl) ++ news), e, F', N', ?_, ?_, ?_, by simp [hl], ws', n2, tl' ++ tl, rfl, hm', hW', ?_⟩
      · intro q hq
        simp only [List.mem_cons, List.mem_append] at hq ⊢
        rcases hq with h | (h | h) | h <;> simp [h]
      · intro q hq
        simp [hq]
      · intro q hq b hb
        obtain ⟨r, hr, rfl⟩ := List.mem_map.mp hb
        simp only [List.mem_cons, List.mem_append] at hr
        rcases hr with rfl | (h1 | h1) | h1
        · exact hoff q hq lt (by simp)
        · exact Nat.ne_of_lt ((hl' r h1).2 q (by simp [hq]))
        · exact hoff q hq r.1 (List.mem_map.mpr ⟨r, by simp [h1], rfl⟩)
        · exact hoff q hq r.1 (List.mem_map.mpr ⟨r, by simp [h1], rfl⟩)
      · intro q hq
        rcases List.mem_append.mp hq with hq | hq
        · exact (hl' q hq).1
        · exact htl q hq
    cases fl with
    | ret v => exact P.elim
    | brk => exact P.elim
    | next => exact fin P
    | cont => exact fin P
  · rintro m₁ nx h tk ⟨ws, n, tl, rfl, hm, hW, htl⟩ F₁ N₁
    rw [hI.pre_all] at hW
    refine done m₁ ws n tl h tk hW htl ?_ N₁
    have e : (fun z => if z = x then m₁ z else if z = y then m₁ z else m₀ z) = m₁ := by
      funext z
      by_cases h1 : z = x
      · simp [h1]
      · simp only [if_neg h1]
        by_cases h2 : z = y
        · simp [h2]
        · simp only [if_neg h2]; exact (hm z h1 h2).symm
    rw [e]; exact F₁
end
end Mine
end
section
open PySem PySem.W PyProof.Rows PySem.Spec PySem.Calls
set_option maxRecDepth 100000
namespace Mine
local macro_rules | `(tactic| walk_at "idle 5") => `(tactic| skip)
local macro_rules | `(tactic| k_room) => `(tactic| ktr_room)
local macro_rules | `(tactic| k_all) => `(tactic| first | assumption | exact ne_low (by assumption) (by omega))
theorem ext_any {prog : Program} {w : World} {A : Around} {E : Value → Shared → Prop} {s : Shared} {h₀ : Heap} {L D b : Addr} {m : Str → Option Value} {rest : List (Addr × Obj)} {its its2 : Array Value} {n n2 : Nat} {Q : Value → Shared → Prop}
    (F : Fr h₀ L s.heap m) (N : News h₀ L s.heap ((D, listOf its n) :: rest)) (hb : (b, listOf its2 n2) ∈ rest) (hD : ∀ q ∈ rest, q.1 ≠ D) (hl : its.size + its2.size ≤ 1000)
    (h : ∀ n' h', Fr h₀ L h' m → News h₀ L h' ((D, listOf (its ++ its2) n') :: rest) → Q .none { s with heap := h' }) : wpAny (model prog w) A (call (.builtin "list.extend") [.ref D, .ref b]) Q E s := by
  have hs := sizeLine_eq
  have h1 : ¬(!its.isEmpty && Builtin.List.listTooLong (its.size + its2.size)) = true := by
    have : Builtin.List.listTooLong (its.size + its2.size) = false := by unfold Builtin.List.listTooLong; rw [hs]; simp; omega
    rw [this]; simp
  by_cases e : its2.toList = []
  · refine kxn_extend F N (.tail _ hb) e (Upd.head hD) h1 (by rw [hs]; simp; omega) (by rw [hs]; omega) fun h' F' N' => ?_
    have e2 : its ++ its2 = its := by have : its2 = #[] := Array.toList_inj.mp (by rw [e]); rw [this]; simp
    have := h n h' F'
    rw [e2] at this
    exact this N'
  · refine kl_extend (l := its.toList ++ its2.toList) F N (.tail _ hb) rfl (by simpa using e) (Upd.head hD) h1 (by rw [hs]; simp; omega) (by rw [hs]; omega) fun h' F' N' => ?_
    have e2 : (its.toList ++ its2.toList).toArray = its ++ its2 := by apply Array.toList_inj.mp; simp
    rw [e2] at N'
    exact h _ h' F' N'
def WithinOk (w : World) (Fo : Forest) : Prop :=
  ∀ {p : Program} {loose : List Str} {mean : ExcName → Option Value} {mg mb : Str → Option Value}
    {dp un : Nat} {gd : Option (List Code)} {cn : Str} {cs : Scope} {a : Addr} {ccd : Value} {cl : List (Str × Addr)} {outer : List Env} {A₀ : Around} {base h₀ : Heap} {L : Addr} {m : Str → Option Value} {news : List (Addr × Obj)} {s : Shared} {l : Addr} {us : List Value} {nn : Nat}
    {Q E : Value → Shared → Prop}
    (_ : Below A₀ base outer h₀) (_ : Fr h₀ L s.heap m) (_ : (hd.heap_39 w.params).In h₀)
    (_ : News h₀ L s.heap news) (_ : Top p loose mean mg mb h₀) (_ : cs.kind = .function) (_ : (l, listOf us.toArray nn) ∈ news) (_ : ListIn news us Fo)
    (_ : Fo.counts.length ≤ 63) (_ : dp + Fo.counts.length + 10 < recursionLimit)
    (_ : ∀ b ws n tl h' tk', Fr h₀ L h' m → News h₀ L h' ((b, listOf ws.toArray n) :: (tl ++ news)) → IntsAre ws Fo.counts → (∀ r ∈ news, r.1 < b) → (∀ q ∈ tl, ∀ r ∈ news, r.1 < q.1) → Q (.ref b) { s with heap := h', toks := tk' }),
    wpAny (model Challenge.rw_dw0037_01.row.prog w) (ktrTop dp un gd cn cs L a ccd cl outer) (call (.ref 77) [.ref l]) Q E s
theorem within_use {w : World} {Fo f : Forest} (IH : ∀ f : Forest, f.counts.length < Fo.counts.length → WithinOk w f) {p : Program} {loose : List Str} {mean : ExcName → Option Value} {mg mb : Str → Option Value}
    {dp un : Nat} {gd : Option (List Code)} {cn : Str} {cs : Scope} {a : Addr} {ccd : Value} {cl : List (Str × Addr)} {outer : List Env} {A₀ : Around} {base h₀ : Heap} {L : Addr} {m : Str → Option Value} {s : Shared} {l lt : Addr} {us : List Value} {nn : Nat} {ot : Obj} {R : List (Addr × Obj)}
    {Q E : Value → Shared → Prop}
    (B : Below A₀ base outer h₀) (F : Fr h₀ L s.heap m) (X : (hd.heap_39 w.params).In h₀)
    (N : News h₀ L s.heap ((lt, ot) :: R)) (T : Top p loose mean mg mb h₀) (hk : cs.kind = .function) (hl : (l, listOf us.toArray nn) ∈ R) (hI : ListIn R us f)
    (hf : f.counts.length < Fo.counts.length) (hR : ∀ q ∈ R, q.1 ≠ lt) (hb : Fo.counts.length ≤ 63) (hdp : dp + Fo.counts.length + 9 < recursionLimit)
    (ret : ∀ b ws n tl h' tk', Fr h₀ L h' m → News h₀ L h' ((lt, ot) :: (b, listOf ws.toArray n) :: (tl ++ R)) → IntsAre ws f.counts → (∀ q ∈ (b, listOf ws.toArray n) :: tl, lt < q.1 ∧ ∀ r ∈ R, r.1 < q.1) → (∀ q ∈ (b, listOf ws.toArray n) :: (tl ++ R), q.1 ≠ lt) → Q (.ref b) { s with heap := h', toks := tk' }) :
    wpAny (model Challenge.rw_dw0037_01.row.prog w) (ktrTop dp un gd cn cs L a ccd cl outer) (call (.ref 77) [.ref l]) Q E s := by
  refine IH f hf B F X N T hk (.tail _ hl) (hI.mono fun q hq => .tail _ hq) (by omega) (by omega) ?_
  intro b ws n tl h' tk' F' N' hW h1 h2
  have hall : ∀ q ∈ (b, listOf ws.toArray n) :: tl, ∀ r ∈ (lt, ot) :: R, r.1 < q.1 := by
    intro q hq
    rcases List.mem_cons.mp hq with rfl | hq
    · exact h1
    · exact h2 q hq
  have hq : ∀ q ∈ (b, listOf ws.toArray n) :: tl, lt < q.1 ∧ ∀ r ∈ R, r.1 < q.1 := fun q hq => ⟨hall q hq (lt, ot) (.head _), fun r hr => hall q hq r (.tail _ hr)⟩
  refine ret b ws n tl h' tk' F' (kst_newsOf N' ?_) hW hq ?_
  · intro q hq
    simp only [List.mem_cons, List.mem_append] at hq ⊢
    rcases hq with h | h | h | h <;> simp [h]
  · intro q hq'
    rcases List.mem_cons.mp hq' with rfl | hq'
    · exact Nat.ne_of_gt (hq _ (.head _)).1
    · rcases List.mem_append.mp hq' with h | h
      · exact Nat.ne_of_gt (hq q (.tail _ h)).1
      · exact hR q h
def Stop2 (P : Prop) : Prop := P
theorem Stop2.of {P : Prop} (h : Stop2 P) : P := h
local macro_rules | `(tactic| walk_at "call ref") => `(tactic| (refine Stop2.of ?_))
local macro_rules | `(tactic| walk_at "pyIter ref") => `(tactic| (refine Stop2.of ?_))
local macro_rules | `(tactic| walk_at "call builtin:list.extend") => `(tactic| (refine Stop2.of ?_))
local macro_rules | `(tactic| walk_at "exec For Name Name cons nil") => `(tactic| (k_here; (rename Fr _ _ _ _ => lF'); (with_unfolding_all refine' For_invVF lF' ?k1 ?k2 ?_; (case k1 => exact rfl); (case k2 => exact rfl); k_whole)))
local macro_rules | `(tactic| walk_at "call builtin:list.extend") => `(tactic| (k_here; k_dflt (refine' ext_any ?k1 ?k2 ?k3 ?k4 ?k5 ?_; (case k1 => k_asm); (case k2 => k_asm); (case k3 => k_mem); (case k4 => assumption); (case k5 => (simp only [Array.size_push, List.size_toArray]; omega))); intro n9 h9 F9 N9; (try dsimp only); (try k_fold)))
set_option maxHeartbeats 8000000 in
theorem within_step {w : World} {Fo : Forest} (IH : ∀ f : Forest, f.counts.length < Fo.counts.length → WithinOk w f) : WithinOk w Fo := by
  intro p loose mean mg mb dp un gd cn cs a ccd cl outer A₀ base h₀ L m news s l us nn Q E B F X N T hk hl hI hb hdp hret
  w_top off
  revert X; k_fill; intro X
  refine wpAny_call ?_
  k_dflt ktr_enter
  k_steps
  unfold Stop2
  rename News _ _ _ _ => lN'
  rename Fr _ _ _ _ => lF'
  rename ∀ p ∈ news, p.1 < _ => hlt9
  k_dflt (refine' within_iter (x := Str.ofString "box") (y := Str.ofString "inner") ?hh hl hI lF' lN' hlt9 ?turn ?done; (case hh => rfl))
  case turn =>
    intro ll us' n f ns m₁ ws n' R h tk hm' hI' hf hlen hR hW F' N'
    clear lF' lN'
    have hwl := hW.length
    simp only [List.length_append, List.length_cons] at hlen
    (try dsimp only); (try k_fold)
    k_steps
    unfold Stop2
    k_dflt (refine' within_use IH ?k1 ?k2 ?k3 ?k4 ?k5 ?kk hm' hI' hf hR hb ?d1 ?_; (case k1 => k_asm); (case k2 => k_asm); (case k3 => k_asm); (case k4 => k_asm); (case k5 => k_asm); (case kk => first | rfl | assumption); (case d1 => ktr_room))
    intro b9 ws9 n9 tl9 h9 tk9 F9 N9 hW9 hq9 hR9
    have hwl9 := hW9.length
    (try dsimp only); (try k_fold)
    k_steps
    rename News _ _ _ _ => N9
    simp only [List.push_toArray, List.append_toArray, List.append_assoc, List.singleton_append] at N9
    dsimp only [WtPost]
    refine ⟨_, _, _, _, _, (b9, listOf ws9.toArray n9) :: tl9, rfl, by assumption, ?_, N9, ?_, hq9⟩
    · intro z h1 h2
      simp only [if_neg h1, if_neg h2]
    · exact hW.append (IntsAre.cons _ _ hW9)
  case done =>
    intro u ws n tl h tk hW htl F' N'
    clear lF' lN'
    (try dsimp only); (try k_fold)
    k_steps
    rename News h₀ _ _ _ => N9
    exact hret _ _ _ _ _ _ (by k_asm) N9 hW hlt9 fun q hq r hr => Nat.lt_trans (hlt9 r hr) (htl q hq)
theorem within_ok (w : World) : ∀ f, WithinOk w f := by
  have all : ∀ n, ∀ f : Forest, f.counts.length < n → WithinOk w f := by
    intro n
    induction n with
    | zero => intro f h; exact absurd h (Nat.not_lt_zero _)
    | succ n ih => exact fun f h => within_step fun g hg => ih g (Nat.lt_of_lt_of_le hg (Nat.le_of_lt_succ h))
  exact fun f => all _ f (Nat.lt_succ_self _)
end Mine
end
section
open PySem PySem.W PyProof.Rows PySem.Spec PySem.Calls
set_option maxRecDepth 100000
namespace Mine
section
variable {prog : Program} {w : World} {A : Around} {E : Value → Shared → Prop} {s : Shared} {env : Env} {h₀ : Heap} {x : Str} {body : List Stmt} {Q : Flow → Shared → Prop}
def ItEnd (K : (Str → Option Value) → List Int → List (Addr × Obj) → Prop) (lt : Addr) (R R₀ : List (Addr × Obj)) (h₀ : Heap) (L : Addr) (s₁ s₂ : Shared) : Prop :=
  ∃ h' tk m' cs' cnt' n' tl, s₂ = { s₁ with heap := h', toks := tk } ∧ Fr h₀ L h' m' ∧ News h₀ L h' ((lt, listOf cs'.toArray n') :: (tl ++ R)) ∧ IntsAre cs' cnt' ∧ K m' cnt' (tl ++ R₀) ∧ (∀ q ∈ tl, q.1 ≠ lt ∧ ∀ r ∈ R, r.1 < q.1)
def ItPost (K : (Str → Option Value) → List Int → List (Addr × Obj) → Prop) (lt : Addr) (R R₀ : List (Addr × Obj)) (h₀ : Heap) (L : Addr) (s₁ : Shared) (fl : Flow) (s₂ : Shared) : Prop :=
  match fl with
  | .ret _ => False
  | .brk => False
  | _ => ItEnd K lt R R₀ h₀ L s₁ s₂
theorem ItEnd.same {K : (Str → Option Value) → List Int → List (Addr × Obj) → Prop} {lt L : Addr} {R R₀ : List (Addr × Obj)} {s₁ : Shared} {h' : Heap} {tk : Nat} {m' : Str → Option Value} {cs' : List Value} {cnt' : List Int} {n' : Nat}
    (F : Fr h₀ L h' m') (N : News h₀ L h' ((lt, listOf cs'.toArray n') :: R)) (hI : IntsAre cs' cnt') (hK : K m' cnt' R₀) : ItEnd K lt R R₀ h₀ L s₁ { s₁ with heap := h', toks := tk } :=
  ⟨h', tk, m', cs', cnt', n', [], rfl, F, N, hI, hK, fun _ h => nomatch h⟩
theorem ItEnd.more {K : (Str → Option Value) → List Int → List (Addr × Obj) → Prop} {lt L D : Addr} {o : Obj} {a b c d : Addr × Obj} {R R₀ tl : List (Addr × Obj)} {s₁ : Shared} {h' : Heap} {tk : Nat} {m' : Str → Option Value} {cs' : List Value} {cnt' : List Int} {n' : Nat}
    (F : Fr h₀ L h' m') (N : News h₀ L h' ((D, o) :: a :: (lt, listOf cs'.toArray n') :: b :: (tl ++ c :: d :: R))) (hI : IntsAre cs' cnt') (hD : @Ne Nat D lt) (hlt : AllLt D (tl ++ c :: d :: R)) (hK : K m' cnt' ((D, o) :: R₀)) : ItEnd K lt R R₀ h₀ L s₁ { s₁ with heap := h', toks := tk } := by
  refine ⟨h', tk, m', cs', cnt', n', [(D, o)], rfl, F, kst_newsOf N ?_, hI, hK, ?_⟩
  · intro q hq
    simp only [List.mem_cons, List.mem_append, List.not_mem_nil, or_false] at hq ⊢
    rcases hq with h | h | h <;> simp [h]
  · intro q hq
    rw [List.mem_singleton.mp hq]
    exact ⟨hD, fun r hr => ktn_ltOf hlt r (by simp [hr])⟩
theorem int_iter (K : Nat → (Str → Option Value) → List Int → List (Addr × Obj) → Prop) {l lt : Addr} {us cs₀ : List Value} {ns cnt₀ : List Int} {nn n₀ : Nat} {m₀ : Str → Option Value} {news : List (Addr × Obj)}
    (hh : A.handled = none) (hl : (l, listOf us.toArray nn) ∈ news) (hi : IntsAre us ns) (F₀ : Fr h₀ env.locals s.heap m₀) (N : News h₀ env.locals s.heap ((lt, listOf cs₀.toArray n₀) :: news)) (hlt : ∀ q ∈ news, q.1 ≠ lt) (hC : IntsAre cs₀ cnt₀) (hK : K 0 m₀ cnt₀ news)
    (turn : ∀ i k t (m₁ : Str → Option Value) cs cnt n R R₀ h tk, ns[i]? = some k → (∀ q ∈ R₀, q ∈ R) → (∀ q ∈ news, q ∈ R₀) → K i m₁ cnt R₀ → IntsAre cs cnt → (∀ q ∈ R, q.1 ≠ lt) →
      Fr h₀ env.locals h (fun y => if y = x then some (.int k t) else m₁ y) → News h₀ env.locals h ((lt, listOf cs.toArray n) :: R) →
      wpAny (model prog w) A (execs body env) (ItPost (K (i + 1)) lt R R₀ h₀ env.locals { s with heap := h, toks := tk }) E { s with heap := h, toks := tk })
    (done : ∀ m₁ cs cnt n tl h tk, K ns.length m₁ cnt (tl ++ news) → IntsAre cs cnt → (∀ q ∈ tl, q.1 ≠ lt ∧ ∀ r ∈ news, r.1 < q.1) → (∀ q ∈ tl ++ news, q.1 ≠ lt) → Fr h₀ env.locals h m₁ → News h₀ env.locals h ((lt, listOf cs.toArray n) :: (tl ++ news)) → Q .next { s with heap := h, toks := tk }) :
    wpAny (model prog w) A (pyIter (.ref l)) (fun it s₂ => LoopAtV prog w A h₀ env x body Q E it s₂) E s := by
  have hlen : us.length = ns.length := hi.length
  refine kdl_iter (vs := us) (nn := nn) (news := (lt, listOf cs₀.toArray n₀) :: news)
    (fun i m nx => ∃ cs cnt n tl, nx = (lt, listOf cs.toArray n) :: (tl ++ news) ∧ IntsAre cs cnt ∧ K i m cnt (tl ++ news) ∧ ∀ q ∈ tl, q.1 ≠ lt ∧ ∀ r ∈ news, r.1 < q.1)
    hh (.tail _ hl) F₀ N ⟨cs₀, cnt₀, n₀, [], rfl, hC, hK, fun _ h => nomatch h⟩ ?_ ?_
  · rintro i v m₁ nx h tk own hv hoff _ ⟨cs, cnt, n, tl, rfl, hW, hKi, htl⟩ F₁ N₁
    obtain ⟨k, t, rfl, hk⟩ := hi.at i v hv
    have N₂ : News h₀ env.locals h ((lt, listOf cs.toArray n) :: (tl ++ (news ++ own))) := kst_newsOf N₁ (by intro q hq; simpa [List.append_assoc] using hq)
    have hR : ∀ q ∈ tl ++ (news ++ own), q.1 ≠ lt := by
      intro q hq
      rcases List.mem_append.mp hq with hq | hq
      · exact (htl q hq).1
      · rcases List.mem_append.mp hq with hq | hq
        · exact hlt q hq
        · exact hoff q hq lt (by simp)
    refine wpAny_mono (turn i k t m₁ cs cnt n (tl ++ (news ++ own)) (tl ++ news) h tk hk (fun q hq => by simp only [List.mem_append] at hq ⊢; rcases hq with h | h <;> simp [h]) (fun q hq => by simp [hq]) hKi hW hR F₁ N₂) (fun fl s₂ P => ?_) fun _ _ e => e
    have fin : ItEnd (K (i + 1)) lt (tl ++ (news ++ own)) (tl ++ news) h₀ env.locals { s with heap := h, toks := tk } s₂ →
        InvEndG h₀ env.locals (fun m' nx => (l, listOf us.toArray nn) ∈ nx ∧ ∃ cs cnt n tl, nx = (lt, listOf cs.toArray n) :: (tl ++ news) ∧ IntsAre cs cnt ∧ K (i + 1) m' cnt (tl ++ news) ∧ ∀ q ∈ tl, q.1 ≠ lt ∧ ∀ r ∈ news, r.1 < q.1) own { s with heap := h, toks := tk } s₂ := by
      rintro ⟨h', tk', m', cs', cnt', n2, tl', e, F', N', hW', hK', hl'⟩
      rw [← List.append_assoc] at hK'
      refine ⟨h', tk', m', _, (lt, listOf cs'.toArray n2) :: ((tl' ++ tl) ++ news), e, F', N', ?_, ?_, ?_, by simp [hl], cs', cnt', n2, tl' ++ tl, rfl, hW', hK', ?_⟩
      · intro q hq
        simp only [List.mem_cons, List.mem_append] at hq ⊢
        rcases hq with h | (h | h) | h <;> simp [h]
      · intro q hq
        simp [hq]
      · intro q hq b hb
        obtain ⟨r, hr, rfl⟩ := List.mem_map.mp hb
        simp only [List.mem_cons, List.mem_append] at hr
        rcases hr with rfl | (h1 | h1) | h1
        · exact hoff q hq lt (by simp)
        · exact Nat.ne_of_lt ((hl' r h1).2 q (by simp [hq]))
        · exact hoff q hq r.1 (List.mem_map.mpr ⟨r, by simp [h1], rfl⟩)
        · exact hoff q hq r.1 (List.mem_map.mpr ⟨r, by simp [h1], rfl⟩)
      · intro q hq
        rcases List.mem_append.mp hq with hq | hq
        · exact ⟨(hl' q hq).1, fun r hr => (hl' q hq).2 r (by simp [hr])⟩
        · exact htl q hq
    cases fl with
    | ret v => exact P.elim
    | brk => exact P.elim
    | next => exact fin P
    | cont => exact fin P
  · rintro m₁ nx h tk ⟨cs, cnt, n, tl, rfl, hW, hKi, htl⟩ F₁ N₁
    rw [hlen] at hKi
    exact done m₁ cs cnt n tl h tk hKi hW htl (fun q hq => (List.mem_append.mp hq).elim (fun h => (htl q h).1) (hlt q)) F₁ N₁
end
/-- the counts behind i boxes; the open ones -/
structure CntAt (i : Nat) (cnt os : List Int) : Prop where
  len : cnt.length = i
  lo : ∀ c ∈ cnt, 0 ≤ c
  hi : ∀ c ∈ cnt, c ≤ i
  inb : ∀ o ∈ os, 0 ≤ o ∧ o < i
  nodup : os.Nodup
  olen : os.length ≤ i
theorem CntAt.start : CntAt 0 [] [] := ⟨rfl, by simp, by simp, by simp, by simp, by simp⟩
theorem CntAt.cut {i : Nat} {cnt os : List Int} (h : CntAt i cnt os) (k : Nat) : CntAt i cnt (os.take k) :=
  ⟨h.len, h.lo, h.hi, fun o ho => h.inb o (List.mem_of_mem_take ho), h.nodup.sublist (List.take_sublist _ _), by have := h.olen; rw [List.length_take]; omega⟩
/-- within the inner loop: behind j of the open ones -/
structure IncAt (i : Nat) (os : List Int) (j : Nat) (cnt : List Int) : Prop where
  len : cnt.length = i
  lo : ∀ c ∈ cnt, 0 ≤ c
  hi : ∀ (k : Nat) (hk : k < cnt.length), cnt[k] ≤ i + (if (k : Int) ∈ os.take j then 1 else 0)
theorem IncAt.start {i : Nat} {cnt os : List Int} (h : CntAt i cnt os) : IncAt i os 0 cnt :=
  ⟨h.len, h.lo, fun k hk => by have := h.hi _ (List.getElem_mem hk); simp; exact this⟩
theorem IncAt.step {i j : Nat} {cnt cnt' os : List Int} {o : Int} (H : CntAt i c₀ os) (h : IncAt i os j cnt) (ho : os[j]? = some o) (he : cnt' = cnt.set o.toNat (cnt.getD o.toNat 0 + 1)) : IncAt i os (j + 1) cnt' := by
  have hin := H.inb o (List.mem_of_getElem? ho)
  have hjl : j < os.length := by
    rcases Nat.lt_or_ge j os.length with h | h
    · exact h
    · rw [List.getElem?_eq_none h] at ho; cases ho
  have hoj : os[j] = o := by rw [List.getElem?_eq_getElem hjl] at ho; exact Option.some.inj ho
  have hnot : o ∉ os.take j := by
    intro hm
    obtain ⟨k, hk, e⟩ := List.mem_take_iff_getElem.mp hm
    have hkl : k < os.length := by omega
    have hkj : os[k] = os[j] := by rw [hoj]; exact e
    have := (List.getElem_inj H.nodup).mp hkj
    omega
  have hlt : o.toNat < cnt.length := by rw [h.len]; omega
  subst he
  refine ⟨by simp [h.len], ?_, ?_⟩
  · intro c hc
    rcases List.mem_or_eq_of_mem_set hc with hc | rfl
    · exact h.lo c hc
    · have := h.lo _ (List.getElem_mem hlt)
      simp only [List.getD, List.getElem?_eq_getElem hlt, Option.getD_some]
      omega
  · intro k hk
    have hk' : k < cnt.length := by simpa using hk
    have e2 : os.take (j + 1) = os.take j ++ [o] := by rw [List.take_add_one, ho]; rfl
    rw [e2, List.getElem_set]
    by_cases hko : o.toNat = k
    · have hk2 := h.hi k hk'
      have ek : (k : Int) = o := by omega
      rw [if_pos hko, if_pos (by simp [ek])]
      rw [if_neg (by rw [ek]; exact hnot)] at hk2
      subst hko
      simp only [List.getD, List.getElem?_eq_getElem hk', Option.getD_some]
      omega
    · have hk2 := h.hi k hk'
      rw [if_neg hko]
      have : ((k : Int) ∈ os.take j ++ [o]) ↔ (k : Int) ∈ os.take j := by
        simp only [List.mem_append, List.mem_singleton]
        constructor
        · rintro (h | h)
          · exact h
          · omega
        · exact .inl
      simp only [this]
      exact hk2
theorem IncAt.end {i : Nat} {c₀ cnt os : List Int} (H : CntAt i c₀ os) (h : IncAt i os os.length cnt) : CntAt (i + 1) (cnt ++ [0]) (os ++ [(i : Int)]) := by
  refine ⟨by simp [h.len], ?_, ?_, ?_, ?_, by have := H.olen; simp; omega⟩
  · intro c hc
    rcases List.mem_append.mp hc with hc | hc
    · exact h.lo c hc
    · simp at hc; omega
  · intro c hc
    rcases List.mem_append.mp hc with hc | hc
    · obtain ⟨k, hk, rfl⟩ := List.mem_iff_getElem.mp hc
      have := h.hi k hk
      split at this <;> omega
    · simp at hc; omega
  · intro o ho
    rcases List.mem_append.mp ho with ho | ho
    · have := H.inb o ho; omega
    · simp at ho; omega
  · rw [List.nodup_append]
    refine ⟨H.nodup, by simp, ?_⟩
    intro a ha b hb e
    have := H.inb a ha
    simp at hb
    omega
end Mine
end
section
open PySem PySem.W PyProof.Rows PySem.Spec PySem.Calls
set_option maxRecDepth 100000
namespace Mine
local macro_rules | `(tactic| walk_at "idle 3") => `(tactic| skip)
local macro_rules | `(tactic| k_room) => `(tactic| ktr_room)
local macro_rules | `(tactic| k_all) => `(tactic| first | assumption | exact ne_low (by assumption) (by omega))
def Stop3 (P : Prop) : Prop := P
theorem Stop3.of {P : Prop} (h : Stop3 P) : P := h
local macro_rules | `(tactic| walk_at "pyIter ref") => `(tactic| (refine Stop3.of ?_))
local macro_rules | `(tactic| walk_at "exec For") => `(tactic| (k_here; (rename Fr _ _ _ _ => lF'); (with_unfolding_all refine' For_invVF lF' ?k1 ?k2 ?_; (case k1 => exact rfl); (case k2 => exact rfl); k_whole)))
local macro_rules | `(tactic| walk_at "exec For Name Name cons nil") => `(tactic| (k_here; (rename Fr _ _ _ _ => lF'); (with_unfolding_all refine' For_invVF lF' ?k1 ?k2 ?_; (case k1 => exact rfl); (case k2 => exact rfl); k_whole)))
theorem fr_three {h₀ h : Heap} {L : Addr} {m₁ m₀ : Str → Option Value} {x a b : Str} {v va : Value} (ha : m₁ a = some va) (hm : ∀ z, z ≠ x → z ≠ a → z ≠ b → m₁ z = m₀ z) (F : Fr h₀ L h (fun y => if y = x then some v else m₁ y)) :
    Fr h₀ L h (fun y => if y = x then some v else if y = a then some va else if y = b then m₁ y else m₀ y) := by
  have e : (fun y => if y = x then some v else if y = a then some va else if y = b then m₁ y else m₀ y) = (fun y => if y = x then some v else m₁ y) := by
    funext z
    by_cases h1 : z = x
    · simp [h1]
    · simp only [if_neg h1]
      by_cases h2 : z = a
      · subst h2; simp [ha]
      · simp only [if_neg h2]
        by_cases h3 : z = b
        · simp [h3]
        · simp only [if_neg h3]; exact (hm z h1 h2 h3).symm
  rw [e]; exact F
theorem fr_threeD {h₀ h : Heap} {L : Addr} {m₁ m₀ : Str → Option Value} {x a b : Str} {va : Value} (ha : m₁ a = some va) (hm : ∀ z, z ≠ x → z ≠ a → z ≠ b → m₁ z = m₀ z) (F : Fr h₀ L h m₁) :
    Fr h₀ L h (fun y => if y = x then m₁ y else if y = a then m₁ y else if y = b then m₁ y else m₀ y) := by
  have e : (fun y => if y = x then m₁ y else if y = a then m₁ y else if y = b then m₁ y else m₀ y) = m₁ := by
    funext z
    by_cases h1 : z = x
    · simp [h1]
    · simp only [if_neg h1]
      by_cases h2 : z = a
      · simp [h2]
      · simp only [if_neg h2]
        by_cases h3 : z = b
        · simp [h3]
        · simp only [if_neg h3]; exact (hm z h1 h2 h3).symm
  rw [e]; exact F
theorem fr_one {h₀ h : Heap} {L : Addr} {m₁ m₀ : Str → Option Value} {x : Str} {v : Value} (hm : ∀ z, z ≠ x → m₁ z = m₀ z) (F : Fr h₀ L h (fun y => if y = x then some v else m₁ y)) : Fr h₀ L h (fun y => if y = x then some v else m₀ y) := by
  have e : (fun y => if y = x then some v else m₀ y) = (fun y => if y = x then some v else m₁ y) := by
    funext z
    by_cases h1 : z = x
    · simp [h1]
    · simp only [if_neg h1]; exact (hm z h1).symm
  rw [e]; exact F
theorem fr_oneD {h₀ h : Heap} {L : Addr} {m₁ m₀ : Str → Option Value} {x : Str} (hm : ∀ z, z ≠ x → m₁ z = m₀ z) (F : Fr h₀ L h m₁) : Fr h₀ L h (fun y => if y = x then m₁ y else m₀ y) := by
  have e : (fun y => if y = x then m₁ y else m₀ y) = m₁ := by
    funext z
    by_cases h1 : z = x
    · simp [h1]
    · simp only [if_neg h1]; exact (hm z h1).symm
  rw [e]; exact F
def KO (m₀ : Str → Option Value) (i : Nat) (m : Str → Option Value) (cnt : List Int) (R₀ : List (Addr × Obj)) : Prop :=
  ∃ lo ops no os, m (Str.ofString "opened") = some (.ref lo) ∧ (lo, listOf (List.toArray ops) no) ∈ R₀ ∧ IntsAre ops os ∧ CntAt i cnt os ∧ ∀ z, z ≠ Str.ofString "x" → z ≠ Str.ofString "opened" → z ≠ Str.ofString "one" → m z = m₀ z
def KI (m₀ : Str → Option Value) (i : Nat) (os : List Int) (j : Nat) (m : Str → Option Value) (cnt : List Int) (_ : List (Addr × Obj)) : Prop :=
  IncAt i os j cnt ∧ ∀ z, z ≠ Str.ofString "one" → m z = m₀ z
theorem news_outer {h₀ h : Heap} {L : Addr} {a b c d : Addr × Obj} {r : List (Addr × Obj)} (N : News h₀ L h (a :: b :: c :: d :: r)) : News h₀ L h (d :: a :: b :: c :: r) :=
  kst_newsOf N (by intro q hq; simp only [List.mem_cons] at hq ⊢; rcases hq with h | h | h | h | h <;> simp [h])
theorem news_dup {h₀ h : Heap} {L : Addr} {a b : Addr × Obj} {r : List (Addr × Obj)} (N : News h₀ L h (a :: r)) (hb : b ∈ r) : News h₀ L h (a :: b :: r) :=
  kst_newsOf N (by intro q hq; simp only [List.mem_cons] at hq ⊢; rcases hq with h | h | h <;> simp [h, hb])
theorem out_ne {a b c d l : Nat} {oa ob oc ol : Obj} {r : List (Addr × Obj)} (h1 : a ≠ d) (h2 : b ≠ d) (h3 : c ≠ d) (h4 : l ≠ d) (h : ∀ q ∈ r, q.1 < d) : ∀ q ∈ (a, oa) :: (b, ob) :: (c, oc) :: (l, ol) :: r, q.1 ≠ d := by
  intro q hq
  simp only [List.mem_cons] at hq
  rcases hq with rfl | rfl | rfl | rfl | hq
  · exact h1
  · exact h2
  · exact h3
  · exact h4
  · exact Nat.ne_of_lt (h q hq)
theorem news_swap {h₀ h : Heap} {L : Addr} {a b : Addr × Obj} {r : List (Addr × Obj)} (N : News h₀ L h (a :: b :: r)) : News h₀ L h (b :: a :: r) :=
  kst_newsOf N (by intro q hq; simp only [List.mem_cons] at hq ⊢; rcases hq with h | h | h <;> simp [h])
theorem in_ne {a c d : Nat} {oa oc : Obj} {r : List (Addr × Obj)} (h1 : a ≠ d) (h3 : c ≠ d) (h : ∀ q ∈ r, q.1 ≠ d) : ∀ q ∈ (a, oa) :: (c, oc) :: r, q.1 ≠ d := by
  intro q hq
  simp only [List.mem_cons] at hq
  rcases hq with rfl | rfl | hq
  · exact h1
  · exact h3
  · exact h q hq
theorem news_tail3 {h₀ h : Heap} {L : Addr} {x a b c : Addr × Obj} {tl r : List (Addr × Obj)} (N : News h₀ L h (x :: (tl ++ a :: b :: c :: r))) : News h₀ L h (x :: r) :=
  kst_newsOf N (by intro q hq; simp only [List.mem_cons, List.mem_append] at hq ⊢; rcases hq with h | h <;> simp [h])
set_option maxHeartbeats 8000000 in
theorem counts_call {w : World} {p : Program} {loose : List Str} {mean : ExcName → Option Value} {mg mb : Str → Option Value}
    {dp un : Nat} {gd : Option (List Code)} {cn : Str} {cs : Scope} {a : Addr} {ccd : Value} {cl : List (Str × Addr)} {outer : List Env} {A₀ : Around} {base h₀ : Heap} {L : Addr} {m : Str → Option Value} {news : List (Addr × Obj)} {s : Shared} {l : Addr} {us : List Value} {ns : List Int} {nn : Nat}
    {Q E : Value → Shared → Prop}
    (B : Below A₀ base outer h₀) (F : Fr h₀ L s.heap m) (X : (hd.heap_39 w.params).In h₀)
    (N : News h₀ L s.heap ((l, listOf us.toArray nn) :: news)) (T : Top p loose mean mg mb h₀) (hk : cs.kind = .function) (hI : IntsAre us ns) (hb : ns.length ≤ 60)
    (hdp : dp + 6 < recursionLimit)
    (hret : ∀ b ws n cnt h' tk', Fr h₀ L h' m → News h₀ L h' ((b, listOf ws.toArray n) :: (l, listOf us.toArray nn) :: news) → IntsAre ws cnt → cnt.length = ns.length + 3 → (∀ c ∈ cnt, 0 ≤ c ∧ c ≤ 63) → (∀ r ∈ (l, listOf us.toArray nn) :: news, r.1 < b) → Q (.ref b) { s with heap := h', toks := tk' }) :
    wpAny (model Challenge.rw_dw0037_01.row.prog w) (ktrTop dp un gd cn cs L a ccd cl outer) (call (.ref 63) [.ref l]) Q E s := by
  w_top off
  revert X; k_fill; intro X
  refine wpAny_call ?_
  k_dflt ktr_enter
  k_steps
  unfold Stop3
  rename News _ _ _ _ => lN'
  rename Fr _ _ _ _ => lF'
  rename IntsAre _ ([0, 0, 1] ++ ns) => hII
  k_dflt (refine' int_iter (m₀ := ?mm) (KO ?mm) ?hh (.head _) hII lF' (news_outer lN' (a := (_, _))) ?ne IntsAre.nil ?K0 ?turn ?done; (case hh => rfl); (case ne => exact out_ne (by refine neN ?_; omega) (by refine neN ?_; omega) (by refine neN ?_; omega) (by refine neN ?_; omega) (lt_all (by tbn_find))))
  case K0 => exact ⟨_, [], 0, [], if_pos rfl, by simp, .nil, CntAt.start, fun _ _ _ _ => rfl⟩
  case turn =>
    rintro i k t m₁ cs cnt n R R₀ h tk hki hRR hnR ⟨lo, ops, no, os, ho, hlo, hops, hcnt, hm⟩ hcs hR F' N'
    clear lF' lN'
    have hi63 : i < 63 := by
      have h1 := (List.getElem?_eq_some_iff.mp hki).1
      simp only [List.length_append, List.length_cons, List.length_nil] at h1
      omega
    have hol := hcnt.olen
    have hopl := hops.length
    have hcl := hcs.length
    have hcl2 := hcnt.len
    have hfm : 0 ≤ k.fmod ((os.length : Int) + 1) := Int.fmod_nonneg_of_pos _ (by omega)
    have F' := fr_three ho hm F'
    have N' := news_dup N' (hRR _ hlo)
    (try dsimp only); (try k_fold)
    k_steps
    unfold Stop3
    rename News _ _ _ _ => lN2
    rename Fr _ _ _ _ => lF2
    rename IntsAre _ (List.take _ os) => hI2
    have hcut := hcnt.cut (k.fmod ((os.length : Int) + 1)).toNat
    k_dflt (refine' int_iter (m₀ := ?mm2) (KI ?mm2 i (List.take (k.fmod ((os.length : Int) + 1)).toNat os)) ?hh2 (.head _) hI2 lF2 (news_swap lN2) ?ne2 hcs ?K02 ?turn2 ?done2; (case hh2 => rfl); (case ne2 => exact in_ne (by refine neN ?_; omega) (hR _ (hRR _ hlo)) hR))
    case K02 => exact ⟨IncAt.start hcut, fun _ _ => rfl⟩
    case turn2 =>
      rintro j o to m₂ cs2 cnt2 n2 R2 R3 h2 tk2 hj hRR2 _ ⟨hinc, hm2⟩ hcs2 hR2 F2 N2
      clear lF2 lN2
      have hob := hcut.inb o (List.mem_of_getElem? hj)
      have hl2 := hcs2.length
      have hl3 := hinc.len
      have F2 := fr_one hm2 F2
      (try dsimp only); (try k_fold)
      k_steps
      dsimp only [ItPost]
      rename IntsAre _ (cnt2.set _ _) => hi9
      rename News _ _ _ _ => N9
      k_dflt (refine' ItEnd.same ?f1 N9 hi9 ⟨hinc.step hcut hj rfl, ?_⟩; (case f1 => assumption))
      intro z hz
      simp only [if_neg hz]
    case done2 =>
      rintro m₂ cs2 cnt2 n2 tl2 h2 tk2 ⟨hinc, hm2⟩ hcs2 htl2 hT2 F2 N2
      have F2 := fr_oneD hm2 F2
      have hl2 := hcs2.length
      have hl3 := hinc.len
      have hlI := hI2.length
      have N2 := news_dup N2 (List.mem_append.mpr (.inr (.head _)))
      clear lF2 lN2
      (try dsimp only); (try k_fold)
      k_steps
      dsimp only [ItPost]
      rename News _ _ _ _ => N9
      rename IntsAre _ (List.take _ os ++ _) => hi9
      simp only [List.push_toArray] at N9
      k_dflt (refine' ItEnd.more ?f1 N9 (hcs2.append (IntsAre.cons 0 _ .nil)) ?f2 ?f3 ⟨_, _, _, _, ?f6, .head _, hi9, ?f4, ?f5⟩; (case f1 => assumption); (case f6 => exact if_pos rfl); (case f2 => (refine neN ?_; omega)); (case f3 => tbn_find))
      case f4 =>
        rw [hl3]
        have := hinc.end hcut
        exact this
      case f5 =>
        intro z h1 h2 h3
        simp only [if_neg h1, if_neg h2, if_neg h3]
  case done =>
    rintro m₁ cs cnt n tl h tk ⟨lo, ops, no, os, ho, hlo, hops, hcnt, hm⟩ hcs htl hT F' N'
    have F' := fr_threeD ho hm F'
    clear lF' lN'
    (try dsimp only); (try k_fold)
    k_steps
    rename News h₀ _ _ _ => N9
    have hlen := hcnt.len
    have hlo := hcnt.lo
    have hhi := hcnt.hi
    simp only [List.length_append, List.length_cons, List.length_nil] at hlen hhi
    k_dflt (refine' hret _ _ _ _ _ _ ?f1 (news_tail3 N9) hcs (by omega) ?f2 ?f3; (case f1 => k_asm))
    case f2 => exact fun c hc => ⟨hlo c hc, by have := hhi c hc; omega⟩
    case f3 => exact List.forall_mem_cons.mpr ⟨by refine ltN ?_; omega, lt_all (by tbn_find)⟩
end Mine
end
section
open PySem PySem.W PyProof.Rows PySem.Spec PySem.Calls
set_option maxRecDepth 100000
namespace Mine
/-- where an octet's reach ends -/
def eOf (cnt : List Int) (j : Nat) : Int := (j : Int) + 1 + cnt.getD j 0
/-- the nearest end of those that reach over k -/
def IsEnd (cnt : List Int) (k : Nat) (b : Int) : Prop := b ≤ cnt.length ∧ (∀ j : Nat, j < k → (k : Int) < eOf cnt j → b ≤ eOf cnt j) ∧ (b = cnt.length ∨ ∃ j : Nat, j < k ∧ eOf cnt j = b)
/-- the least of the ends -/
def IsEnd1 (cnt : List Int) (k : Nat) (b : Int) : Prop := b ≤ cnt.length ∧ (∀ j : Nat, j < k → (k : Int) < eOf cnt j → b ≤ eOf cnt j) ∧ (b = cnt.length ∨ ∃ j : Nat, j < k ∧ (k : Int) < eOf cnt j ∧ eOf cnt j = b)
theorem IsEnd.one {cnt : List Int} {k : Nat} {b : Int} (h : IsEnd cnt k b) (hk : (k : Int) < b) : IsEnd1 cnt k b :=
  ⟨h.1, h.2.1, h.2.2.imp id fun ⟨j, h1, h2⟩ => ⟨j, h1, by omega, h2⟩⟩
theorem IsEnd1.eq {cnt : List Int} {k : Nat} {b c : Int} (h : IsEnd1 cnt k b) (h' : IsEnd1 cnt k c) : b = c := by
  obtain ⟨a1, a2, a3⟩ := h
  obtain ⟨b1, b2, b3⟩ := h'
  rcases a3 with rfl | ⟨j, c1, c2, c3⟩
  · rcases b3 with rfl | ⟨i, d1, d2, d3⟩
    · rfl
    · have := a2 i d1 d2; omega
  · rcases b3 with rfl | ⟨i, d1, d2, d3⟩
    · have := b2 j c1 c2; omega
    · have := a2 i d1 d2; have := b2 j c1 c2; omega
/-- the octet at k reaches too far; r octets stand between it and the end -/
def Bad (cnt : List Int) (k : Nat) (r : Int) : Prop := IsEnd1 cnt k ((k : Int) + 1 + r) ∧ r < cnt.getD k 0
def Fine (cnt : List Int) (k : Nat) : Prop := ∀ b, IsEnd1 cnt k b → eOf cnt k ≤ b
abbrev seg (cnt : List Int) (a b : Nat) : List Int := (cnt.drop a).take (b - a)
theorem seg_cons {cnt : List Int} {a b : Nat} (h : a < b) (hb : b ≤ cnt.length) : seg cnt a b = cnt.getD a 0 :: seg cnt (a + 1) b := by
  have h1 : a < cnt.length := by omega
  have h2 : b - a = (b - (a + 1)) + 1 := by omega
  unfold seg
  rw [List.drop_eq_getElem_cons h1, h2, List.take_succ_cons]
  simp [List.getD, h1]
theorem seg_len {cnt : List Int} {a b : Nat} (hb : b ≤ cnt.length) : (seg cnt a b).length = b - a := by
  unfold seg; rw [List.length_take, List.length_drop]; omega
theorem seg_take {cnt : List Int} {a b c : Nat} (h : c ≤ b) : (seg cnt a b).take (c - a) = seg cnt a c := by
  unfold seg; rw [List.take_take]; congr 1; omega
theorem seg_drop {cnt : List Int} {a b c : Nat} (h : a ≤ c) : (seg cnt a b).drop (c - a) = seg cnt c b := by
  unfold seg
  rw [List.drop_take, List.drop_drop]
  have e1 : a + (c - a) = c := by omega
  have e2 : b - a - (c - a) = b - c := by omega
  rw [e1, e2]
theorem seg_told {cnt : List Int} (h0 : ∀ c ∈ cnt, 0 ≤ c) : ∀ (n a b : Nat), b - a ≤ n → a ≤ b → b ≤ cnt.length → IsEnd cnt a b →
    (perr (seg cnt a b) = none ∧ (∀ k, a ≤ k → k < b → Fine cnt k ∧ eOf cnt k ≤ b)) ∨
    (∃ k r, a ≤ k ∧ k < b ∧ perr (seg cnt a b) = some (cnt.getD k 0, r) ∧ Bad cnt k r ∧ ∀ j, a ≤ j → j < k → Fine cnt j) := by
  intro n
  induction n with
  | zero =>
    intro a b hn hab hb _
    have e : a = b := by omega
    subst e
    refine .inl ⟨?_, fun k h1 h2 => by omega⟩
    unfold seg; simp [perr]
  | succ n ih =>
    intro a b hn hab hb hE
    rcases Nat.lt_or_ge a b with hlt | hge
    · have hE1 := hE.one (by omega)
      have hlen := seg_len (a := a + 1) hb
      have ha : a < cnt.length := by omega
      have hc0 : 0 ≤ cnt.getD a 0 := by
        simp only [List.getD, List.getElem?_eq_getElem ha, Option.getD_some]
        exact h0 _ (List.getElem_mem ha)
      rw [seg_cons hlt hb, perr, hlen]
      by_cases hbad : ((b - (a + 1) : Nat) : Int) < cnt.getD a 0
      · rw [if_pos hbad]
        refine .inr ⟨a, _, Nat.le_refl _, hlt, rfl, ⟨?_, hbad⟩, fun j h1 h2 => by omega⟩
        have e : (a : Int) + 1 + ((b - (a + 1) : Nat) : Int) = b := by omega
        rw [e]; exact hE1
      · rw [if_neg hbad]
        have hfine : Fine cnt a := fun c hc => by
          have := hE1.eq hc
          unfold eOf; omega
        obtain ⟨c, hc⟩ : ∃ c : Nat, (c : Int) = eOf cnt a := ⟨(eOf cnt a).toNat, by unfold eOf; omega⟩
        have hcd : (c : Int) = (a : Int) + 1 + cnt.getD a 0 := hc
        have hn' : (cnt.getD a 0).toNat = c - (a + 1) := by omega
        rw [hn', seg_take (by omega), seg_drop (by omega)]
        have hI : IsEnd cnt (a + 1) c := by
          refine ⟨by omega, ?_, .inr ⟨a, by omega, hc.symm⟩⟩
          intro j hj hlt'
          rcases Nat.lt_or_ge j a with h | h
          · have := hE.2.1 j h (by omega); omega
          · have : j = a := by omega
            subst this; omega
        rcases ih (a + 1) c (by omega) (by omega) (by omega) hI with ⟨e1, f1⟩ | ⟨k, r, k1, k2, e1, hb1, f1⟩
        · have hI2 : IsEnd cnt c b := by
            refine ⟨hE.1, ?_, hE.2.2.imp id fun ⟨j, h1, h2⟩ => ⟨j, by omega, h2⟩⟩
            intro j hj hlt'
            rcases Nat.lt_or_ge j a with h | h
            · exact hE.2.1 j h (by omega)
            · rcases Nat.eq_or_lt_of_le h with h | h
              · subst h; omega
              · have := (f1 j (by omega) hj).2; omega
          rw [e1]
          rcases ih c b (by omega) (by omega) hb hI2 with ⟨e2, f2⟩ | ⟨k, r, k1, k2, e2, hb2, f2⟩
          · refine .inl ⟨by rw [e2]; rfl, fun k h1 h2 => ?_⟩
            rcases Nat.eq_or_lt_of_le h1 with h | h
            · subst h; exact ⟨hfine, by omega⟩
            · rcases Nat.lt_or_ge k c with h3 | h3
              · have := f1 k (by omega) h3
                exact ⟨this.1, by omega⟩
              · exact f2 k h3 h2
          · refine .inr ⟨k, r, by omega, k2, by rw [e2]; rfl, hb2, fun j h1 h2 => ?_⟩
            rcases Nat.eq_or_lt_of_le h1 with h | h
            · subst h; exact hfine
            · rcases Nat.lt_or_ge j c with h3 | h3
              · exact (f1 j (by omega) h3).1
              · exact f2 j h3 h2
        · refine .inr ⟨k, r, by omega, by omega, by rw [e1]; rfl, hb1, fun j h1 h2 => ?_⟩
          rcases Nat.eq_or_lt_of_le h1 with h | h
          · subst h; exact hfine
          · exact f1 j (by omega) h2
    · have e : a = b := by omega
      subst e
      refine .inl ⟨?_, fun k h1 h2 => by omega⟩
      unfold seg; simp [perr]
theorem seg_all (cnt : List Int) : seg cnt 0 cnt.length = cnt := by unfold seg; simp
/-- the whole: no octet is bad, or the first bad one is what the reading tells -/
theorem told_fine {cnt : List Int} (h0 : ∀ c ∈ cnt, 0 ≤ c) (h : ∀ k, k < cnt.length → Fine cnt k) : perr cnt = none := by
  rcases seg_told h0 cnt.length 0 cnt.length (by omega) (by omega) (Nat.le_refl _) ⟨Int.le_refl _, (fun j hj => by omega), .inl rfl⟩ with ⟨e, _⟩ | ⟨k, r, _, k2, _, ⟨hb1, hb2⟩, _⟩
  · rw [seg_all] at e; exact e
  · have := h k k2 _ hb1
    unfold eOf at this; omega
theorem told_bad {cnt : List Int} (h0 : ∀ c ∈ cnt, 0 ≤ c) {k : Nat} {r : Int} (hk : k < cnt.length) (hb : Bad cnt k r) (h : ∀ j, j < k → Fine cnt j) : perr cnt = some (cnt.getD k 0, r) := by
  rcases seg_told h0 cnt.length 0 cnt.length (by omega) (by omega) (Nat.le_refl _) ⟨Int.le_refl _, (fun j hj => by omega), .inl rfl⟩ with ⟨_, f⟩ | ⟨k', r', _, k2, e, hb', f⟩
  · have h9 := (f k (by omega) hk).1 _ hb.1
    have := hb.2
    unfold eOf at h9; omega
  · rw [seg_all] at e
    have hkk : k = k' := by
      rcases Nat.lt_trichotomy k k' with h1 | h1 | h1
      · have h9 := f k (by omega) h1 _ hb.1
        have := hb.2
        unfold eOf at h9; omega
      · exact h1
      · have h9 := h k' h1 _ hb'.1
        have := hb'.2
        unfold eOf at h9; omega
    subst hkk
    have := hb.1.eq hb'.1
    have er : r = r' := by omega
    rw [e, er]
end Mine
end
section
open PySem PySem.W PyProof.Rows PySem.Spec PySem.Calls
set_option maxRecDepth 100000
namespace Mine
theorem rsize_nat' (n : Nat) : Builtin.Range.rangeSize 0 (n : Int) 1 = (n : Int) := by
  unfold Builtin.Range.rangeSize
  simp only [show ((1 : Int) > 0) by decide, if_true, Int.ediv_one]
  split <;> omega
section
variable {prog : Program} {w : World} {A : Around} {E : Value → Shared → Prop} {s : Shared} {env : Env} {h₀ : Heap} {x : Str} {px : Pos} {body : List Stmt} {Q : Flow → Shared → Prop}
abbrev enN : Str := Str.ofString "end"
abbrev woN : Str := Str.ofString "words"
def SrPost (P : Prop) (W : Value → Prop) (m₀ : Str → Option Value) (ck : Addr) (rest own : List (Addr × Obj)) (h₀ : Heap) (L : Addr) (s₁ : Shared) (fl : Flow) (s₂ : Shared) : Prop :=
  match fl with
  | .ret _ => False
  | .brk => ∃ h' tk m' ok v, s₂ = { s₁ with heap := h', toks := tk } ∧ Fr h₀ L h' m' ∧ m' woN = some v ∧ W v ∧ (∀ z, z ≠ enN → z ≠ woN → m' z = m₀ z) ∧ News h₀ L h' ((ck, ok) :: rest) ∧ (∃ u, ok.data = .cell u)
  | _ => ∃ h' tk m' ok, s₂ = { s₁ with heap := h', toks := tk } ∧ Fr h₀ L h' m' ∧ (∀ z, z ≠ enN → m' z = m₀ z) ∧ News h₀ L h' ((ck, ok) :: (rest ++ own)) ∧ (∃ u, ok.data = .cell u) ∧ P
theorem srch_iter (P : Nat → Prop) (W : Value → Prop) {r ck : Addr} {n : Nat} {t₀ u₀ v₀ : Tok} {m₀ : Str → Option Value} {ok₀ : Obj} {rest : List (Addr × Obj)}
    (hh : A.handled = none) (hr : IsRange s.heap r 0 (n : Int) 1 t₀ u₀ v₀) (hb : n ≤ 63) (F : Fr h₀ env.locals s.heap m₀)
    (N : News h₀ env.locals s.heap ((ck, ok₀) :: rest)) (hok : ∃ u, ok₀.data = .cell u) (hP : P 0)
    (turn : ∀ (i : Nat) t (u : Str → Option Value) ok own h tk, i < n → P i → (∃ u, ok.data = .cell u) → (∀ q ∈ own, q.1 ≠ ck) →
      Fr h₀ env.locals h (fun z => if z = enN then u z else m₀ z) → News h₀ env.locals h ((ck, ok) :: (rest ++ own)) →
      wpAny (model prog w) A (assign (.Name x px) env (.int (i : Int) t)) (fun _ s₃ => wpAny (model prog w) A (execs body env) (SrPost (P (i + 1)) W m₀ ck rest own h₀ env.locals { s with heap := h, toks := tk }) E s₃) E { s with heap := h, toks := tk })
    (brk : ∀ (u : Str → Option Value) v ok h tk, W v → (∃ u, ok.data = .cell u) → Fr h₀ env.locals h (fun z => if z = woN then some v else if z = enN then u z else m₀ z) → News h₀ env.locals h ((ck, ok) :: rest) → Q .next { s with heap := h, toks := tk })
    (done : ∀ (u : Str → Option Value) ok h tk, P n → (∃ u, ok.data = .cell u) → Fr h₀ env.locals h (fun z => if z = enN then u z else m₀ z) → News h₀ env.locals h ((ck, ok) :: rest) → Q .next { s with heap := h, toks := tk }) :
    wpAny (model prog w) A (pyIter (.ref r)) (fun it s₂ => TurnsAt prog w A h₀ env (.Name x px) body Q E it s₂) E s := by
  have frOf : ∀ (m : Str → Option Value), (∀ z, z ≠ enN → m z = m₀ z) → (fun z => if z = enN then m z else m₀ z) = m := fun m hm => by
    funext z
    by_cases h1 : z = enN
    · simp [h1]
    · simp only [if_neg h1]; exact (hm z h1).symm
  refine wpAny_pyIter_range hr (small_one (by omega) (by omega) (by omega) (by omega)) ?_
  have Wk : Walks prog w A s.heap.objs.size [s.heap.objs.size] [s.heap.objs.size] n (fun i v => i < n ∧ ∃ t, v = .int (0 + i * 1) t)
      (fun i h => IsRangeIter h s.heap.objs.size (0 + (i : Nat) * 1) ((n : Int) - (i : Nat)) 1) := (Walks.range hh _ 0 1 n).bound
  refine ⟨s.heap.objs.size, _, _, n, _, _, _, m₀, (ck, ok₀) :: rest,
    (fun i m nx => ∃ ok, nx = (ck, ok) :: rest ∧ (∃ u, ok.data = .cell u) ∧ (∀ z, z ≠ enN → m z = m₀ z) ∧ P i), rfl,
    KTurns.ofWalks (target := .Name x px) Wk (fun _ _ _ _ _ _ hQ => wpAny_pure hQ), ?_, ?_, ?_, (by show IsRangeIter _ _ _ _ _; rw [rsize_nat']; simpa using Heap.get?_push_size _ rfl), F.push _, (fun p hp => ⟨Heap.get?_push_of_some _ (N p hp).1, (N p hp).2⟩), ⟨ok₀, rfl, hok, fun _ _ => rfl, hP⟩, ?_, ?_⟩
  · intro hm
    exact absurd F.ns.lt ((List.mem_singleton.mp hm) ▸ Nat.lt_irrefl _)
  · intro b hb
    rw [List.mem_singleton.mp hb]
    exact next_is_new F
  · intro p hp hI
    exact absurd (Heap.lt_size (N p hp).1) ((List.mem_singleton.mp hI) ▸ Nat.lt_irrefl _)
  · rintro i v m₁ nx h tk own hi ⟨_, t, rfl⟩ ⟨ok, rfl, hok', hm, hPi⟩ hoff hown _ hmem hst F₁ N₁
    have e1 : (0 : Int) + (i : Int) * 1 = (i : Int) := by omega
    rw [e1]
    have N₂ : News h₀ env.locals h ((ck, ok) :: (rest ++ own)) := kst_newsOf N₁ (by intro q hq; simp only [List.mem_cons, List.mem_append] at hq ⊢; rcases hq with h | h | h <;> simp [h])
    rw [← frOf m₁ hm] at F₁
    have hsep : ∀ q ∈ own, ∀ p ∈ (ck, ok) :: rest, q.1 ≠ p.1 := fun q hq p hp e => hoff p hp (e ▸ hown q hq)
    refine wpAny_mono (turn i t m₁ ok own h tk hi hPi hok' (fun q hq => hsep q hq _ (.head _)) F₁ N₂) (fun _ s₃ h₃ => wpAny_mono h₃ (fun fl s₂ Ps => ?_) fun _ _ e => e) fun _ _ e => e
    have fin : (∃ h' tk' m' ok', s₂ = { ({ s with heap := h, toks := tk } : Shared) with heap := h', toks := tk' } ∧ Fr h₀ env.locals h' m' ∧ (∀ z, z ≠ enN → m' z = m₀ z) ∧ News h₀ env.locals h' ((ck, ok') :: (rest ++ own)) ∧ (∃ u, ok'.data = .cell u) ∧ P (i + 1)) →
        LoopStepU h₀ env.locals [s.heap.objs.size] own (fun m nx => ∃ ok, nx = (ck, ok) :: rest ∧ (∃ u, ok.data = .cell u) ∧ (∀ z, z ≠ enN → m z = m₀ z) ∧ P (i + 1)) { s with heap := h, toks := tk } .next s₂ := by
      rintro ⟨h', tk', m', ok', e, F', hm', N', hok2, hP'⟩
      refine ⟨rfl, h', tk', m', (ck, ok') :: rest, e, F', kst_newsOf N' ?_, ?_, ok', rfl, hok2, hm', hP'⟩
      · intro q hq
        simp only [List.mem_cons, List.mem_append] at hq ⊢
        rcases hq with h | h | h <;> simp [h]
      · intro p hp
        rcases List.mem_cons.mp hp with rfl | hp
        · exact hoff (ck, ok) (.head _)
        · exact hoff p (.tail _ hp)
    cases fl with
    | ret v => exact Ps.elim
    | brk =>
      obtain ⟨h', tk', m', ok', v, rfl, F', hv, hW, hm', N', hok2⟩ := Ps
      refine .brk (brk m' v ok' h' tk' hW hok2 ?_ N')
      have e : (fun z => if z = woN then some v else if z = enN then m' z else m₀ z) = m' := by
        funext z
        by_cases h1 : z = woN
        · subst h1; simp [hv]
        · simp only [if_neg h1]
          by_cases h2 : z = enN
          · simp [h2]
          · simp only [if_neg h2]; exact (hm' z h2 h1).symm
      rw [e]; exact F'
    | next => exact .next (fin Ps)
    | cont => exact .cont (fin Ps)
  · rintro h' tk m' nx F' N' _ ⟨ok, rfl, hok', hm, hPn⟩
    rw [← frOf m' hm] at F'
    exact done m' ok h' tk hPn hok' F' N'
end
end Mine
end
section
open PySem PySem.W PyProof.Rows PySem.Spec PySem.Calls LCg LCt
set_option maxRecDepth 100000
namespace Mine
theorem compEnd_mono {h₀ : Heap} {L I C D : Addr} {m : Str → Option Value} {s₁ s₂ : Shared} {oI oC oD : Obj} {S : List (Addr × Obj) → Prop} {R R' : Value → List (Addr × Obj) → Prop} {y : Value} (h : ∀ y news, R y news → R' y news) (c : CompEnd h₀ L m s₁ I oI C oC D oD S R y s₂) : CompEnd h₀ L m s₁ I oI C oC D oD S R' y s₂ := by
  obtain ⟨h', tk, news', e, F, N, off, hS, r⟩ := c
  exact ⟨h', tk, news', e, F, N, off, hS, h _ _ r⟩
theorem comp_ind {prog : Program} {w : World} {A : Around} {h₀ : Heap} {L : Addr} {m : Str → Option Value} {env : Env} {ct elt : Expr} {x : Str} {scope : Scope} {cl : List (Str × Addr)} {s : Shared} {S : List (Addr × Obj) → Prop} {P : Nat → Value → Prop} {Fin : List Value → List (Addr × Obj) → Prop} {n : Nat} {news : List (Addr × Obj)}
    (G : Nat → List Value → Prop) (g0 : G 0 [])
    (turn : ∀ i ys v I oI C oC D m₂ h tk (E' : Value → Shared → Prop), i < n → G i ys → P i v → NsObj oC m₂ → m₂ x = some v → Fr h₀ L h m → News h₀ L h ((I, oI) :: (C, oC) :: (D, lst ys) :: news) → Off3 I C D news → ((@Ne Nat I C) ∧ (@Ne Nat I D) ∧ (@Ne Nat C D)) →
      wpAny (model prog w) A (isTrue ct (compEnvC scope cl C env) (eval ct (compEnvC scope cl C env))) (fun ok s' => if ok = true then
        wpAny (model prog w) A (eval elt (compEnvC scope cl C env)) (CompEnd h₀ L m { s with heap := h, toks := tk } I oI C oC D (lst ys) S (fun y news' => news' = news ∧ G (i + 1) (ys ++ [y]))) E' s'
        else CompEnd h₀ L m { s with heap := h, toks := tk } I oI C oC D (lst ys) S (fun _ news' => news' = news ∧ G (i + 1) ys) Value.none s') E' { s with heap := h, toks := tk })
    (done : ∀ ys, G n ys → Fin ys news) : CompRestT prog w A h₀ L m env ct elt x scope cl s S P Fin n 0 [] news := by
  have all : ∀ k i ys, i + k = n → G i ys → CompRestT prog w A h₀ L m env ct elt x scope cl s S P Fin k i ys news := by
    intro k
    induction k with
    | zero =>
      intro i ys e g
      have : i = n := by omega
      subst this
      exact CompRestT.zero (done ys g)
    | succ k ih =>
      intro i ys e g
      refine CompRestT.succ ?_
      intro v I oI C oC D m₂ h tk E' hv hC hx F N off ne
      refine wpAny_mono (turn i ys v I oI C oC D m₂ h tk E' (by omega) g hv hC hx F N off ne) (fun ok s' h' => ?_) fun _ _ e => e
      cases ok with
      | true =>
        simp only [if_true] at h' ⊢
        refine wpAny_mono h' (fun y s'' h'' => compEnd_mono ?_ h'') fun _ _ e => e
        rintro y news' ⟨rfl, g'⟩
        exact ih (i + 1) _ (by omega) g'
      | false =>
        simp only [Bool.false_eq_true, if_false] at h' ⊢
        refine compEnd_mono ?_ h'
        rintro _ news' ⟨rfl, g'⟩
        exact ih (i + 1) _ (by omega) g'
  exact all n 0 [] (by omega) g0
/-- the ends of those before i that reach over k -/
def endsTo (cnt : List Int) (k : Nat) : Nat → List Int
  | 0 => []
  | i + 1 => if (k : Int) ≤ (i : Int) + cnt.getD i 0 then endsTo cnt k i ++ [(i : Int) + 1 + cnt.getD i 0] else endsTo cnt k i
theorem endsTo_len (cnt : List Int) (k : Nat) : ∀ i, (endsTo cnt k i).length ≤ i
  | 0 => Nat.le_refl _
  | i + 1 => by
    have := endsTo_len cnt k i
    unfold endsTo
    split
    · simp; omega
    · omega
theorem mem_endsTo {cnt : List Int} {k : Nat} {e : Int} : ∀ {i : Nat}, e ∈ endsTo cnt k i ↔ ∃ j : Nat, j < i ∧ (k : Int) < eOf cnt j ∧ eOf cnt j = e
  | 0 => by simp [endsTo]
  | i + 1 => by
    have ih := mem_endsTo (cnt := cnt) (k := k) (e := e) (i := i)
    unfold endsTo
    by_cases h : (k : Int) ≤ (i : Int) + cnt.getD i 0
    · rw [if_pos h]
      simp only [List.mem_append, List.mem_singleton, ih]
      constructor
      · rintro (⟨j, h1, h2, h3⟩ | rfl)
        · exact ⟨j, by omega, h2, h3⟩
        · exact ⟨i, by omega, by unfold eOf; omega, rfl⟩
      · rintro ⟨j, h1, h2, h3⟩
        rcases Nat.lt_or_ge j i with h4 | h4
        · exact .inl ⟨j, h4, h2, h3⟩
        · have : j = i := by omega
          subst this
          exact .inr h3.symm
    · rw [if_neg h, ih]
      constructor
      · rintro ⟨j, h1, h2, h3⟩
        exact ⟨j, by omega, h2, h3⟩
      · rintro ⟨j, h1, h2, h3⟩
        rcases Nat.lt_or_ge j i with h4 | h4
        · exact ⟨j, h4, h2, h3⟩
        · have : j = i := by omega
          subst this
          unfold eOf at h2; omega
/-- the least of the total and the ends is the nearest end -/
theorem min_isEnd {cnt : List Int} {k : Nat} {b : Int} (hm : b ∈ (cnt.length : Int) :: endsTo cnt k k) (hl : ∀ e ∈ (cnt.length : Int) :: endsTo cnt k k, b ≤ e) : IsEnd1 cnt k b := by
  refine ⟨hl _ (.head _), fun j hj hlt => hl _ (.tail _ (mem_endsTo.mpr ⟨j, hj, hlt, rfl⟩)), ?_⟩
  rcases List.mem_cons.mp hm with rfl | hm
  · exact .inl rfl
  · obtain ⟨j, h1, h2, h3⟩ := mem_endsTo.mp hm
    exact .inr ⟨j, h1, h2, h3⟩
end Mine
end
section
open PySem PySem.W PyProof.Rows PySem.Spec PySem.Calls
set_option maxRecDepth 100000
namespace Mine
set_option maxHeartbeats 8000000 in
theorem mod_msg {prog : Program} {w : World} {A : Around} {E : Value → Shared → Prop} {s : Shared} {t t1 t2 : Tok} {Q : Value → Shared → Prop} {b L : Addr} {k : Nat} {h₀ : Heap} {news : List (Addr × Obj)} {n r : Int}
    (N : News h₀ L s.heap news) (hb : (b, ({ cls := .type "tuple", data := .seq #[.int n t1, .int r t2] k } : Obj)) ∈ news) (n0 : 0 ≤ n) (n1 : n ≤ 255) (r0 : 0 ≤ r) (r1 : r ≤ 255)
    (h : ∀ t' k, Q (.str (msgOf n r) t') { s with toks := k }) : wpAny (model prog w) A (binaryOp .Mod (.str (Str.ofString "expected %d bytes in a bytes1, but only %d remain") t) (.ref b)) Q E s := by
  k_dflt (refine' KPt.mod_tuple N hb ?kptF ?kptm ?hq; (case kptF => kpt_eq); (case kptm => kpt_run))
  case hq => exact h
end Mine
end
section
open PySem PySem.W PyProof.Rows PySem.Spec PySem.Calls
set_option maxRecDepth 100000
namespace Mine
/-- what the words tell of the octets -/
def WordsAre (cnt : List Int) (v : Value) : Prop := (v = .none ∧ perr cnt = none) ∨ ∃ n r t, v = .str (msgOf n r) t ∧ perr cnt = some (n, r)
theorem IsEnd1.gt {cnt : List Int} {k : Nat} {b : Int} (h : IsEnd1 cnt k b) (hk : k < cnt.length) : (k : Int) < b := by
  rcases h.2.2 with h | ⟨j, _, h2, h3⟩ <;> omega
theorem words_bad {cnt : List Int} {k : Nat} {b : Int} {t : Tok} (h0 : ∀ c ∈ cnt, 0 ≤ c ∧ c ≤ 255) (hk : k < cnt.length) (hE : IsEnd1 cnt k b) (hb : b < (k : Int) + 1 + cnt.getD (k : Int).toNat 0) (hP : ∀ j, j < k → Fine cnt j) :
    WordsAre cnt (.str (msgOf (cnt.getD (k : Int).toNat 0) (b - k - 1)) t) := by
  rw [Int.toNat_natCast] at hb ⊢
  refine .inr ⟨_, _, _, rfl, told_bad (fun c hc => (h0 c hc).1) hk ⟨?_, by omega⟩ hP⟩
  have e : (k : Int) + 1 + (b - k - 1) = b := by omega
  rw [e]; exact hE
theorem fine_next {cnt : List Int} {k : Nat} {b : Int} (hE : IsEnd1 cnt k b) (hb : ¬ b < (k : Int) + 1 + cnt.getD (k : Int).toNat 0) (hP : ∀ j, j < k → Fine cnt j) : ∀ j, j < k + 1 → Fine cnt j := by
  rw [Int.toNat_natCast] at hb
  intro j hj
  rcases Nat.lt_or_ge j k with h | h
  · exact hP j h
  · have : j = k := by omega
    subst this
    intro c hc
    have := hE.eq hc
    unfold eOf; omega
theorem words_fine {cnt : List Int} (h0 : ∀ c ∈ cnt, 0 ≤ c ∧ c ≤ 255) (hP : ∀ j, j < cnt.length → Fine cnt j) : WordsAre cnt .none := .inl ⟨rfl, told_fine (fun c hc => (h0 c hc).1) hP⟩
theorem sr_brk {h₀ h : Heap} {L : Addr} {a b c d k r1 r2 r3 r4 r5 : Addr × Obj} {own : List (Addr × Obj)} (N : News h₀ L h (a :: b :: c :: d :: k :: r1 :: r2 :: r3 :: r4 :: r5 :: own)) : News h₀ L h (k :: [r1, r2, r3, r4, r5]) :=
  kst_newsOf N (by intro q hq; simp only [List.mem_cons, List.not_mem_nil, or_false] at hq ⊢; rcases hq with h | h | h | h | h | h <;> simp [h])
theorem sr_next {h₀ h : Heap} {L : Addr} {a b c : Addr × Obj} {r : List (Addr × Obj)} (N : News h₀ L h (a :: b :: c :: r)) : News h₀ L h r :=
  kst_newsOf N (by intro q hq; simp [hq])
section
variable {prog : Program} {w : World} {A : Around} {E : Value → Shared → Prop} {s : Shared} {env : Env} {h₀ : Heap} {x : Str} {px : Pos} {body : List Stmt} {Q : Flow → Shared → Prop}
theorem srch_iter1 {cnt : List Int} {r ck : Addr} {t₀ u₀ v₀ : Tok} {m₀ : Str → Option Value} {ok₀ : Obj} {rest : List (Addr × Obj)} (h0 : ∀ c ∈ cnt, 0 ≤ c ∧ c ≤ 255)
    (hh : A.handled = none) (hr : IsRange s.heap r 0 (cnt.length : Int) 1 t₀ u₀ v₀) (hb : cnt.length ≤ 63) (F : Fr h₀ env.locals s.heap m₀)
    (N : News h₀ env.locals s.heap ((ck, ok₀) :: rest)) (hok : ∃ u, ok₀.data = .cell u) (hw : m₀ woN = some .none)
    (turn : ∀ (i : Nat) t (u : Str → Option Value) ok own h tk, i < cnt.length → (∀ j, j < i → Fine cnt j) → (∃ u, ok.data = .cell u) → (∀ q ∈ own, q.1 ≠ ck) →
      Fr h₀ env.locals h (fun z => if z = enN then u z else m₀ z) → News h₀ env.locals h ((ck, ok) :: (rest ++ own)) →
      wpAny (model prog w) A (assign (.Name x px) env (.int (i : Int) t)) (fun _ s₃ => wpAny (model prog w) A (execs body env) (SrPost (∀ j, j < i + 1 → Fine cnt j) (WordsAre cnt) m₀ ck rest own h₀ env.locals { s with heap := h, toks := tk }) E s₃) E { s with heap := h, toks := tk })
    (fin : ∀ (u : Str → Option Value) v ok h tk, WordsAre cnt v → (∃ u, ok.data = .cell u) → Fr h₀ env.locals h (fun z => if z = woN then some v else if z = enN then u z else m₀ z) → News h₀ env.locals h ((ck, ok) :: rest) → Q .next { s with heap := h, toks := tk }) :
    wpAny (model prog w) A (pyIter (.ref r)) (fun it s₂ => TurnsAt prog w A h₀ env (.Name x px) body Q E it s₂) E s := by
  refine srch_iter (fun i => ∀ j, j < i → Fine cnt j) (WordsAre cnt) hh hr hb F N hok (fun j hj => absurd hj (Nat.not_lt_zero _)) turn fin ?_
  intro u ok h tk hP hok' F' N'
  refine fin u .none ok h tk (words_fine h0 hP) hok' ?_ N'
  have e : (fun z => if z = woN then some Value.none else if z = enN then u z else m₀ z) = fun z => if z = enN then u z else m₀ z := by
    funext z
    by_cases h1 : z = woN
    · subst h1
      simp only [if_true]
      rw [if_neg (by decide), hw]
    · simp only [if_neg h1]
  rw [e]; exact F'
end
end Mine
end
section
open PySem PySem.W PyProof.Rows PyProof.V PySem.Spec PySem.Calls
set_option maxRecDepth 100000
namespace Mine
section
variable {prog : Program} {w : World} {A₀ : Around} {E : Value → Shared → Prop} {s' : Shared} {h₀ g : Heap} {outer : List Env} {L a e t : Addr} {m : Str → Option Value} {cn : Str} {cs : Scope} {ccd : Value} {cl : List (Str × Addr)}
  {vs : List Value} {n : Str} {b₀ : Stmt} {suite : List Stmt} {pos np : Pos} {rest : List ExceptHandler} {Q : Flow → Shared → Prop} {G : Frag} {news : List (Addr × Obj)}
  {p : Program} {loose : List Str} {mg mb : Str → Option Value}
/-- a ValueError that a callee raised is taken by a frame with cells -/
theorem caught_cells (K : Below A₀ h₀ outer h₀) (F : Fr h₀ L g m) (hsm : g.UpToSlots s'.heap) (R : RaisedK h₀ (envX cn cs L a ccd cl :: outer) e (.type "ValueError") t vs news s'.heap)
    (X : G.In h₀) (T : TopRead p loose mg mb h₀) (hg : nsIn G mainGlobals (Str.ofString "ValueError") = some none)
    (hk : cs.kind = .function) (hlo : (envX cn cs L a ccd cl).kindOf n = some .local) (hx : (envX cn cs L a ccd cl).kindOf (Str.ofString "ValueError") = some .globalImplicit)
    (k : ∀ h' news₂ tk, Fr h₀ L h' (fun y => if y = n then some (.ref e) else m y) → News h₀ L h' news₂ → Got news₂ e t (.type "ValueError") vs → News h₀ L h' news →
      wpAny (model prog w) ((A₀.deeper (envX cn cs L a ccd cl)).mark (some (.ref e))) (execs (b₀ :: suite) (envX cn cs L a ccd cl))
        (fun f s₄ => wpAny (model prog w) (A₀.deeper (envX cn cs L a ccd cl)) (do bindName (envX cn cs L a ccd cl) n .none; unbindBehindTheSuite (envX cn cs L a ccd cl) n pos) (fun _ s₅ => Q f s₅) E s₄)
        (fun _ _ => False) { s' with heap := h', toks := tk }) :
    wpAny (model prog w) (A₀.deeper (envX cn cs L a ccd cl)) (noteFrame (.ref e) (envX cn cs L a ccd cl))
      (fun _ s₂ => wpAny (model prog w) (A₀.deeper (envX cn cs L a ccd cl)) (setFlight (.ref e) none) (fun _ s₃ =>
        wpAny (model prog w) (A₀.deeper (envX cn cs L a ccd cl)) (handleBy (.ref e) (envX cn cs L a ccd cl) (.ExceptHandler (some (.Name (Str.ofString "ValueError") np)) (some n) (b₀ :: suite) pos :: rest)) Q E s₃) E s₂) E s' := by
  obtain ⟨⟨B, hB, kept, fly, fresh⟩, tup⟩ := R
  have noL : B.get? L = none := by
    obtain ⟨_, ⟨L', _, hf, hno, _⟩, _⟩ := fly.2.2.1
    rw [Option.some.inj hf]; exact hno
  refine wpAny_looks_onW (Around.frames_deeper K.stack) rfl fly fun h₁ held u₁ => wpAny_landsW held fun h₂ fly₂ u₂ => ?_
  have fly₂' := flyingW_base hB fly₂
  have F₂ : Fr h₀ L h₂ m := F.of_stays fly₂'.1 (hsm.trans (u₁.trans u₂))
  obtain ⟨ob, hob, hobc⟩ := fly₂'.there
  refine wpAny_handleBy_builtin_as (X := "ValueError") (T := "ValueError") (b := true) PySem.F.isExc_ValueError PySem.F.notTuple_ValueError (by rw [isSubtype_type]; kernel_rfl)
    (nameX_B F₂ X T hg PyProof.Rows.Boot.«ValueError» (by decide +kernel) ⟨rfl, ⟨ob, hob, hobc⟩, ?_⟩ hk hx)
  refine lands_againW fly₂ fun h₃ fly₃ u₃ => ?_
  have fly₃' := flyingW_base hB fly₃
  have F₃ : Fr h₀ L h₃ m := F.of_stays fly₃'.1 ((hsm.trans (u₁.trans u₂)).trans u₃)
  obtain ⟨oe, ws, hoe, hoec, hoed, hoe0⟩ := fly₃'.first
  obtain ⟨ot, nt, hot, hotc, hotd⟩ := ((tup.of_slots u₁).of_slots u₂).of_slots u₃
  have N₃ := News.more F₃ (News.more F₃ News.nil hot (fun es n q => by rw [hotd] at q; cases q) (fresh_of_stays hB fresh)) hoe (fun es n q => by rw [hoed] at q; cases q) fly₃'.2.1
  have N₃' : News h₀ L h₃ news := fun q hq => ⟨fly₃.1 _ _ (kept q hq).1, (fun z => by have := (kept q hq).1; rw [z, noL] at this; cases this), (kept q hq).2⟩
  refine storeX_L F₃ (news := _ ++ news) (fun q hq => (List.mem_append.mp hq).elim (N₃ q) (N₃' q)) (fun h₄ F₄ N₄ => ?_) hk hlo
  exact wpAny_mono (k h₄ _ _ F₄ (fun q hq => N₄ q (List.mem_append_left _ hq)) ⟨oe, ot, ws, nt, .head _, .tail _ (.head _), hoec, hoed, hoe0, hotc, hotd⟩ fun q hq => N₄ q (List.mem_append_right _ hq)) (fun _ _ h => h) fun _ _ h => h.elim
/-- the name goes behind the suite -/
theorem goes_cells {M : Model} {A : Around} {s : Shared} {Q : Unit → Shared → Prop} (F : Fr h₀ L s.heap m) (N : News h₀ L s.heap news) (hk : cs.kind = .function) (hlo : (envX cn cs L a ccd cl).kindOf n = some .local)
    (h : ∀ h' v, Fr h₀ L h' (fun y => if y = n then v else m y) → News h₀ L h' news → Q () { s with heap := h', toks := s.toks + 1 }) :
    wpAny M A (do bindName (envX cn cs L a ccd cl) n .none; unbindBehindTheSuite (envX cn cs L a ccd cl) n pos) Q E s :=
  wpAny_nameGoes_keeps hlo F.ns (by show (cs.kind == .class || (cs.kind == .module && L != mainGlobals)) = false; rw [hk]; rfl) fun h' v hn hs => h h' v (F.set hn hs) (N.set hs)
end
end Mine
end
section
open PySem PySem.W PyProof.Rows PySem.Spec PySem.Calls
set_option maxRecDepth 100000
namespace Mine
theorem getD_bd {cnt : List Int} {lo hi : Int} (h0 : lo ≤ 0) (h1 : 0 ≤ hi) (hc : ∀ c ∈ cnt, lo ≤ c ∧ c ≤ hi) (j : Nat) : lo ≤ cnt.getD j 0 ∧ cnt.getD j 0 ≤ hi := by
  rcases Nat.lt_or_ge j cnt.length with h | h
  · simp only [List.getD, List.getElem?_eq_getElem h, Option.getD_some]
    exact hc _ (List.getElem_mem h)
  · simp only [List.getD, List.getElem?_eq_none h, Option.getD_none]
    exact ⟨h0, h1⟩
theorem bent_ok {cnt : List Int} {j i : Nat} {T : Int} (hc : ∀ c ∈ cnt, 0 ≤ c ∧ c ≤ 63) :
    0 ≤ [cnt.getD j 0, cnt.getD j 0 + 1, if cnt.getD j 0 - 1 > 0 then cnt.getD j 0 - 1 else 0, T.fmod 256].getD i 0 ∧ [cnt.getD j 0, cnt.getD j 0 + 1, if cnt.getD j 0 - 1 > 0 then cnt.getD j 0 - 1 else 0, T.fmod 256].getD i 0 ≤ 255 := by
  have h := getD_bd (Int.le_refl 0) (by decide) hc j
  have h1 : 0 ≤ T.fmod 256 := Int.fmod_nonneg_of_pos _ (by decide)
  have h2 : T.fmod 256 < 256 := Int.fmod_lt_of_pos _ (by decide)
  refine getD_bd (Int.le_refl 0) (by decide) ?_ i
  intro c hc'
  simp only [List.mem_cons, List.not_mem_nil, or_false] at hc'
  rcases hc' with rfl | rfl | rfl | rfl
  · omega
  · omega
  · split <;> omega
  · omega
theorem set_gen {prog : Program} {w : World} {A : Around} {E : Value → Shared → Prop} {s : Shared} {h₀ : Heap} {L D : Addr} {m : Str → Option Value} {a : Addr × Obj} {rest : List (Addr × Obj)} {vs : List Value} {ns : List Int} {n : Nat} {k x : Int} {t u : Tok} {Q : Unit → Shared → Prop}
    (F : Fr h₀ L s.heap m) (N : News h₀ L s.heap (a :: (D, listOf vs.toArray n) :: rest)) (ha : @Ne Nat a.1 D) (hr : ∀ q ∈ rest, q.1 ≠ D) (hi : IntsAre vs ns) (h0 : 0 ≤ k) (h1 : k < ns.length) (hl : ns.length ≤ 63)
    (hc : ∀ c ∈ ns, 0 ≤ c ∧ c ≤ 63) (hx : 0 ≤ x ∧ x ≤ 255)
    (h : ∀ vs' ns' h', Fr h₀ L h' m → News h₀ L h' (a :: (D, listOf (List.toArray vs') n) :: rest) → IntsAre vs' ns' → ns'.length = ns.length → (∀ c ∈ ns', 0 ≤ c ∧ c ≤ 255) → Q () { s with heap := h' }) :
    wpAny (model prog w) A (setItem (.ref D) (.int k t) (.int x u)) Q E s := by
  refine ksa_set F N (Upd.tail ha (Upd.head hr)) hi h0 h1 (by omega) fun h' F' N' hi' hl' _ => ?_
  refine h _ _ h' F' N' hi' hl' ?_
  intro c hcm
  rcases List.mem_or_eq_of_mem_set hcm with hcm | rfl
  · have := hc c hcm; omega
  · exact hx
local macro_rules | `(tactic| k_all) => `(tactic| first | assumption | exact ne_low (by assumption) (by omega) | fail "no order at hand")
theorem ends_in {cnt : List Int} {k j : Nat} {ys : List Value} {t : Tok} (h : IntsAre ys (endsTo cnt k j)) (hk : (k : Int) ≤ (j : Int) + cnt.getD (j : Int).toNat 0) : IntsAre (ys ++ [.int ((j : Int) + 1 + cnt.getD (j : Int).toNat 0) t]) (endsTo cnt k (j + 1)) := by
  rw [Int.toNat_natCast] at hk ⊢
  unfold endsTo
  rw [if_pos hk]
  exact h.append (IntsAre.cons _ _ .nil)
theorem ends_out {cnt : List Int} {k j : Nat} {ys : List Value} (h : IntsAre ys (endsTo cnt k j)) (hk : ¬ (k : Int) ≤ (j : Int) + cnt.getD (j : Int).toNat 0) : IntsAre ys (endsTo cnt k (j + 1)) := by
  rw [Int.toNat_natCast] at hk
  unfold endsTo
  rw [if_neg hk]
  exact h
theorem fin_news {h₀ h : Heap} {L : Addr} {a b c d e f : Addr × Obj} (N : News h₀ L h [a, b, c, d, e, f]) : News h₀ L h (f :: [a, b, c, d, e]) :=
  kst_newsOf N (by intro q hq; simp only [List.mem_cons, List.not_mem_nil, or_false] at hq ⊢; rcases hq with h | h | h | h | h | h <;> simp [h])
theorem five_ne {a b c d e f : Nat} {oa ob oc od oe : Obj} (h1 : a ≠ f) (h2 : b ≠ f) (h3 : c ≠ f) (h4 : d ≠ f) (h5 : e ≠ f) : ∀ q ∈ [(a, oa), (b, ob), (c, oc), (d, od), (e, oe)], q.1 ≠ f := by
  intro q hq
  simp only [List.mem_cons, List.not_mem_nil, or_false] at hq
  rcases hq with rfl | rfl | rfl | rfl | rfl
  · exact h1
  · exact h2
  · exact h3
  · exact h4
  · exact h5
theorem ret_news {h₀ h : Heap} {L : Addr} {t c a b d e f : Addr × Obj} {tl : List (Addr × Obj)} (N : News h₀ L h (t :: c :: (tl ++ [a, b, d, e, f]))) : News h₀ L h (t :: c :: a :: b :: d :: e :: f :: tl) :=
  kst_newsOf N (by intro q hq; simp only [List.mem_cons, List.mem_append, List.not_mem_nil, or_false] at hq ⊢; rcases hq with h | h | h | h | h | h | h | h <;> simp [h])
theorem with_news {h₀ h : Heap} {L : Addr} {x t c a b d e f : Addr × Obj} {tl tm : List (Addr × Obj)} (N : News h₀ L h (x :: (tm ++ (t :: c :: a :: b :: d :: e :: f :: tl)))) : News h₀ L h [x, t, c, a, b, d, e, f] :=
  kst_newsOf N (by intro q hq; simp only [List.mem_cons, List.mem_append, List.not_mem_nil, or_false] at hq ⊢; rcases hq with h | h | h | h | h | h | h | h <;> simp [h])
theorem room63 {dp len : Nat} (h : len ≤ 63) (hd : dp + 73 < recursionLimit) : dp + len + 10 < recursionLimit := by omega
theorem mem7 {t c a b d e f q : Addr × Obj} {tl : List (Addr × Obj)} (h : q ∈ tl) : q ∈ t :: c :: a :: b :: d :: e :: f :: tl := .tail _ (.tail _ (.tail _ (.tail _ (.tail _ (.tail _ (.tail _ h))))))
def Stop4 (P : Prop) : Prop := P
theorem Stop4.of {P : Prop} (h : Stop4 P) : P := h
local macro_rules | `(tactic| walk_at "call ref") => `(tactic| (k_here; refine Stop4.of ?_))
local macro_rules | `(tactic| walk_at "pyIter ref") => `(tactic| (k_here; (with_reducible show wpAny _ _ (pyIter (Value.ref _)) (fun it s₂ => TurnsAt _ _ _ _ _ _ _ _ _ it s₂) _ _); refine Stop4.of ?_))
local macro_rules | `(tactic| walk_at "eval ListComp") => `(tactic| (k_here; refine Stop4.of ?_))
local macro_rules | `(tactic| walk_at "binaryOp Mod str ref") => `(tactic| (k_here; refine Stop4.of ?_))
local macro_rules | `(tactic| walk_at "exec Try") => `(tactic| (k_here; refine Stop4.of ?_))
local macro_rules | `(tactic| walk_at "noteFrame ref") => `(tactic| (k_here; refine Stop4.of ?_))
local macro_rules | `(tactic| walk_at "call type:str") => `(tactic| (k_here; refine Stop4.of ?_))
local macro_rules | `(tactic| walk_at "bind") => `(tactic| (k_here; refine Stop4.of ?_))
local macro_rules | `(tactic| walk_at "CompSrcT") => `(tactic| (k_here; refine Stop4.of ?_))
local macro_rules | `(tactic| walk_at "exec For Name Call cons nil") => `(tactic| (k_here; (rename Fr _ _ _ _ => lF'); (with_unfolding_all refine' For_turns lF' ?_; k_whole)))
local macro_rules | `(tactic| walk_at "set here") => `(tactic| (k_here; k_dflt (refine' set_gen ?k1 ?k2 ?k3 ?k4 ?k5 ?k6 ?k7 ?k8 ?k9 ?k10 ?_; (case k1 => k_asm); (case k2 => k_asm); (case k3 => (refine neN ?_; (try dsimp only); omega)); (case k4 => k_all); (case k5 => assumption); (case k6 => first | assumption | omega); (case k7 => first | assumption | omega); (case k8 => omega); (case k9 => assumption); (case k10 => exact bent_ok (by assumption))); intro vs9 ns9 h9 F9 N9 hI9 hl9 hb9; (try dsimp only); (try k_fold)))
local macro_rules | `(tactic| walk_at "setItem ref int") => `(tactic| (k_here; refine Stop4.of ?_))
set_option maxHeartbeats 8000000 in
theorem t1 : PySem.Challenge.rw_dw0037_01.Holds := hd (by
  w_top off; k_go0; (all_goals try k_fold); k_steps
  unfold Stop4
  k_dflt (refine' counts_call ?k1 ?k2 ?k3 ?k4 ?k5 ?kk ?hI ?hb ?d1 ?ret)
  (case k1 => k_asm)
  (case k2 => k_asm)
  (case k3 => k_asm)
  (case k4 => k_asm)
  (case k5 => k_asm)
  (case kk => rfl)
  (case hI => assumption)
  (case hb => simp only [List.length_take]; omega)
  (case d1 => k_dflt (show _ + 6 < _; decide))
  case' ret => (intro b9 ws9 n9 cnt9 h9 tk9 F9 N9 hW9 hl9 hc9 hlt9; k_lt hlt9)
  have hl63 : cnt9.length ≤ 63 := by rw [hl9, List.length_take]; omega
  (try dsimp only); (try k_fold)
  k_steps
  unfold Stop4
  k_dflt (refine' set_gen ?k1 ?k2 ?k3 ?k4 ?k5 ?k6 ?k7 ?k8 ?k9 ?k10 ?set)
  (case k1 => k_asm)
  (case k2 => k_asm)
  (case k3 => (refine neN ?_; (try dsimp only); omega))
  (case k4 => k_all)
  (case k5 => assumption)
  (case k6 => exact Int.fmod_nonneg_of_pos _ (by omega))
  (case k7 => exact Int.fmod_lt_of_pos _ (by omega))
  (case k8 => omega)
  (case k9 => assumption)
  (case k10 => exact bent_ok (by assumption))
  case' set => intro vs9 ns9 h9 F9 N9 hI9 hlen9 hb9
  (try dsimp only); (try k_fold)
  k_steps
  unfold Stop4
  have hl63' : ns9.length ≤ 63 := by omega
  rename News _ _ _ _ => lN'
  rename Fr _ _ _ _ => lF'
  rename IsRange _ _ _ _ _ _ _ _ => rgX
  have hin9 : KBa.In ns9 := fun n hn => ⟨(hb9 n hn).1, by have := (hb9 n hn).2; omega⟩
  k_dflt (refine' srch_iter1 hb9 ?hh rgX hl63' lF' (news_outer lN') ?ok ?wn ?turn ?fin; (case hh => rfl); (case ok => exact ⟨_, by assumption⟩); (case wn => exact if_pos rfl))
  case turn =>
    rintro i t u ok own h tk hi hP ⟨uc, hok⟩ hown F' N'
    clear lF' lN'
    simp only [List.cons_append, List.nil_append] at N'
    (try dsimp only); (try k_fold)
    k_steps
    unfold Stop4
    k_dflt (refine LCt.ListComp_T (F₀ := by k_asm) (by with_unfolding_all rfl) (by decide) (by rfl) (by decide) (by rfl) ?_)
    k_steps
    unfold Stop4
    have hi63 : i < 63 := by omega
    k_dflt (refine LCt.CompSrcT.range (by rfl) (by k_asm) (by k_asm) (by assumption) (small_one (by omega) (by omega) (by omega) (by omega)) (rsize_nat' i) (by rw [sizeLine_eq]; omega) ?_)
    intro g'
    k_dflt (refine comp_ind (fun j ys => IntsAre ys (endsTo ns9 i j)) IntsAre.nil ?ct ?cd)
    case ct =>
      intro j ys v I oI C oC D m₂ h2 tk2 E' hj hG hv hC hx F2 N2 off ne
      obtain ⟨tv, rfl⟩ := hv
      simp only [Int.zero_add] at hx
      have hjb := getD_bd (Int.le_refl 0) (by decide) hb9 j
      have off0 := off
      simp only [LCg.Off3] at off
      (try dsimp only); (try k_fold)
      k_steps
      · exact ⟨h2, _, _, rfl, F2, N2, off0, trivial, rfl, ends_in hG (by assumption)⟩
      · exact ⟨h2, _, _, rfl, F2, N2, off0, trivial, rfl, ends_out hG (by assumption)⟩
    case cd =>
      intro ys hG D h2 tk2 F2 N2 off
      have hel := endsTo_len ns9 i i
      have hyl := hG.length
      simp only [LCg.Off1] at off
      (try dsimp only); (try k_fold)
      k_steps
      · unfold Stop4
        rename (_ ∈ [(ns9.length : Int)] ++ endsTo ns9 i i) => hm9
        rename (∀ a, a ∈ [(ns9.length : Int)] ++ endsTo ns9 i i → _ ≤ a) => hl9'
        rename (_ < (i : Int) + 1 + ns9.getD (i : Int).toNat 0) => hbad9
        have hE := min_isEnd hm9 hl9'
        have hEk := hE.gt hi
        have hE1 := hE.1
        have hcb := getD_bd (Int.le_refl 0) (by decide) hb9 (i : Int).toNat
        k_dflt (refine' mod_msg ?N ?hb ?n0 ?n1 ?r0 ?r1 ?hq; (case N => k_asm); (case hb => k_mem); (case n0 => exact hcb.1); (case n1 => exact hcb.2); (case r0 => omega); (case r1 => omega))
        intro t9 k9
        (try dsimp only); (try k_fold)
        k_steps
        rename News _ _ _ _ => N9
        rename Fr _ _ _ _ => F9
        dsimp only [SrPost]
        refine ⟨_, _, _, _, _, rfl, F9, if_pos rfl, words_bad hb9 hi hE hbad9 hP, ?_, sr_brk N9, ⟨_, by assumption⟩⟩
        intro z h1 h2
        simp only [if_neg h1, if_neg h2]
      · rename (_ ∈ [(ns9.length : Int)] ++ endsTo ns9 i i) => hm9
        rename (∀ a, a ∈ [(ns9.length : Int)] ++ endsTo ns9 i i → _ ≤ a) => hl9'
        rename (¬ _ < (i : Int) + 1 + ns9.getD (i : Int).toNat 0) => hgood9
        have hE := min_isEnd hm9 hl9'
        rename News _ _ _ _ => N9
        rename Fr _ _ _ _ => F9
        dsimp only [SrPost]
        refine ⟨_, _, _, _, rfl, F9, ?_, sr_next N9, ⟨_, by assumption⟩, fine_next hE hgood9 hP⟩
        intro z h1
        simp only [if_neg h1]
  case fin =>
    rintro u v ok h tk hW ⟨uc, hok⟩ F' N'
    clear lF' lN' rgX
    (try dsimp only); (try k_fold)
    k_steps
    unfold Stop4
    k_dflt (refine wpAny_Try_except ?_)
    k_steps
    unfold Stop4
    k_dflt (refine' boxes_ok _ ns9 ?bxB ?bxF ?bxX (fin_news ?bxN) ?bxT ?bxC ?bxk ?bxn ?bxt ?bxi ?bxl ?bxd ?bxret ?bxrse; (case bxB => k_asm); (case bxF => k_asm); (case bxX => k_asm); (case bxN => k_asm); (case bxT => k_asm); (case bxC => assumption); (case bxk => rfl); (case bxi => exact KBa.ints_make hin9); (case bxl => exact hl63'); (case bxt => exact .inl rfl))
    case bxn => exact five_ne (by refine neN ?_; omega) (by refine neN ?_; omega) (by refine neN ?_; omega) (by refine neN ?_; omega) (by refine neN ?_; omega)
    case bxd => exact room63 hl63' (by k_dflt (show _ + 73 < _; decide))
    case bxret =>
      rintro b c oc tl f h' tk' F9 N9 hp ⟨ab, us, nb, eb, hbm, hbI⟩ hf he hl
      cases eb
      rcases hW with ⟨rfl, _⟩ | ⟨n, r, tw, rfl, hw⟩
      · have N9 := ret_news N9
        (try dsimp only); (try k_fold)
        k_steps
        unfold Stop4
        k_dflt (refine' within_ok _ f ?wtB ?wtF ?wtX ?wtN ?wtT ?wtk ?wtl ?wtI ?wt63 ?wtd ?wtret; (case wtB => k_asm); (case wtF => k_asm); (case wtX => k_asm); (case wtN => k_asm); (case wtT => k_asm); (case wtk => rfl); (case wtl => exact mem7 hbm); (case wtI => exact hbI.mono fun q hq => mem7 hq); (case wt63 => rw [hf]; exact hl63'))
        case wtd => exact room63 (by rw [hf]; exact hl63') (by k_dflt (show _ + 73 < _; decide))
        case wtret =>
          intro b2 ws2 n2 tl2 h2 tk2 F2 N2 hI2 _ _
          rw [hf] at hI2
          have N2 := with_news N2
          (try dsimp only); (try k_fold)
          k_steps
      · rw [he] at hw; cases hw
    case bxrse =>
      rintro e tx tm n r c h' tk' he R9 ⟨g9, F9, U9⟩
      rcases hW with ⟨rfl, hw⟩ | ⟨n', r', tw, rfl, hw⟩
      · rw [he] at hw; cases hw
      · rw [he] at hw; cases hw
        dsimp only
        k_dflt (refine' caught_cells (n := Str.ofString "e") ?ctK F9 U9 R9 ?ctX ?ctT ?ctg ?ctk ?ctlo ?ctx ?body; (case ctK => k_asm); (case ctX => k_asm); (case ctT => k_asm); (case ctk => rfl); (case ctlo => rfl); (case ctx => rfl); (case ctg => k_is))
        case body =>
          intro h5 news5 tk5 F5 N5 G5 N6
          (try dsimp only); (try k_fold)
          k_steps
          unfold Stop4
          k_dflt (refine str_got_one PySem.F.excStr_ValueError N5 G5 (by units_room) ?_)
          (try dsimp only); (try k_fold)
          k_steps
          unfold Stop4
          rw [beq_self_eq_true]
          k_dflt (refine goes_cells F5 N6 (by rfl) (by rfl) ?_)
          intro h6 v6 F6 N7
          clear F5 N5 N6
          (try dsimp only); (try k_fold)
          k_steps)
end Mine
end
set_option maxRecDepth 100000 in
set_option maxHeartbeats 8000000 in
theorem PySem.Challenge.cw_dw0037_01_holds : PySem.Challenge.rw_dw0037_01.Holds :=
  Mine.t1
