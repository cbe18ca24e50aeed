import PyProof.Rows.All
import Wide.All
import OpenK.AllK
import Wide.FinOn
import PySem.Challenge.RW_dm0232_06
open PySem PySem.W PyProof.Rows
set_option Elab.async false
set_option maxRecDepth 100000
set_option maxHeartbeats 8000000
namespace Mine
open_top hd06 for PySem.Challenge.rw_dm0232_06
theorem top_off : True := by w_top off; trivial
end Mine
section
open PySem PySem.W PyProof.Rows PySem.Calls
set_option Elab.async false
namespace Mine
theorem upd_split {d : Addr} {o : Obj} {news : List (Addr × Obj)} {upd : Obj → List (Addr × Obj)} (U : UpdF d o news upd) :
    ∃ rest, OwnOff rest [d] ∧ (∀ q, q ∈ news ↔ q = (d, o) ∨ q ∈ rest) ∧ (∀ o' q, q ∈ upd o' ↔ q = (d, o') ∨ q ∈ rest) := by
  obtain ⟨pre, post, rfl, hu, h1, h2⟩ := U.split
  refine ⟨pre ++ post, fun q hq b hb => by rw [List.mem_singleton.mp hb]; exact (List.mem_append.mp hq).elim (h1 q) (h2 q), fun q => ?_, fun o' q => ?_⟩
  · simp only [List.mem_append, List.mem_cons]; constructor <;> (intro h; rcases h with h | h | h <;> simp [h])
  · rw [hu]; simp only [List.mem_append, List.mem_cons]; constructor <;> (intro h; rcases h with h | h | h <;> simp [h])
theorem news_sub {h₀ : Heap} {L : Addr} {h : Heap} {l l' : List (Addr × Obj)} (N : News h₀ L h l) (hs : ∀ p ∈ l', p ∈ l) : News h₀ L h l' := fun p hp => N p (hs p hp)

theorem off_lt {d : Nat} {rest : List (Addr × Obj)} {as : List Addr} (h : AllLt d rest) (hd : ∀ a ∈ as, d ≤ a) : OwnOff rest as :=
  fun q hq a ha => Nat.ne_of_lt (Nat.lt_of_lt_of_le (kst_ltOf h q hq) (hd a ha))
abbrev SD (P : Params) (k1 k2 : Tok) (r : Addr) (p : Int) (tp : Tok) : Obj :=
  dictOf [⟨PyData.keyHash P (Str.ofString "value"), .str (Str.ofString "value") k1, .int p tp⟩, ⟨PyData.keyHash P (Str.ofString "read"), .str (Str.ofString "read") k2, .ref r⟩] 2
/-- n octets from place q on -/
def cutB (b : Array UInt8) (q n : Nat) : Array UInt8 := ((b.toList.drop q).take n).toArray
/-- what a call of the stream's own read does -/
def ReadOk (prog : Program) (w : World) (K : Frag) (p : Program) (loose : List Str) (mean : ExcName → Option Value) (mg mb : Str → Option Value) (dx r : Addr) (k1 k2 : Tok) (b : Array UInt8) (I : List (Addr × Obj)) : Prop :=
  ∀ {dp un : Nat} {gd : Option (List Code)} {cn : Str} {cs : Scope} {a : Addr} {ccd : Value} {outer : List Env} {A₀ : Around} {base h₀ : Heap} {L : Addr} {m : Str → Option Value} {news : List (Addr × Obj)} {upd : Obj → List (Addr × Obj)} {s : Shared}
    {q n : Nat} {tq tn : Tok} {Q E : Value → Shared → Prop},
    Below A₀ base outer h₀ → Fr h₀ L s.heap m → K.In h₀ → News h₀ L s.heap news → Top p loose mean mg mb h₀ → cs.kind = .function → dp + 5 < recursionLimit → un + 40 < cLine →
    (∀ e ∈ I, e ∈ news) → UpdF dx (SD w.params k1 k2 r (q : Int) tq) news upd → q ≤ b.size → b.size ≤ 1048576 → n ≤ 1048576 →
    (∀ h' tk t1 t2, Fr h₀ L h' m → News h₀ L h' (upd (SD w.params k1 k2 r ((q + (cutB b q n).size : Nat) : Int) t1)) → Q (.bytes (cutB b q n) t2) { s with heap := h', toks := tk }) →
    wpAny (model prog w) (ktrTop dp un gd cn cs L a ccd [] outer) (call (.ref r) [.int (n : Int) tn]) Q E s
/-- neither a dict nor a list, tuple -/
def Kin (o : Obj) : Prop := (∀ es n, o.data ≠ .dict es n) ∧ ∀ vs n, o.data ≠ .seq vs n
theorem kin_func {o : Obj} {fd : FuncData} (h : o.data = .func fd) : Kin o := ⟨(fun _ _ e => by rw [h] at e; cases e), fun _ _ e => by rw [h] at e; cases e⟩
theorem kin_fields {o : Obj} {vs : Array Value} (h : o.data = .fields vs) : Kin o := ⟨(fun _ _ e => by rw [h] at e; cases e), fun _ _ e => by rw [h] at e; cases e⟩
theorem kin_plain {o : Obj} (h : o.data = .plain) : Kin o := ⟨(fun _ _ e => by rw [h] at e; cases e), fun _ _ e => by rw [h] at e; cases e⟩
theorem kin_cell {o : Obj} {v : Option Value} (h : o.data = .cell v) : Kin o := ⟨(fun _ _ e => by rw [h] at e; cases e), fun _ _ e => by rw [h] at e; cases e⟩
def KinL (l : List (Addr × Obj)) : Prop := ∀ e ∈ l, Kin e.2
theorem KinL.app {l l' : List (Addr × Obj)} (h : KinL l) (h' : KinL l') : KinL (l ++ l') := fun e he => (List.mem_append.mp he).elim (h e) (h' e)
theorem kin_offD {h₀ h : Heap} {L d : Addr} {R X : List (Addr × Obj)} {o : Obj} {es : Array DictEntry} {n : Nat} (N : News h₀ L h X) (hR : KinL R) (hs : ∀ e ∈ R, e ∈ X) (hm : (d, o) ∈ X) (ho : o.data = .dict es n) : OwnOff R [d] := fun q hq a ha e => by
  rw [List.mem_singleton.mp ha] at e
  have h1 := (N q (hs q hq)).1
  have h2 := (N _ hm).1
  rw [e] at h1
  have h3 : q.2 = o := Option.some.inj (h1.symm.trans h2)
  exact (hR q hq).1 es n (by rw [h3]; exact ho)
theorem kin_offS {h₀ h : Heap} {L d : Addr} {R X : List (Addr × Obj)} {o : Obj} {es : Array Value} {n : Nat} (N : News h₀ L h X) (hR : KinL R) (hs : ∀ e ∈ R, e ∈ X) (hm : (d, o) ∈ X) (ho : o.data = .seq es n) : OwnOff R [d] := fun q hq a ha e => by
  rw [List.mem_singleton.mp ha] at e
  have h1 := (N q (hs q hq)).1
  have h2 := (N _ hm).1
  rw [e] at h1
  have h3 : q.2 = o := Option.some.inj (h1.symm.trans h2)
  exact (hR q hq).2 es n (by rw [h3]; exact ho)
theorem off_cons {R : List (Addr × Obj)} {a : Addr} {as : List Addr} (h : OwnOff R [a]) (h' : OwnOff R as) : OwnOff R (a :: as) := fun q hq b hb =>
  (List.mem_cons.mp hb).elim (fun e => by rw [e]; exact h q hq a (List.mem_singleton.mpr rfl)) (h' q hq b)
/-- a stream: f bears the dict dx, whose read is r; the octets are b; what else belongs to it is I -/
structure Strm (prog : Program) (w : World) (K : Frag) (p : Program) (loose : List Str) (mean : ExcName → Option Value) (mg mb : Str → Option Value) (C f dx r : Addr) (k1 k2 : Tok) (b : Array UInt8) (I : List (Addr × Obj)) : Prop where
  inst : (f, instObj C dx) ∈ I
  fn : ∃ oc od fd sl, (r, (⟨oc, od, .func fd, sl⟩ : Obj)) ∈ I
  off : OwnOff I [dx]
  kin : KinL I
  read : ReadOk prog w K p loose mean mg mb dx r k1 k2 b I
/-- the table of the codes made within a code: none as yet, or the one of the stream's read -/
inductive Tab (P : Addr) (i j : Value) (qual : Str) : List (Addr × Obj) → Prop where
  | none : Tab P i j qual [(P, tabObj #[])]
  | some {c : Addr} {oc : Obj} {vs : Array Value} {t : Tok} : c ≠ P → oc.data = .fields vs → vs[1]? = some (.str qual t) → Tab P i j qual [(P, tabObj #[i, j, .ref c]), (c, oc)]
theorem off_one {l : List (Addr × Obj)} {d : Addr} (h : ∀ q ∈ l, q.1 ≠ d) : OwnOff l [d] := fun q hq a ha => by rw [List.mem_singleton.mp ha]; exact h q hq
theorem fin_none {h₀ h : Heap} {L f c x d l2 l1 P : Addr} {fo oc io sd o1 o2 tb : Obj} {rest : List (Addr × Obj)}
    (N : News h₀ L h ((f, fo) :: (c, oc) :: (x, io) :: (d, sd) :: (l2, o1) :: (l1, o2) :: (P, tb) :: rest)) :
    News h₀ L h ((d, sd) :: ([(f, fo), (c, oc), (x, io), (l2, o1), (l1, o2)] ++ ([(P, tb), (c, oc)] ++ rest))) :=
  news_sub N fun q hq => by
    simp only [List.mem_cons, List.mem_append, List.not_mem_nil, or_false] at hq ⊢
    rcases hq with h | (h | h | h | h | h) | (h | h) | h <;> simp [h]
theorem fin_some {h₀ h : Heap} {L f c x d l2 l1 P : Addr} {fo oc io sd o1 o2 tb : Obj} {rest : List (Addr × Obj)}
    (N : News h₀ L h ((f, fo) :: (x, io) :: (d, sd) :: (l2, o1) :: (l1, o2) :: (P, tb) :: (c, oc) :: rest)) :
    News h₀ L h ((d, sd) :: ([(f, fo), (c, oc), (x, io), (l2, o1), (l1, o2)] ++ ([(P, tb), (c, oc)] ++ rest))) :=
  news_sub N fun q hq => by
    simp only [List.mem_cons, List.mem_append, List.not_mem_nil, or_false] at hq ⊢
    rcases hq with h | (h | h | h | h | h) | (h | h) | h <;> simp [h]
theorem mem_rest {I news rest : List (Addr × Obj)} {d : Addr} {o : Obj} (hI : ∀ e ∈ I, e ∈ news) (ho : OwnOff I [d]) (hn : ∀ q, q ∈ news ↔ q = (d, o) ∨ q ∈ rest) : ∀ e ∈ I, e ∈ rest := fun e he =>
  ((hn e).mp (hI e he)).elim (fun q => absurd (congrArg Prod.fst q) (ho e he d (List.mem_singleton.mpr rfl))) id
theorem strm_mk {prog : Program} {w : World} {K : Frag} {p : Program} {loose : List Str} {mean : ExcName → Option Value} {mg mb : Str → Option Value} {C f dx r : Addr} {k1 k2 : Tok} {b : Array UInt8} {I : List (Addr × Obj)}
    (h1 : (f, instObj C dx) ∈ I) (h2 : ∃ oc od fd sl, (r, (⟨oc, od, .func fd, sl⟩ : Obj)) ∈ I) (h3 : OwnOff I [dx]) (hkin : KinL I) (h4 : OwnOff I [dx] → ReadOk prog w K p loose mean mg mb dx r k1 k2 b I) :
    Strm prog w K p loose mean mg mb C f dx r k1 k2 b I := ⟨h1, h2, h3, hkin, h4 h3⟩
theorem cutB_size (b : Array UInt8) (q n : Nat) : (cutB b q n).size = min n (b.size - q) := by
  simp [cutB]
theorem picked_cut {b : Array UInt8} {q n : Nat} (hq : q ≤ b.size) : KBy.picked b (some (q : Int)) (some ((q : Int) + (n : Int))) = cutB b q n := by
  have e : ((q : Int) + (n : Int)) = ((q + n : Nat) : Int) := by omega
  rw [KBc.picked_eq, e]
  simp only [Option.elim, clipAt_nat]
  unfold cutB
  rw [Nat.min_eq_left hq]
  congr 1
  have hl : (b.toList.drop q).length = b.size - q := by simp
  by_cases h : q + n ≤ b.size
  · rw [Nat.min_eq_left h, Nat.add_sub_cancel_left]
  · rw [Nat.min_eq_right (by omega), List.take_of_length_le (by omega), List.take_of_length_le (by omega)]
theorem read_place {b : Array UInt8} {q n l : Nat} (hq : q ≤ b.size) (hl : l = b.size) :
    (q : Int) + ((min (clipAt l ((q : Int) + (n : Int)) - min q l) (l - min q l) : Nat) : Int) = ((q + (cutB b q n).size : Nat) : Int) := by
  have e : ((q : Int) + (n : Int)) = ((q + n : Nat) : Int) := by omega
  rw [cutB_size, e, clipAt_nat, hl]
  omega
theorem read_fin {h₀ h : Heap} {L d : Addr} {P : Params} {k1 k2 : Tok} {r : Addr} {v v' : Int} {t : Tok} {rest : List (Addr × Obj)} {upd : Obj → List (Addr × Obj)}
    (N : News h₀ L h ((d, SD P k1 k2 r v t) :: rest)) (hv : v = v') (hup : ∀ o' q, q ∈ upd o' ↔ q = (d, o') ∨ q ∈ rest) : News h₀ L h (upd (SD P k1 k2 r v' t)) := by
  subst hv
  exact news_sub N fun q hq => List.mem_cons.mpr ((hup _ q).mp hq)
def Sub (I R : List (Addr × Obj)) : Prop := ∀ e ∈ I, e ∈ R
theorem Sub.cons {I R : List (Addr × Obj)} {q : Addr × Obj} (h : Sub I R) : Sub I (q :: R) := fun e he => List.mem_cons_of_mem _ (h e he)
/-- the octet at a place, a number -/
def oct (b : Array UInt8) (q : Nat) : Nat := (b.toList.getD q 0).toNat
theorem oct_lt (b : Array UInt8) (q : Nat) : oct b q < 256 := UInt8.toNat_lt _
theorem ints_cut1 {b : Array UInt8} {q : Nat} (h : q < b.size) : KBw.bInts (cutB b q 1) = [(oct b q : Int)] := by
  have h' : q < b.toList.length := by simpa using h
  unfold cutB
  rw [List.drop_eq_getElem_cons h', List.take_succ_cons, List.take_zero]
  simp [KBw.bInts, List.getD, h, oct]
theorem ints_cut0 {b : Array UInt8} {n : Nat} : KBw.bInts (cutB b b.size n) = [] := by
  unfold cutB
  rw [List.drop_of_length_le (by simp)]
  simp [KBw.bInts]
theorem cut1_size {b : Array UInt8} {q : Nat} (h : q < b.size) : (cutB b q 1).size = 1 := by rw [cutB_size]; omega
theorem cut0_size {b : Array UInt8} {n : Nat} : (cutB b b.size n).size = 0 := by rw [cutB_size]; omega
theorem raised_sub {base G : Heap} {l : List Env} {e : Addr} {cls : Value} {t : Addr} {vs : List Value} {news news' : List (Addr × Obj)} {h : Heap} (R : RaisedS base G l e cls t vs news h) (hs : ∀ q ∈ news', q ∈ news) : RaisedS base G l e cls t vs news' h := by
  obtain ⟨⟨B, h1, h2, h3, h4⟩, h5⟩ := R
  exact ⟨⟨B, h1, h2, fun q hq => h3 q (hs q hq), h4⟩, h5⟩
theorem strm_read {prog : Program} {w : World} {K : Frag} {p : Program} {loose : List Str} {mean : ExcName → Option Value} {mg mb : Str → Option Value} {C f dx r : Addr} {k1 k2 : Tok} {b : Array UInt8} {I : List (Addr × Obj)}
    {dp un : Nat} {gd : Option (List Code)} {cn : Str} {cs : Scope} {a : Addr} {ccd : Value} {outer : List Env} {A₀ : Around} {base h₀ : Heap} {L : Addr} {m : Str → Option Value} {news : List (Addr × Obj)} {upd : Obj → List (Addr × Obj)} {s : Shared}
    {q : Nat} {v : Int} {tq tn : Tok} {Q E : Value → Shared → Prop} (n : Nat) (hv : v = (n : Int))
    (S : Strm prog w K p loose mean mg mb C f dx r k1 k2 b I) (B : Below A₀ base outer h₀) (F : Fr h₀ L s.heap m) (X : K.In h₀) (N : News h₀ L s.heap news) (T : Top p loose mean mg mb h₀) (hk : cs.kind = .function) (hd : dp + 5 < recursionLimit) (hu : un + 40 < cLine)
    (hI : Sub I news) (U : UpdF dx (SD w.params k1 k2 r (q : Int) tq) news upd) (hq : q ≤ b.size) (hb : b.size ≤ 1048576) (hn : n ≤ 1048576)
    (h : ∀ h' tk t1 t2, Fr h₀ L h' m → News h₀ L h' (upd (SD w.params k1 k2 r ((q + (cutB b q n).size : Nat) : Int) t1)) → Q (.bytes (cutB b q n) t2) { s with heap := h', toks := tk }) :
    wpAny (model prog w) (ktrTop dp un gd cn cs L a ccd [] outer) (call (.ref r) [.int v tn]) Q E s := by
  subst hv
  exact S.read B F X N T hk hd hu hI U hq hb hn h
theorem raise_fin {base G : Heap} {l : List Env} {e : Addr} {cls : Value} {t : Addr} {vs : List Value} {h : Heap} {d : Addr} {P : Params} {k1 k2 : Tok} {r : Addr} {v v' : Int} {tt : Tok} {rest : List (Addr × Obj)} {upd : Obj → List (Addr × Obj)}
    (R : RaisedS base G l e cls t vs ((d, SD P k1 k2 r v tt) :: rest) h) (hv : v = v') (hup : ∀ o' q, q ∈ upd o' ↔ q = (d, o') ∨ q ∈ rest) : RaisedS base G l e cls t vs (upd (SD P k1 k2 r v' tt)) h := by
  subst hv
  exact raised_sub R fun q hq => List.mem_cons.mpr ((hup _ q).mp hq)
abbrev msg0 : Str := Str.ofString "not enough data in stream to read uint1"
abbrev msgB (n k : Int) : Str := Str.ofString "expected " ++ Str.ofString (toString n) ++ Str.ofString " bytes in a bytes1, but only " ++ Str.ofString (toString k) ++ Str.ofString " remain"
abbrev msgS (n k : Int) : Str := Str.ofString "expected " ++ Str.ofString (toString n) ++ Str.ofString " bytes in a string1, but only " ++ Str.ofString (toString k) ++ Str.ofString " remain"
theorem raise_fin2 {base G : Heap} {l : List Env} {e : Addr} {cls : Value} {t : Addr} {vs vs' : List Value} {h : Heap} {d : Addr} {P : Params} {k1 k2 : Tok} {r : Addr} {v v' : Int} {tt : Tok} {x : Addr × Obj} {rest : List (Addr × Obj)} {upd : Obj → List (Addr × Obj)}
    (R : RaisedS base G l e cls t vs (x :: (d, SD P k1 k2 r v tt) :: rest) h) (hv : v = v') (hvs : vs = vs') (hup : ∀ o' q, q ∈ upd o' ↔ q = (d, o') ∨ q ∈ rest) : RaisedS base G l e cls t vs' (upd (SD P k1 k2 r v' tt)) h := by
  subst hv hvs
  exact raised_sub R fun q hq => List.mem_cons_of_mem _ (List.mem_cons.mpr ((hup _ q).mp hq))
theorem news_x2 {h₀ h : Heap} {L d tp : Addr} {o o' : Obj} {P : Params} {k1 k2 : Tok} {r : Addr} {v v' : Int} {t : Tok} {rest : List (Addr × Obj)} {upd : Obj → List (Addr × Obj)}
    (N : News h₀ L h ((tp, o) :: (d, SD P k1 k2 r v t) :: rest)) (hv : v = v') (ho : o = o') (hup : ∀ o' q, q ∈ upd o' ↔ q = (d, o') ∨ q ∈ rest) : News h₀ L h ((tp, o') :: upd (SD P k1 k2 r v' t)) := by
  subst hv ho
  refine news_sub N fun q hq => ?_
  rcases List.mem_cons.mp hq with h | h
  · exact List.mem_cons.mpr (.inl h)
  · exact List.mem_cons_of_mem _ (List.mem_cons.mpr ((hup _ q).mp h))
theorem lt_all {d tp : Nat} {o : Obj} {news rest : List (Addr × Obj)} (h : d < tp ∧ AllLt tp rest) (hn : ∀ q, q ∈ news ↔ q = (d, o) ∨ q ∈ rest) : ∀ q ∈ news, q.1 < tp := fun q hq => by
  rcases (hn q).mp hq with rfl | hq
  · exact h.1
  · exact kst_ltOf h.2 q hq
theorem Tab.kin {P : Addr} {i j : Value} {qual : Str} {T : List (Addr × Obj)} (h : Tab P i j qual T) : KinL T := by
  cases h with
  | none => exact fun e he => by rw [List.mem_singleton.mp he]; exact kin_fields rfl
  | some _ hd _ =>
    intro e he
    simp only [List.mem_cons, List.not_mem_nil, or_false] at he
    rcases he with rfl | rfl
    · exact kin_fields rfl
    · exact kin_fields hd
theorem Tab.mem {P : Addr} {i j : Value} {qual : Str} {T : List (Addr × Obj)} (h : Tab P i j qual T) : ∃ ps, (P, tabObj ps) ∈ T := by
  cases h with
  | none => exact ⟨_, .head _⟩
  | some _ _ _ => exact ⟨_, .head _⟩
end Mine
end
section
open PySem PySem.W PyProof.Rows PySem.Calls
set_option Elab.async false
set_option maxRecDepth 100000
set_option maxHeartbeats 8000000
namespace Mine
theorem fmtB {n k : Int} {u v t : Tok} {b : Addr} (hn : 0 ≤ n) (hn' : n < 1000000) (hk : 0 ≤ k) (hk' : k < 1000000) :
    Meets (Builtin.«str.__mod__» ⟨[.str (Str.mk #[101, 120, 112, 101, 99, 116, 101, 100, 32, 37, 100, 32, 98, 121, 116, 101, 115, 32, 105, 110, 32, 97, 32, 98, 121, 116, 101, 115, 49, 44, 32, 98, 117, 116, 32, 111, 110, 108, 121, 32, 37, 100, 32, 114, 101, 109, 97, 105, 110]) t, .ref b], []⟩) (fun _ R s => IsTup s.heap b #[.int n u, .int k v] ∧ ∀ t' j, R (.ok (.ret (.str (msgB n k) t'))) { s with toks := j }) := by
  kpt_run
theorem modB {prog : Program} {w : World} {A : Around} {E : Value → Shared → Prop} {s : Shared} {t u v : Tok} {Q : Value → Shared → Prop} {b L : Addr} {j : Nat} {h₀ : Heap} {news : List (Addr × Obj)} {n k : Int}
    (N : News h₀ L s.heap news) (hb : (b, ({ cls := .type "tuple", data := .seq #[.int n u, .int k v] j } : Obj)) ∈ news) (hn : 0 ≤ n) (hn' : n < 1000000) (hk : 0 ≤ k) (hk' : k < 1000000)
    (h : ∀ t' j, Q (.str (msgB n k) t') { s with toks := j }) : wpAny (model prog w) A (binaryOp .Mod (.str (Str.ofString "expected %d bytes in a bytes1, but only %d remain") t) (.ref b)) Q E s :=
  KPt.mod_tuple N hb (by decide +kernel) (fmtB hn hn' hk hk') h
theorem fmtS {n k : Int} {u v t : Tok} {b : Addr} (hn : 0 ≤ n) (hn' : n < 1000000) (hk : 0 ≤ k) (hk' : k < 1000000) :
    Meets (Builtin.«str.__mod__» ⟨[.str (Str.mk #[101, 120, 112, 101, 99, 116, 101, 100, 32, 37, 100, 32, 98, 121, 116, 101, 115, 32, 105, 110, 32, 97, 32, 115, 116, 114, 105, 110, 103, 49, 44, 32, 98, 117, 116, 32, 111, 110, 108, 121, 32, 37, 100, 32, 114, 101, 109, 97, 105, 110]) t, .ref b], []⟩) (fun _ R s => IsTup s.heap b #[.int n u, .int k v] ∧ ∀ t' j, R (.ok (.ret (.str (msgS n k) t'))) { s with toks := j }) := by
  kpt_run
theorem modS {prog : Program} {w : World} {A : Around} {E : Value → Shared → Prop} {s : Shared} {t u v : Tok} {Q : Value → Shared → Prop} {b L : Addr} {j : Nat} {h₀ : Heap} {news : List (Addr × Obj)} {n k : Int}
    (N : News h₀ L s.heap news) (hb : (b, ({ cls := .type "tuple", data := .seq #[.int n u, .int k v] j } : Obj)) ∈ news) (hn : 0 ≤ n) (hn' : n < 1000000) (hk : 0 ≤ k) (hk' : k < 1000000)
    (h : ∀ t' j, Q (.str (msgS n k) t') { s with toks := j }) : wpAny (model prog w) A (binaryOp .Mod (.str (Str.ofString "expected %d bytes in a string1, but only %d remain") t) (.ref b)) Q E s :=
  KPt.mod_tuple N hb (by decide +kernel) (fmtS hn hn' hk hk') h
end Mine
end
section
open PySem PySem.W PyProof.Rows PySem.Calls PySem.Spec
set_option Elab.async false
namespace Mine
/-- all that is known of a frame whose ground may have turned (the slots of the frames above) -/
structure XSt (K : Frag) (A₀ : Around) (base : Heap) (outer : List Env) (p : Program) (loose : List Str) (mean : ExcName → Option Value) (mg mb : Str → Option Value) (g₀ : Heap) (L : Addr) (g h : Heap) (m : Str → Option Value) (news : List (Addr × Obj)) : Prop where
  turn : KtsTurn (outer.filterMap (·.frame)) g₀ g
  fr : Fr g L h m
  nw : News g L h news
  bl : Below A₀ base outer g
  kin : K.In g
  top : Top p loose mean mg mb g
  dicts : KtsDicts (outer.filterMap (·.frame)) g

def EndX (K : Frag) (A₀ : Around) (base : Heap) (outer : List Env) (p : Program) (loose : List Str) (mean : ExcName → Option Value) (mg mb : Str → Option Value) (g₀ : Heap) (L : Addr) (J : (Str → Option Value) → List (Addr × Obj) → Prop) (own : List (Addr × Obj)) (adr : List Addr) (s s₂ : Shared) : Prop :=
  ∃ g h' tk m' news' nx, s₂ = { s with heap := h', toks := tk } ∧ XSt K A₀ base outer p loose mean mg mb g₀ L g h' m' news' ∧ (∀ q ∈ nx, q ∈ news') ∧ (∀ q ∈ own, q ∈ news') ∧ nx.map (·.1) = adr ∧ J m' nx
def PostX (K : Frag) (A₀ : Around) (base : Heap) (outer : List Env) (p : Program) (loose : List Str) (mean : ExcName → Option Value) (mg mb : Str → Option Value) (g₀ : Heap) (L : Addr) (J : (Str → Option Value) → List (Addr × Obj) → Prop) (own : List (Addr × Obj)) (adr : List Addr) (Q : Flow → Shared → Prop) (s : Shared) (f : Flow) (s₂ : Shared) : Prop :=
  match f with
  | .ret v => Q (.ret v) s₂
  | .brk => Q .next s₂
  | _ => EndX K A₀ base outer p loose mean mg mb g₀ L J own adr s s₂
section
variable {K : Frag} {A₀ : Around} {base : Heap} {outer : List Env} {p : Program} {loose : List Str} {mean : ExcName → Option Value} {mg mb : Str → Option Value} {g₀ : Heap}
theorem EndX.intro {L : Addr} {J : (Str → Option Value) → List (Addr × Obj) → Prop} {own : List (Addr × Obj)} {adr : List Addr} {s : Shared} {g h' : Heap} {tk : Nat} {m' : Str → Option Value} {news' nx : List (Addr × Obj)}
    (T : KtsTurn (outer.filterMap (·.frame)) g₀ g) (F : Fr g L h' m') (N : News g L h' news') (B : Below A₀ base outer g) (X : K.In g) (P : Top p loose mean mg mb g) (D : KtsDicts (outer.filterMap (·.frame)) g)
    (hj : J m' nx) (ha : nx.map (·.1) = adr) (hn : ∀ q ∈ nx, q ∈ news') (ho : ∀ q ∈ own, q ∈ news') : EndX K A₀ base outer p loose mean mg mb g₀ L J own adr s { s with heap := h', toks := tk } :=
  ⟨g, h', tk, m', news', nx, rfl, ⟨T, F, N, B, X, P, D⟩, hn, ho, ha, hj⟩

theorem loopX {prog : Program} {w : World} {A : Around} {s : Shared} {env : Env} {R : Result → Shared → Prop} {x : Str} {px : Pos} {body : List Stmt} {I : Addr} {n : Nat} {P : Nat → Value → Prop} {St : Nat → Heap → Prop} {m₀ : Str → Option Value} {news : List (Addr × Obj)} {g : Heap}
    (J : Nat → (Str → Option Value) → List (Addr × Obj) → Prop) (Q : Flow → Shared → Prop) (E : Value → Shared → Prop)
    (W : Walks prog w A I [I] [I] n P St) (hx : env.kindOf x = some .local)
    (hp : (env.scope.kind == .class || (env.scope.kind == .module && env.locals != env.globals)) = false)
    (hLI : env.locals ≠ I) (hgI : g₀.get? I = none) (hnI : ∀ q ∈ news, q.1 ≠ I)
    (hst : St 0 s.heap) (X₀ : XSt K A₀ base outer p loose mean mg mb g₀ env.locals g s.heap m₀ news) (hj : J 0 m₀ news)
    (hE : ∀ e s', E e s' → notedBy (model prog w) A env (fun e s' => R (.error e) s') e s')
    (hQ : ∀ f s', Q f s' → R (.ok f) s')
    (turn : ∀ i v g m₁ news₁ h tk own, i < n → P i v → news₁.map (·.1) = news.map (·.1) → OwnOff own (news.map (·.1)) → J i m₁ news₁ →
      XSt K A₀ base outer p loose mean mg mb g₀ env.locals g h (fun y => if y = x then some v else m₁ y) (news₁ ++ own) →
      wpAny (model prog w) A (execs body env) (PostX K A₀ base outer p loose mean mg mb g₀ env.locals (J (i + 1)) own (news.map (·.1)) Q s) E { s with heap := h, toks := tk })
    (done : ∀ g m₁ news₁ h tk, J n m₁ news₁ → XSt K A₀ base outer p loose mean mg mb g₀ env.locals g h m₁ news₁ → Q .next { s with heap := h, toks := tk }) :
    codeAny (model prog w) A (.forLoop (.Name x px) (.ref I) body [] env) R s := by
  refine codeAny_forLoop
    (fun k s' => ∃ h' tk g m' news' i, s' = { s with heap := h', toks := tk } ∧ St i h' ∧ XSt K A₀ base outer p loose mean mg mb g₀ env.locals g h' m' news' ∧ news'.map (·.1) = news.map (·.1) ∧ J i m' news' ∧ i ≤ n ∧ k = n + 1 - i) ?_ (n + 1)
    ⟨s.heap, s.toks, g, m₀, news, 0, rfl, hst, X₀, rfl, hj, Nat.zero_le _, rfl⟩
  rintro k s' ⟨h', tk, g, m', news', i, rfl, hst', X', ha', hJ, hi, rfl⟩
  have nI : ∀ q ∈ news', q.1 ≠ I := fun q hq e => by
    have h1 : q.1 ∈ news'.map (·.1) := List.mem_map.mpr ⟨q, hq, rfl⟩
    rw [ha'] at h1
    obtain ⟨q', hq', e'⟩ := List.mem_map.mp h1
    exact hnI q' hq' (e'.trans e)
  have gI : g.get? I = none := X'.turn.none_ _ hgI
  have next : ∀ h₁ : Heap, (∀ b o, b ∉ [I] → h'.get? b = some o → h₁.get? b = some o) → XSt K A₀ base outer p loose mean mg mb g₀ env.locals g h₁ m' news' := fun h₁ hk₁ =>
    ⟨X'.turn, ⟨X'.fr.ns.at' fun o e => hk₁ _ o (by simpa using hLI) e, fun b o e => hk₁ b o (fun hb => by rw [List.mem_singleton.mp hb, gI] at e; cases e) (X'.fr.keep b o e), X'.fr.above⟩,
      fun q hq => ⟨hk₁ _ _ (by simpa using nI q hq) (X'.nw q hq).1, (X'.nw q hq).2⟩, X'.bl, X'.kin, X'.top, X'.dicts⟩
  by_cases hlt : i < n
  · refine W.item i _ _ _ hlt hst' fun v h₁ tk₁ hP hst₁ hk₁ => ?_
    have X₁ := next h₁ hk₁
    refine wpAny_assign_Name (wpAny_storeName_local hx X₁.fr.ns (fun h₂ hn₂ hs₂ => ?_) hp)
    have F₂ := X₁.fr.set hn₂ hs₂
    have N₂ := X₁.nw.set hs₂
    have hst₂ : St (i + 1) h₂ := W.frame _ _ _ hst₁ fun b hb o e => (hs₂.2 b fun q => hLI (by rw [List.mem_singleton.mp hb] at q; exact q.symm)).trans e
    have own : ∃ own : List (Addr × Obj), News g env.locals h₂ own ∧ OwnOff own (news.map (·.1)) ∧ (∀ o, h₂.get? I = some o → (I, o) ∈ own) := by
      cases ho : h₂.get? I with
      | none => exact ⟨[], News.nil, fun _ hq => (nomatch hq), fun o e => nomatch e⟩
      | some o =>
        refine ⟨[(I, o)], fun q hq => ?_, fun q hq b hb => ?_, fun o' e => ?_⟩
        · rw [List.mem_singleton.mp hq]; exact ⟨ho, hLI.symm, gI⟩
        · rw [List.mem_singleton.mp hq]
          obtain ⟨q', hq', e'⟩ := List.mem_map.mp hb
          exact fun e => hnI q' hq' (e'.trans e.symm)
        · cases e; exact List.mem_singleton.mpr rfl
    obtain ⟨own, No, hoff, hown⟩ := own
    have N₃ : News g env.locals h₂ (news' ++ own) := fun q hq => (List.mem_append.mp hq).elim (N₂ q) (No q)
    refine wpAny_mono (turn i v g m' news' h₂ _ own hlt hP ha' hoff hJ ⟨X₁.turn, F₂, N₃, X₁.bl, X₁.kin, X₁.top, X₁.dicts⟩) (fun f s₃ h₃ => ?_) fun e s' h' => hE e s' h'
    have fin : EndX K A₀ base outer p loose mean mg mb g₀ env.locals (J (i + 1)) own (news.map (·.1)) s s₃ → ∃ m, m < n + 1 - i ∧ ∃ h' tk g m' news' i', s₃ = { s with heap := h', toks := tk } ∧ St i' h' ∧ XSt K A₀ base outer p loose mean mg mb g₀ env.locals g h' m' news' ∧ news'.map (·.1) = news.map (·.1) ∧ J i' m' news' ∧ i' ≤ n ∧ m = n + 1 - i' := by
      rintro ⟨g₃, h₃', tk₃, m₃, news₃, nx, rfl, X₃, hsub, hso, hadr, hJ₃⟩
      have keepI : ∀ o, h₂.get? I = some o → h₃'.get? I = some o := fun o e => (X₃.nw _ (hso _ (hown o e))).1
      refine ⟨n + 1 - (i + 1), by omega, h₃', tk₃, g₃, m₃, nx, i + 1, rfl, ?_, ⟨X₃.turn, X₃.fr, fun q hq => X₃.nw q (hsub q hq), X₃.bl, X₃.kin, X₃.top, X₃.dicts⟩, hadr, hJ₃, hlt, rfl⟩
      exact W.frame _ _ _ hst₂ fun b hb o e => by rw [List.mem_singleton.mp hb] at e ⊢; exact keepI o e
    cases f with
    | ret v => exact hQ _ _ h₃
    | brk => exact hQ _ _ h₃
    | next => exact fin h₃
    | cont => exact fin h₃
  · have hin : i = n := by omega
    subst hin
    refine W.done _ _ _ hst' fun h₁ tk₁ hk₁ => wpAny_execs_nil ?_
    exact hQ _ _ (done g m' news' h₁ tk₁ hJ (next h₁ hk₁))

theorem iterX_range {prog : Program} {w : World} {A : Around} {s : Shared} {env : Env} {x : Str} {px : Pos} {body : List Stmt} {r : Addr} {a₀ b₀ : Int} {t₀ u₀ v₀ : Tok} {n : Nat} {m₀ : Str → Option Value} {news : List (Addr × Obj)} {g : Heap} {Q : Flow → Shared → Prop} {E : Value → Shared → Prop}
    (J : Nat → (Str → Option Value) → List (Addr × Obj) → Prop)
    (hh : A.handled = none) (hr : IsRange s.heap r a₀ b₀ 1 t₀ u₀ v₀) (hsmall : Builtin.Range.small a₀ b₀ 1 = true) (hn : Builtin.Range.rangeSize a₀ b₀ 1 = (n : Int)) (hx : env.kindOf x = some .local)
    (hp : (env.scope.kind == .class || (env.scope.kind == .module && env.locals != env.globals)) = false)
    (X₀ : XSt K A₀ base outer p loose mean mg mb g₀ env.locals g s.heap m₀ news) (hj : J 0 m₀ news)
    (hE : PassesOwn (model prog w) A env E)
    (turn : ∀ i t g m₁ news₁ h tk own, i < n → news₁.map (·.1) = news.map (·.1) → OwnOff own (news.map (·.1)) → J i m₁ news₁ →
      XSt K A₀ base outer p loose mean mg mb g₀ env.locals g h (fun y => if y = x then some (.int (a₀ + (i : Nat)) t) else m₁ y) (news₁ ++ own) →
      wpAny (model prog w) A (execs body env) (PostX K A₀ base outer p loose mean mg mb g₀ env.locals (J (i + 1)) own (news.map (·.1)) Q s) E { s with heap := h, toks := tk })
    (done : ∀ g m₁ news₁ h tk, J n m₁ news₁ → XSt K A₀ base outer p loose mean mg mb g₀ env.locals g h m₁ news₁ → Q .next { s with heap := h, toks := tk }) :
    wpAny (model prog w) A (pyIter (.ref r)) (fun it s₂ => codeAny (model prog w) A (.forLoop (.Name x px) it body [] env) (fun r s' => match r with | .ok f => Q f s' | .error e => cameBackBy (model prog w) A env E e s') s₂) E s := by
  refine wpAny_pyIter_range hr hsmall ?_
  have W : Walks prog w A s.heap.objs.size [s.heap.objs.size] [s.heap.objs.size] n (fun i v => i < n ∧ ∃ t, v = .int (a₀ + i * 1) t)
      (fun i h => IsRangeIter h s.heap.objs.size (a₀ + (i : Nat) * 1) ((n : Int) - (i : Nat)) 1) := (Walks.range hh _ a₀ 1 n).bound
  have gN : g₀.get? s.heap.objs.size = none := by
    cases q : g₀.get? s.heap.objs.size with
    | none => rfl
    | some o =>
      obtain ⟨sl, hs⟩ := X₀.turn.up q
      exact absurd (Heap.lt_size (X₀.fr.keep _ _ hs)) (Nat.lt_irrefl _)
  refine loopX (s := { s with heap := s.heap.push _ }) J Q E W hx hp (Nat.ne_of_lt X₀.fr.ns.lt) gN (fun q hq => Nat.ne_of_lt (Heap.lt_size (X₀.nw q hq).1)) ?_ ⟨X₀.turn, X₀.fr.push _, fun q hq => ⟨Heap.get?_push_of_some _ (X₀.nw q hq).1, (X₀.nw q hq).2⟩, X₀.bl, X₀.kin, X₀.top, X₀.dicts⟩ hj (fun e s' h => hE e s' h) (fun _ _ h => h) ?_ ?_
  · show IsRangeIter _ _ _ _ _
    rw [hn]; simpa using Heap.get?_push_size _ rfl
  · rintro i v g m₁ news₁ h tk own hi ⟨_, t, rfl⟩ ha hoff hJ X
    have e1 : a₀ + (i : Int) * 1 = a₀ + (i : Int) := by omega
    rw [e1] at X
    exact turn i t g m₁ news₁ h tk own hi ha hoff hJ X
  · intro g m₁ news₁ h tk hJ X
    exact done g m₁ news₁ h tk hJ X
/-- names that are known are written out -/
theorem fr_names {g h : Heap} {L : Addr} {m : Str → Option Value} (F : Fr g L h m) (ps : List (Str × Value)) (hk : ∀ q ∈ ps, m q.1 = some q.2) : Fr g L h (kstB m ps) := by
  have e : kstB m ps = m := funext fun z => kstB_eq hk fun _ => rfl
  rw [e]; exact F
end
end Mine
end
section
open PySem PySem.W PyProof.Rows PySem.Calls PySem.Spec
set_option Elab.async false
namespace Mine
theorem cut_snoc {b : Array UInt8} {a i : Nat} (h : a + i < b.size) : KBw.bInts (cutB b a (i + 1)) = KBw.bInts (cutB b a i) ++ [(oct b (a + i) : Int)] := by
  have h1 : i < (b.toList.drop a).length := by simp; omega
  unfold cutB oct
  rw [List.take_add_one, List.getElem?_eq_getElem h1]
  simp [KBw.bInts, List.getD, h]
theorem cut_zero {b : Array UInt8} {a : Nat} : KBw.bInts (cutB b a 0) = [] := by simp [cutB, KBw.bInts]
theorem bInts_in (c : Array UInt8) : KBa.In (KBw.bInts c) := fun _ h => KBw.ints_in h
theorem byteArr_bInts (c : Array UInt8) : byteArr (KBw.bInts c) = c := by
  unfold byteArr KBw.bInts
  simp only [List.map_map]
  have : ((fun n : Int => n.toNat.toUInt8) ∘ fun c : UInt8 => (c.toNat : Int)) = id := by
    funext x
    simp
  rw [this]
  simp
theorem ints_snoc {vs : List Value} {ns : List Int} (h : IntsAre vs ns) (n : Int) (t : Tok) : IntsAre (vs ++ [.int n t]) (ns ++ [n]) := h.append (.cons n t .nil)
theorem news_drop2 {h₀ h : Heap} {L : Addr} {a b : Addr × Obj} {l : List (Addr × Obj)} (N : News h₀ L h (a :: b :: l)) : News h₀ L h (a :: l) :=
  news_sub N fun q hq => by rcases List.mem_cons.mp hq with h | h <;> simp [h]
theorem sub_two {a b : Addr × Obj} {rest own : List (Addr × Obj)} : ∀ q ∈ a :: b :: rest, q ∈ a :: b :: (rest ++ own) := fun q hq => by
  simp only [List.mem_cons, List.mem_append] at hq ⊢
  rcases hq with h | h | h <;> simp [h]
theorem own_two {a b : Addr × Obj} {rest own : List (Addr × Obj)} : ∀ q ∈ own, q ∈ a :: b :: (rest ++ own) := fun q hq => by
  simp only [List.mem_cons, List.mem_append]; exact .inr (.inr (.inr hq))
theorem news_drop2' {h₀ h : Heap} {L : Addr} {a b c : Addr × Obj} {rest own : List (Addr × Obj)} (N : News h₀ L h (a :: b :: c :: (rest ++ own))) : News h₀ L h (a :: c :: rest) :=
  news_sub N fun q hq => by simp only [List.mem_cons, List.mem_append] at hq ⊢; rcases hq with h | h | h <;> simp [h]
theorem lt_all' {d tp : Nat} {x : Prop} {o : Obj} {news rest own : List (Addr × Obj)} (h : x ∧ d < tp ∧ AllLt tp (rest ++ own)) (hn : ∀ q, q ∈ news ↔ q = (d, o) ∨ q ∈ rest) : ∀ q ∈ news, q.1 < tp := fun q hq => by
  rcases (hn q).mp hq with rfl | hq
  · exact h.2.1
  · exact kst_ltOf h.2.2 q (List.mem_append.mpr (.inl hq))
theorem fr_back {g₀ g h : Heap} {L : Addr} {m : Str → Option Value} (T : KtsTurn [] g₀ g) (F : Fr g L h m) : Fr g₀ L h m :=
  ⟨F.ns, fun b o e => F.keep b o (T.other b o e (by simp)), by rw [← T.size]; exact F.above⟩
theorem news_back {g₀ g h : Heap} {L : Addr} {l : List (Addr × Obj)} (T : KtsTurn [] g₀ g) (N : News g L h l) : News g₀ L h l := fun q hq =>
  ⟨(N q hq).1, (N q hq).2.1, by
    cases e : g₀.get? q.1 with
    | none => rfl
    | some o => have := T.other _ _ e (by simp); rw [(N q hq).2.2] at this; cases this⟩
end Mine
end
section
open PySem PySem.W PyProof.Rows PySem.Calls PySem.Spec PySem.SeqAt
set_option Elab.async false
namespace Mine
/-- two values that stand for the same data: ints, texts, bytes, lists and tuples of such (n: how deep) -/
inductive Same (h : Heap) : Nat → Value → Value → Prop where
  | rfl {n : Nat} (v : Value) : Same h n v v
  | int {n : Nat} (i : Int) (t u : Tok) : Same h n (.int i t) (.int i u)
  | str {n : Nat} (x : Str) (t u : Tok) : Same h n (.str x t) (.str x u)
  | bytes {n : Nat} (x : Array UInt8) (t u : Tok) : Same h n (.bytes x t) (.bytes x u)
  | list {n : Nat} {l b : Addr} {xs ys : Array Value} : h.IsList l xs → h.IsList b ys → xs.size = ys.size → (∀ j (h1 : j < xs.size) (h2 : j < ys.size), Same h n xs[j] ys[j]) → Same h (n + 1) (.ref l) (.ref b)
  | tuple {n : Nat} {l b : Addr} {xs ys : Array Value} : h.IsTuple l xs → h.IsTuple b ys → xs.size = ys.size → (∀ j (h1 : j < xs.size) (h2 : j < ys.size), Same h n xs[j] ys[j]) → Same h (n + 1) (.ref l) (.ref b)
theorem all_true (n : Nat) : ((List.range n).all fun _ => true) = true := by simp
theorem Same.eqAt {s : Shared} {n : Nat} {v v' : Value} (h : Same s.heap n v v') : ∀ {A : Around}, A.units + n < cLine → EqAt A s v v' true := by
  induction h with
  | rfl v => exact fun _ => EqAt.same v
  | int i t u => intro A _; have := EqAt.int_int (A := A) (s := s) i t i u; simpa using this
  | str x t u => intro A _; have := EqAt.str_str (A := A) (s := s) x t x u; simpa using this
  | bytes x t u => intro A _ prog w E Q hq; exact eqBool_bytes (by simpa using hq)
  | @list n l b xs ys hl hb hsz _ ih =>
    intro A hu
    by_cases hlb : l = b
    · subst hlb; exact EqAt.same _
    · have := RcAt.lists (A := A) (e := fun _ => true) hl hb hsz (by omega) (fun j h1 h2 => ih j h1 h2 (by rw [Around.in1_units]; omega))
      rw [all_true] at this
      exact .of_refs hlb this
  | @tuple n l b xs ys hl hb hsz _ ih =>
    intro A hu
    by_cases hlb : l = b
    · subst hlb; exact EqAt.same _
    · have := RcAt.tuples (A := A) (e := fun _ => true) hl hb (by omega) (fun j h1 h2 => ih j h1 h2 (by rw [Around.in1_units]; omega))
      rw [all_true, hsz] at this
      simp only [BEq.rfl, Bool.and_self] at this
      exact .of_refs hlb this
section
variable {prog : Program} {w : World} {A : Around} {E : Value → Shared → Prop} {s : Shared} {Q : Value → Shared → Prop} {n : Nat} {l b : Addr} {xs ys : Array Value}
theorem eq_tuples (hl : s.heap.IsTuple l xs) (hb : s.heap.IsTuple b ys) (hsz : xs.size = ys.size) (he : ∀ j (h1 : j < xs.size) (h2 : j < ys.size), Same s.heap n xs[j] ys[j]) (hu : A.units + n + 1 < cLine) (h : Q (.bool true) s) :
    wpAny (model prog w) A (compareOp .Eq (.ref l) (.ref b)) Q E s := by
  refine eq_tupleAt (e := fun _ => true) hl hb (by omega) (fun j h1 h2 => (he j h1 h2).eqAt (by rw [Around.in1_units]; omega)) ?_
  rw [all_true, hsz]; simpa using h
theorem ne_tuples (hl : s.heap.IsTuple l xs) (hb : s.heap.IsTuple b ys) (hsz : xs.size = ys.size) (he : ∀ j (h1 : j < xs.size) (h2 : j < ys.size), Same s.heap n xs[j] ys[j]) (hu : A.units + n + 1 < cLine) (h : Q (.bool false) s) :
    wpAny (model prog w) A (compareOp .NotEq (.ref l) (.ref b)) Q E s := by
  have := RcNeAt.tuples (A := A) (e := fun _ => true) hl hb (by omega) (fun j h1 h2 => (he j h1 h2).eqAt (by rw [Around.in1_units]; omega))
  rw [all_true, hsz] at this
  exact this prog w E Q (by simpa using h)
theorem eq_lists (hl : s.heap.IsList l xs) (hb : s.heap.IsList b ys) (hsz : xs.size = ys.size) (he : ∀ j (h1 : j < xs.size) (h2 : j < ys.size), Same s.heap n xs[j] ys[j]) (hu : A.units + n + 1 < cLine) (h : Q (.bool true) s) :
    wpAny (model prog w) A (compareOp .Eq (.ref l) (.ref b)) Q E s := by
  refine eq_listAt (e := fun _ => true) hl hb hsz (by omega) (fun j h1 h2 => (he j h1 h2).eqAt (by rw [Around.in1_units]; omega)) ?_
  rw [all_true]; exact h
theorem ne_lists (hl : s.heap.IsList l xs) (hb : s.heap.IsList b ys) (hsz : xs.size = ys.size) (he : ∀ j (h1 : j < xs.size) (h2 : j < ys.size), Same s.heap n xs[j] ys[j]) (hu : A.units + n + 1 < cLine) (h : Q (.bool false) s) :
    wpAny (model prog w) A (compareOp .NotEq (.ref l) (.ref b)) Q E s := by
  have := RcNeAt.lists (A := A) (e := fun _ => true) hl hb hsz (by omega) (fun j h1 h2 => (he j h1 h2).eqAt (by rw [Around.in1_units]; omega))
  rw [all_true] at this
  exact this prog w E Q (by simpa using h)
end
inductive SameL (h : Heap) (n : Nat) : List Value → List Value → Prop where
  | nil : SameL h n [] []
  | cons {v w : Value} {vs ws : List Value} : Same h n v w → SameL h n vs ws → SameL h n (v :: vs) (w :: ws)
theorem SameL.length {h : Heap} {n : Nat} {vs ws : List Value} (x : SameL h n vs ws) : vs.length = ws.length := by
  induction x with
  | nil => rfl
  | cons _ _ ih => simp [ih]
theorem SameL.get {h : Heap} {n : Nat} {vs ws : List Value} (x : SameL h n vs ws) : ∀ j (h1 : j < vs.toArray.size) (h2 : j < ws.toArray.size), Same h n vs.toArray[j] ws.toArray[j] := by
  induction x with
  | nil => intro j h1; simp at h1
  | cons hd _ ih =>
    intro j h1 h2
    cases j with
    | zero => simpa using hd
    | succ j =>
      have := ih j (by simpa using h1) (by simpa using h2)
      simp only [List.getElem_toArray] at this ⊢
      exact this
theorem SameL.append {h : Heap} {n : Nat} {vs ws vs' ws' : List Value} (x : SameL h n vs ws) (y : SameL h n vs' ws') : SameL h n (vs ++ vs') (ws ++ ws') := by
  induction x with
  | nil => exact y
  | cons hd _ ih => exact .cons hd ih
theorem SameL.ints {h : Heap} {n : Nat} {vs ws : List Value} {ns : List Int} (a : IntsAre vs ns) (b : IntsAre ws ns) : SameL h n vs ws := by
  induction a generalizing ws with
  | nil => cases b; exact .nil
  | cons k t _ ih => cases b with | cons _ u r => exact .cons (.int k t u) (ih r)
theorem SameL.strs {h : Heap} {n : Nat} {vs ws : List Value} {ns : List Str} (a : StrsAre vs ns) (b : StrsAre ws ns) : SameL h n vs ws := by
  induction a generalizing ws with
  | nil => cases b; exact .nil
  | cons k t _ ih => cases b with | cons _ u r => exact .cons (.str k t u) (ih r)
/-- bytes, item by item -/
inductive BytesAre : List Value → List (Array UInt8) → Prop where
  | nil : BytesAre [] []
  | cons (b : Array UInt8) (t : Tok) {vs bs} : BytesAre vs bs → BytesAre (.bytes b t :: vs) (b :: bs)
theorem BytesAre.length {vs : List Value} {bs : List (Array UInt8)} (x : BytesAre vs bs) : vs.length = bs.length := by
  induction x with
  | nil => rfl
  | cons _ _ _ ih => simp [ih]
theorem BytesAre.append {vs ws : List Value} {bs cs : List (Array UInt8)} (x : BytesAre vs bs) (y : BytesAre ws cs) : BytesAre (vs ++ ws) (bs ++ cs) := by
  induction x with
  | nil => exact y
  | cons b t _ ih => exact .cons b t ih
theorem BytesAre.snoc {vs : List Value} {bs : List (Array UInt8)} (x : BytesAre vs bs) (b : Array UInt8) (t : Tok) : BytesAre (vs ++ [.bytes b t]) (bs ++ [b]) := x.append (.cons b t .nil)
theorem SameL.bytes {h : Heap} {n : Nat} {vs ws : List Value} {ns : List (Array UInt8)} (a : BytesAre vs ns) (b : BytesAre ws ns) : SameL h n vs ws := by
  induction a generalizing ws with
  | nil => cases b; exact .nil
  | cons k t _ ih => cases b with | cons _ u r => exact .cons (.bytes k t u) (ih r)
section
variable {prog : Program} {w : World} {A : Around} {E : Value → Shared → Prop} {s : Shared} {Q : Value → Shared → Prop} {n ja jb : Nat} {L a b : Addr} {xs ys : List Value} {h₀ h : Heap} {news : List (Addr × Obj)}
theorem isTup_at (N : News h₀ L h news) (hm : (a, ({ cls := .type "tuple", data := .seq xs.toArray ja } : Obj)) ∈ news) : h.IsTuple a xs.toArray := ⟨_, (N _ hm).1, rfl, _, rfl⟩
theorem isList_at (N : News h₀ L h news) (hm : (a, listOf xs.toArray ja) ∈ news) : h.IsList a xs.toArray := ⟨_, (N _ hm).1, rfl, _, rfl⟩
theorem same_tup (N : News h₀ L h news) (ha : (a, ({ cls := .type "tuple", data := .seq xs.toArray ja } : Obj)) ∈ news) (hb : (b, ({ cls := .type "tuple", data := .seq ys.toArray jb } : Obj)) ∈ news) (he : SameL h n xs ys) : Same h (n + 1) (.ref a) (.ref b) :=
  .tuple (isTup_at N ha) (isTup_at N hb) (by simpa using he.length) he.get
theorem same_list (N : News h₀ L h news) (ha : (a, listOf xs.toArray ja) ∈ news) (hb : (b, listOf ys.toArray jb) ∈ news) (he : SameL h n xs ys) : Same h (n + 1) (.ref a) (.ref b) :=
  .list (isList_at N ha) (isList_at N hb) (by simpa using he.length) he.get
theorem eq_tupL (N : News h₀ L s.heap news) (ha : (a, ({ cls := .type "tuple", data := .seq xs.toArray ja } : Obj)) ∈ news) (hb : (b, ({ cls := .type "tuple", data := .seq ys.toArray jb } : Obj)) ∈ news) (he : SameL s.heap 3 xs ys) (hu : A.units + 4 < cLine) (h : Q (.bool true) s) :
    wpAny (model prog w) A (compareOp .Eq (.ref a) (.ref b)) Q E s := eq_tuples (isTup_at N ha) (isTup_at N hb) (by simpa using he.length) he.get hu h
theorem ne_tupL (N : News h₀ L s.heap news) (ha : (a, ({ cls := .type "tuple", data := .seq xs.toArray ja } : Obj)) ∈ news) (hb : (b, ({ cls := .type "tuple", data := .seq ys.toArray jb } : Obj)) ∈ news) (he : SameL s.heap 3 xs ys) (hu : A.units + 4 < cLine) (h : Q (.bool false) s) :
    wpAny (model prog w) A (compareOp .NotEq (.ref a) (.ref b)) Q E s := ne_tuples (isTup_at N ha) (isTup_at N hb) (by simpa using he.length) he.get hu h
theorem eq_listL (N : News h₀ L s.heap news) (ha : (a, listOf xs.toArray ja) ∈ news) (hb : (b, listOf ys.toArray jb) ∈ news) (he : SameL s.heap 3 xs ys) (hu : A.units + 4 < cLine) (h : Q (.bool true) s) :
    wpAny (model prog w) A (compareOp .Eq (.ref a) (.ref b)) Q E s := eq_lists (isList_at N ha) (isList_at N hb) (by simpa using he.length) he.get hu h
theorem ne_listL (N : News h₀ L s.heap news) (ha : (a, listOf xs.toArray ja) ∈ news) (hb : (b, listOf ys.toArray jb) ∈ news) (he : SameL s.heap 3 xs ys) (hu : A.units + 4 < cLine) (h : Q (.bool false) s) :
    wpAny (model prog w) A (compareOp .NotEq (.ref a) (.ref b)) Q E s := ne_lists (isList_at N ha) (isList_at N hb) (by simpa using he.length) he.get hu h
end
end Mine
end
section
open PySem PySem.W PyProof.Rows PySem.Calls PySem.Spec
set_option Elab.async false
set_option maxRecDepth 100000
namespace Mine
theorem sub_bb : isSubtype (.type "bytes") (.type "bytes") = pure true := by rw [isSubtype_type]; kernel_rfl
theorem look_blen : typeLookup (.type "bytes") "__len__" = pure (some (.builtin "bytes.__len__")) := FB.slot_bytes_len.lookup
section
variable {prog : Program} {w : World} {A : Around} {E : Value → Shared → Prop} {s : Shared}
theorem ite_yes {α : Type} {M : Model} {c : Prop} [Decidable c] {a b : Sem α} {Q : α → Shared → Prop} (hc : c) (h : wpAny M A a Q E s) : wpAny M A (if c then a else b) Q E s := by rw [if_pos hc]; exact h
theorem ite_no {α : Type} {M : Model} {c : Prop} [Decidable c] {a b : Sem α} {Q : α → Shared → Prop} (hc : ¬ c) (h : wpAny M A b Q E s) : wpAny M A (if c then a else b) Q E s := by rw [if_neg hc]; exact h
theorem hint_bytes {c : Array UInt8} {t : Tok} {Q : Bool → Shared → Prop} (h : Q false s) : wpAny (model prog w) A (Builtin.List.listLengthHint (.bytes c t)) Q E s := by
  unfold Builtin.List.listLengthHint
  refine wpAny_bind (wpAny_specialOf (typeIs_bytes s c t) look_blen ?_)
  have e1 : splitId "bytes.__len__" = some ("bytes", "__len__") := by decide +kernel
  dsimp only
  rw [e1]
  dsimp only
  refine wpAny_bind (wpAny_isInstance (T := "bytes") (typeIs_bytes s c t) sub_bb ?_)
  refine ite_no (by decide) ?_
  refine ite_yes (by decide +kernel) ?_
  refine wpAny_bind (wpAny_typeOf (typeIs_bytes s c t) ?_)
  exact wpAny_pure h
theorem ext_loop {I S : Addr} {n : Nat} {P : Nat → Value → Prop} {St : Nat → Heap → Prop} {R : Result → Shared → Prop} (W : Walks prog w A.in1 I [I] [I] n P St) (hSI : S ≠ I) (res : Value) :
    ∀ (k i : Nat) (s : Shared) (acc : List Value) (c : Nat), n - i = k → i ≤ n → St i s.heap → s.heap.get? S = some { cls := .type "list", dict := none, data := .seq acc.toArray c, slots := #[] } → acc.length + (n - i) ≤ sizeLine →
    (∀ h' tk vs c', vs.length = n - i → (∀ j v, vs[j]? = some v → P (i + j) v) → h'.get? S = some { cls := .type "list", dict := none, data := .seq (acc ++ vs).toArray c', slots := #[] } → (∀ b o, b ≠ S → b ≠ I → s.heap.get? b = some o → h'.get? b = some o) → R (.ok (.ret res)) { s with heap := h', toks := tk }) →
    codeAny (model prog w) A (.builtin "list.extend.loop" ⟨[.ref S, .ref I, res], []⟩) R s := by
  intro k
  induction k with
  | zero =>
    intro i s acc c hk hi hst hS hsz hR
    have hin : i = n := by omega
    subst hin
    refine codeAny_builtin F.entry_extend_loop ?_
    rw [Around.under_plainId F.plain_extend_loop _]
    show wpAny _ A.in1 (pyNext (.ref I) >>= _) _ _ s
    refine wpAny_bind (W.done s _ _ hst fun h' tk hk' => ?_)
    exact wpAny_pure (hR h' tk [] c (by simp) (fun j v e => by simp at e) (by simpa using hk' S _ (by simpa using hSI) hS) fun b o _ hb e => hk' b o (by simpa using hb) e)
  | succ k ih =>
    intro i s acc c hk hi hst hS hsz hR
    have hlt : i < n := by omega
    refine codeAny_builtin F.entry_extend_loop ?_
    rw [Around.under_plainId F.plain_extend_loop _]
    show wpAny _ A.in1 (pyNext (.ref I) >>= _) _ _ s
    refine wpAny_bind (W.item i s _ _ hlt hst fun v h' tk hP hst' hk' => ?_)
    have hS' := hk' S _ (by simpa using hSI) hS
    show wpAny _ A.in1 (updateSeq S (·.push v) >>= _) _ _ _
    refine wpAny_bind ?_
    refine wpAny_updateSeq hS' rfl (wpAny_pure ⟨plainId_quiet F.plain_extend_loop _, ih (i + 1) _ (acc ++ [v]) _ (by omega) hlt (W.frame _ h' _ hst' fun b hb o e => ?_) (by rw [Heap.get?_update_self _ hS' rfl]; simp [Obj.mapSeq]; rfl) (by simp; omega) fun h'' tk'' vs c' hl hvs hS'' hkeep => ?_⟩)
      (by simp; omega) (by simp; omega)
    · rw [List.mem_singleton.mp hb] at e ⊢
      exact (Heap.get?_update_other _ _ hSI).trans e
    · refine hR h'' tk'' (v :: vs) c' (by simp; omega) (fun j x e => ?_) (by simpa using hS'') fun b o hb hbI e => ?_
      · cases j with
        | zero => simp at e; subst e; exact hP
        | succ j =>
          have := hvs j x (by simpa using e)
          rwa [show i + 1 + j = i + (j + 1) by omega] at this
      · exact hkeep b o hb hbI ((Heap.get?_update_other _ _ (Ne.symm hb)).trans (hk' b o (by simpa using hbI) e))
end
theorem ints_of {c : Array UInt8} : ∀ {vs : List Value} (i : Nat), vs.length = c.size - i → (∀ j v, vs[j]? = some v → ∃ x u, c[i + j]? = some x ∧ v = .int (x.toNat : Int) u) → IntsAre vs ((KBw.bInts c).drop i)
  | [], i, hl, _ => by
    have : (KBw.bInts c).drop i = [] := List.drop_of_length_le (by rw [KBw.ints_length]; simp at hl; omega)
    rw [this]; exact .nil
  | v :: vs, i, hl, h => by
    obtain ⟨x, u, hx, rfl⟩ := h 0 v (by simp)
    have hlt : i < (KBw.bInts c).length := by rw [KBw.ints_length]; simp at hl; omega
    rw [List.drop_eq_getElem_cons hlt]
    have e : (KBw.bInts c)[i] = (x.toNat : Int) := by
      have := KBw.ints_get (b := c) (i := i) (by simpa using hx)
      rw [List.getElem?_eq_getElem hlt] at this
      exact Option.some.inj this
    rw [e]
    refine .cons _ u (ints_of (i + 1) (by simp at hl; omega) fun j v hv => ?_)
    have := h (j + 1) v (by simpa using hv)
    rwa [show i + (j + 1) = i + 1 + j by omega] at this
theorem meets_ext (D : Addr) (c : Array UInt8) (t : Tok) (vs : List Value) (j : Nat) :
    Meets (Builtin.«list.extend» ⟨[.ref D, .bytes c t], []⟩) (fun A R s => A.handled = none ∧ s.heap.get? D = some (listOf vs.toArray j) ∧ vs.length + c.size ≤ sizeLine ∧
      ∀ h' tk ws c', IntsAre ws (KBw.bInts c) → h'.get? D = some (listOf (vs ++ ws).toArray c') → (∀ b o, b ≠ D → s.heap.get? b = some o → h'.get? b = some o) → R (.ok (.ret .none)) { s with heap := h', toks := tk }) := by
  intro prog w A R s ⟨hh, hD, hsz, hR⟩
  show wpAny _ _ (Builtin.List.listExtendWith (.ref D) (.bytes c t) .none) _ _ s
  unfold Builtin.List.listExtendWith
  refine wpAny_bind (wpAny_typeOf (typeIs_bytes s c t) ?_)
  have h1 : Builtin.List.listSameRef (.ref D) (.bytes c t) = false := rfl
  have h2 : (Value.type "bytes" == Value.type "list") = false := by decide
  have h3 : (Value.type "bytes" == Value.type "tuple") = false := by decide
  simp only [h1, h2, h3, Bool.or_false, Bool.false_eq_true, if_false]
  have hDI : D ≠ s.heap.objs.size := Nat.ne_of_lt (Heap.lt_size hD)
  refine wpAny_bind (KBw.pyIter_bytes ?_)
  refine wpAny_bind (wpAny_holding (hint_bytes ?_))
  refine ite_no (by decide +kernel) ?_
  refine wpAny_pure ⟨plainId_quiet F.plain_extend_loop _, ?_⟩
  have W := KBw.walks (prog := prog) (w := w) (A := A.in1) hh s.heap.objs.size c t
  refine ext_loop (n := c.size) W hDI .none c.size 0 _ vs j (by omega) (Nat.zero_le _) ⟨_, Heap.get?_push_size _ rfl, rfl, rfl⟩ (Heap.get?_push_of_some _ hD) (by omega) fun h' tk ws c' hl hws hD' hk => ?_
  refine hR h' tk ws c' ?_ hD' fun b o hb e => hk b o hb (fun q => ?_) (Heap.get?_push_of_some _ e)
  · have := ints_of (c := c) (vs := ws) 0 (by omega) (fun j v hv => by obtain ⟨x, u, hx, rfl⟩ := hws j v hv; exact ⟨x, u, hx, rfl⟩)
    simpa using this
  · rw [q] at e; exact absurd (Heap.lt_size e) (Nat.lt_irrefl _)
theorem extend_bytes {prog : Program} {w : World} {A : Around} {E : Value → Shared → Prop} {s : Shared} {h₀ : Heap} {L D : Addr} {m : Str → Option Value} {news : List (Addr × Obj)} {upd : Obj → List (Addr × Obj)} {c : Array UInt8} {t : Tok} {vs : List Value} {j : Nat} {Q : Value → Shared → Prop}
    (F : Fr h₀ L s.heap m) (N : News h₀ L s.heap news) (hh : A.handled = none) (U : UpdF D (listOf vs.toArray j) news upd) (hsz : vs.length + c.size ≤ 16777216)
    (h : ∀ h' tk ws c', IntsAre ws (KBw.bInts c) → Fr h₀ L h' m → News h₀ L h' (upd (listOf (vs ++ ws).toArray c')) → Q .none { s with heap := h', toks := tk }) :
    wpAny (model prog w) A (call (.builtin "list.extend") [.ref D, .bytes c t]) Q E s := by
  obtain ⟨rest, hof, hnw, hup⟩ := upd_split U
  have hm := N _ ((hnw _).mpr (.inl rfl))
  refine call_meets PySem.F.slot_list_extend ⟨_, hm.1, rfl⟩ PySem.F.entry_list_extend (PySem.F.args_list_extend_2 _ _) (meets_ext D c t vs j) ⟨hh, hm.1, by rw [sizeLine_eq]; exact hsz, fun h' tk ws c' hi hD hk => ?_⟩
  refine h h' tk ws c' hi ⟨F.ns.at' fun o e => hk _ o (Ne.symm hm.2.1) e, fun b o e => hk b o (fun q => ?_) (F.keep b o e), F.above⟩ fun q hq => ?_
  · rw [q, hm.2.2] at e; cases e
  · rcases (hup _ q).mp hq with rfl | hq'
    · exact ⟨hD, hm.2⟩
    · have hn := N q ((hnw q).mpr (.inr hq'))
      exact ⟨hk _ _ (hof q hq' D (List.mem_singleton.mpr rfl)) hn.1, hn.2⟩
end Mine
end
section
open PySem PySem.W PyProof.Rows PySem.Calls PySem.Spec
set_option Elab.async false
namespace Mine
theorem cut_split (b : Array UInt8) (a n m : Nat) : KBw.bInts (cutB b a (n + m)) = KBw.bInts (cutB b a n) ++ KBw.bInts (cutB b (a + n) m) := by
  unfold cutB KBw.bInts
  rw [List.take_add, List.drop_drop]
  simp
theorem cut_next {b : Array UInt8} {p : Nat} (h : p < b.size) : KBw.bInts (cutB b 0 (p + 1 + oct b p)) = KBw.bInts (cutB b 0 p) ++ [(oct b p : Int)] ++ KBw.bInts (cutB b (p + 1) (oct b p)) := by
  rw [show p + 1 + oct b p = (p + 1) + oct b p from rfl, cut_split, cut_split, Nat.zero_add, Nat.zero_add, ints_cut1 h]
theorem cut_whole {b : Array UInt8} : cutB b 0 b.size = b := by
  unfold cutB
  rw [List.drop_zero, List.take_of_length_le (by simp), Array.toArray_toList]
theorem sub_t3 {t1 t2 a b c : Addr × Obj} {R own : List (Addr × Obj)} : ∀ q ∈ a :: b :: c :: R, q ∈ t1 :: t2 :: a :: b :: c :: (R ++ own) := fun q hq => by
  simp only [List.mem_cons, List.mem_append] at hq ⊢
  rcases hq with h | h | h | h <;> simp [h]
theorem own_t3 {t1 t2 a b c : Addr × Obj} {R own : List (Addr × Obj)} : ∀ q ∈ own, q ∈ t1 :: t2 :: a :: b :: c :: (R ++ own) := fun q hq => by
  simp only [List.mem_cons, List.mem_append]; exact .inr (.inr (.inr (.inr (.inr (.inr hq)))))
theorem picked_upto {b : Array UInt8} {k : Nat} : KBy.picked b none (some (k : Int)) = cutB b 0 k := by
  rw [KBc.picked_eq]
  simp only [Option.elim, clipAt_nat, List.drop_zero, Nat.sub_zero]
  unfold cutB
  rw [List.drop_zero]
  congr 1
  by_cases h : k ≤ b.size
  · rw [Nat.min_eq_left h]
  · rw [Nat.min_eq_right (by omega), List.take_of_length_le (by simp), List.take_of_length_le (by simp; omega)]
section
variable {prog : Program} {w : World} {A : Around} {E : Value → Shared → Prop} {s : Shared} {h₀ : Heap} {L D : Addr} {m : Str → Option Value} {news : List (Addr × Obj)} {vs : List Value} {c x y : Array UInt8} {j : Nat} {t u : Tok} {Q : Value → Shared → Prop}
theorem make_bytes (F : Fr h₀ L s.heap m) (N : News h₀ L s.heap news) (hh : A.handled = none) (hm : (D, listOf vs.toArray j) ∈ news) (hi : IntsAre vs (KBw.bInts c)) (hz : c.size ≤ 16777216)
    (h : ∀ h' t' k, Fr h₀ L h' m → News h₀ L h' news → Q (.bytes c t') { s with heap := h', toks := k }) : wpAny (model prog w) A (call (.type "bytes") [.ref D]) Q E s :=
  KBa.make_K F N hh (isList_at N hm) hi (bInts_in c) (by rw [KBw.ints_length]; exact hz) fun h' t' k F' N' _ => by rw [byteArr_bInts]; exact h h' t' k F' N'
theorem eq_bytes_same (e : x = y) (h : Q (.bool true) s) : wpAny (model prog w) A (compareOp .Eq (.bytes x t) (.bytes y u)) Q E s := by
  subst e; exact eq_bytes (by simpa using h)
theorem ne_bytes_same (e : x = y) (h : Q (.bool false) s) : wpAny (model prog w) A (compareOp .NotEq (.bytes x t) (.bytes y u)) Q E s := by
  subst e; exact ne_bytes (by simpa using h)
end
end Mine
end
section
open PySem PySem.W PyProof.Rows PySem.Calls PySem.Spec PySem.SeqAt
set_option Elab.async false
namespace Mine
theorem ints_getD (b : Array UInt8) (p : Nat) : (KBw.bInts b).getD p 0 = (oct b p : Int) := (KBw.getD_ints b.toList p).symm
section
variable {prog : Program} {w : World} {A : Around} {E : Value → Shared → Prop} {s : Shared} {x y : Str} {t u : Tok} {Q : Value → Shared → Prop}
theorem ne_str_same (e : x = y) (h : Q (.bool false) s) : wpAny (model prog w) A (compareOp .NotEq (.str x t) (.str y u)) Q E s := by
  subst e; exact RcNeAt.str_str x t x u prog w E Q (by simpa using h)
theorem eq_str_same (e : x = y) (h : Q (.bool true) s) : wpAny (model prog w) A (compareOp .Eq (.str x t) (.str y u)) Q E s := by
  subst e; exact RcAt.str_str x t x u prog w E Q (by simpa using h)
end
end Mine
end
section
open PySem PySem.W PyProof.Rows PySem.Calls PySem.Spec
set_option Elab.async false
namespace Mine
/-- the end of a turn, where the ledger may have grown: I is the iterator's place -/
def EndY (g₀ : Heap) (L : Addr) (J : (Str → Option Value) → List (Addr × Obj) → Prop) (I : Addr) (oI : Obj) (s s₂ : Shared) : Prop :=
  ∃ h' tk m' news' nx, s₂ = { s with heap := h', toks := tk } ∧ Fr g₀ L h' m' ∧ News g₀ L h' news' ∧ (∀ q ∈ nx, q ∈ news') ∧ (I, oI) ∈ news' ∧ (∀ q ∈ nx, @Ne Nat q.1 I) ∧ J m' nx
def PostY (g₀ : Heap) (L : Addr) (J : (Str → Option Value) → List (Addr × Obj) → Prop) (I : Addr) (oI : Obj) (Q : Flow → Shared → Prop) (s : Shared) (f : Flow) (s₂ : Shared) : Prop :=
  match f with
  | .ret v => Q (.ret v) s₂
  | .brk => Q .next s₂
  | _ => EndY g₀ L J I oI s s₂
theorem EndY.intro {g₀ : Heap} {L : Addr} {J : (Str → Option Value) → List (Addr × Obj) → Prop} {I : Addr} {oI : Obj} {s : Shared} {h' : Heap} {tk : Nat} {m' : Str → Option Value} {news' nx : List (Addr × Obj)}
    (F : Fr g₀ L h' m') (N : News g₀ L h' news') (hj : J m' nx) (hn : ∀ q ∈ nx, q ∈ news') (hI : (I, oI) ∈ news') (hne : ∀ q ∈ nx, @Ne Nat q.1 I) : EndY g₀ L J I oI s { s with heap := h', toks := tk } :=
  ⟨h', tk, m', news', nx, rfl, F, N, hn, hI, hne, hj⟩
section
variable {g₀ : Heap}
theorem loopY {prog : Program} {w : World} {A : Around} {s : Shared} {env : Env} {R : Result → Shared → Prop} {x : Str} {px : Pos} {body : List Stmt} {I : Addr} {n : Nat} {P : Nat → Value → Prop} {St : Nat → Heap → Prop} {m₀ : Str → Option Value} {news : List (Addr × Obj)}
    (J : Nat → (Str → Option Value) → List (Addr × Obj) → Prop) (Q : Flow → Shared → Prop) (E : Value → Shared → Prop)
    (W : Walks prog w A I [I] [I] n P St) (hIo : ∀ i h, St i h → ∃ o, h.get? I = some o) (hx : env.kindOf x = some .local)
    (hp : (env.scope.kind == .class || (env.scope.kind == .module && env.locals != env.globals)) = false)
    (hLI : env.locals ≠ I) (hgI : g₀.get? I = none) (hnI : ∀ q ∈ news, @Ne Nat q.1 I)
    (hst : St 0 s.heap) (F₀ : Fr g₀ env.locals s.heap m₀) (N₀ : News g₀ env.locals s.heap news) (hj : J 0 m₀ news)
    (hE : ∀ e s', E e s' → notedBy (model prog w) A env (fun e s' => R (.error e) s') e s')
    (hQ : ∀ f s', Q f s' → R (.ok f) s')
    (turn : ∀ i v m₁ news₁ h tk oI, i < n → P i v → (∀ q ∈ news₁, @Ne Nat q.1 I) → J i m₁ news₁ →
      Fr g₀ env.locals h (fun y => if y = x then some v else m₁ y) → News g₀ env.locals h ((I, oI) :: news₁) →
      wpAny (model prog w) A (execs body env) (PostY g₀ env.locals (J (i + 1)) I oI Q s) E { s with heap := h, toks := tk })
    (done : ∀ m₁ news₁ h tk, J n m₁ news₁ → Fr g₀ env.locals h m₁ → News g₀ env.locals h news₁ → Q .next { s with heap := h, toks := tk }) :
    codeAny (model prog w) A (.forLoop (.Name x px) (.ref I) body [] env) R s := by
  refine codeAny_forLoop
    (fun k s' => ∃ h' tk m' news' i, s' = { s with heap := h', toks := tk } ∧ St i h' ∧ Fr g₀ env.locals h' m' ∧ News g₀ env.locals h' news' ∧ (∀ q ∈ news', @Ne Nat q.1 I) ∧ J i m' news' ∧ i ≤ n ∧ k = n + 1 - i) ?_ (n + 1)
    ⟨s.heap, s.toks, m₀, news, 0, rfl, hst, F₀, N₀, hnI, hj, Nat.zero_le _, rfl⟩
  rintro k s' ⟨h', tk, m', news', i, rfl, hst', F', N', nI, hJ, hi, rfl⟩
  have nextF : ∀ h₁ : Heap, (∀ b o, b ∉ [I] → h'.get? b = some o → h₁.get? b = some o) → Fr g₀ env.locals h₁ m' := fun h₁ hk₁ =>
    ⟨F'.ns.at' fun o e => hk₁ _ o (by simpa using hLI) e, fun b o e => hk₁ b o (fun hb => by rw [List.mem_singleton.mp hb, hgI] at e; cases e) (F'.keep b o e), F'.above⟩
  have nextN : ∀ h₁ : Heap, (∀ b o, b ∉ [I] → h'.get? b = some o → h₁.get? b = some o) → News g₀ env.locals h₁ news' := fun h₁ hk₁ =>
    fun q hq => ⟨hk₁ _ _ (by simpa using nI q hq) (N' q hq).1, (N' q hq).2⟩
  by_cases hlt : i < n
  · refine W.item i _ _ _ hlt hst' fun v h₁ tk₁ hP hst₁ hk₁ => ?_
    have F₁ := nextF h₁ hk₁
    have N₁ := nextN h₁ hk₁
    refine wpAny_assign_Name (wpAny_storeName_local hx F₁.ns (fun h₂ hn₂ hs₂ => ?_) hp)
    have F₂ := F₁.set hn₂ hs₂
    have N₂ := N₁.set hs₂
    have hst₂ : St (i + 1) h₂ := W.frame _ _ _ hst₁ fun b hb o e => (hs₂.2 b fun q => hLI (by rw [List.mem_singleton.mp hb] at q; exact q.symm)).trans e
    obtain ⟨oI, hoI⟩ := hIo _ _ hst₂
    have N₃ : News g₀ env.locals h₂ ((I, oI) :: news') := fun q hq => by
      rcases List.mem_cons.mp hq with rfl | hq
      · exact ⟨hoI, hLI.symm, hgI⟩
      · exact N₂ q hq
    refine wpAny_mono (turn i v m' news' h₂ _ oI hlt hP nI hJ F₂ N₃) (fun f s₃ h₃ => ?_) fun e s' h' => hE e s' h'
    have fin : EndY g₀ env.locals (J (i + 1)) I oI s s₃ → ∃ m, m < n + 1 - i ∧ ∃ h' tk m' news' i', s₃ = { s with heap := h', toks := tk } ∧ St i' h' ∧ Fr g₀ env.locals h' m' ∧ News g₀ env.locals h' news' ∧ (∀ q ∈ news', @Ne Nat q.1 I) ∧ J i' m' news' ∧ i' ≤ n ∧ m = n + 1 - i' := by
      rintro ⟨h₃', tk₃, m₃, news₃, nx, rfl, F₃, N₃, hsub, hI, hne, hJ₃⟩
      refine ⟨n + 1 - (i + 1), by omega, h₃', tk₃, m₃, nx, i + 1, rfl, ?_, F₃, fun q hq => N₃ q (hsub q hq), hne, hJ₃, hlt, rfl⟩
      exact W.frame _ _ _ hst₂ fun b hb o e => by
        rw [List.mem_singleton.mp hb] at e ⊢
        rw [hoI] at e; cases e
        exact (N₃ _ hI).1
    cases f with
    | ret v => exact hQ _ _ h₃
    | brk => exact hQ _ _ h₃
    | next => exact fin h₃
    | cont => exact fin h₃
  · have hin : i = n := by omega
    subst hin
    refine W.done _ _ _ hst' fun h₁ tk₁ hk₁ => wpAny_execs_nil ?_
    exact hQ _ _ (done m' news' h₁ tk₁ hJ (nextF h₁ hk₁) (nextN h₁ hk₁))

theorem iterY_range {prog : Program} {w : World} {A : Around} {s : Shared} {env : Env} {x : Str} {px : Pos} {body : List Stmt} {r : Addr} {a₀ b₀ c₀ : Int} {t₀ u₀ v₀ : Tok} {n : Nat} {m₀ : Str → Option Value} {news : List (Addr × Obj)} {Q : Flow → Shared → Prop} {E : Value → Shared → Prop}
    (J : Nat → (Str → Option Value) → List (Addr × Obj) → Prop)
    (hh : A.handled = none) (hr : IsRange s.heap r a₀ b₀ c₀ t₀ u₀ v₀) (hsmall : Builtin.Range.small a₀ b₀ c₀ = true) (hn : Builtin.Range.rangeSize a₀ b₀ c₀ = (n : Int)) (hx : env.kindOf x = some .local)
    (hp : (env.scope.kind == .class || (env.scope.kind == .module && env.locals != env.globals)) = false)
    (F₀ : Fr g₀ env.locals s.heap m₀) (N₀ : News g₀ env.locals s.heap news) (hj : J 0 m₀ news)
    (hE : PassesOwn (model prog w) A env E)
    (turn : ∀ I i t m₁ news₁ h tk oI, i < n → (∀ q ∈ news₁, @Ne Nat q.1 I) → J i m₁ news₁ →
      Fr g₀ env.locals h (fun y => if y = x then some (.int (a₀ + (i : Nat) * c₀) t) else m₁ y) → News g₀ env.locals h ((I, oI) :: news₁) →
      wpAny (model prog w) A (execs body env) (PostY g₀ env.locals (J (i + 1)) I oI Q s) E { s with heap := h, toks := tk })
    (done : ∀ m₁ news₁ h tk, J n m₁ news₁ → Fr g₀ env.locals h m₁ → News g₀ env.locals h news₁ → Q .next { s with heap := h, toks := tk }) :
    wpAny (model prog w) A (pyIter (.ref r)) (fun it s₂ => codeAny (model prog w) A (.forLoop (.Name x px) it body [] env) (fun r s' => match r with | .ok f => Q f s' | .error e => cameBackBy (model prog w) A env E e s') s₂) E s := by
  refine wpAny_pyIter_range hr hsmall ?_
  have W : Walks prog w A s.heap.objs.size [s.heap.objs.size] [s.heap.objs.size] n (fun i v => i < n ∧ ∃ t, v = .int (a₀ + i * c₀) t)
      (fun i h => IsRangeIter h s.heap.objs.size (a₀ + (i : Nat) * c₀) ((n : Int) - (i : Nat)) c₀) := (Walks.range hh _ a₀ c₀ n).bound
  have gN : g₀.get? s.heap.objs.size = none := by
    cases q : g₀.get? s.heap.objs.size with
    | none => rfl
    | some o => exact absurd (Heap.lt_size (F₀.keep _ _ q)) (Nat.lt_irrefl _)
  refine loopY (s := { s with heap := s.heap.push _ }) J Q E W (fun i h hi => ?_) hx hp (Nat.ne_of_lt F₀.ns.lt) gN (fun q hq => Nat.ne_of_lt (Heap.lt_size (N₀ q hq).1)) ?_ (F₀.push _) (fun q hq => ⟨Heap.get?_push_of_some _ (N₀ q hq).1, (N₀ q hq).2⟩) hj (fun e s' h => hE e s' h) (fun f s' h => h) ?_ ?_
  · exact ⟨_, hi⟩
  · show IsRangeIter _ _ _ _ _
    rw [hn]; simpa using Heap.get?_push_size _ rfl
  · rintro i v m₁ news₁ h tk oI hi ⟨_, t, rfl⟩ ho hJ F N
    exact turn _ i t m₁ news₁ h tk oI hi ho hJ F N
  · intro m₁ news₁ h tk hJ F N
    exact done m₁ news₁ h tk hJ F N
end
end Mine
namespace Mine
open PySem PySem.W PyProof.Rows PySem.Calls PySem.Spec
theorem size_down (k : Nat) : Builtin.Range.rangeSize ((k : Int) - 1) (-1) (-1) = (k : Int) := by
  unfold Builtin.Range.rangeSize
  simp only [show ¬ ((-1 : Int) > 0) by decide, if_false, show (- -1 : Int) = 1 by decide, Int.ediv_one]
  split <;> omega
theorem small_down {k : Nat} (hk : k < 1000000) : Builtin.Range.small ((k : Int) - 1) (-1) (-1) = true := by
  unfold Builtin.Range.small
  rw [size_down]
  simp only [Builtin.Range.rangeFitsLong, Bool.and_eq_true, Bool.or_eq_true, decide_eq_true_eq, beq_iff_eq, show ¬ ((-1 : Int) > 0) by decide, if_false]
  omega
end Mine
end
section
open PySem PySem.W PyProof.Rows PySem.Calls PySem.Spec
set_option Elab.async false
namespace Mine
section
variable {prog : Program} {w : World} {A₀ A : Around} {s : Shared} {base h₀ : Heap} {L a : Addr} {m : Str → Option Value} {cn : Str} {cs : Scope} {ccd : Value} {cl : List (Str × Addr)} {news : List (Addr × Obj)} {K : Frag} {p : Program} {loose : List Str} {mean : ExcName → Option Value} {mg mb : Str → Option Value}
    {R : Result → Shared → Prop} {name qual : Str} {params : Arguments} {body : List Stmt} {scope : Scope} {dV kV doc pm cdv ct oc : Value} {an od : Option Addr} {osl : Array (Option Value)} {f : Addr} {args : Args} {binds : List (Str × Value)}
/-- back from a callee whose ground turned: the caller's frame alone may have changed its slots -/
theorem back_turn {g g' h : Heap} {L' : Addr} {m' : Str → Option Value} {news' : List (Addr × Obj)} (FG : Fr h₀ L g m) (T : KtsTurn [L] g g') (F' : Fr g' L' h m') (N' : News g' L' h news') : Fr h₀ L h m ∧ News h₀ L h news' := by
  obtain ⟨oL, es, ep, hL, hLd, hLk, hLf⟩ := FG.ns
  obtain ⟨sl, hs⟩ := T.up hL
  have nL : h₀.get? L = none := kts_self FG
  refine ⟨⟨⟨_, es, ep, F'.keep _ _ hs, hLd, hLk, hLf⟩, fun b o e => F'.keep b o (T.other b o (FG.keep b o e) fun q => ?_), FG.above⟩, fun q hq => ⟨(N' q hq).1, fun e => ?_, ?_⟩⟩
  · rw [List.mem_singleton.mp q, nL] at e; cases e
  · have := (N' q hq).2.2; rw [e, hs] at this; cases this
  · cases e : h₀.get? q.1 with
    | none => rfl
    | some o =>
      obtain ⟨sl', hs'⟩ := T.up (FG.keep _ _ e)
      have := (N' q hq).2.2
      rw [hs'] at this; cases this
/-- the way into a def with a try, from a caller that may hold cells -/
theorem code_defSX (B : Below A₀ base [] h₀) (F : Fr h₀ L s.heap m) (X₀ : K.In h₀) (N : News h₀ L s.heap news) (T : Top p loose mean mg mb h₀) (hA : A.frames = some [envX cn cs L a ccd cl])
    (ho : K.lookup f = some ⟨oc, od, .func (fnOf name qual params body scope dV kV doc pm an cdv ct), osl⟩) (hcd : codeIn K cdv qual = true) (hroom : A.depth < recursionLimit)
    (hbind : BindsTo s (fnOf name qual params body scope dV kV doc pm an cdv ct) args binds) (hloc : ∀ y ∈ binds, scope.names.lookup y.1 = some .local)
    (h : ∀ g L' h₁, Fr h₀ L g m → Fr g L' h₁ (fun y => binds.reverse.lookup y) → News g L' h₁ news → Below A base [envX cn cs L a ccd cl] g → K.In g → Top p loose mean mg mb g → KtsDicts ([envX cn cs L a ccd cl].filterMap (·.frame)) g →
      wpAny (model prog w) (A.deeper (envOf qual scope L' f cdv)) (execs body (envOf qual scope L' f cdv))
        (fun fl s' => LeaveS0 ([envX cn cs L a ccd cl].filterMap (·.frame)) h₀ L m g R (match fl with | .ret v => v | _ => .none) s')
        (fun e s' => wpAny (model prog w) (A.deeper (envOf qual scope L' f cdv)) (leaving (envOf qual scope L' f cdv) e) (fun _ s'' => R (.error e) s'') (fun e' s'' => R (.error e') s'') s')
        { s with heap := h₁, toks := s.toks + binds.length })
    (hck : cs.kind = .function) (hco : scope.isCoroutine = false) (hgen : scope.isGenerator = false) (hk : scope.kind = .function)
    (hcell : ∀ x ∈ scope.names, x.2 ≠ .cell) : codeAny (model prog w) A (.call (.ref f) args) R s := by
  have X := X₀.keeps F.keep
  obtain ⟨FG, BG, st, -⟩ := groundX (R := R) B F N hA rfl hck
  refine codeAny_call_def (fd := fnOf name qual params body scope dV kV doc pm an cdv ct) (body := body) (binds := binds) hroom (X _ _ ho) rfl (T.nolimit.keeps F.keep) (codeRec_of X hcd) rfl hbind hcell hloc (fun h₁ hns hk₁ => ?_) hco hgen hk
  have D : KtsDicts ([envX cn cs L a ccd cl].filterMap (·.frame)) (hideAll s.heap (news.map (·.1))) := fun b hb => by
    obtain ⟨oL, es, ep, hL, hLd, _⟩ := FG.ns
    have e : b = L := List.mem_singleton.mp (show b ∈ [L] from hb)
    rw [e]; exact ⟨oL, es, ep, hL, hLd⟩
  refine wpAny_mono (h _ s.heap.objs.size h₁ FG ⟨hns, fun b o e => hk₁ b o (of_hideAll _ e), Nat.le_of_eq (hideAll_size _ _)⟩
    (fun q hq => ⟨hk₁ _ _ (N q hq).1, Nat.ne_of_lt (Heap.lt_size (N q hq).1), hideAll_none _ (List.mem_map_of_mem hq)⟩) BG (X₀.keeps st) (T.keeps st) D) (fun fl s' hl => ?_) fun _ _ y => y
  obtain ⟨g', L', m', news', T', F', N', k⟩ := hl
  obtain ⟨a1, a2⟩ := back_turn FG T' F' N'
  exact k a1 a2
end
end Mine
end
section
open PySem PySem.W PyProof.Rows PySem.Calls PySem.Spec
set_option Elab.async false
namespace Mine
/-- no code of a code -/
def NoTab (o : Obj) : Prop := ∀ vs q t, o.data = .fields vs → vs[1]? ≠ some (.str q t)
theorem noTab_seq {o : Obj} {vs : Array Value} {n : Nat} (h : o.data = .seq vs n) : NoTab o := fun _ _ _ e => by rw [h] at e; cases e
theorem noTab_cell {o : Obj} {v : Option Value} (h : o.data = .cell v) : NoTab o := fun _ _ _ e => by rw [h] at e; cases e
theorem noTab_dict {o : Obj} {es : Array DictEntry} {n : Nat} (h : o.data = .dict es n) : NoTab o := fun _ _ _ e => by rw [h] at e; cases e
theorem noTab_int {o : Obj} {ws : Array Value} {k : Int} {u : Tok} (h : o.data = .fields ws) (h1 : ws[1]? = some (.int k u)) : NoTab o := fun vs q t e e' => by
  rw [h] at e; cases e
  rw [h1] at e'; cases e'
theorem tab_off {h₀ h : Heap} {L a P : Addr} {X T : List (Addr × Obj)} {o : Obj} {i j : Value} {qual : Str} (N : News h₀ L h X) (hT : Tab P i j qual T) (hs : ∀ e ∈ T, e ∈ X) (hm : (a, o) ∈ X) (hn : NoTab o) (hP : @Ne Nat P a) : OwnOff T [a] := by
  intro q hq c hc
  rw [List.mem_singleton.mp hc]
  cases hT with
  | none => rw [List.mem_singleton.mp hq]; exact hP
  | some h1 h2 h3 =>
    simp only [List.mem_cons, List.not_mem_nil, or_false] at hq
    rcases hq with rfl | rfl
    · exact hP
    · intro e
      have e1 := (N _ (hs _ (.tail _ (.head _)))).1
      have e2 := (N _ hm).1
      rw [show ((_, _) : Addr × Obj).1 = a from e] at e1
      have e3 := Option.some.inj (e1.symm.trans e2)
      dsimp only at e3
      exact hn _ _ _ (by rw [← e3]; exact h2) h3
section
variable {g₀ : Heap}
/-- a for of any target over any source; the ledger may grow and shrink; fpo: what the source leans on -/
theorem loopG {prog : Program} {w : World} {A : Around} {s : Shared} {env : Env} {R : Result → Shared → Prop} {tg : Expr} {body : List Stmt} {I : Addr} {n : Nat} {P : Nat → Value → Prop} {St : Nat → Heap → Prop} {m₀ : Str → Option Value} {news fpo : List (Addr × Obj)}
    (J : Nat → (Str → Option Value) → List (Addr × Obj) → Prop) (Q : Flow → Shared → Prop) (E : Value → Shared → Prop)
    (W : Walks prog w A I (I :: fpo.map (·.1)) [I] n P St) (hIo : ∀ i h, St i h → ∃ o, h.get? I = some o ∧ NoTab o)
    (hJf : ∀ i m nx, J i m nx → ∀ q ∈ fpo, q ∈ nx)
    (hLI : env.locals ≠ I) (hgI : g₀.get? I = none) (hnI : ∀ q ∈ news, @Ne Nat q.1 I)
    (hst : St 0 s.heap) (F₀ : Fr g₀ env.locals s.heap m₀) (N₀ : News g₀ env.locals s.heap news) (hj : J 0 m₀ news)
    (hE : ∀ e s', E e s' → notedBy (model prog w) A env (fun e s' => R (.error e) s') e s')
    (hQ : ∀ f s', Q f s' → R (.ok f) s')
    (turn : ∀ i v m₁ news₁ h tk oI, NoTab oI → i < n → P i v → (∀ q ∈ news₁, @Ne Nat q.1 I) → J i m₁ news₁ →
      Fr g₀ env.locals h m₁ → News g₀ env.locals h ((I, oI) :: news₁) →
      wpAny (model prog w) A (assign tg env v) (fun _ s₂ => wpAny (model prog w) A (execs body env) (PostY g₀ env.locals (J (i + 1)) I oI Q s) E s₂) E { s with heap := h, toks := tk })
    (done : ∀ m₁ news₁ h tk, J n m₁ news₁ → Fr g₀ env.locals h m₁ → News g₀ env.locals h news₁ → Q .next { s with heap := h, toks := tk })
    (ht : ∀ v, letOwnedTupleGo tg (.ref I) v = pure () := by intro _; rfl) :
    codeAny (model prog w) A (.forLoop tg (.ref I) body [] env) R s := by
  refine codeAny_forLoop
    (fun k s' => ∃ h' tk m' news' i, s' = { s with heap := h', toks := tk } ∧ St i h' ∧ Fr g₀ env.locals h' m' ∧ News g₀ env.locals h' news' ∧ (∀ q ∈ news', @Ne Nat q.1 I) ∧ J i m' news' ∧ i ≤ n ∧ k = n + 1 - i) ?_ (n + 1)
    ⟨s.heap, s.toks, m₀, news, 0, rfl, hst, F₀, N₀, hnI, hj, Nat.zero_le _, rfl⟩ ht
  rintro k s' ⟨h', tk, m', news', i, rfl, hst', F', N', nI, hJ, hi, rfl⟩
  have nextF : ∀ h₁ : Heap, (∀ b o, b ∉ [I] → h'.get? b = some o → h₁.get? b = some o) → Fr g₀ env.locals h₁ m' := fun h₁ hk₁ =>
    ⟨F'.ns.at' fun o e => hk₁ _ o (by simpa using hLI) e, fun b o e => hk₁ b o (fun hb => by rw [List.mem_singleton.mp hb, hgI] at e; cases e) (F'.keep b o e), F'.above⟩
  have nextN : ∀ h₁ : Heap, (∀ b o, b ∉ [I] → h'.get? b = some o → h₁.get? b = some o) → News g₀ env.locals h₁ news' := fun h₁ hk₁ =>
    fun q hq => ⟨hk₁ _ _ (by simpa using nI q hq) (N' q hq).1, (N' q hq).2⟩
  by_cases hlt : i < n
  · refine W.item i _ _ _ hlt hst' fun v h₁ tk₁ hP hst₁ hk₁ => ?_
    have F₁ := nextF h₁ hk₁
    have N₁ := nextN h₁ hk₁
    obtain ⟨oI, hoI, hoT⟩ := hIo _ _ hst₁
    have N₃ : News g₀ env.locals h₁ ((I, oI) :: news') := fun q hq => by
      rcases List.mem_cons.mp hq with rfl | hq
      · exact ⟨hoI, hLI.symm, hgI⟩
      · exact N₁ q hq
    refine wpAny_mono (turn i v m' news' h₁ _ oI hoT hlt hP nI hJ F₁ N₃) (fun _ s₂ h₂ => wpAny_mono h₂ (fun f s₃ h₃ => ?_) fun e s' h' => hE e s' h') fun e s' h' => hE e s' h'
    have fin : EndY g₀ env.locals (J (i + 1)) I oI s s₃ → ∃ m, m < n + 1 - i ∧ ∃ h' tk m' news' i', s₃ = { s with heap := h', toks := tk } ∧ St i' h' ∧ Fr g₀ env.locals h' m' ∧ News g₀ env.locals h' news' ∧ (∀ q ∈ news', @Ne Nat q.1 I) ∧ J i' m' news' ∧ i' ≤ n ∧ m = n + 1 - i' := by
      rintro ⟨h₃', tk₃, m₃, news₃, nx, rfl, F₃, N₄, hsub, hI, hne, hJ₃⟩
      refine ⟨n + 1 - (i + 1), by omega, h₃', tk₃, m₃, nx, i + 1, rfl, ?_, F₃, fun q hq => N₄ q (hsub q hq), hne, hJ₃, hlt, rfl⟩
      exact W.frame _ _ _ hst₁ fun b hb o e => by
        rcases List.mem_cons.mp hb with rfl | hb
        · rw [hoI] at e; cases e
          exact (N₄ _ hI).1
        · obtain ⟨q, hq, rfl⟩ := List.mem_map.mp hb
          have h1 := (N₁ q (hJf _ _ _ hJ q hq)).1
          rw [h1] at e; cases e
          exact (N₄ q (hsub q (hJf _ _ _ hJ₃ q hq))).1
    cases f with
    | ret v => exact hQ _ _ h₃
    | brk => exact hQ _ _ h₃
    | next => exact fin h₃
    | cont => exact fin h₃
  · have hin : i = n := by omega
    subst hin
    refine W.done _ _ _ hst' fun h₁ tk₁ hk₁ => wpAny_execs_nil ?_
    exact hQ _ _ (done m' news' h₁ tk₁ hJ (nextF h₁ hk₁) (nextN h₁ hk₁))

theorem iterG_range {prog : Program} {w : World} {A : Around} {s : Shared} {env : Env} {tg : Expr} {body : List Stmt} {r : Addr} {a₀ b₀ c₀ : Int} {t₀ u₀ v₀ : Tok} {n : Nat} {m₀ : Str → Option Value} {news : List (Addr × Obj)} {Q : Flow → Shared → Prop} {E : Value → Shared → Prop}
    (J : Nat → (Str → Option Value) → List (Addr × Obj) → Prop)
    (hh : A.handled = none) (hr : IsRange s.heap r a₀ b₀ c₀ t₀ u₀ v₀) (hsmall : Builtin.Range.small a₀ b₀ c₀ = true) (hn : Builtin.Range.rangeSize a₀ b₀ c₀ = (n : Int))
    (F₀ : Fr g₀ env.locals s.heap m₀) (N₀ : News g₀ env.locals s.heap news) (hj : J 0 m₀ news)
    (hE : PassesOwn (model prog w) A env E)
    (turn : ∀ I i t m₁ news₁ h tk oI, NoTab oI → i < n → (∀ q ∈ news₁, @Ne Nat q.1 I) → J i m₁ news₁ →
      Fr g₀ env.locals h m₁ → News g₀ env.locals h ((I, oI) :: news₁) →
      wpAny (model prog w) A (assign tg env (.int (a₀ + (i : Nat) * c₀) t)) (fun _ s₂ => wpAny (model prog w) A (execs body env) (PostY g₀ env.locals (J (i + 1)) I oI Q s) E s₂) E { s with heap := h, toks := tk })
    (done : ∀ m₁ news₁ h tk, J n m₁ news₁ → Fr g₀ env.locals h m₁ → News g₀ env.locals h news₁ → Q .next { s with heap := h, toks := tk })
    (ht : ∀ I v, letOwnedTupleGo tg (.ref I) v = pure () := by intro _ _; rfl) :
    wpAny (model prog w) A (pyIter (.ref r)) (fun it s₂ => codeAny (model prog w) A (.forLoop tg it body [] env) (fun r s' => match r with | .ok f => Q f s' | .error e => cameBackBy (model prog w) A env E e s') s₂) E s := by
  refine wpAny_pyIter_range hr hsmall ?_
  have W : Walks prog w A s.heap.objs.size [s.heap.objs.size] [s.heap.objs.size] n (fun i v => i < n ∧ ∃ t, v = .int (a₀ + i * c₀) t)
      (fun i h => IsRangeIter h s.heap.objs.size (a₀ + (i : Nat) * c₀) ((n : Int) - (i : Nat)) c₀) := (Walks.range hh _ a₀ c₀ n).bound
  have gN : g₀.get? s.heap.objs.size = none := by
    cases q : g₀.get? s.heap.objs.size with
    | none => rfl
    | some o => exact absurd (Heap.lt_size (F₀.keep _ _ q)) (Nat.lt_irrefl _)
  refine loopG (s := { s with heap := s.heap.push _ }) (fpo := []) J Q E W (fun i h hi => ?_) (fun _ _ _ _ q hq => (nomatch hq)) (Nat.ne_of_lt F₀.ns.lt) gN (fun q hq => Nat.ne_of_lt (Heap.lt_size (N₀ q hq).1)) ?_ (F₀.push _) (fun q hq => ⟨Heap.get?_push_of_some _ (N₀ q hq).1, (N₀ q hq).2⟩) hj (fun e s' h => hE e s' h) (fun f s' h => h) ?_ ?_ (ht _)
  · exact ⟨_, hi, noTab_int rfl rfl⟩
  · show IsRangeIter _ _ _ _ _
    rw [hn]; simpa using Heap.get?_push_size _ rfl
  · rintro i v m₁ news₁ h tk oI hoT hi ⟨_, t, rfl⟩ ho hJ F N
    exact turn _ i t m₁ news₁ h tk oI hoT hi ho hJ F N
  · intro m₁ news₁ h tk hJ F N
    exact done m₁ news₁ h tk hJ F N

theorem iterG_list {prog : Program} {w : World} {A : Around} {s : Shared} {env : Env} {tg : Expr} {body : List Stmt} {r : Addr} {vs : List Value} {jv : Nat} {m₀ : Str → Option Value} {news : List (Addr × Obj)} {Q : Flow → Shared → Prop} {E : Value → Shared → Prop}
    (J : Nat → (Str → Option Value) → List (Addr × Obj) → Prop)
    (hh : A.handled = none) (hJf : ∀ i m nx, J i m nx → (r, listOf vs.toArray jv) ∈ nx)
    (F₀ : Fr g₀ env.locals s.heap m₀) (N₀ : News g₀ env.locals s.heap news) (hj : J 0 m₀ news)
    (hE : PassesOwn (model prog w) A env E)
    (turn : ∀ I i v m₁ news₁ h tk oI, NoTab oI → i < vs.length → vs[i]? = some v → (∀ q ∈ news₁, @Ne Nat q.1 I) → J i m₁ news₁ →
      Fr g₀ env.locals h m₁ → News g₀ env.locals h ((I, oI) :: news₁) →
      wpAny (model prog w) A (assign tg env v) (fun _ s₂ => wpAny (model prog w) A (execs body env) (PostY g₀ env.locals (J (i + 1)) I oI Q s) E s₂) E { s with heap := h, toks := tk })
    (done : ∀ m₁ news₁ h tk, J vs.length m₁ news₁ → Fr g₀ env.locals h m₁ → News g₀ env.locals h news₁ → Q .next { s with heap := h, toks := tk })
    (ht : ∀ I v, letOwnedTupleGo tg (.ref I) v = pure () := by intro _ _; rfl) :
    wpAny (model prog w) A (pyIter (.ref r)) (fun it s₂ => codeAny (model prog w) A (.forLoop tg it body [] env) (fun r s' => match r with | .ok f => Q f s' | .error e => cameBackBy (model prog w) A env E e s') s₂) E s := by
  have hmr := hJf _ _ _ hj
  have hl : s.heap.IsList r vs.toArray := ⟨_, (N₀ _ hmr).1, rfl, _, rfl⟩
  refine wpAny_pyIter_list hl ?_
  have hne : r ≠ s.heap.objs.size := Nat.ne_of_lt (Heap.lt_size (N₀ _ hmr).1)
  have W := Walks.list (prog := prog) (w := w) hh s.heap.objs.size r hne vs.toArray
  have gN : g₀.get? s.heap.objs.size = none := by
    cases q : g₀.get? s.heap.objs.size with
    | none => rfl
    | some o => exact absurd (Heap.lt_size (F₀.keep _ _ q)) (Nat.lt_irrefl _)
  refine loopG (s := { s with heap := s.heap.push _ }) (fpo := [(r, listOf vs.toArray jv)]) J Q E W (fun i h hi => ?_) (fun i m nx hJ q hq => by rw [List.mem_singleton.mp hq]; exact hJf i m nx hJ) (Nat.ne_of_lt F₀.ns.lt) gN (fun q hq => Nat.ne_of_lt (Heap.lt_size (N₀ q hq).1)) ?_ (F₀.push _) (fun q hq => ⟨Heap.get?_push_of_some _ (N₀ q hq).1, (N₀ q hq).2⟩) hj (fun e s' h => hE e s' h) (fun f s' h => h) ?_ ?_ (ht _)
  · obtain ⟨o, ho, _, hd⟩ := hi.1
    exact ⟨o, ho, noTab_int hd rfl⟩
  · exact ⟨⟨_, Heap.get?_push_size _ rfl, rfl, rfl⟩, hl.at fun o e => Heap.get?_push_of_some _ e⟩
  · rintro i v m₁ news₁ h tk oI hoT hi hv ho hJ F N
    exact turn _ i v m₁ news₁ h tk oI hoT (by simpa using hi) (by simpa using hv) ho hJ F N
  · intro m₁ news₁ h tk hJ F N
    exact done m₁ news₁ h tk (by simpa using hJ) F N
end
end Mine
end
section
open PySem PySem.W PyProof.Rows PySem.Calls PySem.Spec
set_option Elab.async false
namespace Mine
/-- the end of a comprehension's turn: what is kept, and that the word holds of the new ledger -/
def CEnd (h₀ : Heap) (L : Addr) (m : Str → Option Value) (s₁ : Shared) (I : Addr) (oI : Obj) (C : Addr) (oC : Obj) (D : Addr) (oD : Obj) (S : List (Addr × Obj) → Prop) (J : Value → List (Addr × Obj) → Prop) (y : Value) (s₂ : Shared) : Prop :=
  ∃ h' tk news' all, s₂ = { s₁ with heap := h', toks := tk } ∧ Fr h₀ L h' m ∧ News h₀ L h' all ∧ (∀ p ∈ (I, oI) :: (C, oC) :: (D, oD) :: news', p ∈ all) ∧ LCg.Off3 I C D news' ∧ S news' ∧ J y news'
theorem CEnd.intro {h₀ : Heap} {L I C D : Addr} {m : Str → Option Value} {s₁ : Shared} {oI oC oD : Obj} {S : List (Addr × Obj) → Prop} {J : Value → List (Addr × Obj) → Prop} {y : Value} {h' : Heap} {tk : Nat} {all news' : List (Addr × Obj)}
    (F : Fr h₀ L h' m) (N : News h₀ L h' all) (sub : ∀ p ∈ (I, oI) :: (C, oC) :: (D, oD) :: news', p ∈ all) (off : LCg.Off3 I C D news') (hS : S news') (j : J y news') :
    CEnd h₀ L m s₁ I oI C oC D oD S J y { s₁ with heap := h', toks := tk } := ⟨h', tk, news', all, rfl, F, N, sub, off, hS, j⟩
theorem CEnd.comp {h₀ : Heap} {L I C D : Addr} {m : Str → Option Value} {s₁ s₂ : Shared} {oI oC oD : Obj} {S : List (Addr × Obj) → Prop} {J J' : Value → List (Addr × Obj) → Prop} {y : Value}
    (h : CEnd h₀ L m s₁ I oI C oC D oD S J y s₂) (hj : ∀ nw, J y nw → J' y nw) : LCg.CompEnd h₀ L m s₁ I oI C oC D oD S J' y s₂ := by
  obtain ⟨h', tk, news', all, rfl, F, N, sub, off, hS, j⟩ := h
  exact ⟨h', tk, news', rfl, F, fun p hp => N p (sub p hp), off, hS, hj _ j⟩
section
variable {prog : Program} {w : World} {A : Around} {s : Shared} {h₀ : Heap} {L : Addr} {m : Str → Option Value} {env : Env} {ct elt : Expr} {x : Str} {scope : Scope} {cl : List (Str × Addr)} {S : List (Addr × Obj) → Prop} {P : Nat → Value → Prop} {Fin : List Value → List (Addr × Obj) → Prop} {n : Nat} {news : List (Addr × Obj)}
/-- a comprehension without a test, by a word over what it has made -/
theorem restU (J : Nat → List Value → List (Addr × Obj) → Prop) (h0 : J 0 [] news) (fin : ∀ ys nw, J n ys nw → Fin ys nw)
    (turn : ∀ i v ys nw I oI C oC D m₂ h tk (E' : Value → Shared → Prop), i < n → P i v → J i ys nw → LCg.NsObj oC m₂ → m₂ x = some v → Fr h₀ L h m → News h₀ L h ((I, oI) :: (C, oC) :: (D, LCg.lst ys) :: nw) → LCg.Off3 I C D nw → ((@Ne Nat I C) ∧ (@Ne Nat I D) ∧ (@Ne Nat C D)) →
      wpAny (model prog w) A (eval elt (compEnvC scope cl C env)) (CEnd h₀ L m { s with heap := h, toks := tk } I oI C oC D (LCg.lst ys) S (fun y nw' => J (i + 1) (ys ++ [y]) nw')) E' { s with heap := h, toks := tk }) :
    LCg.CompRest prog w A h₀ L m env elt x scope cl s S P Fin n 0 [] news := by
  have key : ∀ k i ys nw, i + k = n → J i ys nw → LCg.CompRest prog w A h₀ L m env elt x scope cl s S P Fin k i ys nw := by
    intro k
    induction k with
    | zero => intro i ys nw e hJ; rw [show i = n by omega] at hJ; exact fin ys nw hJ
    | succ k ih =>
      intro i ys nw e hJ
      refine LCg.CompRest.succ fun v I oI C oC D m₂ h tk E' hP hC hx F N off ne => ?_
      exact wpAny_mono (turn i v ys nw I oI C oC D m₂ h tk E' (by omega) hP hJ hC hx F N off ne) (fun y s₂ h₂ => h₂.comp fun nw' hj => ih (i + 1) _ nw' (by omega) hj) fun _ _ e => e
  exact key n 0 [] news (by omega) h0
/-- a comprehension with one test -/
theorem restT (J : Nat → List Value → List (Addr × Obj) → Prop) (h0 : J 0 [] news) (fin : ∀ ys nw, J n ys nw → Fin ys nw)
    (turn : ∀ i v ys nw I oI C oC D m₂ h tk (E' : Value → Shared → Prop), i < n → P i v → J i ys nw → LCg.NsObj oC m₂ → m₂ x = some v → Fr h₀ L h m → News h₀ L h ((I, oI) :: (C, oC) :: (D, LCg.lst ys) :: nw) → LCg.Off3 I C D nw → ((@Ne Nat I C) ∧ (@Ne Nat I D) ∧ (@Ne Nat C D)) →
      wpAny (model prog w) A (isTrue ct (compEnvC scope cl C env) (eval ct (compEnvC scope cl C env))) (fun ok s' => if ok = true then
        wpAny (model prog w) A (eval elt (compEnvC scope cl C env)) (CEnd h₀ L m { s with heap := h, toks := tk } I oI C oC D (LCg.lst ys) S (fun y nw' => J (i + 1) (ys ++ [y]) nw')) E' s'
        else CEnd h₀ L m { s with heap := h, toks := tk } I oI C oC D (LCg.lst ys) S (fun _ nw' => J (i + 1) ys nw') Value.none s') E' { s with heap := h, toks := tk }) :
    LCt.CompRestT prog w A h₀ L m env ct elt x scope cl s S P Fin n 0 [] news := by
  have key : ∀ k i ys nw, i + k = n → J i ys nw → LCt.CompRestT prog w A h₀ L m env ct elt x scope cl s S P Fin k i ys nw := by
    intro k
    induction k with
    | zero => intro i ys nw e hJ; rw [show i = n by omega] at hJ; exact fin ys nw hJ
    | succ k ih =>
      intro i ys nw e hJ
      refine LCt.CompRestT.succ fun v I oI C oC D m₂ h tk E' hP hC hx F N off ne => ?_
      refine wpAny_mono (turn i v ys nw I oI C oC D m₂ h tk E' (by omega) hP hJ hC hx F N off ne) (fun ok s₂ h₂ => ?_) fun _ _ e => e
      cases ok with
      | true =>
        simp only [if_true] at h₂ ⊢
        exact wpAny_mono h₂ (fun y s₃ h₃ => h₃.comp fun nw' hj => ih (i + 1) _ nw' (by omega) hj) fun _ _ e => e
      | false =>
        simp only [Bool.false_eq_true, if_false] at h₂ ⊢
        exact h₂.comp fun nw' hj => ih (i + 1) _ nw' (by omega) hj
  exact key n 0 [] news (by omega) h0
/-- the same, the ledger's rest unchanged -/
def CEnd1 (h₀ : Heap) (L : Addr) (m : Str → Option Value) (s₁ : Shared) (I : Addr) (oI : Obj) (C : Addr) (oC : Obj) (D : Addr) (oD : Obj) (news : List (Addr × Obj)) (J : Value → Prop) (y : Value) (s₂ : Shared) : Prop :=
  ∃ h' tk all, s₂ = { s₁ with heap := h', toks := tk } ∧ Fr h₀ L h' m ∧ News h₀ L h' all ∧ (∀ p ∈ (I, oI) :: (C, oC) :: (D, oD) :: news, p ∈ all) ∧ J y
theorem CEnd1.intro {h₀ : Heap} {L I C D : Addr} {m : Str → Option Value} {s₁ : Shared} {oI oC oD : Obj} {J : Value → Prop} {y : Value} {h' : Heap} {tk : Nat} {all news : List (Addr × Obj)}
    (F : Fr h₀ L h' m) (N : News h₀ L h' all) (sub : ∀ p ∈ (I, oI) :: (C, oC) :: (D, oD) :: news, p ∈ all) (j : J y) :
    CEnd1 h₀ L m s₁ I oI C oC D oD news J y { s₁ with heap := h', toks := tk } := ⟨h', tk, all, rfl, F, N, sub, j⟩
theorem CEnd1.to {h₀ : Heap} {L I C D : Addr} {m : Str → Option Value} {s₁ s₂ : Shared} {oI oC oD : Obj} {S : List (Addr × Obj) → Prop} {J : Value → Prop} {y : Value} {news : List (Addr × Obj)}
    (h : CEnd1 h₀ L m s₁ I oI C oC D oD news J y s₂) (off : LCg.Off3 I C D news) (hS : S news) : CEnd h₀ L m s₁ I oI C oC D oD S (fun y nw => nw = news ∧ J y) y s₂ := by
  obtain ⟨h', tk, all, rfl, F, N, sub, j⟩ := h
  exact ⟨h', tk, news, all, rfl, F, N, sub, off, hS, rfl, j⟩
theorem restU1 (J : Nat → List Value → Prop) (hS : S news) (h0 : J 0 []) (fin : ∀ ys, J n ys → Fin ys news)
    (turn : ∀ i v ys I oI C oC D m₂ h tk (E' : Value → Shared → Prop), i < n → P i v → J i ys → LCg.NsObj oC m₂ → m₂ x = some v → Fr h₀ L h m → News h₀ L h ((I, oI) :: (C, oC) :: (D, LCg.lst ys) :: news) → LCg.Off3 I C D news → ((@Ne Nat I C) ∧ (@Ne Nat I D) ∧ (@Ne Nat C D)) →
      wpAny (model prog w) A (eval elt (compEnvC scope cl C env)) (CEnd1 h₀ L m { s with heap := h, toks := tk } I oI C oC D (LCg.lst ys) news (fun y => J (i + 1) (ys ++ [y]))) E' { s with heap := h, toks := tk }) :
    LCg.CompRest prog w A h₀ L m env elt x scope cl s S P Fin n 0 [] news := by
  refine restU (fun i ys nw => nw = news ∧ J i ys) ⟨rfl, h0⟩ (fun ys nw ⟨e, hJ⟩ => e ▸ fin ys hJ) ?_
  rintro i v ys nw I oI C oC D m₂ h tk E' hi hP ⟨rfl, hJ⟩ hC hx F N off ne
  exact wpAny_mono (turn i v ys I oI C oC D m₂ h tk E' hi hP hJ hC hx F N off ne) (fun y s₂ h₂ => h₂.to off hS) fun _ _ e => e
theorem restT1 (J : Nat → List Value → Prop) (hS : S news) (h0 : J 0 []) (fin : ∀ ys, J n ys → Fin ys news)
    (turn : ∀ i v ys I oI C oC D m₂ h tk (E' : Value → Shared → Prop), i < n → P i v → J i ys → LCg.NsObj oC m₂ → m₂ x = some v → Fr h₀ L h m → News h₀ L h ((I, oI) :: (C, oC) :: (D, LCg.lst ys) :: news) → LCg.Off3 I C D news → ((@Ne Nat I C) ∧ (@Ne Nat I D) ∧ (@Ne Nat C D)) →
      wpAny (model prog w) A (isTrue ct (compEnvC scope cl C env) (eval ct (compEnvC scope cl C env))) (fun ok s' => if ok = true then
        wpAny (model prog w) A (eval elt (compEnvC scope cl C env)) (CEnd1 h₀ L m { s with heap := h, toks := tk } I oI C oC D (LCg.lst ys) news (fun y => J (i + 1) (ys ++ [y]))) E' s'
        else CEnd1 h₀ L m { s with heap := h, toks := tk } I oI C oC D (LCg.lst ys) news (fun _ => J (i + 1) ys) Value.none s') E' { s with heap := h, toks := tk }) :
    LCt.CompRestT prog w A h₀ L m env ct elt x scope cl s S P Fin n 0 [] news := by
  refine restT (fun i ys nw => nw = news ∧ J i ys) ⟨rfl, h0⟩ (fun ys nw ⟨e, hJ⟩ => e ▸ fin ys hJ) ?_
  rintro i v ys nw I oI C oC D m₂ h tk E' hi hP ⟨rfl, hJ⟩ hC hx F N off ne
  refine wpAny_mono (turn i v ys I oI C oC D m₂ h tk E' hi hP hJ hC hx F N off ne) (fun ok s₂ h₂ => ?_) fun _ _ e => e
  cases ok with
  | true =>
    simp only [if_true] at h₂ ⊢
    exact wpAny_mono h₂ (fun y s₃ h₃ => h₃.to off hS) fun _ _ e => e
  | false =>
    simp only [Bool.false_eq_true, if_false] at h₂ ⊢
    exact h₂.to off hS
end
theorem off1_of {D : Addr} : ∀ {R : List (Addr × Obj)}, LCg.Off1 D R → OwnOff R [D]
  | [], _ => fun _ h => nomatch h
  | q :: R, h => fun p hp a ha => by
    rcases List.mem_cons.mp hp with rfl | hp
    · rw [List.mem_singleton.mp ha]; exact h.1
    · exact off1_of h.2 p hp a ha
theorem ints_at {vs : List Value} {ks : List Int} (h : IntsAre vs ks) : ∀ {i : Nat} {v : Value}, vs.toArray[i]? = some v → ∃ k t, v = .int k t ∧ ks[i]? = some k ∧ ks.take (i + 1) = ks.take i ++ [k] := by
  induction h with
  | nil => intro i v hv; simp at hv
  | cons k t _ ih =>
    intro i v hv
    cases i with
    | zero => simp at hv; subst hv; exact ⟨k, t, rfl, rfl, by simp⟩
    | succ i =>
      obtain ⟨k', t', e1, e2, e3⟩ := ih (i := i) (v := v) (by simpa using hv)
      exact ⟨k', t', e1, by simpa using e2, by simp [e3]⟩
theorem bytes_at {vs : List Value} {ks : List (Array UInt8)} (h : BytesAre vs ks) : ∀ {i : Nat} {v : Value}, vs.toArray[i]? = some v → ∃ k t, v = .bytes k t ∧ ks[i]? = some k ∧ ks.take (i + 1) = ks.take i ++ [k] := by
  induction h with
  | nil => intro i v hv; simp at hv
  | cons k t _ ih =>
    intro i v hv
    cases i with
    | zero => simp at hv; subst hv; exact ⟨k, t, rfl, rfl, by simp⟩
    | succ i =>
      obtain ⟨k', t', e1, e2, e3⟩ := ih (i := i) (v := v) (by simpa using hv)
      exact ⟨k', t', e1, by simpa using e2, by simp [e3]⟩
theorem filt_yes {p : Int → Bool} {ks : List Int} {i : Nat} {k : Int} {ys : List Value} {t : Tok} (h : IntsAre ys ((ks.take i).filter p)) (e : ks.take (i + 1) = ks.take i ++ [k]) (hp : p k = true) : IntsAre (ys ++ [.int k t]) ((ks.take (i + 1)).filter p) := by
  rw [e, List.filter_append, List.filter_cons_of_pos hp, List.filter_nil]; exact ints_snoc h _ _
theorem filt_no {p : Int → Bool} {ks : List Int} {i : Nat} {k : Int} {ys : List Value} (h : IntsAre ys ((ks.take i).filter p)) (e : ks.take (i + 1) = ks.take i ++ [k]) (hp : p k = false) : IntsAre ys ((ks.take (i + 1)).filter p) := by
  rw [e, List.filter_append, List.filter_cons_of_neg (by simp [hp]), List.filter_nil, List.append_nil]; exact h
section
variable {prog : Program} {w : World} {A : Around} {E : Value → Shared → Prop} {s : Shared} {h₀ : Heap} {L D : Addr} {m : Str → Option Value} {news : List (Addr × Obj)} {upd : Obj → List (Addr × Obj)} {n : Nat} {x y v : Value} {t : Tok} {Q : Unit → Shared → Prop}
theorem set_two0 (F : Fr h₀ L s.heap m) (N : News h₀ L s.heap news) (U : UpdF D (listOf #[x, y] n) news upd)
    (h : ∀ h', Fr h₀ L h' m → News h₀ L h' (upd (listOf #[v, y] n)) → Q () { s with heap := h' }) : wpAny (model prog w) A (setItem (.ref D) (.int 0 t) v) Q E s := by
  obtain ⟨pre, post, rfl, hu, a, b⟩ := U.split
  have z := N (D, listOf #[x, y] n) (List.mem_append.mpr (.inr (.head _)))
  exact ki_setAt z.1 (by decide) (by decide) (by show (0 : Int) < ((2 : Nat) : Int); decide) (h _ (F.change (Heap.SameBut.update ..) z.2.1 z.2.2) (by rw [hu]; exact ki_turn _ N a b rfl rfl))
theorem set_two1 (F : Fr h₀ L s.heap m) (N : News h₀ L s.heap news) (U : UpdF D (listOf #[x, y] n) news upd)
    (h : ∀ h', Fr h₀ L h' m → News h₀ L h' (upd (listOf #[x, v] n)) → Q () { s with heap := h' }) : wpAny (model prog w) A (setItem (.ref D) (.int 1 t) v) Q E s := by
  obtain ⟨pre, post, rfl, hu, a, b⟩ := U.split
  have z := N (D, listOf #[x, y] n) (List.mem_append.mpr (.inr (.head _)))
  exact ki_setAt z.1 (by decide) (by decide) (by show (1 : Int) < ((2 : Nat) : Int); decide) (h _ (F.change (Heap.SameBut.update ..) z.2.1 z.2.2) (by rw [hu]; exact ki_turn _ N a b rfl rfl))
end
/-- the table's codes ahead, the rest behind -/
theorem mid_T {h₀ h : Heap} {L : Addr} {pre R' T R : List (Addr × Obj)} (N : News h₀ L h (pre ++ R')) (hR : R' = T ++ R) : News h₀ L h (T ++ (pre ++ R)) := news_sub N fun q hq => by
  subst hR
  simp only [List.mem_append] at hq ⊢
  rcases hq with h | h | h <;> simp [h]
theorem off_app {R R' : List (Addr × Obj)} {as : List Addr} (h : OwnOff R as) (h' : OwnOff R' as) : OwnOff (R ++ R') as := fun q hq => (List.mem_append.mp hq).elim (h q) (h' q)
theorem off_sub {R : List (Addr × Obj)} {as bs : List Addr} (h : OwnOff R as) (hs : ∀ b ∈ bs, b ∈ as) : OwnOff R bs := fun q hq b hb => h q hq b (hs b hb)
theorem news_tail {h₀ h : Heap} {L : Addr} {a : Addr × Obj} {l : List (Addr × Obj)} (N : News h₀ L h (a :: l)) : News h₀ L h l := fun p hp => N p (List.mem_cons_of_mem _ hp)
theorem mid_back {h₀ h : Heap} {L : Addr} {a b c : Addr × Obj} {pre R' T R : List (Addr × Obj)} (N : News h₀ L h (a :: b :: c :: (T ++ (pre ++ R)))) (hR : R' = T ++ R) : News h₀ L h (a :: b :: c :: (pre ++ R')) := news_sub N fun q hq => by
  subst hR
  simp only [List.mem_cons, List.mem_append] at hq ⊢
  rcases hq with h | h | h | h | h | h <;> simp [h]
def NoFld (o : Obj) : Prop := ∀ vs, o.data ≠ .fields vs
theorem noFld_seq {o : Obj} {vs : Array Value} {n : Nat} (h : o.data = .seq vs n) : NoFld o := fun _ e => by rw [h] at e; cases e
theorem noFld_cell {o : Obj} {v : Option Value} (h : o.data = .cell v) : NoFld o := fun _ e => by rw [h] at e; cases e
theorem noFld_dict {o : Obj} {es : Array DictEntry} {n : Nat} (h : o.data = .dict es n) : NoFld o := fun _ e => by rw [h] at e; cases e
theorem neP {h₀ h : Heap} {L a P : Addr} {X : List (Addr × Obj)} {o : Obj} {ps : Array Value} (N : News h₀ L h X) (hp : (P, tabObj ps) ∈ X) (hm : (a, o) ∈ X) (hd : NoFld o) : @Ne Nat a P := fun e => by
  have e1 := (N _ hp).1
  have e2 := (N _ hm).1
  dsimp only at e1 e2
  rw [e] at e2
  exact hd _ (by rw [Option.some.inj (e2.symm.trans e1)])
theorem tab_offK {h₀ h : Heap} {L a P : Addr} {X T : List (Addr × Obj)} {o : Obj} {i j : Value} {qual : Str} (N : News h₀ L h X) (hT : Tab P i j qual T) (hs : ∀ e ∈ T, e ∈ X) (hm : (a, o) ∈ X) (hn : NoFld o) : OwnOff T [a] := by
  obtain ⟨ps, hp⟩ := hT.mem
  exact tab_off N hT hs hm (fun vs q t e => absurd e (hn vs)) (neP N (hs _ hp) hm hn).symm
section
variable {prog : Program} {w : World} {A : Around} {E : Value → Shared → Prop} {s : Shared} {h₀ : Heap} {L D b : Addr} {m : Str → Option Value} {news : List (Addr × Obj)} {upd : Obj → List (Addr × Obj)} {n n2 : Nat} {vs ws : List Value} {Q : Value → Shared → Prop}
theorem extend_list (F : Fr h₀ L s.heap m) (N : News h₀ L s.heap news) (hb : (b, listOf ws.toArray n2) ∈ news) (U : UpdF D (listOf vs.toArray n) news upd) (hz : vs.length + ws.length ≤ 1000000)
    (h : ∀ h' n', Fr h₀ L h' m → News h₀ L h' (upd (listOf (vs ++ ws).toArray n')) → Q .none { s with heap := h' }) : wpAny (model prog w) A (call (.builtin "list.extend") [.ref D, .ref b]) Q E s := by
  obtain ⟨pre, post, rfl, hu, a, c⟩ := U.split
  have z := N (D, listOf vs.toArray n) (List.mem_append.mpr (.inr (.head _)))
  have hl : Builtin.List.listTooLong (vs.toArray.size + ws.toArray.size) = false := by
    unfold Builtin.List.listTooLong
    simp only [List.size_toArray]
    have := sizeLine_eq
    simp; omega
  refine call_meets PySem.F.slot_list_extend ⟨_, z.1, rfl⟩ PySem.F.entry_list_extend (PySem.F.args_list_extend_2 _ _) (PySem.AutoSeq1.list_extend_list_list_0 D vs.toArray n b ws.toArray n2 (by rw [hl]; simp) (by rw [sizeLine_eq, List.size_toArray]; omega) (by rw [sizeLine_eq, List.size_toArray, List.size_toArray]; omega)) ⟨z.1, (N _ hb).1, h _ _ (F.change (Heap.SameBut.update ..) z.2.1 z.2.2) (by rw [hu]; exact ki_turn _ N a c (by simp) rfl)⟩
end
end Mine
end
section
open PySem PySem.W PyProof.Rows PySem.Calls PySem.Spec PySem.Builtin
set_option Elab.async false
set_option maxRecDepth 100000
namespace Mine
def latin (b : Array UInt8) : Str := ⟨b.map UInt8.toNat⟩
def latP (b : Array UInt8) (p : Nat) : Array Nat := ((b.toList.take p).map UInt8.toNat).toArray
theorem latP_size (b : Array UInt8) (p : Nat) : (latP b p).size = min p b.size := by simp [latP]
theorem latP_next {b : Array UInt8} {p : Nat} (h : p < b.size) : latP b p ++ [(b.getD p 0).toNat].toArray = latP b (p + 1) := by
  unfold latP
  have h' : p < b.toList.length := by simpa using h
  rw [List.take_add_one, List.getElem?_eq_getElem h']
  simp [Array.getD, h]
theorem latP_all (b : Array UInt8) : latP b b.size = b.map UInt8.toNat := by
  unfold latP
  rw [List.take_of_length_le (by simp), ← Array.toList_map, Array.toArray_toList]
theorem lat_loop {σ : Type} (b : Array UInt8) (st : σ) (f : Nat → Nat × Array Nat × σ → Sem (ForInStep (Nat × Array Nat × σ)))
    (hf : ∀ x p, p < b.size → f x (p, latP b p, st) = pure (.yield (p + 1, latP b (p + 1), st))) :
    ∀ n i p, p + n = b.size → forIn (List.range' i n 1) (p, latP b p, st) f = pure (b.size, latP b b.size, st) := by
  intro n
  induction n with
  | zero => intro i p h; rw [show p = b.size by omega]; rfl
  | succ n ih =>
    intro i p h
    rw [List.range'_succ, List.forIn_cons, hf i p (by omega), pure_bind]
    exact ih (i + 1) (p + 1) (by omega)
theorem run_lat (id : String) (b : Array UInt8) (hb : b.size ≤ 1000000) : _codecs.runDecoder id _codecs.latin1Decoder none true b 0 [] = pure (b.map UInt8.toNat, b.size) := by
  unfold _codecs.runDecoder
  dsimp only
  rw [Std.Legacy.Range.forIn_eq_forIn_range']
  have hsz : ([:b.size] : Std.Legacy.Range).size = b.size := by simp [Std.Legacy.Range.size]
  rw [hsz]
  have h0 : (#[] : Array Nat) = latP b 0 := rfl
  rw [h0]
  rw [lat_loop b]
  · rw [pure_bind, latP_all]
  · intro x p hp
    dsimp only
    rw [if_neg (by rw [latP_size, sizeLine_eq]; omega), if_neg (by omega)]
    show pure (ForInStep.yield (p + 1, latP b p ++ [(b.getD p 0).toNat].toArray, _)) = _
    rw [latP_next hp]
  · omega
theorem road_lat {id : String} {b : Array UInt8} : _codecs.decodeRoad id b (PySem.Str.ofString "latin-1") none [] = (_codecs.runDecoder id _codecs.latin1Decoder none true b 0 [] >>= fun r => mkStr ⟨r.1⟩) := by kernel_rfl
theorem meets_lat_text {b : Array UInt8} {t t1 t2 : Tok} {d : PySem.Str} (hb : b.size ≤ 1000000) :
    Meets («_codecs.decode.text» ⟨[.bytes b t, .str (PySem.Str.ofString "latin-1") t1, .none, .str d t2], []⟩) (fun _ R s => R (.ok (.ret (.str (latin b) s.toks))) { s with toks := s.toks + 1 }) := by
  refine .of_wp fun prog w A R s h => ?_
  show wpAny _ _ (Bytes.bytesLike _ (.bytes b t) >>= fun r => _) _ _ s
  refine wpAny_bind (wpAny_of_eq KBd.like_eq ?_)
  refine wpAny_bind (wpAny_of_eq KBd.held_eq ?_)
  show wpAny _ _ (_codecs.decodeRoad _ b (PySem.Str.ofString "latin-1") none [] >>= fun v => _) _ _ s
  rw [road_lat, run_lat _ _ hb]
  refine wpAny_bind (wpAny_bind (wpAny_pure ?_))
  exact wpAny_mkStr (x := latin b) (wpAny_pure ⟨_, rfl, h⟩) (by show (b.map UInt8.toNat).size ≤ _; rw [Array.size_map, sizeLine_eq]; omega)
theorem entry_lat {c : UInt8} {cs : List UInt8} {t u : Tok} : «bytes.decode» ⟨[.bytes (c :: cs).toArray t, .str (PySem.Str.ofString "latin-1") u], []⟩ = (mkStr (PySem.Str.ofString "utf-8") >>= fun _ => mkStr (PySem.Str.ofString "latin-1") >>= fun e => mkStr (PySem.Str.ofString "bytes.decode") >>= fun d =>
    call (.builtin "_codecs.decode.text") [.bytes (c :: cs).toArray t, e, .none, d] >>= fun v => ret v) := by kernel_rfl
theorem entry_lat0 {t u : Tok} : «bytes.decode» ⟨[.bytes #[] t, .str (PySem.Str.ofString "latin-1") u], []⟩ = (rule "bytes.decode.empty" >>= fun _ => mkStr Str.empty >>= fun v => ret v) := by kernel_rfl
theorem meets_lat {b : Array UInt8} {t u : Tok} (hb : b.size ≤ 1000000) :
    Meets («bytes.decode» ⟨[.bytes b t, .str (PySem.Str.ofString "latin-1") u], []⟩) (fun _ R s => ∀ t' k, R (.ok (.ret (.str (latin b) t'))) { s with toks := k }) := by
  refine .of_wp fun prog w A R s h => ?_
  obtain ⟨l⟩ := b
  cases l with
  | nil =>
    rw [entry_lat0]
    refine wpAny_bind (wpAny_rule ?_)
    refine wpAny_bind (wpAny_mkStr ?_ (by decide))
    have e : latin #[] = Str.empty := by unfold latin; rw [Array.map_empty]; rfl
    rw [e] at h
    exact wpAny_pure ⟨_, rfl, h _ _⟩
  | cons c cs =>
    rw [entry_lat]
    refine wpAny_bind (wpAny_mkStr ?_ (by decide))
    refine wpAny_bind (wpAny_mkStr ?_ (by decide))
    refine wpAny_bind (wpAny_mkStr ?_ (by decide))
    exact wpAny_bind (call_function_meets KBd.kind_text KBd.plain_text KBd.entry_text (KBd.args_text _ _ _ _) (meets_lat_text hb) (wpAny_pure ⟨_, rfl, h _ _⟩))
theorem args_bytes_decode_2 (a b : Value) : argsOk "bytes.decode" ⟨[a, b], []⟩ := by
  unfold argsOk; rw [signature?_of (id := "bytes.decode") (n := ['e', 'd', 'o', 'c', 'e', 'd']) (o := ['s', 'e', 't', 'y', 'b']) (by kernel_rfl) FB.owner_bytes]; kernel_rfl
theorem decode_lat {prog : Program} {w : World} {A : Around} {E : Value → Shared → Prop} {s : Shared} {b : Array UInt8} {t u : Tok} {Q : Value → Shared → Prop} (hb : b.size ≤ 1000000) (h : ∀ t' k, Q (.str (latin b) t') { s with toks := k }) :
    wpAny (model prog w) A (call (.builtin "bytes.decode") [.bytes b t, .str (PySem.Str.ofString "latin-1") u]) Q E s :=
  call_meets FB.slot_bytes_decode (typeIs_bytes _ _ _) FB.entry_bytes_decode (args_bytes_decode_2 _ _) (meets_lat hb) h
end Mine
end
section
open PySem PySem.W PyProof.Rows PySem.Calls PySem.Spec
set_option Elab.async false
namespace Mine
/-- items: texts (true) or bytes (false) of octets -/
inductive ItsAre : List Value → List (Bool × Array UInt8) → Prop where
  | nil : ItsAre [] []
  | str (b : Array UInt8) (t : Tok) {vs bs} : ItsAre vs bs → ItsAre (.str (latin b) t :: vs) ((true, b) :: bs)
  | byt (b : Array UInt8) (t : Tok) {vs bs} : ItsAre vs bs → ItsAre (.bytes b t :: vs) ((false, b) :: bs)
theorem ItsAre.length {vs : List Value} {bs : List (Bool × Array UInt8)} (x : ItsAre vs bs) : vs.length = bs.length := by
  induction x with
  | nil => rfl
  | str _ _ _ ih => simp [ih]
  | byt _ _ _ ih => simp [ih]
theorem ItsAre.append {vs ws : List Value} {bs cs : List (Bool × Array UInt8)} (x : ItsAre vs bs) (y : ItsAre ws cs) : ItsAre (vs ++ ws) (bs ++ cs) := by
  induction x with
  | nil => exact y
  | str b t _ ih => exact .str b t ih
  | byt b t _ ih => exact .byt b t ih
theorem ItsAre.strs {vs : List Value} {bs : List (Bool × Array UInt8)} (x : ItsAre vs bs) (b : Array UInt8) (t : Tok) : ItsAre (vs ++ [.str (latin b) t]) (bs ++ [(true, b)]) := x.append (.str b t .nil)
theorem ItsAre.byts {vs : List Value} {bs : List (Bool × Array UInt8)} (x : ItsAre vs bs) (b : Array UInt8) (t : Tok) : ItsAre (vs ++ [.bytes b t]) (bs ++ [(false, b)]) := x.append (.byt b t .nil)
theorem SameL.its {h : Heap} {n : Nat} {vs ws : List Value} {ns : List (Bool × Array UInt8)} (a : ItsAre vs ns) (b : ItsAre ws ns) : SameL h n vs ws := by
  induction a generalizing ws with
  | nil => cases b; exact .nil
  | str k t _ ih => cases b with | str _ u r => exact .cons (.str _ t u) (ih r)
  | byt k t _ ih => cases b with | byt _ u r => exact .cons (.bytes _ t u) (ih r)
theorem ints_get {vs : List Value} {ks : List Int} (h : IntsAre vs ks) : ∀ {i : Nat}, i < vs.length → ∃ t, vs[i]? = some (.int (ks.getD i 0) t) := by
  induction h with
  | nil => intro i hi; simp at hi
  | cons k t _ ih =>
    intro i hi
    cases i with
    | zero => exact ⟨t, by simp⟩
    | succ i => obtain ⟨t', e⟩ := ih (i := i) (by simpa using hi); exact ⟨t', by simpa using e⟩
section
variable {prog : Program} {w : World} {A : Around} {E : Value → Shared → Prop} {s : Shared} {h₀ : Heap} {L : Addr} {news : List (Addr × Obj)} {D : Addr} {vs : List Value} {ks : List Int} {n : Nat} {k : Int} {u : Tok} {value slice : Expr} {Q : Value → Shared → Prop}
theorem item_at (N : News h₀ L s.heap news) (hm : (D, listOf vs.toArray n) ∈ news) (hi : IntsAre vs ks) (h0 : 0 ≤ k) (h1 : k < vs.length) (h2 : vs.length ≤ 1000000)
    (h : ∀ t, Q (.int (ks.getD k.toNat 0) t) s)
    (hs : subscripted slice false (.ref D) (.int k u) = operate [.ref D, .int k u] (getItem (.ref D) (.int k u)) := by with_unfolding_all rfl) :
    wpAny (model prog w) A (subscriptTail value slice (.ref D) (.int k u)) Q E s := by
  obtain ⟨t, e⟩ := ints_get hi (i := k.toNat) (by omega)
  exact tail_any (isList_at N hm).typeIs slot_list_getitem.lookup (wpAny_getItem_list (isList_at N hm) h0 (by omega) (by simpa using e) (h t)) hs
end
end Mine
namespace Mine
open PySem PySem.W PyProof.Rows PySem.Calls PySem.Spec
theorem ints_last {vs : List Value} {pre : List Int} {x : Int} (h : IntsAre vs (pre ++ [x])) : ∃ ws t, vs = ws ++ [.int x t] ∧ IntsAre ws pre := by
  induction pre generalizing vs with
  | nil => cases h with | cons _ t r => cases r; exact ⟨[], t, rfl, .nil⟩
  | cons a pre ih =>
    cases h with
    | cons _ t r =>
      obtain ⟨ws, t', e, hi⟩ := ih r
      exact ⟨.int a t :: ws, t', by rw [e]; rfl, .cons _ _ hi⟩
theorem last_at {prog : Program} {w : World} {A : Around} {E : Value → Shared → Prop} {s : Shared} {h₀ : Heap} {L : Addr} {news : List (Addr × Obj)} {D : Addr} {vs : List Value} {x : Value} {n : Nat} {u : Tok} {value slice : Expr} {Q : Value → Shared → Prop}
    (N : News h₀ L s.heap news) (hm : (D, listOf (vs ++ [x]).toArray n) ∈ news) (h : Q x s)
    (hs : subscripted slice false (.ref D) (.int (-1) u) = operate [.ref D, .int (-1) u] (getItem (.ref D) (.int (-1) u)) := by with_unfolding_all rfl) :
    wpAny (model prog w) A (subscriptTail value slice (.ref D) (.int (-1) u)) Q E s := by
  have e : ((-1 : Int) + ((vs ++ [x]).toArray.size : Int)).toNat = vs.length := by simp; omega
  exact tail_any (isList_at N hm).typeIs slot_list_getitem.lookup (wpAny_getItem_list_neg (isList_at N hm) (by decide) (by simp; omega) (by decide) (by rw [e]; simp) h) hs
end Mine
end
section
open PySem PySem.W PyProof.Rows PySem.Calls PySem.Spec
set_option Elab.async false
namespace Mine
def NoFldL (l : List (Addr × Obj)) : Prop := ∀ e ∈ l, NoFld e.2
theorem noFldL_nil : NoFldL [] := fun _ h => nomatch h
theorem noFldL_cons {a : Addr} {o : Obj} {l : List (Addr × Obj)} (h : NoFld o) (hs : NoFldL l) : NoFldL ((a, o) :: l) := fun e he => by
  rcases List.mem_cons.mp he with rfl | he
  · exact h
  · exact hs e he
theorem offP {h₀ h : Heap} {L P : Addr} {pre R' T R : List (Addr × Obj)} {ps : Array Value} (N : News h₀ L h (pre ++ R')) (hR : R' = T ++ R) (hp : (P, tabObj ps) ∈ T) (hn : NoFldL pre) (hr : OwnOff R [P]) : OwnOff (pre ++ R) [P] := fun q hq c hc => by
  rcases List.mem_append.mp hq with hq | hq
  · rw [List.mem_singleton.mp hc]; exact neP (ps := ps) N (by rw [hR]; exact List.mem_append_right _ (List.mem_append_left _ hp)) (List.mem_append_left _ hq) (hn q hq)
  · exact hr q hq c hc
theorem offR {h₀ h : Heap} {L P : Addr} {X R : List (Addr × Obj)} {ps : Array Value} (N : News h₀ L h X) (hp : (P, tabObj ps) ∈ X) (hs : ∀ e ∈ R, e ∈ X) (hn : NoFldL R) : OwnOff R [P] := fun q hq c hc => by
  rw [List.mem_singleton.mp hc]; exact neP (ps := ps) N hp (hs q hq) (hn q hq)
end Mine
end
section
open PySem PySem.W PyProof.Rows PySem.Calls PySem.Spec
set_option Elab.async false
namespace Mine
section
variable {g₀ : Heap}
/-- the same, over a source that stands in the ground -/
theorem loopH {prog : Program} {w : World} {A : Around} {s : Shared} {env : Env} {R : Result → Shared → Prop} {tg : Expr} {body : List Stmt} {I : Addr} {n : Nat} {P : Nat → Value → Prop} {St : Nat → Heap → Prop} {m₀ : Str → Option Value} {news fpo : List (Addr × Obj)}
    (J : Nat → (Str → Option Value) → List (Addr × Obj) → Prop) (Q : Flow → Shared → Prop) (E : Value → Shared → Prop)
    (W : Walks prog w A I (I :: fpo.map (·.1)) [I] n P St) (hIo : ∀ i h, St i h → ∃ o, h.get? I = some o ∧ NoTab o)
    (hJf : ∀ q ∈ fpo, g₀.get? q.1 = some q.2)
    (hLI : env.locals ≠ I) (hgI : g₀.get? I = none) (hnI : ∀ q ∈ news, @Ne Nat q.1 I)
    (hst : St 0 s.heap) (F₀ : Fr g₀ env.locals s.heap m₀) (N₀ : News g₀ env.locals s.heap news) (hj : J 0 m₀ news)
    (hE : ∀ e s', E e s' → notedBy (model prog w) A env (fun e s' => R (.error e) s') e s')
    (hQ : ∀ f s', Q f s' → R (.ok f) s')
    (turn : ∀ i v m₁ news₁ h tk oI, NoTab oI → i < n → P i v → (∀ q ∈ news₁, @Ne Nat q.1 I) → J i m₁ news₁ →
      Fr g₀ env.locals h m₁ → News g₀ env.locals h ((I, oI) :: news₁) →
      wpAny (model prog w) A (assign tg env v) (fun _ s₂ => wpAny (model prog w) A (execs body env) (PostY g₀ env.locals (J (i + 1)) I oI Q s) E s₂) E { s with heap := h, toks := tk })
    (done : ∀ m₁ news₁ h tk, J n m₁ news₁ → Fr g₀ env.locals h m₁ → News g₀ env.locals h news₁ → Q .next { s with heap := h, toks := tk })
    (ht : ∀ v, letOwnedTupleGo tg (.ref I) v = pure () := by intro _; rfl) :
    codeAny (model prog w) A (.forLoop tg (.ref I) body [] env) R s := by
  refine codeAny_forLoop
    (fun k s' => ∃ h' tk m' news' i, s' = { s with heap := h', toks := tk } ∧ St i h' ∧ Fr g₀ env.locals h' m' ∧ News g₀ env.locals h' news' ∧ (∀ q ∈ news', @Ne Nat q.1 I) ∧ J i m' news' ∧ i ≤ n ∧ k = n + 1 - i) ?_ (n + 1)
    ⟨s.heap, s.toks, m₀, news, 0, rfl, hst, F₀, N₀, hnI, hj, Nat.zero_le _, rfl⟩ ht
  rintro k s' ⟨h', tk, m', news', i, rfl, hst', F', N', nI, hJ, hi, rfl⟩
  have nextF : ∀ h₁ : Heap, (∀ b o, b ∉ [I] → h'.get? b = some o → h₁.get? b = some o) → Fr g₀ env.locals h₁ m' := fun h₁ hk₁ =>
    ⟨F'.ns.at' fun o e => hk₁ _ o (by simpa using hLI) e, fun b o e => hk₁ b o (fun hb => by rw [List.mem_singleton.mp hb, hgI] at e; cases e) (F'.keep b o e), F'.above⟩
  have nextN : ∀ h₁ : Heap, (∀ b o, b ∉ [I] → h'.get? b = some o → h₁.get? b = some o) → News g₀ env.locals h₁ news' := fun h₁ hk₁ =>
    fun q hq => ⟨hk₁ _ _ (by simpa using nI q hq) (N' q hq).1, (N' q hq).2⟩
  by_cases hlt : i < n
  · refine W.item i _ _ _ hlt hst' fun v h₁ tk₁ hP hst₁ hk₁ => ?_
    have F₁ := nextF h₁ hk₁
    have N₁ := nextN h₁ hk₁
    obtain ⟨oI, hoI, hoT⟩ := hIo _ _ hst₁
    have N₃ : News g₀ env.locals h₁ ((I, oI) :: news') := fun q hq => by
      rcases List.mem_cons.mp hq with rfl | hq
      · exact ⟨hoI, hLI.symm, hgI⟩
      · exact N₁ q hq
    refine wpAny_mono (turn i v m' news' h₁ _ oI hoT hlt hP nI hJ F₁ N₃) (fun _ s₂ h₂ => wpAny_mono h₂ (fun f s₃ h₃ => ?_) fun e s' h' => hE e s' h') fun e s' h' => hE e s' h'
    have fin : EndY g₀ env.locals (J (i + 1)) I oI s s₃ → ∃ m, m < n + 1 - i ∧ ∃ h' tk m' news' i', s₃ = { s with heap := h', toks := tk } ∧ St i' h' ∧ Fr g₀ env.locals h' m' ∧ News g₀ env.locals h' news' ∧ (∀ q ∈ news', @Ne Nat q.1 I) ∧ J i' m' news' ∧ i' ≤ n ∧ m = n + 1 - i' := by
      rintro ⟨h₃', tk₃, m₃, news₃, nx, rfl, F₃, N₄, hsub, hI, hne, hJ₃⟩
      refine ⟨n + 1 - (i + 1), by omega, h₃', tk₃, m₃, nx, i + 1, rfl, ?_, F₃, fun q hq => N₄ q (hsub q hq), hne, hJ₃, hlt, rfl⟩
      exact W.frame _ _ _ hst₁ fun b hb o e => by
        rcases List.mem_cons.mp hb with rfl | hb
        · rw [hoI] at e; cases e
          exact (N₄ _ hI).1
        · obtain ⟨q, hq, rfl⟩ := List.mem_map.mp hb
          have h1 := F₁.keep _ _ (hJf q hq)
          rw [h1] at e; cases e
          exact F₃.keep _ _ (hJf q hq)
    cases f with
    | ret v => exact hQ _ _ h₃
    | brk => exact hQ _ _ h₃
    | next => exact fin h₃
    | cont => exact fin h₃
  · have hin : i = n := by omega
    subst hin
    refine W.done _ _ _ hst' fun h₁ tk₁ hk₁ => wpAny_execs_nil ?_
    exact hQ _ _ (done m' news' h₁ tk₁ hJ (nextF h₁ hk₁) (nextN h₁ hk₁))

theorem iterG_base {prog : Program} {w : World} {A : Around} {s : Shared} {env : Env} {tg : Expr} {body : List Stmt} {r : Addr} {vs : List Value} {m₀ : Str → Option Value} {news : List (Addr × Obj)} {Q : Flow → Shared → Prop} {E : Value → Shared → Prop}
    (J : Nat → (Str → Option Value) → List (Addr × Obj) → Prop)
    (hh : A.handled = none) (hr : g₀.IsList r vs.toArray)
    (F₀ : Fr g₀ env.locals s.heap m₀) (N₀ : News g₀ env.locals s.heap news) (hj : J 0 m₀ news)
    (hE : PassesOwn (model prog w) A env E)
    (turn : ∀ I i v m₁ news₁ h tk oI, NoTab oI → i < vs.length → vs[i]? = some v → (∀ q ∈ news₁, @Ne Nat q.1 I) → J i m₁ news₁ →
      Fr g₀ env.locals h m₁ → News g₀ env.locals h ((I, oI) :: news₁) →
      wpAny (model prog w) A (assign tg env v) (fun _ s₂ => wpAny (model prog w) A (execs body env) (PostY g₀ env.locals (J (i + 1)) I oI Q s) E s₂) E { s with heap := h, toks := tk })
    (done : ∀ m₁ news₁ h tk, J vs.length m₁ news₁ → Fr g₀ env.locals h m₁ → News g₀ env.locals h news₁ → Q .next { s with heap := h, toks := tk })
    (ht : ∀ I v, letOwnedTupleGo tg (.ref I) v = pure () := by intro _ _; rfl) :
    wpAny (model prog w) A (pyIter (.ref r)) (fun it s₂ => codeAny (model prog w) A (.forLoop tg it body [] env) (fun r s' => match r with | .ok f => Q f s' | .error e => cameBackBy (model prog w) A env E e s') s₂) E s := by
  obtain ⟨orr, hor, hoc, jn, hod⟩ := hr
  have hl : s.heap.IsList r vs.toArray := ⟨_, F₀.keep _ _ hor, hoc, jn, hod⟩
  refine wpAny_pyIter_list hl ?_
  have hne : r ≠ s.heap.objs.size := Nat.ne_of_lt (Heap.lt_size (F₀.keep _ _ hor))
  have W := Walks.list (prog := prog) (w := w) hh s.heap.objs.size r hne vs.toArray
  have gN : g₀.get? s.heap.objs.size = none := by
    cases q : g₀.get? s.heap.objs.size with
    | none => rfl
    | some o => exact absurd (Heap.lt_size (F₀.keep _ _ q)) (Nat.lt_irrefl _)
  refine loopH (s := { s with heap := s.heap.push _ }) (fpo := [(r, orr)]) J Q E W (fun i h hi => ?_) (fun q hq => by rw [List.mem_singleton.mp hq]; exact hor) (Nat.ne_of_lt F₀.ns.lt) gN (fun q hq => Nat.ne_of_lt (Heap.lt_size (N₀ q hq).1)) ?_ (F₀.push _) (fun q hq => ⟨Heap.get?_push_of_some _ (N₀ q hq).1, (N₀ q hq).2⟩) hj (fun e s' h => hE e s' h) (fun f s' h => h) ?_ ?_ (ht _)
  · obtain ⟨o, ho, _, hd⟩ := hi.1
    exact ⟨o, ho, noTab_int hd rfl⟩
  · exact ⟨⟨_, Heap.get?_push_size _ rfl, rfl, rfl⟩, hl.at fun o e => Heap.get?_push_of_some _ e⟩
  · rintro i v m₁ news₁ h tk oI hoT hi hv ho hJ F N
    exact turn _ i v m₁ news₁ h tk oI hoT (by simpa using hi) (by simpa using hv) ho hJ F N
  · intro m₁ news₁ h tk hJ F N
    exact done m₁ news₁ h tk (by simpa using hJ) F N
end
end Mine
end
section
open PySem PySem.W PyProof.Rows PySem.Calls PySem.Spec
set_option Elab.async false
namespace Mine
theorem pick_upto (vs : List Value) {y : Int} (h : 0 ≤ y) : slicePick vs.toArray none (some y) none = (vs.take y.toNat).toArray := by
  have e : sliceBounds none (some y) none vs.toArray.size = (((0 : Nat) : Int), ((min y.toNat vs.toArray.size : Nat) : Int), 1) := by
    simp only [sliceBounds, Option.getD_none, show (1 : Int) > 0 by decide, if_true, if_neg (show ¬ (y < 0) by omega)]
    congr 1
    congr 1
    omega
  rw [kmk_pick_nat _ e]
  show ((vs.drop 0).take (min y.toNat vs.toArray.size - 0)).toArray = _
  rw [List.drop_zero, Nat.sub_zero, List.size_toArray, kmk_take_min]
theorem slice_upto_any {prog : Program} {w : World} {A : Around} {E : Value → Shared → Prop} {s : Shared} {h₀ : Heap} {L l : Addr} {m : Str → Option Value} {news : List (Addr × Obj)} {value slice : PySem.Expr} {vs : List Value} {j : Nat} {y : Int} {ty : Tok} {Q : Value → Shared → Prop}
    (F : Fr h₀ L s.heap m) (N : News h₀ L s.heap news) (hm : (l, listOf vs.toArray j) ∈ news) (h0 : 0 ≤ y) (hz : vs.length ≤ 1000000)
    (h : ∀ D h', Fr h₀ L h' m → News h₀ L h' ((D, listOf (vs.take y.toNat).toArray 0) :: news) → (∀ p ∈ news, p.1 < D) → Q (.ref D) { s with heap := h' })
    (hs : subscripted slice false (.ref l) (.ref s.heap.objs.size) = operate [.ref s.heap.objs.size, .ref l] (getItem (.ref l) (.ref s.heap.objs.size))) (ht : ∀ r, letTemporaryGo value (.ref l) r = pure ()) :
    wpAny (model prog w) A (subscriptTail value slice (.ref l) (.ref s.heap.objs.size)) Q E { s with heap := s.heap.push { cls := .type "slice", data := .fields #[.none, .int y ty, .none] } } := by
  refine kmk_slice F N (isList_at N hm) .none (.int y ty) (fun D h' F' N' l1 => h D h' F' ?_ l1) hs ht (by rw [List.size_toArray, sizeLine_eq]; omega)
  rw [pick_upto vs h0] at N'
  exact N'
theorem bytes_take {vs : List Value} {bs : List (Array UInt8)} (h : BytesAre vs bs) : ∀ k, BytesAre (vs.take k) (bs.take k) := by
  induction h with
  | nil => intro k; simp; exact .nil
  | cons b t _ ih =>
    intro k
    cases k with
    | zero => exact .nil
    | succ k => exact .cons b t (ih k)
end Mine
end
section
open PySem PySem.W PyProof.Rows PySem.Calls PySem.Spec
set_option Elab.async false
namespace Mine
section
variable {g₀ : Heap}
/-- a for of a tuple's target over any source; the ledger may grow and shrink; fpo: what the source leans on -/
theorem loopT {prog : Program} {w : World} {A : Around} {s : Shared} {env : Env} {R : Result → Shared → Prop} {tg : Expr} {body : List Stmt} {I : Addr} {n : Nat} {P : Nat → Value → Prop} {St : Nat → Heap → Prop} {m₀ : Str → Option Value} {news fpo : List (Addr × Obj)}
    (J : Nat → (Str → Option Value) → List (Addr × Obj) → Prop) (Q : Flow → Shared → Prop) (E : Value → Shared → Prop)
    (W : Walks prog w A I (I :: fpo.map (·.1)) [I] n P St) (hIo : ∀ i h, St i h → ∃ o, h.get? I = some o ∧ NoTab o)
    (hJf : ∀ i m nx, J i m nx → ∀ q ∈ fpo, q ∈ nx)
    (hLI : env.locals ≠ I) (hgI : g₀.get? I = none) (hnI : ∀ q ∈ news, @Ne Nat q.1 I)
    (hst : St 0 s.heap) (F₀ : Fr g₀ env.locals s.heap m₀) (N₀ : News g₀ env.locals s.heap news) (hj : J 0 m₀ news)
    (hE : ∀ e s', E e s' → notedBy (model prog w) A env (fun e s' => R (.error e) s') e s')
    (hQ : ∀ f s', Q f s' → R (.ok f) s')
    (turn : ∀ i v m₁ news₁ h tk oI, NoTab oI → i < n → P i v → (∀ q ∈ news₁, @Ne Nat q.1 I) → J i m₁ news₁ →
      Fr g₀ env.locals h m₁ → News g₀ env.locals h ((I, oI) :: news₁) →
      wpAny (model prog w) A (assign tg env v) (fun _ s₂ => wpAny (model prog w) A (execs body env) (PostY g₀ env.locals (J (i + 1)) I oI Q s) E s₂) E { s with heap := h, toks := tk })
    (done : ∀ m₁ news₁ h tk, J n m₁ news₁ → Fr g₀ env.locals h m₁ → News g₀ env.locals h news₁ → Q .next { s with heap := h, toks := tk })
    (hgo : ∀ i (s' : Shared) v (Q' : Unit → Shared → Prop), St i s'.heap → Q' () s' → wpAny (model prog w) A (letOwnedTupleGo tg (.ref I) v) Q' (notedBy (model prog w) A env fun e s' => R (.error e) s') s') :
    codeAny (model prog w) A (.forLoop tg (.ref I) body [] env) R s := by
  refine codeAny_forLoop_any
    (fun k s' => ∃ h' tk m' news' i, s' = { s with heap := h', toks := tk } ∧ St i h' ∧ Fr g₀ env.locals h' m' ∧ News g₀ env.locals h' news' ∧ (∀ q ∈ news', @Ne Nat q.1 I) ∧ J i m' news' ∧ i ≤ n ∧ k = n + 1 - i) ?_ (n + 1)
    ⟨s.heap, s.toks, m₀, news, 0, rfl, hst, F₀, N₀, hnI, hj, Nat.zero_le _, rfl⟩
  rintro k s' ⟨h', tk, m', news', i, rfl, hst', F', N', nI, hJ, hi, rfl⟩
  have nextF : ∀ h₁ : Heap, (∀ b o, b ∉ [I] → h'.get? b = some o → h₁.get? b = some o) → Fr g₀ env.locals h₁ m' := fun h₁ hk₁ =>
    ⟨F'.ns.at' fun o e => hk₁ _ o (by simpa using hLI) e, fun b o e => hk₁ b o (fun hb => by rw [List.mem_singleton.mp hb, hgI] at e; cases e) (F'.keep b o e), F'.above⟩
  have nextN : ∀ h₁ : Heap, (∀ b o, b ∉ [I] → h'.get? b = some o → h₁.get? b = some o) → News g₀ env.locals h₁ news' := fun h₁ hk₁ =>
    fun q hq => ⟨hk₁ _ _ (by simpa using nI q hq) (N' q hq).1, (N' q hq).2⟩
  by_cases hlt : i < n
  · refine W.item i _ _ _ hlt hst' fun v h₁ tk₁ hP hst₁ hk₁ => ?_
    have F₁ := nextF h₁ hk₁
    have N₁ := nextN h₁ hk₁
    obtain ⟨oI, hoI, hoT⟩ := hIo _ _ hst₁
    have N₃ : News g₀ env.locals h₁ ((I, oI) :: news') := fun q hq => by
      rcases List.mem_cons.mp hq with rfl | hq
      · exact ⟨hoI, hLI.symm, hgI⟩
      · exact N₁ q hq
    refine hgo (i + 1) _ v _ hst₁ ?_
    refine wpAny_mono (turn i v m' news' h₁ _ oI hoT hlt hP nI hJ F₁ N₃) (fun _ s₂ h₂ => wpAny_mono h₂ (fun f s₃ h₃ => ?_) fun e s' h' => hE e s' h') fun e s' h' => hE e s' h'
    have fin : EndY g₀ env.locals (J (i + 1)) I oI s s₃ → ∃ m, m < n + 1 - i ∧ ∃ h' tk m' news' i', s₃ = { s with heap := h', toks := tk } ∧ St i' h' ∧ Fr g₀ env.locals h' m' ∧ News g₀ env.locals h' news' ∧ (∀ q ∈ news', @Ne Nat q.1 I) ∧ J i' m' news' ∧ i' ≤ n ∧ m = n + 1 - i' := by
      rintro ⟨h₃', tk₃, m₃, news₃, nx, rfl, F₃, N₄, hsub, hI, hne, hJ₃⟩
      refine ⟨n + 1 - (i + 1), by omega, h₃', tk₃, m₃, nx, i + 1, rfl, ?_, F₃, fun q hq => N₄ q (hsub q hq), hne, hJ₃, hlt, rfl⟩
      exact W.frame _ _ _ hst₁ fun b hb o e => by
        rcases List.mem_cons.mp hb with rfl | hb
        · rw [hoI] at e; cases e
          exact (N₄ _ hI).1
        · obtain ⟨q, hq, rfl⟩ := List.mem_map.mp hb
          have h1 := (N₁ q (hJf _ _ _ hJ q hq)).1
          rw [h1] at e; cases e
          exact (N₄ q (hsub q (hJf _ _ _ hJ₃ q hq))).1
    cases f with
    | ret v => exact hQ _ _ h₃
    | brk => exact hQ _ _ h₃
    | next => exact fin h₃
    | cont => exact fin h₃
  · have hin : i = n := by omega
    subst hin
    refine W.done _ _ _ hst' fun h₁ tk₁ hk₁ => wpAny_execs_nil ?_
    exact hQ _ _ (done m' news' h₁ tk₁ hJ (nextF h₁ hk₁) (nextN h₁ hk₁))

theorem iterT_list {prog : Program} {w : World} {A : Around} {s : Shared} {env : Env} {tg : Expr} {body : List Stmt} {r : Addr} {vs : List Value} {jv : Nat} {m₀ : Str → Option Value} {news : List (Addr × Obj)} {Q : Flow → Shared → Prop} {E : Value → Shared → Prop}
    (J : Nat → (Str → Option Value) → List (Addr × Obj) → Prop)
    (hh : A.handled = none) (hJf : ∀ i m nx, J i m nx → (r, listOf vs.toArray jv) ∈ nx)
    (F₀ : Fr g₀ env.locals s.heap m₀) (N₀ : News g₀ env.locals s.heap news) (hj : J 0 m₀ news)
    (hE : PassesOwn (model prog w) A env E)
    (turn : ∀ I i v m₁ news₁ h tk oI, NoTab oI → i < vs.length → vs[i]? = some v → (∀ q ∈ news₁, @Ne Nat q.1 I) → J i m₁ news₁ →
      Fr g₀ env.locals h m₁ → News g₀ env.locals h ((I, oI) :: news₁) →
      wpAny (model prog w) A (assign tg env v) (fun _ s₂ => wpAny (model prog w) A (execs body env) (PostY g₀ env.locals (J (i + 1)) I oI Q s) E s₂) E { s with heap := h, toks := tk })
    (done : ∀ m₁ news₁ h tk, J vs.length m₁ news₁ → Fr g₀ env.locals h m₁ → News g₀ env.locals h news₁ → Q .next { s with heap := h, toks := tk }) :
    wpAny (model prog w) A (pyIter (.ref r)) (fun it s₂ => codeAny (model prog w) A (.forLoop tg it body [] env) (fun r s' => match r with | .ok f => Q f s' | .error e => cameBackBy (model prog w) A env E e s') s₂) E s := by
  have hmr := hJf _ _ _ hj
  have hl : s.heap.IsList r vs.toArray := ⟨_, (N₀ _ hmr).1, rfl, _, rfl⟩
  refine wpAny_pyIter_list hl ?_
  have hne : r ≠ s.heap.objs.size := Nat.ne_of_lt (Heap.lt_size (N₀ _ hmr).1)
  have W := Walks.list (prog := prog) (w := w) hh s.heap.objs.size r hne vs.toArray
  have gN : g₀.get? s.heap.objs.size = none := by
    cases q : g₀.get? s.heap.objs.size with
    | none => rfl
    | some o => exact absurd (Heap.lt_size (F₀.keep _ _ q)) (Nat.lt_irrefl _)
  refine loopT (s := { s with heap := s.heap.push _ }) (fpo := [(r, listOf vs.toArray jv)]) J Q E W (fun i h hi => ?_) (fun i m nx hJ q hq => by rw [List.mem_singleton.mp hq]; exact hJf i m nx hJ) (Nat.ne_of_lt F₀.ns.lt) gN (fun q hq => Nat.ne_of_lt (Heap.lt_size (N₀ q hq).1)) ?_ (F₀.push _) (fun q hq => ⟨Heap.get?_push_of_some _ (N₀ q hq).1, (N₀ q hq).2⟩) hj (fun e s' h => hE e s' h) (fun f s' h => h) ?_ ?_ (fun i s' v Q' st hQ' => letGo_listiter st.1 hQ')
  · obtain ⟨o, ho, _, hd⟩ := hi.1
    exact ⟨o, ho, noTab_int hd rfl⟩
  · exact ⟨⟨_, Heap.get?_push_size _ rfl, rfl, rfl⟩, hl.at fun o e => Heap.get?_push_of_some _ e⟩
  · rintro i v m₁ news₁ h tk oI hoT hi hv ho hJ F N
    exact turn _ i v m₁ news₁ h tk oI hoT (by simpa using hi) (by simpa using hv) ho hJ F N
  · intro m₁ news₁ h tk hJ F N
    exact done m₁ news₁ h tk (by simpa using hJ) F N
end
end Mine
end
section
open PySem PySem.W PyProof.Rows PySem.Calls PySem.Spec
set_option Elab.async false
set_option maxRecDepth 100000
namespace Mine
section
variable {prog : Program} {w : World} {A : Around} {E : Value → Shared → Prop} {s : Shared} {h₀ : Heap} {L : Addr} {m : Str → Option Value} {env : Env}
theorem extend_new {R : Result → Shared → Prop} (hh : A.handled = none) (c : Array UInt8) (t : Tok) (S : Addr) (res : Value) (c₀ : Nat) (hS : s.heap.get? S = some { cls := .type "list", data := .seq #[] c₀ }) (hz : c.size ≤ sizeLine)
    (hR : ∀ h' tk ws c', (∀ b o, b ≠ S → s.heap.get? b = some o → h'.get? b = some o) → h'.get? S = some (listOf (ws : List Value).toArray c') →
      IntsAre ws (KBw.bInts c) → R (.ok (.ret res)) { s with heap := h', toks := tk }) :
    wpAny (model prog w) A.in1 (Builtin.List.listExtendWith (.ref S) (.bytes c t) res)
      (fun fin s' => match fin with | .done f => R (.ok f) s' | .again c' => c'.quiet = true ∧ codeAny (model prog w) A c' R s') (fun e s' => R (.error e) s') s := by
  have hSI : S ≠ s.heap.objs.size := Nat.ne_of_lt (Heap.lt_size hS)
  unfold Builtin.List.listExtendWith
  refine wpAny_bind (wpAny_typeOf (typeIs_bytes s c t) ?_)
  have h1 : Builtin.List.listSameRef (.ref S) (.bytes c t) = false := rfl
  have h2 : (Value.type "bytes" == Value.type "list") = false := by decide
  have h3 : (Value.type "bytes" == Value.type "tuple") = false := by decide
  simp only [h1, h2, h3, Bool.or_false, Bool.false_eq_true, if_false]
  refine wpAny_bind (KBw.pyIter_bytes ?_)
  refine wpAny_bind (wpAny_holding (hint_bytes ?_))
  refine ite_no (by decide +kernel) ?_
  refine wpAny_pure ⟨plainId_quiet F.plain_extend_loop _, ?_⟩
  have W := KBw.walks (prog := prog) (w := w) (A := A.in1) hh s.heap.objs.size c t
  refine ext_loop (n := c.size) W hSI res c.size 0 _ [] c₀ (by omega) (Nat.zero_le _) ⟨_, Heap.get?_push_size _ rfl, rfl, rfl⟩ (Heap.get?_push_of_some _ hS) (by simpa using hz) fun h' tk ws c' hl hws hD' hk => ?_
  refine hR h' tk ws c' (fun b o hb e => hk b o hb (fun q => ?_) (Heap.get?_push_of_some _ e)) (by simpa using hD') ?_
  · rw [q] at e; exact absurd (Heap.lt_size e) (Nat.lt_irrefl _)
  · have := ints_of (c := c) (vs := ws) 0 (by omega) (fun j v hv => by obtain ⟨x, u, hx, rfl⟩ := hws j v hv; exact ⟨x, u, hx, rfl⟩)
    simpa using this
theorem init_bytes {R : Result → Shared → Prop} (hh : A.handled = none) (c : Array UInt8) (t : Tok) (S : Addr) (hS : s.heap.get? S = some { cls := .type "list", data := .seq #[] }) (hz : c.size ≤ sizeLine)
    (hR : ∀ h' tk ws c', (∀ b o, b ≠ S → s.heap.get? b = some o → h'.get? b = some o) → h'.get? S = some (listOf (ws : List Value).toArray c') →
      IntsAre ws (KBw.bInts c) → R (.ok (.ret .none)) { s with heap := h', toks := tk }) :
    wpAny (model prog w) A.in1 (Builtin.«list.__init__» ⟨[.ref S, .bytes c t], []⟩)
      (fun fin s' => match fin with | .done f => R (.ok f) s' | .again c' => c'.quiet = true ∧ codeAny (model prog w) A c' R s') (fun e s' => R (.error e) s') s := by
  show wpAny _ _ (do let old ← Builtin.List.listItems (.ref S); Builtin.List.listUpdate (.ref S) (fun _ => #[]); letGo old.toList.reverse; Builtin.List.listExtendWith (.ref S) (.bytes c t) .none) _ _ s
  refine wpAny_bind ?_
  unfold Builtin.List.listItems
  refine wpAny_bind (wpAny_seqItems hS rfl (wpAny_pure ?_))
  show wpAny _ _ (updateSeq S (fun _ => #[]) >>= fun _ => letGo (#[] : Array Value).toList.reverse >>= fun _ => Builtin.List.listExtendWith (.ref S) (.bytes c t) .none) _ _ s
  refine wpAny_bind (wpAny_updateSeq hS rfl ?_)
  have hS₂ := Heap.get?_update_self (Obj.mapSeq (fun _ => (#[] : Array Value))) hS rfl
  have oth : ∀ b o, b ≠ S → s.heap.get? b = some o → (s.heap.update S (Obj.mapSeq (fun _ => (#[] : Array Value)))).get? b = some o :=
    fun b o hb e => (Heap.get?_update_other _ _ (Ne.symm hb)).trans e
  refine wpAny_bind (wpAny_letGo ?_)
  refine extend_new hh c t S .none _ hS₂ hz fun h' tk ws c' hk hS' hacc => ?_
  exact hR h' tk ws c' (fun b o hb e => hk b o hb (oth b o hb e)) hS' hacc
theorem list_bytes {news : List (Addr × Obj)} {c : Array UInt8} {t : Tok} {Q : Value → Shared → Prop} (F : Fr h₀ L s.heap m) (N : News h₀ L s.heap news) (hh : A.handled = none) (hz : c.size ≤ 1000000)
    (h : ∀ D h' tk ws c', IntsAre ws (KBw.bInts c) → Fr h₀ L h' m → News h₀ L h' ((D, listOf (ws : List Value).toArray c') :: news) → (∀ p ∈ news, p.1 < D) → Q (.ref D) { s with heap := h', toks := tk }) :
    wpAny (model prog w) A (call (.type "list") [.bytes c t]) Q E s := by
  refine callType_codes (Q₁ := fun obj s₁ => obj = .ref s.heap.objs.size ∧ s₁ = { s with heap := s.heap.push { cls := .type "list", data := .seq #[] } }) PySem.F.called_list (PySem.F.typeCall_list_1 _) PySem.F.entry_list_init
    (code_list_new _ ⟨rfl, rfl⟩) fun obj s₁ h₁ => ?_
  obtain ⟨rfl, rfl⟩ := h₁
  have hS : (s.heap.push { cls := .type "list", data := .seq #[] }).get? s.heap.objs.size = some { cls := .type "list", data := .seq #[] } := Heap.get?_push_size _ rfl
  refine ⟨⟨_, hS, rfl⟩, PySem.F.args_list_init_2 _ _, init_bytes (A := A.in1) hh c t _ hS (by rw [sizeLine_eq]; omega) fun h' tk ws c' hk hS' hacc => ?_⟩
  have up : ∀ b o, s.heap.get? b = some o → h'.get? b = some o := fun b o e => hk b o (Nat.ne_of_lt (Heap.lt_size e)) (Heap.get?_push_of_some _ e)
  refine ⟨rfl, h _ h' tk ws c' hacc (F.keeps up) (fun p hp => ?_) fun p hp => Heap.lt_size (N p hp).1⟩
  rcases List.mem_cons.mp hp with rfl | hp
  · exact ⟨hS', fun q => absurd F.ns.lt (by rw [← q]; exact Nat.lt_irrefl _), by
      cases e : h₀.get? s.heap.objs.size with
      | none => rfl
      | some o => exact absurd (Heap.lt_size (F.keep _ _ e)) (Nat.lt_irrefl _)⟩
  · exact ⟨up _ _ (N p hp).1, (N p hp).2⟩
/-- a comprehension over a text -/
def SrcStr (prog : Program) (w : World) (A : Around) (h₀ : Heap) (L : Addr) (m : Str → Option Value) (env : Env) (elt : Expr) (x : Str) (scope : Scope) (cl : List (Str × Addr)) (Fin : Shared → List Value → List (Addr × Obj) → Prop) (xv : Value) (s₁ : Shared) : Prop :=
  ∃ y t news, xv = .str y t ∧ A.handled = none ∧ Fr h₀ L s₁.heap m ∧ News h₀ L s₁.heap news ∧ y.cps.size ≤ sizeLine ∧
    ∀ s₂ : Shared, (∃ h, s₂ = { s₁ with heap := h }) → LCg.CompRest prog w A h₀ L m env elt x scope cl s₂ (fun _ => True) (SignAt y) (Fin s₂) y.cps.size 0 [] news
theorem SrcStr.mk {elt : Expr} {x : Str} {scope : Scope} {cl : List (Str × Addr)} {Fin : Shared → List Value → List (Addr × Obj) → Prop} {y : Str} {t : Tok} {news : List (Addr × Obj)} {s₁ : Shared}
    (hh : A.handled = none) (F : Fr h₀ L s₁.heap m) (N : News h₀ L s₁.heap news) (hsz : y.cps.size ≤ 1000000)
    (h : ∀ g, LCg.CompRest prog w A h₀ L m env elt x scope cl { s₁ with heap := g } (fun _ => True) (SignAt y) (Fin { s₁ with heap := g }) y.cps.size 0 [] news) :
    SrcStr prog w A h₀ L m env elt x scope cl Fin (.str y t) s₁ := ⟨y, t, news, rfl, hh, F, N, by rw [sizeLine_eq]; omega, fun _ ⟨g, e⟩ => e ▸ h g⟩
theorem str_st {I : Addr} {ty : String} {x : Str} {t : Tok} : ∀ i (h h' : Heap) (o : Obj) (nw : List (Addr × Obj)), h.IsStrIter I ty x t i → h.get? I = some o → h'.get? I = some o → (∀ b o, h₀.get? b = some o → h'.get? b = some o) → News h₀ L h' nw → True → h'.IsStrIter I ty x t i :=
  fun i h h' o nw st e e' _ _ _ => by
    obtain ⟨o', q, r⟩ := st
    rw [e] at q; cases q
    exact ⟨o, e', r⟩
theorem ListComp_S {elt iter : Expr} {x : Str} {px : Pos} {scope : Scope} {cl : List (Str × Addr)} {pos : Pos} {Q : Value → Shared → Prop} (F₀ : Fr h₀ L s.heap m)
    (hclos : closureFor scope env = pure cl) (hcell : ∀ y ∈ scope.names, y.2 ≠ .cell) (hkind : scope.kind = .function)
    (hnames : ∀ y ∈ scope.names, y.2 = .local → scope.names.lookup y.1 = some .local) (hx : scope.names.lookup x = some .local)
    (h : wpAny (model prog w) A (eval iter env) (SrcStr prog w A h₀ L m env elt x scope cl (fun s₂ => LCg.FinE h₀ L m s₂ Q)) E s)
    (hs : ∀ x, foldedSetIterable iter env x = pure x := by intro _; rfl) :
    wpAny (model prog w) A (eval (.ListComp elt [⟨.Name x px, iter, [], 0⟩] scope pos) env) Q E s := by
  rw [eval_ListComp]
  refine wpAny_comprehension_free (use := none) rfl hs hclos hkind hnames (wpAny_mono h (fun xv s₁ h₁ => ?_) fun _ _ e => e)
  obtain ⟨y, t, news, rfl, hh, F, N, hsz, R⟩ := h₁
  have fin : ∀ D C h tk m' ys news', Fr h₀ L h m → News h₀ L h ((D, LCg.lst ys) :: news') → LCg.Off1 D news' → h.Ns C m' → h₀.get? C = none → h₀.get? D = none → C ≠ L → D ≠ L → C ≠ D → (∀ p ∈ news', p.1 ≠ C) → ∀ s₂ : Shared, LCg.FinE h₀ L m s₂ Q ys news' →
      ∃ m', h.Ns C m' ∧ ∀ h'', Heap.SameBut C h h'' → Q (.ref D) { s₂ with heap := h'', toks := tk } := by
    intro D C h tk m' ys news' F' N' o1 hn hC₀ hD₀ hCL hDL hCD offC s₂ fin
    refine ⟨m', hn, fun h'' hs'' => fin D h'' tk (F'.change hs'' hCL hC₀) (fun p hp => ?_) o1⟩
    refine ⟨hs''.extBut _ _ ?_ (N' p hp).1, (N' p hp).2⟩
    rcases List.mem_cons.mp hp with rfl | hp
    · exact Ne.symm hCD
    · exact offC p hp
  have up : ∀ (o : Obj) b o', s₁.heap.get? b = some o' → (s₁.heap.push o).get? b = some o' := fun _ b o' e => Heap.get?_push_of_some _ e
  cases ha : y.cps.all (· < 128)
  · refine wpAny_pyIter_wide ha ?_
    refine LCg.block_U (S := fun _ => True) (Walks.strWide hh s₁.heap.objs.size y t) hsz (fun i h st => by obtain ⟨o, e, _⟩ := st; exact ⟨o, e⟩) str_st hcell hkind hx ⟨_, Heap.get?_push_size _ rfl, rfl, rfl⟩ (fun b hb => ?_)
      (F.keeps (up _)) (N.grown (up _)) (Nat.ne_of_lt F.ns.lt) (next_is_new F) (fun p hp => Nat.ne_of_lt (Heap.lt_size (N p hp).1)) trivial (R _ ⟨_, rfl⟩) ?_
    · rw [List.mem_singleton.mp hb]
      show s₁.heap.objs.size < (s₁.heap.push _).objs.size
      rw [Heap.size_push]; exact Nat.lt_succ_self _
    · intro D C h tk m' ys news' F' N' o1 hn hC₀ hD₀ hCL hDL hCD offC fin'
      exact fin D C h tk m' ys news' F' N' o1 hn hC₀ hD₀ hCL hDL hCD offC _ fin'
  · refine wpAny_pyIter_ascii ha ?_
    refine LCg.block_U (S := fun _ => True) (Walks.strAscii hh s₁.heap.objs.size y t) hsz (fun i h st => by obtain ⟨o, e, _⟩ := st; exact ⟨o, e⟩) str_st hcell hkind hx ⟨_, Heap.get?_push_size _ rfl, rfl, rfl⟩ (fun b hb => ?_)
      (F.keeps (up _)) (N.grown (up _)) (Nat.ne_of_lt F.ns.lt) (next_is_new F) (fun p hp => Nat.ne_of_lt (Heap.lt_size (N p hp).1)) trivial (R _ ⟨_, rfl⟩) ?_
    · rw [List.mem_singleton.mp hb]
      show s₁.heap.objs.size < (s₁.heap.push _).objs.size
      rw [Heap.size_push]; exact Nat.lt_succ_self _
    · intro D C h tk m' ys news' F' N' o1 hn hC₀ hD₀ hCL hDL hCD offC fin'
      exact fin D C h tk m' ys news' F' N' o1 hn hC₀ hD₀ hCL hDL hCD offC _ fin'
end
end Mine
end
section
open PySem PySem.W PyProof.Rows PySem.Calls PySem.Spec
set_option Elab.async false
namespace Mine
/-- a list of lists of octets, its rows in the ledger -/
inductive RowsIn (X : List (Addr × Obj)) : List Value → List (Array UInt8) → Prop where
  | nil : RowsIn X [] []
  | cons {ad : Addr} {vs : List Value} {j : Nat} {c : Array UInt8} {ys : List Value} {cs : List (Array UInt8)} : (ad, listOf vs.toArray j) ∈ X → IntsAre vs (KBw.bInts c) → RowsIn X ys cs → RowsIn X (.ref ad :: ys) (c :: cs)
theorem RowsIn.mono {X X' : List (Addr × Obj)} {ys : List Value} {cs : List (Array UInt8)} (h : RowsIn X ys cs) (hs : ∀ q ∈ X, q ∈ X') : RowsIn X' ys cs := by
  induction h with
  | nil => exact .nil
  | cons m i _ ih => exact .cons (hs _ m) i ih
theorem RowsIn.append {X : List (Addr × Obj)} {ys zs : List Value} {cs ds : List (Array UInt8)} (h : RowsIn X ys cs) (h' : RowsIn X zs ds) : RowsIn X (ys ++ zs) (cs ++ ds) := by
  induction h with
  | nil => exact h'
  | cons m i _ ih => exact .cons m i ih
theorem RowsIn.snoc {X : List (Addr × Obj)} {ys : List Value} {cs : List (Array UInt8)} {ad : Addr} {vs : List Value} {j : Nat} {c : Array UInt8} (h : RowsIn X ys cs) (hi : IntsAre vs (KBw.bInts c)) : RowsIn ((ad, listOf vs.toArray j) :: X) (ys ++ [.ref ad]) (cs ++ [c]) :=
  (h.mono fun _ hq => .tail _ hq).append (.cons (.head _) hi .nil)
theorem RowsIn.length {X : List (Addr × Obj)} {ys : List Value} {cs : List (Array UInt8)} (h : RowsIn X ys cs) : ys.length = cs.length := by
  induction h with
  | nil => rfl
  | cons _ _ _ ih => simp [ih]
theorem RowsIn.same {h₀ h : Heap} {L : Addr} {X Y news : List (Addr × Obj)} {ys zs : List Value} {cs : List (Array UInt8)} {n : Nat} (N : News h₀ L h news) (hX : ∀ q ∈ X, q ∈ news) (hY : ∀ q ∈ Y, q ∈ news) (a : RowsIn X ys cs) (b : RowsIn Y zs cs) : SameL h (n + 1) ys zs := by
  induction a generalizing zs with
  | nil => cases b; exact .nil
  | cons m i _ ih =>
    cases b with
    | cons m' i' r => exact .cons (same_list N (hX _ m) (hY _ m') (SameL.ints i i')) (ih r)
theorem latin_sign {c : Array UInt8} {i k : Nat} (h : (latin c).cps[i]? = some k) : (KBw.bInts c)[i]? = some (k : Int) := by
  unfold latin at h
  unfold KBw.bInts
  dsimp only at h
  rw [Array.getElem?_map] at h
  rw [List.getElem?_map, Array.getElem?_toList]
  cases hc : c[i]? with
  | none => rw [hc] at h; cases h
  | some x => rw [hc] at h; cases h; rfl
theorem ints_take {ys : List Value} {ks : List Int} {i : Nat} {k : Int} {t : Tok} (h : IntsAre ys (ks.take i)) (e : ks[i]? = some k) : IntsAre (ys ++ [.int k t]) (ks.take (i + 1)) := by
  rw [List.take_add_one, e, Option.toList_some]; exact h.append (.cons _ _ .nil)
theorem latin_len (c : Array UInt8) : (latin c).cps.size = c.size := by unfold latin; simp
theorem off3_new {I C D A : Addr} {o1 o2 o3 o : Obj} {X : List (Addr × Obj)} (ho : LCg.Off1 A ((I, o1) :: (C, o2) :: (D, o3) :: X)) (h3 : LCg.Off3 I C D X) : LCg.Off3 I C D ((A, o) :: X) :=
  ⟨⟨fun e => ho.1 e.symm, fun e => ho.2.1 e.symm, fun e => ho.2.2.1 e.symm⟩, h3⟩
end Mine
end
section
open PySem PySem.W PyProof.Rows PySem.Calls PySem.Spec PySem.SeqAt PySem.AutoSeq1 PySem.MeetsSeq PySem.MeetsSeq2 PySem.MeetsSeq3
set_option Elab.async false
set_option maxRecDepth 100000
namespace Mine
section
variable {prog : Program} {w : World}
/-- equal in this model -/
def EqIn (prog : Program) (w : World) (A : Around) (s : Shared) (y x : Value) : Prop :=
  ∀ (E : Value → Shared → Prop) (Q : Bool → Shared → Prop), Q true s → wpAny (model prog w) A (eqBool y x) Q E s
theorem EqIn.of {A : Around} {s : Shared} {y x : Value} (h : EqAt A s y x true) : EqIn prog w A s y x := fun E Q hq => h prog w E Q hq
theorem EqIn.str {A : Around} {s : Shared} {x : Str} {t u : Tok} : EqIn prog w A s (.str x t) (.str x u) := .of (by have := EqAt.str_str (A := A) (s := s) x t x u; simpa using this)
theorem EqIn.bytes {A : Around} {s : Shared} {x : Array UInt8} {t u : Tok} : EqIn prog w A s (.bytes x t) (.bytes x u) := .of fun prog w E Q hq => eqBool_bytes (by simpa using hq)
theorem EqIn.refs {A : Around} {s : Shared} {l b : Addr} (h : ∀ (E : Value → Shared → Prop) (Q : Value → Shared → Prop), Q (.bool true) s → wpAny (model prog w) A (richCompare .Eq (.ref l) (.ref b)) Q E s) : EqIn prog w A s (.ref l) (.ref b) := fun E Q hq => by
  by_cases hlb : l = b
  · subst hlb; exact EqAt.same _ prog w E Q hq
  · unfold eqBool
    refine wpAny_holding ?_
    refine wpAny_ite_split (fun hab => absurd (by have := eq_of_beq hab; injection this) hlb) (fun _ => ?_)
    exact wpAny_bind (h E _ (wpAny_truthy_bool hq))
theorem zip_mem {A : Around} {s : Shared} {xs ys : Array Value} (he : ∀ j (h1 : j < xs.size) (h2 : j < ys.size), EqIn prog w A s xs[j] ys[j]) : ∀ p ∈ xs.toList.zip ys.toList, EqIn prog w A s p.1 p.2 := fun p hp => by
  obtain ⟨j, hj, e⟩ := List.mem_iff_getElem.mp hp
  have h1 : j < xs.size := by have := hj; simp only [List.length_zip, Array.length_toList] at this; omega
  have h2 : j < ys.size := by have := hj; simp only [List.length_zip, Array.length_toList] at this; omega
  rw [← e, List.getElem_zip]
  simpa using he j h1 h2
theorem tuple_ne (l b : Addr) (xs ys : Array Value) (n n2 : Nat) (dd dd2 : Option Addr) (sl sl2 : Array (Option Value)) (hsz : xs.size = ys.size) :
    MeetsIn prog w (Builtin.«tuple.__ne__» ⟨[.ref l, .ref b], []⟩)
      (fun A R s => s.heap.get? l = some { cls := .type "tuple", dict := dd, data := .seq xs n, slots := sl } ∧ s.heap.get? b = some { cls := .type "tuple", dict := dd2, data := .seq ys n2, slots := sl2 } ∧
        (∀ j (h1 : j < xs.size) (h2 : j < ys.size), EqIn prog w A.in1 s xs[j] ys[j]) ∧ R (.ok (.ret (.bool false))) s) :=
  .of_wp fun A R s h => by
    obtain ⟨hp, g, d, tk, os⟩ := s; obtain ⟨hl, hb, he, h⟩ := h
    have f2 := AutoSeq1.sub_tuple_tuple
    have hz := zip_mem he
    wp_walk using wpAny_loadPart' hl, wpAny_loadPart' hb, wpAny_forIn_list _ (fun rest b s' => b.1 = none ∧ s' = ⟨hp, g, d, tk, os⟩ ∧ ∀ p ∈ rest, EqIn prog w A.in1 ⟨hp, g, d, tk, os⟩ p.1 p.2) _
    case turn =>
      rintro ⟨y, x⟩ rest b s' ⟨hb', rfl, hr⟩
      refine wpAny_bind (hr _ (.head _) _ _ ?_)
      wp_walk
      exact ⟨rfl, rfl, fun p hp => hr p (.tail _ hp)⟩
    case fin =>
      rintro ⟨b1, b2⟩ s' ⟨hb', rfl, -⟩
      simp only at hb'
      subst hb'
      wp_walk
      exact ⟨_, rfl, by simpa [Builtin.Tuple.tupleCompareSizes, hsz] using h⟩
    case h => exact ⟨rfl, rfl, hz⟩
theorem ne_tuples_in {A : Around} {E : Value → Shared → Prop} {s : Shared} {l b : Addr} {xs ys : Array Value} {Q : Value → Shared → Prop} (hl : s.heap.IsTuple l xs) (hb : s.heap.IsTuple b ys) (hsz : xs.size = ys.size) (hu : A.units < cLine)
    (he : ∀ j (h1 : j < xs.size) (h2 : j < ys.size), EqIn prog w A.in1 s xs[j] ys[j]) (h : Q (.bool false) s) : wpAny (model prog w) A (compareOp .NotEq (.ref l) (.ref b)) Q E s := by
  obtain ⟨⟨cls, dd, data, sl⟩, ho, hc, n, hd⟩ := id hl
  obtain ⟨⟨cls2, dd2, data2, sl2⟩, ho2, hc2, n2, hd2⟩ := id hb
  simp only at hc hd hc2 hd2
  subst hc hd hc2 hd2
  exact wpAny_richCompare_same_room (op := .NotEq) ⟨_, ho, rfl⟩ ⟨_, ho2, rfl⟩ PySem.F.slot_tuple_ne (call_meetsIn PySem.F.slot_tuple_ne ⟨_, ho, rfl⟩ PySem.F.entry_tuple_ne (PySem.F.args_tuple_ne_2 _ _) (tuple_ne l b xs ys n n2 dd dd2 sl sl2 hsz)
    ⟨ho, ho2, he, fun x => (nomatch x), h⟩) hu
end
/-- pairs of a text and bytes -/
inductive BPairs : List (Str × Value) → List (Str × Array UInt8) → Prop where
  | nil : BPairs [] []
  | cons (k : Str) (v : Array UInt8) (t : Tok) {r : List (Str × Value)} {c : List (Str × Array UInt8)} : BPairs r c → BPairs ((k, .bytes v t) :: r) ((k, v) :: c)
def bval (cs : List (Str × Array UInt8)) (k : Str) : Option (Array UInt8) := (cs.find? fun kv => kv.1 = k).map (·.2)
def bset (cs : List (Str × Array UInt8)) (k : Str) (v : Array UInt8) : List (Str × Array UInt8) := if (bval cs k).isSome then cs.map (fun kv => if kv.1 = k then (kv.1, v) else kv) else cs ++ [(k, v)]
def bdel (cs : List (Str × Array UInt8)) (k : Str) : List (Str × Array UInt8) := cs.filter fun kv => decide (kv.1 ≠ k)
theorem BPairs.keys {r : List (Str × Value)} {c : List (Str × Array UInt8)} (h : BPairs r c) : r.map (·.1) = c.map (·.1) := by
  induction h with
  | nil => rfl
  | cons k v t _ ih => simp [ih]
theorem BPairs.length {r : List (Str × Value)} {c : List (Str × Array UInt8)} (h : BPairs r c) : r.length = c.length := by
  induction h with
  | nil => rfl
  | cons k v t _ ih => simp [ih]
theorem BPairs.none {r : List (Str × Value)} {c : List (Str × Array UInt8)} (h : BPairs r c) {k : Str} (e : bval c k = none) : valueAt r k = none := by
  induction h with
  | nil => rfl
  | @cons x v t r c _ ih =>
    unfold bval valueAt at *
    rw [List.find?_cons] at e ⊢
    by_cases hx : x = k
    · simp [hx] at e
    · simp only [hx, decide_false] at e ⊢; exact ih e
theorem BPairs.some {r : List (Str × Value)} {c : List (Str × Array UInt8)} (h : BPairs r c) {k : Str} {v : Array UInt8} (e : bval c k = some v) : ∃ t, valueAt r k = some (.bytes v t) := by
  induction h with
  | nil => simp [bval] at e
  | @cons x v' t r c _ ih =>
    unfold bval valueAt at *
    rw [List.find?_cons] at e ⊢
    by_cases hx : x = k
    · simp [hx] at e; subst e; exact ⟨t, by simp [hx]⟩
    · simp only [hx, decide_false] at e ⊢; exact ih e
theorem any_val {r : List (Str × Value)} {k : Str} : (r.any fun kv => decide (kv.1 = k)) = (valueAt r k).isSome := by
  unfold valueAt
  rw [Option.isSome_map]
  induction r with
  | nil => rfl
  | cons z r ih =>
    rw [List.any_cons, List.find?_cons]
    by_cases h : z.1 = k
    · simp [h]
    · simp only [h, decide_false, Bool.false_or]; exact ih
theorem BPairs.append {r s : List (Str × Value)} {c d : List (Str × Array UInt8)} (h : BPairs r c) (h' : BPairs s d) : BPairs (r ++ s) (c ++ d) := by
  induction h with
  | nil => exact h'
  | cons k v t _ ih => exact .cons k v t ih
theorem BPairs.set {r : List (Str × Value)} {c : List (Str × Array UInt8)} (h : BPairs r c) (k : Str) (v : Array UInt8) (t : Tok) : BPairs (stored r k (.bytes v t)) (bset c k v) := by
  unfold stored bset
  rw [any_val]
  cases e : bval c k with
  | none => rw [h.none e]; exact h.append (.cons k v t .nil)
  | some u =>
    obtain ⟨tu, e2⟩ := h.some e
    rw [e2]
    simp only [Option.isSome_some, if_true]
    clear e e2
    induction h with
    | nil => exact .nil
    | @cons x v' t' r c _ ih =>
      simp only [List.map_cons]
      by_cases hx : x = k
      · simp only [hx, if_true]; exact .cons _ _ _ ih
      · simp only [hx, if_false]; exact .cons _ _ _ ih
theorem BPairs.del {r : List (Str × Value)} {c : List (Str × Array UInt8)} (h : BPairs r c) (k : Str) : BPairs (without r k) (bdel c k) := by
  unfold without bdel
  induction h with
  | nil => exact .nil
  | @cons x v t r c _ ih =>
    simp only [List.filter_cons]
    by_cases hx : x = k
    · simp only [hx, ne_eq, not_true_eq_false, decide_false, Bool.false_eq_true, if_false]; simpa [ne_eq] using ih
    · simp only [hx, ne_eq, not_false_eq_true, decide_true, if_true]; exact .cons _ _ _ (by simpa [ne_eq] using ih)
theorem bval_append (c d : List (Str × Array UInt8)) (x : Str) : bval (c ++ d) x = (bval c x).or (bval d x) := by
  unfold bval
  rw [List.find?_append]
  cases c.find? fun kv => decide (kv.1 = x) <;> simp
theorem bval_cons (z : Str × Array UInt8) (c : List (Str × Array UInt8)) (x : Str) : bval (z :: c) x = if z.1 = x then some z.2 else bval c x := by
  unfold bval
  rw [List.find?_cons]
  by_cases h : z.1 = x
  · simp [h]
  · simp [h]
theorem bval_map (c : List (Str × Array UInt8)) (k x : Str) (v : Array UInt8) : bval (c.map fun kv => if kv.1 = k then (kv.1, v) else kv) x = if x = k then (bval c x).map (fun _ => v) else bval c x := by
  induction c with
  | nil => simp [bval]
  | cons z c ih =>
    rw [List.map_cons, bval_cons, ih, bval_cons]
    by_cases hz : z.1 = k
    · simp only [hz, if_true]
      by_cases hx : k = x
      · subst hx; simp
      · simp [hx, Ne.symm hx]
    · simp only [hz, if_false]
      by_cases hzx : z.1 = x
      · simp only [hzx, if_true]
        rw [if_neg (by rw [← hzx]; exact hz)]
      · simp [hzx]
theorem bval_set (c : List (Str × Array UInt8)) (k x : Str) (v : Array UInt8) : bval (bset c k v) x = if x = k then some v else bval c x := by
  unfold bset
  cases e : bval c k with
  | none =>
    simp only [Option.isSome_none, Bool.false_eq_true, if_false]
    rw [bval_append]
    by_cases hx : x = k
    · subst hx; rw [e]; simp [bval]
    · rw [if_neg hx]
      have : bval [(k, v)] x = none := by simp [bval, Ne.symm hx]
      rw [this, Option.or_none]
  | some u =>
    simp only [Option.isSome_some, if_true]
    rw [bval_map]
    by_cases hx : x = k
    · subst hx; rw [e]; simp
    · simp [hx]
theorem bval_del (c : List (Str × Array UInt8)) (k x : Str) : bval (bdel c k) x = if x = k then none else bval c x := by
  unfold bdel
  induction c with
  | nil => simp [bval]
  | cons z c ih =>
    rw [List.filter_cons, bval_cons]
    by_cases hz : z.1 = k
    · rw [if_neg (by simp [hz]), ih]
      by_cases hx : x = k
      · simp [hx]
      · rw [if_neg hx, if_neg hx, if_neg (by rw [hz]; exact Ne.symm hx)]
    · rw [if_pos (by simp [hz]), bval_cons, ih]
      by_cases hzx : z.1 = x
      · simp only [hzx, if_true]; rw [if_neg (by rw [← hzx]; exact hz)]
      · simp [hzx]
theorem bval_mem {c : List (Str × Array UInt8)} {x : Str} : (bval c x).isSome = true ↔ x ∈ c.map (·.1) := by
  induction c with
  | nil => simp [bval]
  | cons z c ih =>
    rw [bval_cons]
    by_cases hz : z.1 = x
    · simp [hz]
    · rw [if_neg hz, ih]; simp [Ne.symm hz]
theorem nodup_len {α : Type} [DecidableEq α] : ∀ {l m : List α}, l.Nodup → (∀ x ∈ l, x ∈ m) → l.length ≤ m.length
  | [], _, _, _ => Nat.zero_le _
  | a :: l, m, hn, hs => by
    rw [List.nodup_cons] at hn
    have ha := hs a (.head _)
    have h1 := nodup_len (l := l) (m := m.erase a) hn.2 (fun x hx => (List.mem_erase_of_ne (by rintro rfl; exact hn.1 hx)).mpr (hs x (.tail _ hx)))
    rw [List.length_erase_of_mem ha] at h1
    have h2 := List.length_pos_of_mem ha
    rw [List.length_cons]; omega
/-- two maps that give the same -/
theorem same_len {c d : List (Str × Array UInt8)} (hc : (c.map (·.1)).Nodup) (hd : (d.map (·.1)).Nodup) (h : ∀ x, bval c x = bval d x) : c.length = d.length := by
  have h1 := nodup_len hc (fun x hx => by rw [← bval_mem] at hx ⊢; rw [← h]; exact hx)
  have h2 := nodup_len hd (fun x hx => by rw [← bval_mem] at hx ⊢; rw [h]; exact hx)
  simp only [List.length_map] at h1 h2
  omega
theorem valueAt_head {k : Str} {v : Value} {r : List (Str × Value)} : valueAt ((k, v) :: r) k = some v := by simp [valueAt]
theorem hits_of {A : Around} {s : Shared} {kb : List (Str × Value)} {cb : List (Str × Array UInt8)} (hb : BPairs kb cb) {ka : List (Str × Value)} {ca : List (Str × Array UInt8)} (ha : BPairs ka ca) (hn : (ca.map (·.1)).Nodup) (h : ∀ x, x ∈ ca.map (·.1) → bval ca x = bval cb x) : KeqHits A s kb ka true := by
  induction ha with
  | nil => exact .nil
  | @cons k v t r c hr ih =>
    rw [List.map_cons, List.nodup_cons] at hn
    have e := h k (.head _)
    rw [bval_cons, if_pos rfl] at e
    obtain ⟨u, hu⟩ := hb.some e.symm
    refine KeqHits.hit (e := true) (b := true) hu (fun prog w E Q hq => eqBool_bytes (by simpa using hq)) (ih hn.2 fun x hx => ?_)
    have := h x (.tail _ hx)
    rw [bval_cons, if_neg (by rintro rfl; exact hn.1 hx)] at this
    exact this
section
variable {prog : Program} {w : World} {A : Around} {s : Shared} {a b : Addr} {oa ob : Obj} {ka kb : List (Str × Value)} {ca cb : List (Str × Array UInt8)} {h₀ : Heap} {L : Addr} {news : List (Addr × Obj)}
theorem dict_nodup {o : Obj} (d : o.IsDictOf (PySem.strKind prog w) ka) (h : BPairs ka ca) : (ca.map (·.1)).Nodup := by
  obtain ⟨_, _, _, _, _, _, hn⟩ := d
  rw [← h.keys]; exact hn
theorem dict_same (N : News h₀ L s.heap news) (pa : (a, oa) ∈ news) (pb : (b, ob) ∈ news) (da : oa.IsDictOf (PySem.strKind prog w) ka) (db : ob.IsDictOf (PySem.strKind prog w) kb) (la : (a == sysModules) = false) (lb : (b == sysModules) = false)
    (ha : BPairs ka ca) (hb : BPairs kb cb) (h : ∀ x, bval ca x = bval cb x) (hu : A.units < cLine) : EqIn prog w A s (.ref a) (.ref b) :=
  EqIn.refs fun E Q hq => keq_pairs (knd := PySem.strKind prog w) N pa pb da db la lb (by rw [ha.length, hb.length]; exact same_len (dict_nodup da ha) (dict_nodup db hb) h) hu (hits_of hb ha (dict_nodup da ha) fun x _ => h x) hq
theorem dict_eq {E Q : Value → Shared → Prop} (N : News h₀ L s.heap news) (pa : (a, oa) ∈ news) (pb : (b, ob) ∈ news) (da : oa.IsDictOf (PySem.strKind prog w) ka) (db : ob.IsDictOf (PySem.strKind prog w) kb) (la : (a == sysModules) = false) (lb : (b == sysModules) = false)
    (ha : BPairs ka ca) (hb : BPairs kb cb) (h : ∀ x, bval ca x = bval cb x) (hu : A.units < cLine) (hq : Q (.bool true) s) : wpAny (model prog w) A (compareOp .Eq (.ref a) (.ref b)) Q E s :=
  keq_pairs (knd := PySem.strKind prog w) N pa pb da db la lb (by rw [ha.length, hb.length]; exact same_len (dict_nodup da ha) (dict_nodup db hb) h) hu (hits_of hb ha (dict_nodup da ha) fun x _ => h x) hq
theorem pair_ne {E Q : Value → Shared → Prop} {l b : Addr} {y1 y2 x1 x2 : Value} {n n2 : Nat} (N : News h₀ L s.heap news) (hl : (l, ({ cls := .type "tuple", data := .seq #[y1, y2] n } : Obj)) ∈ news) (hb : (b, ({ cls := .type "tuple", data := .seq #[x1, x2] n2 } : Obj)) ∈ news) (hu : A.units < cLine)
    (h1 : EqIn prog w A.in1 s y1 x1) (h2 : EqIn prog w A.in1 s y2 x2) (h : Q (.bool false) s) : wpAny (model prog w) A (compareOp .NotEq (.ref l) (.ref b)) Q E s := by
  refine ne_tuples_in (xs := #[y1, y2]) (ys := #[x1, x2]) ⟨_, (N _ hl).1, rfl, _, rfl⟩ ⟨_, (N _ hb).1, rfl, _, rfl⟩ rfl hu (fun j h3 h4 => ?_) h
  rcases j with _ | _ | j
  · exact h1
  · exact h2
  · simp at h3; omega
end
end Mine
end
section
open PySem PySem.W PyProof.Rows PySem.Calls PySem.Spec
set_option Elab.async false
set_option maxRecDepth 100000
set_option maxHeartbeats 8000000
namespace Mine
local macro_rules | `(tactic| k_room) => `(tactic| ktr_room)
local macro_rules | `(tactic| k_units) => `(tactic| ktr_units)
local macro_rules | `(tactic| k_mem) => `(tactic| first | exact List.Mem.head _ | (refine List.mem_cons_of_mem _ ?_; k_mem))
theorem stream_ct (w : World) {p : Program} {loose : List Str} {mean : ExcName → Option Value} {mg mb : Str → Option Value}
  {dp un : Nat} {gd : Option (List Code)} {cn : Str} {cs : Scope} {a : Addr} {ccd : Value} {cl : List (Str × Addr)} {outer : List Env} {A₀ : Around} {base h₀ : Heap} {L : Addr} {m : Str → Option Value} {rest T : List (Addr × Obj)} {s : Shared}
  {b : Array UInt8} {tb : Tok} {Q E : Value → Shared → Prop}
  (B : Below A₀ base outer h₀) (F : Fr h₀ L s.heap m) (X : (hd06.heap_39 w.params).In h₀) (N : News h₀ L s.heap (T ++ rest)) (TT : Top p loose mean mg mb h₀)
  (H : CodeHd h₀ 62 58) (hT : Tab 58 (rawInt 29) (rawInt 4) (Str.ofString "_law_stream.<locals>._law_read") T) (hoff : OwnOff rest [58])
  (hk : cs.kind = .function) (hd : dp + 20 < recursionLimit)
  (ok : ∀ x dx r k1 k2 tp I T' h' tk, Strm Challenge.rw_dm0232_06.row.prog w (hd06.heap_39 w.params) p loose mean mg mb 52 x dx r k1 k2 b I → Tab 58 (rawInt 29) (rawInt 4) (Str.ofString "_law_stream.<locals>._law_read") T' →
    OwnOff I [58] → OwnOff T' [dx] → OwnOff rest [dx] →
    Fr h₀ L h' m → News h₀ L h' ((dx, SD w.params k1 k2 r 0 tp) :: (I ++ (T' ++ rest))) → Q (.ref x) { s with heap := h', toks := tk }) :
  wpAny (model Challenge.rw_dm0232_06.row.prog w) (ktrTop dp un gd cn cs L a ccd cl outer) (call (.ref 63) [.bytes b tb]) Q E s := by
  revert X; k_fill; intro X
  have hMk := kstMark
  cases hT
  all_goals
    simp only [List.cons_append, List.nil_append] at N
    refine wpAny_call ?_
    refine' code_defC ?k1 ?k2 ?k3 ?k4 ?k5 ?kA ?kF ?kK ?k6 ?k7 ?k8 ?k9 ?kB ?kD ?_ ?c2 ?c3 ?c4
    case kA => exact rfl
    case kF => exact rfl
    case kK => assumption
    case k1 => k_asm
    case k2 => k_asm
    case k3 => k_asm
    case k4 => k_asm
    case k5 => k_asm
    case k6 => k_is
    case k7 => k_is
    case k8 => ktr_room
    case k9 => exact BindsTo.of_eq rfl
    case kB => exact rfl
    case kD => decide +kernel
    case c2 => exact rfl
    case c3 => exact rfl
    case c4 => exact rfl
    intro g' L' h' tk' cells' FG' F' N' Y' B' X' T' l1
    (try k_lt l1)
    have hO : OwnOff rest [L' + 1, L' + 1 + 1] := off_lt (d := L') (by first | exact l1.2 | exact l1.2.2) (by intro a ha; simp only [List.mem_cons, List.not_mem_nil, or_false] at ha; rcases ha with rfl | rfl <;> exact Nat.le_add_right_of_le (by omega))
    have H' : CodeHd g' 62 58 := H.keeps FG'.keep
    k_cells Y'
    (try simp only [List.cons_append, List.nil_append] at N')
    (try dsimp only)
    (try k_lift B')
    (try k_fold)
    k_steps
    rename News h₀ L _ _ => NN
    rename Fr h₀ L _ m => FF
    first
    | refine ok _ _ _ _ _ _ _ _ _ _ ?strm ?tab ?o1 ?o2 ?lt FF (fin_none NN)
    | refine ok _ _ _ _ _ _ _ _ _ _ ?strm ?tab ?o1 ?o2 ?lt FF (fin_some NN)
    case o1 => exact off_one (by k_all)
    case o2 => exact off_one (by k_all)
    case lt => exact off_one (by k_all)
    case tab => refine Tab.some ?_ (by assumption) (by assumption); k_ne
    case strm =>
      refine strm_mk (by k_mem) ⟨_, _, _, _, by k_mem⟩ (off_one (by k_all)) (by intro e he; simp only [List.mem_cons, List.not_mem_nil, or_false] at he; rcases he with rfl | rfl | rfl | rfl | rfl <;> first | exact kin_func rfl | exact kin_plain rfl | exact kin_fields (by assumption) | exact kin_cell (by assumption)) (fun hoI => ?_)
      intro dp un gd cn cs a ccd outer A₀ base h₀ L m news upd s q n tq tn Q E B F X N T hk hd hu hI U hq hb hn hret
      obtain ⟨rest, hof, hnw, hup⟩ := upd_split U
      have N2 := news_sub (l' := (_, _) :: rest) N (fun e he => (hnw e).mpr (List.mem_cons.mp he))
      have hm := mem_rest hI hoI hnw
      simp only [List.forall_mem_cons] at hm
      obtain ⟨m1, m2, m3, m4, m5, -⟩ := hm
      obtain ⟨ks, hks⟩ : ∃ ks, KBw.bInts b = ks := ⟨_, rfl⟩
      have hkl : ks.length = b.size := by rw [← hks]; exact KBw.ints_length b
      clear hI U N
      refine wpAny_call ?_
      k_dflt (refine' code_nest ?k1 ?k2 ?k3 ?k4 ?k5 ?kA ?kF ?kK ?k6 ?k7 ?k8 ?k9 ?kB ?_ ?c2 ?c3 ?c4 ?c5; (case kA => exact rfl); (case kF => exact rfl); (case kK => assumption); (case k2 => k_asm); (case k1 => k_asm); (case k3 => k_asm); (case k4 => k_asm); (case k5 => k_asm); (case k6 => k_mem); (case k7 => exact codeRec_news (by k_asm) (by k_mem) (by assumption) (by assumption)); (case k8 => k_room); (case k9 => exact BindsTo.of_eq rfl); (case c5 => decide); (case kB => exact locs rfl); (case c2 => exact rfl); (case c3 => exact rfl); (case c4 => exact rfl); k_whole; intro g' L' h' FG' F' N' B' X' T'; (try dsimp only); (try k_lift B'); (try k_fold))
      k_steps
      rename News h₀ L _ _ => NN
      rename Fr h₀ L _ m => FF
      rw [picked_cut hq]
      exact hret _ _ _ _ FF (read_fin NN (read_place hq hkl) hup)
local macro_rules | `(tactic| walk_at "callWith ref") => `(tactic| (k_here; (rename Strm _ _ _ _ _ _ _ _ _ _ _ _ _ _ _ _ => sS); k_dflt (refine' callWith_F ?k1 ?_; (case k1 => exact FnAt.of (by k_asm) (by k_mem)); k_whole)))
local macro_rules | `(tactic| walk_at "call ref") => `(tactic| (k_here; (rename Strm _ _ _ _ _ _ _ _ _ _ _ _ _ _ _ _ => sS); (with_reducible show wpAny _ _ (call (Value.ref _) [Value.int _ _]) _ _ _); k_dflt (first | (refine' strm_read 1 rfl sS ?B ?F ?X ?N ?T ?hk ?hd ?hu ?hI ?U ?hq ?hb ?hn ?_; (case F => k_asm); (case N => k_asm); (case B => k_asm); (case X => k_asm); (case T => k_asm); (case hk => first | rfl | assumption); (case hd => ktr_room); (case hu => ktr_units); (case hI => (repeat (first | assumption | refine Sub.cons ?_))); (case U => k_updF); (case hq => omega); (case hb => omega); (case hn => decide)) | (refine' strm_read _ rfl sS ?B ?F ?X ?N ?T ?hk ?hd ?hu ?hI ?U ?hq ?hb ?hn ?_; (case F => k_asm); (case N => k_asm); (case B => k_asm); (case X => k_asm); (case T => k_asm); (case hk => first | rfl | assumption); (case hd => ktr_room); (case hu => ktr_units); (case hI => (repeat (first | assumption | refine Sub.cons ?_))); (case U => k_updF); (case hq => omega); (case hb => omega); (case hn => omega))); intro h' tk' t1 t2 F' N'; (try dsimp only)))
local macro_rules | `(tactic| walk_at "exec Raise some none") => `(tactic| (k_here; (with_reducible show wpAny _ _ (exec (Stmt.Raise (some (Expr.Call (Expr.Name ("ValueError" : Str) _) (_ :: _) [] _)) none _) _) _ _ _); (with_reducible rename Fr _ _ _ _ => kF); k_dflt (refine' Raise_madeB PySem.F.excCall_ValueError PySem.F.excRaise_ValueError ?hh (name_B kF ?k1 ?k2 ?k3 PyProof.Rows.Boot.«ValueError» ?k5 ⟨rfl, ?_⟩) ?a ?b; (case hh => rfl); (case a => rfl); (case b => rfl); (case k1 => k_asm); (case k2 => k_asm); (case k3 => k_is); (case k5 => decide))))
local macro_rules | `(tactic| walk_at "ite") => `(tactic| (k_here; first | (refine ite_pos (by first | omega | (simp only [decide_eq_true_eq, beq_iff_eq]; omega)) ?_) | (refine ite_neg (by first | omega | (simp only [decide_eq_true_eq, beq_iff_eq]; omega)) ?_)))
local macro_rules | `(tactic| walk_at "binaryOp Mod str ref") => `(tactic| (k_here; k_dflt (first | ((with_reducible show wpAny _ _ (binaryOp _ (Value.str (Str.ofString "expected %d bytes in a bytes1, but only %d remain") _) _) _ _ _); refine' modB ?N ?b ?a1 ?a2 ?a3 ?a4 ?_; (case N => k_asm); (case b => k_mem); (case a1 => omega); (case a2 => omega); (case a3 => omega); (case a4 => omega)) | ((with_reducible show wpAny _ _ (binaryOp _ (Value.str (Str.ofString "expected %d bytes in a string1, but only %d remain") _) _) _ _ _); refine' modS ?N ?b ?a1 ?a2 ?a3 ?a4 ?_; (case N => k_asm); (case b => k_mem); (case a1 => omega); (case a2 => omega); (case a3 => omega); (case a4 => omega))); intro _ _))
theorem ru1_ct (w : World) {p : Program} {loose : List Str} {mean : ExcName → Option Value} {mg mb : Str → Option Value}
  {dp un : Nat} {gd : Option (List Code)} {cn : Str} {cs : Scope} {a : Addr} {ccd : Value} {cl : List (Str × Addr)} {outer : List Env} {A₀ : Around} {base h₀ : Heap} {L : Addr} {m : Str → Option Value}
  {news I : List (Addr × Obj)} {upd : Obj → List (Addr × Obj)} {s : Shared} {f dx r : Addr} {k1 k2 tq : Tok} {b : Array UInt8} {q : Nat} {Q E : Value → Shared → Prop}
  (B : Below A₀ base outer h₀) (F : Fr h₀ L s.heap m) (X : (hd06.heap_39 w.params).In h₀) (N : News h₀ L s.heap news) (T : Top p loose mean mg mb h₀)
  (S : Strm Challenge.rw_dm0232_06.row.prog w (hd06.heap_39 w.params) p loose mean mg mb 52 f dx r k1 k2 b I) (hI : Sub I news) (U : UpdF dx (SD w.params k1 k2 r (q : Int) tq) news upd)
  (hk : cs.kind = .function) (hd : dp + 10 < recursionLimit) (hu : un + 60 < cLine) (hq : q ≤ b.size) (hb : b.size ≤ 1048576)
  (ok : ∀ h' tk t1 t2, q < b.size → Fr h₀ L h' m → News h₀ L h' (upd (SD w.params k1 k2 r ((q + 1 : Nat) : Int) t1)) → Q (.int (oct b q : Int) t2) { s with heap := h', toks := tk })
  (err : ∀ g e t u h' tk t1, q = b.size → Fr h₀ L g m → RaisedS base g (envX cn cs L a ccd cl :: outer) e (.type "ValueError") t [.str (msg0) u] (upd (SD w.params k1 k2 r (b.size : Int) t1)) h' → g.UpToSlots h' → E (.ref e) { s with heap := h', toks := tk }) :
  wpAny (model Challenge.rw_dm0232_06.row.prog w) (ktrTop dp un gd cn cs L a ccd cl outer) (call (.ref 21) [.ref f]) Q E s := by
  revert X; k_fill; intro X
  have hMk := kstMark
  obtain ⟨rest, hof, hnw, hup⟩ := upd_split U
  have N2 := news_sub (l' := (_, _) :: rest) N (fun e he => (hnw e).mpr (List.mem_cons.mp he))
  have hm : Sub I rest := mem_rest hI S.off hnw
  have mi := hm _ S.inst
  obtain ⟨oc, od, fd, sl, mf⟩ := S.fn
  have mf := hm _ mf
  clear hI U N
  have D0 : KtsDicts [] h₀ := ktsDicts_nil
  have hc : q < b.size ∨ q = b.size := by omega
  rcases hc with hc | hc
  · have hks := ints_cut1 hc
    refine wpAny_call ?_
    k_dflt ktr_enter
    k_steps
    · rename News h₀ L _ _ => NN
      rename Fr h₀ L _ m => FF
      exact ok _ _ _ _ hc FF (read_fin NN (by rw [cut1_size hc]) hup)
    · rename ¬ _ < _ => hx
      exact absurd (Nat.zero_lt_succ _) hx
  · have hks : KBw.bInts (cutB b q 1) = [] := by rw [hc]; exact ints_cut0
    have hsz : (cutB b q 1).size = 0 := by rw [hc]; exact cut0_size
    refine wpAny_call ?_
    k_dflt ktr_enter
    k_steps
    rename RaisedS _ _ _ _ _ _ _ _ _ => RR
    rename Fr h₀ L _ m => FF
    rename Heap.UpToSlots _ _ => UU
    exact err _ _ _ _ _ _ _ hc FF (raise_fin RR (by rw [hsz, hc]; rfl) hup) UU
local macro_rules | `(tactic| walk_at "call ref") => `(tactic| (k_here; (rename Strm _ _ _ _ _ _ _ _ _ _ _ _ _ _ _ _ => sS); (with_reducible show wpAny _ _ (call (Value.ref 21) [Value.ref _]) _ _ _); k_dflt (refine' ru1_ct _ ?B ?F ?X ?N ?T sS ?hI ?U ?hk ?hd ?hu ?hq ?hb (fun h' tk' t1 t2 hlt' F' N' => ?_) (fun g' e' t' u' h' tk' t1 heq' F' R' U' => ?_); (case F => k_asm); (case N => k_asm); (case B => k_asm); (case X => k_asm); (case T => k_asm); (case hk => first | rfl | assumption); (case hd => ktr_room); (case hu => ktr_units); (case hI => (repeat (first | assumption | refine Sub.cons ?_))); (case U => k_updF); (case hq => omega); (case hb => omega)); (all_goals (first | (exfalso; omega) | (try dsimp only)))))
theorem rb1_ct (w : World) {p : Program} {loose : List Str} {mean : ExcName → Option Value} {mg mb : Str → Option Value}
  {dp un : Nat} {gd : Option (List Code)} {cn : Str} {cs : Scope} {a : Addr} {ccd : Value} {cl : List (Str × Addr)} {outer : List Env} {A₀ : Around} {base h₀ : Heap} {L : Addr} {m : Str → Option Value}
  {news I : List (Addr × Obj)} {upd : Obj → List (Addr × Obj)} {s : Shared} {f dx r : Addr} {k1 k2 tq : Tok} {b : Array UInt8} {q : Nat} {Q E : Value → Shared → Prop}
  (B : Below A₀ base outer h₀) (F : Fr h₀ L s.heap m) (X : (hd06.heap_39 w.params).In h₀) (N : News h₀ L s.heap news) (T : Top p loose mean mg mb h₀)
  (S : Strm Challenge.rw_dm0232_06.row.prog w (hd06.heap_39 w.params) p loose mean mg mb 52 f dx r k1 k2 b I) (hI : Sub I news) (U : UpdF dx (SD w.params k1 k2 r (q : Int) tq) news upd)
  (hk : cs.kind = .function) (hd : dp + 14 < recursionLimit) (hu : un + 80 < cLine) (hq : q ≤ b.size) (hb : b.size ≤ 1048576)
  (ok : ∀ h' tk t1 t2, q < b.size → q + 1 + oct b q ≤ b.size → Fr h₀ L h' m → News h₀ L h' (upd (SD w.params k1 k2 r ((q + 1 + oct b q : Nat) : Int) t1)) → Q (.bytes (cutB b (q + 1) (oct b q)) t2) { s with heap := h', toks := tk })
  (err0 : ∀ g e t u h' tk t1, q = b.size → Fr h₀ L g m → RaisedS base g (envX cn cs L a ccd cl :: outer) e (.type "ValueError") t [.str (msg0) u] (upd (SD w.params k1 k2 r (b.size : Int) t1)) h' → g.UpToSlots h' → E (.ref e) { s with heap := h', toks := tk })
  (err1 : ∀ g e t u h' tk t1, q < b.size → b.size < q + 1 + oct b q → Fr h₀ L g m → RaisedS base g (envX cn cs L a ccd cl :: outer) e (.type "ValueError") t [.str (msgB (oct b q : Int) ((b.size - (q + 1) : Nat) : Int)) u] (upd (SD w.params k1 k2 r (b.size : Int) t1)) h' → g.UpToSlots h' → E (.ref e) { s with heap := h', toks := tk }) :
  wpAny (model Challenge.rw_dm0232_06.row.prog w) (ktrTop dp un gd cn cs L a ccd cl outer) (call (.ref 35) [.ref f]) Q E s := by
  revert X; k_fill; intro X
  have hMk := kstMark
  obtain ⟨rest, hof, hnw, hup⟩ := upd_split U
  have N2 := news_sub (l' := (_, _) :: rest) N (fun e he => (hnw e).mpr (List.mem_cons.mp he))
  have hm : Sub I rest := mem_rest hI S.off hnw
  have mi := hm _ S.inst
  obtain ⟨oc, od, fd, sl, mf⟩ := S.fn
  have mf := hm _ mf
  clear hI U N
  have D0 : KtsDicts [] h₀ := ktsDicts_nil
  have h256 := oct_lt b q
  have hcs : q = b.size ∨ (q < b.size ∧ q + 1 + oct b q ≤ b.size) ∨ (q < b.size ∧ b.size < q + 1 + oct b q) := by omega
  rcases hcs with h1 | ⟨h1, h2⟩ | ⟨h1, h2⟩
  · refine wpAny_call ?_
    k_dflt ktr_enter
    k_steps
    rename RaisedS _ _ _ _ _ _ _ _ _ => RR
    rename Fr h₀ L _ m => FF
    rename Heap.UpToSlots _ _ => UU
    exact err0 _ _ _ _ _ _ _ h1 FF (raise_fin RR (by rfl) hup) UU
  · obtain ⟨ks, hks⟩ : ∃ ks, KBw.bInts (cutB b (q + 1) (oct b q)) = ks := ⟨_, rfl⟩
    have hsz : (cutB b (q + 1) (oct b q)).size = oct b q := by rw [cutB_size]; omega
    have hkl : ks.length = oct b q := by rw [← hks, KBw.ints_length, hsz]
    refine wpAny_call ?_
    k_dflt ktr_enter
    k_steps
    rename News h₀ L _ _ => NN
    rename Fr h₀ L _ m => FF
    exact ok _ _ _ _ h1 h2 FF (read_fin NN (by rw [hsz]) hup)
  · obtain ⟨ks, hks⟩ : ∃ ks, KBw.bInts (cutB b (q + 1) (oct b q)) = ks := ⟨_, rfl⟩
    have hsz : (cutB b (q + 1) (oct b q)).size = b.size - (q + 1) := by rw [cutB_size]; omega
    have hkl : ks.length = b.size - (q + 1) := by rw [← hks, KBw.ints_length, hsz]
    refine wpAny_call ?_
    k_dflt ktr_enter
    k_steps
    rename RaisedS _ _ _ _ _ _ _ _ _ => RR
    rename Fr h₀ L _ m => FF
    rename Heap.UpToSlots _ _ => UU
    exact err1 _ _ _ _ _ _ _ h1 h2 FF (raise_fin2 RR (by rw [hsz]; omega) (by rw [hkl]) hup) UU
end Mine
end
section
open PySem PySem.W PyProof.Rows PySem.Calls PySem.Spec
set_option Elab.async false
set_option maxRecDepth 100000
set_option maxHeartbeats 8000000
namespace Mine
local macro_rules | `(tactic| k_room) => `(tactic| ktr_room)
local macro_rules | `(tactic| k_units) => `(tactic| ktr_units)
local macro_rules | `(tactic| k_mem) => `(tactic| first | exact List.Mem.head _ | (refine List.mem_cons_of_mem _ ?_; k_mem))
local macro_rules | `(tactic| walk_at "callWith ref") => `(tactic| (k_here; (rename Strm _ _ _ _ _ _ _ _ _ _ _ _ _ _ _ _ => sS); k_dflt (refine' callWith_F ?k1 ?_; (case k1 => exact FnAt.of (by k_asm) (by k_mem)); k_whole)))
local macro_rules | `(tactic| walk_at "call ref") => `(tactic| (k_here; (rename Strm _ _ _ _ _ _ _ _ _ _ _ _ _ _ _ _ => sS); (with_reducible show wpAny _ _ (call (Value.ref _) [Value.int _ _]) _ _ _); k_dflt (first | (refine' strm_read 1 rfl sS ?B ?F ?X ?N ?T ?hk ?hd ?hu ?hI ?U ?hq ?hb ?hn ?_; (case F => k_asm); (case N => k_asm); (case B => k_asm); (case X => k_asm); (case T => k_asm); (case hk => first | rfl | assumption); (case hd => ktr_room); (case hu => ktr_units); (case hI => (repeat (first | assumption | refine Sub.cons ?_))); (case U => k_updF); (case hq => omega); (case hb => omega); (case hn => decide)) | (refine' strm_read _ rfl sS ?B ?F ?X ?N ?T ?hk ?hd ?hu ?hI ?U ?hq ?hb ?hn ?_; (case F => k_asm); (case N => k_asm); (case B => k_asm); (case X => k_asm); (case T => k_asm); (case hk => first | rfl | assumption); (case hd => ktr_room); (case hu => ktr_units); (case hI => (repeat (first | assumption | refine Sub.cons ?_))); (case U => k_updF); (case hq => omega); (case hb => omega); (case hn => omega))); intro h' tk' t1 t2 F' N'; (try dsimp only)))
local macro_rules | `(tactic| walk_at "exec Raise some none") => `(tactic| (k_here; (with_reducible show wpAny _ _ (exec (Stmt.Raise (some (Expr.Call (Expr.Name ("ValueError" : Str) _) (_ :: _) [] _)) none _) _) _ _ _); (with_reducible rename Fr _ _ _ _ => kF); k_dflt (refine' Raise_madeB PySem.F.excCall_ValueError PySem.F.excRaise_ValueError ?hh (name_B kF ?k1 ?k2 ?k3 PyProof.Rows.Boot.«ValueError» ?k5 ⟨rfl, ?_⟩) ?a ?b; (case hh => rfl); (case a => rfl); (case b => rfl); (case k1 => k_asm); (case k2 => k_asm); (case k3 => k_is); (case k5 => decide))))
local macro_rules | `(tactic| walk_at "ite") => `(tactic| (k_here; first | (refine ite_pos (by first | omega | (simp only [decide_eq_true_eq, beq_iff_eq]; omega)) ?_) | (refine ite_neg (by first | omega | (simp only [decide_eq_true_eq, beq_iff_eq]; omega)) ?_)))
local macro_rules | `(tactic| walk_at "binaryOp Mod str ref") => `(tactic| (k_here; k_dflt (first | ((with_reducible show wpAny _ _ (binaryOp _ (Value.str (Str.ofString "expected %d bytes in a bytes1, but only %d remain") _) _) _ _ _); refine' modB ?N ?b ?a1 ?a2 ?a3 ?a4 ?_; (case N => k_asm); (case b => k_mem); (case a1 => omega); (case a2 => omega); (case a3 => omega); (case a4 => omega)) | ((with_reducible show wpAny _ _ (binaryOp _ (Value.str (Str.ofString "expected %d bytes in a string1, but only %d remain") _) _) _ _ _); refine' modS ?N ?b ?a1 ?a2 ?a3 ?a4 ?_; (case N => k_asm); (case b => k_mem); (case a1 => omega); (case a2 => omega); (case a3 => omega); (case a4 => omega))); intro _ _))
local macro_rules | `(tactic| walk_at "call ref") => `(tactic| (k_here; (rename Strm _ _ _ _ _ _ _ _ _ _ _ _ _ _ _ _ => sS); (with_reducible show wpAny _ _ (call (Value.ref 21) [Value.ref _]) _ _ _); k_dflt (refine' ru1_ct _ ?B ?F ?X ?N ?T sS ?hI ?U ?hk ?hd ?hu ?hq ?hb (fun h' tk' t1 t2 hlt' F' N' => ?_) (fun g' e' t' u' h' tk' t1 heq' F' R' U' => ?_); (case F => k_asm); (case N => k_asm); (case B => k_asm); (case X => k_asm); (case T => k_asm); (case hk => first | rfl | assumption); (case hd => ktr_room); (case hu => ktr_units); (case hI => (repeat (first | assumption | refine Sub.cons ?_))); (case U => k_updF); (case hq => omega); (case hb => omega)); (all_goals (first | (exfalso; omega) | (try dsimp only)))))
local macro_rules | `(tactic| walk_at "call builtin:bytes.decode") => `(tactic| (k_here; (with_reducible show wpAny _ _ (call (Value.builtin "bytes.decode") [Value.bytes _ _, Value.str _ _]) _ _ _); refine decode_lat (by omega) ?_; intro _ _))
theorem rs1_ct (w : World) {p : Program} {loose : List Str} {mean : ExcName → Option Value} {mg mb : Str → Option Value}
  {dp un : Nat} {gd : Option (List Code)} {cn : Str} {cs : Scope} {a : Addr} {ccd : Value} {cl : List (Str × Addr)} {outer : List Env} {A₀ : Around} {base h₀ : Heap} {L : Addr} {m : Str → Option Value}
  {news I : List (Addr × Obj)} {upd : Obj → List (Addr × Obj)} {s : Shared} {f dx r : Addr} {k1 k2 tq : Tok} {b : Array UInt8} {q : Nat} {Q E : Value → Shared → Prop}
  (B : Below A₀ base outer h₀) (F : Fr h₀ L s.heap m) (X : (hd06.heap_39 w.params).In h₀) (N : News h₀ L s.heap news) (T : Top p loose mean mg mb h₀)
  (S : Strm Challenge.rw_dm0232_06.row.prog w (hd06.heap_39 w.params) p loose mean mg mb 52 f dx r k1 k2 b I) (hI : Sub I news) (U : UpdF dx (SD w.params k1 k2 r (q : Int) tq) news upd)
  (hk : cs.kind = .function) (hd : dp + 14 < recursionLimit) (hu : un + 80 < cLine) (hq : q ≤ b.size) (hb : b.size ≤ 1048576)
  (ok : ∀ h' tk t1 t2, q < b.size → q + 1 + oct b q ≤ b.size → Fr h₀ L h' m → News h₀ L h' (upd (SD w.params k1 k2 r ((q + 1 + oct b q : Nat) : Int) t1)) → Q (.str (latin (cutB b (q + 1) (oct b q))) t2) { s with heap := h', toks := tk })
  (err0 : ∀ g e t u h' tk t1, q = b.size → Fr h₀ L g m → RaisedS base g (envX cn cs L a ccd cl :: outer) e (.type "ValueError") t [.str (msg0) u] (upd (SD w.params k1 k2 r (b.size : Int) t1)) h' → g.UpToSlots h' → E (.ref e) { s with heap := h', toks := tk })
  (err1 : ∀ g e t u h' tk t1, q < b.size → b.size < q + 1 + oct b q → Fr h₀ L g m → RaisedS base g (envX cn cs L a ccd cl :: outer) e (.type "ValueError") t [.str (msgS (oct b q : Int) ((b.size - (q + 1) : Nat) : Int)) u] (upd (SD w.params k1 k2 r (b.size : Int) t1)) h' → g.UpToSlots h' → E (.ref e) { s with heap := h', toks := tk }) :
  wpAny (model Challenge.rw_dm0232_06.row.prog w) (ktrTop dp un gd cn cs L a ccd cl outer) (call (.ref 28) [.ref f]) Q E s := by
  revert X; k_fill; intro X
  have hMk := kstMark
  obtain ⟨rest, hof, hnw, hup⟩ := upd_split U
  have N2 := news_sub (l' := (_, _) :: rest) N (fun e he => (hnw e).mpr (List.mem_cons.mp he))
  have hm : Sub I rest := mem_rest hI S.off hnw
  have mi := hm _ S.inst
  obtain ⟨oc, od, fd, sl, mf⟩ := S.fn
  have mf := hm _ mf
  clear hI U N
  have D0 : KtsDicts [] h₀ := ktsDicts_nil
  have h256 := oct_lt b q
  have hcs : q = b.size ∨ (q < b.size ∧ q + 1 + oct b q ≤ b.size) ∨ (q < b.size ∧ b.size < q + 1 + oct b q) := by omega
  rcases hcs with h1 | ⟨h1, h2⟩ | ⟨h1, h2⟩
  · refine wpAny_call ?_
    k_dflt ktr_enter
    k_steps
    rename RaisedS _ _ _ _ _ _ _ _ _ => RR
    rename Fr h₀ L _ m => FF
    rename Heap.UpToSlots _ _ => UU
    exact err0 _ _ _ _ _ _ _ h1 FF (raise_fin RR (by rfl) hup) UU
  · obtain ⟨ks, hks⟩ : ∃ ks, KBw.bInts (cutB b (q + 1) (oct b q)) = ks := ⟨_, rfl⟩
    have hsz : (cutB b (q + 1) (oct b q)).size = oct b q := by rw [cutB_size]; omega
    have hkl : ks.length = oct b q := by rw [← hks, KBw.ints_length, hsz]
    refine wpAny_call ?_
    k_dflt ktr_enter
    k_steps
    rename News h₀ L _ _ => NN
    rename Fr h₀ L _ m => FF
    exact ok _ _ _ _ h1 h2 FF (read_fin NN (by rw [hsz]) hup)
  · obtain ⟨ks, hks⟩ : ∃ ks, KBw.bInts (cutB b (q + 1) (oct b q)) = ks := ⟨_, rfl⟩
    have hsz : (cutB b (q + 1) (oct b q)).size = b.size - (q + 1) := by rw [cutB_size]; omega
    have hkl : ks.length = b.size - (q + 1) := by rw [← hks, KBw.ints_length, hsz]
    refine wpAny_call ?_
    k_dflt ktr_enter
    k_steps
    rename RaisedS _ _ _ _ _ _ _ _ _ => RR
    rename Fr h₀ L _ m => FF
    rename Heap.UpToSlots _ _ => UU
    exact err1 _ _ _ _ _ _ _ h1 h2 FF (raise_fin2 RR (by rw [hsz]; omega) (by rw [hkl]) hup) UU
end Mine
end
section
open PySem PySem.W PyProof.Rows PySem.Calls PySem.Spec
set_option Elab.async false
namespace Mine
/-- the items that stand whole ahead of p -/
inductive Told (b : Array UInt8) : List (Array UInt8) → Nat → Prop where
  | nil : Told b [] 0
  | snoc {xs : List (Array UInt8)} {p : Nat} : Told b xs p → p < b.size → p + 1 + oct b p ≤ b.size → Told b (xs ++ [cutB b (p + 1) (oct b p)]) (p + 1 + oct b p)
def msgX (c : Bool) (n k : Int) : Str := if c then msgS n k else msgB n k
def Ends (b : Array UInt8) (fl : Bool) (xs : List (Array UInt8)) (x : Str) : Prop := ∃ p, Told b xs p ∧ ((p = b.size ∧ x = msg0) ∨ (p < b.size ∧ b.size < p + 1 + oct b p ∧ x = msgX fl (oct b p : Int) ((b.size - (p + 1) : Nat) : Int)))
/-- the octets of pieces: each with its size ahead -/
def enc (ps : List (Array UInt8)) : List UInt8 := ps.flatMap fun c => c.size.toUInt8 :: c.toList
theorem enc_append (ps qs : List (Array UInt8)) : enc (ps ++ qs) = enc ps ++ enc qs := by unfold enc; rw [List.flatMap_append]
theorem enc_one (c : Array UInt8) : enc [c] = c.size.toUInt8 :: c.toList := by unfold enc; simp
def pos (ps : List (Array UInt8)) (n : Nat) : Nat := (enc (ps.take n)).length
theorem pos_zero (ps : List (Array UInt8)) : pos ps 0 = 0 := rfl
theorem pos_all (ps : List (Array UInt8)) : pos ps ps.length = (enc ps).length := by unfold pos; rw [List.take_length]
theorem pos_succ {ps : List (Array UInt8)} {i : Nat} {c : Array UInt8} (h : ps[i]? = some c) : pos ps (i + 1) = pos ps i + 1 + c.size := by
  unfold pos
  rw [List.take_add_one, h, Option.toList_some, enc_append, enc_one]
  simp; omega
theorem pos_app {ps qs : List (Array UInt8)} {i : Nat} (h : i ≤ ps.length) : pos (ps ++ qs) i = pos ps i := by
  unfold pos
  rw [List.take_append_of_le_length h]
theorem pos_lt {ps : List (Array UInt8)} {i j : Nat} (h : i < j) (hj : j ≤ ps.length) : pos ps i < pos ps j := by
  induction j with
  | zero => omega
  | succ j ih =>
    have e := pos_succ (List.getElem?_eq_getElem (show j < ps.length by omega))
    by_cases hij : i = j
    · subst hij; omega
    · have := ih (by omega) (by omega); omega
theorem pos_le {ps : List (Array UInt8)} {i j : Nat} (h : i ≤ j) (hj : j ≤ ps.length) : pos ps i ≤ pos ps j := by
  by_cases e : i = j
  · rw [e]; exact Nat.le_refl _
  · exact Nat.le_of_lt (pos_lt (by omega) hj)
theorem enc_len {ps : List (Array UInt8)} {n : Nat} (h : ∀ c ∈ ps, c.size ≤ n) : (enc ps).length ≤ (n + 1) * ps.length := by
  induction ps with
  | nil => simp [enc]
  | cons c ps ih =>
    rw [show c :: ps = [c] ++ ps from rfl, enc_append, enc_one, List.length_append, List.length_append, List.length_singleton, Nat.mul_add]
    have h1 := h c (.head _)
    have h2 := ih fun d hd => h d (.tail _ hd)
    simp only [List.length_cons, Array.length_toList, Nat.mul_one]
    omega
theorem split_at {ps : List (Array UInt8)} {i : Nat} {c : Array UInt8} (h : ps[i]? = some c) : enc ps = enc (ps.take i) ++ (c.size.toUInt8 :: c.toList ++ enc (ps.drop (i + 1))) := by
  have hi : i < ps.length := by rw [List.getElem?_eq_some_iff] at h; exact h.1
  have hc : ps[i] = c := by rw [List.getElem?_eq_some_iff] at h; exact h.2
  have e : ps = ps.take i ++ ([c] ++ ps.drop (i + 1)) := by
    rw [← hc]; conv => lhs; rw [← List.take_append_drop i ps]
    rw [List.drop_eq_getElem_cons hi]; rfl
  conv => lhs; rw [e]
  rw [enc_append, enc_append, enc_one]
theorem size_u8 {n : Nat} (h : n ≤ 255) : (n.toUInt8).toNat = n := by rw [Nat.toUInt8, UInt8.toNat_ofNat']; omega
section
variable {b : Array UInt8} {ps : List (Array UInt8)} {i k : Nat} {c : Array UInt8}
theorem cut_oct (hb : b.toList = enc ps) (hc : ps[i]? = some c) (hz : c.size ≤ 255) (hk : pos ps i < k) : oct (cutB b 0 k) (pos ps i) = c.size := by
  unfold oct cutB
  dsimp only
  rw [List.drop_zero, hb, split_at hc, List.getD_eq_getElem?_getD, List.getElem?_take_of_lt hk]
  unfold pos
  rw [List.getElem?_append_right (Nat.le_refl _), Nat.sub_self]
  simp only [List.cons_append, List.getElem?_cons_zero, Option.getD_some]
  exact size_u8 hz
theorem cut_piece (hb : b.toList = enc ps) (hc : ps[i]? = some c) (hk : pos ps (i + 1) ≤ k) : cutB (cutB b 0 k) (pos ps i + 1) c.size = c := by
  have e := pos_succ hc
  unfold cutB
  dsimp only
  rw [List.drop_zero, hb, split_at hc]
  have e2 : List.take c.size (List.drop (pos ps i + 1) (List.take k (enc (List.take i ps) ++ (c.size.toUInt8 :: c.toList ++ enc (List.drop (i + 1) ps))))) = c.toList := by
    rw [List.drop_take, List.take_take]
    have e3 : List.drop (pos ps i + 1) (enc (List.take i ps) ++ (c.size.toUInt8 :: c.toList ++ enc (List.drop (i + 1) ps))) = c.toList ++ enc (List.drop (i + 1) ps) := by
      rw [show pos ps i + 1 = (enc (List.take i ps)).length + 1 from rfl, List.drop_append]
      simp
    rw [e3, Nat.min_eq_left (by omega), List.take_append_of_le_length (by simp), List.take_of_length_le (by simp)]
  rw [e2, Array.toArray_toList]
theorem told_enc {xs : List (Array UInt8)} {p : Nat} (hb : b.toList = enc ps) (hz : ∀ c ∈ ps, c.size ≤ 255) (hk : k ≤ b.size) (h : Told (cutB b 0 k) xs p) : xs.length ≤ ps.length ∧ xs = ps.take xs.length ∧ p = pos ps xs.length := by
  have hbs : b.size = (enc ps).length := by rw [← hb, Array.length_toList]
  have hcs : (cutB b 0 k).size = k := by rw [cutB_size]; omega
  induction h with
  | nil => exact ⟨Nat.zero_le _, by simp, (pos_zero _).symm⟩
  | @snoc xs p _ h1 h2 ih =>
    obtain ⟨e1, e2, e3⟩ := ih
    rw [hcs] at h1 h2
    have hi : xs.length < ps.length := by
      rcases Nat.lt_or_ge xs.length ps.length with h | h
      · exact h
      · have : xs.length = ps.length := by omega
        rw [this, pos_all] at e3; omega
    have hc := List.getElem?_eq_getElem hi
    have ho : oct (cutB b 0 k) p = ps[xs.length].size := by rw [e3]; exact cut_oct hb hc (hz _ (List.getElem_mem hi)) (by omega)
    have hp := pos_succ hc
    rw [ho] at h2 ⊢
    have hq : cutB (cutB b 0 k) (p + 1) ps[xs.length].size = ps[xs.length] := by rw [e3]; exact cut_piece hb hc (by omega)
    rw [hq, List.length_append, List.length_singleton]
    refine ⟨hi, ?_, by omega⟩
    rw [List.take_add_one, hc, Option.toList_some, ← e2]
theorem ends_cut {fl : Bool} {xs : List (Array UInt8)} {x : Str} (hb : b.toList = enc ps) (hz : ∀ c ∈ ps, c.size ≤ 255) (hk : k ≤ b.size) (h : Ends (cutB b 0 k) fl xs x) :
    ∃ i, i ≤ ps.length ∧ xs = ps.take i ∧ ((pos ps i = k ∧ x = msg0) ∨ ∃ c, ps[i]? = some c ∧ pos ps i < k ∧ k < pos ps (i + 1) ∧ x = msgX fl (c.size : Int) ((k : Int) - (pos ps i : Int) - 1)) := by
  have hbs : b.size = (enc ps).length := by rw [← hb, Array.length_toList]
  have hcs : (cutB b 0 k).size = k := by rw [cutB_size]; omega
  obtain ⟨p, ht, he⟩ := h
  obtain ⟨e1, e2, e3⟩ := told_enc hb hz hk ht
  refine ⟨xs.length, e1, e2, ?_⟩
  rw [hcs] at he
  rcases he with ⟨h1, h2⟩ | ⟨h1, h2, h3⟩
  · exact .inl ⟨by omega, h2⟩
  · have hi : xs.length < ps.length := by
      rcases Nat.lt_or_ge xs.length ps.length with h | h
      · exact h
      · have : xs.length = ps.length := by omega
        rw [this, pos_all] at e3; omega
    have hc := List.getElem?_eq_getElem hi
    have ho : oct (cutB b 0 k) p = ps[xs.length].size := by rw [e3]; exact cut_oct hb hc (hz _ (List.getElem_mem hi)) (by omega)
    have hp := pos_succ hc
    rw [ho] at h2 h3
    refine .inr ⟨_, hc, by omega, by omega, ?_⟩
    rw [h3]; congr 1; omega
theorem cut_self : cutB b 0 b.size = b := cut_whole
theorem ends_all {fl : Bool} {xs : List (Array UInt8)} {x : Str} (hb : b.toList = enc ps) (hz : ∀ c ∈ ps, c.size ≤ 255) (h : Ends b fl xs x) : xs = ps ∧ x = msg0 := by
  have hbs : b.size = (enc ps).length := by rw [← hb, Array.length_toList]
  have h' : Ends (cutB b 0 b.size) fl xs x := by rw [cut_self]; exact h
  obtain ⟨i, hi, e, hx⟩ := ends_cut hb hz (Nat.le_refl _) h'
  have hil : i = ps.length := by
    rcases Nat.lt_or_ge i ps.length with hlt | hge
    · exfalso
      have h1 := pos_lt (ps := ps) (i := i) (j := i + 1) (by omega) hlt
      have h2 := pos_le (ps := ps) (i := i + 1) (j := ps.length) hlt (Nat.le_refl _)
      rw [pos_all] at h2
      rcases hx with ⟨h3, _⟩ | ⟨c, _, _, h4, _⟩ <;> omega
    · omega
  subst hil
  refine ⟨by rw [e, List.take_length], ?_⟩
  rcases hx with ⟨_, h⟩ | ⟨c, hc, _⟩
  · exact h
  · rw [List.getElem?_eq_none (Nat.le_refl _)] at hc; cases hc
theorem told_max {xs : List (Array UInt8)} {p : Nat} (hb : b.toList = enc ps) (hz : ∀ c ∈ ps, c.size ≤ 255) (hk : k ≤ b.size) (h : Told (cutB b 0 k) xs p) : xs.length + 1 ≤ ps.length + 1 := by
  have := (told_enc hb hz hk h).1; omega
theorem told_max' {xs : List (Array UInt8)} {p : Nat} (hb : b.toList = enc ps) (hz : ∀ c ∈ ps, c.size ≤ 255) (h : Told b xs p) : xs.length + 1 ≤ ps.length + 1 :=
  told_max (k := b.size) hb hz (Nat.le_refl _) (by rw [cut_self]; exact h)
/-- what a read at the i-th piece gives -/
theorem read_at (hb : b.toList = enc ps) (hz : ∀ c ∈ ps, c.size ≤ 255) (hc : ps[i]? = some c) : pos ps i < b.size ∧ pos ps i + 1 + oct b (pos ps i) = pos ps (i + 1) ∧ pos ps (i + 1) ≤ b.size ∧ cutB b (pos ps i + 1) (oct b (pos ps i)) = c := by
  have hbs : b.size = (enc ps).length := by rw [← hb, Array.length_toList]
  have hi : i < ps.length := by rw [List.getElem?_eq_some_iff] at hc; exact hc.1
  have hm : c ∈ ps := List.mem_of_getElem? hc
  have hp := pos_succ hc
  have h2 := pos_le (ps := ps) (i := i + 1) (j := ps.length) hi (Nat.le_refl _)
  rw [pos_all] at h2
  have ho := cut_oct (k := b.size) hb hc (hz _ hm) (by omega)
  have hq := cut_piece (k := b.size) hb hc (by omega)
  rw [cut_self] at ho hq
  rw [ho]
  exact ⟨by omega, by omega, by omega, hq⟩
end
/-- laid pieces: the octets and the ends -/
structure Lay (ps : List (Array UInt8)) (b : Array UInt8) (es : List Int) : Prop where
  oct : b.toList = enc ps
  ends : es = (List.range (ps.length + 1)).map fun i => (pos ps i : Int)
theorem Lay.nil : Lay [] #[] [0] := ⟨rfl, rfl⟩
theorem Lay.size {ps : List (Array UInt8)} {b : Array UInt8} {es : List Int} (h : Lay ps b es) : b.size = pos ps ps.length := by rw [pos_all, ← h.oct, Array.length_toList]
theorem Lay.snoc {ps : List (Array UInt8)} {b d : Array UInt8} {es : List Int} {c : Array UInt8} {e : Int} (h : Lay ps b es) (hd : d = byteArr [(c.size : Int)]) (he : e = ((b ++ d ++ c).size : Int)) : Lay (ps ++ [c]) (b ++ d ++ c) (es ++ [e]) := by
  subst hd he
  have ho : (b ++ byteArr [(c.size : Int)] ++ c).toList = enc (ps ++ [c]) := by
    rw [enc_append, enc_one, ← h.oct]
    simp [byteArr]
  refine ⟨ho, ?_⟩
  rw [List.length_append, List.length_singleton, List.range_succ, List.map_append, List.map_singleton]
  congr 1
  · rw [h.ends]
    refine List.map_congr_left fun i hi => ?_
    rw [List.mem_range] at hi
    rw [pos_app (by omega)]
  · have : pos (ps ++ [c]) (ps.length + 1) = (b ++ byteArr [(c.size : Int)] ++ c).size := by
      rw [show ps.length + 1 = (ps ++ [c]).length by simp, pos_all, ← ho, Array.length_toList]
    rw [this]
theorem Lay.len {ps : List (Array UInt8)} {b : Array UInt8} {es : List Int} (h : Lay ps b es) : es.length = ps.length + 1 := by rw [h.ends]; simp
theorem Lay.get {ps : List (Array UInt8)} {b : Array UInt8} {es : List Int} (h : Lay ps b es) {i : Nat} (hi : i ≤ ps.length) : es.getD i 0 = (pos ps i : Int) := by
  rw [h.ends, List.getD_eq_getElem?_getD, List.getElem?_map, List.getElem?_range (by omega)]; rfl
theorem filt_range {f : Nat → Int} {k : Int} {i : Nat} : ∀ n, i ≤ n → (∀ j, j < n → (f j ≤ k ↔ j < i)) → (((List.range n).map f).filter fun e => decide (e ≤ k)).length = i
  | 0, h, _ => by simp; omega
  | n + 1, h, hf => by
    rw [List.range_succ, List.map_append, List.filter_append, List.length_append, List.map_singleton]
    by_cases hi : i ≤ n
    · rw [filt_range n hi fun j hj => hf j (by omega), List.filter_cons_of_neg (by have := hf n (by omega); simp only [decide_eq_true_eq]; omega)]; simp
    · rw [List.filter_cons_of_pos (by have := hf n (by omega); simp only [decide_eq_true_eq]; omega), List.filter_nil, List.length_singleton]
      have : (((List.range n).map f).filter fun e => decide (e ≤ k)).length = n := filt_range (i := n) n (Nat.le_refl _) fun j hj => by have := hf j (by omega); omega
      omega
/-- how many of the pieces end ahead of the cut -/
theorem Lay.whole {ps : List (Array UInt8)} {b : Array UInt8} {es : List Int} (h : Lay ps b es) {i k : Nat} (hi : i ≤ ps.length) (h1 : pos ps i ≤ k) (h2 : i < ps.length → k < pos ps (i + 1)) :
    ((es.drop 1).filter fun e => decide (e ≤ (k : Int))).length = i := by
  have e : es.drop 1 = (List.range ps.length).map fun i => (pos ps (i + 1) : Int) := by
    rw [h.ends, List.range_succ_eq_map, List.map_cons, List.drop_succ_cons, List.drop_zero, List.map_map]; rfl
  rw [e]
  refine filt_range _ hi fun j hj => ?_
  constructor
  · intro hle
    rcases Nat.lt_or_ge j i with h | h
    · exact h
    · exfalso
      have a1 := h2 (by omega)
      have a2 := pos_le (ps := ps) (i := i + 1) (j := j + 1) (by omega) (by omega)
      omega
  · intro hlt
    have := pos_le (ps := ps) (i := j + 1) (j := i) (by omega) hi
    omega
theorem place_ex {ps : List (Array UInt8)} {k : Nat} : ∀ n, n ≤ ps.length → ∃ i, i ≤ n ∧ pos ps i ≤ k ∧ (i < n → k < pos ps (i + 1))
  | 0, _ => ⟨0, Nat.le_refl _, Nat.zero_le _, fun h => absurd h (Nat.lt_irrefl _)⟩
  | n + 1, h => by
    obtain ⟨i, h1, h2, h3⟩ := place_ex (ps := ps) (k := k) n (by omega)
    by_cases hi : i < n
    · exact ⟨i, by omega, h2, fun _ => h3 hi⟩
    · have e : i = n := by omega
      subst e
      by_cases hk : k < pos ps (i + 1)
      · exact ⟨i, by omega, h2, fun _ => hk⟩
      · exact ⟨i + 1, Nat.le_refl _, by omega, fun h => absurd h (Nat.lt_irrefl _)⟩
theorem cut_is {b : Array UInt8} {ps : List (Array UInt8)} {i k : Nat} {fl : Bool} {xs : List (Array UInt8)} {x : Str} (hb : b.toList = enc ps) (hz : ∀ c ∈ ps, c.size ≤ 255) (hk : k ≤ b.size)
    (hi : i ≤ ps.length) (h1 : pos ps i ≤ k) (h2 : i < ps.length → k < pos ps (i + 1)) (h : Ends (cutB b 0 k) fl xs x) :
    xs = ps.take i ∧ ((pos ps i = k ∧ x = msg0) ∨ ∃ c, ps[i]? = some c ∧ pos ps i < k ∧ x = msgX fl (c.size : Int) ((k : Int) - (pos ps i : Int) - 1)) := by
  obtain ⟨j, hj, e, hx⟩ := ends_cut hb hz hk h
  have hji : j = i := by
    have hjk : pos ps j ≤ k ∧ (j < ps.length → k < pos ps (j + 1)) := by
      rcases hx with ⟨a1, _⟩ | ⟨c, a1, a2, a3, _⟩
      · refine ⟨by omega, fun hlt => ?_⟩
        have := pos_lt (ps := ps) (i := j) (j := j + 1) (by omega) hlt
        omega
      · exact ⟨by omega, fun _ => a3⟩
    rcases Nat.lt_trichotomy j i with hlt | hlt | hlt
    · have a1 := hjk.2 (by omega)
      have a2 := pos_le (ps := ps) (i := j + 1) (j := i) hlt hi
      omega
    · exact hlt
    · have a1 := h2 (by omega)
      have a2 := pos_le (ps := ps) (i := i + 1) (j := j) hlt hj
      omega
  subst hji
  refine ⟨e, ?_⟩
  rcases hx with a | ⟨c, a1, a2, a3, a4⟩
  · exact .inl a
  · exact .inr ⟨c, a1, a2, a4⟩
end Mine
end
section
open PySem PySem.W PyProof.Rows PySem.Calls PySem.Spec
set_option Elab.async false
namespace Mine
def mapStep (m : List (Str × Array UInt8)) (r : Array UInt8 × Array UInt8) : List (Str × Array UInt8) := if r.2.size = 0 then bdel m (latin r.1) else bset m (latin r.1) r.2
def mapOf (rs : List (Array UInt8 × Array UInt8)) : List (Str × Array UInt8) := rs.foldl mapStep []
theorem mapOf_snoc (rs : List (Array UInt8 × Array UInt8)) (r : Array UInt8 × Array UInt8) : mapOf (rs ++ [r]) = mapStep (mapOf rs) r := by unfold mapOf; rw [List.foldl_append]; rfl
theorem mapStep_len (m : List (Str × Array UInt8)) (r : Array UInt8 × Array UInt8) : (mapStep m r).length ≤ m.length + 1 := by
  unfold mapStep
  split
  · unfold bdel; exact Nat.le_succ_of_le (List.length_filter_le _ _)
  · unfold bset; split <;> simp
theorem mapOf_len (rs : List (Array UInt8 × Array UInt8)) : (mapOf rs).length ≤ rs.length := by
  have key : ∀ (rs : List (Array UInt8 × Array UInt8)) m, (rs.foldl mapStep m).length ≤ m.length + rs.length := by
    intro rs
    induction rs with
    | nil => intro m; simp
    | cons r rs ih => intro m; have h1 := ih (mapStep m r); have h2 := mapStep_len m r; rw [List.foldl_cons, List.length_cons]; omega
  have := key rs []
  unfold mapOf; simpa using this
theorem bdel_none {c : List (Str × Array UInt8)} {k : Str} (h : bval c k = none) : bdel c k = c := by
  unfold bdel
  rw [List.filter_eq_self]
  intro z hz
  have : ¬ z.1 = k := fun e => by
    have := (bval_mem (c := c) (x := k)).mpr (List.mem_map.mpr ⟨z, hz, e⟩)
    rw [h] at this; cases this
  simpa using this
def flat (rs : List (Array UInt8 × Array UInt8)) : List (Array UInt8) := rs.flatMap fun r => [r.1, r.2]
theorem flat_snoc (rs : List (Array UInt8 × Array UInt8)) (r : Array UInt8 × Array UInt8) : flat (rs ++ [r]) = flat rs ++ [r.1] ++ [r.2] := by unfold flat; rw [List.flatMap_append]; simp
theorem flat_len (rs : List (Array UInt8 × Array UInt8)) : (flat rs).length = 2 * rs.length := by
  induction rs with
  | nil => rfl
  | cons r rs ih => rw [show flat (r :: rs) = r.1 :: r.2 :: flat rs from rfl, List.length_cons, List.length_cons, ih, List.length_cons]; omega
/-- what a reading of the log tells, and its refusal -/
def MapEnd (b : Array UInt8) (rs : List (Array UInt8 × Array UInt8)) (x : Str) : Prop := Ends b true (flat rs) x ∨ ∃ k, Ends b false (flat rs ++ [k]) x
theorem told_len {b : Array UInt8} {xs : List (Array UInt8)} {p : Nat} (h : Told b xs p) : xs.length ≤ p := by
  induction h with
  | nil => exact Nat.le_refl _
  | snoc _ _ _ ih => rw [List.length_append, List.length_singleton]; omega
theorem told_size {b : Array UInt8} {xs : List (Array UInt8)} {p : Nat} (h : Told b xs p) : p ≤ b.size := by
  cases h with
  | nil => exact Nat.zero_le _
  | snoc _ _ h => exact h
section
variable {prog : Program} {w : World} {A : Around} {E : Value → Shared → Prop} {s : Shared} {x y : Array UInt8} {t u : Tok} {h₀ : Heap} {L d : Addr} {m : Str → Option Value} {news : List (Addr × Obj)} {o : Obj} {kvs : List (Str × Value)} {k : Str} {dflt : Value} {Q : Value → Shared → Prop}
theorem eq_bytes_diff (e : x ≠ y) (h : Q (.bool false) s) : wpAny (model prog w) A (compareOp .Eq (.bytes x t) (.bytes y u)) Q E s :=
  eq_bytes (by have : (x.toList == y.toList) = false := by simpa using e
               rw [this]; exact h)
theorem pop_none (N : News h₀ L s.heap news) (hm : (d, o) ∈ news) (hd : o.IsDictOf (PySem.strKind prog w) kvs) (lo : (d == sysModules) = false) (hl : valueAt kvs k = none) (h : Q dflt { s with toks := s.toks + 1 }) :
    wpAny (model prog w) A (call (.builtin "dict.pop") [.ref d, .str k t, dflt]) Q E s :=
  have hD := kda_dict N hm hd
  call_meetsIn PySem.F.slot_dict_pop hD.typeIs PySem.F.entry_dict_pop (PySem.F.args_dict_pop_3 _ _ _) (meets_dict_pop_default (PySem.strKind prog w) d (strKind_is _ _ _ _) lo (by rfl) dflt) ⟨kvs, hD, hl, h⟩
end
abbrev tupO (vs : Array Value) (j : Nat) : Obj := { cls := .type "tuple", data := .seq vs j }
/-- a list of records, each a tuple of a text and a list of octets -/
inductive RecIn (X : List (Addr × Obj)) : List Value → List (Array UInt8 × Array UInt8) → Prop where
  | nil : RecIn X [] []
  | cons {ad l : Addr} {j jl : Nat} {t : Tok} {vs : List Value} {k v : Array UInt8} {ys : List Value} {rs : List (Array UInt8 × Array UInt8)} : (ad, tupO #[.str (latin k) t, .ref l] j) ∈ X → (l, listOf vs.toArray jl) ∈ X → IntsAre vs (KBw.bInts v) → RecIn X ys rs → RecIn X (.ref ad :: ys) ((k, v) :: rs)
theorem RecIn.mono {X X' : List (Addr × Obj)} {ys : List Value} {rs : List (Array UInt8 × Array UInt8)} (h : RecIn X ys rs) (hs : ∀ q ∈ X, q ∈ X') : RecIn X' ys rs := by
  induction h with
  | nil => exact .nil
  | cons a b c _ ih => exact .cons (hs _ a) (hs _ b) c ih
theorem RecIn.append {X : List (Addr × Obj)} {ys zs : List Value} {rs qs : List (Array UInt8 × Array UInt8)} (h : RecIn X ys rs) (h' : RecIn X zs qs) : RecIn X (ys ++ zs) (rs ++ qs) := by
  induction h with
  | nil => exact h'
  | cons a b c _ ih => exact .cons a b c ih
theorem RecIn.length {X : List (Addr × Obj)} {ys : List Value} {rs : List (Array UInt8 × Array UInt8)} (h : RecIn X ys rs) : ys.length = rs.length := by
  induction h with
  | nil => rfl
  | cons _ _ _ _ ih => simp [ih]
theorem RecIn.reverse {X : List (Addr × Obj)} {ys : List Value} {rs : List (Array UInt8 × Array UInt8)} (h : RecIn X ys rs) : RecIn X ys.reverse rs.reverse := by
  induction h with
  | nil => exact .nil
  | cons a b c _ ih => rw [List.reverse_cons, List.reverse_cons]; exact ih.append (.cons a b c .nil)
theorem RecIn.take {X : List (Addr × Obj)} {ys : List Value} {rs : List (Array UInt8 × Array UInt8)} (h : RecIn X ys rs) : ∀ n, RecIn X (ys.take n) (rs.take n) := by
  induction h with
  | nil => intro n; simp; exact .nil
  | cons a b c _ ih =>
    intro n
    cases n with
    | zero => exact .nil
    | succ n => exact .cons a b c (ih n)
theorem RecIn.at {X : List (Addr × Obj)} {ys : List Value} {rs : List (Array UInt8 × Array UInt8)} (h : RecIn X ys rs) : ∀ {i : Nat} {w : Value}, ys[i]? = some w →
    ∃ ad l j jl t vs k v, w = .ref ad ∧ (ad, tupO #[.str (latin k) t, .ref l] j) ∈ X ∧ (l, listOf vs.toArray jl) ∈ X ∧ IntsAre vs (KBw.bInts v) ∧ rs[i]? = some (k, v) := by
  induction h with
  | nil => intro i w hw; simp at hw
  | @cons ad l j jl t vs k v ys rs a b c _ ih =>
    intro i w hw
    cases i with
    | zero => simp at hw; subst hw; exact ⟨ad, l, j, jl, t, vs, k, v, rfl, a, b, c, rfl⟩
    | succ i =>
      obtain ⟨ad', l', j', jl', t', vs', k', v', e, a', b', c', d'⟩ := ih (i := i) (w := w) (by simpa using hw)
      exact ⟨ad', l', j', jl', t', vs', k', v', e, a', b', c', by simpa using d'⟩
def dueStep (st : List Str × List (Str × Array UInt8)) (r : Array UInt8 × Array UInt8) : List Str × List (Str × Array UInt8) :=
  (st.1 ++ [latin r.1], if (st.1.any (· == latin r.1)) = false ∧ r.2.size ≠ 0 then bset st.2 (latin r.1) r.2 else st.2)
def dueUp (rs : List (Array UInt8 × Array UInt8)) (i : Nat) : List Str × List (Str × Array UInt8) := (rs.reverse.take i).foldl dueStep ([], [])
def dueOf (rs : List (Array UInt8 × Array UInt8)) : List (Str × Array UInt8) := (dueUp rs rs.length).2
theorem dueUp_succ {rs : List (Array UInt8 × Array UInt8)} {i : Nat} {r : Array UInt8 × Array UInt8} (h : rs.reverse[i]? = some r) : dueUp rs (i + 1) = dueStep (dueUp rs i) r := by
  unfold dueUp; rw [List.take_add_one, h, Option.toList_some, List.foldl_append]; rfl
theorem dueStep_len (st : List Str × List (Str × Array UInt8)) (r : Array UInt8 × Array UInt8) : (dueStep st r).1.length = st.1.length + 1 ∧ (dueStep st r).2.length ≤ st.2.length + 1 := by
  unfold dueStep
  refine ⟨by simp, ?_⟩
  dsimp only
  split
  · unfold bset; split <;> simp
  · omega
theorem dueUp_len (rs : List (Array UInt8 × Array UInt8)) : ∀ i, i ≤ rs.length → (dueUp rs i).1.length = i ∧ (dueUp rs i).2.length ≤ i
  | 0, _ => ⟨rfl, Nat.le_refl _⟩
  | i + 1, h => by
    have e : rs.reverse[i]? = some (rs.reverse[i]'(by simp; omega)) := List.getElem?_eq_getElem _
    rw [dueUp_succ e]
    have h1 := dueStep_len (dueUp rs i) (rs.reverse[i]'(by simp; omega))
    have h2 := dueUp_len rs i (by omega)
    omega
/-- the last value of a key, if it has any octets -/
def look (rs : List (Array UInt8 × Array UInt8)) (x : Str) : Option (Array UInt8) := match rs.reverse.find? fun r => latin r.1 = x with
  | some r => if r.2.size = 0 then none else some r.2
  | none => none
theorem look_snoc (rs : List (Array UInt8 × Array UInt8)) (r : Array UInt8 × Array UInt8) (x : Str) : look (rs ++ [r]) x = if latin r.1 = x then (if r.2.size = 0 then none else some r.2) else look rs x := by
  unfold look
  rw [List.reverse_append, List.reverse_singleton, List.singleton_append, List.find?_cons]
  by_cases h : latin r.1 = x
  · simp [h]
  · simp [h]
theorem map_look (rs : List (Array UInt8 × Array UInt8)) (x : Str) : bval (mapOf rs) x = look rs x := by
  have key : ∀ n (rs : List (Array UInt8 × Array UInt8)), rs.length = n → bval (mapOf rs) x = look rs x := by
    intro n
    induction n with
    | zero => intro rs h; rw [List.length_eq_zero_iff.mp h]; rfl
    | succ n ih =>
      intro rs h
      have hne : rs ≠ [] := by rintro rfl; simp at h
      rw [← List.dropLast_concat_getLast hne, mapOf_snoc, look_snoc]
      have hi := ih rs.dropLast (by rw [List.length_dropLast]; omega)
      generalize rs.getLast hne = r
      unfold mapStep
      by_cases hv : r.2.size = 0
      · rw [if_pos hv, bval_del, hi, if_pos hv]
        by_cases hx : x = latin r.1
        · rw [if_pos hx, if_pos hx.symm]
        · rw [if_neg hx, if_neg (Ne.symm hx)]
      · rw [if_neg hv, bval_set, hi, if_neg hv]
        by_cases hx : x = latin r.1
        · rw [if_pos hx, if_pos hx.symm]
        · rw [if_neg hx, if_neg (Ne.symm hx)]
  exact key _ rs rfl
theorem due_go (x : Str) : ∀ (l : List (Array UInt8 × Array UInt8)) (st : List Str × List (Str × Array UInt8)),
    bval (l.foldl dueStep st).2 x = if x ∈ st.1 then bval st.2 x else (match l.find? fun r => latin r.1 = x with | some r => if r.2.size = 0 then bval st.2 x else some r.2 | none => bval st.2 x)
  | [], st => by simp
  | r :: l, st => by
    rw [List.foldl_cons, due_go x l]
    have h1 : (dueStep st r).1 = st.1 ++ [latin r.1] := rfl
    have h2 : (st.1.any (· == latin r.1)) = false ↔ latin r.1 ∉ st.1 := by
      rw [Bool.eq_false_iff, ne_eq, List.any_eq_true]
      constructor
      · intro h hm; exact h ⟨_, hm, by simp⟩
      · rintro h ⟨y, hy, e⟩; exact h (by have := eq_of_beq e; rw [← this]; exact hy)
    rw [h1, List.find?_cons]
    by_cases hx : latin r.1 = x
    · simp only [hx, decide_true, List.mem_append, List.mem_singleton, or_true, if_true]
      unfold dueStep
      dsimp only
      rw [hx] at h2
      by_cases hm : x ∈ st.1
      · rw [if_pos hm, if_neg (by rw [hx, h2]; exact fun h => h.1 hm)]
      · rw [if_neg hm]
        by_cases hv : r.2.size = 0
        · rw [if_pos hv, if_neg (fun h => h.2 hv)]
        · rw [if_neg hv, if_pos ⟨by rw [hx, h2]; exact hm, hv⟩, bval_set, hx, if_pos rfl]
    · have hm : (x ∈ st.1 ++ [latin r.1]) = (x ∈ st.1) := by simp [Ne.symm hx]
      have hb : bval (dueStep st r).2 x = bval st.2 x := by
        unfold dueStep
        dsimp only
        split
        · rw [bval_set, if_neg (Ne.symm hx)]
        · rfl
      simp only [hm, hb, hx, decide_false]
theorem due_look (rs : List (Array UInt8 × Array UInt8)) (x : Str) : bval (dueOf rs) x = look rs x := by
  unfold dueOf dueUp look
  rw [List.take_of_length_le (by simp), due_go]
  simp only [List.not_mem_nil, if_false]
  rfl
theorem look_twice (rs : List (Array UInt8 × Array UInt8)) (x : Str) : look (rs ++ rs) x = look rs x := by
  unfold look
  rw [List.reverse_append, List.find?_append]
  cases rs.reverse.find? fun r => decide (latin r.1 = x) <;> rfl
theorem map_due (rs : List (Array UInt8 × Array UInt8)) (x : Str) : bval (mapOf rs) x = bval (dueOf rs) x := by rw [map_look, due_look]
theorem map_due2 (rs : List (Array UInt8 × Array UInt8)) (x : Str) : bval (mapOf (rs ++ rs)) x = bval (dueOf rs) x := by rw [map_look, due_look, look_twice]
/-- the log of records -/
def encB (rs : List (Array UInt8 × Array UInt8)) : Array UInt8 := (enc (flat rs)).toArray
theorem encB_list (rs : List (Array UInt8 × Array UInt8)) : (encB rs).toList = enc (flat rs) := rfl
theorem flat_app (rs qs : List (Array UInt8 × Array UInt8)) : flat (rs ++ qs) = flat rs ++ flat qs := by unfold flat; rw [List.flatMap_append]
theorem encB_app (rs qs : List (Array UInt8 × Array UInt8)) : encB (rs ++ qs) = encB rs ++ encB qs := by
  unfold encB; rw [flat_app, enc_append]; simp
theorem bInts_app (a b : Array UInt8) : KBw.bInts (a ++ b) = KBw.bInts a ++ KBw.bInts b := by unfold KBw.bInts; simp
theorem encB_one (k v : Array UInt8) (hk : k.size ≤ 255) (hv : v.size ≤ 255) : KBw.bInts (encB [(k, v)]) = [(k.size : Int)] ++ KBw.bInts k ++ [(v.size : Int)] ++ KBw.bInts v := by
  unfold encB
  rw [show flat [(k, v)] = [k] ++ [v] from rfl, enc_append, enc_one, enc_one]
  unfold KBw.bInts
  have h1 : ((k.size.toUInt8.toNat : Nat) : Int) = (k.size : Int) := by rw [size_u8 hk]
  have h2 : ((v.size.toUInt8.toNat : Nat) : Int) = (v.size : Int) := by rw [size_u8 hv]
  simp only [List.map_append, List.map_cons, List.cons_append, List.append_assoc, List.nil_append]
  rw [h1, h2]
theorem encB_size (rs : List (Array UInt8 × Array UInt8)) (h : ∀ r ∈ rs, r.1.size ≤ 2 ∧ r.2.size ≤ 3) : (encB rs).size ≤ 7 * rs.length := by
  induction rs with
  | nil => simp [encB, flat, enc]
  | cons r rs ih =>
    rw [show r :: rs = [r] ++ rs from rfl, encB_app, Array.size_append]
    have h1 := h r (.head _)
    have h2 := ih fun q hq => h q (.tail _ hq)
    have h3 : (encB [r]).size = r.1.size + r.2.size + 2 := by
      unfold encB; rw [show flat [r] = [r.1] ++ [r.2] from rfl, enc_append, enc_one, enc_one]; simp; omega
    rw [h3, List.length_append, List.length_singleton]; omega
def endsR (rs : List (Array UInt8 × Array UInt8)) (n : Nat) : List Int := (List.range (n + 1)).map fun j => ((encB (rs.take j)).size : Int)
theorem endsR_succ (rs : List (Array UInt8 × Array UInt8)) (n : Nat) : endsR rs (n + 1) = endsR rs n ++ [((encB (rs.take (n + 1))).size : Int)] := by unfold endsR; rw [List.range_succ, List.map_append]; rfl
theorem endsR_len (rs : List (Array UInt8 × Array UInt8)) (n : Nat) : (endsR rs n).length = n + 1 := by unfold endsR; simp
theorem endsR_get (rs : List (Array UInt8 × Array UInt8)) {n j : Nat} (h : j ≤ n) : (endsR rs n).getD j 0 = ((encB (rs.take j)).size : Int) := by
  unfold endsR; rw [List.getD_eq_getElem?_getD, List.getElem?_map, List.getElem?_range (by omega)]; rfl
theorem flat_take (rs : List (Array UInt8 × Array UInt8)) (j : Nat) : flat (rs.take j) = (flat rs).take (2 * j) := by
  induction rs generalizing j with
  | nil => simp [flat]
  | cons r rs ih =>
    cases j with
    | zero => rfl
    | succ j =>
      rw [List.take_succ_cons, show flat (r :: rs.take j) = r.1 :: r.2 :: flat (rs.take j) from rfl, ih, show flat (r :: rs) = r.1 :: r.2 :: flat rs from rfl, show 2 * (j + 1) = 2 * j + 1 + 1 by omega, List.take_succ_cons, List.take_succ_cons]
/-- the place of the j-th record -/
theorem place_rec (rs : List (Array UInt8 × Array UInt8)) (j : Nat) : (encB (rs.take j)).size = pos (flat rs) (2 * j) := by
  unfold encB pos; rw [flat_take]; simp
theorem flat_inj : ∀ {rs qs : List (Array UInt8 × Array UInt8)}, flat rs = flat qs → rs = qs
  | [], [], _ => rfl
  | [], q :: qs, h => by rw [show flat (q :: qs) = q.1 :: q.2 :: flat qs from rfl] at h; cases h
  | r :: rs, [], h => by rw [show flat (r :: rs) = r.1 :: r.2 :: flat rs from rfl] at h; cases h
  | r :: rs, q :: qs, h => by
    rw [show flat (r :: rs) = r.1 :: r.2 :: flat rs from rfl, show flat (q :: qs) = q.1 :: q.2 :: flat qs from rfl] at h
    injection h with h1 h2
    injection h2 with h2 h3
    rw [flat_inj h3, show r = q from Prod.ext h1 h2]
theorem flat_sz {rs : List (Array UInt8 × Array UInt8)} (h : ∀ r ∈ rs, r.1.size ≤ 255 ∧ r.2.size ≤ 255) : ∀ c ∈ flat rs, c.size ≤ 255 := fun c hc => by
  obtain ⟨r, hr, hc⟩ := List.mem_flatMap.mp hc
  simp only [List.mem_cons, List.not_mem_nil, or_false] at hc
  rcases hc with rfl | rfl
  · exact (h r hr).1
  · exact (h r hr).2
theorem flat_get (rs : List (Array UInt8 × Array UInt8)) {j : Nat} {r : Array UInt8 × Array UInt8} (h : rs[j]? = some r) : (flat rs)[2 * j]? = some r.1 ∧ (flat rs)[2 * j + 1]? = some r.2 := by
  induction rs generalizing j with
  | nil => simp at h
  | cons q rs ih =>
    rw [show flat (q :: rs) = q.1 :: q.2 :: flat rs from rfl]
    cases j with
    | zero => simp at h; subst h; exact ⟨rfl, rfl⟩
    | succ j =>
      have := ih (j := j) (by simpa using h)
      rw [show 2 * (j + 1) = 2 * j + 1 + 1 by omega]
      simpa using this
theorem cut_even {B : Array UInt8} {rs qs : List (Array UInt8 × Array UInt8)} {k w : Nat} {x : Str} (hB : B.toList = enc (flat rs)) (hz : ∀ c ∈ flat rs, c.size ≤ 255) (hk : k ≤ B.size) (hw : w ≤ rs.length)
    (h1 : pos (flat rs) (2 * w) ≤ k) (h2 : w < rs.length → k < pos (flat rs) (2 * w + 2)) (h : MapEnd (cutB B 0 k) qs x) :
    qs = rs.take w ∧ ((w = rs.length ∧ k = pos (flat rs) (2 * w) ∧ x = msg0) ∨ ∃ r, rs[w]? = some r ∧
      ((k = pos (flat rs) (2 * w) ∧ x = msg0) ∨ (pos (flat rs) (2 * w) < k ∧ k < pos (flat rs) (2 * w) + 1 + r.1.size ∧ x = msgS (r.1.size : Int) ((k : Int) - (pos (flat rs) (2 * w) : Int) - 1)) ∨
        (k = pos (flat rs) (2 * w) + 1 + r.1.size ∧ x = msg0) ∨ (pos (flat rs) (2 * w) + 1 + r.1.size < k ∧ k < pos (flat rs) (2 * w) + 1 + r.1.size + 1 + r.2.size ∧ x = msgB (r.2.size : Int) ((k : Int) - (pos (flat rs) (2 * w) : Int) - (r.1.size : Int) - 2)))) := by
  have hfl := flat_len rs
  have hBs : B.size = pos (flat rs) (flat rs).length := by rw [pos_all, ← hB, Array.length_toList]
  have evenq : ∀ {xs : List (Array UInt8)} {n : Nat}, xs = (flat rs).take n → n ≤ (flat rs).length → xs.length = n := fun e hn => by rw [e, List.length_take]; omega
  by_cases hwl : w = rs.length
  · have hk2 : pos (flat rs) (2 * w) = k := by rw [hwl, ← hfl, ← hBs]; rw [hwl, ← hfl, ← hBs] at h1; omega
    rcases h with h | ⟨key, h⟩
    · obtain ⟨e1, e2⟩ := cut_is (i := 2 * w) hB hz hk (by omega) (by omega) (by omega) h
      rw [← flat_take] at e1
      refine ⟨flat_inj e1, .inl ⟨hwl, hk2.symm, ?_⟩⟩
      rcases e2 with ⟨_, e⟩ | ⟨c, _, e, _⟩
      · exact e
      · omega
    · obtain ⟨e1, -⟩ := cut_is (i := 2 * w) hB hz hk (by omega) (by omega) (by omega) h
      have := evenq e1 (by omega)
      rw [List.length_append, flat_len, List.length_singleton] at this; omega
  · obtain ⟨r, hr⟩ : ∃ r, rs[w]? = some r := ⟨_, List.getElem?_eq_getElem (show w < rs.length by omega)⟩
    obtain ⟨g1, g2⟩ := flat_get rs hr
    have p1 := pos_succ g1
    have p2 := pos_succ g2
    have h2' := h2 (by omega)
    rw [show 2 * w + 2 = 2 * w + 1 + 1 by omega] at h2'
    by_cases hlow : k < pos (flat rs) (2 * w + 1)
    · rcases h with h | ⟨key, h⟩
      · obtain ⟨e1, e2⟩ := cut_is (i := 2 * w) hB hz hk (by omega) (by omega) (fun _ => hlow) h
        rw [← flat_take] at e1
        refine ⟨flat_inj e1, .inr ⟨r, hr, ?_⟩⟩
        rcases e2 with ⟨e, ex⟩ | ⟨c, ec, e, ex⟩
        · exact .inl ⟨e.symm, ex⟩
        · rw [g1] at ec; cases ec
          exact .inr (.inl ⟨e, by omega, ex⟩)
      · obtain ⟨e1, -⟩ := cut_is (i := 2 * w) hB hz hk (by omega) (by omega) (fun _ => hlow) h
        have := evenq e1 (by omega)
        rw [List.length_append, flat_len, List.length_singleton] at this; omega
    · rcases h with h | ⟨key, h⟩
      · obtain ⟨e1, -⟩ := cut_is (i := 2 * w + 1) hB hz hk (by omega) (by omega) (fun _ => h2') h
        have := evenq e1 (by omega)
        rw [flat_len] at this; omega
      · obtain ⟨e1, e2⟩ := cut_is (i := 2 * w + 1) hB hz hk (by omega) (by omega) (fun _ => h2') h
        have e3 : flat qs = (flat rs).take (2 * w) := by
          have hq : (flat qs).length = 2 * w := by
            have := evenq e1 (by omega)
            rw [List.length_append, List.length_singleton] at this; omega
          have := congrArg (List.take (2 * w)) e1
          rw [List.take_append_of_le_length (by omega), List.take_of_length_le (by omega), List.take_take, Nat.min_eq_left (by omega)] at this
          exact this
        rw [← flat_take] at e3
        refine ⟨flat_inj e3, .inr ⟨r, hr, ?_⟩⟩
        rcases e2 with ⟨e, ex⟩ | ⟨c, ec, e, ex⟩
        · exact .inr (.inr (.inl ⟨by omega, ex⟩))
        · rw [g2] at ec; cases ec
          refine .inr (.inr (.inr ⟨by omega, by omega, ?_⟩))
          have e9 : (k : Int) - (pos (flat rs) (2 * w + 1) : Int) - 1 = (k : Int) - (pos (flat rs) (2 * w) : Int) - (r.1.size : Int) - 2 := by omega
          rw [ex, e9]; rfl
end Mine
end
section
open PySem PySem.W PyProof.Rows PySem.Calls PySem.Spec
set_option Elab.async false
set_option maxRecDepth 100000
set_option maxHeartbeats 8000000
namespace Mine
/-- the records told: each a key and a value -/
inductive Recs (b : Array UInt8) : List (Array UInt8 × Array UInt8) → Nat → Prop where
  | nil : Recs b [] 0
  | snoc {rs : List (Array UInt8 × Array UInt8)} {p q : Nat} : Recs b rs p → p < b.size → q = p + 1 + oct b p → q < b.size → q + 1 + oct b q ≤ b.size → Recs b (rs ++ [(cutB b (p + 1) (oct b p), cutB b (q + 1) (oct b q))]) (q + 1 + oct b q)
theorem Recs.told {b : Array UInt8} {rs : List (Array UInt8 × Array UInt8)} {p : Nat} (h : Recs b rs p) : Told b (flat rs) p := by
  induction h with
  | nil => exact .nil
  | snoc _ h1 h2 h3 h4 ih => rw [flat_snoc]; subst h2; exact (ih.snoc h1 (by omega)).snoc h3 h4
theorem recs_max {b : Array UInt8} {rs : List (Array UInt8 × Array UInt8)} {p : Nat} (h : Recs b rs p) : rs.length ≤ b.size := by
  have h1 := told_len h.told
  have h2 := told_size h.told
  rw [flat_len] at h1; omega
theorem news_map {h₀ h : Heap} {L : Addr} {a b c : Addr × Obj} {R I T own : List (Addr × Obj)} (N : News h₀ L h (a :: b :: c :: (R ++ own))) (hR : R = I ++ T) : News h₀ L h (a :: b :: T) := news_sub N fun q hq => by
  subst hR
  simp only [List.mem_cons, List.mem_append] at hq ⊢
  rcases hq with h | h | h <;> simp [h]
local macro_rules | `(tactic| k_room) => `(tactic| ktr_room)
local macro_rules | `(tactic| k_units) => `(tactic| ktr_units)
local macro_rules | `(tactic| k_mem) => `(tactic| first | exact List.Mem.head _ | (refine List.mem_cons_of_mem _ ?_; k_mem))
local macro_rules | `(tactic| lcg_src) => `(tactic| first | exact List.Mem.head _ | (refine List.mem_cons_of_mem _ ?_; lcg_src) | assumption)
local macro_rules | `(tactic| walk_at "callWith ref") => `(tactic| (k_here; (rename Strm _ _ _ _ _ _ _ _ _ _ _ _ _ _ _ _ => sS); k_dflt (refine' callWith_F ?k1 ?_; (case k1 => exact FnAt.of (by k_asm) (by k_mem)); k_whole)))
local macro_rules | `(tactic| walk_at "call ref") => `(tactic| (k_here; (rename Strm _ _ _ _ _ _ _ _ _ _ _ _ _ _ _ _ => sS); (with_reducible show wpAny _ _ (call (Value.ref _) [Value.int _ _]) _ _ _); k_dflt (first | (refine' strm_read 1 rfl sS ?B ?F ?X ?N ?T ?hk ?hd ?hu ?hI ?U ?hq ?hb ?hn ?_; (case F => k_asm); (case N => k_asm); (case B => k_asm); (case X => k_asm); (case T => k_asm); (case hk => first | rfl | assumption); (case hd => ktr_room); (case hu => ktr_units); (case hI => (repeat (first | assumption | refine Sub.cons ?_))); (case U => k_updF); (case hq => omega); (case hb => omega); (case hn => decide)) | (refine' strm_read _ rfl sS ?B ?F ?X ?N ?T ?hk ?hd ?hu ?hI ?U ?hq ?hb ?hn ?_; (case F => k_asm); (case N => k_asm); (case B => k_asm); (case X => k_asm); (case T => k_asm); (case hk => first | rfl | assumption); (case hd => ktr_room); (case hu => ktr_units); (case hI => (repeat (first | assumption | refine Sub.cons ?_))); (case U => k_updF); (case hq => omega); (case hb => omega); (case hn => omega))); intro h' tk' t1 t2 F' N'; (try dsimp only)))
local macro_rules | `(tactic| walk_at "exec Raise some none") => `(tactic| (k_here; (with_reducible show wpAny _ _ (exec (Stmt.Raise (some (Expr.Call (Expr.Name ("ValueError" : Str) _) (_ :: _) [] _)) none _) _) _ _ _); (with_reducible rename Fr _ _ _ _ => kF); k_dflt (refine' Raise_madeB PySem.F.excCall_ValueError PySem.F.excRaise_ValueError ?hh (name_B kF ?k1 ?k2 ?k3 PyProof.Rows.Boot.«ValueError» ?k5 ⟨rfl, ?_⟩) ?a ?b; (case hh => rfl); (case a => rfl); (case b => rfl); (case k1 => k_asm); (case k2 => k_asm); (case k3 => k_is); (case k5 => decide))))
local macro_rules | `(tactic| walk_at "ite") => `(tactic| (k_here; first | (refine ite_pos (by first | omega | (simp only [decide_eq_true_eq, beq_iff_eq]; omega)) ?_) | (refine ite_neg (by first | omega | (simp only [decide_eq_true_eq, beq_iff_eq]; omega)) ?_)))
local macro_rules | `(tactic| walk_at "binaryOp Mod str ref") => `(tactic| (k_here; k_dflt (first | ((with_reducible show wpAny _ _ (binaryOp _ (Value.str (Str.ofString "expected %d bytes in a bytes1, but only %d remain") _) _) _ _ _); refine' modB ?N ?b ?a1 ?a2 ?a3 ?a4 ?_; (case N => k_asm); (case b => k_mem); (case a1 => omega); (case a2 => omega); (case a3 => omega); (case a4 => omega)) | ((with_reducible show wpAny _ _ (binaryOp _ (Value.str (Str.ofString "expected %d bytes in a string1, but only %d remain") _) _) _ _ _); refine' modS ?N ?b ?a1 ?a2 ?a3 ?a4 ?_; (case N => k_asm); (case b => k_mem); (case a1 => omega); (case a2 => omega); (case a3 => omega); (case a4 => omega))); intro _ _))
local macro_rules | `(tactic| walk_at "call builtin:len") => `(tactic| (k_here; (with_reducible show wpAny _ _ (call (Value.builtin "len") [Value.ref _]) _ _ _); k_dflt (refine' kst_len ?k1 ?k2 rfl ?k4 ?_; (case k1 => k_asm); (case k2 => lcg_src); (case k4 => ((try simp only [List.length_append, List.length_cons, List.length_nil]); omega)))))
local macro_rules | `(tactic| walk_at "ite") => `(tactic| (k_here; first | (refine ite_pos (by first | omega | (simp only [decide_eq_true_eq, beq_iff_eq, bne_iff_ne, Bool.not_eq_true', beq_eq_false_iff_ne, ne_eq, List.length_append, List.length_cons, List.length_nil]; done) | (simp only [decide_eq_true_eq, beq_iff_eq, bne_iff_ne, Bool.not_eq_true', beq_eq_false_iff_ne, ne_eq, List.length_append, List.length_cons, List.length_nil]; omega)) ?_) | (refine ite_neg (by first | omega | (simp only [decide_eq_true_eq, beq_iff_eq, bne_iff_ne, Bool.not_eq_true', beq_eq_false_iff_ne, ne_eq, List.length_append, List.length_cons, List.length_nil]; done) | (simp only [decide_eq_true_eq, beq_iff_eq, bne_iff_ne, Bool.not_eq_true', beq_eq_false_iff_ne, ne_eq, List.length_append, List.length_cons, List.length_nil]; omega)) ?_)))
local macro_rules | `(tactic| walk_at "PostX") => `(tactic| (dsimp only [PostX]))
local macro_rules | `(tactic| walk_at "call ref") => `(tactic| (k_here; (rename Strm _ _ _ _ _ _ _ _ _ _ _ _ _ _ _ _ => sS); (with_reducible show wpAny _ _ (call (Value.ref 21) [Value.ref _]) _ _ _); k_dflt (refine' ru1_ct _ ?B ?F ?X ?N ?T sS ?hI ?U ?hk ?hd ?hu ?hq ?hb (fun h' tk' t1 t2 hlt' F' N' => ?_) (fun g' e' t' u' h' tk' t1 heq' F' R' U' => ?_); (case F => k_asm); (case N => k_asm); (case B => k_asm); (case X => k_asm); (case T => k_asm); (case hk => first | rfl | assumption); (case hd => ktr_room); (case hu => ktr_units); (case hI => (repeat (first | assumption | refine Sub.cons ?_))); (case U => k_updF); (case hq => omega); (case hb => omega)); (all_goals (first | (exfalso; omega) | (try dsimp only)))))
local macro_rules | `(tactic| walk_at "call ref") => `(tactic| (k_here; (rename Strm _ _ _ _ _ _ _ _ _ _ _ _ _ _ _ _ => sS); (with_reducible show wpAny _ _ (call (Value.ref 35) [Value.ref _]) _ _ _); k_dflt (refine' rb1_ct _ ?B ?F ?X ?N ?T sS ?hI ?U ?hk ?hd ?hu ?hq ?hb (fun h' tk' t1 t2 hlt' hle' F' N' => ?_) (fun g' e' t' u' h' tk' t1 heq' F' R' U' => ?_) (fun g' e' t' u' h' tk' t1 heq' hlt' F' R' U' => ?_); (case F => k_asm); (case N => k_asm); (case B => k_asm); (case X => k_asm); (case T => k_asm); (case hk => first | rfl | assumption); (case hd => ktr_room); (case hu => ktr_units); (case hI => (repeat (first | assumption | refine Sub.cons ?_))); (case U => k_updF); (case hq => omega); (case hb => omega)); (all_goals (first | (exfalso; omega) | (try dsimp only)))))
local macro_rules | `(tactic| walk_at "call ref") => `(tactic| (k_here; (rename Strm _ _ _ _ _ _ _ _ _ _ _ _ _ _ _ _ => sS); (with_reducible show wpAny _ _ (call (Value.ref 28) [Value.ref _]) _ _ _); k_dflt (refine' rs1_ct _ ?B ?F ?X ?N ?T sS ?hI ?U ?hk ?hd ?hu ?hq ?hb (fun h' tk' t1 t2 hlt' hle' F' N' => ?_) (fun g' e' t' u' h' tk' t1 heq' F' R' U' => ?_) (fun g' e' t' u' h' tk' t1 heq' hlt' F' R' U' => ?_); (case F => k_asm); (case N => k_asm); (case B => k_asm); (case X => k_asm); (case T => k_asm); (case hk => first | rfl | assumption); (case hd => ktr_room); (case hu => ktr_units); (case hI => (repeat (first | assumption | refine Sub.cons ?_))); (case U => k_updF); (case hq => omega); (case hb => omega)); (all_goals (first | (exfalso; omega) | (try dsimp only)))))
local macro_rules | `(tactic| walk_at "setItem ref str") => `(tactic| (k_here; (rename Obj.IsDictOf (PySem.strKind _ _) _ _ => dI9); k_dflt (refine' kda_set (knd := PySem.strKind _ _) ?F ?N ?U dI9 (strKind_is _ _ _ _) ?z ?_; (case F => k_asm); (case N => k_asm); (case U => k_updF); (case z => assumption)); intro h' o' F' N' hd'))
local macro_rules | `(tactic| walk_at "getMethod ref") => `(tactic| (k_here; (with_reducible show wpAny _ _ (getMethod (Value.ref _) (Str.ofString "pop") _) _ _ _); (rename Obj.IsDictOf (PySem.strKind _ _) _ _ => dI9); k_dflt (refine kob_method (knd := PySem.strKind _ _) PySem.F.slot_dict_pop PySem.F.type_dict_pop (by k_asm) (by lcg_src) dI9 ?_)))
local macro_rules | `(tactic| walk_at "call builtin:dict.pop") => `(tactic| (k_here; (with_reducible show wpAny _ _ (call (Value.builtin "dict.pop") [Value.ref _, Value.str _ _, _]) _ _ _); (rename Obj.IsDictOf (PySem.strKind _ _) _ _ => dI9); k_dflt (first
  | (refine pop_none (by k_asm) (by lcg_src) dI9 (by assumption) (by assumption) ?_)
  | (refine' kob_pop (knd := PySem.strKind _ _) (more := [_]) ?F ?N ?U dI9 (strKind_is _ _ _ _) (.inr ⟨_, rfl⟩) (by rfl) (PySem.F.args_dict_pop_3 _ _ _) ?l ?z ?_; (case F => k_asm); (case N => k_asm); (case U => k_updF); (case l => assumption); (case z => assumption); intro h' o' F' N' hd'))))
local macro_rules | `(tactic| walk_at "compareOp Eq bytes bytes") => `(tactic| (k_here; first | refine eq_bytes_same (by first | rfl | assumption) ?_ | refine eq_bytes_diff (by assumption) ?_))

theorem map_ct (w : World) {p : Program} {loose : List Str} {mean : ExcName → Option Value} {mg mb : Str → Option Value}
  {dp un : Nat} {gd : Option (List Code)} {cn : Str} {cs : Scope} {a : Addr} {ccd : Value} {cl : List (Str × Addr)} {A₀ : Around} {base h₀ : Heap} {L : Addr} {m : Str → Option Value}
  {rest T : List (Addr × Obj)} {s : Shared} {b : Array UInt8} {tb : Tok} {Q E : Value → Shared → Prop}
  (B : Below A₀ base [] h₀) (F : Fr h₀ L s.heap m) (X : (hd06.heap_39 w.params).In h₀) (N : News h₀ L s.heap (T ++ rest)) (TT : Top p loose mean mg mb h₀)
  (XB : (hd06.heap_39 w.params).In base) (TB : Top p loose mean mg mb base)
  (H : CodeHd h₀ 62 58) (hT : Tab 58 (rawInt 29) (rawInt 4) (Str.ofString "_law_stream.<locals>._law_read") T) (hoff : OwnOff rest [58])
  (hk : cs.kind = .function) (hd : dp + 40 < recursionLimit) (hu : un + 200 < cLine) (hb : b.size ≤ 1000000)
  (ok : ∀ h' tk T' tp td o kvs rs x jt u, Tab 58 (rawInt 29) (rawInt 4) (Str.ofString "_law_stream.<locals>._law_read") T' → (∀ q ∈ T' ++ rest, @LT.lt Nat _ q.1 td) → @LT.lt Nat _ td tp → (td == sysModules) = false →
    o.IsDictOf (PySem.strKind Challenge.rw_dm0232_06.row.prog w) kvs → BPairs kvs (mapOf rs) → MapEnd b rs x → Fr h₀ L h' m → News h₀ L h' ((tp, { cls := .type "tuple", data := .seq #[.ref td, .str x u] jt }) :: (td, o) :: (T' ++ rest)) → Q (.ref tp) { s with heap := h', toks := tk }) :
  wpAny (model Challenge.rw_dm0232_06.row.prog w) (ktrTop dp un gd cn cs L a ccd cl []) (call (.ref 70) [.bytes b tb]) Q E s := by
  revert X; k_fill; intro X
  have hMk := kstMark
  have D0 : KtsDicts [] h₀ := ktsDicts_nil
  obtain ⟨R0, hR0⟩ : ∃ R, R = T ++ rest := ⟨_, rfl⟩
  rw [← hR0] at N
  refine wpAny_call ?_
  k_dflt (refine' code_defSX ?k1 ?k2 ?k3 ?k4 ?k5 ?kA ?k6 ?k7 ?k8 ?k9 ?kB ?_ ?cK ?c2 ?c3 ?c4 ?c5; (case kA => exact rfl); (case k2 => k_asm); (case k1 => k_asm); (case k3 => k_asm); (case k4 => k_asm); (case k5 => k_asm); (case k6 => k_is); (case k7 => k_is); (case k8 => k_room); (case k9 => exact BindsTo.of_eq rfl); (case kB => exact locs rfl); (case cK => assumption); (case c2 => exact rfl); (case c3 => exact rfl); (case c4 => exact rfl); (case c5 => decide); k_whole; intro g' L' h' FG' F' N' B' X' T' D'; (try dsimp only); (try k_lift B'); (try k_fold))

  have H' : CodeHd g' 62 58 := H.keeps FG'.keep
  repeat' (first | (k_unfold; (try dsimp only)) | ((fail_if_success (with_reducible show wpAny _ _ (call (Value.ref 63) _) _ _ _)); first | (k_end; wrow_close) | walk1 | (dsimp only; walk1) | (leave1; try dsimp only)))
  rename Fr g' L' _ _ => F1
  rename News g' L' _ _ => N1
  rw [hR0] at N1
  k_dflt (refine stream_ct w (T := T) (rest := rest) B' F1 X' N1 T' H' hT hoff rfl ?_ ?_)
  · ktr_room
  intro f dx r k1 k2 tp0 I T2 h2 tk2 S hT2 o1 o2 o3 F2 N2
  clear F1 N1
  obtain ⟨R, hR⟩ : ∃ R, R = I ++ (T2 ++ rest) := ⟨_, rfl⟩
  rw [← hR] at N2
  have oR : OwnOff R [dx] := by
    intro q hq c hc; rw [hR] at hq; simp only [List.mem_append] at hq; rcases hq with h | h | h
    · exact S.off q h c hc
    · exact o2 q h c hc
    · exact o3 q h c hc
  have hm : Sub I R := fun e he => by rw [hR]; simp [he]
  have mi := hm _ S.inst
  clear o1 o2 o3
  repeat' (first | (k_unfold; (try dsimp only)) | ((fail_if_success (with_reducible show wpAny _ _ (exec (Stmt.For _ _ _ _ _) _) _ _ _)); first | (k_end; wrow_close) | walk1 | (dsimp only; walk1) | (leave1; try dsimp only)))
  refine wpAny_For ?_
  repeat' (first | (k_unfold; (try dsimp only)) | ((fail_if_success (with_reducible show wpAny _ _ (pyIter _) _ _ _)); first | (k_end; wrow_close) | walk1 | (dsimp only; walk1) | (leave1; try dsimp only)))
  rename IsRange _ _ _ _ _ _ _ _ => rg
  rename Fr g' L' _ _ => FF
  rename News g' L' _ _ => NN
  rename_i td _ o0 lo hs0 _ _ _ htd _ _ _ _ _ _ _ _ _
  k_dflt (refine iterX_range (n := b.size + 1) (g₀ := g') (fun i mm nx => ∃ q t kvs o rs, nx = (td, o) :: (dx, SD w.params k1 k2 r ((q : Nat) : Int) t) :: R ∧ o.IsDictOf (PySem.strKind Challenge.rw_dm0232_06.row.prog w) kvs ∧ BPairs kvs (mapOf rs) ∧ i = rs.length ∧ q ≤ b.size ∧ Recs b rs q ∧
      mm (Str.ofString "f") = some (.ref f) ∧ mm (Str.ofString "table") = some (.ref td)) rfl rg (small_one (by omega) (by omega) (by omega) (by omega)) (by rw [show ((b.size : Int) + 1) = ((b.size + 1 : Nat) : Int) by omega, rangeSize_nat]; omega) rfl rfl ⟨KtsTurn.refl, FF, NN, B', X', T', D'⟩ ⟨0, _, [], _, [], rfl, hs0, .nil, rfl, Nat.zero_le _, .nil, rfl, rfl⟩ (by passes_own) ?turn ?done)
  case done =>
    rintro g9 m9 nx9 h9 tk9 ⟨q, t, kvs, o, rs, rfl, hdo, hbp, hi, hqb, hrc, hf, hta⟩ X9
    exfalso
    have := recs_max hrc; omega
  case turn =>
    rintro i t9 g9 m9 nx9 h9 tk9 own hi9 ha ho9 ⟨q, t, kvs, o, rs, rfl, hdo, hbp, hix, hqb, hrc, hf, hta⟩ ⟨T9, F9, N9, B9, X9, P9, D9⟩
    have F10 := fr_names F9 [(Str.ofString "f", .ref f), (Str.ofString "table", .ref td)] (by
      intro q9 hq9; simp only [List.mem_cons, List.not_mem_nil, or_false] at hq9; rcases hq9 with rfl | rfl <;> exact (if_neg (by dsimp only; decide)).trans (by assumption))
    simp only [List.cons_append, List.map_cons] at N9 ho9 ha
    have hm2 : Sub I (R ++ own) := fun e he => List.mem_append.mpr (.inl (hm e he))
    have oRt : OwnOff R [td] := off_lt (d := td) htd.2 (by intro a ha; rw [List.mem_singleton.mp ha]; exact Nat.le_refl _)
    have htd1 : @LT.lt Nat _ dx td := htd.1
    clear F9 FF NN rg hf hta hs0
    have h256 := oct_lt b q
    have hkz : kvs.length ≤ sizeLine := by
      have h1 := recs_max hrc
      have h2 := mapOf_len rs
      rw [hbp.length, sizeLine_eq]; omega
    have htl := hrc.told
    obtain ⟨q2, hq2⟩ : ∃ q2, q2 = q + 1 + oct b q := ⟨_, rfl⟩
    have h2256 := oct_lt b q2
    have hcs : q = b.size ∨ (q < b.size ∧ b.size < q2) ∨ (q < b.size ∧ q2 = b.size) ∨ (q < b.size ∧ q2 < b.size ∧ b.size < q2 + 1 + oct b q2) ∨ (q < b.size ∧ q2 < b.size ∧ q2 + 1 + oct b q2 ≤ b.size) := by omega
    rcases hcs with c1 | ⟨c1, c2⟩ | ⟨c1, c2⟩ | ⟨c1, c2, c3⟩ | ⟨c1, c2, c3⟩
    · k_steps
      rename News h₀ L _ _ => NN
      rename Fr h₀ L _ m => FF
      rename _ < _ ∧ _ < _ ∧ AllLt _ _ => hlt
      exact ok _ _ T2 _ td o kvs rs _ _ _ hT2 (fun q hq => kst_ltOf htd.2 q (by rw [hR]; exact List.mem_append_right _ hq)) hlt.1 lo hdo hbp (.inl ⟨q, htl, .inl ⟨c1, rfl⟩⟩) FF (news_map NN hR)
    · rw [hq2] at c2
      k_steps
      rename News h₀ L _ _ => NN
      rename Fr h₀ L _ m => FF
      rename _ < _ ∧ _ < _ ∧ AllLt _ _ => hlt
      exact ok _ _ T2 _ td o kvs rs _ _ _ hT2 (fun q hq => kst_ltOf htd.2 q (by rw [hR]; exact List.mem_append_right _ hq)) hlt.1 lo hdo hbp (.inl ⟨q, htl, .inr ⟨c1, c2, rfl⟩⟩) FF (news_map NN hR)
    · subst hq2
      k_steps
      rename News h₀ L _ _ => NN
      rename Fr h₀ L _ m => FF
      rename _ < _ ∧ _ < _ ∧ AllLt _ _ => hlt
      exact ok _ _ T2 _ td o kvs rs _ _ _ hT2 (fun q hq => kst_ltOf htd.2 q (by rw [hR]; exact List.mem_append_right _ hq)) hlt.1 lo hdo hbp (.inr ⟨_, _, htl.snoc c1 (by omega), .inl ⟨c2, rfl⟩⟩) FF (news_map NN hR)
    · subst hq2
      k_steps
      rename News h₀ L _ _ => NN
      rename Fr h₀ L _ m => FF
      rename _ < _ ∧ _ < _ ∧ AllLt _ _ => hlt
      exact ok _ _ T2 _ td o kvs rs _ _ _ hT2 (fun q hq => kst_ltOf htd.2 q (by rw [hR]; exact List.mem_append_right _ hq)) hlt.1 lo hdo hbp (.inr ⟨_, _, htl.snoc c1 (by omega), .inr ⟨c2, c3, rfl⟩⟩) FF (news_map NN hR)
    · subst hq2
      obtain ⟨key, hkey⟩ : ∃ key, key = cutB b (q + 1) (oct b q) := ⟨_, rfl⟩
      obtain ⟨val, hval⟩ : ∃ val, val = cutB b (q + 1 + oct b q + 1) (oct b (q + 1 + oct b q)) := ⟨_, rfl⟩
      have hvz : val.size = oct b (q + 1 + oct b q) := by rw [hval, cutB_size]; omega
      have hrc' := hrc.snoc c1 rfl c2 c3
      rw [← hkey, ← hval] at hrc'
      by_cases hv : val.size = 0
      · have he : cutB b (q + 1 + oct b q + 1) (oct b (q + 1 + oct b q)) = #[] := by rw [← hval]; exact Array.size_eq_zero_iff.mp hv
        have hms : mapOf (rs ++ [(key, val)]) = bdel (mapOf rs) (latin key) := by rw [mapOf_snoc]; unfold mapStep; rw [if_pos hv]
        cases hbv : bval (mapOf rs) (latin key) with
        | none =>
          have hva := hbp.none hbv
          rw [hkey] at hva
          k_steps
          rename Fr _ L' _ _ => FF
          rename News _ L' _ _ => NN
          exact EndX.intro T9 FF NN B9 X9 P9 D9 ⟨_, _, _, _, rs ++ [(key, val)], rfl, (by assumption), by rw [hms, bdel_none hbv]; exact hbp, by rw [List.length_append, List.length_singleton]; omega, c3, hrc', rfl, rfl⟩ (by rfl) sub_two own_two
        | some u =>
          obtain ⟨tu, hva⟩ := hbp.some hbv
          rw [hkey] at hva
          k_steps
          rename Fr _ L' _ _ => FF
          rename News _ L' _ _ => NN
          rename Obj.IsDictOf (PySem.strKind _ _) _ _ => hdo'
          exact EndX.intro T9 FF NN B9 X9 P9 D9 ⟨_, _, _, _, rs ++ [(key, val)], rfl, hdo', by rw [hms, ← hkey]; exact hbp.del _, by rw [List.length_append, List.length_singleton]; omega, c3, hrc', rfl, rfl⟩ (by rfl) sub_two own_two
      · have he : cutB b (q + 1 + oct b q + 1) (oct b (q + 1 + oct b q)) ≠ #[] := by rw [← hval]; exact fun e => hv (by rw [e]; rfl)
        have hms : mapOf (rs ++ [(key, val)]) = bset (mapOf rs) (latin key) val := by rw [mapOf_snoc]; unfold mapStep; rw [if_neg hv]
        k_steps
        rename Fr _ L' _ _ => FF
        rename News _ L' _ _ => NN
        rename Obj.IsDictOf (PySem.strKind _ _) _ _ => hdo'
        exact EndX.intro T9 FF NN B9 X9 P9 D9 ⟨_, _, _, _, rs ++ [(key, val)], rfl, hdo', by rw [hms, hkey, hval]; exact hbp.set _ _ _, by rw [List.length_append, List.length_singleton]; omega, c3, hrc', rfl, rfl⟩ (by rfl) sub_two own_two
end Mine
end
section
open PySem PySem.W PyProof.Rows PySem.Calls PySem.Spec
set_option Elab.async false
set_option maxRecDepth 100000
set_option maxHeartbeats 8000000
namespace Mine
local macro_rules | `(tactic| walk_at "pad 0") => `(tactic| fail)
local macro_rules | `(tactic| walk_at "pad 1") => `(tactic| fail)
local macro_rules | `(tactic| walk_at "pad 2") => `(tactic| fail)
local macro_rules | `(tactic| walk_at "pad 3") => `(tactic| fail)
local macro_rules | `(tactic| walk_at "pad 4") => `(tactic| fail)
local macro_rules | `(tactic| walk_at "pad 5") => `(tactic| fail)
local macro_rules | `(tactic| walk_at "pad 6") => `(tactic| fail)
local macro_rules | `(tactic| walk_at "pad 7") => `(tactic| fail)
local macro_rules | `(tactic| k_room) => `(tactic| ktr_room)
local macro_rules | `(tactic| k_units) => `(tactic| ktr_units)
local macro_rules | `(tactic| k_mem) => `(tactic| first | exact List.Mem.head _ | (refine List.mem_cons_of_mem _ ?_; k_mem))
local macro_rules | `(tactic| lcg_src) => `(tactic| first | exact List.Mem.head _ | (refine List.mem_cons_of_mem _ ?_; lcg_src) | assumption)
local macro_rules | `(tactic| walk_at "call builtin:len") => `(tactic| (k_here; (with_reducible show wpAny _ _ (call (Value.builtin "len") [Value.ref _]) _ _ _); k_dflt (refine' kst_len ?k1 ?k2 rfl ?k4 ?_; (case k1 => k_asm); (case k2 => lcg_src); (case k4 => ((try simp only [List.length_append, List.length_cons, List.length_nil]); omega)))))
local macro_rules | `(tactic| walk_at "ite") => `(tactic| (k_here; first | (refine ite_pos (by first | omega | (simp only [decide_eq_true_eq, beq_iff_eq, bne_iff_ne, Bool.not_eq_true', beq_eq_false_iff_ne, ne_eq, List.length_append, List.length_cons, List.length_nil]; done) | (simp only [decide_eq_true_eq, beq_iff_eq, bne_iff_ne, Bool.not_eq_true', beq_eq_false_iff_ne, ne_eq, List.length_append, List.length_cons, List.length_nil]; omega)) ?_) | (refine ite_neg (by first | omega | (simp only [decide_eq_true_eq, beq_iff_eq, bne_iff_ne, Bool.not_eq_true', beq_eq_false_iff_ne, ne_eq, List.length_append, List.length_cons, List.length_nil]; done) | (simp only [decide_eq_true_eq, beq_iff_eq, bne_iff_ne, Bool.not_eq_true', beq_eq_false_iff_ne, ne_eq, List.length_append, List.length_cons, List.length_nil]; omega)) ?_)))
local macro_rules | `(tactic| walk_at "PostX") => `(tactic| (dsimp only [PostX]))
local macro_rules | `(tactic| walk_at "PostY") => `(tactic| (dsimp only [PostY]))
local macro_rules | `(tactic| walk_at "setItem ref str") => `(tactic| (k_here; (rename Obj.IsDictOf (PySem.strKind _ _) _ _ => dI9); k_dflt (refine' kda_set (knd := PySem.strKind _ _) ?F ?N ?U dI9 (strKind_is _ _ _ _) ?z ?_; (case F => k_asm); (case N => k_asm); (case U => k_updF); (case z => assumption)); intro h' o' F' N' hd'))
local macro_rules | `(tactic| walk_at "getMethod ref") => `(tactic| (k_here; (with_reducible show wpAny _ _ (getMethod (Value.ref _) (Str.ofString "pop") _) _ _ _); (rename Obj.IsDictOf (PySem.strKind _ _) _ _ => dI9); k_dflt (refine kob_method (knd := PySem.strKind _ _) PySem.F.slot_dict_pop PySem.F.type_dict_pop (by k_asm) (by lcg_src) dI9 ?_)))
local macro_rules | `(tactic| walk_at "call builtin:dict.pop") => `(tactic| (k_here; (with_reducible show wpAny _ _ (call (Value.builtin "dict.pop") [Value.ref _, Value.str _ _, _]) _ _ _); (rename Obj.IsDictOf (PySem.strKind _ _) _ _ => dI9); k_dflt (first
  | (refine pop_none (by k_asm) (by lcg_src) dI9 (by assumption) (by assumption) ?_)
  | (refine' kob_pop (knd := PySem.strKind _ _) (more := [_]) ?F ?N ?U dI9 (strKind_is _ _ _ _) (.inr ⟨_, rfl⟩) (by rfl) (PySem.F.args_dict_pop_3 _ _ _) ?l ?z ?_; (case F => k_asm); (case N => k_asm); (case U => k_updF); (case l => assumption); (case z => assumption); intro h' o' F' N' hd'))))
local macro_rules | `(tactic| walk_at "call type:bytes") => `(tactic| (k_here; (with_reducible show wpAny _ _ (call (Value.type "bytes") [Value.ref _]) _ _ _); k_dflt (refine' make_bytes ?F ?N ?h ?l ?i ?z ?_; (case F => k_asm); (case N => k_asm); (case h => rfl); (case l => lcg_src); (case i => assumption); (case z => omega)); intro h' t' k' F' N'; (try k_sweep)))
theorem ne_len {prog : Program} {w : World} {A : Around} {E : Value → Shared → Prop} {s : Shared} {Q : Value → Shared → Prop} {ja jb : Nat} {L a b : Addr} {xs ys : List Value} {h₀ : Heap} {news : List (Addr × Obj)} (N : News h₀ L s.heap news) (ha : (a, listOf xs.toArray ja) ∈ news) (hb : (b, listOf ys.toArray jb) ∈ news) (hl : xs.length ≠ ys.length) (hu : A.units + 4 < cLine) (h : Q (.bool true) s) :
    wpAny (model prog w) A (compareOp .NotEq (.ref a) (.ref b)) Q E s :=
  PySem.SeqAt.RcNeAt.lists_lengths (isList_at N ha) (isList_at N hb) (by simpa using hl) (by omega) prog w E Q h
theorem pack_d {h₀ h : Heap} {L : Addr} {i d s a l v : Addr × Obj} {R : List (Addr × Obj)} (_ : News h₀ L h (i :: d :: s :: a :: l :: v :: R)) : ∃ nx, nx = v :: d :: s :: R ∧ ∀ q ∈ nx, q ∈ i :: d :: s :: a :: l :: v :: R := ⟨_, rfl, fun q hq => by
  simp only [List.mem_cons] at hq ⊢; rcases hq with h | h | h | h <;> simp [h]⟩
theorem pack_e {h₀ h : Heap} {L : Addr} {x i d s a l v : Addr × Obj} {R : List (Addr × Obj)} (_ : News h₀ L h (x :: i :: d :: s :: a :: l :: v :: R)) : ∃ nx, nx = v :: d :: s :: R ∧ ∀ q ∈ nx, q ∈ x :: i :: d :: s :: a :: l :: v :: R := ⟨_, rfl, fun q hq => by
  simp only [List.mem_cons] at hq ⊢; rcases hq with h | h | h | h <;> simp [h]⟩
theorem strs_snoc' {vs : List Value} {ks : List Str} (h : StrsAre vs ks) (x : Str) (t : Tok) : StrsAre (vs ++ [.str x t]) (ks ++ [x]) := by
  induction h with
  | nil => exact .cons _ _ .nil
  | cons y u _ ih => exact .cons y u ih

theorem due_ct (w : World) {p : Program} {loose : List Str} {mean : ExcName → Option Value} {mg mb : Str → Option Value}
  {dp un : Nat} {gd : Option (List Code)} {cn : Str} {cs : Scope} {a : Addr} {ccd : Value} {cl : List (Str × Addr)} {outer : List Env} {A₀ : Around} {base h₀ : Heap} {L : Addr} {m : Str → Option Value}
  {news : List (Addr × Obj)} {s : Shared} {lr : Addr} {rv : List Value} {jr : Nat} {rs : List (Array UInt8 × Array UInt8)} {Q E : Value → Shared → Prop}
  (B : Below A₀ base outer h₀) (F : Fr h₀ L s.heap m) (X : (hd06.heap_39 w.params).In h₀) (N : News h₀ L s.heap news) (T : Top p loose mean mg mb h₀)
  (hl : (lr, listOf rv.toArray jr) ∈ news) (hr : RecIn news rv rs) (hn : rs.length ≤ 100) (hz : ∀ r ∈ rs, r.2.size ≤ 1000)
  (hk : cs.kind = .function) (hd : dp + 10 < recursionLimit) (hu : un + 60 < cLine)
  (ok : ∀ h' tk td o kvs, (∀ q ∈ news, @LT.lt Nat _ q.1 td) → (td == sysModules) = false → o.IsDictOf (PySem.strKind Challenge.rw_dm0232_06.row.prog w) kvs → BPairs kvs (dueOf rs) → Fr h₀ L h' m → News h₀ L h' ((td, o) :: news) → Q (.ref td) { s with heap := h', toks := tk }) :
  wpAny (model Challenge.rw_dm0232_06.row.prog w) (ktrTop dp un gd cn cs L a ccd cl outer) (call (.ref 77) [.ref lr]) Q E s := by
  revert X; k_fill; intro X
  have hMk := kstMark
  have hrl := hr.length
  refine wpAny_call ?_
  k_dflt ktr_enter
  repeat' (first | (k_unfold; (try dsimp only)) | ((fail_if_success (with_reducible show wpAny _ _ (exec (Stmt.For _ _ _ _ _) _) _ _ _)); first | (k_end; wrow_close) | walk1 | (dsimp only; walk1) | (leave1; try dsimp only)))
  refine wpAny_For ?_
  repeat' (first | (k_unfold; (try dsimp only)) | ((fail_if_success (with_reducible show wpAny _ _ (subscriptTail _ _ _ _) _ _ _)); first | (k_end; wrow_close) | walk1 | (dsimp only; walk1) | (leave1; try dsimp only)))
  rename Fr _ _ _ _ => FF
  rename News _ _ _ _ => NN
  rename_i ds _ hds _ td _ o0 lo hs0 _ _ _ htd _
  refine krv_lit FF NN (isList_at NN (.tail _ (.tail _ hl))) (IsPart.int _ _) rfl ?_ (by with_unfolding_all rfl) (by kmk_pure) (by simp only [sizeLine_eq, List.size_toArray]; omega)
  clear FF NN
  intro Dv h5 F5 N5 l5
  replace l5 : ∀ q ∈ (td, o0) :: (ds, listOf #[] 0) :: news, @LT.lt Nat _ q.1 Dv := l5
  have hrr := hr.reverse
  have hrrl : rv.reverse.length = rs.length := by rw [List.length_reverse]; exact hrl
  have ods : OwnOff news [ds] := fun q hq c hc => by rw [List.mem_singleton.mp hc]; exact Nat.ne_of_lt (hds q hq)
  have otd : OwnOff news [td] := fun q hq c hc => by rw [List.mem_singleton.mp hc]; exact Nat.ne_of_lt (kst_ltOf htd.2 q hq)
  have hdt : @Ne Nat ds td := Nat.ne_of_lt htd.1
  have hvd : @Ne Nat Dv ds := Nat.ne_of_gt (l5 (ds, listOf #[] 0) (.tail _ (.head _)))
  have hvt : @Ne Nat Dv td := Nat.ne_of_gt (l5 (td, o0) (.head _))
  repeat' (first | (k_unfold; (try dsimp only)) | ((fail_if_success (with_reducible show wpAny _ _ (pyIter _) _ _ _)); first | (k_end; wrow_close) | walk1 | (dsimp only; walk1) | (leave1; try dsimp only)))
  rename Fr _ _ _ _ => FF
  rename News _ _ _ _ => NN
  k_dflt (refine iterT_list (vs := rv.reverse) (jv := 0) (fun i mm nx => ∃ sv js o kvs, nx = (Dv, listOf rv.reverse.toArray 0) :: (td, o) :: (ds, listOf sv.toArray js) :: news ∧ StrsAre sv (dueUp rs i).1 ∧ o.IsDictOf (PySem.strKind Challenge.rw_dm0232_06.row.prog w) kvs ∧ BPairs kvs (dueUp rs i).2 ∧ mm (Str.ofString "table") = some (.ref td) ∧ mm (Str.ofString "seen") = some (.ref ds)) rfl (by rintro i m nx ⟨sv, js, o, kvs, rfl, -⟩; exact .head _) FF NN ⟨[], _, _, [], rfl, .nil, hs0, .nil, rfl, rfl⟩ (by passes_own) ?turn ?done)
  case turn =>
    rintro I i v m9 nx9 h9 tk9 oI hoT hi9 hv hne ⟨sv, js, o, kvs, rfl, hsv, hdo, hbp, hta, hse⟩ F9 N9
    rw [hrrl] at hi9
    simp only [List.forall_mem_cons] at hne
    obtain ⟨n1, n2, n3, nR⟩ := hne
    obtain ⟨ad, l, j, jl, tk, vs, k, v, rfl, ma, ml, hvs, hri⟩ := hrr.at hv
    have F10 := fr_names F9 [(Str.ofString "table", .ref td), (Str.ofString "seen", .ref ds)] (by
      intro q9 hq9; simp only [List.mem_cons, List.not_mem_nil, or_false] at hq9; rcases hq9 with rfl | rfl <;> assumption)
    clear F9 FF NN hta hse hs0
    have hvz : v.size ≤ 1000 := hz (k, v) (List.mem_reverse.mp (List.mem_of_getElem? hri))
    have hvl := hvs.length
    rw [KBw.ints_length] at hvl
    have hul := dueUp_len rs i (by omega)
    have hsl := hsv.length
    have hkz : kvs.length ≤ sizeLine := by rw [hbp.length, sizeLine_eq]; omega
    have hstep := dueUp_succ hri
    have oI' : OwnOff news [I] := off_one nR
    have a1 : @Ne Nat ad ds := ods _ ma ds (List.mem_singleton.mpr rfl)
    have a2 : @Ne Nat l ds := ods _ ml ds (List.mem_singleton.mpr rfl)
    have a3 : @Ne Nat ad td := otd _ ma td (List.mem_singleton.mpr rfl)
    have a4 : @Ne Nat l td := otd _ ml td (List.mem_singleton.mpr rfl)
    have N10 : News _ _ _ ((I, oI) :: (td, o) :: (ds, listOf sv.toArray js) :: (ad, tupO #[.str (latin k) tk, .ref l] j) :: (l, listOf vs.toArray jl) :: (Dv, listOf rv.reverse.toArray 0) :: news) := news_sub N9 (fun q hq => by
      simp only [List.mem_cons] at hq ⊢; rcases hq with h | h | h | rfl | rfl | h | h <;> simp [*])
    clear N9
    repeat' (first | (k_unfold; (try dsimp only)) | ((fail_if_success (with_reducible show wpAny _ _ (compareOp CmpOp.NotIn _ _) _ _ _)); first | (k_end; wrow_close) | walk1 | (dsimp only; walk1) | (leave1; try dsimp only)))
    rename Fr _ _ _ _ => FF
    rename News _ _ _ _ => NN
    refine notin_list_strs (isList_at NN (by lcg_src)) hsv ?_
    cases hany : (dueUp rs i).1.any (· == latin k) with
    | true =>
      show wpAny _ _ (truthy (Value.bool false)) _ _ _
      have hms : (dueUp rs (i + 1)).2 = (dueUp rs i).2 := by rw [hstep]; unfold dueStep; dsimp only; rw [if_neg (by rw [hany]; simp)]
      k_steps
      rename Fr _ _ _ _ => FF
      rename News _ _ _ _ => NN
      (try simp only [List.push_toArray] at NN)
      obtain ⟨nx, hnx, hsub⟩ := pack_d NN
      exact EndY.intro FF NN (nx := nx) ⟨_, _, _, _, hnx, by rw [hstep]; exact strs_snoc' hsv _ _, (by assumption), by rw [hms]; exact hbp, rfl, rfl⟩ hsub (by lcg_src) (by rw [hnx]; simp only [List.forall_mem_cons]; exact ⟨n1, n2, n3, nR⟩)
    | false =>
      show wpAny _ _ (truthy (Value.bool true)) _ _ _
      by_cases hv0 : v.size = 0
      · have hms : (dueUp rs (i + 1)).2 = (dueUp rs i).2 := by rw [hstep]; unfold dueStep; dsimp only; rw [if_neg (fun h => h.2 hv0)]
        repeat' (first | (k_unfold; (try dsimp only)) | ((fail_if_success (with_reducible show wpAny _ _ (compareOp CmpOp.NotEq (Value.ref _) (Value.ref _)) _ _ _)); first | (k_end; wrow_close) | walk1 | (dsimp only; walk1) | (leave1; try dsimp only)))
        rename Fr _ _ _ _ => FF
        rename News _ _ _ _ => NN
        obtain rfl : vs = [] := List.length_eq_zero_iff.mp (by omega)
        refine ne_listL NN (a := l) (xs := []) (ys := []) (by lcg_src) (by lcg_src) .nil (by ktr_units) ?_
        k_steps
        rename Fr _ _ _ _ => FF
        rename News _ _ _ _ => NN
        simp only [List.push_toArray] at NN
        obtain ⟨nx, hnx, hsub⟩ := pack_e NN
        exact EndY.intro FF NN (nx := nx) ⟨_, _, _, _, hnx, by rw [hstep]; exact strs_snoc' hsv _ _, (by assumption), by rw [hms]; exact hbp, rfl, rfl⟩ hsub (by lcg_src) (by rw [hnx]; simp only [List.forall_mem_cons]; exact ⟨n1, n2, n3, nR⟩)
      · have hms : (dueUp rs (i + 1)).2 = bset (dueUp rs i).2 (latin k) v := by rw [hstep]; unfold dueStep; dsimp only; rw [if_pos ⟨hany, hv0⟩]
        repeat' (first | (k_unfold; (try dsimp only)) | ((fail_if_success (with_reducible show wpAny _ _ (compareOp CmpOp.NotEq (Value.ref _) (Value.ref _)) _ _ _)); first | (k_end; wrow_close) | walk1 | (dsimp only; walk1) | (leave1; try dsimp only)))
        rename Fr _ _ _ _ => FF
        rename News _ _ _ _ => NN
        refine ne_len NN (a := l) (xs := vs) (ys := []) (by lcg_src) (by lcg_src) (by rw [List.length_nil, hvl]; exact hv0) (by ktr_units) ?_
        k_steps
        rename Fr _ _ _ _ => FF
        rename News _ _ _ _ => NN
        simp only [List.push_toArray] at NN
        obtain ⟨nx, hnx, hsub⟩ := pack_e NN
        exact EndY.intro FF NN (nx := nx) ⟨_, _, _, _, hnx, by rw [hstep]; exact strs_snoc' hsv _ _, (by assumption), by rw [hms]; exact hbp.set _ _ _, rfl, rfl⟩ hsub (by lcg_src) (by rw [hnx]; simp only [List.forall_mem_cons]; exact ⟨n1, n2, n3, nR⟩)
  case done =>
    rintro m9 nx9 h9 tk9 ⟨sv, js, o, kvs, rfl, hsv, hdo, hbp, hta, hse⟩ F9 N9
    have F10 := fr_names F9 [(Str.ofString "table", .ref td), (Str.ofString "seen", .ref ds)] (by
      intro q9 hq9; simp only [List.mem_cons, List.not_mem_nil, or_false] at hq9; rcases hq9 with rfl | rfl <;> assumption)
    clear F9 FF NN hta hse hs0
    rw [hrrl] at hbp
    dsimp only
    k_steps
    rename News h₀ L _ _ => NN
    rename Fr h₀ L _ m => FF
    exact ok _ _ td o kvs (fun q hq => kst_ltOf htd.2 q hq) lo hdo hbp FF (news_sub NN fun q hq => by simp only [List.mem_cons] at hq ⊢; rcases hq with h | h <;> simp [h])
end Mine
end
section
open PySem PySem.W PyProof.Rows PySem.Calls PySem.Spec
set_option Elab.async false
set_option maxRecDepth 100000
set_option maxHeartbeats 8000000
namespace Mine
local macro_rules | `(tactic| walk_at "pad 0") => `(tactic| fail)
local macro_rules | `(tactic| walk_at "pad 1") => `(tactic| fail)
local macro_rules | `(tactic| walk_at "pad 2") => `(tactic| fail)
local macro_rules | `(tactic| walk_at "pad 3") => `(tactic| fail)
local macro_rules | `(tactic| walk_at "pad 4") => `(tactic| fail)
local macro_rules | `(tactic| walk_at "pad 5") => `(tactic| fail)
local macro_rules | `(tactic| walk_at "pad 6") => `(tactic| fail)
local macro_rules | `(tactic| walk_at "pad 7") => `(tactic| fail)
local macro_rules | `(tactic| walk_at "pad 8") => `(tactic| fail)
local macro_rules | `(tactic| walk_at "pad 9") => `(tactic| fail)
local macro_rules | `(tactic| walk_at "pad 10") => `(tactic| fail)
local macro_rules | `(tactic| walk_at "pad 11") => `(tactic| fail)
local macro_rules | `(tactic| walk_at "pad 12") => `(tactic| fail)
local macro_rules | `(tactic| walk_at "pad 13") => `(tactic| fail)
local macro_rules | `(tactic| k_room) => `(tactic| ktr_room)
local macro_rules | `(tactic| k_units) => `(tactic| ktr_units)
local macro_rules | `(tactic| k_mem) => `(tactic| first | exact List.Mem.head _ | (refine List.mem_cons_of_mem _ ?_; k_mem))
local macro_rules | `(tactic| lcg_src) => `(tactic| first | exact List.Mem.head _ | (refine List.mem_cons_of_mem _ ?_; lcg_src) | assumption)
local macro_rules | `(tactic| walk_at "call builtin:len") => `(tactic| (k_here; (with_reducible show wpAny _ _ (call (Value.builtin "len") [Value.ref _]) _ _ _); k_dflt (refine' kst_len ?k1 ?k2 rfl ?k4 ?_; (case k1 => k_asm); (case k2 => lcg_src); (case k4 => ((try simp only [List.length_append, List.length_cons, List.length_nil]); omega)))))
local macro_rules | `(tactic| walk_at "ite") => `(tactic| (k_here; first | (refine ite_pos (by first | omega | (simp only [decide_eq_true_eq, beq_iff_eq, bne_iff_ne, Bool.not_eq_true', beq_eq_false_iff_ne, ne_eq, List.length_append, List.length_cons, List.length_nil]; done) | (simp only [decide_eq_true_eq, beq_iff_eq, bne_iff_ne, Bool.not_eq_true', beq_eq_false_iff_ne, ne_eq, List.length_append, List.length_cons, List.length_nil]; omega)) ?_) | (refine ite_neg (by first | omega | (simp only [decide_eq_true_eq, beq_iff_eq, bne_iff_ne, Bool.not_eq_true', beq_eq_false_iff_ne, ne_eq, List.length_append, List.length_cons, List.length_nil]; done) | (simp only [decide_eq_true_eq, beq_iff_eq, bne_iff_ne, Bool.not_eq_true', beq_eq_false_iff_ne, ne_eq, List.length_append, List.length_cons, List.length_nil]; omega)) ?_)))
local macro_rules | `(tactic| walk_at "binaryOp Mod str ref") => `(tactic| (k_here; k_dflt (first | ((with_reducible show wpAny _ _ (binaryOp _ (Value.str (Str.ofString "expected %d bytes in a bytes1, but only %d remain") _) _) _ _ _); refine' modB ?N ?b ?a1 ?a2 ?a3 ?a4 ?_; (case N => k_asm); (case b => k_mem); (case a1 => omega); (case a2 => omega); (case a3 => omega); (case a4 => omega)) | ((with_reducible show wpAny _ _ (binaryOp _ (Value.str (Str.ofString "expected %d bytes in a string1, but only %d remain") _) _) _ _ _); refine' modS ?N ?b ?a1 ?a2 ?a3 ?a4 ?_; (case N => k_asm); (case b => k_mem); (case a1 => omega); (case a2 => omega); (case a3 => omega); (case a4 => omega))); intro _ _))
/-- the words that _law_words gives -/
def wordsF (k v r : Nat) : Str := if r = 0 ∨ r = k + 1 then msg0 else if r < k + 1 then msgS (k : Int) ((r : Int) - 1) else msgB (v : Int) ((r : Int) - (k : Int) - 2)
theorem latin_length (c : Array UInt8) : (latin c).length = c.size := by show (latin c).cps.size = _; exact latin_len c

theorem words_ct (w : World) {p : Program} {loose : List Str} {mean : ExcName → Option Value} {mg mb : Str → Option Value}
  {dp un : Nat} {gd : Option (List Code)} {cn : Str} {cs : Scope} {a : Addr} {ccd : Value} {cl : List (Str × Addr)} {outer : List Env} {A₀ : Around} {base h₀ : Heap} {L : Addr} {m : Str → Option Value}
  {news : List (Addr × Obj)} {s : Shared} {lv : Addr} {vs : List Value} {jv : Nat} {kb : Array UInt8} {r : Nat} {t1 t2 : Tok} {Q E : Value → Shared → Prop}
  (B : Below A₀ base outer h₀) (F : Fr h₀ L s.heap m) (X : (hd06.heap_39 w.params).In h₀) (N : News h₀ L s.heap news) (T : Top p loose mean mg mb h₀)
  (hl : (lv, listOf vs.toArray jv) ∈ news) (hz : kb.size ≤ 1000) (hv : vs.length ≤ 1000) (hr : r ≤ kb.size + vs.length + 1)
  (hk : cs.kind = .function) (hd : dp + 10 < recursionLimit) (hu : un + 60 < cLine)
  (ok : ∀ h' tk t', Fr h₀ L h' m → News h₀ L h' news → Q (.str (wordsF kb.size vs.length r) t') { s with heap := h', toks := tk }) :
  wpAny (model Challenge.rw_dm0232_06.row.prog w) (ktrTop dp un gd cn cs L a ccd cl outer) (call (.ref 84) [.str (latin kb) t1, .ref lv, .int (r : Int) t2]) Q E s := by
  revert X; k_fill; intro X
  have hMk := kstMark
  have hkl := latin_length kb
  have hcs : r = 0 ∨ (r ≠ 0 ∧ r = kb.size + 1) ∨ (r ≠ 0 ∧ r ≠ kb.size + 1 ∧ r < kb.size + 1) ∨ (r ≠ 0 ∧ r ≠ kb.size + 1 ∧ ¬ r < kb.size + 1) := by omega
  rcases hcs with c1 | ⟨c1, c2⟩ | ⟨c1, c2, c3⟩ | ⟨c1, c2, c3⟩
  · have e : wordsF kb.size vs.length r = msg0 := by unfold wordsF; rw [if_pos (.inl c1)]
    rw [e] at ok
    refine wpAny_call ?_
    k_dflt ktr_enter
    k_steps
    rename News h₀ L _ _ => NN
    rename Fr h₀ L _ m => FF
    exact ok _ _ _ FF NN
  · have e : wordsF kb.size vs.length r = msg0 := by unfold wordsF; rw [if_pos (.inr c2)]
    rw [e] at ok
    refine wpAny_call ?_
    k_dflt ktr_enter
    k_steps
    rename News h₀ L _ _ => NN
    rename Fr h₀ L _ m => FF
    exact ok _ _ _ FF NN
  · have e : wordsF kb.size vs.length r = msgS (kb.size : Int) ((r : Int) - 1) := by unfold wordsF; rw [if_neg (by omega), if_pos c3]
    rw [e] at ok
    refine wpAny_call ?_
    k_dflt ktr_enter
    k_steps
    rename News h₀ L _ _ => NN
    rename Fr h₀ L _ m => FF
    rw [hkl]
    exact ok _ _ _ FF (fun q hq => NN q (.tail _ hq))
  · have e : wordsF kb.size vs.length r = msgB (vs.length : Int) ((r : Int) - (kb.size : Int) - 2) := by unfold wordsF; rw [if_neg (by omega), if_neg c3]
    rw [e] at ok
    refine wpAny_call ?_
    k_dflt ktr_enter
    k_steps
    rename News h₀ L _ _ => NN
    rename Fr h₀ L _ m => FF
    rw [hkl]
    exact ok _ _ _ FF (fun q hq => NN q (.tail _ hq))
end Mine
end
section
open PySem PySem.W PyProof.Rows PySem.Calls PySem.Spec
set_option Elab.async false
set_option maxRecDepth 100000
set_option maxHeartbeats 8000000
namespace Mine
local macro_rules | `(tactic| walk_at "pad 0") => `(tactic| fail)
local macro_rules | `(tactic| walk_at "pad 1") => `(tactic| fail)
local macro_rules | `(tactic| walk_at "pad 2") => `(tactic| fail)
local macro_rules | `(tactic| walk_at "pad 3") => `(tactic| fail)
local macro_rules | `(tactic| walk_at "pad 4") => `(tactic| fail)
local macro_rules | `(tactic| walk_at "pad 5") => `(tactic| fail)
local macro_rules | `(tactic| walk_at "pad 6") => `(tactic| fail)
local macro_rules | `(tactic| walk_at "pad 7") => `(tactic| fail)
local macro_rules | `(tactic| walk_at "pad 8") => `(tactic| fail)
local macro_rules | `(tactic| walk_at "pad 9") => `(tactic| fail)
local macro_rules | `(tactic| walk_at "pad 10") => `(tactic| fail)
local macro_rules | `(tactic| k_room) => `(tactic| ktr_room)
local macro_rules | `(tactic| k_units) => `(tactic| ktr_units)
local macro_rules | `(tactic| k_mem) => `(tactic| first | exact List.Mem.head _ | (refine List.mem_cons_of_mem _ ?_; k_mem))
local macro_rules | `(tactic| lcg_src) => `(tactic| first | exact List.Mem.head _ | (refine List.mem_cons_of_mem _ ?_; lcg_src) | assumption)
local macro_rules | `(tactic| walk_at "call builtin:len") => `(tactic| (k_here; (with_reducible show wpAny _ _ (call (Value.builtin "len") [Value.ref _]) _ _ _); k_dflt (refine' kst_len ?k1 ?k2 rfl ?k4 ?_; (case k1 => k_asm); (case k2 => lcg_src); (case k4 => ((try simp only [List.length_append, List.length_cons, List.length_nil]); omega)))))
local macro_rules | `(tactic| walk_at "ite") => `(tactic| (k_here; first | (refine ite_pos (by first | omega | (simp only [decide_eq_true_eq, beq_iff_eq, bne_iff_ne, Bool.not_eq_true', beq_eq_false_iff_ne, ne_eq, List.length_append, List.length_cons, List.length_nil]; done) | (simp only [decide_eq_true_eq, beq_iff_eq, bne_iff_ne, Bool.not_eq_true', beq_eq_false_iff_ne, ne_eq, List.length_append, List.length_cons, List.length_nil]; omega)) ?_) | (refine ite_neg (by first | omega | (simp only [decide_eq_true_eq, beq_iff_eq, bne_iff_ne, Bool.not_eq_true', beq_eq_false_iff_ne, ne_eq, List.length_append, List.length_cons, List.length_nil]; done) | (simp only [decide_eq_true_eq, beq_iff_eq, bne_iff_ne, Bool.not_eq_true', beq_eq_false_iff_ne, ne_eq, List.length_append, List.length_cons, List.length_nil]; omega)) ?_)))
local macro_rules | `(tactic| walk_at "call type:type") => `(tactic| ((with_reducible show wpAny _ _ (call _ [Value.bytes _ _]) _ _ _); refine call_type_of (Tx := "bytes") rfl (by decide +kernel) ?_))
local macro_rules | `(tactic| walk_at "compareOp NotEq str str") => `(tactic| (k_here; refine ne_str_same (by first | rfl | assumption | exact Eq.symm (by assumption)) ?_))
local macro_rules | `(tactic| walk_at "PostX") => `(tactic| (dsimp only [PostX]))
local macro_rules | `(tactic| walk_at "PostY") => `(tactic| (dsimp only [PostY]))
local macro_rules | `(tactic| walk_at "call builtin:ord") => `(tactic| (k_here; refine P.ord_of_char ?_))
def keyB : List (Array UInt8) := [#[97], #[98], #[], #[98, 97], #[233], #[255, 97]]
def keyOf (x : Int) : Array UInt8 := keyB.getD (x.fmod 6).toNat #[]
def valI (x : Int) (n : Nat) : List Int := (List.range n).map fun k => ((x.fdiv 24).fdiv (256 ^ k)).fmod 256
def recOf (x : Int) : Array UInt8 × Array UInt8 := (keyOf x, byteArr (valI x ((x.fdiv 6).fmod 4).toNat))
def recsUp (ns : List Int) (i : Nat) : List (Array UInt8 × Array UInt8) := (#[97], #[1, 0]) :: (ns.take i).map recOf
theorem bInts_byteArr {ks : List Int} (h : KBa.In ks) : KBw.bInts (byteArr ks) = ks := by
  unfold KBw.bInts byteArr
  simp only [List.map_map]
  conv => rhs; rw [← List.map_id ks]
  refine List.map_congr_left fun k hk => ?_
  have := h k hk
  simp only [Function.comp_apply, id_eq]
  rw [Nat.toUInt8, UInt8.toNat_ofNat']
  omega
theorem valI_in (x : Int) (n : Nat) : KBa.In (valI x n) := by
  intro k hk
  obtain ⟨y, _, rfl⟩ := List.mem_map.mp hk
  exact ⟨fmod_lo _ (by decide), fmod_hi _ (by decide)⟩
theorem valI_snoc {ys : List Value} {x : Int} {i : Nat} {t : Tok} {c : Int} (h : IntsAre ys (valI x i)) (e : c = ((x.fdiv 24).fdiv (256 ^ i)).fmod 256) : IntsAre (ys ++ [.int c t]) (valI x (i + 1)) := by
  unfold valI; rw [List.range_succ, List.map_append, e]; exact ints_snoc h _ _
theorem keys_are {t1 t2 t3 t4 t5 t6 : Tok} : StrsAre [.str (Str.ofString "a") t1, .str (Str.ofString "b") t2, .str (Str.ofString "") t3, .str (Str.ofString "ba") t4, .str (Str.ofString "é") t5, .str (Str.ofString "ÿa") t6] (keyB.map latin) := by
  have e1 : latin #[97] = Str.ofString "a" := by decide +kernel
  have e2 : latin #[98] = Str.ofString "b" := by decide +kernel
  have e3 : latin #[] = Str.ofString "" := by decide +kernel
  have e4 : latin #[98, 97] = Str.ofString "ba" := by decide +kernel
  have e5 : latin #[233] = Str.ofString "é" := by decide +kernel
  have e6 : latin #[255, 97] = Str.ofString "ÿa" := by decide +kernel
  unfold keyB
  simp only [List.map_cons, List.map_nil]
  rw [e1, e2, e3, e4, e5, e6]
  exact .cons _ _ (.cons _ _ (.cons _ _ (.cons _ _ (.cons _ _ (.cons _ _ .nil)))))
theorem strs_get {vs : List Value} {ks : List (Array UInt8)} (h : StrsAre vs (ks.map latin)) : ∀ {i : Nat}, i < ks.length → ∃ t, vs[i]? = some (.str (latin (ks.getD i #[])) t) := by
  induction ks generalizing vs with
  | nil => intro i hi; simp at hi
  | cons k ks ih =>
    intro i hi
    cases h with
    | cons _ t r =>
      cases i with
      | zero => exact ⟨t, by simp⟩
      | succ i => obtain ⟨t', e⟩ := ih r (i := i) (by simpa using hi); exact ⟨t', by simpa using e⟩
theorem item_v {prog : Program} {w : World} {A : Around} {E : Value → Shared → Prop} {s : Shared} {h₀ : Heap} {L D : Addr} {news : List (Addr × Obj)} {vs : List Value} {v : Value} {n i : Nat} {k : Int} {u : Tok} {value slice : Expr} {Q : Value → Shared → Prop}
    (N : News h₀ L s.heap news) (hm : (D, listOf vs.toArray n) ∈ news) (hk : k = (i : Int)) (hv : vs[i]? = some v) (hz : vs.length ≤ 1000000) (h : Q v s)
    (hs : subscripted slice false (.ref D) (.int k u) = operate [.ref D, .int k u] (getItem (.ref D) (.int k u)) := by with_unfolding_all rfl) :
    wpAny (model prog w) A (subscriptTail value slice (.ref D) (.int k u)) Q E s := by
  have hi : i < vs.length := by rw [List.getElem?_eq_some_iff] at hv; exact hv.1
  exact tail_any (isList_at N hm).typeIs slot_list_getitem.lookup (wpAny_getItem_list (isList_at N hm) (by omega) (by omega) (by rw [hk]; simpa using hv) h) hs
theorem own_grow {D : Addr} {o : Obj} {R : List (Addr × Obj)} {l : List Addr} (h : OwnOff R l) (hd : ∀ a ∈ l, @LT.lt Nat _ a D) : OwnOff ((D, o) :: R) l := by
  intro q hq a ha
  rcases List.mem_cons.mp hq with rfl | hq
  · exact Nat.ne_of_gt (hd a ha)
  · exact h q hq a ha
theorem rec0 {Dt Dl : Addr} {t t1 t2 : Tok} {j jl : Nat} {X : List (Addr × Obj)} (h1 : (Dt, tupO #[.str (Str.ofString "a") t, .ref Dl] j) ∈ X) (h2 : (Dl, listOf #[.int 1 t1, .int 0 t2] jl) ∈ X) : RecIn X [.ref Dt] [(#[97], #[1, 0])] := by
  have e1 : Str.ofString "a" = latin #[97] := by decide +kernel
  rw [e1] at h1
  exact .cons (vs := [.int 1 t1, .int 0 t2]) h1 h2 (.cons _ _ (.cons _ _ .nil)) .nil
theorem news_l1 {h₀ h : Heap} {L : Addr} {d r t l k x c b : Addr × Obj} (N : News h₀ L h [d, r, t, l, k, x, c, b]) : News h₀ L h (d :: r :: k :: x :: c :: b :: [t, l]) := news_sub N fun q hq => by
  simp only [List.mem_cons, List.not_mem_nil, or_false] at hq ⊢; rcases hq with h | h | h | h | h | h | h | h <;> simp [h]
theorem keys_pack {h₀ h : Heap} {L Dk : Addr} {t1 t2 t3 t4 t5 t6 : Tok} {d r : Addr × Obj} {l : List (Addr × Obj)} (N : News h₀ L h (d :: r :: (Dk, listOf #[.str (Str.ofString "a") t1, .str (Str.ofString "b") t2, .str (Str.ofString "") t3, .str (Str.ofString "ba") t4, .str (Str.ofString "é") t5, .str (Str.ofString "ÿa") t6] 0) :: l)) :
    ∃ kv, StrsAre kv (keyB.map latin) ∧ News h₀ L h (d :: r :: (Dk, listOf kv.toArray 0) :: l) := ⟨_, keys_are, N⟩
theorem off4_one {R : List (Addr × Obj)} {a b c d : Addr} (h : OwnOff R [a, b, c, d]) : OwnOff R [a] ∧ OwnOff R [b] ∧ OwnOff R [c] ∧ OwnOff R [d] :=
  ⟨off_sub h (by simp), off_sub h (by simp), off_sub h (by simp), off_sub h (by simp)⟩
theorem off_pair {a b : Addr} {o o' : Obj} {l : List Addr} (h : ∀ c ∈ l, (@Ne Nat a c) ∧ (@Ne Nat b c)) : OwnOff [(a, o), (b, o')] l := by
  intro q hq c hc
  simp only [List.mem_cons, List.not_mem_nil, or_false] at hq
  rcases hq with rfl | rfl
  · exact (h c hc).1
  · exact (h c hc).2
theorem own_grow' {D : Addr} {o : Obj} {R : List (Addr × Obj)} {l : List Addr} (h : OwnOff R l) (hd : ∀ a ∈ l, @Ne Nat D a) : OwnOff ((D, o) :: R) l := by
  intro q hq a ha
  rcases List.mem_cons.mp hq with rfl | hq
  · exact hd a ha
  · exact h q hq a ha
theorem off_new {D : Addr} {o : Obj} {R : List (Addr × Obj)} {l : List Addr} (h : OwnOff R l) (hd : ∀ a ∈ l, @LT.lt Nat _ a D) : OwnOff ((D, o) :: R) l := own_grow h hd
theorem recs_succ {l : List Int} {i : Nat} {x : Int} (h : l.take (i + 1) = l.take i ++ [x]) : recsUp l (i + 1) = recsUp l i ++ [recOf x] := by
  unfold recsUp; rw [h, List.map_append]; rfl
theorem rec_snoc {R : List (Addr × Obj)} {rv : List Value} {rs : List (Array UInt8 × Array UInt8)} {x : Int} {Dt D7 : Addr} {t : Tok} {j nv : Nat} {ys : List Value} (h : RecIn R rv rs) (hJ : IntsAre ys (valI x nv)) (hn : ((x.fdiv 6).fmod 4).toNat = nv) :
    RecIn ((Dt, tupO #[.str (latin (keyB.getD (x.fmod 6).toNat #[])) t, .ref D7] j) :: (D7, LCg.lst ys) :: R) (rv ++ [.ref Dt]) (rs ++ [recOf x]) := by
  refine (h.mono fun q hq => .tail _ (.tail _ hq)).append (.cons (l := D7) (.head _) (.tail _ (.head _)) ?_ .nil)
  rw [hn, bInts_byteArr (valI_in x nv)]; exact hJ
theorem pack_l1 {h₀ h : Heap} {L : Addr} {t d7 i d6 dr dk a b c : Addr × Obj} {R : List (Addr × Obj)} (_ : News h₀ L h (t :: d7 :: i :: d6 :: dr :: dk :: a :: b :: c :: R)) : ∃ nx, nx = d6 :: dr :: dk :: a :: b :: c :: t :: d7 :: R ∧ ∀ q ∈ nx, q ∈ t :: d7 :: i :: d6 :: dr :: dk :: a :: b :: c :: R := ⟨_, rfl, fun q hq => by
  simp only [List.mem_cons] at hq ⊢; rcases hq with h | h | h | h | h | h | h | h | h <;> simp [h]⟩
def recsOf (ns : List Int) : List (Array UInt8 × Array UInt8) := recsUp (ns.take 6) (ns.take 6).length
theorem recs_all (ns : List Int) : recsUp (ns.take 6) (ns.take 6).length = recsOf ns := rfl
theorem recs_len (ns : List Int) : (recsOf ns).length ≤ 7 := by unfold recsOf recsUp; simp only [List.length_cons, List.length_map, List.length_take]; omega
theorem recs_sz (ns : List Int) : ∀ r ∈ recsOf ns, r.1.size ≤ 2 ∧ r.2.size ≤ 3 := by
  intro r hr
  unfold recsOf recsUp at hr
  rcases List.mem_cons.mp hr with rfl | hr
  · decide
  · obtain ⟨x, _, rfl⟩ := List.mem_map.mp hr
    refine ⟨?_, ?_⟩
    · show (keyB.getD (x.fmod 6).toNat #[]).size ≤ 2
      have h1 := fmod_hi (n := 6) x (by decide)
      have h0 := fmod_lo (n := 6) x (by decide)
      have h2 : (x.fmod 6).toNat < 6 := by omega
      generalize (x.fmod 6).toNat = k at h2
      rcases k with _ | _ | _ | _ | _ | _ | k <;> first | decide | omega
    · show (byteArr (valI x ((x.fdiv 6).fmod 4).toNat)).size ≤ 3
      rw [byteArr_size]
      unfold valI
      rw [List.length_map, List.length_range]
      have h1 := fmod_hi (n := 4) (x.fdiv 6) (by decide)
      omega
theorem news_l2 {h₀ h : Heap} {L : Addr} {e o d r k a b c : Addr × Obj} {R : List (Addr × Obj)} (N : News h₀ L h (e :: o :: d :: r :: k :: a :: b :: c :: R)) : News h₀ L h (r :: o :: e :: a :: b :: c :: R) := news_sub N fun q hq => by
  simp only [List.mem_cons] at hq ⊢; rcases hq with h | h | h | h | h | h | h <;> simp [h]
theorem news_l3 {h₀ h : Heap} {L : Addr} {x d10 l1 d9 d8 l0 i o e ad l r a b c : Addr × Obj} {R : List (Addr × Obj)} (N : News h₀ L h (x :: d10 :: l1 :: d9 :: d8 :: l0 :: i :: o :: e :: ad :: l :: r :: a :: b :: c :: R)) : News h₀ L h (x :: i :: o :: e :: r :: a :: b :: c :: R) := news_sub N fun q hq => by
  simp only [List.mem_cons] at hq ⊢; rcases hq with h | h | h | h | h | h | h | h | h <;> simp [h]
theorem ext_pack {h₀ h : Heap} {L D : Addr} {a b : Value} {wk vs : List Value} {l : List (Addr × Obj)} (N : News h₀ L h ((D, listOf ((([a] ++ wk).toArray.toList ++ #[b].toList).toArray.toList ++ vs.toArray.toList).toArray 0) :: l)) : ∃ wz, wz = (([a] ++ wk) ++ [b]) ++ vs ∧ News h₀ L h ((D, listOf wz.toArray 0) :: l) := ⟨_, rfl, N⟩
theorem pack_l3 {h₀ h : Heap} {L : Addr} {x i o e r a b c : Addr × Obj} {R : List (Addr × Obj)} (_ : News h₀ L h (x :: i :: o :: e :: r :: a :: b :: c :: R)) : ∃ nx, nx = r :: o :: e :: a :: b :: c :: R ∧ ∀ q ∈ nx, q ∈ x :: i :: o :: e :: r :: a :: b :: c :: R := ⟨_, rfl, fun q hq => by
  simp only [List.mem_cons] at hq ⊢; rcases hq with h | h | h | h | h | h | h <;> simp [h]⟩
theorem rec_place (rs : List (Array UInt8 × Array UInt8)) {k : Nat} : ∀ n, n ≤ rs.length → ∃ i, i ≤ n ∧ (encB (rs.take i)).size ≤ k ∧ (i < n → k < (encB (rs.take (i + 1))).size)
  | 0, _ => ⟨0, Nat.le_refl _, by simp [encB, flat, enc], fun h => absurd h (Nat.lt_irrefl _)⟩
  | n + 1, h => by
    obtain ⟨i, h1, h2, h3⟩ := rec_place rs (k := k) n (by omega)
    by_cases hi : i < n
    · exact ⟨i, by omega, h2, fun _ => h3 hi⟩
    · have e : i = n := by omega
      subst e
      by_cases hk : k < (encB (rs.take (i + 1))).size
      · exact ⟨i, by omega, h2, fun _ => hk⟩
      · exact ⟨i + 1, Nat.le_refl _, by omega, fun h => absurd h (Nat.lt_irrefl _)⟩
theorem rec_mono {rs : List (Array UInt8 × Array UInt8)} {a b : Nat} (h : a ≤ b) (hb : b ≤ rs.length) : (encB (rs.take a)).size ≤ (encB (rs.take b)).size := by
  rw [place_rec, place_rec]; exact pos_le (by omega) (by rw [flat_len]; omega)
theorem rec_whole {rs : List (Array UInt8 × Array UInt8)} {i k : Nat} (hi : i ≤ rs.length) (h1 : (encB (rs.take i)).size ≤ k) (h2 : i < rs.length → k < (encB (rs.take (i + 1))).size) :
    ((List.drop 1 (endsR rs rs.length)).filter fun e => decide (e ≤ (k : Int))).length = i := by
  have e : List.drop 1 (endsR rs rs.length) = (List.range rs.length).map fun i => ((encB (rs.take (i + 1))).size : Int) := by
    unfold endsR; rw [List.range_succ_eq_map, List.map_cons, List.drop_succ_cons, List.drop_zero, List.map_map]; rfl
  rw [e]
  refine filt_range _ hi fun j hj => ?_
  constructor
  · intro hle
    rcases Nat.lt_or_ge j i with h | h
    · exact h
    · exfalso
      have a1 := h2 (by omega)
      have a2 := rec_mono (rs := rs) (a := i + 1) (b := j + 1) (by omega) (by omega)
      omega
  · intro hlt
    have := rec_mono (rs := rs) (a := j + 1) (b := i) (by omega) hi
    omega
theorem rec_next {rs : List (Array UInt8 × Array UInt8)} {i : Nat} {k v : Array UInt8} (h : rs[i]? = some (k, v)) : (encB (rs.take (i + 1))).size = (encB (rs.take i)).size + (k.size + v.size + 2) := by
  rw [List.take_add_one, h, Option.toList_some, encB_app, Array.size_append]
  have h3 : (encB [(k, v)]).size = k.size + v.size + 2 := by
    unfold encB; rw [show flat [(k, v)] = [k] ++ [v] from rfl, enc_append, enc_one, enc_one]; simp; omega
  rw [h3]
theorem mem6 {q a b c d e f : Addr × Obj} {R : List (Addr × Obj)} (h : q ∈ R) : q ∈ a :: b :: c :: d :: e :: f :: R := .tail _ (.tail _ (.tail _ (.tail _ (.tail _ (.tail _ h)))))
theorem take_bInts (B : Array UInt8) (k : Nat) : List.take k (KBw.bInts B) = KBw.bInts (cutB B 0 k) := by
  unfold KBw.bInts cutB; rw [List.drop_zero, ← List.map_take]
theorem mem8 {q a b c d e f g h : Addr × Obj} {R : List (Addr × Obj)} (hq : q ∈ R) : q ∈ a :: b :: c :: d :: e :: f :: g :: h :: R := .tail _ (.tail _ (mem6 hq))
theorem words_is {x : Str} {k pl ks vz : Nat} (hpk : pl ≤ k) (h : (k = pl ∧ x = msg0) ∨ (pl < k ∧ k < pl + 1 + ks ∧ x = msgS (ks : Int) ((k : Int) - (pl : Int) - 1)) ∨ (k = pl + 1 + ks ∧ x = msg0) ∨ (pl + 1 + ks < k ∧ k < pl + 1 + ks + 1 + vz ∧ x = msgB (vz : Int) ((k : Int) - (pl : Int) - (ks : Int) - 2))) : x = wordsF ks vz (k - pl) := by
  unfold wordsF
  rcases h with ⟨h1, e⟩ | ⟨h1, h2, e⟩ | ⟨h1, e⟩ | ⟨h1, h2, e⟩
  · rw [if_pos (.inl (by omega)), e]
  · rw [if_neg (by omega), if_pos (by omega), e, show ((k - pl : Nat) : Int) - 1 = (k : Int) - (pl : Int) - 1 by omega]
  · rw [if_pos (.inr (by omega)), e]
  · rw [if_neg (by omega), if_neg (by omega), e, show ((k - pl : Nat) : Int) - (ks : Int) - 2 = (k : Int) - (pl : Int) - (ks : Int) - 2 by omega]
theorem news_m1 {h₀ h : Heap} {L : Addr} {p d i r o e a b : Addr × Obj} {T R R2 : List (Addr × Obj)} (N : News h₀ L h (p :: d :: (T ++ ([i, r, o, e, a, b] ++ R)))) (hR : R2 = T ++ R) : News h₀ L h (p :: d :: i :: r :: o :: e :: a :: b :: R2) := news_sub N fun q hq => by
  subst hR
  simp only [List.mem_append, List.mem_cons, List.not_mem_nil, or_false] at hq ⊢; rcases hq with h | h | h | h | h | h | h | h | h | h <;> simp [h]
theorem pack_m {h₀ h : Heap} {L : Addr} {x1 x2 x3 p d i r o e a b : Addr × Obj} {R : List (Addr × Obj)} (_ : News h₀ L h (x1 :: x2 :: x3 :: p :: d :: i :: r :: o :: e :: a :: b :: R)) : ∃ nx, nx = r :: o :: e :: a :: b :: R ∧ ∀ q ∈ nx, q ∈ x1 :: x2 :: x3 :: p :: d :: i :: r :: o :: e :: a :: b :: R := ⟨_, rfl, fun q hq => by
  simp only [List.mem_cons] at hq ⊢; rcases hq with h | h | h | h | h | h <;> simp [h]⟩
theorem news_m2 {h₀ h : Heap} {L : Addr} {p d r a b : Addr × Obj} {T R R2 : List (Addr × Obj)} (N : News h₀ L h (p :: d :: (T ++ ([r, a, b] ++ R)))) (hR : R2 = T ++ R) : News h₀ L h (p :: d :: r :: a :: b :: R2) := news_sub N fun q hq => by
  subst hR
  simp only [List.mem_append, List.mem_cons, List.not_mem_nil, or_false] at hq ⊢; rcases hq with h | h | h | h | h | h | h <;> simp [h]
theorem map_whole {B : Array UInt8} {rs qs : List (Array UInt8 × Array UInt8)} {x : Str} (hB : B.toList = enc (flat rs)) (hz : ∀ c ∈ flat rs, c.size ≤ 255) (h : MapEnd B qs x) : qs = rs := by
  have hs : B.size = pos (flat rs) (2 * rs.length) := by rw [← flat_len, pos_all, ← hB, Array.length_toList]
  have h' : MapEnd (cutB B 0 B.size) qs x := by rw [cut_whole]; exact h
  have := (cut_even (w := rs.length) hB hz (Nat.le_refl _) (Nat.le_refl _) (by omega) (fun h => absurd h (Nat.lt_irrefl _)) h').1
  rw [this, List.take_length]
theorem sc_name {h : Heap} {a : Addr} {vs : Array Value} (hl : h.IsList a vs) : ∃ b, b = a ∧ h.IsList b vs := ⟨a, rfl, hl⟩

theorem law06 : PySem.Challenge.rw_dm0232_06.Holds := hd06 (by
  k_go0
  have hMk := kstMark
  rename World => w
  rename List Int => ns
  rename Shared => s1
  have hns : ns.length ≤ 63 := by omega
  rename Frag.In _ (ghostOf _ _) => X0
  rename Top topProg _ _ _ _ (ghostOf _ _) => T0
  rename Below _ _ _ _ => B0
  rename IntsAre _ ns => hIns
  rename Heap.IsList (ghostOf _ _) _ _ => hscl
  obtain ⟨sc, hscE, hsc⟩ := sc_name hscl
  subst hscE
  clear hscl
  repeat' (first | (k_unfold; (try dsimp only)) | ((fail_if_success (with_reducible show wpAny _ _ (exec (Stmt.For _ _ _ _ _) _) _ _ _)); first | (k_end; wrow_close) | walk1 | (dsimp only; walk1) | (leave1; try dsimp only)))
  refine wpAny_For ?_
  repeat' (first | (k_unfold; (try dsimp only)) | ((fail_if_success (with_reducible show wpAny _ _ (pyIter _) _ _ _)); first | (k_end; wrow_close) | walk1 | (dsimp only; walk1) | (leave1; try dsimp only)))
  rename IntsAre _ (List.take 6 ns) => hws
  rename Fr _ _ _ _ => FF
  rename News _ _ _ _ => NN
  have hwl := hws.length
  rename_i Dk _ l1a _ _ Dl _ l1b Dt _ l1c Dr _ l1d _ D6 ws _ _ _ l1e
  obtain ⟨kv, hkv, NN1⟩ := keys_pack (news_l1 NN)
  have hkl := hkv.length
  have oR0 : ∀ c ∈ [Dr, s1.heap.objs.size + 1 + 1, s1.heap.objs.size + 1, 58], (@Ne Nat Dt c) ∧ (@Ne Nat Dl c) := by
    intro c hc
    simp only [List.mem_cons, List.not_mem_nil, or_false] at hc
    rcases hc with rfl | rfl | rfl | rfl <;> exact ⟨by omega, by omega⟩
  clear NN
  k_dflt (refine iterG_list (vs := ws) (jv := 0) (fun i mm nx => ∃ rv jr oA oB vA vB R, nx = (D6, listOf ws.toArray 0) :: (Dr, listOf rv.toArray jr) :: (Dk, listOf kv.toArray 0) :: (s1.heap.objs.size + 1 + 1, oA) :: (s1.heap.objs.size + 1, oB) :: (58, tabObj #[]) :: R ∧ RecIn R rv (recsUp (ns.take 6) i) ∧ oA.data = .cell vA ∧ oB.data = .cell vB ∧ OwnOff R [Dr, s1.heap.objs.size + 1 + 1, s1.heap.objs.size + 1, 58] ∧ mm (Str.ofString "records") = some (.ref Dr) ∧ mm (Str.ofString "keys") = some (.ref Dk)) rfl (by rintro i m nx ⟨rv, jr, oA, oB, vA, vB, R, rfl, -⟩; exact .head _) FF NN1 ⟨[_], _, _, _, _, _, _, rfl, rec0 (.head _) (.tail _ (.head _)), (by assumption), (by assumption), off_pair oR0, rfl, rfl⟩ (by passes_own) ?turn1 ?done1)
  case turn1 =>
    rintro I i v m9 nx9 h9 tk9 oI hoT hi9 hv hne ⟨rv, jr, oA, oB, vA, vB, R, rfl, hrc, dA, dB, hoR, hrc0, hke0⟩ F9 N9
    simp only [List.forall_mem_cons] at hne
    obtain ⟨n1, n2, n3, n4, n5, n6, nR⟩ := hne
    obtain ⟨x, tx, rfl, hx, hx1⟩ := ints_at hws (by simpa using hv)
    have F10 := fr_names F9 [(Str.ofString "records", .ref Dr), (Str.ofString "keys", .ref Dk)] (by intro q9 hq9; simp only [List.mem_cons, List.not_mem_nil, or_false] at hq9; rcases hq9 with rfl | rfl <;> assumption)
    clear F9 FF NN1 hrc0 hke0
    obtain ⟨q1, q2, q3, q4⟩ := off4_one hoR
    have oRI : OwnOff R [I] := off_one nR
    have hwl6 : ws.length ≤ 6 := by rw [hwl, List.length_take]; omega
    have hrl : rv.length ≤ 8 := by rw [hrc.length]; unfold recsUp; simp only [List.length_cons, List.length_map, List.length_take]; omega
    have hx6 := fmod_lo (n := 6) x (by decide)
    have hx7 := fmod_hi (n := 6) x (by decide)
    have hx8 := fmod_lo (n := 4) (x.fdiv 6) (by decide)
    have hx9 := fmod_hi (n := 4) (x.fdiv 6) (by decide)
    obtain ⟨tk6, hkx⟩ := strs_get hkv (i := (x.fmod 6).toNat) (by show _ < 6; omega)
    obtain ⟨nv, hnv⟩ : ∃ nv : Nat, (x.fdiv 6).fmod 4 = (nv : Int) := ⟨_, (Int.toNat_of_nonneg hx8).symm⟩
    repeat' (first | (k_unfold; (try dsimp only)) | ((fail_if_success (with_reducible show wpAny _ _ (subscriptTail _ _ _ _) _ _ _)); first | (k_end; wrow_close) | walk1 | (dsimp only; walk1) | (leave1; try dsimp only)))
    rename News _ _ _ _ => NN
    refine item_v NN (by lcg_src) (i := (x.fmod 6).toNat) (by omega) hkx (by rw [hkl]; decide) ?_
    repeat' (first | (k_unfold; (try dsimp only)) | ((fail_if_success (with_reducible show wpAny _ _ (eval (Expr.ListComp _ _ _ _) _) _ _ _)); first | (k_end; wrow_close) | walk1 | (dsimp only; walk1) | (leave1; try dsimp only)))
    k_dflt (refine LCg.ListComp_U (F₀ := by k_asm) (by with_unfolding_all rfl) (by decide) (by rfl) (by decide) (by rfl) ?_)
    repeat' (first | (k_unfold; (try dsimp only)) | ((fail_if_success (with_reducible show LCg.CompSrc _ _ _ _ _ _ _ _ _ _ _ _ _ _)); first | (k_end; wrow_close) | walk1 | (dsimp only; walk1) | (leave1; try dsimp only)))
    rename IsRange _ _ _ _ _ _ _ _ => rg
    rw [hnv] at rg
    k_dflt (refine LCg.CompSrc.range (n := nv) (by rfl) (by k_asm) (by k_asm) rg (small_one (by omega) (by omega) (by omega) (by omega)) (by rw [rangeSize_nat]; omega) (by rw [sizeLine_eq]; omega) ?_)
    intro g9
    refine restU1 (fun i ys => IntsAre ys (valI x i)) trivial .nil ?fin1 ?turn2
    case turn2 =>
      rintro j v ys I2 oI2 C2 oC2 D2 m₂ h3 tk3 E' hj ⟨tv, rfl⟩ hJ hC hx' F3 N3 off3 ne3
      clear rg
      obtain ⟨pw, hpw⟩ : ∃ pw : Int, (256 : Int) ^ (0 + (j : Int)).toNat = pw := ⟨_, rfl⟩
      have hpw2 : 0 < pw ∧ pw ≤ 65536 := by
        have hj3 : j = 0 ∨ j = 1 ∨ j = 2 := by omega
        subst hpw
        rcases hj3 with rfl | rfl | rfl <;> decide
      have hpw3 : pw ≠ 0 := by omega
      repeat' (first | (k_unfold; (try dsimp only)) | ((fail_if_success (with_reducible show wpAny _ _ (binaryOp Operator.FloorDiv _ (Value.int (HPow.hPow _ _) _)) _ _ _)); first | (k_end; wrow_close) | walk1 | (dsimp only; walk1) | (leave1; try dsimp only)))
      rw [hpw]
      k_steps
      rename Fr _ _ _ _ => FF
      rename News _ _ _ _ => NN
      refine CEnd1.intro FF NN (fun p hp => hp) (valI_snoc hJ ?_)
      rw [← hpw, Int.zero_add, Int.toNat_natCast]
    case fin1 =>
      intro ys hJ
      clear rg
      (rename Fr _ _ _ _ => FF; clear FF)
      unfold LCg.FinE
      intro D7 h7 tk7 F7 N7 o7
      simp only [LCg.Off1] at o7
      obtain ⟨o1, o2, o3, o4, o5, o6, o8, oD⟩ := o7
      have oRD := off1_of oD
      k_steps
      rename Fr _ _ _ _ => FF
      rename News _ _ _ _ => NN
      rename _ < _ ∧ _ < _ ∧ _ < _ ∧ _ < _ ∧ _ < _ ∧ _ < _ ∧ _ < _ ∧ _ < _ ∧ AllLt _ R => hlt
      simp only [List.push_toArray] at NN
      obtain ⟨nx, hnx, hsub⟩ := pack_l1 NN
      refine EndY.intro FF NN (nx := nx) ⟨rv ++ [_], _, _, _, _, _, _, hnx, ?_, dA, (by assumption), ?_, rfl, rfl⟩ hsub (by lcg_src) ?_
      · rw [recs_succ hx1]; exact rec_snoc hrc hJ (by rw [hnv]; exact Int.toNat_natCast nv)
      · exact off_new (own_grow' hoR (by
          intro a ha; simp only [List.mem_cons, List.not_mem_nil, or_false] at ha; rcases ha with rfl | rfl | rfl | rfl
          · exact o3.symm
          · exact o5.symm
          · exact o6.symm
          · exact o8.symm)) (by
          intro a ha; simp only [List.mem_cons, List.not_mem_nil, or_false] at ha; rcases ha with rfl | rfl | rfl | rfl
          · exact hlt.2.2.2.1
          · exact hlt.2.2.2.2.2.1
          · exact hlt.2.2.2.2.2.2.1
          · exact hlt.2.2.2.2.2.2.2.1)
      · rw [hnx]; simp only [List.forall_mem_cons]
        exact ⟨n1, n2, n3, n4, n5, n6, Nat.ne_of_gt hlt.2.1, o1.symm, nR⟩
  case done1 =>
    rintro m9 nx9 h9 tk9 ⟨rv, jr, oA, oB, vA, vB, R, rfl, hrc, dA, dB, hoR, hrc0, hke0⟩ F9 N9
    have F10 := fr_names F9 [(Str.ofString "records", .ref Dr), (Str.ofString "keys", .ref Dk)] (by intro q9 hq9; simp only [List.mem_cons, List.not_mem_nil, or_false] at hq9; rcases hq9 with rfl | rfl <;> assumption)
    clear F9 FF NN1 hrc0 hke0 oR0 hkv
    rw [hwl, recs_all] at hrc
    obtain ⟨rs, hrs⟩ : ∃ rs, rs = recsOf ns := ⟨_, rfl⟩
    have hrsz : ∀ r ∈ rs, r.1.size ≤ 2 ∧ r.2.size ≤ 3 := by rw [hrs]; exact recs_sz ns
    have hrsl : rs.length ≤ 7 := by rw [hrs]; exact recs_len ns
    rw [← hrs] at hrc
    clear hrs
    have hrvl := hrc.length
    have hBz := encB_size rs hrsz
    obtain ⟨q1, q2, q3, q4⟩ := off4_one hoR
    dsimp only
    repeat' (first | (k_unfold; (try dsimp only)) | ((fail_if_success (with_reducible show wpAny _ _ (exec (Stmt.For _ _ _ _ _) _) _ _ _)); first | (k_end; wrow_close) | walk1 | (dsimp only; walk1) | (leave1; try dsimp only)))
    refine wpAny_For ?_
    repeat' (first | (k_unfold; (try dsimp only)) | ((fail_if_success (with_reducible show wpAny _ _ (pyIter _) _ _ _)); first | (k_end; wrow_close) | walk1 | (dsimp only; walk1) | (leave1; try dsimp only)))
    rename Fr _ _ _ _ => FF
    rename News _ _ _ _ => NN
    rename_i Do _ _ _ l2a _ _ De _ l2b _
    dsimp only
    have NN2 := news_l2 NN
    have oRo : OwnOff R [Do] := off_lt (d := Do) l2a.2.2.2.2.2.2 (by intro a ha; rw [List.mem_singleton.mp ha]; exact Nat.le_refl _)
    have oRe : OwnOff R [De] := off_lt (d := De) l2b.2.2.2.2.2.2.2 (by intro a ha; rw [List.mem_singleton.mp ha]; exact Nat.le_refl _)
    clear NN
    k_dflt (refine iterT_list (vs := rv) (jv := jr) (fun i mm nx => ∃ ov jo ev je, nx = (Dr, listOf rv.toArray jr) :: (Do, listOf ov.toArray jo) :: (De, listOf ev.toArray je) :: (s1.heap.objs.size + 1 + 1, oA) :: (s1.heap.objs.size + 1, oB) :: (58, tabObj #[]) :: R ∧ IntsAre ov (KBw.bInts (encB (rs.take i))) ∧ IntsAre ev (endsR rs i) ∧ mm (Str.ofString "records") = some (.ref Dr) ∧ mm (Str.ofString "octets") = some (.ref Do) ∧ mm (Str.ofString "ends") = some (.ref De)) rfl (by rintro i m nx ⟨ov, jo, ev, je, rfl, -⟩; exact .head _) FF NN2 ⟨[], _, [_], _, rfl, .nil, .cons _ _ .nil, rfl, rfl, rfl⟩ (by passes_own) ?turn3 ?done3)
    case turn3 =>
      rintro I i v m9 nx9 h9 tk9 oI hoT hi9 hv hne ⟨ov, jo, ev, je, rfl, hov, hev, hrc0, hoc0, hen0⟩ F9 N9
      simp only [List.forall_mem_cons] at hne
      obtain ⟨n1, n2, n3, n4, n5, n6, nR⟩ := hne
      obtain ⟨ad, l, j, jl, tk, vs, k, v, rfl, ma, ml, hvs, hri⟩ := hrc.at hv
      have F10 := fr_names F9 [(Str.ofString "records", .ref Dr), (Str.ofString "octets", .ref Do), (Str.ofString "ends", .ref De)] (by intro q9 hq9; simp only [List.mem_cons, List.not_mem_nil, or_false] at hq9; rcases hq9 with rfl | rfl | rfl <;> assumption)
      clear F9 FF NN2 hrc0 hoc0 hen0
      have oRI : OwnOff R [I] := off_one nR
      have hkz := hrsz (k, v) (List.mem_of_getElem? hri)
      dsimp only at hkz
      obtain ⟨hk2, hv3⟩ := hkz
      have hlk := latin_length k
      have hvl := hvs.length
      rw [KBw.ints_length] at hvl
      have hol := hov.length
      rw [KBw.ints_length] at hol
      have hBi := encB_size (rs.take i) (fun r hr => hrsz r (List.mem_of_mem_take hr))
      rw [List.length_take] at hBi
      have hel := hev.length
      rw [endsR_len] at hel
      have a1 : @Ne Nat ad Do := oRo _ ma Do (List.mem_singleton.mpr rfl)
      have a2 : @Ne Nat l Do := oRo _ ml Do (List.mem_singleton.mpr rfl)
      have a3 : @Ne Nat ad De := oRe _ ma De (List.mem_singleton.mpr rfl)
      have a4 : @Ne Nat l De := oRe _ ml De (List.mem_singleton.mpr rfl)
      have N10 : News _ _ _ ((I, oI) :: (Do, listOf ov.toArray jo) :: (De, listOf ev.toArray je) :: (ad, tupO #[.str (latin k) tk, .ref l] j) :: (l, listOf vs.toArray jl) :: (Dr, listOf rv.toArray jr) :: (s1.heap.objs.size + 1 + 1, oA) :: (s1.heap.objs.size + 1, oB) :: (58, tabObj #[]) :: R) := news_sub N9 (fun q hq => by
        simp only [List.mem_cons] at hq ⊢; rcases hq with h | h | h | rfl | rfl | h | h | h | h | h <;> simp [*])
      clear N9
      repeat' (first | (k_unfold; (try dsimp only)) | ((fail_if_success (with_reducible show wpAny _ _ (eval (Expr.ListComp _ _ _ _) _) _ _ _)); first | (k_end; wrow_close) | walk1 | (dsimp only; walk1) | (leave1; try dsimp only)))
      rename Fr _ _ _ _ => FF
      rename News _ _ _ _ => NN
      refine ListComp_S (F₀ := by k_asm) (by with_unfolding_all rfl) (by decide) (by rfl) (by decide) (by rfl) ?_
      repeat' (first | (k_unfold; (try dsimp only)) | ((fail_if_success (with_reducible show SrcStr _ _ _ _ _ _ _ _ _ _ _ _ _ _)); first | (k_end; wrow_close) | walk1 | (dsimp only; walk1) | (leave1; try dsimp only)))
      k_dflt (refine SrcStr.mk (by rfl) (by k_asm) (by k_asm) (by rw [latin_len]; omega) ?_)
      intro g7
      refine restU1 (fun i ys => IntsAre ys ((KBw.bInts k).take i)) trivial .nil ?fin4 ?turn4
      case turn4 =>
        rintro i v ys I7 oI7 C7 oC7 D7 m₃ h8 tk8 E'' hi7 ⟨k, u, hk, rfl⟩ hJ7 hC7 hx7 F8 N8 off7 ne7
        k_steps
        rename Fr _ _ _ _ => FF
        rename News _ _ _ _ => NN
        exact CEnd1.intro FF NN (fun p hp => hp) (ints_take hJ7 (latin_sign hk))
      case fin4 =>
        intro wk hJ7
        rw [latin_len, List.take_of_length_le (by rw [KBw.ints_length]; exact Nat.le_refl _)] at hJ7
        have hwkl := hJ7.length
        rw [KBw.ints_length] at hwkl
        (rename Fr _ _ _ _ => FZ; clear FZ)
        (rename News _ _ _ _ => NZ; clear NZ)
        unfold LCg.FinE
        intro D8 h8 tk8 F8 N8 o8
        clear o8
        rw [hlk] at N8
        repeat' (first | (k_unfold; (try dsimp only)) | ((fail_if_success (with_reducible show wpAny _ _ (binaryOp Operator.Add (Value.ref _) (Value.ref _)) _ _ _)); first | (k_end; wrow_close) | walk1 | (dsimp only; walk1) | (leave1; try dsimp only)))
        refine kmk_add_lit (its := [_].toArray) F8 N8 (isList_at N8 (by lcg_src)) (isList_at N8 (.head _)) rfl ?_ (by rw [sizeLine_eq]; simp only [List.length_cons, List.length_nil]; omega)
        clear F8 N8
        intro D9 h9 F9 N9 l9
        clear l9
        repeat' (first | (k_unfold; (try dsimp only)) | ((fail_if_success (with_reducible show wpAny _ _ (binaryOp Operator.Add (Value.ref _) (Value.ref _)) _ _ _)); first | (k_end; wrow_close) | walk1 | (dsimp only; walk1) | (leave1; try dsimp only)))
        rename Fr _ _ _ _ => FF
        rename News _ _ _ _ => NN
        refine kmk_add_lit FF NN (isList_at (a := D9) (xs := [_] ++ wk) NN (by lcg_src)) (isList_at (xs := [_]) NN (.head _)) rfl ?_ (by rw [sizeLine_eq]; simp only [List.length_append, List.length_cons, List.length_nil]; omega)
        clear FF NN
        intro D10 h10 F10 N10 l10
        clear l10
        repeat' (first | (k_unfold; (try dsimp only)) | ((fail_if_success (with_reducible show wpAny _ _ (binaryOp Operator.Add (Value.ref _) (Value.ref _)) _ _ _)); first | (k_end; wrow_close) | walk1 | (dsimp only; walk1) | (leave1; try dsimp only)))
        refine kmk_add_lit F10 N10 (isList_at N10 (.head _)) (isList_at (a := l) (xs := vs) N10 (by lcg_src)) rfl ?_ (by rw [sizeLine_eq]; simp only [List.length_append, List.length_cons, List.length_nil]; omega)
        clear F10 N10
        intro D11 h11 F11 N11 l11
        repeat' (first | (k_unfold; (try dsimp only)) | ((fail_if_success (with_reducible show wpAny _ _ (call (Value.builtin "list.extend") _) _ _ _)); first | (k_end; wrow_close) | walk1 | (dsimp only; walk1) | (leave1; try dsimp only)))
        rename Fr _ _ _ _ => F12
        rename News _ _ _ _ => N11'
        obtain ⟨wz, hwz, N12⟩ := ext_pack (news_l3 N11')
        have hwzI : IntsAre wz (KBw.bInts (encB [(k, v)])) := by
          rw [hwz, encB_one k v (by omega) (by omega), hvl]
          exact ((((IntsAre.cons _ _ .nil).append hJ7).append (.cons _ _ .nil)).append hvs)
        have hwzl : wz.length ≤ 8 := by rw [hwz]; simp only [List.length_append, List.length_cons, List.length_nil]; omega
        clear hwz N11'
        have d1 : @Ne Nat D11 Do := Nat.ne_of_gt (l11 (Do, listOf ov.toArray jo) (by simp))
        have d2 : @Ne Nat D11 De := Nat.ne_of_gt (l11 (De, listOf ev.toArray je) (by simp))
        clear l11
        k_dflt (refine' extend_list F12 N12 ?m1 ?u1 ?z1 ?_)
        case m1 => exact .head _
        case u1 => k_updF
        case z1 => omega
        clear F12 N12
        intro h12 n12 F13 N13
        (try dsimp only at N13)
        have hencB : encB (rs.take (i + 1)) = encB (rs.take i) ++ encB [(k, v)] := by rw [List.take_add_one, hri, Option.toList_some, encB_app]
        have hov2 : IntsAre (ov ++ wz) (KBw.bInts (encB (rs.take (i + 1)))) := by rw [hencB, bInts_app]; exact hov.append hwzI
        have hov3 : (ov ++ wz).length = (encB (rs.take (i + 1))).size := by rw [hov2.length, KBw.ints_length]
        obtain ⟨oz, hoz⟩ : ∃ oz, oz = ov ++ wz := ⟨_, rfl⟩
        rw [← hoz] at N13 hov2 hov3
        have hozl : oz.length ≤ 1000 := by rw [hoz, List.length_append]; omega
        k_steps
        rename Fr _ _ _ _ => FF
        rename News _ _ _ _ => NN
        simp only [List.push_toArray] at NN
        obtain ⟨nx, hnx, hsub⟩ := pack_l3 NN
        refine EndY.intro FF NN (nx := nx) ⟨oz, _, ev ++ [_], _, hnx, hov2, ?_, rfl, rfl, rfl⟩ hsub (by lcg_src) (by rw [hnx]; simp only [List.forall_mem_cons]; exact ⟨n1, n2, n3, n4, n5, n6, nR⟩)
        rw [endsR_succ, ← hov3]; exact ints_snoc hev _ _
    case done3 =>
      rintro m9 nx9 h9 tk9 ⟨ov, jo, ev, je, rfl, hov, hev, hrc0, hoc0, hen0⟩ F9 N9
      rw [hrvl, List.take_length] at hov
      rw [hrvl] at hev
      have F10 := fr_names F9 [(Str.ofString "records", .ref Dr), (Str.ofString "octets", .ref Do), (Str.ofString "ends", .ref De)] (by intro q9 hq9; simp only [List.mem_cons, List.not_mem_nil, or_false] at hq9; rcases hq9 with rfl | rfl | rfl <;> assumption)
      clear F9 FF NN2 hrc0 hoc0 hen0
      obtain ⟨B, hB⟩ : ∃ B, B = encB rs := ⟨_, rfl⟩
      have hBl : B.toList = enc (flat rs) := by rw [hB]; rfl
      rw [← hB] at hov hBz
      have hol := hov.length
      rw [KBw.ints_length] at hol
      have hel := hev.length
      rw [endsR_len] at hel
      have hzf : ∀ c ∈ flat rs, c.size ≤ 255 := flat_sz fun r hr => by have := hrsz r hr; omega
      dsimp only
      repeat' (first | (k_unfold; (try dsimp only)) | ((fail_if_success (with_reducible show wpAny _ _ (exec (Stmt.For _ _ _ _ _) _) _ _ _)); first | (k_end; wrow_close) | walk1 | (dsimp only; walk1) | (leave1; try dsimp only)))
      refine wpAny_For ?_
      repeat' (first | (k_unfold; (try dsimp only)) | ((fail_if_success (with_reducible show wpAny _ _ (pyIter _) _ _ _)); first | (k_end; wrow_close) | walk1 | (dsimp only; walk1) | (leave1; try dsimp only)))
      rename IsRange _ _ _ _ _ _ _ _ => rg
      rename Fr _ _ _ _ => FF
      rename News _ _ _ _ => NN
      rw [KBw.ints_length, show ((B.size : Int) + 1) = ((B.size + 1 : Nat) : Int) by omega] at rg
      k_dflt (refine iterG_range (n := B.size + 1) (fun i mm nx => ∃ oA vA T, nx = (Dr, listOf rv.toArray jr) :: (Do, listOf ov.toArray jo) :: (De, listOf ev.toArray je) :: (s1.heap.objs.size + 1 + 1, oA) :: (s1.heap.objs.size + 1, oB) :: (T ++ R) ∧ Tab 58 (rawInt 29) (rawInt 4) (Str.ofString "_law_stream.<locals>._law_read") T ∧ oA.data = .cell vA ∧ mm (Str.ofString "records") = some (.ref Dr) ∧ mm (Str.ofString "octets") = some (.ref Do) ∧ mm (Str.ofString "ends") = some (.ref De)) rfl rg (small_one (by omega) (by omega) (by omega) (by omega)) (by rw [rangeSize_nat]; omega) FF NN ⟨oA, vA, [_], rfl, .none, dA, rfl, rfl, rfl⟩ (by passes_own) ?turn5 ?done5)
      case turn5 =>
        rintro I k t9 m9 nx9 h9 tk9 oI hoT hk9 hne ⟨oA, vA, T, rfl, hT, dA, hrc0, hoc0, hen0⟩ F9 N9
        simp only [List.forall_mem_cons] at hne
        obtain ⟨n1, n2, n3, n4, n5, nR⟩ := hne
        have F10 := fr_names F9 [(Str.ofString "records", .ref Dr), (Str.ofString "octets", .ref Do), (Str.ofString "ends", .ref De)] (by intro q9 hq9; simp only [List.mem_cons, List.not_mem_nil, or_false] at hq9; rcases hq9 with rfl | rfl | rfl <;> assumption)
        clear F9 FF NN rg hrc0 hoc0 hen0
        obtain ⟨R', hR'⟩ : ∃ R', R' = T ++ R := ⟨_, rfl⟩
        rw [← hR'] at N9 nR
        obtain ⟨ps, mT⟩ := hT.mem
        have mT' : (58, tabObj ps) ∈ R' := by rw [hR']; exact List.mem_append_left _ mT
        have hrc' : RecIn R' rv rs := hrc.mono fun q hq => by rw [hR']; exact List.mem_append_right _ hq
        have oTc : OwnOff T [s1.heap.objs.size + 1 + 1] := tab_offK N9 hT (fun e he => by rw [hR']; simp [he]) (by simp) (noFld_cell dA)
        have oR2 : OwnOff R' [s1.heap.objs.size + 1 + 1] := by rw [hR']; exact off_app oTc q2
        have oRI : OwnOff R' [I] := off_one nR
        rw [show (0 : Int) + (k : Nat) * 1 = (k : Int) by omega]
        obtain ⟨wl, hw, hw1, hw2⟩ := rec_place rs (k := k) rs.length (Nat.le_refl _)
        repeat' (first | (k_unfold; (try dsimp only)) | ((fail_if_success (with_reducible show wpAny _ _ (eval (Expr.ListComp _ _ _ _) _) _ _ _)); first | (k_end; wrow_close) | walk1 | (dsimp only; walk1) | (leave1; try dsimp only)))
        k_dflt (refine LCt.ListComp_T (F₀ := by k_asm) (by with_unfolding_all rfl) (by decide) (by rfl) (by decide) (by rfl) ?_)
        repeat' (first | (k_unfold; (try dsimp only)) | ((fail_if_success (with_reducible show LCt.CompSrcT _ _ _ _ _ _ _ _ _ _ _ _ _ _ _)); first | (k_end; wrow_close) | walk1 | (dsimp only; walk1) | (leave1; try dsimp only)))
        rename IntsAre _ (List.drop 1 (endsR rs rs.length)) => hws5
        rename _ = Data.cell _ => dC
        rename Obj => oC
        rename Fr _ _ _ _ => F16
        rename News _ _ _ _ => N16
        have hwl5 := hws5.length
        rw [List.length_drop, endsR_len] at hwl5
        k_dflt (refine LCt.CompSrcT.ledger (by rfl) (by k_asm) (by k_asm) (by lcg_src) ?sz ?_)
        case sz => simp only [sizeLine_eq, List.size_toArray]; omega
        intro g11
        refine restT1 (fun i ys => IntsAre ys ((List.take i (List.drop 1 (endsR rs rs.length))).filter (fun e => decide (e ≤ (k : Int))))) ?hS .nil ?fin6 ?turn6
        case hS => exact .inr ⟨_, by lcg_src, rfl, _, rfl⟩
        case turn6 =>
          rintro i v ys I9 oI9 C9 oC9 D9 m₂ h9 tk9 E' hi9 hv9 hJ9 hC9 hx9 F9 N9 off9 ne9
          obtain ⟨e, t, rfl, he, he1⟩ := ints_at hws5 hv9
          k_steps
          · exact CEnd1.intro F9 N9 (fun p hp => hp) (filt_yes hJ9 he1 (decide_eq_true (by assumption)))
          · exact CEnd1.intro F9 N9 (fun p hp => hp) (filt_no hJ9 he1 (decide_eq_false (by assumption)))
        case fin6 =>
          intro ys hJ9
          rw [List.size_toArray, hwl5, List.take_of_length_le (by rw [List.length_drop, endsR_len]; exact Nat.le_refl _)] at hJ9
          have hyl : ys.length = wl := by rw [hJ9.length]; exact rec_whole hw hw1 hw2
          obtain ⟨te, hte⟩ := ints_get hev (i := wl) (by omega)
          rw [endsR_get rs hw] at hte
          obtain ⟨pl, hpl⟩ : ∃ pl, pl = (encB (rs.take wl)).size := ⟨_, rfl⟩
          rw [← hpl] at hte hw1
          have hplr := place_rec rs wl
          rw [← hpl] at hplr
          clear F16 N16
          unfold LCg.FinE
          intro D11 h16 tk16 F17 N17 o17
          repeat' (first | (k_unfold; (try dsimp only)) | ((fail_if_success (with_reducible show wpAny _ _ (storeName _ _ (Value.int _ _)) _ _ _)); first | (k_end; wrow_close) | walk1 | (dsimp only; walk1) | (leave1; try dsimp only)))
          rw [hyl]
          have N18 : News _ _ _ ((I, oI) :: (Dr, listOf rv.toArray jr) :: (Do, listOf ov.toArray jo) :: (De, listOf ev.toArray je) :: (s1.heap.objs.size + 1 + 1, oC) :: (s1.heap.objs.size + 1, oB) :: R') := news_sub (by assumption) (fun q hq => .tail _ (.tail _ hq))
          clear N17 o17
          by_cases hwn : wl < rs.length
          · have hwv : wl < rv.length := by omega
            obtain ⟨ad, l, j, jl, tk, vs, kb, v, hve, ma, ml, hvs, hri⟩ := hrc'.at (List.getElem?_eq_getElem hwv)
            have hvl := hvs.length
            rw [KBw.ints_length] at hvl
            have hkz := hrsz (kb, v) (List.mem_of_getElem? hri)
            dsimp only at hkz
            obtain ⟨hk2, hv3⟩ := hkz
            have hk2' := hw2 hwn
            rw [rec_next hri, ← hpl] at hk2'
            have a1 : @Ne Nat ad (s1.heap.objs.size + 1 + 1) := oR2 _ ma _ (List.mem_singleton.mpr rfl)
            have a2 : @Ne Nat l (s1.heap.objs.size + 1 + 1) := oR2 _ ml _ (List.mem_singleton.mpr rfl)
            have N19 : News _ _ _ ((ad, tupO #[.str (latin kb) tk, .ref l] j) :: (l, listOf vs.toArray jl) :: (I, oI) :: (Dr, listOf rv.toArray jr) :: (Do, listOf ov.toArray jo) :: (De, listOf ev.toArray je) :: (s1.heap.objs.size + 1 + 1, oC) :: (s1.heap.objs.size + 1, oB) :: R') := news_sub N18 (fun q hq => by
              rcases List.mem_cons.mp hq with rfl | hq
              · exact mem6 ma
              · rcases List.mem_cons.mp hq with rfl | hq
                · exact mem6 ml
                · exact hq)
            clear N18
            repeat' (first | (k_unfold; (try dsimp only)) | ((fail_if_success (with_reducible show wpAny _ _ (subscriptTail _ _ _ _) _ _ _)); first | (k_end; wrow_close) | walk1 | (dsimp only; walk1) | (leave1; try dsimp only)))
            rename News _ _ _ _ => NN
            refine item_v NN (by lcg_src) (i := wl) rfl (by rw [List.getElem?_eq_getElem hwv, hve]) (by omega) ?_
            repeat' (first | (k_unfold; (try dsimp only)) | ((fail_if_success (with_reducible show wpAny _ _ (subscriptTail _ _ _ _) _ _ _)); first | (k_end; wrow_close) | walk1 | (dsimp only; walk1) | (leave1; try dsimp only)))
            rename News _ _ _ _ => NN
            refine item_v NN (by lcg_src) (i := wl) rfl hte (by omega) ?_
            repeat' (first | (k_unfold; (try dsimp only)) | ((fail_if_success (with_reducible show wpAny _ _ (call (Value.ref 84) _) _ _ _)); first | (k_end; wrow_close) | walk1 | (dsimp only; walk1) | (leave1; try dsimp only)))
            rename Fr _ _ _ _ => FF
            rename News _ _ _ _ => NN
            rw [show (k : Int) - (pl : Int) = ((k - pl : Nat) : Int) by omega]
            k_dflt (refine words_ct w (vs := vs) (kb := kb) (lv := l) B0 FF X0 NN T0 (by lcg_src) ?_ ?_ ?_ rfl ?_ ?_ ?_)
            · omega
            · omega
            · omega
            · ktr_room
            · ktr_units
            intro h20 tk20 t20 F20 N20
            clear FF NN
            obtain ⟨x0, hx0⟩ : ∃ x0, x0 = wordsF (kb).size (vs).length (k - pl) := ⟨_, rfl⟩
            rw [← hx0]
            have N21 : News _ _ _ ((I, oI) :: (Dr, listOf rv.toArray jr) :: (Do, listOf ov.toArray jo) :: (De, listOf ev.toArray je) :: (s1.heap.objs.size + 1 + 1, oC) :: (s1.heap.objs.size + 1, oB) :: R') := news_sub N20 (fun q hq => .tail _ (.tail _ hq))
            clear N20
            repeat' (first | (k_unfold; (try dsimp only)) | ((fail_if_success (with_reducible show wpAny _ _ (call (Value.type "bytes") _) _ _ _)); first | (k_end; wrow_close) | walk1 | (dsimp only; walk1) | (leave1; try dsimp only)))
            rename Fr _ _ _ _ => FF
            rename News _ _ _ _ => NN
            rename IntsAre _ (List.take _ (KBw.bInts B)) => hwt
            rw [Int.toNat_natCast, take_bInts] at hwt
            refine make_bytes FF NN rfl (.head _) hwt (by rw [cutB_size]; omega) ?_
            clear FF NN
            intro h22 t22 tk22 F22 N22
            repeat' (first | (k_unfold; (try dsimp only)) | ((fail_if_success (with_reducible show wpAny _ _ (call (Value.ref 70) _) _ _ _)); first | (k_end; wrow_close) | walk1 | (dsimp only; walk1) | (leave1; try dsimp only)))
            rename Fr _ _ _ _ => FF
            rename News _ _ _ _ => NN
            have N23 : News _ _ _ (T ++ ([(I, oI), (Dr, listOf rv.toArray jr), (Do, listOf ov.toArray jo), (De, listOf ev.toArray je), (s1.heap.objs.size + 1 + 1, oC), (s1.heap.objs.size + 1, oB)] ++ R)) := news_sub NN (fun q hq => by
              rw [hR']; simp only [List.mem_append, List.mem_cons, List.not_mem_nil, or_false] at hq ⊢; rcases hq with h | (h | h | h | h | h | h) | h <;> simp [h])
            have o58 : OwnOff ([(I, oI), (Dr, listOf rv.toArray jr), (Do, listOf ov.toArray jo), (De, listOf ev.toArray je), (s1.heap.objs.size + 1 + 1, oC), (s1.heap.objs.size + 1, oB)] ++ R) [58] := off_app (by
              intro q hq c hc; rw [List.mem_singleton.mp hc]; simp only [List.mem_cons, List.not_mem_nil, or_false] at hq
              rcases hq with rfl | rfl | rfl | rfl | rfl | rfl
              · exact (nR _ mT').symm
              all_goals (show @Ne Nat _ _; dsimp only; omega)) q4
            clear NN
            k_dflt (refine map_ct w (T := T) B0 FF X0 N23 T0 ?XB ?TB codeHd hT o58 rfl ?_ ?_ ?_ ?_)
            case XB => assumption
            case TB => assumption
            · ktr_room
            · ktr_units
            · rw [cutB_size]; omega
            clear FF N23
            intro h24 tk24 T2 tp td o1 kvs qs x jt u hT2 hlt2 hltp lo1 hdo1 hbp1 hme F24 N24
            obtain ⟨e1, e2⟩ := cut_even hBl hzf (by omega) hw (by omega) (fun h => by have := hw2 h; rw [place_rec] at this; exact this) hme
            have hx : x = x0 := by
              rcases e2 with ⟨e, -⟩ | ⟨r, hr, e2⟩
              · omega
              · rw [hri] at hr; cases hr
                rw [hx0, hvl]; rw [← hplr] at e2
                exact words_is hw1 e2
            subst hx
            obtain ⟨R2, hR2⟩ : ∃ R2, R2 = T2 ++ R := ⟨_, rfl⟩
            have N25 : News _ _ _ ((tp, tupO #[.ref td, .str x u] jt) :: (td, o1) :: (I, oI) :: (Dr, listOf rv.toArray jr) :: (Do, listOf ov.toArray jo) :: (De, listOf ev.toArray je) :: (s1.heap.objs.size + 1 + 1, oC) :: (s1.heap.objs.size + 1, oB) :: R2) := news_m1 N24 hR2
            obtain ⟨ps2, mT2⟩ := hT2.mem
            have mT2' : (58, tabObj ps2) ∈ R2 := by rw [hR2]; exact List.mem_append_left _ mT2
            have hrc2 : RecIn R2 rv rs := hrc.mono fun q hq => by rw [hR2]; exact List.mem_append_right _ hq
            have f2 : OwnOff T2 [I] := tab_off N25 hT2 (fun e he => mem8 (by rw [hR2]; exact List.mem_append_left _ he)) (o := oI) (.tail _ (.tail _ (.head _))) hoT (nR _ mT')
            clear N24 hme hlt2 e2 hx0
            repeat' (first | (k_unfold; (try dsimp only)) | ((fail_if_success (with_reducible show wpAny _ _ (subscriptTail _ _ (Value.ref _) (Value.ref _)) _ _ _)); first | (k_end; wrow_close) | walk1 | (dsimp only; walk1) | (leave1; try dsimp only)))
            rename Fr _ _ _ _ => FF
            rename News _ _ _ _ => NN
            refine slice_upto_any FF NN (by lcg_src) (by omega) (by omega) ?_ (by with_unfolding_all rfl) (by kmk_pure)
            intro Dq h26 F26 N26 l26
            clear FF NN
            rw [Int.toNat_natCast] at N26
            repeat' (first | (k_unfold; (try dsimp only)) | ((fail_if_success (with_reducible show wpAny _ _ (call (Value.ref 77) _) _ _ _)); first | (k_end; wrow_close) | walk1 | (dsimp only; walk1) | (leave1; try dsimp only)))
            rename Fr _ _ _ _ => FF
            rename News _ _ _ _ => NN
            k_dflt (refine due_ct w (rs := rs.take wl) B0 FF X0 NN T0 (.head _) ((hrc2.take wl).mono fun q hq => .tail _ (mem8 hq)) ?_ ?_ rfl ?_ ?_ ?_)
            · rw [List.length_take]; omega
            · intro r hr; have := hrsz r (List.mem_of_mem_take hr); omega
            · ktr_room
            · ktr_units
            clear FF NN
            intro h28 tk28 td2 o2 kvs2 hlt3 lo2 hdo2 hbp2 F28 N28
            repeat' (first | (k_unfold; (try dsimp only)) | ((fail_if_success (with_reducible show wpAny _ _ (compareOp CmpOp.NotEq (Value.ref _) (Value.ref _)) _ _ _)); first | (k_end; wrow_close) | walk1 | (dsimp only; walk1) | (leave1; try dsimp only)))
            rename Fr _ _ _ _ => FF
            rename News _ _ _ _ => NN
            refine pair_ne NN (y1 := .ref td) (y2 := .str x u) (by lcg_src) (.head _) (by ktr_units) (dict_same NN (a := td) (b := td2) (by lcg_src) (by lcg_src) hdo1 hdo2 lo1 lo2 hbp1 hbp2 (fun z => by rw [e1]; exact map_due _ _) (by ktr_units)) EqIn.str ?_
            k_steps
            rename Fr _ _ _ _ => FF
            rename News _ _ _ _ => NN
            obtain ⟨nx, hnx, hsub⟩ := pack_m NN
            rw [hR2] at hnx
            refine EndY.intro FF NN (nx := nx) ⟨_, _, T2, hnx, hT2, (by assumption), rfl, rfl, rfl⟩ hsub (by lcg_src) ?_
            rw [hnx]; simp only [List.forall_mem_cons]
            refine ⟨n1, n2, n3, n4, n5, fun q hq => ?_⟩
            rcases List.mem_append.mp hq with hq | hq
            · exact f2 q hq I (List.mem_singleton.mpr rfl)
            · exact nR q (by rw [hR']; exact List.mem_append_right _ hq)
          · have hwe : wl = rs.length := by omega
            have hplB : pl = B.size := by rw [hpl, hwe, List.take_length, hB]
            repeat' (first | (k_unfold; (try dsimp only)) | ((fail_if_success (with_reducible show wpAny _ _ (subscriptTail _ _ _ _) _ _ _)); first | (k_end; wrow_close) | walk1 | (dsimp only; walk1) | (leave1; try dsimp only)))
            rename News _ _ _ _ => NN
            refine item_v NN (by lcg_src) (i := wl) rfl hte (by omega) ?_
            repeat' (first | (k_unfold; (try dsimp only)) | ((fail_if_success (with_reducible show wpAny _ _ (call (Value.ref 84) _) _ _ _)); first | (k_end; wrow_close) | walk1 | (dsimp only; walk1) | (leave1; try dsimp only)))
            rename Fr _ _ _ _ => FF
            rename News _ _ _ _ => NN
            rw [show (k : Int) - (pl : Int) = ((k - pl : Nat) : Int) by omega]
            rename_i Dn _ _ _ _ _ _ _ _
            rw [show Str.ofString "" = latin #[] by decide +kernel]
            k_dflt (refine words_ct w (vs := []) (kb := #[]) (lv := Dn) B0 FF X0 NN T0 (by lcg_src) ?_ ?_ ?_ rfl ?_ ?_ ?_)
            · decide
            · decide
            · simp; omega
            · ktr_room
            · ktr_units
            intro h20 tk20 t20 F20 N20
            clear FF NN
            obtain ⟨x0, hx0⟩ : ∃ x0, x0 = wordsF (#[] : Array UInt8).size ([] : List Value).length (k - pl) := ⟨_, rfl⟩
            rw [← hx0]
            have N21 : News _ _ _ ((I, oI) :: (Dr, listOf rv.toArray jr) :: (Do, listOf ov.toArray jo) :: (De, listOf ev.toArray je) :: (s1.heap.objs.size + 1 + 1, oC) :: (s1.heap.objs.size + 1, oB) :: R') := news_sub N20 (fun q hq => .tail _ (.tail _ hq))
            clear N20
            repeat' (first | (k_unfold; (try dsimp only)) | ((fail_if_success (with_reducible show wpAny _ _ (call (Value.type "bytes") _) _ _ _)); first | (k_end; wrow_close) | walk1 | (dsimp only; walk1) | (leave1; try dsimp only)))
            rename Fr _ _ _ _ => FF
            rename News _ _ _ _ => NN
            rename IntsAre _ (List.take _ (KBw.bInts B)) => hwt
            rw [Int.toNat_natCast, take_bInts] at hwt
            refine make_bytes FF NN rfl (.head _) hwt (by rw [cutB_size]; omega) ?_
            clear FF NN
            intro h22 t22 tk22 F22 N22
            repeat' (first | (k_unfold; (try dsimp only)) | ((fail_if_success (with_reducible show wpAny _ _ (call (Value.ref 70) _) _ _ _)); first | (k_end; wrow_close) | walk1 | (dsimp only; walk1) | (leave1; try dsimp only)))
            rename Fr _ _ _ _ => FF
            rename News _ _ _ _ => NN
            have N23 : News _ _ _ (T ++ ([(I, oI), (Dr, listOf rv.toArray jr), (Do, listOf ov.toArray jo), (De, listOf ev.toArray je), (s1.heap.objs.size + 1 + 1, oC), (s1.heap.objs.size + 1, oB)] ++ R)) := news_sub NN (fun q hq => by
              rw [hR']; simp only [List.mem_append, List.mem_cons, List.not_mem_nil, or_false] at hq ⊢; rcases hq with h | (h | h | h | h | h | h) | h <;> simp [h])
            have o58 : OwnOff ([(I, oI), (Dr, listOf rv.toArray jr), (Do, listOf ov.toArray jo), (De, listOf ev.toArray je), (s1.heap.objs.size + 1 + 1, oC), (s1.heap.objs.size + 1, oB)] ++ R) [58] := off_app (by
              intro q hq c hc; rw [List.mem_singleton.mp hc]; simp only [List.mem_cons, List.not_mem_nil, or_false] at hq
              rcases hq with rfl | rfl | rfl | rfl | rfl | rfl
              · exact (nR _ mT').symm
              all_goals (show @Ne Nat _ _; dsimp only; omega)) q4
            clear NN
            k_dflt (refine map_ct w (T := T) B0 FF X0 N23 T0 ?XB ?TB codeHd hT o58 rfl ?_ ?_ ?_ ?_)
            case XB => assumption
            case TB => assumption
            · ktr_room
            · ktr_units
            · rw [cutB_size]; omega
            clear FF N23
            intro h24 tk24 T2 tp td o1 kvs qs x jt u hT2 hlt2 hltp lo1 hdo1 hbp1 hme F24 N24
            obtain ⟨e1, e2⟩ := cut_even hBl hzf (by omega) hw (by omega) (fun h => by have := hw2 h; rw [place_rec] at this; exact this) hme
            have hx : x = x0 := by
              rcases e2 with ⟨-, -, e⟩ | ⟨r, hr, -⟩
              · rw [hx0, e]; unfold wordsF; rw [if_pos (.inl (by omega))]
              · rw [List.getElem?_eq_none (by omega)] at hr; cases hr
            subst hx
            obtain ⟨R2, hR2⟩ : ∃ R2, R2 = T2 ++ R := ⟨_, rfl⟩
            have N25 : News _ _ _ ((tp, tupO #[.ref td, .str x u] jt) :: (td, o1) :: (I, oI) :: (Dr, listOf rv.toArray jr) :: (Do, listOf ov.toArray jo) :: (De, listOf ev.toArray je) :: (s1.heap.objs.size + 1 + 1, oC) :: (s1.heap.objs.size + 1, oB) :: R2) := news_m1 N24 hR2
            obtain ⟨ps2, mT2⟩ := hT2.mem
            have mT2' : (58, tabObj ps2) ∈ R2 := by rw [hR2]; exact List.mem_append_left _ mT2
            have hrc2 : RecIn R2 rv rs := hrc.mono fun q hq => by rw [hR2]; exact List.mem_append_right _ hq
            have f2 : OwnOff T2 [I] := tab_off N25 hT2 (fun e he => mem8 (by rw [hR2]; exact List.mem_append_left _ he)) (o := oI) (.tail _ (.tail _ (.head _))) hoT (nR _ mT')
            clear N24 hme hlt2 e2 hx0
            repeat' (first | (k_unfold; (try dsimp only)) | ((fail_if_success (with_reducible show wpAny _ _ (subscriptTail _ _ (Value.ref _) (Value.ref _)) _ _ _)); first | (k_end; wrow_close) | walk1 | (dsimp only; walk1) | (leave1; try dsimp only)))
            rename Fr _ _ _ _ => FF
            rename News _ _ _ _ => NN
            refine slice_upto_any FF NN (by lcg_src) (by omega) (by omega) ?_ (by with_unfolding_all rfl) (by kmk_pure)
            intro Dq h26 F26 N26 l26
            clear FF NN
            rw [Int.toNat_natCast] at N26
            repeat' (first | (k_unfold; (try dsimp only)) | ((fail_if_success (with_reducible show wpAny _ _ (call (Value.ref 77) _) _ _ _)); first | (k_end; wrow_close) | walk1 | (dsimp only; walk1) | (leave1; try dsimp only)))
            rename Fr _ _ _ _ => FF
            rename News _ _ _ _ => NN
            k_dflt (refine due_ct w (rs := rs.take wl) B0 FF X0 NN T0 (.head _) ((hrc2.take wl).mono fun q hq => .tail _ (mem8 hq)) ?_ ?_ rfl ?_ ?_ ?_)
            · rw [List.length_take]; omega
            · intro r hr; have := hrsz r (List.mem_of_mem_take hr); omega
            · ktr_room
            · ktr_units
            clear FF NN
            intro h28 tk28 td2 o2 kvs2 hlt3 lo2 hdo2 hbp2 F28 N28
            repeat' (first | (k_unfold; (try dsimp only)) | ((fail_if_success (with_reducible show wpAny _ _ (compareOp CmpOp.NotEq (Value.ref _) (Value.ref _)) _ _ _)); first | (k_end; wrow_close) | walk1 | (dsimp only; walk1) | (leave1; try dsimp only)))
            rename Fr _ _ _ _ => FF
            rename News _ _ _ _ => NN
            refine pair_ne NN (y1 := .ref td) (y2 := .str x u) (by lcg_src) (.head _) (by ktr_units) (dict_same NN (a := td) (b := td2) (by lcg_src) (by lcg_src) hdo1 hdo2 lo1 lo2 hbp1 hbp2 (fun z => by rw [e1]; exact map_due _ _) (by ktr_units)) EqIn.str ?_
            k_steps
            rename Fr _ _ _ _ => FF
            rename News _ _ _ _ => NN
            obtain ⟨nx, hnx, hsub⟩ := pack_m NN
            rw [hR2] at hnx
            refine EndY.intro FF NN (nx := nx) ⟨_, _, T2, hnx, hT2, (by assumption), rfl, rfl, rfl⟩ hsub (by lcg_src) ?_
            rw [hnx]; simp only [List.forall_mem_cons]
            refine ⟨n1, n2, n3, n4, n5, fun q hq => ?_⟩
            rcases List.mem_append.mp hq with hq | hq
            · exact f2 q hq I (List.mem_singleton.mpr rfl)
            · exact nR q (by rw [hR']; exact List.mem_append_right _ hq)
      case done5 =>
        rintro m9 nx9 h9 tk9 ⟨oA, vA, T, rfl, hT, dA, hrc0, hoc0, hen0⟩ F9 N9
        have F10 := fr_names F9 [(Str.ofString "records", .ref Dr), (Str.ofString "octets", .ref Do), (Str.ofString "ends", .ref De)] (by intro q9 hq9; simp only [List.mem_cons, List.not_mem_nil, or_false] at hq9; rcases hq9 with rfl | rfl | rfl <;> assumption)
        clear F9 FF NN rg hrc0 hoc0 hen0
        obtain ⟨R', hR'⟩ : ∃ R', R' = T ++ R := ⟨_, rfl⟩
        rw [← hR'] at N9
        obtain ⟨B2, hB2⟩ : ∃ B2, B2 = encB (rs ++ rs) := ⟨_, rfl⟩
        have hB2s : B2.size ≤ 200 := by rw [hB2, encB_app, Array.size_append, ← hB]; omega
        have hov2 : IntsAre (ov ++ ov) (KBw.bInts B2) := by rw [hB2, encB_app, bInts_app, ← hB]; exact IntsAre.append (by assumption) (by assumption)
        dsimp only
        repeat' (first | (k_unfold; (try dsimp only)) | ((fail_if_success (with_reducible show wpAny _ _ (binaryOp Operator.Add (Value.ref _) (Value.ref _)) _ _ _)); first | (k_end; wrow_close) | walk1 | (dsimp only; walk1) | (leave1; try dsimp only)))
        rename Fr _ _ _ _ => FF
        rename News _ _ _ _ => NN
        refine kmk_add_lit (its := ov.toArray) (its2 := ov.toArray) FF NN (isList_at NN (by lcg_src)) (isList_at NN (by lcg_src)) rfl ?_ (by rw [sizeLine_eq]; show ov.length + ov.length ≤ _; omega)
        clear FF NN
        intro D20 h20 F20 N20 l20
        clear l20
        repeat' (first | (k_unfold; (try dsimp only)) | ((fail_if_success (with_reducible show wpAny _ _ (call (Value.type "bytes") _) _ _ _)); first | (k_end; wrow_close) | walk1 | (dsimp only; walk1) | (leave1; try dsimp only)))
        rename Fr _ _ _ _ => FF
        rename News _ _ _ _ => NN
        refine make_bytes (vs := ov ++ ov) FF NN rfl (.head _) hov2 (by omega) ?_
        clear FF NN
        intro h22 t22 tk22 F22 N22
        repeat' (first | (k_unfold; (try dsimp only)) | ((fail_if_success (with_reducible show wpAny _ _ (call (Value.ref 70) _) _ _ _)); first | (k_end; wrow_close) | walk1 | (dsimp only; walk1) | (leave1; try dsimp only)))
        rename Fr _ _ _ _ => FF
        rename News _ _ _ _ => NN
        have N23 : News _ _ _ (T ++ ([(Dr, listOf rv.toArray jr), (s1.heap.objs.size + 1 + 1, oA), (s1.heap.objs.size + 1, oB)] ++ R)) := news_sub NN (fun q hq => by
          rw [hR']; simp only [List.mem_append, List.mem_cons, List.not_mem_nil, or_false] at hq ⊢; rcases hq with h | (h | h | h) | h <;> simp [h])
        have o58 : OwnOff ([(Dr, listOf rv.toArray jr), (s1.heap.objs.size + 1 + 1, oA), (s1.heap.objs.size + 1, oB)] ++ R) [58] := off_app (by
          intro q hq c hc; rw [List.mem_singleton.mp hc]; simp only [List.mem_cons, List.not_mem_nil, or_false] at hq
          rcases hq with rfl | rfl | rfl <;> (show @Ne Nat _ _; dsimp only; omega)) q4
        clear NN
        k_dflt (refine map_ct w (T := T) B0 FF X0 N23 T0 ?XB ?TB codeHd hT o58 rfl ?_ ?_ ?_ ?_)
        case XB => assumption
        case TB => assumption
        · ktr_room
        · ktr_units
        · omega
        clear FF N23
        intro h24 tk24 T2 tp td o1 kvs qs x jt u hT2 hlt2 hltp lo1 hdo1 hbp1 hme F24 N24
        have hzf2 : ∀ c ∈ flat (rs ++ rs), c.size ≤ 255 := fun c hc => by rw [flat_app] at hc; exact (List.mem_append.mp hc).elim (hzf c) (hzf c)
        have e1 : qs = rs ++ rs := map_whole (by rw [hB2]; rfl) hzf2 hme
        subst e1
        obtain ⟨R2, hR2⟩ : ∃ R2, R2 = T2 ++ R := ⟨_, rfl⟩
        have N25 : News _ _ _ ((tp, tupO #[.ref td, .str x u] jt) :: (td, o1) :: (Dr, listOf rv.toArray jr) :: (s1.heap.objs.size + 1 + 1, oA) :: (s1.heap.objs.size + 1, oB) :: R2) := news_m2 N24 hR2
        obtain ⟨ps2, mT2⟩ := hT2.mem
        have mT2' : (58, tabObj ps2) ∈ R2 := by rw [hR2]; exact List.mem_append_left _ mT2
        have hrc2 : RecIn R2 rv rs := hrc.mono fun q hq => by rw [hR2]; exact List.mem_append_right _ hq
        clear N24 hme hlt2 hR2 hT2 mT2
        repeat' (first | (k_unfold; (try dsimp only)) | ((fail_if_success (with_reducible show wpAny _ _ (call (Value.ref 77) _) _ _ _)); first | (k_end; wrow_close) | walk1 | (dsimp only; walk1) | (leave1; try dsimp only)))
        rename Fr _ _ _ _ => FF
        rename News _ _ _ _ => NN
        k_dflt (refine due_ct w (rs := rs) (rv := rv) B0 FF X0 NN T0 (by lcg_src) (hrc2.mono fun q hq => .tail _ (.tail _ (.tail _ (.tail _ (.tail _ hq))))) ?_ ?_ rfl ?_ ?_ ?_)
        · omega
        · intro r hr; have := hrsz r hr; omega
        · ktr_room
        · ktr_units
        clear FF NN
        intro h28 tk28 td2 o2 kvs2 hlt3 lo2 hdo2 hbp2 F28 N28
        repeat' (first | (k_unfold; (try dsimp only)) | ((fail_if_success (with_reducible show wpAny _ _ (compareOp CmpOp.Eq (Value.ref _) (Value.ref _)) _ _ _)); first | (k_end; wrow_close) | walk1 | (dsimp only; walk1) | (leave1; try dsimp only)))
        rename Fr _ _ _ _ => FF
        rename News _ _ _ _ => NN
        refine dict_eq NN (a := td) (b := td2) (by lcg_src) (by lcg_src) hdo1 hdo2 lo1 lo2 hbp1 hbp2 (fun z => map_due2 _ _) (by ktr_units) ?_
        k_steps)
end Mine
end
theorem PySem.Challenge.cw_dm0232_06_holds : PySem.Challenge.rw_dm0232_06.Holds :=
  Mine.law06
