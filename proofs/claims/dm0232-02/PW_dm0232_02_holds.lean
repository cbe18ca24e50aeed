import PyProof.Rows.All
import Wide.All
import OpenK.AllK
import Wide.FinOn
import PySem.Challenge.RW_dm0232_02
open PySem PySem.W PyProof.Rows
set_option Elab.async false
set_option maxRecDepth 100000
set_option maxHeartbeats 8000000
namespace Mine
open_top hd02 for PySem.Challenge.rw_dm0232_02
theorem top_off : True := by w_top off; trivial
end Mine
section
open PySem PySem.W PyProof.Rows PySem.Calls
set_option Elab.async false
namespace Mine
theorem upd_split {d : Addr} {o : Obj} {news : List (Addr × Obj)} {upd : Obj → List (Addr × Obj)} (U : UpdF d o news upd) :
    ∃ rest, OwnOff rest [d] ∧ (∀ q, q ∈ news ↔ q = (d, o) ∨ q ∈ rest) ∧ (∀ o' q, q ∈ upd o' ↔ q = (d, o') ∨ q ∈ rest) := by
  obtain ⟨pre, post, rfl, hu, h1, h2⟩ := U.split
  refine ⟨pre ++ post, fun q hq b hb => by rw [List.mem_singleton.mp hb]; exact (List.mem_append.mp hq).elim (h1 q) (h2 q), fun q => ?_, fun o' q => ?_⟩
  · simp only [List.mem_append, List.mem_cons]; constructor <;> (intro h; rcases h with h | h | h <;> simp [h])
  · rw [hu]; simp only [List.mem_append, List.mem_cons]; constructor <;> (intro h; rcases h with h | h | h <;> simp [h])
theorem news_sub {h₀ : Heap} {L : Addr} {h : Heap} {l l' : List (Addr × Obj)} (N : News h₀ L h l) (hs : ∀ p ∈ l', p ∈ l) : News h₀ L h l' := fun p hp => N p (hs p hp)

theorem off_lt {d : Nat} {rest : List (Addr × Obj)} {as : List Addr} (h : AllLt d rest) (hd : ∀ a ∈ as, d ≤ a) : OwnOff rest as :=
  fun q hq a ha => Nat.ne_of_lt (Nat.lt_of_lt_of_le (kst_ltOf h q hq) (hd a ha))
abbrev SD (P : Params) (k1 k2 : Tok) (r : Addr) (p : Int) (tp : Tok) : Obj :=
  dictOf [⟨PyData.keyHash P (Str.ofString "value"), .str (Str.ofString "value") k1, .int p tp⟩, ⟨PyData.keyHash P (Str.ofString "read"), .str (Str.ofString "read") k2, .ref r⟩] 2
/-- n octets from place q on -/
def cutB (b : Array UInt8) (q n : Nat) : Array UInt8 := ((b.toList.drop q).take n).toArray
/-- what a call of the stream's own read does -/
def ReadOk (prog : Program) (w : World) (K : Frag) (p : Program) (loose : List Str) (mean : ExcName → Option Value) (mg mb : Str → Option Value) (dx r : Addr) (k1 k2 : Tok) (b : Array UInt8) (I : List (Addr × Obj)) : Prop :=
  ∀ {dp un : Nat} {gd : Option (List Code)} {cn : Str} {cs : Scope} {a : Addr} {ccd : Value} {outer : List Env} {A₀ : Around} {base h₀ : Heap} {L : Addr} {m : Str → Option Value} {news : List (Addr × Obj)} {upd : Obj → List (Addr × Obj)} {s : Shared}
    {q n : Nat} {tq tn : Tok} {Q E : Value → Shared → Prop},
    Below A₀ base outer h₀ → Fr h₀ L s.heap m → K.In h₀ → News h₀ L s.heap news → Top p loose mean mg mb h₀ → cs.kind = .function → dp + 5 < recursionLimit → un + 40 < cLine →
    (∀ e ∈ I, e ∈ news) → UpdF dx (SD w.params k1 k2 r (q : Int) tq) news upd → q ≤ b.size → b.size ≤ 1048576 → n ≤ 1048576 →
    (∀ h' tk t1 t2, Fr h₀ L h' m → News h₀ L h' (upd (SD w.params k1 k2 r ((q + (cutB b q n).size : Nat) : Int) t1)) → Q (.bytes (cutB b q n) t2) { s with heap := h', toks := tk }) →
    wpAny (model prog w) (ktrTop dp un gd cn cs L a ccd [] outer) (call (.ref r) [.int (n : Int) tn]) Q E s
/-- neither a dict nor a list, tuple -/
def Kin (o : Obj) : Prop := (∀ es n, o.data ≠ .dict es n) ∧ ∀ vs n, o.data ≠ .seq vs n
theorem kin_func {o : Obj} {fd : FuncData} (h : o.data = .func fd) : Kin o := ⟨(fun _ _ e => by rw [h] at e; cases e), fun _ _ e => by rw [h] at e; cases e⟩
theorem kin_fields {o : Obj} {vs : Array Value} (h : o.data = .fields vs) : Kin o := ⟨(fun _ _ e => by rw [h] at e; cases e), fun _ _ e => by rw [h] at e; cases e⟩
theorem kin_plain {o : Obj} (h : o.data = .plain) : Kin o := ⟨(fun _ _ e => by rw [h] at e; cases e), fun _ _ e => by rw [h] at e; cases e⟩
theorem kin_cell {o : Obj} {v : Option Value} (h : o.data = .cell v) : Kin o := ⟨(fun _ _ e => by rw [h] at e; cases e), fun _ _ e => by rw [h] at e; cases e⟩
def KinL (l : List (Addr × Obj)) : Prop := ∀ e ∈ l, Kin e.2
theorem KinL.app {l l' : List (Addr × Obj)} (h : KinL l) (h' : KinL l') : KinL (l ++ l') := fun e he => (List.mem_append.mp he).elim (h e) (h' e)
theorem kin_offD {h₀ h : Heap} {L d : Addr} {R X : List (Addr × Obj)} {o : Obj} {es : Array DictEntry} {n : Nat} (N : News h₀ L h X) (hR : KinL R) (hs : ∀ e ∈ R, e ∈ X) (hm : (d, o) ∈ X) (ho : o.data = .dict es n) : OwnOff R [d] := fun q hq a ha e => by
  rw [List.mem_singleton.mp ha] at e
  have h1 := (N q (hs q hq)).1
  have h2 := (N _ hm).1
  rw [e] at h1
  have h3 : q.2 = o := Option.some.inj (h1.symm.trans h2)
  exact (hR q hq).1 es n (by rw [h3]; exact ho)
theorem kin_offS {h₀ h : Heap} {L d : Addr} {R X : List (Addr × Obj)} {o : Obj} {es : Array Value} {n : Nat} (N : News h₀ L h X) (hR : KinL R) (hs : ∀ e ∈ R, e ∈ X) (hm : (d, o) ∈ X) (ho : o.data = .seq es n) : OwnOff R [d] := fun q hq a ha e => by
  rw [List.mem_singleton.mp ha] at e
  have h1 := (N q (hs q hq)).1
  have h2 := (N _ hm).1
  rw [e] at h1
  have h3 : q.2 = o := Option.some.inj (h1.symm.trans h2)
  exact (hR q hq).2 es n (by rw [h3]; exact ho)
theorem off_cons {R : List (Addr × Obj)} {a : Addr} {as : List Addr} (h : OwnOff R [a]) (h' : OwnOff R as) : OwnOff R (a :: as) := fun q hq b hb =>
  (List.mem_cons.mp hb).elim (fun e => by rw [e]; exact h q hq a (List.mem_singleton.mpr rfl)) (h' q hq b)
/-- a stream: f bears the dict dx, whose read is r; the octets are b; what else belongs to it is I -/
structure Strm (prog : Program) (w : World) (K : Frag) (p : Program) (loose : List Str) (mean : ExcName → Option Value) (mg mb : Str → Option Value) (C f dx r : Addr) (k1 k2 : Tok) (b : Array UInt8) (I : List (Addr × Obj)) : Prop where
  inst : (f, instObj C dx) ∈ I
  fn : ∃ oc od fd sl, (r, (⟨oc, od, .func fd, sl⟩ : Obj)) ∈ I
  off : OwnOff I [dx]
  kin : KinL I
  read : ReadOk prog w K p loose mean mg mb dx r k1 k2 b I
/-- the table of the codes made within a code: none as yet, or the one of the stream's read -/
inductive Tab (P : Addr) (i j : Value) (qual : Str) : List (Addr × Obj) → Prop where
  | none : Tab P i j qual [(P, tabObj #[])]
  | some {c : Addr} {oc : Obj} {vs : Array Value} {t : Tok} : c ≠ P → oc.data = .fields vs → vs[1]? = some (.str qual t) → Tab P i j qual [(P, tabObj #[i, j, .ref c]), (c, oc)]
theorem off_one {l : List (Addr × Obj)} {d : Addr} (h : ∀ q ∈ l, q.1 ≠ d) : OwnOff l [d] := fun q hq a ha => by rw [List.mem_singleton.mp ha]; exact h q hq
theorem fin_none {h₀ h : Heap} {L f c x d l2 l1 P : Addr} {fo oc io sd o1 o2 tb : Obj} {rest : List (Addr × Obj)}
    (N : News h₀ L h ((f, fo) :: (c, oc) :: (x, io) :: (d, sd) :: (l2, o1) :: (l1, o2) :: (P, tb) :: rest)) :
    News h₀ L h ((d, sd) :: ([(f, fo), (c, oc), (x, io), (l2, o1), (l1, o2)] ++ ([(P, tb), (c, oc)] ++ rest))) :=
  news_sub N fun q hq => by
    simp only [List.mem_cons, List.mem_append, List.not_mem_nil, or_false] at hq ⊢
    rcases hq with h | (h | h | h | h | h) | (h | h) | h <;> simp [h]
theorem fin_some {h₀ h : Heap} {L f c x d l2 l1 P : Addr} {fo oc io sd o1 o2 tb : Obj} {rest : List (Addr × Obj)}
    (N : News h₀ L h ((f, fo) :: (x, io) :: (d, sd) :: (l2, o1) :: (l1, o2) :: (P, tb) :: (c, oc) :: rest)) :
    News h₀ L h ((d, sd) :: ([(f, fo), (c, oc), (x, io), (l2, o1), (l1, o2)] ++ ([(P, tb), (c, oc)] ++ rest))) :=
  news_sub N fun q hq => by
    simp only [List.mem_cons, List.mem_append, List.not_mem_nil, or_false] at hq ⊢
    rcases hq with h | (h | h | h | h | h) | (h | h) | h <;> simp [h]
theorem mem_rest {I news rest : List (Addr × Obj)} {d : Addr} {o : Obj} (hI : ∀ e ∈ I, e ∈ news) (ho : OwnOff I [d]) (hn : ∀ q, q ∈ news ↔ q = (d, o) ∨ q ∈ rest) : ∀ e ∈ I, e ∈ rest := fun e he =>
  ((hn e).mp (hI e he)).elim (fun q => absurd (congrArg Prod.fst q) (ho e he d (List.mem_singleton.mpr rfl))) id
theorem strm_mk {prog : Program} {w : World} {K : Frag} {p : Program} {loose : List Str} {mean : ExcName → Option Value} {mg mb : Str → Option Value} {C f dx r : Addr} {k1 k2 : Tok} {b : Array UInt8} {I : List (Addr × Obj)}
    (h1 : (f, instObj C dx) ∈ I) (h2 : ∃ oc od fd sl, (r, (⟨oc, od, .func fd, sl⟩ : Obj)) ∈ I) (h3 : OwnOff I [dx]) (hkin : KinL I) (h4 : OwnOff I [dx] → ReadOk prog w K p loose mean mg mb dx r k1 k2 b I) :
    Strm prog w K p loose mean mg mb C f dx r k1 k2 b I := ⟨h1, h2, h3, hkin, h4 h3⟩
theorem cutB_size (b : Array UInt8) (q n : Nat) : (cutB b q n).size = min n (b.size - q) := by
  simp [cutB]
theorem picked_cut {b : Array UInt8} {q n : Nat} (hq : q ≤ b.size) : KBy.picked b (some (q : Int)) (some ((q : Int) + (n : Int))) = cutB b q n := by
  have e : ((q : Int) + (n : Int)) = ((q + n : Nat) : Int) := by omega
  rw [KBc.picked_eq, e]
  simp only [Option.elim, clipAt_nat]
  unfold cutB
  rw [Nat.min_eq_left hq]
  congr 1
  have hl : (b.toList.drop q).length = b.size - q := by simp
  by_cases h : q + n ≤ b.size
  · rw [Nat.min_eq_left h, Nat.add_sub_cancel_left]
  · rw [Nat.min_eq_right (by omega), List.take_of_length_le (by omega), List.take_of_length_le (by omega)]
theorem read_place {b : Array UInt8} {q n l : Nat} (hq : q ≤ b.size) (hl : l = b.size) :
    (q : Int) + ((min (clipAt l ((q : Int) + (n : Int)) - min q l) (l - min q l) : Nat) : Int) = ((q + (cutB b q n).size : Nat) : Int) := by
  have e : ((q : Int) + (n : Int)) = ((q + n : Nat) : Int) := by omega
  rw [cutB_size, e, clipAt_nat, hl]
  omega
theorem read_fin {h₀ h : Heap} {L d : Addr} {P : Params} {k1 k2 : Tok} {r : Addr} {v v' : Int} {t : Tok} {rest : List (Addr × Obj)} {upd : Obj → List (Addr × Obj)}
    (N : News h₀ L h ((d, SD P k1 k2 r v t) :: rest)) (hv : v = v') (hup : ∀ o' q, q ∈ upd o' ↔ q = (d, o') ∨ q ∈ rest) : News h₀ L h (upd (SD P k1 k2 r v' t)) := by
  subst hv
  exact news_sub N fun q hq => List.mem_cons.mpr ((hup _ q).mp hq)
def Sub (I R : List (Addr × Obj)) : Prop := ∀ e ∈ I, e ∈ R
theorem Sub.cons {I R : List (Addr × Obj)} {q : Addr × Obj} (h : Sub I R) : Sub I (q :: R) := fun e he => List.mem_cons_of_mem _ (h e he)
/-- the octet at a place, a number -/
def oct (b : Array UInt8) (q : Nat) : Nat := (b.toList.getD q 0).toNat
theorem oct_lt (b : Array UInt8) (q : Nat) : oct b q < 256 := UInt8.toNat_lt _
theorem ints_cut1 {b : Array UInt8} {q : Nat} (h : q < b.size) : KBw.bInts (cutB b q 1) = [(oct b q : Int)] := by
  have h' : q < b.toList.length := by simpa using h
  unfold cutB
  rw [List.drop_eq_getElem_cons h', List.take_succ_cons, List.take_zero]
  simp [KBw.bInts, List.getD, h, oct]
theorem ints_cut0 {b : Array UInt8} {n : Nat} : KBw.bInts (cutB b b.size n) = [] := by
  unfold cutB
  rw [List.drop_of_length_le (by simp)]
  simp [KBw.bInts]
theorem cut1_size {b : Array UInt8} {q : Nat} (h : q < b.size) : (cutB b q 1).size = 1 := by rw [cutB_size]; omega
theorem cut0_size {b : Array UInt8} {n : Nat} : (cutB b b.size n).size = 0 := by rw [cutB_size]; omega
theorem raised_sub {base G : Heap} {l : List Env} {e : Addr} {cls : Value} {t : Addr} {vs : List Value} {news news' : List (Addr × Obj)} {h : Heap} (R : RaisedS base G l e cls t vs news h) (hs : ∀ q ∈ news', q ∈ news) : RaisedS base G l e cls t vs news' h := by
  obtain ⟨⟨B, h1, h2, h3, h4⟩, h5⟩ := R
  exact ⟨⟨B, h1, h2, fun q hq => h3 q (hs q hq), h4⟩, h5⟩
theorem strm_read {prog : Program} {w : World} {K : Frag} {p : Program} {loose : List Str} {mean : ExcName → Option Value} {mg mb : Str → Option Value} {C f dx r : Addr} {k1 k2 : Tok} {b : Array UInt8} {I : List (Addr × Obj)}
    {dp un : Nat} {gd : Option (List Code)} {cn : Str} {cs : Scope} {a : Addr} {ccd : Value} {outer : List Env} {A₀ : Around} {base h₀ : Heap} {L : Addr} {m : Str → Option Value} {news : List (Addr × Obj)} {upd : Obj → List (Addr × Obj)} {s : Shared}
    {q : Nat} {v : Int} {tq tn : Tok} {Q E : Value → Shared → Prop} (n : Nat) (hv : v = (n : Int))
    (S : Strm prog w K p loose mean mg mb C f dx r k1 k2 b I) (B : Below A₀ base outer h₀) (F : Fr h₀ L s.heap m) (X : K.In h₀) (N : News h₀ L s.heap news) (T : Top p loose mean mg mb h₀) (hk : cs.kind = .function) (hd : dp + 5 < recursionLimit) (hu : un + 40 < cLine)
    (hI : Sub I news) (U : UpdF dx (SD w.params k1 k2 r (q : Int) tq) news upd) (hq : q ≤ b.size) (hb : b.size ≤ 1048576) (hn : n ≤ 1048576)
    (h : ∀ h' tk t1 t2, Fr h₀ L h' m → News h₀ L h' (upd (SD w.params k1 k2 r ((q + (cutB b q n).size : Nat) : Int) t1)) → Q (.bytes (cutB b q n) t2) { s with heap := h', toks := tk }) :
    wpAny (model prog w) (ktrTop dp un gd cn cs L a ccd [] outer) (call (.ref r) [.int v tn]) Q E s := by
  subst hv
  exact S.read B F X N T hk hd hu hI U hq hb hn h
theorem raise_fin {base G : Heap} {l : List Env} {e : Addr} {cls : Value} {t : Addr} {vs : List Value} {h : Heap} {d : Addr} {P : Params} {k1 k2 : Tok} {r : Addr} {v v' : Int} {tt : Tok} {rest : List (Addr × Obj)} {upd : Obj → List (Addr × Obj)}
    (R : RaisedS base G l e cls t vs ((d, SD P k1 k2 r v tt) :: rest) h) (hv : v = v') (hup : ∀ o' q, q ∈ upd o' ↔ q = (d, o') ∨ q ∈ rest) : RaisedS base G l e cls t vs (upd (SD P k1 k2 r v' tt)) h := by
  subst hv
  exact raised_sub R fun q hq => List.mem_cons.mpr ((hup _ q).mp hq)
abbrev msg0 : Str := Str.ofString "not enough data in stream to read uint1"
abbrev msgB (n k : Int) : Str := Str.ofString "expected " ++ Str.ofString (toString n) ++ Str.ofString " bytes in a bytes1, but only " ++ Str.ofString (toString k) ++ Str.ofString " remain"
abbrev msgS (n k : Int) : Str := Str.ofString "expected " ++ Str.ofString (toString n) ++ Str.ofString " bytes in a string1, but only " ++ Str.ofString (toString k) ++ Str.ofString " remain"
theorem raise_fin2 {base G : Heap} {l : List Env} {e : Addr} {cls : Value} {t : Addr} {vs vs' : List Value} {h : Heap} {d : Addr} {P : Params} {k1 k2 : Tok} {r : Addr} {v v' : Int} {tt : Tok} {x : Addr × Obj} {rest : List (Addr × Obj)} {upd : Obj → List (Addr × Obj)}
    (R : RaisedS base G l e cls t vs (x :: (d, SD P k1 k2 r v tt) :: rest) h) (hv : v = v') (hvs : vs = vs') (hup : ∀ o' q, q ∈ upd o' ↔ q = (d, o') ∨ q ∈ rest) : RaisedS base G l e cls t vs' (upd (SD P k1 k2 r v' tt)) h := by
  subst hv hvs
  exact raised_sub R fun q hq => List.mem_cons_of_mem _ (List.mem_cons.mpr ((hup _ q).mp hq))
theorem news_x2 {h₀ h : Heap} {L d tp : Addr} {o o' : Obj} {P : Params} {k1 k2 : Tok} {r : Addr} {v v' : Int} {t : Tok} {rest : List (Addr × Obj)} {upd : Obj → List (Addr × Obj)}
    (N : News h₀ L h ((tp, o) :: (d, SD P k1 k2 r v t) :: rest)) (hv : v = v') (ho : o = o') (hup : ∀ o' q, q ∈ upd o' ↔ q = (d, o') ∨ q ∈ rest) : News h₀ L h ((tp, o') :: upd (SD P k1 k2 r v' t)) := by
  subst hv ho
  refine news_sub N fun q hq => ?_
  rcases List.mem_cons.mp hq with h | h
  · exact List.mem_cons.mpr (.inl h)
  · exact List.mem_cons_of_mem _ (List.mem_cons.mpr ((hup _ q).mp h))
theorem lt_all {d tp : Nat} {o : Obj} {news rest : List (Addr × Obj)} (h : d < tp ∧ AllLt tp rest) (hn : ∀ q, q ∈ news ↔ q = (d, o) ∨ q ∈ rest) : ∀ q ∈ news, q.1 < tp := fun q hq => by
  rcases (hn q).mp hq with rfl | hq
  · exact h.1
  · exact kst_ltOf h.2 q hq
theorem Tab.kin {P : Addr} {i j : Value} {qual : Str} {T : List (Addr × Obj)} (h : Tab P i j qual T) : KinL T := by
  cases h with
  | none => exact fun e he => by rw [List.mem_singleton.mp he]; exact kin_fields rfl
  | some _ hd _ =>
    intro e he
    simp only [List.mem_cons, List.not_mem_nil, or_false] at he
    rcases he with rfl | rfl
    · exact kin_fields rfl
    · exact kin_fields hd
theorem Tab.mem {P : Addr} {i j : Value} {qual : Str} {T : List (Addr × Obj)} (h : Tab P i j qual T) : ∃ ps, (P, tabObj ps) ∈ T := by
  cases h with
  | none => exact ⟨_, .head _⟩
  | some _ _ _ => exact ⟨_, .head _⟩
end Mine
end
section
open PySem PySem.W PyProof.Rows PySem.Calls
set_option Elab.async false
set_option maxRecDepth 100000
set_option maxHeartbeats 8000000
namespace Mine
theorem fmtB {n k : Int} {u v t : Tok} {b : Addr} (hn : 0 ≤ n) (hn' : n < 1000000) (hk : 0 ≤ k) (hk' : k < 1000000) :
    Meets (Builtin.«str.__mod__» ⟨[.str (Str.mk #[101, 120, 112, 101, 99, 116, 101, 100, 32, 37, 100, 32, 98, 121, 116, 101, 115, 32, 105, 110, 32, 97, 32, 98, 121, 116, 101, 115, 49, 44, 32, 98, 117, 116, 32, 111, 110, 108, 121, 32, 37, 100, 32, 114, 101, 109, 97, 105, 110]) t, .ref b], []⟩) (fun _ R s => IsTup s.heap b #[.int n u, .int k v] ∧ ∀ t' j, R (.ok (.ret (.str (msgB n k) t'))) { s with toks := j }) := by
  kpt_run
theorem modB {prog : Program} {w : World} {A : Around} {E : Value → Shared → Prop} {s : Shared} {t u v : Tok} {Q : Value → Shared → Prop} {b L : Addr} {j : Nat} {h₀ : Heap} {news : List (Addr × Obj)} {n k : Int}
    (N : News h₀ L s.heap news) (hb : (b, ({ cls := .type "tuple", data := .seq #[.int n u, .int k v] j } : Obj)) ∈ news) (hn : 0 ≤ n) (hn' : n < 1000000) (hk : 0 ≤ k) (hk' : k < 1000000)
    (h : ∀ t' j, Q (.str (msgB n k) t') { s with toks := j }) : wpAny (model prog w) A (binaryOp .Mod (.str (Str.ofString "expected %d bytes in a bytes1, but only %d remain") t) (.ref b)) Q E s :=
  KPt.mod_tuple N hb (by decide +kernel) (fmtB hn hn' hk hk') h
theorem fmtS {n k : Int} {u v t : Tok} {b : Addr} (hn : 0 ≤ n) (hn' : n < 1000000) (hk : 0 ≤ k) (hk' : k < 1000000) :
    Meets (Builtin.«str.__mod__» ⟨[.str (Str.mk #[101, 120, 112, 101, 99, 116, 101, 100, 32, 37, 100, 32, 98, 121, 116, 101, 115, 32, 105, 110, 32, 97, 32, 115, 116, 114, 105, 110, 103, 49, 44, 32, 98, 117, 116, 32, 111, 110, 108, 121, 32, 37, 100, 32, 114, 101, 109, 97, 105, 110]) t, .ref b], []⟩) (fun _ R s => IsTup s.heap b #[.int n u, .int k v] ∧ ∀ t' j, R (.ok (.ret (.str (msgS n k) t'))) { s with toks := j }) := by
  kpt_run
theorem modS {prog : Program} {w : World} {A : Around} {E : Value → Shared → Prop} {s : Shared} {t u v : Tok} {Q : Value → Shared → Prop} {b L : Addr} {j : Nat} {h₀ : Heap} {news : List (Addr × Obj)} {n k : Int}
    (N : News h₀ L s.heap news) (hb : (b, ({ cls := .type "tuple", data := .seq #[.int n u, .int k v] j } : Obj)) ∈ news) (hn : 0 ≤ n) (hn' : n < 1000000) (hk : 0 ≤ k) (hk' : k < 1000000)
    (h : ∀ t' j, Q (.str (msgS n k) t') { s with toks := j }) : wpAny (model prog w) A (binaryOp .Mod (.str (Str.ofString "expected %d bytes in a string1, but only %d remain") t) (.ref b)) Q E s :=
  KPt.mod_tuple N hb (by decide +kernel) (fmtS hn hn' hk hk') h
end Mine
end
section
open PySem PySem.W PyProof.Rows PySem.Calls PySem.Spec
set_option Elab.async false
namespace Mine
/-- all that is known of a frame whose ground may have turned (the slots of the frames above) -/
structure XSt (K : Frag) (A₀ : Around) (base : Heap) (outer : List Env) (p : Program) (loose : List Str) (mean : ExcName → Option Value) (mg mb : Str → Option Value) (g₀ : Heap) (L : Addr) (g h : Heap) (m : Str → Option Value) (news : List (Addr × Obj)) : Prop where
  turn : KtsTurn (outer.filterMap (·.frame)) g₀ g
  fr : Fr g L h m
  nw : News g L h news
  bl : Below A₀ base outer g
  kin : K.In g
  top : Top p loose mean mg mb g
  dicts : KtsDicts (outer.filterMap (·.frame)) g

def EndX (K : Frag) (A₀ : Around) (base : Heap) (outer : List Env) (p : Program) (loose : List Str) (mean : ExcName → Option Value) (mg mb : Str → Option Value) (g₀ : Heap) (L : Addr) (J : (Str → Option Value) → List (Addr × Obj) → Prop) (own : List (Addr × Obj)) (adr : List Addr) (s s₂ : Shared) : Prop :=
  ∃ g h' tk m' news' nx, s₂ = { s with heap := h', toks := tk } ∧ XSt K A₀ base outer p loose mean mg mb g₀ L g h' m' news' ∧ (∀ q ∈ nx, q ∈ news') ∧ (∀ q ∈ own, q ∈ news') ∧ nx.map (·.1) = adr ∧ J m' nx
def PostX (K : Frag) (A₀ : Around) (base : Heap) (outer : List Env) (p : Program) (loose : List Str) (mean : ExcName → Option Value) (mg mb : Str → Option Value) (g₀ : Heap) (L : Addr) (J : (Str → Option Value) → List (Addr × Obj) → Prop) (own : List (Addr × Obj)) (adr : List Addr) (Q : Flow → Shared → Prop) (s : Shared) (f : Flow) (s₂ : Shared) : Prop :=
  match f with
  | .ret v => Q (.ret v) s₂
  | .brk => Q .next s₂
  | _ => EndX K A₀ base outer p loose mean mg mb g₀ L J own adr s s₂
section
variable {K : Frag} {A₀ : Around} {base : Heap} {outer : List Env} {p : Program} {loose : List Str} {mean : ExcName → Option Value} {mg mb : Str → Option Value} {g₀ : Heap}
theorem EndX.intro {L : Addr} {J : (Str → Option Value) → List (Addr × Obj) → Prop} {own : List (Addr × Obj)} {adr : List Addr} {s : Shared} {g h' : Heap} {tk : Nat} {m' : Str → Option Value} {news' nx : List (Addr × Obj)}
    (T : KtsTurn (outer.filterMap (·.frame)) g₀ g) (F : Fr g L h' m') (N : News g L h' news') (B : Below A₀ base outer g) (X : K.In g) (P : Top p loose mean mg mb g) (D : KtsDicts (outer.filterMap (·.frame)) g)
    (hj : J m' nx) (ha : nx.map (·.1) = adr) (hn : ∀ q ∈ nx, q ∈ news') (ho : ∀ q ∈ own, q ∈ news') : EndX K A₀ base outer p loose mean mg mb g₀ L J own adr s { s with heap := h', toks := tk } :=
  ⟨g, h', tk, m', news', nx, rfl, ⟨T, F, N, B, X, P, D⟩, hn, ho, ha, hj⟩

theorem loopX {prog : Program} {w : World} {A : Around} {s : Shared} {env : Env} {R : Result → Shared → Prop} {x : Str} {px : Pos} {body : List Stmt} {I : Addr} {n : Nat} {P : Nat → Value → Prop} {St : Nat → Heap → Prop} {m₀ : Str → Option Value} {news : List (Addr × Obj)} {g : Heap}
    (J : Nat → (Str → Option Value) → List (Addr × Obj) → Prop) (Q : Flow → Shared → Prop) (E : Value → Shared → Prop)
    (W : Walks prog w A I [I] [I] n P St) (hx : env.kindOf x = some .local)
    (hp : (env.scope.kind == .class || (env.scope.kind == .module && env.locals != env.globals)) = false)
    (hLI : env.locals ≠ I) (hgI : g₀.get? I = none) (hnI : ∀ q ∈ news, q.1 ≠ I)
    (hst : St 0 s.heap) (X₀ : XSt K A₀ base outer p loose mean mg mb g₀ env.locals g s.heap m₀ news) (hj : J 0 m₀ news)
    (hE : ∀ e s', E e s' → notedBy (model prog w) A env (fun e s' => R (.error e) s') e s')
    (hQ : ∀ f s', Q f s' → R (.ok f) s')
    (turn : ∀ i v g m₁ news₁ h tk own, i < n → P i v → news₁.map (·.1) = news.map (·.1) → OwnOff own (news.map (·.1)) → J i m₁ news₁ →
      XSt K A₀ base outer p loose mean mg mb g₀ env.locals g h (fun y => if y = x then some v else m₁ y) (news₁ ++ own) →
      wpAny (model prog w) A (execs body env) (PostX K A₀ base outer p loose mean mg mb g₀ env.locals (J (i + 1)) own (news.map (·.1)) Q s) E { s with heap := h, toks := tk })
    (done : ∀ g m₁ news₁ h tk, J n m₁ news₁ → XSt K A₀ base outer p loose mean mg mb g₀ env.locals g h m₁ news₁ → Q .next { s with heap := h, toks := tk }) :
    codeAny (model prog w) A (.forLoop (.Name x px) (.ref I) body [] env) R s := by
  refine codeAny_forLoop
    (fun k s' => ∃ h' tk g m' news' i, s' = { s with heap := h', toks := tk } ∧ St i h' ∧ XSt K A₀ base outer p loose mean mg mb g₀ env.locals g h' m' news' ∧ news'.map (·.1) = news.map (·.1) ∧ J i m' news' ∧ i ≤ n ∧ k = n + 1 - i) ?_ (n + 1)
    ⟨s.heap, s.toks, g, m₀, news, 0, rfl, hst, X₀, rfl, hj, Nat.zero_le _, rfl⟩
  rintro k s' ⟨h', tk, g, m', news', i, rfl, hst', X', ha', hJ, hi, rfl⟩
  have nI : ∀ q ∈ news', q.1 ≠ I := fun q hq e => by
    have h1 : q.1 ∈ news'.map (·.1) := List.mem_map.mpr ⟨q, hq, rfl⟩
    rw [ha'] at h1
    obtain ⟨q', hq', e'⟩ := List.mem_map.mp h1
    exact hnI q' hq' (e'.trans e)
  have gI : g.get? I = none := X'.turn.none_ _ hgI
  have next : ∀ h₁ : Heap, (∀ b o, b ∉ [I] → h'.get? b = some o → h₁.get? b = some o) → XSt K A₀ base outer p loose mean mg mb g₀ env.locals g h₁ m' news' := fun h₁ hk₁ =>
    ⟨X'.turn, ⟨X'.fr.ns.at' fun o e => hk₁ _ o (by simpa using hLI) e, fun b o e => hk₁ b o (fun hb => by rw [List.mem_singleton.mp hb, gI] at e; cases e) (X'.fr.keep b o e), X'.fr.above⟩,
      fun q hq => ⟨hk₁ _ _ (by simpa using nI q hq) (X'.nw q hq).1, (X'.nw q hq).2⟩, X'.bl, X'.kin, X'.top, X'.dicts⟩
  by_cases hlt : i < n
  · refine W.item i _ _ _ hlt hst' fun v h₁ tk₁ hP hst₁ hk₁ => ?_
    have X₁ := next h₁ hk₁
    refine wpAny_assign_Name (wpAny_storeName_local hx X₁.fr.ns (fun h₂ hn₂ hs₂ => ?_) hp)
    have F₂ := X₁.fr.set hn₂ hs₂
    have N₂ := X₁.nw.set hs₂
    have hst₂ : St (i + 1) h₂ := W.frame _ _ _ hst₁ fun b hb o e => (hs₂.2 b fun q => hLI (by rw [List.mem_singleton.mp hb] at q; exact q.symm)).trans e
    have own : ∃ own : List (Addr × Obj), News g env.locals h₂ own ∧ OwnOff own (news.map (·.1)) ∧ (∀ o, h₂.get? I = some o → (I, o) ∈ own) := by
      cases ho : h₂.get? I with
      | none => exact ⟨[], News.nil, fun _ hq => (nomatch hq), fun o e => nomatch e⟩
      | some o =>
        refine ⟨[(I, o)], fun q hq => ?_, fun q hq b hb => ?_, fun o' e => ?_⟩
        · rw [List.mem_singleton.mp hq]; exact ⟨ho, hLI.symm, gI⟩
        · rw [List.mem_singleton.mp hq]
          obtain ⟨q', hq', e'⟩ := List.mem_map.mp hb
          exact fun e => hnI q' hq' (e'.trans e.symm)
        · cases e; exact List.mem_singleton.mpr rfl
    obtain ⟨own, No, hoff, hown⟩ := own
    have N₃ : News g env.locals h₂ (news' ++ own) := fun q hq => (List.mem_append.mp hq).elim (N₂ q) (No q)
    refine wpAny_mono (turn i v g m' news' h₂ _ own hlt hP ha' hoff hJ ⟨X₁.turn, F₂, N₃, X₁.bl, X₁.kin, X₁.top, X₁.dicts⟩) (fun f s₃ h₃ => ?_) fun e s' h' => hE e s' h'
    have fin : EndX K A₀ base outer p loose mean mg mb g₀ env.locals (J (i + 1)) own (news.map (·.1)) s s₃ → ∃ m, m < n + 1 - i ∧ ∃ h' tk g m' news' i', s₃ = { s with heap := h', toks := tk } ∧ St i' h' ∧ XSt K A₀ base outer p loose mean mg mb g₀ env.locals g h' m' news' ∧ news'.map (·.1) = news.map (·.1) ∧ J i' m' news' ∧ i' ≤ n ∧ m = n + 1 - i' := by
      rintro ⟨g₃, h₃', tk₃, m₃, news₃, nx, rfl, X₃, hsub, hso, hadr, hJ₃⟩
      have keepI : ∀ o, h₂.get? I = some o → h₃'.get? I = some o := fun o e => (X₃.nw _ (hso _ (hown o e))).1
      refine ⟨n + 1 - (i + 1), by omega, h₃', tk₃, g₃, m₃, nx, i + 1, rfl, ?_, ⟨X₃.turn, X₃.fr, fun q hq => X₃.nw q (hsub q hq), X₃.bl, X₃.kin, X₃.top, X₃.dicts⟩, hadr, hJ₃, hlt, rfl⟩
      exact W.frame _ _ _ hst₂ fun b hb o e => by rw [List.mem_singleton.mp hb] at e ⊢; exact keepI o e
    cases f with
    | ret v => exact hQ _ _ h₃
    | brk => exact hQ _ _ h₃
    | next => exact fin h₃
    | cont => exact fin h₃
  · have hin : i = n := by omega
    subst hin
    refine W.done _ _ _ hst' fun h₁ tk₁ hk₁ => wpAny_execs_nil ?_
    exact hQ _ _ (done g m' news' h₁ tk₁ hJ (next h₁ hk₁))

theorem iterX_range {prog : Program} {w : World} {A : Around} {s : Shared} {env : Env} {x : Str} {px : Pos} {body : List Stmt} {r : Addr} {a₀ b₀ : Int} {t₀ u₀ v₀ : Tok} {n : Nat} {m₀ : Str → Option Value} {news : List (Addr × Obj)} {g : Heap} {Q : Flow → Shared → Prop} {E : Value → Shared → Prop}
    (J : Nat → (Str → Option Value) → List (Addr × Obj) → Prop)
    (hh : A.handled = none) (hr : IsRange s.heap r a₀ b₀ 1 t₀ u₀ v₀) (hsmall : Builtin.Range.small a₀ b₀ 1 = true) (hn : Builtin.Range.rangeSize a₀ b₀ 1 = (n : Int)) (hx : env.kindOf x = some .local)
    (hp : (env.scope.kind == .class || (env.scope.kind == .module && env.locals != env.globals)) = false)
    (X₀ : XSt K A₀ base outer p loose mean mg mb g₀ env.locals g s.heap m₀ news) (hj : J 0 m₀ news)
    (hE : PassesOwn (model prog w) A env E)
    (turn : ∀ i t g m₁ news₁ h tk own, i < n → news₁.map (·.1) = news.map (·.1) → OwnOff own (news.map (·.1)) → J i m₁ news₁ →
      XSt K A₀ base outer p loose mean mg mb g₀ env.locals g h (fun y => if y = x then some (.int (a₀ + (i : Nat)) t) else m₁ y) (news₁ ++ own) →
      wpAny (model prog w) A (execs body env) (PostX K A₀ base outer p loose mean mg mb g₀ env.locals (J (i + 1)) own (news.map (·.1)) Q s) E { s with heap := h, toks := tk })
    (done : ∀ g m₁ news₁ h tk, J n m₁ news₁ → XSt K A₀ base outer p loose mean mg mb g₀ env.locals g h m₁ news₁ → Q .next { s with heap := h, toks := tk }) :
    wpAny (model prog w) A (pyIter (.ref r)) (fun it s₂ => codeAny (model prog w) A (.forLoop (.Name x px) it body [] env) (fun r s' => match r with | .ok f => Q f s' | .error e => cameBackBy (model prog w) A env E e s') s₂) E s := by
  refine wpAny_pyIter_range hr hsmall ?_
  have W : Walks prog w A s.heap.objs.size [s.heap.objs.size] [s.heap.objs.size] n (fun i v => i < n ∧ ∃ t, v = .int (a₀ + i * 1) t)
      (fun i h => IsRangeIter h s.heap.objs.size (a₀ + (i : Nat) * 1) ((n : Int) - (i : Nat)) 1) := (Walks.range hh _ a₀ 1 n).bound
  have gN : g₀.get? s.heap.objs.size = none := by
    cases q : g₀.get? s.heap.objs.size with
    | none => rfl
    | some o =>
      obtain ⟨sl, hs⟩ := X₀.turn.up q
      exact absurd (Heap.lt_size (X₀.fr.keep _ _ hs)) (Nat.lt_irrefl _)
  refine loopX (s := { s with heap := s.heap.push _ }) J Q E W hx hp (Nat.ne_of_lt X₀.fr.ns.lt) gN (fun q hq => Nat.ne_of_lt (Heap.lt_size (X₀.nw q hq).1)) ?_ ⟨X₀.turn, X₀.fr.push _, fun q hq => ⟨Heap.get?_push_of_some _ (X₀.nw q hq).1, (X₀.nw q hq).2⟩, X₀.bl, X₀.kin, X₀.top, X₀.dicts⟩ hj (fun e s' h => hE e s' h) (fun _ _ h => h) ?_ ?_
  · show IsRangeIter _ _ _ _ _
    rw [hn]; simpa using Heap.get?_push_size _ rfl
  · rintro i v g m₁ news₁ h tk own hi ⟨_, t, rfl⟩ ha hoff hJ X
    have e1 : a₀ + (i : Int) * 1 = a₀ + (i : Int) := by omega
    rw [e1] at X
    exact turn i t g m₁ news₁ h tk own hi ha hoff hJ X
  · intro g m₁ news₁ h tk hJ X
    exact done g m₁ news₁ h tk hJ X
/-- names that are known are written out -/
theorem fr_names {g h : Heap} {L : Addr} {m : Str → Option Value} (F : Fr g L h m) (ps : List (Str × Value)) (hk : ∀ q ∈ ps, m q.1 = some q.2) : Fr g L h (kstB m ps) := by
  have e : kstB m ps = m := funext fun z => kstB_eq hk fun _ => rfl
  rw [e]; exact F
end
end Mine
end
section
open PySem PySem.W PyProof.Rows PySem.Calls PySem.Spec
set_option Elab.async false
namespace Mine
theorem cut_snoc {b : Array UInt8} {a i : Nat} (h : a + i < b.size) : KBw.bInts (cutB b a (i + 1)) = KBw.bInts (cutB b a i) ++ [(oct b (a + i) : Int)] := by
  have h1 : i < (b.toList.drop a).length := by simp; omega
  unfold cutB oct
  rw [List.take_add_one, List.getElem?_eq_getElem h1]
  simp [KBw.bInts, List.getD, h]
theorem cut_zero {b : Array UInt8} {a : Nat} : KBw.bInts (cutB b a 0) = [] := by simp [cutB, KBw.bInts]
theorem bInts_in (c : Array UInt8) : KBa.In (KBw.bInts c) := fun _ h => KBw.ints_in h
theorem byteArr_bInts (c : Array UInt8) : byteArr (KBw.bInts c) = c := by
  unfold byteArr KBw.bInts
  simp only [List.map_map]
  have : ((fun n : Int => n.toNat.toUInt8) ∘ fun c : UInt8 => (c.toNat : Int)) = id := by
    funext x
    simp
  rw [this]
  simp
theorem ints_snoc {vs : List Value} {ns : List Int} (h : IntsAre vs ns) (n : Int) (t : Tok) : IntsAre (vs ++ [.int n t]) (ns ++ [n]) := h.append (.cons n t .nil)
theorem news_drop2 {h₀ h : Heap} {L : Addr} {a b : Addr × Obj} {l : List (Addr × Obj)} (N : News h₀ L h (a :: b :: l)) : News h₀ L h (a :: l) :=
  news_sub N fun q hq => by rcases List.mem_cons.mp hq with h | h <;> simp [h]
theorem sub_two {a b : Addr × Obj} {rest own : List (Addr × Obj)} : ∀ q ∈ a :: b :: rest, q ∈ a :: b :: (rest ++ own) := fun q hq => by
  simp only [List.mem_cons, List.mem_append] at hq ⊢
  rcases hq with h | h | h <;> simp [h]
theorem own_two {a b : Addr × Obj} {rest own : List (Addr × Obj)} : ∀ q ∈ own, q ∈ a :: b :: (rest ++ own) := fun q hq => by
  simp only [List.mem_cons, List.mem_append]; exact .inr (.inr (.inr hq))
theorem news_drop2' {h₀ h : Heap} {L : Addr} {a b c : Addr × Obj} {rest own : List (Addr × Obj)} (N : News h₀ L h (a :: b :: c :: (rest ++ own))) : News h₀ L h (a :: c :: rest) :=
  news_sub N fun q hq => by simp only [List.mem_cons, List.mem_append] at hq ⊢; rcases hq with h | h | h <;> simp [h]
theorem lt_all' {d tp : Nat} {x : Prop} {o : Obj} {news rest own : List (Addr × Obj)} (h : x ∧ d < tp ∧ AllLt tp (rest ++ own)) (hn : ∀ q, q ∈ news ↔ q = (d, o) ∨ q ∈ rest) : ∀ q ∈ news, q.1 < tp := fun q hq => by
  rcases (hn q).mp hq with rfl | hq
  · exact h.2.1
  · exact kst_ltOf h.2.2 q (List.mem_append.mpr (.inl hq))
theorem fr_back {g₀ g h : Heap} {L : Addr} {m : Str → Option Value} (T : KtsTurn [] g₀ g) (F : Fr g L h m) : Fr g₀ L h m :=
  ⟨F.ns, fun b o e => F.keep b o (T.other b o e (by simp)), by rw [← T.size]; exact F.above⟩
theorem news_back {g₀ g h : Heap} {L : Addr} {l : List (Addr × Obj)} (T : KtsTurn [] g₀ g) (N : News g L h l) : News g₀ L h l := fun q hq =>
  ⟨(N q hq).1, (N q hq).2.1, by
    cases e : g₀.get? q.1 with
    | none => rfl
    | some o => have := T.other _ _ e (by simp); rw [(N q hq).2.2] at this; cases this⟩
end Mine
end
section
open PySem PySem.W PyProof.Rows PySem.Calls PySem.Spec PySem.SeqAt
set_option Elab.async false
namespace Mine
/-- two values that stand for the same data: ints, texts, bytes, lists and tuples of such (n: how deep) -/
inductive Same (h : Heap) : Nat → Value → Value → Prop where
  | rfl {n : Nat} (v : Value) : Same h n v v
  | int {n : Nat} (i : Int) (t u : Tok) : Same h n (.int i t) (.int i u)
  | str {n : Nat} (x : Str) (t u : Tok) : Same h n (.str x t) (.str x u)
  | bytes {n : Nat} (x : Array UInt8) (t u : Tok) : Same h n (.bytes x t) (.bytes x u)
  | list {n : Nat} {l b : Addr} {xs ys : Array Value} : h.IsList l xs → h.IsList b ys → xs.size = ys.size → (∀ j (h1 : j < xs.size) (h2 : j < ys.size), Same h n xs[j] ys[j]) → Same h (n + 1) (.ref l) (.ref b)
  | tuple {n : Nat} {l b : Addr} {xs ys : Array Value} : h.IsTuple l xs → h.IsTuple b ys → xs.size = ys.size → (∀ j (h1 : j < xs.size) (h2 : j < ys.size), Same h n xs[j] ys[j]) → Same h (n + 1) (.ref l) (.ref b)
theorem all_true (n : Nat) : ((List.range n).all fun _ => true) = true := by simp
theorem Same.eqAt {s : Shared} {n : Nat} {v v' : Value} (h : Same s.heap n v v') : ∀ {A : Around}, A.units + n < cLine → EqAt A s v v' true := by
  induction h with
  | rfl v => exact fun _ => EqAt.same v
  | int i t u => intro A _; have := EqAt.int_int (A := A) (s := s) i t i u; simpa using this
  | str x t u => intro A _; have := EqAt.str_str (A := A) (s := s) x t x u; simpa using this
  | bytes x t u => intro A _ prog w E Q hq; exact eqBool_bytes (by simpa using hq)
  | @list n l b xs ys hl hb hsz _ ih =>
    intro A hu
    by_cases hlb : l = b
    · subst hlb; exact EqAt.same _
    · have := RcAt.lists (A := A) (e := fun _ => true) hl hb hsz (by omega) (fun j h1 h2 => ih j h1 h2 (by rw [Around.in1_units]; omega))
      rw [all_true] at this
      exact .of_refs hlb this
  | @tuple n l b xs ys hl hb hsz _ ih =>
    intro A hu
    by_cases hlb : l = b
    · subst hlb; exact EqAt.same _
    · have := RcAt.tuples (A := A) (e := fun _ => true) hl hb (by omega) (fun j h1 h2 => ih j h1 h2 (by rw [Around.in1_units]; omega))
      rw [all_true, hsz] at this
      simp only [BEq.rfl, Bool.and_self] at this
      exact .of_refs hlb this
section
variable {prog : Program} {w : World} {A : Around} {E : Value → Shared → Prop} {s : Shared} {Q : Value → Shared → Prop} {n : Nat} {l b : Addr} {xs ys : Array Value}
theorem eq_tuples (hl : s.heap.IsTuple l xs) (hb : s.heap.IsTuple b ys) (hsz : xs.size = ys.size) (he : ∀ j (h1 : j < xs.size) (h2 : j < ys.size), Same s.heap n xs[j] ys[j]) (hu : A.units + n + 1 < cLine) (h : Q (.bool true) s) :
    wpAny (model prog w) A (compareOp .Eq (.ref l) (.ref b)) Q E s := by
  refine eq_tupleAt (e := fun _ => true) hl hb (by omega) (fun j h1 h2 => (he j h1 h2).eqAt (by rw [Around.in1_units]; omega)) ?_
  rw [all_true, hsz]; simpa using h
theorem ne_tuples (hl : s.heap.IsTuple l xs) (hb : s.heap.IsTuple b ys) (hsz : xs.size = ys.size) (he : ∀ j (h1 : j < xs.size) (h2 : j < ys.size), Same s.heap n xs[j] ys[j]) (hu : A.units + n + 1 < cLine) (h : Q (.bool false) s) :
    wpAny (model prog w) A (compareOp .NotEq (.ref l) (.ref b)) Q E s := by
  have := RcNeAt.tuples (A := A) (e := fun _ => true) hl hb (by omega) (fun j h1 h2 => (he j h1 h2).eqAt (by rw [Around.in1_units]; omega))
  rw [all_true, hsz] at this
  exact this prog w E Q (by simpa using h)
theorem eq_lists (hl : s.heap.IsList l xs) (hb : s.heap.IsList b ys) (hsz : xs.size = ys.size) (he : ∀ j (h1 : j < xs.size) (h2 : j < ys.size), Same s.heap n xs[j] ys[j]) (hu : A.units + n + 1 < cLine) (h : Q (.bool true) s) :
    wpAny (model prog w) A (compareOp .Eq (.ref l) (.ref b)) Q E s := by
  refine eq_listAt (e := fun _ => true) hl hb hsz (by omega) (fun j h1 h2 => (he j h1 h2).eqAt (by rw [Around.in1_units]; omega)) ?_
  rw [all_true]; exact h
theorem ne_lists (hl : s.heap.IsList l xs) (hb : s.heap.IsList b ys) (hsz : xs.size = ys.size) (he : ∀ j (h1 : j < xs.size) (h2 : j < ys.size), Same s.heap n xs[j] ys[j]) (hu : A.units + n + 1 < cLine) (h : Q (.bool false) s) :
    wpAny (model prog w) A (compareOp .NotEq (.ref l) (.ref b)) Q E s := by
  have := RcNeAt.lists (A := A) (e := fun _ => true) hl hb hsz (by omega) (fun j h1 h2 => (he j h1 h2).eqAt (by rw [Around.in1_units]; omega))
  rw [all_true] at this
  exact this prog w E Q (by simpa using h)
end
inductive SameL (h : Heap) (n : Nat) : List Value → List Value → Prop where
  | nil : SameL h n [] []
  | cons {v w : Value} {vs ws : List Value} : Same h n v w → SameL h n vs ws → SameL h n (v :: vs) (w :: ws)
theorem SameL.length {h : Heap} {n : Nat} {vs ws : List Value} (x : SameL h n vs ws) : vs.length = ws.length := by
  induction x with
  | nil => rfl
  | cons _ _ ih => simp [ih]
theorem SameL.get {h : Heap} {n : Nat} {vs ws : List Value} (x : SameL h n vs ws) : ∀ j (h1 : j < vs.toArray.size) (h2 : j < ws.toArray.size), Same h n vs.toArray[j] ws.toArray[j] := by
  induction x with
  | nil => intro j h1; simp at h1
  | cons hd _ ih =>
    intro j h1 h2
    cases j with
    | zero => simpa using hd
    | succ j =>
      have := ih j (by simpa using h1) (by simpa using h2)
      simp only [List.getElem_toArray] at this ⊢
      exact this
theorem SameL.append {h : Heap} {n : Nat} {vs ws vs' ws' : List Value} (x : SameL h n vs ws) (y : SameL h n vs' ws') : SameL h n (vs ++ vs') (ws ++ ws') := by
  induction x with
  | nil => exact y
  | cons hd _ ih => exact .cons hd ih
theorem SameL.ints {h : Heap} {n : Nat} {vs ws : List Value} {ns : List Int} (a : IntsAre vs ns) (b : IntsAre ws ns) : SameL h n vs ws := by
  induction a generalizing ws with
  | nil => cases b; exact .nil
  | cons k t _ ih => cases b with | cons _ u r => exact .cons (.int k t u) (ih r)
theorem SameL.strs {h : Heap} {n : Nat} {vs ws : List Value} {ns : List Str} (a : StrsAre vs ns) (b : StrsAre ws ns) : SameL h n vs ws := by
  induction a generalizing ws with
  | nil => cases b; exact .nil
  | cons k t _ ih => cases b with | cons _ u r => exact .cons (.str k t u) (ih r)
/-- bytes, item by item -/
inductive BytesAre : List Value → List (Array UInt8) → Prop where
  | nil : BytesAre [] []
  | cons (b : Array UInt8) (t : Tok) {vs bs} : BytesAre vs bs → BytesAre (.bytes b t :: vs) (b :: bs)
theorem BytesAre.length {vs : List Value} {bs : List (Array UInt8)} (x : BytesAre vs bs) : vs.length = bs.length := by
  induction x with
  | nil => rfl
  | cons _ _ _ ih => simp [ih]
theorem BytesAre.append {vs ws : List Value} {bs cs : List (Array UInt8)} (x : BytesAre vs bs) (y : BytesAre ws cs) : BytesAre (vs ++ ws) (bs ++ cs) := by
  induction x with
  | nil => exact y
  | cons b t _ ih => exact .cons b t ih
theorem BytesAre.snoc {vs : List Value} {bs : List (Array UInt8)} (x : BytesAre vs bs) (b : Array UInt8) (t : Tok) : BytesAre (vs ++ [.bytes b t]) (bs ++ [b]) := x.append (.cons b t .nil)
theorem SameL.bytes {h : Heap} {n : Nat} {vs ws : List Value} {ns : List (Array UInt8)} (a : BytesAre vs ns) (b : BytesAre ws ns) : SameL h n vs ws := by
  induction a generalizing ws with
  | nil => cases b; exact .nil
  | cons k t _ ih => cases b with | cons _ u r => exact .cons (.bytes k t u) (ih r)
section
variable {prog : Program} {w : World} {A : Around} {E : Value → Shared → Prop} {s : Shared} {Q : Value → Shared → Prop} {n ja jb : Nat} {L a b : Addr} {xs ys : List Value} {h₀ h : Heap} {news : List (Addr × Obj)}
theorem isTup_at (N : News h₀ L h news) (hm : (a, ({ cls := .type "tuple", data := .seq xs.toArray ja } : Obj)) ∈ news) : h.IsTuple a xs.toArray := ⟨_, (N _ hm).1, rfl, _, rfl⟩
theorem isList_at (N : News h₀ L h news) (hm : (a, listOf xs.toArray ja) ∈ news) : h.IsList a xs.toArray := ⟨_, (N _ hm).1, rfl, _, rfl⟩
theorem same_tup (N : News h₀ L h news) (ha : (a, ({ cls := .type "tuple", data := .seq xs.toArray ja } : Obj)) ∈ news) (hb : (b, ({ cls := .type "tuple", data := .seq ys.toArray jb } : Obj)) ∈ news) (he : SameL h n xs ys) : Same h (n + 1) (.ref a) (.ref b) :=
  .tuple (isTup_at N ha) (isTup_at N hb) (by simpa using he.length) he.get
theorem same_list (N : News h₀ L h news) (ha : (a, listOf xs.toArray ja) ∈ news) (hb : (b, listOf ys.toArray jb) ∈ news) (he : SameL h n xs ys) : Same h (n + 1) (.ref a) (.ref b) :=
  .list (isList_at N ha) (isList_at N hb) (by simpa using he.length) he.get
theorem eq_tupL (N : News h₀ L s.heap news) (ha : (a, ({ cls := .type "tuple", data := .seq xs.toArray ja } : Obj)) ∈ news) (hb : (b, ({ cls := .type "tuple", data := .seq ys.toArray jb } : Obj)) ∈ news) (he : SameL s.heap 3 xs ys) (hu : A.units + 4 < cLine) (h : Q (.bool true) s) :
    wpAny (model prog w) A (compareOp .Eq (.ref a) (.ref b)) Q E s := eq_tuples (isTup_at N ha) (isTup_at N hb) (by simpa using he.length) he.get hu h
theorem ne_tupL (N : News h₀ L s.heap news) (ha : (a, ({ cls := .type "tuple", data := .seq xs.toArray ja } : Obj)) ∈ news) (hb : (b, ({ cls := .type "tuple", data := .seq ys.toArray jb } : Obj)) ∈ news) (he : SameL s.heap 3 xs ys) (hu : A.units + 4 < cLine) (h : Q (.bool false) s) :
    wpAny (model prog w) A (compareOp .NotEq (.ref a) (.ref b)) Q E s := ne_tuples (isTup_at N ha) (isTup_at N hb) (by simpa using he.length) he.get hu h
theorem eq_listL (N : News h₀ L s.heap news) (ha : (a, listOf xs.toArray ja) ∈ news) (hb : (b, listOf ys.toArray jb) ∈ news) (he : SameL s.heap 3 xs ys) (hu : A.units + 4 < cLine) (h : Q (.bool true) s) :
    wpAny (model prog w) A (compareOp .Eq (.ref a) (.ref b)) Q E s := eq_lists (isList_at N ha) (isList_at N hb) (by simpa using he.length) he.get hu h
theorem ne_listL (N : News h₀ L s.heap news) (ha : (a, listOf xs.toArray ja) ∈ news) (hb : (b, listOf ys.toArray jb) ∈ news) (he : SameL s.heap 3 xs ys) (hu : A.units + 4 < cLine) (h : Q (.bool false) s) :
    wpAny (model prog w) A (compareOp .NotEq (.ref a) (.ref b)) Q E s := ne_lists (isList_at N ha) (isList_at N hb) (by simpa using he.length) he.get hu h
end
end Mine
end
section
open PySem PySem.W PyProof.Rows PySem.Calls PySem.Spec
set_option Elab.async false
set_option maxRecDepth 100000
namespace Mine
theorem sub_bb : isSubtype (.type "bytes") (.type "bytes") = pure true := by rw [isSubtype_type]; kernel_rfl
theorem look_blen : typeLookup (.type "bytes") "__len__" = pure (some (.builtin "bytes.__len__")) := FB.slot_bytes_len.lookup
section
variable {prog : Program} {w : World} {A : Around} {E : Value → Shared → Prop} {s : Shared}
theorem ite_yes {α : Type} {M : Model} {c : Prop} [Decidable c] {a b : Sem α} {Q : α → Shared → Prop} (hc : c) (h : wpAny M A a Q E s) : wpAny M A (if c then a else b) Q E s := by rw [if_pos hc]; exact h
theorem ite_no {α : Type} {M : Model} {c : Prop} [Decidable c] {a b : Sem α} {Q : α → Shared → Prop} (hc : ¬ c) (h : wpAny M A b Q E s) : wpAny M A (if c then a else b) Q E s := by rw [if_neg hc]; exact h
theorem hint_bytes {c : Array UInt8} {t : Tok} {Q : Bool → Shared → Prop} (h : Q false s) : wpAny (model prog w) A (Builtin.List.listLengthHint (.bytes c t)) Q E s := by
  unfold Builtin.List.listLengthHint
  refine wpAny_bind (wpAny_specialOf (typeIs_bytes s c t) look_blen ?_)
  have e1 : splitId "bytes.__len__" = some ("bytes", "__len__") := by decide +kernel
  dsimp only
  rw [e1]
  dsimp only
  refine wpAny_bind (wpAny_isInstance (T := "bytes") (typeIs_bytes s c t) sub_bb ?_)
  refine ite_no (by decide) ?_
  refine ite_yes (by decide +kernel) ?_
  refine wpAny_bind (wpAny_typeOf (typeIs_bytes s c t) ?_)
  exact wpAny_pure h
theorem ext_loop {I S : Addr} {n : Nat} {P : Nat → Value → Prop} {St : Nat → Heap → Prop} {R : Result → Shared → Prop} (W : Walks prog w A.in1 I [I] [I] n P St) (hSI : S ≠ I) (res : Value) :
    ∀ (k i : Nat) (s : Shared) (acc : List Value) (c : Nat), n - i = k → i ≤ n → St i s.heap → s.heap.get? S = some { cls := .type "list", dict := none, data := .seq acc.toArray c, slots := #[] } → acc.length + (n - i) ≤ sizeLine →
    (∀ h' tk vs c', vs.length = n - i → (∀ j v, vs[j]? = some v → P (i + j) v) → h'.get? S = some { cls := .type "list", dict := none, data := .seq (acc ++ vs).toArray c', slots := #[] } → (∀ b o, b ≠ S → b ≠ I → s.heap.get? b = some o → h'.get? b = some o) → R (.ok (.ret res)) { s with heap := h', toks := tk }) →
    codeAny (model prog w) A (.builtin "list.extend.loop" ⟨[.ref S, .ref I, res], []⟩) R s := by
  intro k
  induction k with
  | zero =>
    intro i s acc c hk hi hst hS hsz hR
    have hin : i = n := by omega
    subst hin
    refine codeAny_builtin F.entry_extend_loop ?_
    rw [Around.under_plainId F.plain_extend_loop _]
    show wpAny _ A.in1 (pyNext (.ref I) >>= _) _ _ s
    refine wpAny_bind (W.done s _ _ hst fun h' tk hk' => ?_)
    exact wpAny_pure (hR h' tk [] c (by simp) (fun j v e => by simp at e) (by simpa using hk' S _ (by simpa using hSI) hS) fun b o _ hb e => hk' b o (by simpa using hb) e)
  | succ k ih =>
    intro i s acc c hk hi hst hS hsz hR
    have hlt : i < n := by omega
    refine codeAny_builtin F.entry_extend_loop ?_
    rw [Around.under_plainId F.plain_extend_loop _]
    show wpAny _ A.in1 (pyNext (.ref I) >>= _) _ _ s
    refine wpAny_bind (W.item i s _ _ hlt hst fun v h' tk hP hst' hk' => ?_)
    have hS' := hk' S _ (by simpa using hSI) hS
    show wpAny _ A.in1 (updateSeq S (·.push v) >>= _) _ _ _
    refine wpAny_bind ?_
    refine wpAny_updateSeq hS' rfl (wpAny_pure ⟨plainId_quiet F.plain_extend_loop _, ih (i + 1) _ (acc ++ [v]) _ (by omega) hlt (W.frame _ h' _ hst' fun b hb o e => ?_) (by rw [Heap.get?_update_self _ hS' rfl]; simp [Obj.mapSeq]; rfl) (by simp; omega) fun h'' tk'' vs c' hl hvs hS'' hkeep => ?_⟩)
      (by simp; omega) (by simp; omega)
    · rw [List.mem_singleton.mp hb] at e ⊢
      exact (Heap.get?_update_other _ _ hSI).trans e
    · refine hR h'' tk'' (v :: vs) c' (by simp; omega) (fun j x e => ?_) (by simpa using hS'') fun b o hb hbI e => ?_
      · cases j with
        | zero => simp at e; subst e; exact hP
        | succ j =>
          have := hvs j x (by simpa using e)
          rwa [show i + 1 + j = i + (j + 1) by omega] at this
      · exact hkeep b o hb hbI ((Heap.get?_update_other _ _ (Ne.symm hb)).trans (hk' b o (by simpa using hbI) e))
end
theorem ints_of {c : Array UInt8} : ∀ {vs : List Value} (i : Nat), vs.length = c.size - i → (∀ j v, vs[j]? = some v → ∃ x u, c[i + j]? = some x ∧ v = .int (x.toNat : Int) u) → IntsAre vs ((KBw.bInts c).drop i)
  | [], i, hl, _ => by
    have : (KBw.bInts c).drop i = [] := List.drop_of_length_le (by rw [KBw.ints_length]; simp at hl; omega)
    rw [this]; exact .nil
  | v :: vs, i, hl, h => by
    obtain ⟨x, u, hx, rfl⟩ := h 0 v (by simp)
    have hlt : i < (KBw.bInts c).length := by rw [KBw.ints_length]; simp at hl; omega
    rw [List.drop_eq_getElem_cons hlt]
    have e : (KBw.bInts c)[i] = (x.toNat : Int) := by
      have := KBw.ints_get (b := c) (i := i) (by simpa using hx)
      rw [List.getElem?_eq_getElem hlt] at this
      exact Option.some.inj this
    rw [e]
    refine .cons _ u (ints_of (i + 1) (by simp at hl; omega) fun j v hv => ?_)
    have := h (j + 1) v (by simpa using hv)
    rwa [show i + (j + 1) = i + 1 + j by omega] at this
theorem meets_ext (D : Addr) (c : Array UInt8) (t : Tok) (vs : List Value) (j : Nat) :
    Meets (Builtin.«list.extend» ⟨[.ref D, .bytes c t], []⟩) (fun A R s => A.handled = none ∧ s.heap.get? D = some (listOf vs.toArray j) ∧ vs.length + c.size ≤ sizeLine ∧
      ∀ h' tk ws c', IntsAre ws (KBw.bInts c) → h'.get? D = some (listOf (vs ++ ws).toArray c') → (∀ b o, b ≠ D → s.heap.get? b = some o → h'.get? b = some o) → R (.ok (.ret .none)) { s with heap := h', toks := tk }) := by
  intro prog w A R s ⟨hh, hD, hsz, hR⟩
  show wpAny _ _ (Builtin.List.listExtendWith (.ref D) (.bytes c t) .none) _ _ s
  unfold Builtin.List.listExtendWith
  refine wpAny_bind (wpAny_typeOf (typeIs_bytes s c t) ?_)
  have h1 : Builtin.List.listSameRef (.ref D) (.bytes c t) = false := rfl
  have h2 : (Value.type "bytes" == Value.type "list") = false := by decide
  have h3 : (Value.type "bytes" == Value.type "tuple") = false := by decide
  simp only [h1, h2, h3, Bool.or_false, Bool.false_eq_true, if_false]
  have hDI : D ≠ s.heap.objs.size := Nat.ne_of_lt (Heap.lt_size hD)
  refine wpAny_bind (KBw.pyIter_bytes ?_)
  refine wpAny_bind (wpAny_holding (hint_bytes ?_))
  refine ite_no (by decide +kernel) ?_
  refine wpAny_pure ⟨plainId_quiet F.plain_extend_loop _, ?_⟩
  have W := KBw.walks (prog := prog) (w := w) (A := A.in1) hh s.heap.objs.size c t
  refine ext_loop (n := c.size) W hDI .none c.size 0 _ vs j (by omega) (Nat.zero_le _) ⟨_, Heap.get?_push_size _ rfl, rfl, rfl⟩ (Heap.get?_push_of_some _ hD) (by omega) fun h' tk ws c' hl hws hD' hk => ?_
  refine hR h' tk ws c' ?_ hD' fun b o hb e => hk b o hb (fun q => ?_) (Heap.get?_push_of_some _ e)
  · have := ints_of (c := c) (vs := ws) 0 (by omega) (fun j v hv => by obtain ⟨x, u, hx, rfl⟩ := hws j v hv; exact ⟨x, u, hx, rfl⟩)
    simpa using this
  · rw [q] at e; exact absurd (Heap.lt_size e) (Nat.lt_irrefl _)
theorem extend_bytes {prog : Program} {w : World} {A : Around} {E : Value → Shared → Prop} {s : Shared} {h₀ : Heap} {L D : Addr} {m : Str → Option Value} {news : List (Addr × Obj)} {upd : Obj → List (Addr × Obj)} {c : Array UInt8} {t : Tok} {vs : List Value} {j : Nat} {Q : Value → Shared → Prop}
    (F : Fr h₀ L s.heap m) (N : News h₀ L s.heap news) (hh : A.handled = none) (U : UpdF D (listOf vs.toArray j) news upd) (hsz : vs.length + c.size ≤ 16777216)
    (h : ∀ h' tk ws c', IntsAre ws (KBw.bInts c) → Fr h₀ L h' m → News h₀ L h' (upd (listOf (vs ++ ws).toArray c')) → Q .none { s with heap := h', toks := tk }) :
    wpAny (model prog w) A (call (.builtin "list.extend") [.ref D, .bytes c t]) Q E s := by
  obtain ⟨rest, hof, hnw, hup⟩ := upd_split U
  have hm := N _ ((hnw _).mpr (.inl rfl))
  refine call_meets PySem.F.slot_list_extend ⟨_, hm.1, rfl⟩ PySem.F.entry_list_extend (PySem.F.args_list_extend_2 _ _) (meets_ext D c t vs j) ⟨hh, hm.1, by rw [sizeLine_eq]; exact hsz, fun h' tk ws c' hi hD hk => ?_⟩
  refine h h' tk ws c' hi ⟨F.ns.at' fun o e => hk _ o (Ne.symm hm.2.1) e, fun b o e => hk b o (fun q => ?_) (F.keep b o e), F.above⟩ fun q hq => ?_
  · rw [q, hm.2.2] at e; cases e
  · rcases (hup _ q).mp hq with rfl | hq'
    · exact ⟨hD, hm.2⟩
    · have hn := N q ((hnw q).mpr (.inr hq'))
      exact ⟨hk _ _ (hof q hq' D (List.mem_singleton.mpr rfl)) hn.1, hn.2⟩
end Mine
end
section
open PySem PySem.W PyProof.Rows PySem.Calls PySem.Spec
set_option Elab.async false
namespace Mine
theorem cut_split (b : Array UInt8) (a n m : Nat) : KBw.bInts (cutB b a (n + m)) = KBw.bInts (cutB b a n) ++ KBw.bInts (cutB b (a + n) m) := by
  unfold cutB KBw.bInts
  rw [List.take_add, List.drop_drop]
  simp
theorem cut_next {b : Array UInt8} {p : Nat} (h : p < b.size) : KBw.bInts (cutB b 0 (p + 1 + oct b p)) = KBw.bInts (cutB b 0 p) ++ [(oct b p : Int)] ++ KBw.bInts (cutB b (p + 1) (oct b p)) := by
  rw [show p + 1 + oct b p = (p + 1) + oct b p from rfl, cut_split, cut_split, Nat.zero_add, Nat.zero_add, ints_cut1 h]
theorem cut_whole {b : Array UInt8} : cutB b 0 b.size = b := by
  unfold cutB
  rw [List.drop_zero, List.take_of_length_le (by simp), Array.toArray_toList]
theorem sub_t3 {t1 t2 a b c : Addr × Obj} {R own : List (Addr × Obj)} : ∀ q ∈ a :: b :: c :: R, q ∈ t1 :: t2 :: a :: b :: c :: (R ++ own) := fun q hq => by
  simp only [List.mem_cons, List.mem_append] at hq ⊢
  rcases hq with h | h | h | h <;> simp [h]
theorem own_t3 {t1 t2 a b c : Addr × Obj} {R own : List (Addr × Obj)} : ∀ q ∈ own, q ∈ t1 :: t2 :: a :: b :: c :: (R ++ own) := fun q hq => by
  simp only [List.mem_cons, List.mem_append]; exact .inr (.inr (.inr (.inr (.inr (.inr hq)))))
theorem picked_upto {b : Array UInt8} {k : Nat} : KBy.picked b none (some (k : Int)) = cutB b 0 k := by
  rw [KBc.picked_eq]
  simp only [Option.elim, clipAt_nat, List.drop_zero, Nat.sub_zero]
  unfold cutB
  rw [List.drop_zero]
  congr 1
  by_cases h : k ≤ b.size
  · rw [Nat.min_eq_left h]
  · rw [Nat.min_eq_right (by omega), List.take_of_length_le (by simp), List.take_of_length_le (by simp; omega)]
section
variable {prog : Program} {w : World} {A : Around} {E : Value → Shared → Prop} {s : Shared} {h₀ : Heap} {L D : Addr} {m : Str → Option Value} {news : List (Addr × Obj)} {vs : List Value} {c x y : Array UInt8} {j : Nat} {t u : Tok} {Q : Value → Shared → Prop}
theorem make_bytes (F : Fr h₀ L s.heap m) (N : News h₀ L s.heap news) (hh : A.handled = none) (hm : (D, listOf vs.toArray j) ∈ news) (hi : IntsAre vs (KBw.bInts c)) (hz : c.size ≤ 16777216)
    (h : ∀ h' t' k, Fr h₀ L h' m → News h₀ L h' news → Q (.bytes c t') { s with heap := h', toks := k }) : wpAny (model prog w) A (call (.type "bytes") [.ref D]) Q E s :=
  KBa.make_K F N hh (isList_at N hm) hi (bInts_in c) (by rw [KBw.ints_length]; exact hz) fun h' t' k F' N' _ => by rw [byteArr_bInts]; exact h h' t' k F' N'
theorem eq_bytes_same (e : x = y) (h : Q (.bool true) s) : wpAny (model prog w) A (compareOp .Eq (.bytes x t) (.bytes y u)) Q E s := by
  subst e; exact eq_bytes (by simpa using h)
theorem ne_bytes_same (e : x = y) (h : Q (.bool false) s) : wpAny (model prog w) A (compareOp .NotEq (.bytes x t) (.bytes y u)) Q E s := by
  subst e; exact ne_bytes (by simpa using h)
end
end Mine
end
section
open PySem PySem.W PyProof.Rows PySem.Calls PySem.Spec PySem.SeqAt
set_option Elab.async false
namespace Mine
theorem ints_getD (b : Array UInt8) (p : Nat) : (KBw.bInts b).getD p 0 = (oct b p : Int) := (KBw.getD_ints b.toList p).symm
section
variable {prog : Program} {w : World} {A : Around} {E : Value → Shared → Prop} {s : Shared} {x y : Str} {t u : Tok} {Q : Value → Shared → Prop}
theorem ne_str_same (e : x = y) (h : Q (.bool false) s) : wpAny (model prog w) A (compareOp .NotEq (.str x t) (.str y u)) Q E s := by
  subst e; exact RcNeAt.str_str x t x u prog w E Q (by simpa using h)
theorem eq_str_same (e : x = y) (h : Q (.bool true) s) : wpAny (model prog w) A (compareOp .Eq (.str x t) (.str y u)) Q E s := by
  subst e; exact RcAt.str_str x t x u prog w E Q (by simpa using h)
end
end Mine
end
section
open PySem PySem.W PyProof.Rows PySem.Calls PySem.Spec
set_option Elab.async false
namespace Mine
/-- the end of a turn, where the ledger may have grown: I is the iterator's place -/
def EndY (g₀ : Heap) (L : Addr) (J : (Str → Option Value) → List (Addr × Obj) → Prop) (I : Addr) (oI : Obj) (s s₂ : Shared) : Prop :=
  ∃ h' tk m' news' nx, s₂ = { s with heap := h', toks := tk } ∧ Fr g₀ L h' m' ∧ News g₀ L h' news' ∧ (∀ q ∈ nx, q ∈ news') ∧ (I, oI) ∈ news' ∧ (∀ q ∈ nx, @Ne Nat q.1 I) ∧ J m' nx
def PostY (g₀ : Heap) (L : Addr) (J : (Str → Option Value) → List (Addr × Obj) → Prop) (I : Addr) (oI : Obj) (Q : Flow → Shared → Prop) (s : Shared) (f : Flow) (s₂ : Shared) : Prop :=
  match f with
  | .ret v => Q (.ret v) s₂
  | .brk => Q .next s₂
  | _ => EndY g₀ L J I oI s s₂
theorem EndY.intro {g₀ : Heap} {L : Addr} {J : (Str → Option Value) → List (Addr × Obj) → Prop} {I : Addr} {oI : Obj} {s : Shared} {h' : Heap} {tk : Nat} {m' : Str → Option Value} {news' nx : List (Addr × Obj)}
    (F : Fr g₀ L h' m') (N : News g₀ L h' news') (hj : J m' nx) (hn : ∀ q ∈ nx, q ∈ news') (hI : (I, oI) ∈ news') (hne : ∀ q ∈ nx, @Ne Nat q.1 I) : EndY g₀ L J I oI s { s with heap := h', toks := tk } :=
  ⟨h', tk, m', news', nx, rfl, F, N, hn, hI, hne, hj⟩
section
variable {g₀ : Heap}
theorem loopY {prog : Program} {w : World} {A : Around} {s : Shared} {env : Env} {R : Result → Shared → Prop} {x : Str} {px : Pos} {body : List Stmt} {I : Addr} {n : Nat} {P : Nat → Value → Prop} {St : Nat → Heap → Prop} {m₀ : Str → Option Value} {news : List (Addr × Obj)}
    (J : Nat → (Str → Option Value) → List (Addr × Obj) → Prop) (Q : Flow → Shared → Prop) (E : Value → Shared → Prop)
    (W : Walks prog w A I [I] [I] n P St) (hIo : ∀ i h, St i h → ∃ o, h.get? I = some o) (hx : env.kindOf x = some .local)
    (hp : (env.scope.kind == .class || (env.scope.kind == .module && env.locals != env.globals)) = false)
    (hLI : env.locals ≠ I) (hgI : g₀.get? I = none) (hnI : ∀ q ∈ news, @Ne Nat q.1 I)
    (hst : St 0 s.heap) (F₀ : Fr g₀ env.locals s.heap m₀) (N₀ : News g₀ env.locals s.heap news) (hj : J 0 m₀ news)
    (hE : ∀ e s', E e s' → notedBy (model prog w) A env (fun e s' => R (.error e) s') e s')
    (hQ : ∀ f s', Q f s' → R (.ok f) s')
    (turn : ∀ i v m₁ news₁ h tk oI, i < n → P i v → (∀ q ∈ news₁, @Ne Nat q.1 I) → J i m₁ news₁ →
      Fr g₀ env.locals h (fun y => if y = x then some v else m₁ y) → News g₀ env.locals h ((I, oI) :: news₁) →
      wpAny (model prog w) A (execs body env) (PostY g₀ env.locals (J (i + 1)) I oI Q s) E { s with heap := h, toks := tk })
    (done : ∀ m₁ news₁ h tk, J n m₁ news₁ → Fr g₀ env.locals h m₁ → News g₀ env.locals h news₁ → Q .next { s with heap := h, toks := tk }) :
    codeAny (model prog w) A (.forLoop (.Name x px) (.ref I) body [] env) R s := by
  refine codeAny_forLoop
    (fun k s' => ∃ h' tk m' news' i, s' = { s with heap := h', toks := tk } ∧ St i h' ∧ Fr g₀ env.locals h' m' ∧ News g₀ env.locals h' news' ∧ (∀ q ∈ news', @Ne Nat q.1 I) ∧ J i m' news' ∧ i ≤ n ∧ k = n + 1 - i) ?_ (n + 1)
    ⟨s.heap, s.toks, m₀, news, 0, rfl, hst, F₀, N₀, hnI, hj, Nat.zero_le _, rfl⟩
  rintro k s' ⟨h', tk, m', news', i, rfl, hst', F', N', nI, hJ, hi, rfl⟩
  have nextF : ∀ h₁ : Heap, (∀ b o, b ∉ [I] → h'.get? b = some o → h₁.get? b = some o) → Fr g₀ env.locals h₁ m' := fun h₁ hk₁ =>
    ⟨F'.ns.at' fun o e => hk₁ _ o (by simpa using hLI) e, fun b o e => hk₁ b o (fun hb => by rw [List.mem_singleton.mp hb, hgI] at e; cases e) (F'.keep b o e), F'.above⟩
  have nextN : ∀ h₁ : Heap, (∀ b o, b ∉ [I] → h'.get? b = some o → h₁.get? b = some o) → News g₀ env.locals h₁ news' := fun h₁ hk₁ =>
    fun q hq => ⟨hk₁ _ _ (by simpa using nI q hq) (N' q hq).1, (N' q hq).2⟩
  by_cases hlt : i < n
  · refine W.item i _ _ _ hlt hst' fun v h₁ tk₁ hP hst₁ hk₁ => ?_
    have F₁ := nextF h₁ hk₁
    have N₁ := nextN h₁ hk₁
    refine wpAny_assign_Name (wpAny_storeName_local hx F₁.ns (fun h₂ hn₂ hs₂ => ?_) hp)
    have F₂ := F₁.set hn₂ hs₂
    have N₂ := N₁.set hs₂
    have hst₂ : St (i + 1) h₂ := W.frame _ _ _ hst₁ fun b hb o e => (hs₂.2 b fun q => hLI (by rw [List.mem_singleton.mp hb] at q; exact q.symm)).trans e
    obtain ⟨oI, hoI⟩ := hIo _ _ hst₂
    have N₃ : News g₀ env.locals h₂ ((I, oI) :: news') := fun q hq => by
      rcases List.mem_cons.mp hq with rfl | hq
      · exact ⟨hoI, hLI.symm, hgI⟩
      · exact N₂ q hq
    refine wpAny_mono (turn i v m' news' h₂ _ oI hlt hP nI hJ F₂ N₃) (fun f s₃ h₃ => ?_) fun e s' h' => hE e s' h'
    have fin : EndY g₀ env.locals (J (i + 1)) I oI s s₃ → ∃ m, m < n + 1 - i ∧ ∃ h' tk m' news' i', s₃ = { s with heap := h', toks := tk } ∧ St i' h' ∧ Fr g₀ env.locals h' m' ∧ News g₀ env.locals h' news' ∧ (∀ q ∈ news', @Ne Nat q.1 I) ∧ J i' m' news' ∧ i' ≤ n ∧ m = n + 1 - i' := by
      rintro ⟨h₃', tk₃, m₃, news₃, nx, rfl, F₃, N₃, hsub, hI, hne, hJ₃⟩
      refine ⟨n + 1 - (i + 1), by omega, h₃', tk₃, m₃, nx, i + 1, rfl, ?_, F₃, fun q hq => N₃ q (hsub q hq), hne, hJ₃, hlt, rfl⟩
      exact W.frame _ _ _ hst₂ fun b hb o e => by
        rw [List.mem_singleton.mp hb] at e ⊢
        rw [hoI] at e; cases e
        exact (N₃ _ hI).1
    cases f with
    | ret v => exact hQ _ _ h₃
    | brk => exact hQ _ _ h₃
    | next => exact fin h₃
    | cont => exact fin h₃
  · have hin : i = n := by omega
    subst hin
    refine W.done _ _ _ hst' fun h₁ tk₁ hk₁ => wpAny_execs_nil ?_
    exact hQ _ _ (done m' news' h₁ tk₁ hJ (nextF h₁ hk₁) (nextN h₁ hk₁))

theorem iterY_range {prog : Program} {w : World} {A : Around} {s : Shared} {env : Env} {x : Str} {px : Pos} {body : List Stmt} {r : Addr} {a₀ b₀ c₀ : Int} {t₀ u₀ v₀ : Tok} {n : Nat} {m₀ : Str → Option Value} {news : List (Addr × Obj)} {Q : Flow → Shared → Prop} {E : Value → Shared → Prop}
    (J : Nat → (Str → Option Value) → List (Addr × Obj) → Prop)
    (hh : A.handled = none) (hr : IsRange s.heap r a₀ b₀ c₀ t₀ u₀ v₀) (hsmall : Builtin.Range.small a₀ b₀ c₀ = true) (hn : Builtin.Range.rangeSize a₀ b₀ c₀ = (n : Int)) (hx : env.kindOf x = some .local)
    (hp : (env.scope.kind == .class || (env.scope.kind == .module && env.locals != env.globals)) = false)
    (F₀ : Fr g₀ env.locals s.heap m₀) (N₀ : News g₀ env.locals s.heap news) (hj : J 0 m₀ news)
    (hE : PassesOwn (model prog w) A env E)
    (turn : ∀ I i t m₁ news₁ h tk oI, i < n → (∀ q ∈ news₁, @Ne Nat q.1 I) → J i m₁ news₁ →
      Fr g₀ env.locals h (fun y => if y = x then some (.int (a₀ + (i : Nat) * c₀) t) else m₁ y) → News g₀ env.locals h ((I, oI) :: news₁) →
      wpAny (model prog w) A (execs body env) (PostY g₀ env.locals (J (i + 1)) I oI Q s) E { s with heap := h, toks := tk })
    (done : ∀ m₁ news₁ h tk, J n m₁ news₁ → Fr g₀ env.locals h m₁ → News g₀ env.locals h news₁ → Q .next { s with heap := h, toks := tk }) :
    wpAny (model prog w) A (pyIter (.ref r)) (fun it s₂ => codeAny (model prog w) A (.forLoop (.Name x px) it body [] env) (fun r s' => match r with | .ok f => Q f s' | .error e => cameBackBy (model prog w) A env E e s') s₂) E s := by
  refine wpAny_pyIter_range hr hsmall ?_
  have W : Walks prog w A s.heap.objs.size [s.heap.objs.size] [s.heap.objs.size] n (fun i v => i < n ∧ ∃ t, v = .int (a₀ + i * c₀) t)
      (fun i h => IsRangeIter h s.heap.objs.size (a₀ + (i : Nat) * c₀) ((n : Int) - (i : Nat)) c₀) := (Walks.range hh _ a₀ c₀ n).bound
  have gN : g₀.get? s.heap.objs.size = none := by
    cases q : g₀.get? s.heap.objs.size with
    | none => rfl
    | some o => exact absurd (Heap.lt_size (F₀.keep _ _ q)) (Nat.lt_irrefl _)
  refine loopY (s := { s with heap := s.heap.push _ }) J Q E W (fun i h hi => ?_) hx hp (Nat.ne_of_lt F₀.ns.lt) gN (fun q hq => Nat.ne_of_lt (Heap.lt_size (N₀ q hq).1)) ?_ (F₀.push _) (fun q hq => ⟨Heap.get?_push_of_some _ (N₀ q hq).1, (N₀ q hq).2⟩) hj (fun e s' h => hE e s' h) (fun f s' h => h) ?_ ?_
  · exact ⟨_, hi⟩
  · show IsRangeIter _ _ _ _ _
    rw [hn]; simpa using Heap.get?_push_size _ rfl
  · rintro i v m₁ news₁ h tk oI hi ⟨_, t, rfl⟩ ho hJ F N
    exact turn _ i t m₁ news₁ h tk oI hi ho hJ F N
  · intro m₁ news₁ h tk hJ F N
    exact done m₁ news₁ h tk hJ F N
end
end Mine
namespace Mine
open PySem PySem.W PyProof.Rows PySem.Calls PySem.Spec
theorem size_down (k : Nat) : Builtin.Range.rangeSize ((k : Int) - 1) (-1) (-1) = (k : Int) := by
  unfold Builtin.Range.rangeSize
  simp only [show ¬ ((-1 : Int) > 0) by decide, if_false, show (- -1 : Int) = 1 by decide, Int.ediv_one]
  split <;> omega
theorem small_down {k : Nat} (hk : k < 1000000) : Builtin.Range.small ((k : Int) - 1) (-1) (-1) = true := by
  unfold Builtin.Range.small
  rw [size_down]
  simp only [Builtin.Range.rangeFitsLong, Bool.and_eq_true, Bool.or_eq_true, decide_eq_true_eq, beq_iff_eq, show ¬ ((-1 : Int) > 0) by decide, if_false]
  omega
end Mine
end
section
open PySem PySem.W PyProof.Rows PySem.Calls PySem.Spec
set_option Elab.async false
namespace Mine
section
variable {prog : Program} {w : World} {A₀ A : Around} {s : Shared} {base h₀ : Heap} {L a : Addr} {m : Str → Option Value} {cn : Str} {cs : Scope} {ccd : Value} {cl : List (Str × Addr)} {news : List (Addr × Obj)} {K : Frag} {p : Program} {loose : List Str} {mean : ExcName → Option Value} {mg mb : Str → Option Value}
    {R : Result → Shared → Prop} {name qual : Str} {params : Arguments} {body : List Stmt} {scope : Scope} {dV kV doc pm cdv ct oc : Value} {an od : Option Addr} {osl : Array (Option Value)} {f : Addr} {args : Args} {binds : List (Str × Value)}
/-- back from a callee whose ground turned: the caller's frame alone may have changed its slots -/
theorem back_turn {g g' h : Heap} {L' : Addr} {m' : Str → Option Value} {news' : List (Addr × Obj)} (FG : Fr h₀ L g m) (T : KtsTurn [L] g g') (F' : Fr g' L' h m') (N' : News g' L' h news') : Fr h₀ L h m ∧ News h₀ L h news' := by
  obtain ⟨oL, es, ep, hL, hLd, hLk, hLf⟩ := FG.ns
  obtain ⟨sl, hs⟩ := T.up hL
  have nL : h₀.get? L = none := kts_self FG
  refine ⟨⟨⟨_, es, ep, F'.keep _ _ hs, hLd, hLk, hLf⟩, fun b o e => F'.keep b o (T.other b o (FG.keep b o e) fun q => ?_), FG.above⟩, fun q hq => ⟨(N' q hq).1, fun e => ?_, ?_⟩⟩
  · rw [List.mem_singleton.mp q, nL] at e; cases e
  · have := (N' q hq).2.2; rw [e, hs] at this; cases this
  · cases e : h₀.get? q.1 with
    | none => rfl
    | some o =>
      obtain ⟨sl', hs'⟩ := T.up (FG.keep _ _ e)
      have := (N' q hq).2.2
      rw [hs'] at this; cases this
/-- the way into a def with a try, from a caller that may hold cells -/
theorem code_defSX (B : Below A₀ base [] h₀) (F : Fr h₀ L s.heap m) (X₀ : K.In h₀) (N : News h₀ L s.heap news) (T : Top p loose mean mg mb h₀) (hA : A.frames = some [envX cn cs L a ccd cl])
    (ho : K.lookup f = some ⟨oc, od, .func (fnOf name qual params body scope dV kV doc pm an cdv ct), osl⟩) (hcd : codeIn K cdv qual = true) (hroom : A.depth < recursionLimit)
    (hbind : BindsTo s (fnOf name qual params body scope dV kV doc pm an cdv ct) args binds) (hloc : ∀ y ∈ binds, scope.names.lookup y.1 = some .local)
    (h : ∀ g L' h₁, Fr h₀ L g m → Fr g L' h₁ (fun y => binds.reverse.lookup y) → News g L' h₁ news → Below A base [envX cn cs L a ccd cl] g → K.In g → Top p loose mean mg mb g → KtsDicts ([envX cn cs L a ccd cl].filterMap (·.frame)) g →
      wpAny (model prog w) (A.deeper (envOf qual scope L' f cdv)) (execs body (envOf qual scope L' f cdv))
        (fun fl s' => LeaveS0 ([envX cn cs L a ccd cl].filterMap (·.frame)) h₀ L m g R (match fl with | .ret v => v | _ => .none) s')
        (fun e s' => wpAny (model prog w) (A.deeper (envOf qual scope L' f cdv)) (leaving (envOf qual scope L' f cdv) e) (fun _ s'' => R (.error e) s'') (fun e' s'' => R (.error e') s'') s')
        { s with heap := h₁, toks := s.toks + binds.length })
    (hck : cs.kind = .function) (hco : scope.isCoroutine = false) (hgen : scope.isGenerator = false) (hk : scope.kind = .function)
    (hcell : ∀ x ∈ scope.names, x.2 ≠ .cell) : codeAny (model prog w) A (.call (.ref f) args) R s := by
  have X := X₀.keeps F.keep
  obtain ⟨FG, BG, st, -⟩ := groundX (R := R) B F N hA rfl hck
  refine codeAny_call_def (fd := fnOf name qual params body scope dV kV doc pm an cdv ct) (body := body) (binds := binds) hroom (X _ _ ho) rfl (T.nolimit.keeps F.keep) (codeRec_of X hcd) rfl hbind hcell hloc (fun h₁ hns hk₁ => ?_) hco hgen hk
  have D : KtsDicts ([envX cn cs L a ccd cl].filterMap (·.frame)) (hideAll s.heap (news.map (·.1))) := fun b hb => by
    obtain ⟨oL, es, ep, hL, hLd, _⟩ := FG.ns
    have e : b = L := List.mem_singleton.mp (show b ∈ [L] from hb)
    rw [e]; exact ⟨oL, es, ep, hL, hLd⟩
  refine wpAny_mono (h _ s.heap.objs.size h₁ FG ⟨hns, fun b o e => hk₁ b o (of_hideAll _ e), Nat.le_of_eq (hideAll_size _ _)⟩
    (fun q hq => ⟨hk₁ _ _ (N q hq).1, Nat.ne_of_lt (Heap.lt_size (N q hq).1), hideAll_none _ (List.mem_map_of_mem hq)⟩) BG (X₀.keeps st) (T.keeps st) D) (fun fl s' hl => ?_) fun _ _ y => y
  obtain ⟨g', L', m', news', T', F', N', k⟩ := hl
  obtain ⟨a1, a2⟩ := back_turn FG T' F' N'
  exact k a1 a2
end
end Mine
end
section
open PySem PySem.W PyProof.Rows PySem.Calls PySem.Spec
set_option Elab.async false
namespace Mine
/-- no code of a code -/
def NoTab (o : Obj) : Prop := ∀ vs q t, o.data = .fields vs → vs[1]? ≠ some (.str q t)
theorem noTab_seq {o : Obj} {vs : Array Value} {n : Nat} (h : o.data = .seq vs n) : NoTab o := fun _ _ _ e => by rw [h] at e; cases e
theorem noTab_cell {o : Obj} {v : Option Value} (h : o.data = .cell v) : NoTab o := fun _ _ _ e => by rw [h] at e; cases e
theorem noTab_dict {o : Obj} {es : Array DictEntry} {n : Nat} (h : o.data = .dict es n) : NoTab o := fun _ _ _ e => by rw [h] at e; cases e
theorem noTab_int {o : Obj} {ws : Array Value} {k : Int} {u : Tok} (h : o.data = .fields ws) (h1 : ws[1]? = some (.int k u)) : NoTab o := fun vs q t e e' => by
  rw [h] at e; cases e
  rw [h1] at e'; cases e'
theorem tab_off {h₀ h : Heap} {L a P : Addr} {X T : List (Addr × Obj)} {o : Obj} {i j : Value} {qual : Str} (N : News h₀ L h X) (hT : Tab P i j qual T) (hs : ∀ e ∈ T, e ∈ X) (hm : (a, o) ∈ X) (hn : NoTab o) (hP : @Ne Nat P a) : OwnOff T [a] := by
  intro q hq c hc
  rw [List.mem_singleton.mp hc]
  cases hT with
  | none => rw [List.mem_singleton.mp hq]; exact hP
  | some h1 h2 h3 =>
    simp only [List.mem_cons, List.not_mem_nil, or_false] at hq
    rcases hq with rfl | rfl
    · exact hP
    · intro e
      have e1 := (N _ (hs _ (.tail _ (.head _)))).1
      have e2 := (N _ hm).1
      rw [show ((_, _) : Addr × Obj).1 = a from e] at e1
      have e3 := Option.some.inj (e1.symm.trans e2)
      dsimp only at e3
      exact hn _ _ _ (by rw [← e3]; exact h2) h3
section
variable {g₀ : Heap}
/-- a for of any target over any source; the ledger may grow and shrink; fpo: what the source leans on -/
theorem loopG {prog : Program} {w : World} {A : Around} {s : Shared} {env : Env} {R : Result → Shared → Prop} {tg : Expr} {body : List Stmt} {I : Addr} {n : Nat} {P : Nat → Value → Prop} {St : Nat → Heap → Prop} {m₀ : Str → Option Value} {news fpo : List (Addr × Obj)}
    (J : Nat → (Str → Option Value) → List (Addr × Obj) → Prop) (Q : Flow → Shared → Prop) (E : Value → Shared → Prop)
    (W : Walks prog w A I (I :: fpo.map (·.1)) [I] n P St) (hIo : ∀ i h, St i h → ∃ o, h.get? I = some o ∧ NoTab o)
    (hJf : ∀ i m nx, J i m nx → ∀ q ∈ fpo, q ∈ nx)
    (hLI : env.locals ≠ I) (hgI : g₀.get? I = none) (hnI : ∀ q ∈ news, @Ne Nat q.1 I)
    (hst : St 0 s.heap) (F₀ : Fr g₀ env.locals s.heap m₀) (N₀ : News g₀ env.locals s.heap news) (hj : J 0 m₀ news)
    (hE : ∀ e s', E e s' → notedBy (model prog w) A env (fun e s' => R (.error e) s') e s')
    (hQ : ∀ f s', Q f s' → R (.ok f) s')
    (turn : ∀ i v m₁ news₁ h tk oI, NoTab oI → i < n → P i v → (∀ q ∈ news₁, @Ne Nat q.1 I) → J i m₁ news₁ →
      Fr g₀ env.locals h m₁ → News g₀ env.locals h ((I, oI) :: news₁) →
      wpAny (model prog w) A (assign tg env v) (fun _ s₂ => wpAny (model prog w) A (execs body env) (PostY g₀ env.locals (J (i + 1)) I oI Q s) E s₂) E { s with heap := h, toks := tk })
    (done : ∀ m₁ news₁ h tk, J n m₁ news₁ → Fr g₀ env.locals h m₁ → News g₀ env.locals h news₁ → Q .next { s with heap := h, toks := tk })
    (ht : ∀ v, letOwnedTupleGo tg (.ref I) v = pure () := by intro _; rfl) :
    codeAny (model prog w) A (.forLoop tg (.ref I) body [] env) R s := by
  refine codeAny_forLoop
    (fun k s' => ∃ h' tk m' news' i, s' = { s with heap := h', toks := tk } ∧ St i h' ∧ Fr g₀ env.locals h' m' ∧ News g₀ env.locals h' news' ∧ (∀ q ∈ news', @Ne Nat q.1 I) ∧ J i m' news' ∧ i ≤ n ∧ k = n + 1 - i) ?_ (n + 1)
    ⟨s.heap, s.toks, m₀, news, 0, rfl, hst, F₀, N₀, hnI, hj, Nat.zero_le _, rfl⟩ ht
  rintro k s' ⟨h', tk, m', news', i, rfl, hst', F', N', nI, hJ, hi, rfl⟩
  have nextF : ∀ h₁ : Heap, (∀ b o, b ∉ [I] → h'.get? b = some o → h₁.get? b = some o) → Fr g₀ env.locals h₁ m' := fun h₁ hk₁ =>
    ⟨F'.ns.at' fun o e => hk₁ _ o (by simpa using hLI) e, fun b o e => hk₁ b o (fun hb => by rw [List.mem_singleton.mp hb, hgI] at e; cases e) (F'.keep b o e), F'.above⟩
  have nextN : ∀ h₁ : Heap, (∀ b o, b ∉ [I] → h'.get? b = some o → h₁.get? b = some o) → News g₀ env.locals h₁ news' := fun h₁ hk₁ =>
    fun q hq => ⟨hk₁ _ _ (by simpa using nI q hq) (N' q hq).1, (N' q hq).2⟩
  by_cases hlt : i < n
  · refine W.item i _ _ _ hlt hst' fun v h₁ tk₁ hP hst₁ hk₁ => ?_
    have F₁ := nextF h₁ hk₁
    have N₁ := nextN h₁ hk₁
    obtain ⟨oI, hoI, hoT⟩ := hIo _ _ hst₁
    have N₃ : News g₀ env.locals h₁ ((I, oI) :: news') := fun q hq => by
      rcases List.mem_cons.mp hq with rfl | hq
      · exact ⟨hoI, hLI.symm, hgI⟩
      · exact N₁ q hq
    refine wpAny_mono (turn i v m' news' h₁ _ oI hoT hlt hP nI hJ F₁ N₃) (fun _ s₂ h₂ => wpAny_mono h₂ (fun f s₃ h₃ => ?_) fun e s' h' => hE e s' h') fun e s' h' => hE e s' h'
    have fin : EndY g₀ env.locals (J (i + 1)) I oI s s₃ → ∃ m, m < n + 1 - i ∧ ∃ h' tk m' news' i', s₃ = { s with heap := h', toks := tk } ∧ St i' h' ∧ Fr g₀ env.locals h' m' ∧ News g₀ env.locals h' news' ∧ (∀ q ∈ news', @Ne Nat q.1 I) ∧ J i' m' news' ∧ i' ≤ n ∧ m = n + 1 - i' := by
      rintro ⟨h₃', tk₃, m₃, news₃, nx, rfl, F₃, N₄, hsub, hI, hne, hJ₃⟩
      refine ⟨n + 1 - (i + 1), by omega, h₃', tk₃, m₃, nx, i + 1, rfl, ?_, F₃, fun q hq => N₄ q (hsub q hq), hne, hJ₃, hlt, rfl⟩
      exact W.frame _ _ _ hst₁ fun b hb o e => by
        rcases List.mem_cons.mp hb with rfl | hb
        · rw [hoI] at e; cases e
          exact (N₄ _ hI).1
        · obtain ⟨q, hq, rfl⟩ := List.mem_map.mp hb
          have h1 := (N₁ q (hJf _ _ _ hJ q hq)).1
          rw [h1] at e; cases e
          exact (N₄ q (hsub q (hJf _ _ _ hJ₃ q hq))).1
    cases f with
    | ret v => exact hQ _ _ h₃
    | brk => exact hQ _ _ h₃
    | next => exact fin h₃
    | cont => exact fin h₃
  · have hin : i = n := by omega
    subst hin
    refine W.done _ _ _ hst' fun h₁ tk₁ hk₁ => wpAny_execs_nil ?_
    exact hQ _ _ (done m' news' h₁ tk₁ hJ (nextF h₁ hk₁) (nextN h₁ hk₁))

theorem iterG_range {prog : Program} {w : World} {A : Around} {s : Shared} {env : Env} {tg : Expr} {body : List Stmt} {r : Addr} {a₀ b₀ c₀ : Int} {t₀ u₀ v₀ : Tok} {n : Nat} {m₀ : Str → Option Value} {news : List (Addr × Obj)} {Q : Flow → Shared → Prop} {E : Value → Shared → Prop}
    (J : Nat → (Str → Option Value) → List (Addr × Obj) → Prop)
    (hh : A.handled = none) (hr : IsRange s.heap r a₀ b₀ c₀ t₀ u₀ v₀) (hsmall : Builtin.Range.small a₀ b₀ c₀ = true) (hn : Builtin.Range.rangeSize a₀ b₀ c₀ = (n : Int))
    (F₀ : Fr g₀ env.locals s.heap m₀) (N₀ : News g₀ env.locals s.heap news) (hj : J 0 m₀ news)
    (hE : PassesOwn (model prog w) A env E)
    (turn : ∀ I i t m₁ news₁ h tk oI, NoTab oI → i < n → (∀ q ∈ news₁, @Ne Nat q.1 I) → J i m₁ news₁ →
      Fr g₀ env.locals h m₁ → News g₀ env.locals h ((I, oI) :: news₁) →
      wpAny (model prog w) A (assign tg env (.int (a₀ + (i : Nat) * c₀) t)) (fun _ s₂ => wpAny (model prog w) A (execs body env) (PostY g₀ env.locals (J (i + 1)) I oI Q s) E s₂) E { s with heap := h, toks := tk })
    (done : ∀ m₁ news₁ h tk, J n m₁ news₁ → Fr g₀ env.locals h m₁ → News g₀ env.locals h news₁ → Q .next { s with heap := h, toks := tk })
    (ht : ∀ I v, letOwnedTupleGo tg (.ref I) v = pure () := by intro _ _; rfl) :
    wpAny (model prog w) A (pyIter (.ref r)) (fun it s₂ => codeAny (model prog w) A (.forLoop tg it body [] env) (fun r s' => match r with | .ok f => Q f s' | .error e => cameBackBy (model prog w) A env E e s') s₂) E s := by
  refine wpAny_pyIter_range hr hsmall ?_
  have W : Walks prog w A s.heap.objs.size [s.heap.objs.size] [s.heap.objs.size] n (fun i v => i < n ∧ ∃ t, v = .int (a₀ + i * c₀) t)
      (fun i h => IsRangeIter h s.heap.objs.size (a₀ + (i : Nat) * c₀) ((n : Int) - (i : Nat)) c₀) := (Walks.range hh _ a₀ c₀ n).bound
  have gN : g₀.get? s.heap.objs.size = none := by
    cases q : g₀.get? s.heap.objs.size with
    | none => rfl
    | some o => exact absurd (Heap.lt_size (F₀.keep _ _ q)) (Nat.lt_irrefl _)
  refine loopG (s := { s with heap := s.heap.push _ }) (fpo := []) J Q E W (fun i h hi => ?_) (fun _ _ _ _ q hq => (nomatch hq)) (Nat.ne_of_lt F₀.ns.lt) gN (fun q hq => Nat.ne_of_lt (Heap.lt_size (N₀ q hq).1)) ?_ (F₀.push _) (fun q hq => ⟨Heap.get?_push_of_some _ (N₀ q hq).1, (N₀ q hq).2⟩) hj (fun e s' h => hE e s' h) (fun f s' h => h) ?_ ?_ (ht _)
  · exact ⟨_, hi, noTab_int rfl rfl⟩
  · show IsRangeIter _ _ _ _ _
    rw [hn]; simpa using Heap.get?_push_size _ rfl
  · rintro i v m₁ news₁ h tk oI hoT hi ⟨_, t, rfl⟩ ho hJ F N
    exact turn _ i t m₁ news₁ h tk oI hoT hi ho hJ F N
  · intro m₁ news₁ h tk hJ F N
    exact done m₁ news₁ h tk hJ F N

theorem iterG_list {prog : Program} {w : World} {A : Around} {s : Shared} {env : Env} {tg : Expr} {body : List Stmt} {r : Addr} {vs : List Value} {jv : Nat} {m₀ : Str → Option Value} {news : List (Addr × Obj)} {Q : Flow → Shared → Prop} {E : Value → Shared → Prop}
    (J : Nat → (Str → Option Value) → List (Addr × Obj) → Prop)
    (hh : A.handled = none) (hJf : ∀ i m nx, J i m nx → (r, listOf vs.toArray jv) ∈ nx)
    (F₀ : Fr g₀ env.locals s.heap m₀) (N₀ : News g₀ env.locals s.heap news) (hj : J 0 m₀ news)
    (hE : PassesOwn (model prog w) A env E)
    (turn : ∀ I i v m₁ news₁ h tk oI, NoTab oI → i < vs.length → vs[i]? = some v → (∀ q ∈ news₁, @Ne Nat q.1 I) → J i m₁ news₁ →
      Fr g₀ env.locals h m₁ → News g₀ env.locals h ((I, oI) :: news₁) →
      wpAny (model prog w) A (assign tg env v) (fun _ s₂ => wpAny (model prog w) A (execs body env) (PostY g₀ env.locals (J (i + 1)) I oI Q s) E s₂) E { s with heap := h, toks := tk })
    (done : ∀ m₁ news₁ h tk, J vs.length m₁ news₁ → Fr g₀ env.locals h m₁ → News g₀ env.locals h news₁ → Q .next { s with heap := h, toks := tk })
    (ht : ∀ I v, letOwnedTupleGo tg (.ref I) v = pure () := by intro _ _; rfl) :
    wpAny (model prog w) A (pyIter (.ref r)) (fun it s₂ => codeAny (model prog w) A (.forLoop tg it body [] env) (fun r s' => match r with | .ok f => Q f s' | .error e => cameBackBy (model prog w) A env E e s') s₂) E s := by
  have hmr := hJf _ _ _ hj
  have hl : s.heap.IsList r vs.toArray := ⟨_, (N₀ _ hmr).1, rfl, _, rfl⟩
  refine wpAny_pyIter_list hl ?_
  have hne : r ≠ s.heap.objs.size := Nat.ne_of_lt (Heap.lt_size (N₀ _ hmr).1)
  have W := Walks.list (prog := prog) (w := w) hh s.heap.objs.size r hne vs.toArray
  have gN : g₀.get? s.heap.objs.size = none := by
    cases q : g₀.get? s.heap.objs.size with
    | none => rfl
    | some o => exact absurd (Heap.lt_size (F₀.keep _ _ q)) (Nat.lt_irrefl _)
  refine loopG (s := { s with heap := s.heap.push _ }) (fpo := [(r, listOf vs.toArray jv)]) J Q E W (fun i h hi => ?_) (fun i m nx hJ q hq => by rw [List.mem_singleton.mp hq]; exact hJf i m nx hJ) (Nat.ne_of_lt F₀.ns.lt) gN (fun q hq => Nat.ne_of_lt (Heap.lt_size (N₀ q hq).1)) ?_ (F₀.push _) (fun q hq => ⟨Heap.get?_push_of_some _ (N₀ q hq).1, (N₀ q hq).2⟩) hj (fun e s' h => hE e s' h) (fun f s' h => h) ?_ ?_ (ht _)
  · obtain ⟨o, ho, _, hd⟩ := hi.1
    exact ⟨o, ho, noTab_int hd rfl⟩
  · exact ⟨⟨_, Heap.get?_push_size _ rfl, rfl, rfl⟩, hl.at fun o e => Heap.get?_push_of_some _ e⟩
  · rintro i v m₁ news₁ h tk oI hoT hi hv ho hJ F N
    exact turn _ i v m₁ news₁ h tk oI hoT (by simpa using hi) (by simpa using hv) ho hJ F N
  · intro m₁ news₁ h tk hJ F N
    exact done m₁ news₁ h tk (by simpa using hJ) F N
end
end Mine
end
section
open PySem PySem.W PyProof.Rows PySem.Calls PySem.Spec
set_option Elab.async false
namespace Mine
/-- the end of a comprehension's turn: what is kept, and that the word holds of the new ledger -/
def CEnd (h₀ : Heap) (L : Addr) (m : Str → Option Value) (s₁ : Shared) (I : Addr) (oI : Obj) (C : Addr) (oC : Obj) (D : Addr) (oD : Obj) (S : List (Addr × Obj) → Prop) (J : Value → List (Addr × Obj) → Prop) (y : Value) (s₂ : Shared) : Prop :=
  ∃ h' tk news' all, s₂ = { s₁ with heap := h', toks := tk } ∧ Fr h₀ L h' m ∧ News h₀ L h' all ∧ (∀ p ∈ (I, oI) :: (C, oC) :: (D, oD) :: news', p ∈ all) ∧ LCg.Off3 I C D news' ∧ S news' ∧ J y news'
theorem CEnd.intro {h₀ : Heap} {L I C D : Addr} {m : Str → Option Value} {s₁ : Shared} {oI oC oD : Obj} {S : List (Addr × Obj) → Prop} {J : Value → List (Addr × Obj) → Prop} {y : Value} {h' : Heap} {tk : Nat} {all news' : List (Addr × Obj)}
    (F : Fr h₀ L h' m) (N : News h₀ L h' all) (sub : ∀ p ∈ (I, oI) :: (C, oC) :: (D, oD) :: news', p ∈ all) (off : LCg.Off3 I C D news') (hS : S news') (j : J y news') :
    CEnd h₀ L m s₁ I oI C oC D oD S J y { s₁ with heap := h', toks := tk } := ⟨h', tk, news', all, rfl, F, N, sub, off, hS, j⟩
theorem CEnd.comp {h₀ : Heap} {L I C D : Addr} {m : Str → Option Value} {s₁ s₂ : Shared} {oI oC oD : Obj} {S : List (Addr × Obj) → Prop} {J J' : Value → List (Addr × Obj) → Prop} {y : Value}
    (h : CEnd h₀ L m s₁ I oI C oC D oD S J y s₂) (hj : ∀ nw, J y nw → J' y nw) : LCg.CompEnd h₀ L m s₁ I oI C oC D oD S J' y s₂ := by
  obtain ⟨h', tk, news', all, rfl, F, N, sub, off, hS, j⟩ := h
  exact ⟨h', tk, news', rfl, F, fun p hp => N p (sub p hp), off, hS, hj _ j⟩
section
variable {prog : Program} {w : World} {A : Around} {s : Shared} {h₀ : Heap} {L : Addr} {m : Str → Option Value} {env : Env} {ct elt : Expr} {x : Str} {scope : Scope} {cl : List (Str × Addr)} {S : List (Addr × Obj) → Prop} {P : Nat → Value → Prop} {Fin : List Value → List (Addr × Obj) → Prop} {n : Nat} {news : List (Addr × Obj)}
/-- a comprehension without a test, by a word over what it has made -/
theorem restU (J : Nat → List Value → List (Addr × Obj) → Prop) (h0 : J 0 [] news) (fin : ∀ ys nw, J n ys nw → Fin ys nw)
    (turn : ∀ i v ys nw I oI C oC D m₂ h tk (E' : Value → Shared → Prop), i < n → P i v → J i ys nw → LCg.NsObj oC m₂ → m₂ x = some v → Fr h₀ L h m → News h₀ L h ((I, oI) :: (C, oC) :: (D, LCg.lst ys) :: nw) → LCg.Off3 I C D nw → ((@Ne Nat I C) ∧ (@Ne Nat I D) ∧ (@Ne Nat C D)) →
      wpAny (model prog w) A (eval elt (compEnvC scope cl C env)) (CEnd h₀ L m { s with heap := h, toks := tk } I oI C oC D (LCg.lst ys) S (fun y nw' => J (i + 1) (ys ++ [y]) nw')) E' { s with heap := h, toks := tk }) :
    LCg.CompRest prog w A h₀ L m env elt x scope cl s S P Fin n 0 [] news := by
  have key : ∀ k i ys nw, i + k = n → J i ys nw → LCg.CompRest prog w A h₀ L m env elt x scope cl s S P Fin k i ys nw := by
    intro k
    induction k with
    | zero => intro i ys nw e hJ; rw [show i = n by omega] at hJ; exact fin ys nw hJ
    | succ k ih =>
      intro i ys nw e hJ
      refine LCg.CompRest.succ fun v I oI C oC D m₂ h tk E' hP hC hx F N off ne => ?_
      exact wpAny_mono (turn i v ys nw I oI C oC D m₂ h tk E' (by omega) hP hJ hC hx F N off ne) (fun y s₂ h₂ => h₂.comp fun nw' hj => ih (i + 1) _ nw' (by omega) hj) fun _ _ e => e
  exact key n 0 [] news (by omega) h0
/-- a comprehension with one test -/
theorem restT (J : Nat → List Value → List (Addr × Obj) → Prop) (h0 : J 0 [] news) (fin : ∀ ys nw, J n ys nw → Fin ys nw)
    (turn : ∀ i v ys nw I oI C oC D m₂ h tk (E' : Value → Shared → Prop), i < n → P i v → J i ys nw → LCg.NsObj oC m₂ → m₂ x = some v → Fr h₀ L h m → News h₀ L h ((I, oI) :: (C, oC) :: (D, LCg.lst ys) :: nw) → LCg.Off3 I C D nw → ((@Ne Nat I C) ∧ (@Ne Nat I D) ∧ (@Ne Nat C D)) →
      wpAny (model prog w) A (isTrue ct (compEnvC scope cl C env) (eval ct (compEnvC scope cl C env))) (fun ok s' => if ok = true then
        wpAny (model prog w) A (eval elt (compEnvC scope cl C env)) (CEnd h₀ L m { s with heap := h, toks := tk } I oI C oC D (LCg.lst ys) S (fun y nw' => J (i + 1) (ys ++ [y]) nw')) E' s'
        else CEnd h₀ L m { s with heap := h, toks := tk } I oI C oC D (LCg.lst ys) S (fun _ nw' => J (i + 1) ys nw') Value.none s') E' { s with heap := h, toks := tk }) :
    LCt.CompRestT prog w A h₀ L m env ct elt x scope cl s S P Fin n 0 [] news := by
  have key : ∀ k i ys nw, i + k = n → J i ys nw → LCt.CompRestT prog w A h₀ L m env ct elt x scope cl s S P Fin k i ys nw := by
    intro k
    induction k with
    | zero => intro i ys nw e hJ; rw [show i = n by omega] at hJ; exact fin ys nw hJ
    | succ k ih =>
      intro i ys nw e hJ
      refine LCt.CompRestT.succ fun v I oI C oC D m₂ h tk E' hP hC hx F N off ne => ?_
      refine wpAny_mono (turn i v ys nw I oI C oC D m₂ h tk E' (by omega) hP hJ hC hx F N off ne) (fun ok s₂ h₂ => ?_) fun _ _ e => e
      cases ok with
      | true =>
        simp only [if_true] at h₂ ⊢
        exact wpAny_mono h₂ (fun y s₃ h₃ => h₃.comp fun nw' hj => ih (i + 1) _ nw' (by omega) hj) fun _ _ e => e
      | false =>
        simp only [Bool.false_eq_true, if_false] at h₂ ⊢
        exact h₂.comp fun nw' hj => ih (i + 1) _ nw' (by omega) hj
  exact key n 0 [] news (by omega) h0
/-- the same, the ledger's rest unchanged -/
def CEnd1 (h₀ : Heap) (L : Addr) (m : Str → Option Value) (s₁ : Shared) (I : Addr) (oI : Obj) (C : Addr) (oC : Obj) (D : Addr) (oD : Obj) (news : List (Addr × Obj)) (J : Value → Prop) (y : Value) (s₂ : Shared) : Prop :=
  ∃ h' tk all, s₂ = { s₁ with heap := h', toks := tk } ∧ Fr h₀ L h' m ∧ News h₀ L h' all ∧ (∀ p ∈ (I, oI) :: (C, oC) :: (D, oD) :: news, p ∈ all) ∧ J y
theorem CEnd1.intro {h₀ : Heap} {L I C D : Addr} {m : Str → Option Value} {s₁ : Shared} {oI oC oD : Obj} {J : Value → Prop} {y : Value} {h' : Heap} {tk : Nat} {all news : List (Addr × Obj)}
    (F : Fr h₀ L h' m) (N : News h₀ L h' all) (sub : ∀ p ∈ (I, oI) :: (C, oC) :: (D, oD) :: news, p ∈ all) (j : J y) :
    CEnd1 h₀ L m s₁ I oI C oC D oD news J y { s₁ with heap := h', toks := tk } := ⟨h', tk, all, rfl, F, N, sub, j⟩
theorem CEnd1.to {h₀ : Heap} {L I C D : Addr} {m : Str → Option Value} {s₁ s₂ : Shared} {oI oC oD : Obj} {S : List (Addr × Obj) → Prop} {J : Value → Prop} {y : Value} {news : List (Addr × Obj)}
    (h : CEnd1 h₀ L m s₁ I oI C oC D oD news J y s₂) (off : LCg.Off3 I C D news) (hS : S news) : CEnd h₀ L m s₁ I oI C oC D oD S (fun y nw => nw = news ∧ J y) y s₂ := by
  obtain ⟨h', tk, all, rfl, F, N, sub, j⟩ := h
  exact ⟨h', tk, news, all, rfl, F, N, sub, off, hS, rfl, j⟩
theorem restU1 (J : Nat → List Value → Prop) (hS : S news) (h0 : J 0 []) (fin : ∀ ys, J n ys → Fin ys news)
    (turn : ∀ i v ys I oI C oC D m₂ h tk (E' : Value → Shared → Prop), i < n → P i v → J i ys → LCg.NsObj oC m₂ → m₂ x = some v → Fr h₀ L h m → News h₀ L h ((I, oI) :: (C, oC) :: (D, LCg.lst ys) :: news) → LCg.Off3 I C D news → ((@Ne Nat I C) ∧ (@Ne Nat I D) ∧ (@Ne Nat C D)) →
      wpAny (model prog w) A (eval elt (compEnvC scope cl C env)) (CEnd1 h₀ L m { s with heap := h, toks := tk } I oI C oC D (LCg.lst ys) news (fun y => J (i + 1) (ys ++ [y]))) E' { s with heap := h, toks := tk }) :
    LCg.CompRest prog w A h₀ L m env elt x scope cl s S P Fin n 0 [] news := by
  refine restU (fun i ys nw => nw = news ∧ J i ys) ⟨rfl, h0⟩ (fun ys nw ⟨e, hJ⟩ => e ▸ fin ys hJ) ?_
  rintro i v ys nw I oI C oC D m₂ h tk E' hi hP ⟨rfl, hJ⟩ hC hx F N off ne
  exact wpAny_mono (turn i v ys I oI C oC D m₂ h tk E' hi hP hJ hC hx F N off ne) (fun y s₂ h₂ => h₂.to off hS) fun _ _ e => e
theorem restT1 (J : Nat → List Value → Prop) (hS : S news) (h0 : J 0 []) (fin : ∀ ys, J n ys → Fin ys news)
    (turn : ∀ i v ys I oI C oC D m₂ h tk (E' : Value → Shared → Prop), i < n → P i v → J i ys → LCg.NsObj oC m₂ → m₂ x = some v → Fr h₀ L h m → News h₀ L h ((I, oI) :: (C, oC) :: (D, LCg.lst ys) :: news) → LCg.Off3 I C D news → ((@Ne Nat I C) ∧ (@Ne Nat I D) ∧ (@Ne Nat C D)) →
      wpAny (model prog w) A (isTrue ct (compEnvC scope cl C env) (eval ct (compEnvC scope cl C env))) (fun ok s' => if ok = true then
        wpAny (model prog w) A (eval elt (compEnvC scope cl C env)) (CEnd1 h₀ L m { s with heap := h, toks := tk } I oI C oC D (LCg.lst ys) news (fun y => J (i + 1) (ys ++ [y]))) E' s'
        else CEnd1 h₀ L m { s with heap := h, toks := tk } I oI C oC D (LCg.lst ys) news (fun _ => J (i + 1) ys) Value.none s') E' { s with heap := h, toks := tk }) :
    LCt.CompRestT prog w A h₀ L m env ct elt x scope cl s S P Fin n 0 [] news := by
  refine restT (fun i ys nw => nw = news ∧ J i ys) ⟨rfl, h0⟩ (fun ys nw ⟨e, hJ⟩ => e ▸ fin ys hJ) ?_
  rintro i v ys nw I oI C oC D m₂ h tk E' hi hP ⟨rfl, hJ⟩ hC hx F N off ne
  refine wpAny_mono (turn i v ys I oI C oC D m₂ h tk E' hi hP hJ hC hx F N off ne) (fun ok s₂ h₂ => ?_) fun _ _ e => e
  cases ok with
  | true =>
    simp only [if_true] at h₂ ⊢
    exact wpAny_mono h₂ (fun y s₃ h₃ => h₃.to off hS) fun _ _ e => e
  | false =>
    simp only [Bool.false_eq_true, if_false] at h₂ ⊢
    exact h₂.to off hS
end
theorem off1_of {D : Addr} : ∀ {R : List (Addr × Obj)}, LCg.Off1 D R → OwnOff R [D]
  | [], _ => fun _ h => nomatch h
  | q :: R, h => fun p hp a ha => by
    rcases List.mem_cons.mp hp with rfl | hp
    · rw [List.mem_singleton.mp ha]; exact h.1
    · exact off1_of h.2 p hp a ha
theorem ints_at {vs : List Value} {ks : List Int} (h : IntsAre vs ks) : ∀ {i : Nat} {v : Value}, vs.toArray[i]? = some v → ∃ k t, v = .int k t ∧ ks[i]? = some k ∧ ks.take (i + 1) = ks.take i ++ [k] := by
  induction h with
  | nil => intro i v hv; simp at hv
  | cons k t _ ih =>
    intro i v hv
    cases i with
    | zero => simp at hv; subst hv; exact ⟨k, t, rfl, rfl, by simp⟩
    | succ i =>
      obtain ⟨k', t', e1, e2, e3⟩ := ih (i := i) (v := v) (by simpa using hv)
      exact ⟨k', t', e1, by simpa using e2, by simp [e3]⟩
theorem bytes_at {vs : List Value} {ks : List (Array UInt8)} (h : BytesAre vs ks) : ∀ {i : Nat} {v : Value}, vs.toArray[i]? = some v → ∃ k t, v = .bytes k t ∧ ks[i]? = some k ∧ ks.take (i + 1) = ks.take i ++ [k] := by
  induction h with
  | nil => intro i v hv; simp at hv
  | cons k t _ ih =>
    intro i v hv
    cases i with
    | zero => simp at hv; subst hv; exact ⟨k, t, rfl, rfl, by simp⟩
    | succ i =>
      obtain ⟨k', t', e1, e2, e3⟩ := ih (i := i) (v := v) (by simpa using hv)
      exact ⟨k', t', e1, by simpa using e2, by simp [e3]⟩
theorem filt_yes {p : Int → Bool} {ks : List Int} {i : Nat} {k : Int} {ys : List Value} {t : Tok} (h : IntsAre ys ((ks.take i).filter p)) (e : ks.take (i + 1) = ks.take i ++ [k]) (hp : p k = true) : IntsAre (ys ++ [.int k t]) ((ks.take (i + 1)).filter p) := by
  rw [e, List.filter_append, List.filter_cons_of_pos hp, List.filter_nil]; exact ints_snoc h _ _
theorem filt_no {p : Int → Bool} {ks : List Int} {i : Nat} {k : Int} {ys : List Value} (h : IntsAre ys ((ks.take i).filter p)) (e : ks.take (i + 1) = ks.take i ++ [k]) (hp : p k = false) : IntsAre ys ((ks.take (i + 1)).filter p) := by
  rw [e, List.filter_append, List.filter_cons_of_neg (by simp [hp]), List.filter_nil, List.append_nil]; exact h
section
variable {prog : Program} {w : World} {A : Around} {E : Value → Shared → Prop} {s : Shared} {h₀ : Heap} {L D : Addr} {m : Str → Option Value} {news : List (Addr × Obj)} {upd : Obj → List (Addr × Obj)} {n : Nat} {x y v : Value} {t : Tok} {Q : Unit → Shared → Prop}
theorem set_two0 (F : Fr h₀ L s.heap m) (N : News h₀ L s.heap news) (U : UpdF D (listOf #[x, y] n) news upd)
    (h : ∀ h', Fr h₀ L h' m → News h₀ L h' (upd (listOf #[v, y] n)) → Q () { s with heap := h' }) : wpAny (model prog w) A (setItem (.ref D) (.int 0 t) v) Q E s := by
  obtain ⟨pre, post, rfl, hu, a, b⟩ := U.split
  have z := N (D, listOf #[x, y] n) (List.mem_append.mpr (.inr (.head _)))
  exact ki_setAt z.1 (by decide) (by decide) (by show (0 : Int) < ((2 : Nat) : Int); decide) (h _ (F.change (Heap.SameBut.update ..) z.2.1 z.2.2) (by rw [hu]; exact ki_turn _ N a b rfl rfl))
theorem set_two1 (F : Fr h₀ L s.heap m) (N : News h₀ L s.heap news) (U : UpdF D (listOf #[x, y] n) news upd)
    (h : ∀ h', Fr h₀ L h' m → News h₀ L h' (upd (listOf #[x, v] n)) → Q () { s with heap := h' }) : wpAny (model prog w) A (setItem (.ref D) (.int 1 t) v) Q E s := by
  obtain ⟨pre, post, rfl, hu, a, b⟩ := U.split
  have z := N (D, listOf #[x, y] n) (List.mem_append.mpr (.inr (.head _)))
  exact ki_setAt z.1 (by decide) (by decide) (by show (1 : Int) < ((2 : Nat) : Int); decide) (h _ (F.change (Heap.SameBut.update ..) z.2.1 z.2.2) (by rw [hu]; exact ki_turn _ N a b rfl rfl))
end
/-- the table's codes ahead, the rest behind -/
theorem mid_T {h₀ h : Heap} {L : Addr} {pre R' T R : List (Addr × Obj)} (N : News h₀ L h (pre ++ R')) (hR : R' = T ++ R) : News h₀ L h (T ++ (pre ++ R)) := news_sub N fun q hq => by
  subst hR
  simp only [List.mem_append] at hq ⊢
  rcases hq with h | h | h <;> simp [h]
theorem off_app {R R' : List (Addr × Obj)} {as : List Addr} (h : OwnOff R as) (h' : OwnOff R' as) : OwnOff (R ++ R') as := fun q hq => (List.mem_append.mp hq).elim (h q) (h' q)
theorem off_sub {R : List (Addr × Obj)} {as bs : List Addr} (h : OwnOff R as) (hs : ∀ b ∈ bs, b ∈ as) : OwnOff R bs := fun q hq b hb => h q hq b (hs b hb)
theorem news_tail {h₀ h : Heap} {L : Addr} {a : Addr × Obj} {l : List (Addr × Obj)} (N : News h₀ L h (a :: l)) : News h₀ L h l := fun p hp => N p (List.mem_cons_of_mem _ hp)
theorem mid_back {h₀ h : Heap} {L : Addr} {a b c : Addr × Obj} {pre R' T R : List (Addr × Obj)} (N : News h₀ L h (a :: b :: c :: (T ++ (pre ++ R)))) (hR : R' = T ++ R) : News h₀ L h (a :: b :: c :: (pre ++ R')) := news_sub N fun q hq => by
  subst hR
  simp only [List.mem_cons, List.mem_append] at hq ⊢
  rcases hq with h | h | h | h | h | h <;> simp [h]
def NoFld (o : Obj) : Prop := ∀ vs, o.data ≠ .fields vs
theorem noFld_seq {o : Obj} {vs : Array Value} {n : Nat} (h : o.data = .seq vs n) : NoFld o := fun _ e => by rw [h] at e; cases e
theorem noFld_cell {o : Obj} {v : Option Value} (h : o.data = .cell v) : NoFld o := fun _ e => by rw [h] at e; cases e
theorem noFld_dict {o : Obj} {es : Array DictEntry} {n : Nat} (h : o.data = .dict es n) : NoFld o := fun _ e => by rw [h] at e; cases e
theorem neP {h₀ h : Heap} {L a P : Addr} {X : List (Addr × Obj)} {o : Obj} {ps : Array Value} (N : News h₀ L h X) (hp : (P, tabObj ps) ∈ X) (hm : (a, o) ∈ X) (hd : NoFld o) : @Ne Nat a P := fun e => by
  have e1 := (N _ hp).1
  have e2 := (N _ hm).1
  dsimp only at e1 e2
  rw [e] at e2
  exact hd _ (by rw [Option.some.inj (e2.symm.trans e1)])
theorem tab_offK {h₀ h : Heap} {L a P : Addr} {X T : List (Addr × Obj)} {o : Obj} {i j : Value} {qual : Str} (N : News h₀ L h X) (hT : Tab P i j qual T) (hs : ∀ e ∈ T, e ∈ X) (hm : (a, o) ∈ X) (hn : NoFld o) : OwnOff T [a] := by
  obtain ⟨ps, hp⟩ := hT.mem
  exact tab_off N hT hs hm (fun vs q t e => absurd e (hn vs)) (neP N (hs _ hp) hm hn).symm
section
variable {prog : Program} {w : World} {A : Around} {E : Value → Shared → Prop} {s : Shared} {h₀ : Heap} {L D b : Addr} {m : Str → Option Value} {news : List (Addr × Obj)} {upd : Obj → List (Addr × Obj)} {n n2 : Nat} {vs ws : List Value} {Q : Value → Shared → Prop}
theorem extend_list (F : Fr h₀ L s.heap m) (N : News h₀ L s.heap news) (hb : (b, listOf ws.toArray n2) ∈ news) (U : UpdF D (listOf vs.toArray n) news upd) (hz : vs.length + ws.length ≤ 1000000)
    (h : ∀ h' n', Fr h₀ L h' m → News h₀ L h' (upd (listOf (vs ++ ws).toArray n')) → Q .none { s with heap := h' }) : wpAny (model prog w) A (call (.builtin "list.extend") [.ref D, .ref b]) Q E s := by
  obtain ⟨pre, post, rfl, hu, a, c⟩ := U.split
  have z := N (D, listOf vs.toArray n) (List.mem_append.mpr (.inr (.head _)))
  have hl : Builtin.List.listTooLong (vs.toArray.size + ws.toArray.size) = false := by
    unfold Builtin.List.listTooLong
    simp only [List.size_toArray]
    have := sizeLine_eq
    simp; omega
  refine call_meets PySem.F.slot_list_extend ⟨_, z.1, rfl⟩ PySem.F.entry_list_extend (PySem.F.args_list_extend_2 _ _) (PySem.AutoSeq1.list_extend_list_list_0 D vs.toArray n b ws.toArray n2 (by rw [hl]; simp) (by rw [sizeLine_eq, List.size_toArray]; omega) (by rw [sizeLine_eq, List.size_toArray, List.size_toArray]; omega)) ⟨z.1, (N _ hb).1, h _ _ (F.change (Heap.SameBut.update ..) z.2.1 z.2.2) (by rw [hu]; exact ki_turn _ N a c (by simp) rfl)⟩
end
end Mine
end
section
open PySem PySem.W PyProof.Rows PySem.Calls PySem.Spec PySem.Builtin
set_option Elab.async false
set_option maxRecDepth 100000
namespace Mine
def latin (b : Array UInt8) : Str := ⟨b.map UInt8.toNat⟩
def latP (b : Array UInt8) (p : Nat) : Array Nat := ((b.toList.take p).map UInt8.toNat).toArray
theorem latP_size (b : Array UInt8) (p : Nat) : (latP b p).size = min p b.size := by simp [latP]
theorem latP_next {b : Array UInt8} {p : Nat} (h : p < b.size) : latP b p ++ [(b.getD p 0).toNat].toArray = latP b (p + 1) := by
  unfold latP
  have h' : p < b.toList.length := by simpa using h
  rw [List.take_add_one, List.getElem?_eq_getElem h']
  simp [Array.getD, h]
theorem latP_all (b : Array UInt8) : latP b b.size = b.map UInt8.toNat := by
  unfold latP
  rw [List.take_of_length_le (by simp), ← Array.toList_map, Array.toArray_toList]
theorem lat_loop {σ : Type} (b : Array UInt8) (st : σ) (f : Nat → Nat × Array Nat × σ → Sem (ForInStep (Nat × Array Nat × σ)))
    (hf : ∀ x p, p < b.size → f x (p, latP b p, st) = pure (.yield (p + 1, latP b (p + 1), st))) :
    ∀ n i p, p + n = b.size → forIn (List.range' i n 1) (p, latP b p, st) f = pure (b.size, latP b b.size, st) := by
  intro n
  induction n with
  | zero => intro i p h; rw [show p = b.size by omega]; rfl
  | succ n ih =>
    intro i p h
    rw [List.range'_succ, List.forIn_cons, hf i p (by omega), pure_bind]
    exact ih (i + 1) (p + 1) (by omega)
theorem run_lat (id : String) (b : Array UInt8) (hb : b.size ≤ 1000000) : _codecs.runDecoder id _codecs.latin1Decoder none true b 0 [] = pure (b.map UInt8.toNat, b.size) := by
  unfold _codecs.runDecoder
  dsimp only
  rw [Std.Legacy.Range.forIn_eq_forIn_range']
  have hsz : ([:b.size] : Std.Legacy.Range).size = b.size := by simp [Std.Legacy.Range.size]
  rw [hsz]
  have h0 : (#[] : Array Nat) = latP b 0 := rfl
  rw [h0]
  rw [lat_loop b]
  · rw [pure_bind, latP_all]
  · intro x p hp
    dsimp only
    rw [if_neg (by rw [latP_size, sizeLine_eq]; omega), if_neg (by omega)]
    show pure (ForInStep.yield (p + 1, latP b p ++ [(b.getD p 0).toNat].toArray, _)) = _
    rw [latP_next hp]
  · omega
theorem road_lat {id : String} {b : Array UInt8} : _codecs.decodeRoad id b (PySem.Str.ofString "latin-1") none [] = (_codecs.runDecoder id _codecs.latin1Decoder none true b 0 [] >>= fun r => mkStr ⟨r.1⟩) := by kernel_rfl
theorem meets_lat_text {b : Array UInt8} {t t1 t2 : Tok} {d : PySem.Str} (hb : b.size ≤ 1000000) :
    Meets («_codecs.decode.text» ⟨[.bytes b t, .str (PySem.Str.ofString "latin-1") t1, .none, .str d t2], []⟩) (fun _ R s => R (.ok (.ret (.str (latin b) s.toks))) { s with toks := s.toks + 1 }) := by
  refine .of_wp fun prog w A R s h => ?_
  show wpAny _ _ (Bytes.bytesLike _ (.bytes b t) >>= fun r => _) _ _ s
  refine wpAny_bind (wpAny_of_eq KBd.like_eq ?_)
  refine wpAny_bind (wpAny_of_eq KBd.held_eq ?_)
  show wpAny _ _ (_codecs.decodeRoad _ b (PySem.Str.ofString "latin-1") none [] >>= fun v => _) _ _ s
  rw [road_lat, run_lat _ _ hb]
  refine wpAny_bind (wpAny_bind (wpAny_pure ?_))
  exact wpAny_mkStr (x := latin b) (wpAny_pure ⟨_, rfl, h⟩) (by show (b.map UInt8.toNat).size ≤ _; rw [Array.size_map, sizeLine_eq]; omega)
theorem entry_lat {c : UInt8} {cs : List UInt8} {t u : Tok} : «bytes.decode» ⟨[.bytes (c :: cs).toArray t, .str (PySem.Str.ofString "latin-1") u], []⟩ = (mkStr (PySem.Str.ofString "utf-8") >>= fun _ => mkStr (PySem.Str.ofString "latin-1") >>= fun e => mkStr (PySem.Str.ofString "bytes.decode") >>= fun d =>
    call (.builtin "_codecs.decode.text") [.bytes (c :: cs).toArray t, e, .none, d] >>= fun v => ret v) := by kernel_rfl
theorem entry_lat0 {t u : Tok} : «bytes.decode» ⟨[.bytes #[] t, .str (PySem.Str.ofString "latin-1") u], []⟩ = (rule "bytes.decode.empty" >>= fun _ => mkStr Str.empty >>= fun v => ret v) := by kernel_rfl
theorem meets_lat {b : Array UInt8} {t u : Tok} (hb : b.size ≤ 1000000) :
    Meets («bytes.decode» ⟨[.bytes b t, .str (PySem.Str.ofString "latin-1") u], []⟩) (fun _ R s => ∀ t' k, R (.ok (.ret (.str (latin b) t'))) { s with toks := k }) := by
  refine .of_wp fun prog w A R s h => ?_
  obtain ⟨l⟩ := b
  cases l with
  | nil =>
    rw [entry_lat0]
    refine wpAny_bind (wpAny_rule ?_)
    refine wpAny_bind (wpAny_mkStr ?_ (by decide))
    have e : latin #[] = Str.empty := by unfold latin; rw [Array.map_empty]; rfl
    rw [e] at h
    exact wpAny_pure ⟨_, rfl, h _ _⟩
  | cons c cs =>
    rw [entry_lat]
    refine wpAny_bind (wpAny_mkStr ?_ (by decide))
    refine wpAny_bind (wpAny_mkStr ?_ (by decide))
    refine wpAny_bind (wpAny_mkStr ?_ (by decide))
    exact wpAny_bind (call_function_meets KBd.kind_text KBd.plain_text KBd.entry_text (KBd.args_text _ _ _ _) (meets_lat_text hb) (wpAny_pure ⟨_, rfl, h _ _⟩))
theorem args_bytes_decode_2 (a b : Value) : argsOk "bytes.decode" ⟨[a, b], []⟩ := by
  unfold argsOk; rw [signature?_of (id := "bytes.decode") (n := ['e', 'd', 'o', 'c', 'e', 'd']) (o := ['s', 'e', 't', 'y', 'b']) (by kernel_rfl) FB.owner_bytes]; kernel_rfl
theorem decode_lat {prog : Program} {w : World} {A : Around} {E : Value → Shared → Prop} {s : Shared} {b : Array UInt8} {t u : Tok} {Q : Value → Shared → Prop} (hb : b.size ≤ 1000000) (h : ∀ t' k, Q (.str (latin b) t') { s with toks := k }) :
    wpAny (model prog w) A (call (.builtin "bytes.decode") [.bytes b t, .str (PySem.Str.ofString "latin-1") u]) Q E s :=
  call_meets FB.slot_bytes_decode (typeIs_bytes _ _ _) FB.entry_bytes_decode (args_bytes_decode_2 _ _) (meets_lat hb) h
end Mine
end
section
open PySem PySem.W PyProof.Rows PySem.Calls PySem.Spec
set_option Elab.async false
namespace Mine
/-- items: texts (true) or bytes (false) of octets -/
inductive ItsAre : List Value → List (Bool × Array UInt8) → Prop where
  | nil : ItsAre [] []
  | str (b : Array UInt8) (t : Tok) {vs bs} : ItsAre vs bs → ItsAre (.str (latin b) t :: vs) ((true, b) :: bs)
  | byt (b : Array UInt8) (t : Tok) {vs bs} : ItsAre vs bs → ItsAre (.bytes b t :: vs) ((false, b) :: bs)
theorem ItsAre.length {vs : List Value} {bs : List (Bool × Array UInt8)} (x : ItsAre vs bs) : vs.length = bs.length := by
  induction x with
  | nil => rfl
  | str _ _ _ ih => simp [ih]
  | byt _ _ _ ih => simp [ih]
theorem ItsAre.append {vs ws : List Value} {bs cs : List (Bool × Array UInt8)} (x : ItsAre vs bs) (y : ItsAre ws cs) : ItsAre (vs ++ ws) (bs ++ cs) := by
  induction x with
  | nil => exact y
  | str b t _ ih => exact .str b t ih
  | byt b t _ ih => exact .byt b t ih
theorem ItsAre.strs {vs : List Value} {bs : List (Bool × Array UInt8)} (x : ItsAre vs bs) (b : Array UInt8) (t : Tok) : ItsAre (vs ++ [.str (latin b) t]) (bs ++ [(true, b)]) := x.append (.str b t .nil)
theorem ItsAre.byts {vs : List Value} {bs : List (Bool × Array UInt8)} (x : ItsAre vs bs) (b : Array UInt8) (t : Tok) : ItsAre (vs ++ [.bytes b t]) (bs ++ [(false, b)]) := x.append (.byt b t .nil)
theorem SameL.its {h : Heap} {n : Nat} {vs ws : List Value} {ns : List (Bool × Array UInt8)} (a : ItsAre vs ns) (b : ItsAre ws ns) : SameL h n vs ws := by
  induction a generalizing ws with
  | nil => cases b; exact .nil
  | str k t _ ih => cases b with | str _ u r => exact .cons (.str _ t u) (ih r)
  | byt k t _ ih => cases b with | byt _ u r => exact .cons (.bytes _ t u) (ih r)
theorem ints_get {vs : List Value} {ks : List Int} (h : IntsAre vs ks) : ∀ {i : Nat}, i < vs.length → ∃ t, vs[i]? = some (.int (ks.getD i 0) t) := by
  induction h with
  | nil => intro i hi; simp at hi
  | cons k t _ ih =>
    intro i hi
    cases i with
    | zero => exact ⟨t, by simp⟩
    | succ i => obtain ⟨t', e⟩ := ih (i := i) (by simpa using hi); exact ⟨t', by simpa using e⟩
section
variable {prog : Program} {w : World} {A : Around} {E : Value → Shared → Prop} {s : Shared} {h₀ : Heap} {L : Addr} {news : List (Addr × Obj)} {D : Addr} {vs : List Value} {ks : List Int} {n : Nat} {k : Int} {u : Tok} {value slice : Expr} {Q : Value → Shared → Prop}
theorem item_at (N : News h₀ L s.heap news) (hm : (D, listOf vs.toArray n) ∈ news) (hi : IntsAre vs ks) (h0 : 0 ≤ k) (h1 : k < vs.length) (h2 : vs.length ≤ 1000000)
    (h : ∀ t, Q (.int (ks.getD k.toNat 0) t) s)
    (hs : subscripted slice false (.ref D) (.int k u) = operate [.ref D, .int k u] (getItem (.ref D) (.int k u)) := by with_unfolding_all rfl) :
    wpAny (model prog w) A (subscriptTail value slice (.ref D) (.int k u)) Q E s := by
  obtain ⟨t, e⟩ := ints_get hi (i := k.toNat) (by omega)
  exact tail_any (isList_at N hm).typeIs slot_list_getitem.lookup (wpAny_getItem_list (isList_at N hm) h0 (by omega) (by simpa using e) (h t)) hs
end
end Mine
namespace Mine
open PySem PySem.W PyProof.Rows PySem.Calls PySem.Spec
theorem ints_last {vs : List Value} {pre : List Int} {x : Int} (h : IntsAre vs (pre ++ [x])) : ∃ ws t, vs = ws ++ [.int x t] ∧ IntsAre ws pre := by
  induction pre generalizing vs with
  | nil => cases h with | cons _ t r => cases r; exact ⟨[], t, rfl, .nil⟩
  | cons a pre ih =>
    cases h with
    | cons _ t r =>
      obtain ⟨ws, t', e, hi⟩ := ih r
      exact ⟨.int a t :: ws, t', by rw [e]; rfl, .cons _ _ hi⟩
theorem last_at {prog : Program} {w : World} {A : Around} {E : Value → Shared → Prop} {s : Shared} {h₀ : Heap} {L : Addr} {news : List (Addr × Obj)} {D : Addr} {vs : List Value} {x : Value} {n : Nat} {u : Tok} {value slice : Expr} {Q : Value → Shared → Prop}
    (N : News h₀ L s.heap news) (hm : (D, listOf (vs ++ [x]).toArray n) ∈ news) (h : Q x s)
    (hs : subscripted slice false (.ref D) (.int (-1) u) = operate [.ref D, .int (-1) u] (getItem (.ref D) (.int (-1) u)) := by with_unfolding_all rfl) :
    wpAny (model prog w) A (subscriptTail value slice (.ref D) (.int (-1) u)) Q E s := by
  have e : ((-1 : Int) + ((vs ++ [x]).toArray.size : Int)).toNat = vs.length := by simp; omega
  exact tail_any (isList_at N hm).typeIs slot_list_getitem.lookup (wpAny_getItem_list_neg (isList_at N hm) (by decide) (by simp; omega) (by decide) (by rw [e]; simp) h) hs
end Mine
end
section
open PySem PySem.W PyProof.Rows PySem.Calls PySem.Spec
set_option Elab.async false
namespace Mine
def NoFldL (l : List (Addr × Obj)) : Prop := ∀ e ∈ l, NoFld e.2
theorem noFldL_nil : NoFldL [] := fun _ h => nomatch h
theorem noFldL_cons {a : Addr} {o : Obj} {l : List (Addr × Obj)} (h : NoFld o) (hs : NoFldL l) : NoFldL ((a, o) :: l) := fun e he => by
  rcases List.mem_cons.mp he with rfl | he
  · exact h
  · exact hs e he
theorem offP {h₀ h : Heap} {L P : Addr} {pre R' T R : List (Addr × Obj)} {ps : Array Value} (N : News h₀ L h (pre ++ R')) (hR : R' = T ++ R) (hp : (P, tabObj ps) ∈ T) (hn : NoFldL pre) (hr : OwnOff R [P]) : OwnOff (pre ++ R) [P] := fun q hq c hc => by
  rcases List.mem_append.mp hq with hq | hq
  · rw [List.mem_singleton.mp hc]; exact neP (ps := ps) N (by rw [hR]; exact List.mem_append_right _ (List.mem_append_left _ hp)) (List.mem_append_left _ hq) (hn q hq)
  · exact hr q hq c hc
theorem offR {h₀ h : Heap} {L P : Addr} {X R : List (Addr × Obj)} {ps : Array Value} (N : News h₀ L h X) (hp : (P, tabObj ps) ∈ X) (hs : ∀ e ∈ R, e ∈ X) (hn : NoFldL R) : OwnOff R [P] := fun q hq c hc => by
  rw [List.mem_singleton.mp hc]; exact neP (ps := ps) N hp (hs q hq) (hn q hq)
end Mine
end
section
open PySem PySem.W PyProof.Rows PySem.Calls PySem.Spec
set_option Elab.async false
namespace Mine
section
variable {g₀ : Heap}
/-- the same, over a source that stands in the ground -/
theorem loopH {prog : Program} {w : World} {A : Around} {s : Shared} {env : Env} {R : Result → Shared → Prop} {tg : Expr} {body : List Stmt} {I : Addr} {n : Nat} {P : Nat → Value → Prop} {St : Nat → Heap → Prop} {m₀ : Str → Option Value} {news fpo : List (Addr × Obj)}
    (J : Nat → (Str → Option Value) → List (Addr × Obj) → Prop) (Q : Flow → Shared → Prop) (E : Value → Shared → Prop)
    (W : Walks prog w A I (I :: fpo.map (·.1)) [I] n P St) (hIo : ∀ i h, St i h → ∃ o, h.get? I = some o ∧ NoTab o)
    (hJf : ∀ q ∈ fpo, g₀.get? q.1 = some q.2)
    (hLI : env.locals ≠ I) (hgI : g₀.get? I = none) (hnI : ∀ q ∈ news, @Ne Nat q.1 I)
    (hst : St 0 s.heap) (F₀ : Fr g₀ env.locals s.heap m₀) (N₀ : News g₀ env.locals s.heap news) (hj : J 0 m₀ news)
    (hE : ∀ e s', E e s' → notedBy (model prog w) A env (fun e s' => R (.error e) s') e s')
    (hQ : ∀ f s', Q f s' → R (.ok f) s')
    (turn : ∀ i v m₁ news₁ h tk oI, NoTab oI → i < n → P i v → (∀ q ∈ news₁, @Ne Nat q.1 I) → J i m₁ news₁ →
      Fr g₀ env.locals h m₁ → News g₀ env.locals h ((I, oI) :: news₁) →
      wpAny (model prog w) A (assign tg env v) (fun _ s₂ => wpAny (model prog w) A (execs body env) (PostY g₀ env.locals (J (i + 1)) I oI Q s) E s₂) E { s with heap := h, toks := tk })
    (done : ∀ m₁ news₁ h tk, J n m₁ news₁ → Fr g₀ env.locals h m₁ → News g₀ env.locals h news₁ → Q .next { s with heap := h, toks := tk })
    (ht : ∀ v, letOwnedTupleGo tg (.ref I) v = pure () := by intro _; rfl) :
    codeAny (model prog w) A (.forLoop tg (.ref I) body [] env) R s := by
  refine codeAny_forLoop
    (fun k s' => ∃ h' tk m' news' i, s' = { s with heap := h', toks := tk } ∧ St i h' ∧ Fr g₀ env.locals h' m' ∧ News g₀ env.locals h' news' ∧ (∀ q ∈ news', @Ne Nat q.1 I) ∧ J i m' news' ∧ i ≤ n ∧ k = n + 1 - i) ?_ (n + 1)
    ⟨s.heap, s.toks, m₀, news, 0, rfl, hst, F₀, N₀, hnI, hj, Nat.zero_le _, rfl⟩ ht
  rintro k s' ⟨h', tk, m', news', i, rfl, hst', F', N', nI, hJ, hi, rfl⟩
  have nextF : ∀ h₁ : Heap, (∀ b o, b ∉ [I] → h'.get? b = some o → h₁.get? b = some o) → Fr g₀ env.locals h₁ m' := fun h₁ hk₁ =>
    ⟨F'.ns.at' fun o e => hk₁ _ o (by simpa using hLI) e, fun b o e => hk₁ b o (fun hb => by rw [List.mem_singleton.mp hb, hgI] at e; cases e) (F'.keep b o e), F'.above⟩
  have nextN : ∀ h₁ : Heap, (∀ b o, b ∉ [I] → h'.get? b = some o → h₁.get? b = some o) → News g₀ env.locals h₁ news' := fun h₁ hk₁ =>
    fun q hq => ⟨hk₁ _ _ (by simpa using nI q hq) (N' q hq).1, (N' q hq).2⟩
  by_cases hlt : i < n
  · refine W.item i _ _ _ hlt hst' fun v h₁ tk₁ hP hst₁ hk₁ => ?_
    have F₁ := nextF h₁ hk₁
    have N₁ := nextN h₁ hk₁
    obtain ⟨oI, hoI, hoT⟩ := hIo _ _ hst₁
    have N₃ : News g₀ env.locals h₁ ((I, oI) :: news') := fun q hq => by
      rcases List.mem_cons.mp hq with rfl | hq
      · exact ⟨hoI, hLI.symm, hgI⟩
      · exact N₁ q hq
    refine wpAny_mono (turn i v m' news' h₁ _ oI hoT hlt hP nI hJ F₁ N₃) (fun _ s₂ h₂ => wpAny_mono h₂ (fun f s₃ h₃ => ?_) fun e s' h' => hE e s' h') fun e s' h' => hE e s' h'
    have fin : EndY g₀ env.locals (J (i + 1)) I oI s s₃ → ∃ m, m < n + 1 - i ∧ ∃ h' tk m' news' i', s₃ = { s with heap := h', toks := tk } ∧ St i' h' ∧ Fr g₀ env.locals h' m' ∧ News g₀ env.locals h' news' ∧ (∀ q ∈ news', @Ne Nat q.1 I) ∧ J i' m' news' ∧ i' ≤ n ∧ m = n + 1 - i' := by
      rintro ⟨h₃', tk₃, m₃, news₃, nx, rfl, F₃, N₄, hsub, hI, hne, hJ₃⟩
      refine ⟨n + 1 - (i + 1), by omega, h₃', tk₃, m₃, nx, i + 1, rfl, ?_, F₃, fun q hq => N₄ q (hsub q hq), hne, hJ₃, hlt, rfl⟩
      exact W.frame _ _ _ hst₁ fun b hb o e => by
        rcases List.mem_cons.mp hb with rfl | hb
        · rw [hoI] at e; cases e
          exact (N₄ _ hI).1
        · obtain ⟨q, hq, rfl⟩ := List.mem_map.mp hb
          have h1 := F₁.keep _ _ (hJf q hq)
          rw [h1] at e; cases e
          exact F₃.keep _ _ (hJf q hq)
    cases f with
    | ret v => exact hQ _ _ h₃
    | brk => exact hQ _ _ h₃
    | next => exact fin h₃
    | cont => exact fin h₃
  · have hin : i = n := by omega
    subst hin
    refine W.done _ _ _ hst' fun h₁ tk₁ hk₁ => wpAny_execs_nil ?_
    exact hQ _ _ (done m' news' h₁ tk₁ hJ (nextF h₁ hk₁) (nextN h₁ hk₁))

theorem iterG_base {prog : Program} {w : World} {A : Around} {s : Shared} {env : Env} {tg : Expr} {body : List Stmt} {r : Addr} {vs : List Value} {m₀ : Str → Option Value} {news : List (Addr × Obj)} {Q : Flow → Shared → Prop} {E : Value → Shared → Prop}
    (J : Nat → (Str → Option Value) → List (Addr × Obj) → Prop)
    (hh : A.handled = none) (hr : g₀.IsList r vs.toArray)
    (F₀ : Fr g₀ env.locals s.heap m₀) (N₀ : News g₀ env.locals s.heap news) (hj : J 0 m₀ news)
    (hE : PassesOwn (model prog w) A env E)
    (turn : ∀ I i v m₁ news₁ h tk oI, NoTab oI → i < vs.length → vs[i]? = some v → (∀ q ∈ news₁, @Ne Nat q.1 I) → J i m₁ news₁ →
      Fr g₀ env.locals h m₁ → News g₀ env.locals h ((I, oI) :: news₁) →
      wpAny (model prog w) A (assign tg env v) (fun _ s₂ => wpAny (model prog w) A (execs body env) (PostY g₀ env.locals (J (i + 1)) I oI Q s) E s₂) E { s with heap := h, toks := tk })
    (done : ∀ m₁ news₁ h tk, J vs.length m₁ news₁ → Fr g₀ env.locals h m₁ → News g₀ env.locals h news₁ → Q .next { s with heap := h, toks := tk })
    (ht : ∀ I v, letOwnedTupleGo tg (.ref I) v = pure () := by intro _ _; rfl) :
    wpAny (model prog w) A (pyIter (.ref r)) (fun it s₂ => codeAny (model prog w) A (.forLoop tg it body [] env) (fun r s' => match r with | .ok f => Q f s' | .error e => cameBackBy (model prog w) A env E e s') s₂) E s := by
  obtain ⟨orr, hor, hoc, jn, hod⟩ := hr
  have hl : s.heap.IsList r vs.toArray := ⟨_, F₀.keep _ _ hor, hoc, jn, hod⟩
  refine wpAny_pyIter_list hl ?_
  have hne : r ≠ s.heap.objs.size := Nat.ne_of_lt (Heap.lt_size (F₀.keep _ _ hor))
  have W := Walks.list (prog := prog) (w := w) hh s.heap.objs.size r hne vs.toArray
  have gN : g₀.get? s.heap.objs.size = none := by
    cases q : g₀.get? s.heap.objs.size with
    | none => rfl
    | some o => exact absurd (Heap.lt_size (F₀.keep _ _ q)) (Nat.lt_irrefl _)
  refine loopH (s := { s with heap := s.heap.push _ }) (fpo := [(r, orr)]) J Q E W (fun i h hi => ?_) (fun q hq => by rw [List.mem_singleton.mp hq]; exact hor) (Nat.ne_of_lt F₀.ns.lt) gN (fun q hq => Nat.ne_of_lt (Heap.lt_size (N₀ q hq).1)) ?_ (F₀.push _) (fun q hq => ⟨Heap.get?_push_of_some _ (N₀ q hq).1, (N₀ q hq).2⟩) hj (fun e s' h => hE e s' h) (fun f s' h => h) ?_ ?_ (ht _)
  · obtain ⟨o, ho, _, hd⟩ := hi.1
    exact ⟨o, ho, noTab_int hd rfl⟩
  · exact ⟨⟨_, Heap.get?_push_size _ rfl, rfl, rfl⟩, hl.at fun o e => Heap.get?_push_of_some _ e⟩
  · rintro i v m₁ news₁ h tk oI hoT hi hv ho hJ F N
    exact turn _ i v m₁ news₁ h tk oI hoT (by simpa using hi) (by simpa using hv) ho hJ F N
  · intro m₁ news₁ h tk hJ F N
    exact done m₁ news₁ h tk (by simpa using hJ) F N
end
end Mine
end
section
open PySem PySem.W PyProof.Rows PySem.Calls PySem.Spec
set_option Elab.async false
set_option maxHeartbeats 2000000
namespace Mine
/-- a comprehension's source: a range of any step, counted up or down -/
def SrcStep (prog : Program) (w : World) (A : Around) (h₀ : Heap) (L : Addr) (m : Str → Option Value) (env : Env) (ct elt : Expr) (x : Str) (scope : Scope) (cl : List (Str × Addr)) (Fin : Shared → List Value → List (Addr × Obj) → Prop) (xv : Value) (s₁ : Shared) : Prop :=
  ∃ r a b c t u v n news, xv = .ref r ∧ A.handled = none ∧ Fr h₀ L s₁.heap m ∧ News h₀ L s₁.heap news ∧ IsRange s₁.heap r a b c t u v ∧ Builtin.Range.small a b c = true ∧ Builtin.Range.rangeSize a b c = ((n : Nat) : Int) ∧ n ≤ sizeLine ∧
    ∀ s₂ : Shared, (∃ h, s₂ = { s₁ with heap := h }) → LCt.CompRestT prog w A h₀ L m env ct elt x scope cl s₂ (fun _ => True) (fun i v => ∃ t, v = .int (a + (i : Nat) * c) t) (Fin s₂) n 0 [] news
section
variable {prog : Program} {w : World} {A : Around} {E : Value → Shared → Prop} {s : Shared} {h₀ : Heap} {L : Addr} {m : Str → Option Value} {env : Env}
theorem SrcStep.range {ct elt : Expr} {x : Str} {scope : Scope} {cl : List (Str × Addr)} {Fin : Shared → List Value → List (Addr × Obj) → Prop} {r : Addr} {a b c : Int} {t u v : Tok} {n : Nat} {news : List (Addr × Obj)} {s₁ : Shared}
    (hh : A.handled = none) (F : Fr h₀ L s₁.heap m) (N : News h₀ L s₁.heap news) (hr : IsRange s₁.heap r a b c t u v) (hsm : Builtin.Range.small a b c = true) (hn : Builtin.Range.rangeSize a b c = ((n : Nat) : Int)) (hsz : n ≤ sizeLine)
    (h : ∀ g, LCt.CompRestT prog w A h₀ L m env ct elt x scope cl { s₁ with heap := g } (fun _ => True) (fun i v => ∃ t, v = .int (a + (i : Nat) * c) t) (Fin { s₁ with heap := g }) n 0 [] news) :
    SrcStep prog w A h₀ L m env ct elt x scope cl Fin (.ref r) s₁ := ⟨r, a, b, c, t, u, v, n, news, rfl, hh, F, N, hr, hsm, hn, hsz, fun _ ⟨_, e⟩ => e ▸ h _⟩
theorem step_st {I : Addr} {a c : Int} {n : Nat} (i : Nat) (h h' : Heap) (o : Obj) (nw : List (Addr × Obj)) (st : IsRangeIter h I (a + (i : Nat) * c) ((n : Int) - (i : Nat)) c) (e : h.get? I = some o) (e' : h'.get? I = some o) (_ : ∀ b o, h₀.get? b = some o → h'.get? b = some o) (_ : News h₀ L h' nw) (_ : True) : IsRangeIter h' I (a + (i : Nat) * c) ((n : Int) - (i : Nat)) c := by
  have q : h.get? I = some _ := st
  show h'.get? I = some _
  exact (e'.trans e.symm).trans q
theorem assign_step {ct elt iter : Expr} {x y : Str} {px py : Pos} {scope : Scope} {cl : List (Str × Addr)} {pos spos : Pos} {Q : Flow → Shared → Prop} (F₀ : Fr h₀ L s.heap m) (hLe : env.locals = L)
    (hsw : swapsWith (.ListComp elt [⟨.Name x px, iter, [ct], 0⟩] scope pos) (some (.Name y py)) spos.line env = pure true)
    (hclos : closureFor scope env = pure cl) (hcell : ∀ z ∈ scope.names, z.2 ≠ .cell) (hkind : scope.kind = .function)
    (hnames : ∀ z ∈ scope.names, z.2 = .local → scope.names.lookup z.1 = some .local) (hx : scope.names.lookup x = some .local)
    (hy : env.kindOf y = some .local) (hp : (env.scope.kind == .class || (env.scope.kind == .module && env.locals != env.globals)) = false)
    (h : wpAny (model prog w) A (eval iter env) (SrcStep prog w A h₀ L m env ct elt x scope cl (fun s₂ => LCg.FinA h₀ L m s₂ y Q)) E s)
    (hs : ∀ x, foldedSetIterable iter env x = pure x := by intro _; rfl) :
    wpAny (model prog w) A (exec (.Assign [.Name y py] (.ListComp elt [⟨.Name x px, iter, [ct], 0⟩] scope pos) spos) env) Q E s := by
  subst hLe
  rw [exec_Assign_Name_used _ _ _ _ hsw]
  refine wpAny_bind (wpAny_standAt (wpAny_bind (wpAny_bind (wpAny_mono (wpAny_comprehension_free (use := some (assign (.Name y py) env)) (Q := fun _ s' => Q .next s') rfl hs hclos hkind hnames
    (wpAny_mono h ?_ fun _ _ e => e)) (fun _ s' hq => wpAny_pure (wpAny_pure hq)) fun _ _ e => e))))
  rintro _ s₁ ⟨r, a, b, c, t, u, v, n, news, rfl, hh, F, N, hr, hsm, hn, hsz, R⟩
  have up : ∀ o : Obj, ∀ b o', s₁.heap.get? b = some o' → (s₁.heap.push o).get? b = some o' := fun _ _ _ e => Heap.get?_push_of_some _ e
  refine wpAny_pyIter_range hr hsm (LCt.block_T (Walks.range hh s₁.heap.objs.size a c n) hsz (fun _ _ st => ⟨_, st⟩) step_st hcell hkind hx (by
      show IsRangeIter _ _ _ _ _
      rw [hn]; simpa using Heap.get?_push_size _ rfl) ?_ (F.keeps (up _)) (N.grown (up _)) (Nat.ne_of_lt F.ns.lt) (next_is_new F) (fun p hp => Nat.ne_of_lt (Heap.lt_size (N p hp).1)) trivial (R _ ⟨_, rfl⟩) ?_)
  · intro b hb
    rw [List.mem_singleton.mp hb]
    show _ < (s₁.heap.push _).objs.size
    rw [Heap.size_push]; exact Nat.lt_succ_self _
  intro D C h' tk m' ys nx F' N' o1 hC hC₀ hD₀ hCL hDL hCD offC fin
  show wpAny _ A (assign (.Name y py) env (.ref D)) _ _ _
  refine wpAny_assign_Name (wpAny_storeName_local hy F'.ns (fun h₂ hn₂ hs₂ => ?_) hp)
  have F₂ := F'.set hn₂ hs₂
  refine ⟨m', hC.sameBut hs₂ hCL, fun h₃ hs₃ => fin D h₃ _ (F₂.change hs₃ hCL hC₀) (fun p hp => ?_) o1⟩
  have hpC : p.1 ≠ C := by
    rcases List.mem_cons.mp hp with rfl | hp
    · exact hCD.symm
    · exact offC p hp
  exact ⟨hs₃.extBut _ _ hpC (hs₂.extBut _ _ (N' p hp).2.1 (N' p hp).1), (N' p hp).2⟩
end
end Mine
end
section
open PySem PySem.W PyProof.Rows PySem.Calls PySem.Spec
set_option Elab.async false
set_option maxRecDepth 100000
set_option maxHeartbeats 8000000
namespace Mine
local macro_rules | `(tactic| k_room) => `(tactic| ktr_room)
local macro_rules | `(tactic| k_units) => `(tactic| ktr_units)
local macro_rules | `(tactic| k_mem) => `(tactic| first | exact List.Mem.head _ | (refine List.mem_cons_of_mem _ ?_; k_mem))
theorem stream_ct (w : World) {p : Program} {loose : List Str} {mean : ExcName → Option Value} {mg mb : Str → Option Value}
  {dp un : Nat} {gd : Option (List Code)} {cn : Str} {cs : Scope} {a : Addr} {ccd : Value} {cl : List (Str × Addr)} {outer : List Env} {A₀ : Around} {base h₀ : Heap} {L : Addr} {m : Str → Option Value} {rest T : List (Addr × Obj)} {s : Shared}
  {b : Array UInt8} {tb : Tok} {Q E : Value → Shared → Prop}
  (B : Below A₀ base outer h₀) (F : Fr h₀ L s.heap m) (X : (hd02.heap_39 w.params).In h₀) (N : News h₀ L s.heap (T ++ rest)) (TT : Top p loose mean mg mb h₀)
  (H : CodeHd h₀ 48 44) (hT : Tab 44 (rawInt 15) (rawInt 4) (Str.ofString "_law_stream.<locals>._law_read") T) (hoff : OwnOff rest [44])
  (hk : cs.kind = .function) (hd : dp + 20 < recursionLimit)
  (ok : ∀ x dx r k1 k2 tp I T' h' tk, Strm Challenge.rw_dm0232_02.row.prog w (hd02.heap_39 w.params) p loose mean mg mb 38 x dx r k1 k2 b I → Tab 44 (rawInt 15) (rawInt 4) (Str.ofString "_law_stream.<locals>._law_read") T' →
    OwnOff I [44] → OwnOff T' [dx] → OwnOff rest [dx] →
    Fr h₀ L h' m → News h₀ L h' ((dx, SD w.params k1 k2 r 0 tp) :: (I ++ (T' ++ rest))) → Q (.ref x) { s with heap := h', toks := tk }) :
  wpAny (model Challenge.rw_dm0232_02.row.prog w) (ktrTop dp un gd cn cs L a ccd cl outer) (call (.ref 49) [.bytes b tb]) Q E s := by
  revert X; k_fill; intro X
  have hMk := kstMark
  cases hT
  all_goals
    simp only [List.cons_append, List.nil_append] at N
    refine wpAny_call ?_
    refine' code_defC ?k1 ?k2 ?k3 ?k4 ?k5 ?kA ?kF ?kK ?k6 ?k7 ?k8 ?k9 ?kB ?kD ?_ ?c2 ?c3 ?c4
    case kA => exact rfl
    case kF => exact rfl
    case kK => assumption
    case k1 => k_asm
    case k2 => k_asm
    case k3 => k_asm
    case k4 => k_asm
    case k5 => k_asm
    case k6 => k_is
    case k7 => k_is
    case k8 => ktr_room
    case k9 => exact BindsTo.of_eq rfl
    case kB => exact rfl
    case kD => decide +kernel
    case c2 => exact rfl
    case c3 => exact rfl
    case c4 => exact rfl
    intro g' L' h' tk' cells' FG' F' N' Y' B' X' T' l1
    (try k_lt l1)
    have hO : OwnOff rest [L' + 1, L' + 1 + 1] := off_lt (d := L') (by first | exact l1.2 | exact l1.2.2) (by intro a ha; simp only [List.mem_cons, List.not_mem_nil, or_false] at ha; rcases ha with rfl | rfl <;> exact Nat.le_add_right_of_le (by omega))
    have H' : CodeHd g' 48 44 := H.keeps FG'.keep
    k_cells Y'
    (try simp only [List.cons_append, List.nil_append] at N')
    (try dsimp only)
    (try k_lift B')
    (try k_fold)
    k_steps
    rename News h₀ L _ _ => NN
    rename Fr h₀ L _ m => FF
    first
    | refine ok _ _ _ _ _ _ _ _ _ _ ?strm ?tab ?o1 ?o2 ?lt FF (fin_none NN)
    | refine ok _ _ _ _ _ _ _ _ _ _ ?strm ?tab ?o1 ?o2 ?lt FF (fin_some NN)
    case o1 => exact off_one (by k_all)
    case o2 => exact off_one (by k_all)
    case lt => exact off_one (by k_all)
    case tab => refine Tab.some ?_ (by assumption) (by assumption); k_ne
    case strm =>
      refine strm_mk (by k_mem) ⟨_, _, _, _, by k_mem⟩ (off_one (by k_all)) (by intro e he; simp only [List.mem_cons, List.not_mem_nil, or_false] at he; rcases he with rfl | rfl | rfl | rfl | rfl <;> first | exact kin_func rfl | exact kin_plain rfl | exact kin_fields (by assumption) | exact kin_cell (by assumption)) (fun hoI => ?_)
      intro dp un gd cn cs a ccd outer A₀ base h₀ L m news upd s q n tq tn Q E B F X N T hk hd hu hI U hq hb hn hret
      obtain ⟨rest, hof, hnw, hup⟩ := upd_split U
      have N2 := news_sub (l' := (_, _) :: rest) N (fun e he => (hnw e).mpr (List.mem_cons.mp he))
      have hm := mem_rest hI hoI hnw
      simp only [List.forall_mem_cons] at hm
      obtain ⟨m1, m2, m3, m4, m5, -⟩ := hm
      obtain ⟨ks, hks⟩ : ∃ ks, KBw.bInts b = ks := ⟨_, rfl⟩
      have hkl : ks.length = b.size := by rw [← hks]; exact KBw.ints_length b
      clear hI U N
      refine wpAny_call ?_
      k_dflt (refine' code_nest ?k1 ?k2 ?k3 ?k4 ?k5 ?kA ?kF ?kK ?k6 ?k7 ?k8 ?k9 ?kB ?_ ?c2 ?c3 ?c4 ?c5; (case kA => exact rfl); (case kF => exact rfl); (case kK => assumption); (case k2 => k_asm); (case k1 => k_asm); (case k3 => k_asm); (case k4 => k_asm); (case k5 => k_asm); (case k6 => k_mem); (case k7 => exact codeRec_news (by k_asm) (by k_mem) (by assumption) (by assumption)); (case k8 => k_room); (case k9 => exact BindsTo.of_eq rfl); (case c5 => decide); (case kB => exact locs rfl); (case c2 => exact rfl); (case c3 => exact rfl); (case c4 => exact rfl); k_whole; intro g' L' h' FG' F' N' B' X' T'; (try dsimp only); (try k_lift B'); (try k_fold))
      k_steps
      rename News h₀ L _ _ => NN
      rename Fr h₀ L _ m => FF
      rw [picked_cut hq]
      exact hret _ _ _ _ FF (read_fin NN (read_place hq hkl) hup)
local macro_rules | `(tactic| walk_at "callWith ref") => `(tactic| (k_here; (rename Strm _ _ _ _ _ _ _ _ _ _ _ _ _ _ _ _ => sS); k_dflt (refine' callWith_F ?k1 ?_; (case k1 => exact FnAt.of (by k_asm) (by k_mem)); k_whole)))
local macro_rules | `(tactic| walk_at "call ref") => `(tactic| (k_here; (rename Strm _ _ _ _ _ _ _ _ _ _ _ _ _ _ _ _ => sS); (with_reducible show wpAny _ _ (call (Value.ref _) [Value.int _ _]) _ _ _); k_dflt (first | (refine' strm_read 1 rfl sS ?B ?F ?X ?N ?T ?hk ?hd ?hu ?hI ?U ?hq ?hb ?hn ?_; (case F => k_asm); (case N => k_asm); (case B => k_asm); (case X => k_asm); (case T => k_asm); (case hk => first | rfl | assumption); (case hd => ktr_room); (case hu => ktr_units); (case hI => (repeat (first | assumption | refine Sub.cons ?_))); (case U => k_updF); (case hq => omega); (case hb => omega); (case hn => decide)) | (refine' strm_read _ rfl sS ?B ?F ?X ?N ?T ?hk ?hd ?hu ?hI ?U ?hq ?hb ?hn ?_; (case F => k_asm); (case N => k_asm); (case B => k_asm); (case X => k_asm); (case T => k_asm); (case hk => first | rfl | assumption); (case hd => ktr_room); (case hu => ktr_units); (case hI => (repeat (first | assumption | refine Sub.cons ?_))); (case U => k_updF); (case hq => omega); (case hb => omega); (case hn => omega))); intro h' tk' t1 t2 F' N'; (try dsimp only)))
local macro_rules | `(tactic| walk_at "exec Raise some none") => `(tactic| (k_here; (with_reducible show wpAny _ _ (exec (Stmt.Raise (some (Expr.Call (Expr.Name ("ValueError" : Str) _) (_ :: _) [] _)) none _) _) _ _ _); (with_reducible rename Fr _ _ _ _ => kF); k_dflt (refine' Raise_madeB PySem.F.excCall_ValueError PySem.F.excRaise_ValueError ?hh (name_B kF ?k1 ?k2 ?k3 PyProof.Rows.Boot.«ValueError» ?k5 ⟨rfl, ?_⟩) ?a ?b; (case hh => rfl); (case a => rfl); (case b => rfl); (case k1 => k_asm); (case k2 => k_asm); (case k3 => k_is); (case k5 => decide))))
local macro_rules | `(tactic| walk_at "ite") => `(tactic| (k_here; first | (refine ite_pos (by first | omega | (simp only [decide_eq_true_eq, beq_iff_eq]; omega)) ?_) | (refine ite_neg (by first | omega | (simp only [decide_eq_true_eq, beq_iff_eq]; omega)) ?_)))
local macro_rules | `(tactic| walk_at "binaryOp Mod str ref") => `(tactic| (k_here; k_dflt (first | ((with_reducible show wpAny _ _ (binaryOp _ (Value.str (Str.ofString "expected %d bytes in a bytes1, but only %d remain") _) _) _ _ _); refine' modB ?N ?b ?a1 ?a2 ?a3 ?a4 ?_; (case N => k_asm); (case b => k_mem); (case a1 => omega); (case a2 => omega); (case a3 => omega); (case a4 => omega)) | ((with_reducible show wpAny _ _ (binaryOp _ (Value.str (Str.ofString "expected %d bytes in a string1, but only %d remain") _) _) _ _ _); refine' modS ?N ?b ?a1 ?a2 ?a3 ?a4 ?_; (case N => k_asm); (case b => k_mem); (case a1 => omega); (case a2 => omega); (case a3 => omega); (case a4 => omega))); intro _ _))
theorem ru1_ct (w : World) {p : Program} {loose : List Str} {mean : ExcName → Option Value} {mg mb : Str → Option Value}
  {dp un : Nat} {gd : Option (List Code)} {cn : Str} {cs : Scope} {a : Addr} {ccd : Value} {cl : List (Str × Addr)} {outer : List Env} {A₀ : Around} {base h₀ : Heap} {L : Addr} {m : Str → Option Value}
  {news I : List (Addr × Obj)} {upd : Obj → List (Addr × Obj)} {s : Shared} {f dx r : Addr} {k1 k2 tq : Tok} {b : Array UInt8} {q : Nat} {Q E : Value → Shared → Prop}
  (B : Below A₀ base outer h₀) (F : Fr h₀ L s.heap m) (X : (hd02.heap_39 w.params).In h₀) (N : News h₀ L s.heap news) (T : Top p loose mean mg mb h₀)
  (S : Strm Challenge.rw_dm0232_02.row.prog w (hd02.heap_39 w.params) p loose mean mg mb 38 f dx r k1 k2 b I) (hI : Sub I news) (U : UpdF dx (SD w.params k1 k2 r (q : Int) tq) news upd)
  (hk : cs.kind = .function) (hd : dp + 10 < recursionLimit) (hu : un + 60 < cLine) (hq : q ≤ b.size) (hb : b.size ≤ 1048576)
  (ok : ∀ h' tk t1 t2, q < b.size → Fr h₀ L h' m → News h₀ L h' (upd (SD w.params k1 k2 r ((q + 1 : Nat) : Int) t1)) → Q (.int (oct b q : Int) t2) { s with heap := h', toks := tk })
  (err : ∀ g e t u h' tk t1, q = b.size → Fr h₀ L g m → RaisedS base g (envX cn cs L a ccd cl :: outer) e (.type "ValueError") t [.str (msg0) u] (upd (SD w.params k1 k2 r (b.size : Int) t1)) h' → g.UpToSlots h' → E (.ref e) { s with heap := h', toks := tk }) :
  wpAny (model Challenge.rw_dm0232_02.row.prog w) (ktrTop dp un gd cn cs L a ccd cl outer) (call (.ref 21) [.ref f]) Q E s := by
  revert X; k_fill; intro X
  have hMk := kstMark
  obtain ⟨rest, hof, hnw, hup⟩ := upd_split U
  have N2 := news_sub (l' := (_, _) :: rest) N (fun e he => (hnw e).mpr (List.mem_cons.mp he))
  have hm : Sub I rest := mem_rest hI S.off hnw
  have mi := hm _ S.inst
  obtain ⟨oc, od, fd, sl, mf⟩ := S.fn
  have mf := hm _ mf
  clear hI U N
  have D0 : KtsDicts [] h₀ := ktsDicts_nil
  have hc : q < b.size ∨ q = b.size := by omega
  rcases hc with hc | hc
  · have hks := ints_cut1 hc
    refine wpAny_call ?_
    k_dflt ktr_enter
    k_steps
    · rename News h₀ L _ _ => NN
      rename Fr h₀ L _ m => FF
      exact ok _ _ _ _ hc FF (read_fin NN (by rw [cut1_size hc]) hup)
    · rename ¬ _ < _ => hx
      exact absurd (Nat.zero_lt_succ _) hx
  · have hks : KBw.bInts (cutB b q 1) = [] := by rw [hc]; exact ints_cut0
    have hsz : (cutB b q 1).size = 0 := by rw [hc]; exact cut0_size
    refine wpAny_call ?_
    k_dflt ktr_enter
    k_steps
    rename RaisedS _ _ _ _ _ _ _ _ _ => RR
    rename Fr h₀ L _ m => FF
    rename Heap.UpToSlots _ _ => UU
    exact err _ _ _ _ _ _ _ hc FF (raise_fin RR (by rw [hsz, hc]; rfl) hup) UU
local macro_rules | `(tactic| walk_at "call ref") => `(tactic| (k_here; (rename Strm _ _ _ _ _ _ _ _ _ _ _ _ _ _ _ _ => sS); (with_reducible show wpAny _ _ (call (Value.ref 21) [Value.ref _]) _ _ _); k_dflt (refine' ru1_ct _ ?B ?F ?X ?N ?T sS ?hI ?U ?hk ?hd ?hu ?hq ?hb (fun h' tk' t1 t2 hlt' F' N' => ?_) (fun g' e' t' u' h' tk' t1 heq' F' R' U' => ?_); (case F => k_asm); (case N => k_asm); (case B => k_asm); (case X => k_asm); (case T => k_asm); (case hk => first | rfl | assumption); (case hd => ktr_room); (case hu => ktr_units); (case hI => (repeat (first | assumption | refine Sub.cons ?_))); (case U => k_updF); (case hq => omega); (case hb => omega)); (all_goals (first | (exfalso; omega) | (try dsimp only)))))
end Mine
end
section
open PySem PySem.W PyProof.Rows PySem.Calls PySem.Spec
set_option Elab.async false
set_option maxRecDepth 100000
set_option maxHeartbeats 8000000
namespace Mine
local macro_rules | `(tactic| k_room) => `(tactic| ktr_room)
local macro_rules | `(tactic| k_units) => `(tactic| ktr_units)
local macro_rules | `(tactic| k_mem) => `(tactic| first | exact List.Mem.head _ | (refine List.mem_cons_of_mem _ ?_; k_mem))
local macro_rules | `(tactic| walk_at "callWith ref") => `(tactic| (k_here; (rename Strm _ _ _ _ _ _ _ _ _ _ _ _ _ _ _ _ => sS); k_dflt (refine' callWith_F ?k1 ?_; (case k1 => exact FnAt.of (by k_asm) (by k_mem)); k_whole)))
local macro_rules | `(tactic| walk_at "call ref") => `(tactic| (k_here; (rename Strm _ _ _ _ _ _ _ _ _ _ _ _ _ _ _ _ => sS); (with_reducible show wpAny _ _ (call (Value.ref _) [Value.int _ _]) _ _ _); k_dflt (first | (refine' strm_read 1 rfl sS ?B ?F ?X ?N ?T ?hk ?hd ?hu ?hI ?U ?hq ?hb ?hn ?_; (case F => k_asm); (case N => k_asm); (case B => k_asm); (case X => k_asm); (case T => k_asm); (case hk => first | rfl | assumption); (case hd => ktr_room); (case hu => ktr_units); (case hI => (repeat (first | assumption | refine Sub.cons ?_))); (case U => k_updF); (case hq => omega); (case hb => omega); (case hn => decide)) | (refine' strm_read _ rfl sS ?B ?F ?X ?N ?T ?hk ?hd ?hu ?hI ?U ?hq ?hb ?hn ?_; (case F => k_asm); (case N => k_asm); (case B => k_asm); (case X => k_asm); (case T => k_asm); (case hk => first | rfl | assumption); (case hd => ktr_room); (case hu => ktr_units); (case hI => (repeat (first | assumption | refine Sub.cons ?_))); (case U => k_updF); (case hq => omega); (case hb => omega); (case hn => omega))); intro h' tk' t1 t2 F' N'; (try dsimp only)))
local macro_rules | `(tactic| walk_at "exec Raise some none") => `(tactic| (k_here; (with_reducible show wpAny _ _ (exec (Stmt.Raise (some (Expr.Call (Expr.Name ("ValueError" : Str) _) (_ :: _) [] _)) none _) _) _ _ _); (with_reducible rename Fr _ _ _ _ => kF); k_dflt (refine' Raise_madeB PySem.F.excCall_ValueError PySem.F.excRaise_ValueError ?hh (name_B kF ?k1 ?k2 ?k3 PyProof.Rows.Boot.«ValueError» ?k5 ⟨rfl, ?_⟩) ?a ?b; (case hh => rfl); (case a => rfl); (case b => rfl); (case k1 => k_asm); (case k2 => k_asm); (case k3 => k_is); (case k5 => decide))))
local macro_rules | `(tactic| walk_at "ite") => `(tactic| (k_here; first | (refine ite_pos (by first | omega | (simp only [decide_eq_true_eq, beq_iff_eq]; omega)) ?_) | (refine ite_neg (by first | omega | (simp only [decide_eq_true_eq, beq_iff_eq]; omega)) ?_)))
local macro_rules | `(tactic| walk_at "binaryOp Mod str ref") => `(tactic| (k_here; k_dflt (first | ((with_reducible show wpAny _ _ (binaryOp _ (Value.str (Str.ofString "expected %d bytes in a bytes1, but only %d remain") _) _) _ _ _); refine' modB ?N ?b ?a1 ?a2 ?a3 ?a4 ?_; (case N => k_asm); (case b => k_mem); (case a1 => omega); (case a2 => omega); (case a3 => omega); (case a4 => omega)) | ((with_reducible show wpAny _ _ (binaryOp _ (Value.str (Str.ofString "expected %d bytes in a string1, but only %d remain") _) _) _ _ _); refine' modS ?N ?b ?a1 ?a2 ?a3 ?a4 ?_; (case N => k_asm); (case b => k_mem); (case a1 => omega); (case a2 => omega); (case a3 => omega); (case a4 => omega))); intro _ _))
local macro_rules | `(tactic| walk_at "ite") => `(tactic| (k_here; first | (refine ite_pos (by first | omega | (simp only [decide_eq_true_eq, beq_iff_eq, bne_iff_ne, Bool.not_eq_true', beq_eq_false_iff_ne, ne_eq, List.length_append, List.length_cons, List.length_nil]; done) | (simp only [decide_eq_true_eq, beq_iff_eq, bne_iff_ne, Bool.not_eq_true', beq_eq_false_iff_ne, ne_eq, List.length_append, List.length_cons, List.length_nil]; omega)) ?_) | (refine ite_neg (by first | omega | (simp only [decide_eq_true_eq, beq_iff_eq, bne_iff_ne, Bool.not_eq_true', beq_eq_false_iff_ne, ne_eq, List.length_append, List.length_cons, List.length_nil]; done) | (simp only [decide_eq_true_eq, beq_iff_eq, bne_iff_ne, Bool.not_eq_true', beq_eq_false_iff_ne, ne_eq, List.length_append, List.length_cons, List.length_nil]; omega)) ?_)))
local macro_rules | `(tactic| walk_at "call ref") => `(tactic| (k_here; (rename Strm _ _ _ _ _ _ _ _ _ _ _ _ _ _ _ _ => sS); (with_reducible show wpAny _ _ (call (Value.ref 21) [Value.ref _]) _ _ _); k_dflt (refine' ru1_ct _ ?B ?F ?X ?N ?T sS ?hI ?U ?hk ?hd ?hu ?hq ?hb (fun h' tk' t1 t2 hlt' F' N' => ?_) (fun g' e' t' u' h' tk' t1 heq' F' R' U' => ?_); (case F => k_asm); (case N => k_asm); (case B => k_asm); (case X => k_asm); (case T => k_asm); (case hk => first | rfl | assumption); (case hd => ktr_room); (case hu => ktr_units); (case hI => (repeat (first | assumption | refine Sub.cons ?_))); (case U => k_updF); (case hq => omega); (case hb => omega)); (all_goals (first | (exfalso; omega) | (try dsimp only)))))
local macro_rules | `(tactic| walk_at "setItem ref int") => `(tactic| (k_here; k_dflt (first | (refine' set_two0 ?F ?N ?U ?_; (case F => k_asm); (case N => k_asm); (case U => k_updF)) | (refine' set_two1 ?F ?N ?U ?_; (case F => k_asm); (case N => k_asm); (case U => k_updF))); intro h' F' N'; (try dsimp only [List.nil_append, List.cons_append] at N')))

/-- the bit at a place, the highest of an octet first -/
def bit (b : Array UInt8) (P : Nat) : Nat := oct b (P / 8) / 2 ^ (7 - P % 8) % 2
/-- what the reader's state says: left bits of the octet ahead of q are unread, P bits are read -/
def BSt (b : Array UInt8) (q : Nat) (cur left : Int) (P : Nat) : Prop := ∃ l : Nat, left = (l : Int) ∧ l ≤ 7 ∧ P + l = 8 * q ∧ q ≤ b.size ∧ (0 < l → cur = (oct b (q - 1) : Int))
theorem bit_val {b : Array UInt8} {P l q : Nat} (h : P + (l + 1) = 8 * q) (hl : l ≤ 7) : ((oct b (q - 1) : Int).fdiv (2 ^ l)).fmod 2 = (bit b P : Int) := by
  have e1 : P / 8 = q - 1 := by omega
  have e2 : 7 - P % 8 = l := by omega
  unfold bit
  rw [e1, e2, Int.fdiv_eq_ediv_of_nonneg _ (Int.le_of_lt (Int.pow_pos (by decide))), Int.fmod_eq_emod_of_nonneg _ (by decide)]
  simp [Int.natCast_ediv, Int.natCast_pow]
theorem bit_ct (w : World) {p : Program} {loose : List Str} {mean : ExcName → Option Value} {mg mb : Str → Option Value}
  {dp un : Nat} {gd : Option (List Code)} {cn : Str} {cs : Scope} {a : Addr} {ccd : Value} {cl : List (Str × Addr)} {outer : List Env} {A₀ : Around} {base h₀ : Heap} {L : Addr} {m : Str → Option Value}
  {rest I : List (Addr × Obj)} {s : Shared} {f dx r st : Addr} {k1 k2 tq tc tl : Tok} {b : Array UInt8} {q P j : Nat} {cur left : Int} {Q E : Value → Shared → Prop}
  (B : Below A₀ base outer h₀) (F : Fr h₀ L s.heap m) (X : (hd02.heap_39 w.params).In h₀) (N : News h₀ L s.heap ((st, listOf #[.int cur tc, .int left tl] j) :: (dx, SD w.params k1 k2 r (q : Int) tq) :: rest)) (T : Top p loose mean mg mb h₀)
  (S : Strm Challenge.rw_dm0232_02.row.prog w (hd02.heap_39 w.params) p loose mean mg mb 38 f dx r k1 k2 b I) (hI : Sub I rest) (oR : OwnOff rest [dx]) (oS : OwnOff rest [st]) (hne : @Ne Nat st dx)
  (hk : cs.kind = .function) (hd : dp + 14 < recursionLimit) (hu : un + 80 < cLine) (hb : b.size ≤ 1000000) (hst : BSt b q cur left P)
  (ok : ∀ h' tk t1 t2 tc' tl' q' cur' left', P < 8 * b.size → BSt b q' cur' left' (P + 1) → Fr h₀ L h' m → News h₀ L h' ((st, listOf #[.int cur' tc', .int left' tl'] j) :: (dx, SD w.params k1 k2 r (q' : Int) t1) :: rest) → Q (.int (bit b P : Int) t2) { s with heap := h', toks := tk })
  (err : ∀ g e t u h' tk t1, P = 8 * b.size → Fr h₀ L g m → RaisedS base g (envX cn cs L a ccd cl :: outer) e (.type "ValueError") t [.str msg0 u] ((st, listOf #[.int cur tc, .int left tl] j) :: (dx, SD w.params k1 k2 r (b.size : Int) t1) :: rest) h' → g.UpToSlots h' → E (.ref e) { s with heap := h', toks := tk }) :
  wpAny (model Challenge.rw_dm0232_02.row.prog w) (ktrTop dp un gd cn cs L a ccd cl outer) (call (.ref 56) [.ref f, .ref st]) Q E s := by
  revert X; k_fill; intro X
  have hMk := kstMark
  have mi := hI _ S.inst
  have D0 : KtsDicts [] h₀ := ktsDicts_nil
  obtain ⟨l, rfl, hl, hP, hq, hcur⟩ := hst
  have hU : ∀ {o : Obj}, ∀ x ∈ (dx, o) :: rest, x.1 ≠ st := by
    intro o
    simp only [List.forall_mem_cons]
    exact ⟨hne.symm, fun x hx => oS x hx st (List.mem_singleton.mpr rfl)⟩
  by_cases h0 : l = 0
  · subst h0
    have hc : q < b.size ∨ q = b.size := by omega
    rcases hc with hc | hc
    · have h256 := oct_lt b q
      have hz : [cur, ((0 : Nat) : Int)].getD (Int.toNat 1) 0 = 0 := rfl
      refine wpAny_call ?_
      k_dflt ktr_enter
      repeat' (first | (k_unfold; (try dsimp only)) | ((fail_if_success (with_reducible show wpAny _ _ (setItem _ _ _) _ _ _)); first | (k_end; wrow_close) | walk1 | (dsimp only; walk1) | (leave1; try dsimp only)))
      rename Fr _ _ _ _ => FF
      rename News _ _ _ _ => NN
      refine set_two0 FF NN (.head hU) ?_
      clear FF NN
      intro h3 F3 N3
      (try dsimp only at N3)
      repeat' (first | (k_unfold; (try dsimp only)) | ((fail_if_success (with_reducible show wpAny _ _ (setItem _ _ _) _ _ _)); first | (k_end; wrow_close) | walk1 | (dsimp only; walk1) | (leave1; try dsimp only)))
      rename Fr _ _ _ _ => FF
      rename News _ _ _ _ => NN
      refine set_two1 FF NN (.head hU) ?_
      clear FF NN
      intro h4 F4 N4
      (try dsimp only at N4)
      repeat' (first | (k_unfold; (try dsimp only)) | ((fail_if_success (with_reducible show wpAny _ _ (setItem _ _ _) _ _ _)); first | (k_end; wrow_close) | walk1 | (dsimp only; walk1) | (leave1; try dsimp only)))
      rename Fr _ _ _ _ => FF
      rename News _ _ _ _ => NN
      have hg1 : [(oct b q : Int), 8].getD (Int.toNat 1) 0 = 8 := rfl
      rw [hg1]
      refine set_two1 FF NN (.head hU) ?_
      clear FF NN
      intro h5 F5 N5
      (try dsimp only at N5)
      repeat' (first | (k_unfold; (try dsimp only)) | ((fail_if_success (with_reducible show wpAny _ _ (binaryOp Operator.Pow _ _) _ _ _)); first | (k_end; wrow_close) | walk1 | (dsimp only; walk1) | (leave1; try dsimp only)))
      have hg2 : [(oct b q : Int), 8 - 1].getD (Int.toNat 0) 0 = (oct b q : Int) := rfl
      have hg3 : [(oct b q : Int), 8 - 1].getD (Int.toNat 1) 0 = 7 := rfl
      rw [hg2, hg3]
      have hv : ((oct b q : Int).fdiv (2 ^ Int.toNat 7)).fmod 2 = (bit b P : Int) := by
        have := bit_val (b := b) (P := P) (l := 7) (q := q + 1) (by omega) (by omega)
        exact this
      k_steps
      rename News h₀ L _ _ => NN
      rename Fr h₀ L _ m => FF
      rw [hv]
      exact ok _ _ _ _ _ _ (q + 1) _ _ (by omega) ⟨7, by rfl, by omega, by omega, by omega, fun _ => rfl⟩ FF NN
    · have hz : [cur, ((0 : Nat) : Int)].getD (Int.toNat 1) 0 = 0 := rfl
      refine wpAny_call ?_
      k_dflt ktr_enter
      k_steps
      rename RaisedS _ _ _ _ _ _ _ _ _ => RR
      rename Fr h₀ L _ m => FF
      rename Heap.UpToSlots _ _ => UU
      exact err _ _ _ _ _ _ _ (by omega) FF RR UU
  · have hg1 : [cur, (l : Int)].getD (Int.toNat 1) 0 = (l : Int) := rfl
    refine wpAny_call ?_
    k_dflt ktr_enter
    repeat' (first | (k_unfold; (try dsimp only)) | ((fail_if_success (with_reducible show wpAny _ _ (setItem _ _ _) _ _ _)); first | (k_end; wrow_close) | walk1 | (dsimp only; walk1) | (leave1; try dsimp only)))
    rename Fr _ _ _ _ => FF
    rename News _ _ _ _ => NN
    rw [hg1]
    refine set_two1 FF NN (.head hU) ?_
    clear FF NN
    intro h5 F5 N5
    (try dsimp only at N5)
    repeat' (first | (k_unfold; (try dsimp only)) | ((fail_if_success (with_reducible show wpAny _ _ (binaryOp Operator.Pow _ _) _ _ _)); first | (k_end; wrow_close) | walk1 | (dsimp only; walk1) | (leave1; try dsimp only)))
    have hg2 : [cur, (l : Int) - 1].getD (Int.toNat 0) 0 = cur := rfl
    have hg3 : [cur, (l : Int) - 1].getD (Int.toNat 1) 0 = (l : Int) - 1 := rfl
    rw [hg2, hg3]
    have hb0 : 0 ≤ (l : Int) - 1 := by omega
    have hb1 : (l : Int) - 1 ≤ 7 := by omega
    have hN : ((l : Int) - 1).toNat = l - 1 := by omega
    have hv : (cur.fdiv (2 ^ ((l : Int) - 1).toNat)).fmod 2 = (bit b P : Int) := by rw [hN, hcur (by omega)]; exact bit_val (l := l - 1) (by omega) (by omega)
    k_steps
    rename News h₀ L _ _ => NN
    rename Fr h₀ L _ m => FF
    rw [hv]
    exact ok _ _ _ _ _ _ q _ _ (by omega) ⟨l - 1, by omega, by omega, by omega, hq, fun h => hcur (by omega)⟩ FF NN
end Mine
end
section
open PySem PySem.W PyProof.Rows PySem.Calls PySem.Spec
set_option Elab.async false
set_option maxRecDepth 100000
set_option maxHeartbeats 8000000
namespace Mine
local macro_rules | `(tactic| walk_at "pad 0") => `(tactic| fail)
local macro_rules | `(tactic| walk_at "pad 1") => `(tactic| fail)
local macro_rules | `(tactic| k_room) => `(tactic| ktr_room)
local macro_rules | `(tactic| k_units) => `(tactic| ktr_units)
local macro_rules | `(tactic| k_mem) => `(tactic| first | exact List.Mem.head _ | (refine List.mem_cons_of_mem _ ?_; k_mem))
local macro_rules | `(tactic| lcg_src) => `(tactic| first | exact List.Mem.head _ | (refine List.mem_cons_of_mem _ ?_; lcg_src) | assumption)
local macro_rules | `(tactic| walk_at "callWith ref") => `(tactic| (k_here; (rename Strm _ _ _ _ _ _ _ _ _ _ _ _ _ _ _ _ => sS); k_dflt (refine' callWith_F ?k1 ?_; (case k1 => exact FnAt.of (by k_asm) (by k_mem)); k_whole)))
local macro_rules | `(tactic| walk_at "call ref") => `(tactic| (k_here; (rename Strm _ _ _ _ _ _ _ _ _ _ _ _ _ _ _ _ => sS); (with_reducible show wpAny _ _ (call (Value.ref _) [Value.int _ _]) _ _ _); k_dflt (first | (refine' strm_read 1 rfl sS ?B ?F ?X ?N ?T ?hk ?hd ?hu ?hI ?U ?hq ?hb ?hn ?_; (case F => k_asm); (case N => k_asm); (case B => k_asm); (case X => k_asm); (case T => k_asm); (case hk => first | rfl | assumption); (case hd => ktr_room); (case hu => ktr_units); (case hI => (repeat (first | assumption | refine Sub.cons ?_))); (case U => k_updF); (case hq => omega); (case hb => omega); (case hn => decide)) | (refine' strm_read _ rfl sS ?B ?F ?X ?N ?T ?hk ?hd ?hu ?hI ?U ?hq ?hb ?hn ?_; (case F => k_asm); (case N => k_asm); (case B => k_asm); (case X => k_asm); (case T => k_asm); (case hk => first | rfl | assumption); (case hd => ktr_room); (case hu => ktr_units); (case hI => (repeat (first | assumption | refine Sub.cons ?_))); (case U => k_updF); (case hq => omega); (case hb => omega); (case hn => omega))); intro h' tk' t1 t2 F' N'; (try dsimp only)))
local macro_rules | `(tactic| walk_at "exec Raise some none") => `(tactic| (k_here; (with_reducible show wpAny _ _ (exec (Stmt.Raise (some (Expr.Call (Expr.Name ("ValueError" : Str) _) (_ :: _) [] _)) none _) _) _ _ _); (with_reducible rename Fr _ _ _ _ => kF); k_dflt (refine' Raise_madeB PySem.F.excCall_ValueError PySem.F.excRaise_ValueError ?hh (name_B kF ?k1 ?k2 ?k3 PyProof.Rows.Boot.«ValueError» ?k5 ⟨rfl, ?_⟩) ?a ?b; (case hh => rfl); (case a => rfl); (case b => rfl); (case k1 => k_asm); (case k2 => k_asm); (case k3 => k_is); (case k5 => decide))))
local macro_rules | `(tactic| walk_at "ite") => `(tactic| (k_here; first | (refine ite_pos (by first | omega | (simp only [decide_eq_true_eq, beq_iff_eq]; omega)) ?_) | (refine ite_neg (by first | omega | (simp only [decide_eq_true_eq, beq_iff_eq]; omega)) ?_)))
local macro_rules | `(tactic| walk_at "binaryOp Mod str ref") => `(tactic| (k_here; k_dflt (first | ((with_reducible show wpAny _ _ (binaryOp _ (Value.str (Str.ofString "expected %d bytes in a bytes1, but only %d remain") _) _) _ _ _); refine' modB ?N ?b ?a1 ?a2 ?a3 ?a4 ?_; (case N => k_asm); (case b => k_mem); (case a1 => omega); (case a2 => omega); (case a3 => omega); (case a4 => omega)) | ((with_reducible show wpAny _ _ (binaryOp _ (Value.str (Str.ofString "expected %d bytes in a string1, but only %d remain") _) _) _ _ _); refine' modS ?N ?b ?a1 ?a2 ?a3 ?a4 ?_; (case N => k_asm); (case b => k_mem); (case a1 => omega); (case a2 => omega); (case a3 => omega); (case a4 => omega))); intro _ _))
local macro_rules | `(tactic| walk_at "ite") => `(tactic| (k_here; first | (refine ite_pos (by first | omega | (simp only [decide_eq_true_eq, beq_iff_eq, bne_iff_ne, Bool.not_eq_true', beq_eq_false_iff_ne, ne_eq, List.length_append, List.length_cons, List.length_nil]; done) | (simp only [decide_eq_true_eq, beq_iff_eq, bne_iff_ne, Bool.not_eq_true', beq_eq_false_iff_ne, ne_eq, List.length_append, List.length_cons, List.length_nil]; omega)) ?_) | (refine ite_neg (by first | omega | (simp only [decide_eq_true_eq, beq_iff_eq, bne_iff_ne, Bool.not_eq_true', beq_eq_false_iff_ne, ne_eq, List.length_append, List.length_cons, List.length_nil]; done) | (simp only [decide_eq_true_eq, beq_iff_eq, bne_iff_ne, Bool.not_eq_true', beq_eq_false_iff_ne, ne_eq, List.length_append, List.length_cons, List.length_nil]; omega)) ?_)))
local macro_rules | `(tactic| walk_at "PostY") => `(tactic| (dsimp only [PostY]))

/-- the noughts ahead of a one -/
def zerosGo (b : Array UInt8) : Nat → Nat → Nat → Option (Nat × Nat)
  | 0, P, z => some (z, P)
  | fuel + 1, P, z => if P < 8 * b.size then (if bit b P = 1 then some (z, P + 1) else zerosGo b fuel (P + 1) (z + 1)) else none
def bitsGo (b : Array UInt8) : Nat → Nat → Nat → Option (Nat × Nat)
  | 0, P, acc => some (acc, P)
  | k + 1, P, acc => if P < 8 * b.size then bitsGo b k (P + 1) (2 * acc + bit b P) else none
/-- a number read bit by bit from place P on -/
def numGo (b : Array UInt8) (P : Nat) : Option (Nat × Nat) := match zerosGo b 300 P 0 with | none => none | some (z, P1) => bitsGo b z P1 1
theorem num_some {b : Array UInt8} {P z P1 acc P2 : Nat} (h : zerosGo b 300 P 0 = some (z, P1)) (h2 : bitsGo b z P1 1 = some (acc, P2)) : numGo b P = some (acc, P2) := by unfold numGo; rw [h]; exact h2
theorem num_none2 {b : Array UInt8} {P z P1 : Nat} (h : zerosGo b 300 P 0 = some (z, P1)) (h2 : bitsGo b z P1 1 = none) : numGo b P = none := by unfold numGo; rw [h]; exact h2
theorem num_none1 {b : Array UInt8} {P : Nat} (h : zerosGo b 300 P 0 = none) : numGo b P = none := by unfold numGo; rw [h]
theorem bits_next {b : Array UInt8} {z P1 i acc : Nat} {o : Option (Nat × Nat)} (h : o = bitsGo b (z - i) (P1 + i) acc) (hi : i < z) (hl : P1 + i < 8 * b.size) : o = bitsGo b (z - (i + 1)) (P1 + (i + 1)) (2 * acc + bit b (P1 + i)) := by
  rw [h, show z - i = (z - (i + 1)) + 1 by omega, bitsGo, if_pos hl]; rfl
theorem bits_none {b : Array UInt8} {z P1 i acc : Nat} {o : Option (Nat × Nat)} (h : o = bitsGo b (z - i) (P1 + i) acc) (hi : i < z) (hl : ¬ P1 + i < 8 * b.size) : o = none := by
  rw [h, show z - i = (z - (i + 1)) + 1 by omega, bitsGo, if_neg hl]
theorem zeros_end {b : Array UInt8} {P i : Nat} (h : zerosGo b 300 P 0 = zerosGo b (300 - i) (P + i) i) (hi : i < 300) (hl : P + i < 8 * b.size) (hb : bit b (P + i) = 1) : zerosGo b 300 P 0 = some (i, P + i + 1) := by
  rw [h, show 300 - i = (299 - i) + 1 by omega, zerosGo, if_pos hl, if_pos hb]
theorem zeros_next {b : Array UInt8} {P i : Nat} (h : zerosGo b 300 P 0 = zerosGo b (300 - i) (P + i) i) (hi : i < 300) (hl : P + i < 8 * b.size) (hb : ¬ bit b (P + i) = 1) : zerosGo b 300 P 0 = zerosGo b (300 - (i + 1)) (P + (i + 1)) (i + 1) := by
  rw [h, show 300 - i = (300 - (i + 1)) + 1 by omega, zerosGo, if_pos hl, if_neg hb]; rfl
theorem zeros_none {b : Array UInt8} {P i : Nat} (h : zerosGo b 300 P 0 = zerosGo b (300 - i) (P + i) i) (hi : i < 300) (hl : ¬ P + i < 8 * b.size) : zerosGo b 300 P 0 = none := by
  rw [h, show 300 - i = (299 - i) + 1 by omega, zerosGo, if_neg hl]
theorem bst_end {b : Array UInt8} {q P : Nat} {cur left : Int} (h : BSt b q cur left P) (hP : P = 8 * b.size) : BSt b b.size cur left (8 * b.size) := by
  obtain ⟨l, h1, h2, h3, h4, h5⟩ := h
  have hq : q = b.size := by omega
  subst hq
  exact ⟨l, h1, h2, by omega, h4, h5⟩
theorem news_rot {h₀ h : Heap} {L : Addr} {a b c : Addr × Obj} {l : List (Addr × Obj)} (N : News h₀ L h (a :: b :: c :: l)) : News h₀ L h (b :: c :: a :: l) := news_sub N fun q hq => by
  simp only [List.mem_cons] at hq ⊢; rcases hq with h | h | h | h <;> simp [h]
theorem sub_sd {a b c : Addr × Obj} {l : List (Addr × Obj)} : ∀ q ∈ a :: b :: l, q ∈ a :: b :: c :: l := fun q hq => by
  simp only [List.mem_cons] at hq ⊢; rcases hq with h | h | h <;> simp [h]
theorem off_head {I d : Addr} {o : Obj} {l : List (Addr × Obj)} (h : @Ne Nat d I) (hl : OwnOff l [d]) : OwnOff ((I, o) :: l) [d] := fun q hq a ha => by
  rcases List.mem_cons.mp hq with rfl | hq
  · rw [List.mem_singleton.mp ha]; exact h.symm
  · exact hl q hq a ha
theorem num_ct (w : World) {p : Program} {loose : List Str} {mean : ExcName → Option Value} {mg mb : Str → Option Value}
  {dp un : Nat} {gd : Option (List Code)} {cn : Str} {cs : Scope} {a : Addr} {ccd : Value} {cl : List (Str × Addr)} {outer : List Env} {A₀ : Around} {base h₀ : Heap} {L : Addr} {m : Str → Option Value}
  {rest I : List (Addr × Obj)} {s : Shared} {f dx r st : Addr} {k1 k2 tq tc tl : Tok} {b : Array UInt8} {q P j : Nat} {cur left : Int} {Q E : Value → Shared → Prop}
  (B : Below A₀ base outer h₀) (F : Fr h₀ L s.heap m) (X : (hd02.heap_39 w.params).In h₀) (N : News h₀ L s.heap ((st, listOf #[.int cur tc, .int left tl] j) :: (dx, SD w.params k1 k2 r (q : Int) tq) :: rest)) (T : Top p loose mean mg mb h₀)
  (S : Strm Challenge.rw_dm0232_02.row.prog w (hd02.heap_39 w.params) p loose mean mg mb 38 f dx r k1 k2 b I) (hI : Sub I rest) (oR : OwnOff rest [dx]) (oS : OwnOff rest [st]) (hne : @Ne Nat st dx)
  (hk : cs.kind = .function) (hd : dp + 20 < recursionLimit) (hu : un + 100 < cLine) (hb : b.size ≤ 1000000) (hst : BSt b q cur left P)
  (ok : ∀ num P' h' tk t1 t2 tc' tl' q' cur' left', numGo b P = some (num, P') → BSt b q' cur' left' P' → Fr h₀ L h' m → News h₀ L h' ((st, listOf #[.int cur' tc', .int left' tl'] j) :: (dx, SD w.params k1 k2 r (q' : Int) t1) :: rest) → Q (.int (num : Int) t2) { s with heap := h', toks := tk })
  (err : ∀ g e t u h' tk t1 tc' tl' cur' left', numGo b P = none → BSt b b.size cur' left' (8 * b.size) → Fr h₀ L g m → RaisedS base g (envX cn cs L a ccd cl :: outer) e (.type "ValueError") t [.str msg0 u] ((st, listOf #[.int cur' tc', .int left' tl'] j) :: (dx, SD w.params k1 k2 r (b.size : Int) t1) :: rest) h' → g.UpToSlots h' → E (.ref e) { s with heap := h', toks := tk }) :
  wpAny (model Challenge.rw_dm0232_02.row.prog w) (ktrTop dp un gd cn cs L a ccd cl outer) (call (.ref 63) [.ref f, .ref st]) Q E s := by
  revert X; k_fill; intro X
  have hMk := kstMark
  have mi := hI _ S.inst
  have D0 : KtsDicts [] h₀ := ktsDicts_nil
  refine wpAny_call ?_
  k_dflt ktr_enter
  repeat' (first | (k_unfold; (try dsimp only)) | ((fail_if_success (with_reducible show wpAny _ _ (exec (Stmt.For _ _ _ _ _) _) _ _ _)); first | (k_end; wrow_close) | walk1 | (dsimp only; walk1) | (leave1; try dsimp only)))
  refine wpAny_For ?_
  repeat' (first | (k_unfold; (try dsimp only)) | ((fail_if_success (with_reducible show wpAny _ _ (pyIter _) _ _ _)); first | (k_end; wrow_close) | walk1 | (dsimp only; walk1) | (leave1; try dsimp only)))
  rename IsRange _ _ _ _ _ _ _ _ => rg
  rename Fr _ _ _ _ => FF
  rename News _ _ _ _ => NN
  k_dflt (refine iterG_range (n := 300) (fun i mm nx => ∃ q cur left tc tl tq v t, nx = (st, listOf #[.int cur tc, .int left tl] j) :: (dx, SD w.params k1 k2 r ((q : Nat) : Int) tq) :: rest ∧ BSt b q cur left (P + i) ∧ zerosGo b 300 P 0 = zerosGo b (300 - i) (P + i) i ∧ v = ((i : Nat) : Int) ∧ mm (Str.ofString "f") = some (.ref f) ∧ mm (Str.ofString "state") = some (.ref st) ∧ mm (Str.ofString "zeros") = some (.int v t)) rfl rg (by decide) (by decide) FF NN ⟨_, _, _, _, _, _, _, _, rfl, hst, rfl, rfl, rfl, rfl, rfl⟩ (by passes_own) ?turn ?done)
  case done =>
    rintro m9 nx9 h9 tk9 ⟨q, cur, left, tc, tl, tq, v, t, rfl, hst, hgo1, rfl, hf, hs, hz⟩ F9 N9
    have hgo : zerosGo b 300 P 0 = some (300, P + 300) := hgo1
    have F10 := fr_names F9 [(Str.ofString "f", .ref f), (Str.ofString "state", .ref st), (Str.ofString "zeros", .int ((300 : Nat) : Int) t)] (by
      intro q9 hq9; simp only [List.mem_cons, List.not_mem_nil, or_false] at hq9; rcases hq9 with rfl | rfl | rfl <;> assumption)
    clear F9 FF NN rg hf hs hz
    dsimp only
    repeat' (first | (k_unfold; (try dsimp only)) | ((fail_if_success (with_reducible show wpAny _ _ (exec (Stmt.For _ _ _ _ _) _) _ _ _)); first | (k_end; wrow_close) | walk1 | (dsimp only; walk1) | (leave1; try dsimp only)))
    refine wpAny_For ?_
    repeat' (first | (k_unfold; (try dsimp only)) | ((fail_if_success (with_reducible show wpAny _ _ (pyIter _) _ _ _)); first | (k_end; wrow_close) | walk1 | (dsimp only; walk1) | (leave1; try dsimp only)))
    rename IsRange _ _ _ _ _ _ _ _ => rg
    rename Fr _ _ _ _ => FF
    rename News _ _ _ _ => NN
    k_dflt (refine iterG_range (n := 300) (fun i2 mm nx => ∃ q cur left tc tl tq acc v t, nx = (st, listOf #[.int cur tc, .int left tl] j) :: (dx, SD w.params k1 k2 r ((q : Nat) : Int) tq) :: rest ∧ BSt b q cur left (P + 300 + i2) ∧ i2 ≤ 300 ∧ bitsGo b 300 (P + 300) 1 = bitsGo b (300 - i2) (P + 300 + i2) acc ∧ v = (acc : Int) ∧ mm (Str.ofString "f") = some (.ref f) ∧ mm (Str.ofString "state") = some (.ref st) ∧ mm (Str.ofString "number") = some (.int v t)) rfl rg (small_one (by omega) (by omega) (by omega) (by omega)) (by rw [rangeSize_nat]; omega) FF NN ⟨_, _, _, _, _, _, 1, _, _, rfl, hst, Nat.zero_le _, rfl, rfl, rfl, rfl, rfl⟩ (by passes_own) ?turn2 ?done2)
    case done2 =>
      rintro m9 nx9 h9 tk9 ⟨q, cur, left, tc, tl, tq, acc, v, t, rfl, hst, hile, hgo2, rfl, hf, hs, hn⟩ F9 N9
      have F10 := fr_names F9 [(Str.ofString "f", .ref f), (Str.ofString "state", .ref st), (Str.ofString "number", .int (acc : Int) t)] (by
        intro q9 hq9; simp only [List.mem_cons, List.not_mem_nil, or_false] at hq9; rcases hq9 with rfl | rfl | rfl <;> assumption)
      clear F9 FF NN rg hf hs hn
      dsimp only
      k_steps
      rename News h₀ L _ _ => NN
      rename Fr h₀ L _ m => FF
      exact ok acc (P + 300 + 300) _ _ _ _ _ _ _ _ _ (num_some hgo (by rw [hgo2, Nat.sub_self]; rfl)) hst FF NN
    case turn2 =>
      rintro I9 i2 t9 m9 nx9 h9 tk9 oI hoT hi9 hne9 ⟨q, cur, left, tc, tl, tq, acc, v, t, rfl, hst, hile, hgo2, rfl, hf, hs, hn⟩ F9 N9
      simp only [List.forall_mem_cons] at hne9
      obtain ⟨n1, n2, hnR⟩ := hne9
      have F10 := fr_names F9 [(Str.ofString "f", .ref f), (Str.ofString "state", .ref st), (Str.ofString "number", .int (acc : Int) t)] (by
        intro q9 hq9; simp only [List.mem_cons, List.not_mem_nil, or_false] at hq9; rcases hq9 with rfl | rfl | rfl <;> assumption)
      clear F9 FF NN rg hf hs hn
      repeat' (first | (k_unfold; (try dsimp only)) | ((fail_if_success (with_reducible show wpAny _ _ (call (Value.ref 56) _) _ _ _)); first | (k_end; wrow_close) | walk1 | (dsimp only; walk1) | (leave1; try dsimp only)))
      rename News _ _ _ _ => NN; rename Fr _ _ _ _ => FF
      k_dflt (refine' bit_ct w (rest := (I9, oI) :: rest) (P := P + 300 + i2) (cur := cur) (left := left) ?B ?F ?X (news_rot NN) ?T S (Sub.cons hI) (off_head (Ne.symm (Ne.symm n2)) oR) (off_head n1 oS) hne ?hk ?hd ?hu hb hst ?ok2 ?err2; (case B => k_asm); (case F => k_asm); (case X => k_asm); (case T => k_asm); (case hk => first | rfl | assumption); (case hd => ktr_room); (case hu => ktr_units))
      case ok2 =>
        clear FF NN
        intro h5 tk5 t5 t6 tc5 tl5 q5 cur5 left5 hlt hst5 F5 N5
        k_steps
        rename Fr _ _ _ _ => FF
        rename News _ _ _ _ => NN
        exact EndY.intro FF NN ⟨_, _, _, _, _, _, 2 * acc + bit b (P + 300 + i2), _, _, rfl, hst5, by omega, bits_next hgo2 hi9 hlt, by simp [Int.natCast_add, Int.natCast_mul], rfl, rfl, rfl⟩ sub_sd (.tail _ (.tail _ (.head _))) (by simp only [List.forall_mem_cons]; exact ⟨n1, n2, hnR⟩)
      case err2 =>
        clear FF NN
        intro g5 e5 t5 u5 h5 tk5 t6 hE F5 R5 U5
        k_steps
        rename RaisedS _ _ _ _ _ _ _ _ _ => RR
        rename Fr h₀ L _ m => FF
        rename Heap.UpToSlots _ _ => UU
        exact err _ _ _ _ _ _ _ _ _ _ _ (num_none2 hgo (bits_none hgo2 hi9 (by omega))) (bst_end hst hE) FF (raised_sub RR sub_sd) UU
  case turn =>
    rintro I9 i t9 m9 nx9 h9 tk9 oI hoT hi9 hne9 ⟨q, cur, left, tc, tl, tq, v, t, rfl, hst, hgo1, rfl, hf, hs, hz⟩ F9 N9
    simp only [List.forall_mem_cons] at hne9
    obtain ⟨n1, n2, hnR⟩ := hne9
    have F10 := fr_names F9 [(Str.ofString "f", .ref f), (Str.ofString "state", .ref st), (Str.ofString "zeros", .int (i : Int) t)] (by
      intro q9 hq9; simp only [List.mem_cons, List.not_mem_nil, or_false] at hq9; rcases hq9 with rfl | rfl | rfl <;> assumption)
    clear F9 FF NN rg hf hs hz
    repeat' (first | (k_unfold; (try dsimp only)) | ((fail_if_success (with_reducible show wpAny _ _ (call (Value.ref 56) _) _ _ _)); first | (k_end; wrow_close) | walk1 | (dsimp only; walk1) | (leave1; try dsimp only)))
    rename News _ _ _ _ => NN; rename Fr _ _ _ _ => FF
    k_dflt (refine' bit_ct w (rest := (I9, oI) :: rest) (P := P + i) (cur := cur) (left := left) ?B ?F ?X (news_rot NN) ?T S (Sub.cons hI) (off_head (Ne.symm (Ne.symm n2)) oR) (off_head n1 oS) hne ?hk ?hd ?hu hb hst ?ok ?err; (case B => k_asm); (case F => k_asm); (case X => k_asm); (case T => k_asm); (case hk => first | rfl | assumption); (case hd => ktr_room); (case hu => ktr_units))
    case ok =>
      clear FF NN
      intro h5 tk5 t5 t6 tc5 tl5 q5 cur5 left5 hlt hst5 F5 N5
      by_cases hb1 : bit b (P + i) = 1
      case pos =>
        have hbi : (bit b (P + i) : Int) = 1 := by omega
        have hgo := zeros_end hgo1 hi9 hlt hb1
        clear hst hgo1
        have N6 := news_sub N5 sub_sd
        clear N5
        have hst : BSt b q5 cur5 left5 (P + i + 1 + 0) := hst5
        repeat' (first | (k_unfold; (try dsimp only)) | ((fail_if_success (with_reducible show wpAny _ _ (exec (Stmt.For _ _ _ _ _) _) _ _ _)); first | (k_end; wrow_close) | walk1 | (dsimp only; walk1) | (leave1; try dsimp only)))
        refine wpAny_For ?_
        repeat' (first | (k_unfold; (try dsimp only)) | ((fail_if_success (with_reducible show wpAny _ _ (pyIter _) _ _ _)); first | (k_end; wrow_close) | walk1 | (dsimp only; walk1) | (leave1; try dsimp only)))
        rename IsRange _ _ _ _ _ _ _ _ => rg
        rename Fr _ _ _ _ => FF
        rename News _ _ _ _ => NN
        k_dflt (refine iterG_range (n := i) (fun i2 mm nx => ∃ q cur left tc tl tq acc v t, nx = (st, listOf #[.int cur tc, .int left tl] j) :: (dx, SD w.params k1 k2 r ((q : Nat) : Int) tq) :: rest ∧ BSt b q cur left (P + i + 1 + i2) ∧ i2 ≤ i ∧ bitsGo b i (P + i + 1) 1 = bitsGo b (i - i2) (P + i + 1 + i2) acc ∧ v = (acc : Int) ∧ mm (Str.ofString "f") = some (.ref f) ∧ mm (Str.ofString "state") = some (.ref st) ∧ mm (Str.ofString "number") = some (.int v t)) rfl rg (small_one (by omega) (by omega) (by omega) (by omega)) (by rw [rangeSize_nat]; omega) FF NN ⟨_, _, _, _, _, _, 1, _, _, rfl, hst, Nat.zero_le _, rfl, rfl, rfl, rfl, rfl⟩ (by passes_own) ?turn2 ?done2)
        case done2 =>
          rintro m9 nx9 h9 tk9 ⟨q, cur, left, tc, tl, tq, acc, v, t, rfl, hst, hile, hgo2, rfl, hf, hs, hn⟩ F9 N9
          have F10 := fr_names F9 [(Str.ofString "f", .ref f), (Str.ofString "state", .ref st), (Str.ofString "number", .int (acc : Int) t)] (by
            intro q9 hq9; simp only [List.mem_cons, List.not_mem_nil, or_false] at hq9; rcases hq9 with rfl | rfl | rfl <;> assumption)
          clear F9 FF NN rg hf hs hn
          dsimp only
          k_steps
          rename News h₀ L _ _ => NN
          rename Fr h₀ L _ m => FF
          exact ok acc (P + i + 1 + i) _ _ _ _ _ _ _ _ _ (num_some hgo (by rw [hgo2, Nat.sub_self]; rfl)) hst FF NN
        case turn2 =>
          rintro I9 i2 t9 m9 nx9 h9 tk9 oI hoT hi9 hne9 ⟨q, cur, left, tc, tl, tq, acc, v, t, rfl, hst, hile, hgo2, rfl, hf, hs, hn⟩ F9 N9
          simp only [List.forall_mem_cons] at hne9
          obtain ⟨n1, n2, hnR⟩ := hne9
          have F10 := fr_names F9 [(Str.ofString "f", .ref f), (Str.ofString "state", .ref st), (Str.ofString "number", .int (acc : Int) t)] (by
            intro q9 hq9; simp only [List.mem_cons, List.not_mem_nil, or_false] at hq9; rcases hq9 with rfl | rfl | rfl <;> assumption)
          clear F9 FF NN rg hf hs hn
          repeat' (first | (k_unfold; (try dsimp only)) | ((fail_if_success (with_reducible show wpAny _ _ (call (Value.ref 56) _) _ _ _)); first | (k_end; wrow_close) | walk1 | (dsimp only; walk1) | (leave1; try dsimp only)))
          rename News _ _ _ _ => NN; rename Fr _ _ _ _ => FF
          k_dflt (refine' bit_ct w (rest := (I9, oI) :: rest) (P := P + i + 1 + i2) (cur := cur) (left := left) ?B ?F ?X (news_rot NN) ?T S (Sub.cons hI) (off_head (Ne.symm (Ne.symm n2)) oR) (off_head n1 oS) hne ?hk ?hd ?hu hb hst ?ok2 ?err2; (case B => k_asm); (case F => k_asm); (case X => k_asm); (case T => k_asm); (case hk => first | rfl | assumption); (case hd => ktr_room); (case hu => ktr_units))
          case ok2 =>
            clear FF NN
            intro h5 tk5 t5 t6 tc5 tl5 q5 cur5 left5 hlt hst5 F5 N5
            k_steps
            rename Fr _ _ _ _ => FF
            rename News _ _ _ _ => NN
            exact EndY.intro FF NN ⟨_, _, _, _, _, _, 2 * acc + bit b (P + i + 1 + i2), _, _, rfl, hst5, by omega, bits_next hgo2 hi9 hlt, by simp [Int.natCast_add, Int.natCast_mul], rfl, rfl, rfl⟩ sub_sd (.tail _ (.tail _ (.head _))) (by simp only [List.forall_mem_cons]; exact ⟨n1, n2, hnR⟩)
          case err2 =>
            clear FF NN
            intro g5 e5 t5 u5 h5 tk5 t6 hE F5 R5 U5
            k_steps
            rename RaisedS _ _ _ _ _ _ _ _ _ => RR
            rename Fr h₀ L _ m => FF
            rename Heap.UpToSlots _ _ => UU
            exact err _ _ _ _ _ _ _ _ _ _ _ (num_none2 hgo (bits_none hgo2 hi9 (by omega))) (bst_end hst hE) FF (raised_sub RR sub_sd) UU
      case neg =>
        have hbi : ¬ (bit b (P + i) : Int) = 1 := by omega
        k_steps
        rename Fr _ _ _ _ => FF
        rename News _ _ _ _ => NN
        exact EndY.intro FF NN ⟨_, _, _, _, _, _, _, _, rfl, hst5, zeros_next hgo1 hi9 hlt hb1, by omega, rfl, rfl, rfl⟩ sub_sd (.tail _ (.tail _ (.head _))) (by simp only [List.forall_mem_cons]; exact ⟨n1, n2, hnR⟩)
    case err =>
      clear FF NN
      intro g5 e5 t5 u5 h5 tk5 t6 hE F5 R5 U5
      k_steps
      rename RaisedS _ _ _ _ _ _ _ _ _ => RR
      rename Fr h₀ L _ m => FF
      rename Heap.UpToSlots _ _ => UU
      exact err _ _ _ _ _ _ _ _ _ _ _ (num_none1 (zeros_none hgo1 hi9 (by omega))) (bst_end hst hE) FF (raised_sub RR sub_sd) UU
end Mine
end
section
open PySem PySem.W PyProof.Rows PySem.Calls PySem.Spec
set_option Elab.async false
set_option maxRecDepth 100000
set_option maxHeartbeats 8000000
namespace Mine
local macro_rules | `(tactic| walk_at "pad 0") => `(tactic| fail)
local macro_rules | `(tactic| walk_at "pad 1") => `(tactic| fail)
/-- the numbers that stand whole ahead of the bit at P -/
inductive Nums (b : Array UInt8) : List Int → Nat → Prop where
  | nil : Nums b [] 0
  | snoc {xs : List Int} {P P' x : Nat} : Nums b xs P → numGo b P = some (x, P') → Nums b (xs ++ [(x : Int)]) P'
def Ends (b : Array UInt8) (xs : List Int) : Prop := ∃ P, Nums b xs P ∧ numGo b P = none
theorem num_at_end (b : Array UInt8) : numGo b (8 * b.size) = none := by
  unfold numGo
  rw [show zerosGo b 300 (8 * b.size) 0 = none by rw [show 300 = 299 + 1 from rfl, zerosGo, if_neg (by omega)]]
theorem news_r4 {h₀ h : Heap} {L : Addr} {a b c d : Addr × Obj} {l : List (Addr × Obj)} (N : News h₀ L h (a :: b :: c :: d :: l)) : News h₀ L h (c :: d :: a :: b :: l) := news_sub N fun q hq => by
  simp only [List.mem_cons] at hq ⊢; rcases hq with h | h | h | h | h <;> simp [h]
theorem sub_four {a b c d : Addr × Obj} {rest own : List (Addr × Obj)} : ∀ q ∈ a :: b :: c :: d :: rest, q ∈ c :: d :: a :: b :: (rest ++ own) := fun q hq => by
  simp only [List.mem_cons, List.mem_append] at hq ⊢; rcases hq with h | h | h | h | h <;> simp [h]
theorem own_four {a b c d : Addr × Obj} {rest own : List (Addr × Obj)} : ∀ q ∈ own, q ∈ a :: b :: c :: d :: (rest ++ own) := fun q hq => by
  simp only [List.mem_cons, List.mem_append]; simp [hq]
theorem news_run {h₀ h : Heap} {L : Addr} {a b c d e : Addr × Obj} {R I T own : List (Addr × Obj)} (N : News h₀ L h (a :: b :: c :: d :: e :: (R ++ own))) (hR : R = I ++ T) : News h₀ L h (a :: e :: d :: T) := news_sub N fun q hq => by
  subst hR
  simp only [List.mem_cons, List.mem_append] at hq ⊢
  rcases hq with h | h | h | h <;> simp [h]
theorem off_cc {I d : Addr} {o : Obj} {l : List (Addr × Obj)} (h : @Ne Nat I d) (hl : OwnOff l [d]) : OwnOff ((I, o) :: l) [d] := off_head h.symm hl
local macro_rules | `(tactic| k_room) => `(tactic| ktr_room)
local macro_rules | `(tactic| k_units) => `(tactic| ktr_units)
local macro_rules | `(tactic| k_mem) => `(tactic| first | exact List.Mem.head _ | (refine List.mem_cons_of_mem _ ?_; k_mem))
local macro_rules | `(tactic| walk_at "callWith ref") => `(tactic| (k_here; (rename Strm _ _ _ _ _ _ _ _ _ _ _ _ _ _ _ _ => sS); k_dflt (refine' callWith_F ?k1 ?_; (case k1 => exact FnAt.of (by k_asm) (by k_mem)); k_whole)))
local macro_rules | `(tactic| walk_at "call ref") => `(tactic| (k_here; (rename Strm _ _ _ _ _ _ _ _ _ _ _ _ _ _ _ _ => sS); (with_reducible show wpAny _ _ (call (Value.ref _) [Value.int _ _]) _ _ _); k_dflt (first | (refine' strm_read 1 rfl sS ?B ?F ?X ?N ?T ?hk ?hd ?hu ?hI ?U ?hq ?hb ?hn ?_; (case F => k_asm); (case N => k_asm); (case B => k_asm); (case X => k_asm); (case T => k_asm); (case hk => first | rfl | assumption); (case hd => ktr_room); (case hu => ktr_units); (case hI => (repeat (first | assumption | refine Sub.cons ?_))); (case U => k_updF); (case hq => omega); (case hb => omega); (case hn => decide)) | (refine' strm_read _ rfl sS ?B ?F ?X ?N ?T ?hk ?hd ?hu ?hI ?U ?hq ?hb ?hn ?_; (case F => k_asm); (case N => k_asm); (case B => k_asm); (case X => k_asm); (case T => k_asm); (case hk => first | rfl | assumption); (case hd => ktr_room); (case hu => ktr_units); (case hI => (repeat (first | assumption | refine Sub.cons ?_))); (case U => k_updF); (case hq => omega); (case hb => omega); (case hn => omega))); intro h' tk' t1 t2 F' N'; (try dsimp only)))
local macro_rules | `(tactic| walk_at "exec Raise some none") => `(tactic| (k_here; (with_reducible show wpAny _ _ (exec (Stmt.Raise (some (Expr.Call (Expr.Name ("ValueError" : Str) _) (_ :: _) [] _)) none _) _) _ _ _); (with_reducible rename Fr _ _ _ _ => kF); k_dflt (refine' Raise_madeB PySem.F.excCall_ValueError PySem.F.excRaise_ValueError ?hh (name_B kF ?k1 ?k2 ?k3 PyProof.Rows.Boot.«ValueError» ?k5 ⟨rfl, ?_⟩) ?a ?b; (case hh => rfl); (case a => rfl); (case b => rfl); (case k1 => k_asm); (case k2 => k_asm); (case k3 => k_is); (case k5 => decide))))
local macro_rules | `(tactic| walk_at "ite") => `(tactic| (k_here; first | (refine ite_pos (by first | omega | (simp only [decide_eq_true_eq, beq_iff_eq]; omega)) ?_) | (refine ite_neg (by first | omega | (simp only [decide_eq_true_eq, beq_iff_eq]; omega)) ?_)))
local macro_rules | `(tactic| walk_at "binaryOp Mod str ref") => `(tactic| (k_here; k_dflt (first | ((with_reducible show wpAny _ _ (binaryOp _ (Value.str (Str.ofString "expected %d bytes in a bytes1, but only %d remain") _) _) _ _ _); refine' modB ?N ?b ?a1 ?a2 ?a3 ?a4 ?_; (case N => k_asm); (case b => k_mem); (case a1 => omega); (case a2 => omega); (case a3 => omega); (case a4 => omega)) | ((with_reducible show wpAny _ _ (binaryOp _ (Value.str (Str.ofString "expected %d bytes in a string1, but only %d remain") _) _) _ _ _); refine' modS ?N ?b ?a1 ?a2 ?a3 ?a4 ?_; (case N => k_asm); (case b => k_mem); (case a1 => omega); (case a2 => omega); (case a3 => omega); (case a4 => omega))); intro _ _))
local macro_rules | `(tactic| walk_at "call builtin:len") => `(tactic| (k_here; (with_reducible show wpAny _ _ (call (Value.builtin "len") [Value.ref _]) _ _ _); k_dflt (refine' kst_len ?k1 ?k2 rfl ?k4 ?_; (case k1 => k_asm); (case k2 => k_mem); (case k4 => ((try simp only [List.length_append, List.length_cons, List.length_nil]); omega)))))
local macro_rules | `(tactic| walk_at "ite") => `(tactic| (k_here; first | (refine ite_pos (by first | omega | (simp only [decide_eq_true_eq, beq_iff_eq, bne_iff_ne, Bool.not_eq_true', beq_eq_false_iff_ne, ne_eq, List.length_append, List.length_cons, List.length_nil]; done) | (simp only [decide_eq_true_eq, beq_iff_eq, bne_iff_ne, Bool.not_eq_true', beq_eq_false_iff_ne, ne_eq, List.length_append, List.length_cons, List.length_nil]; omega)) ?_) | (refine ite_neg (by first | omega | (simp only [decide_eq_true_eq, beq_iff_eq, bne_iff_ne, Bool.not_eq_true', beq_eq_false_iff_ne, ne_eq, List.length_append, List.length_cons, List.length_nil]; done) | (simp only [decide_eq_true_eq, beq_iff_eq, bne_iff_ne, Bool.not_eq_true', beq_eq_false_iff_ne, ne_eq, List.length_append, List.length_cons, List.length_nil]; omega)) ?_)))
local macro_rules | `(tactic| walk_at "PostX") => `(tactic| (dsimp only [PostX]))

theorem run_ct (w : World) {p : Program} {loose : List Str} {mean : ExcName → Option Value} {mg mb : Str → Option Value}
  {dp un : Nat} {gd : Option (List Code)} {cn : Str} {cs : Scope} {a : Addr} {ccd : Value} {cl : List (Str × Addr)} {A₀ : Around} {base h₀ : Heap} {L : Addr} {m : Str → Option Value}
  {rest T : List (Addr × Obj)} {s : Shared} {b : Array UInt8} {tb tt : Tok} {tries : Nat} {Q E : Value → Shared → Prop}
  (B : Below A₀ base [] h₀) (F : Fr h₀ L s.heap m) (X : (hd02.heap_39 w.params).In h₀) (N : News h₀ L s.heap (T ++ rest)) (TT : Top p loose mean mg mb h₀)
  (XB : (hd02.heap_39 w.params).In base) (TB : Top p loose mean mg mb base)
  (H : CodeHd h₀ 48 44) (hT : Tab 44 (rawInt 15) (rawInt 4) (Str.ofString "_law_stream.<locals>._law_read") T) (hoff : OwnOff rest [44])
  (hk : cs.kind = .function) (hd : dp + 60 < recursionLimit) (hu : un + 300 < cLine) (hb : b.size ≤ 1000000) (htr : tries ≤ 1000) (hmax : ∀ xs P, Nums b xs P → xs.length + 2 ≤ tries)
  (ok : ∀ h' tk T' tp li lw vs xs j jw jt u1 u2 u3, Tab 44 (rawInt 15) (rawInt 4) (Str.ofString "_law_stream.<locals>._law_read") T' → (∀ q ∈ T' ++ rest, q.1 < li) → li < lw → lw < tp →
    IntsAre vs xs → Ends b xs → Fr h₀ L h' m → News h₀ L h' ((tp, { cls := .type "tuple", data := .seq #[.ref li, .ref lw, .int (b.size : Int) u1] jt }) :: (li, listOf vs.toArray j) :: (lw, listOf #[.str msg0 u2, .str msg0 u3] jw) :: (T' ++ rest)) → Q (.ref tp) { s with heap := h', toks := tk }) :
  wpAny (model Challenge.rw_dm0232_02.row.prog w) (ktrTop dp un gd cn cs L a ccd cl []) (call (.ref 70) [.bytes b tb, .int (tries : Int) tt]) Q E s := by
  revert X; k_fill; intro X
  have hMk := kstMark
  have D0 : KtsDicts [] h₀ := ktsDicts_nil
  obtain ⟨R0, hR0⟩ : ∃ R, R = T ++ rest := ⟨_, rfl⟩
  rw [← hR0] at N
  refine wpAny_call ?_
  k_dflt (refine' code_defSX ?k1 ?k2 ?k3 ?k4 ?k5 ?kA ?k6 ?k7 ?k8 ?k9 ?kB ?_ ?cK ?c2 ?c3 ?c4 ?c5; (case kA => exact rfl); (case k2 => k_asm); (case k1 => k_asm); (case k3 => k_asm); (case k4 => k_asm); (case k5 => k_asm); (case k6 => k_is); (case k7 => k_is); (case k8 => k_room); (case k9 => exact BindsTo.of_eq rfl); (case kB => exact locs rfl); (case cK => assumption); (case c2 => exact rfl); (case c3 => exact rfl); (case c4 => exact rfl); (case c5 => decide); k_whole; intro g' L' h' FG' F' N' B' X' T' D'; (try dsimp only); (try k_lift B'); (try k_fold))

  have H' : CodeHd g' 48 44 := H.keeps FG'.keep
  repeat' (first | (k_unfold; (try dsimp only)) | ((fail_if_success (with_reducible show wpAny _ _ (call (Value.ref 49) _) _ _ _)); first | (k_end; wrow_close) | walk1 | (dsimp only; walk1) | (leave1; try dsimp only)))
  rename Fr g' L' _ _ => F1
  rename News g' L' _ _ => N1
  rw [hR0] at N1
  k_dflt (refine stream_ct w (T := T) (rest := rest) B' F1 X' N1 T' H' hT hoff rfl ?_ ?_)
  · ktr_room
  intro f dx r k1 k2 tp0 I T2 h2 tk2 S hT2 o1 o2 o3 F2 N2
  clear F1 N1
  obtain ⟨R, hR⟩ : ∃ R, R = I ++ (T2 ++ rest) := ⟨_, rfl⟩
  rw [← hR] at N2
  have oR : OwnOff R [dx] := by
    intro q hq c hc; rw [hR] at hq; simp only [List.mem_append] at hq; rcases hq with h | h | h
    · exact S.off q h c hc
    · exact o2 q h c hc
    · exact o3 q h c hc
  have hm : Sub I R := fun e he => by rw [hR]; simp [he]
  have mi := hm _ S.inst
  clear o1 o2 o3
  repeat' (first | (k_unfold; (try dsimp only)) | ((fail_if_success (with_reducible show wpAny _ _ (exec (Stmt.For _ _ _ _ _) _) _ _ _)); first | (k_end; wrow_close) | walk1 | (dsimp only; walk1) | (leave1; try dsimp only)))
  refine wpAny_For ?_
  repeat' (first | (k_unfold; (try dsimp only)) | ((fail_if_success (with_reducible show wpAny _ _ (pyIter _) _ _ _)); first | (k_end; wrow_close) | walk1 | (dsimp only; walk1) | (leave1; try dsimp only)))
  rename IsRange _ _ _ _ _ _ _ _ => rg
  rename Fr g' L' _ _ => FF
  rename News g' L' _ _ => NN
  have hs0 : BSt b 0 0 0 0 := ⟨0, rfl, by omega, rfl, Nat.zero_le _, fun h => absurd h (by omega)⟩
  rename_i tc0 tl0 st0 h9b hst0 h9c tk9b li h9d hli h9e tk9c lw h9f hlw h9g _ _ h9h tk9d u1 u2 u3 aa

  k_dflt (refine iterX_range (n := tries) (g₀ := g') (fun i mm nx => ∃ q cur left tc tl t P vs xs j ws jw, nx = (lw, listOf ws.toArray jw) :: (li, listOf vs.toArray j) :: (st0, listOf #[.int cur tc, .int left tl] 0) :: (dx, SD w.params k1 k2 r ((q : Nat) : Int) t) :: R ∧ IntsAre vs xs ∧ BSt b q cur left P ∧
    ((ws = [] ∧ jw = 0 ∧ i = xs.length ∧ Nums b xs P) ∨ (∃ u, ws = [.str msg0 u] ∧ q = b.size ∧ P = 8 * b.size ∧ i = xs.length + 1 ∧ Ends b xs)) ∧
      mm (Str.ofString "f") = some (.ref f) ∧ mm (Str.ofString "state") = some (.ref st0) ∧ mm (Str.ofString "told") = some (.ref li) ∧ mm (Str.ofString "words") = some (.ref lw)) rfl rg (small_one (by omega) (by omega) (by omega) (by omega)) (by rw [rangeSize_nat]; omega) rfl rfl ⟨KtsTurn.refl, FF, NN, B', X', T', D'⟩ ⟨0, _, _, _, _, _, _, [], [], 0, [], 0, rfl, .nil, hs0, .inl ⟨rfl, rfl, rfl, .nil⟩, rfl, rfl, rfl, rfl⟩ (by passes_own) ?turn ?done)
  case done =>
    rintro g9 m9 nx9 h9 tk9 ⟨q, cur, left, tc, tl, t, P, vs, xs, j, ws, jw, rfl, hvs, hst, hc, hf, hs, hi, hw⟩ X9
    exfalso
    rcases hc with ⟨_, _, h1, h2⟩ | ⟨_, _, _, _, h1, P3, h2, h3⟩
    · have := hmax _ _ h2; omega
    · have := hmax _ _ h2; omega
  case turn =>
    rintro i t9 g9 m9 nx9 h9 tk9 own hi9 ha ho9 ⟨q, cur, left, tc, tl, t, P, vs, xs, j, ws, jw, rfl, hvs, hst, hc, hf, hs, hi, hw⟩ ⟨T9, F9, N9, B9, X9, P9, D9⟩
    have F10 := fr_names F9 [(Str.ofString "f", .ref f), (Str.ofString "state", .ref st0), (Str.ofString "told", .ref li), (Str.ofString "words", .ref lw)] (by
      intro q9 hq9; simp only [List.mem_cons, List.not_mem_nil, or_false] at hq9; rcases hq9 with rfl | rfl | rfl | rfl <;> exact (if_neg (by dsimp only; decide)).trans (by assumption))
    have hvl := hvs.length
    simp only [List.cons_append, List.map_cons] at N9 ho9 ha
    have hm2 : Sub I (R ++ own) := fun e he => List.mem_append.mpr (.inl (hm e he))
    have oRl : OwnOff R [lw, li, st0] := off_cons (off_lt (d := lw) hlw.2.2.2 (by intro a ha; rw [List.mem_singleton.mp ha]; exact Nat.le_refl _)) (off_cons (off_lt (d := li) hli.2.2 (by intro a ha; rw [List.mem_singleton.mp ha]; exact Nat.le_refl _)) (off_lt (d := st0) hst0.2 (by intro a ha; rw [List.mem_singleton.mp ha]; exact Nat.le_refl _)))
    have hsd : @Ne Nat st0 dx := Nat.ne_of_gt hst0.1
    have oRo : ∀ d ∈ [lw, li, st0, dx], OwnOff (R ++ own) [d] := fun d hd => off_app (by
      simp only [List.mem_cons, List.not_mem_nil, or_false] at hd
      rcases hd with rfl | rfl | rfl | rfl
      · exact off_sub oRl (by simp)
      · exact off_sub oRl (by simp)
      · exact off_sub oRl (by simp)
      · exact oR) (off_sub ho9 (by simp only [List.mem_cons, List.not_mem_nil, or_false] at hd ⊢; intro b hb; subst hb; rcases hd with rfl | rfl | rfl | rfl <;> simp))
    have oR9 : ∀ {o1 o2 : Obj}, OwnOff ((lw, o1) :: (li, o2) :: (R ++ own)) [dx] := off_cc (Nat.ne_of_gt hlw.2.2.1) (off_cc (Nat.ne_of_gt hli.2.1) (oRo _ (by simp)))
    have oS9 : ∀ {o1 o2 : Obj}, OwnOff ((lw, o1) :: (li, o2) :: (R ++ own)) [st0] := off_cc (Nat.ne_of_gt hlw.2.1) (off_cc (Nat.ne_of_gt hli.1) (oRo _ (by simp)))
    clear F9 FF NN rg hf hs hi hw
    rcases hc with ⟨rfl, rfl, hix, hto⟩ | ⟨u, rfl, rfl, rfl, hib, hen⟩
    · have hxl := hmax _ _ hto
      repeat' (first | (k_unfold; (try dsimp only)) | ((fail_if_success (with_reducible show wpAny _ _ (call (Value.ref 63) _) _ _ _)); first | (k_end; wrow_close) | walk1 | (dsimp only; walk1) | (leave1; try dsimp only)))
      rename Fr _ _ _ _ => FF
      rename News _ _ _ _ => NN
      k_dflt (refine' num_ct w (rest := (lw, _) :: (li, _) :: (R ++ own)) (P := P) (cur := cur) (left := left) ?nB9 ?nF9 ?nX9 (news_r4 NN) ?nT9 S (Sub.cons (Sub.cons hm2)) oR9 oS9 hsd ?nhk9 ?nhd9 ?nhu9 hb hst ?ok ?err; (case nB9 => k_asm); (case nF9 => k_asm); (case nX9 => k_asm); (case nT9 => k_asm); (case nhk9 => first | rfl | assumption); (case nhd9 => ktr_room); (case nhu9 => ktr_units))
      case ok =>
        clear FF NN
        intro num P' h5 tk5 t5 t6 tc5 tl5 q5 cur5 left5 hgo hst5 F5 N5
        k_steps
        rename Fr _ L' _ _ => FF
        rename News _ L' _ _ => NN
        simp only [List.push_toArray] at NN
        exact EndX.intro T9 FF NN B9 X9 P9 D9 ⟨_, _, _, _, _, _, _, _, _, _, [], _, rfl, ints_snoc hvs _ _, hst5, .inl ⟨rfl, rfl, by rw [List.length_append, List.length_singleton]; omega, hto.snoc hgo⟩, rfl, rfl, rfl, rfl⟩ (by rfl) sub_four own_four
      case err =>
        clear FF NN
        intro g5 e5 t5 u5 h5 tk5 t6 tc5 tl5 cur5 left5 hgo hst5 F5 R5 U5
        k_steps
        rename KtsTurn _ g' _ => T10
        rename Fr _ L' _ _ => FF
        rename News _ L' _ _ => NN
        rename Below _ base _ _ => B10
        rename Frag.In _ _ => X10
        rename Top _ _ _ _ _ _ => P10
        rename KtsDicts _ _ => D10
        (try simp only [List.push_toArray] at NN)
        exact EndX.intro T10 FF NN B10 X10 P10 D10 ⟨b.size, _, _, _, _, _, _, _, _, _, [_], _, rfl, hvs, hst5, .inr ⟨_, rfl, rfl, rfl, by omega, P, hto, hgo⟩, rfl, rfl, rfl, rfl⟩ (by rfl) sub_four own_four
    · repeat' (first | (k_unfold; (try dsimp only)) | ((fail_if_success (with_reducible show wpAny _ _ (call (Value.ref 63) _) _ _ _)); first | (k_end; wrow_close) | walk1 | (dsimp only; walk1) | (leave1; try dsimp only)))
      rename Fr _ _ _ _ => FF
      rename News _ _ _ _ => NN
      k_dflt (refine' num_ct w (rest := (lw, _) :: (li, _) :: (R ++ own)) (P := 8 * b.size) (cur := cur) (left := left) ?nB9 ?nF9 ?nX9 (news_r4 NN) ?nT9 S (Sub.cons (Sub.cons hm2)) oR9 oS9 hsd ?nhk9 ?nhd9 ?nhu9 hb hst ?ok ?err; (case nB9 => k_asm); (case nF9 => k_asm); (case nX9 => k_asm); (case nT9 => k_asm); (case nhk9 => first | rfl | assumption); (case nhd9 => ktr_room); (case nhu9 => ktr_units))
      case ok =>
        intro num P' h5 tk5 t5 t6 tc5 tl5 q5 cur5 left5 hgo hst5 F5 N5
        rw [num_at_end] at hgo; cases hgo
      case err =>
        clear FF NN
        intro g5 e5 t5 u5 h5 tk5 t6 tc5 tl5 cur5 left5 hgo hst5 F5 R5 U5
        k_steps
        rename News h₀ L _ _ => NN
        rename Fr h₀ L _ m => FF
        rename _ < _ ∧ _ ∧ _ ∧ _ => hlt
        trace_state
        exact ok _ _ T2 _ li lw vs xs _ _ _ _ _ _ hT2 (fun q hq => kst_ltOf hli.2.2 q (by rw [hR]; exact List.mem_append_right _ hq)) hlw.1 hlt.2.2.1 hvs hen FF (news_run NN hR)
end Mine
end
section
open PySem PySem.W PyProof.Rows PySem.Calls PySem.Spec
set_option Elab.async false
namespace Mine
/-- the figures of a number, the highest first: the places 9 down to 9 - i -/
def figP (x : Int) (i : Nat) : List Int := ((List.range i).filter fun j => decide ((2 : Int) ^ (9 - j) ≤ x)).map fun j => (x.fdiv (2 ^ (9 - j))).fmod 2
theorem figP_yes {x : Int} {i : Nat} (h : (2 : Int) ^ (9 - i) ≤ x) : figP x (i + 1) = figP x i ++ [(x.fdiv (2 ^ (9 - i))).fmod 2] := by
  unfold figP
  rw [List.range_succ, List.filter_append, List.filter_cons_of_pos (by simpa using h), List.filter_nil, List.map_append]; rfl
theorem figP_no {x : Int} {i : Nat} (h : ¬ (2 : Int) ^ (9 - i) ≤ x) : figP x (i + 1) = figP x i := by
  unfold figP
  rw [List.range_succ, List.filter_append, List.filter_cons_of_neg (by simpa using h), List.filter_nil, List.append_nil]
def figs (x : Int) : List Int := figP x 10
def zeros (k : Nat) : List Int := List.replicate k 0
def code (x : Int) : List Int := zeros ((figs x).length - 1) ++ figs x
def foldB (l : List Int) (acc : Int) : Int := l.foldl (fun a c => 2 * a + c) acc
/-- what the figures are good for -/
def figOK (x : Nat) : Bool := match figs (x : Int) with
  | [] => false
  | a :: r => (a == 1) && r.all (fun c => c == 0 || c == 1) && (foldB r 1 == (x : Int)) && decide (r.length ≤ 9)
theorem fig_all : ∀ x < 600, figOK (x + 1) = true := by decide +kernel
theorem fig_split {x : Int} (h : 1 ≤ x ∧ x ≤ 600) : ∃ r, figs x = 1 :: r ∧ (∀ c ∈ r, c = 0 ∨ c = 1) ∧ foldB r 1 = x ∧ r.length ≤ 9 := by
  have e := fig_all (x.toNat - 1) (by omega)
  rw [show x.toNat - 1 + 1 = x.toNat by omega] at e
  unfold figOK at e
  rw [show ((x.toNat : Nat) : Int) = x by omega] at e
  cases hf : figs x with
  | nil => rw [hf] at e; cases e
  | cons a r =>
    rw [hf] at e
    simp only [Bool.and_eq_true, beq_iff_eq, List.all_eq_true, Bool.or_eq_true, decide_eq_true_eq] at e
    exact ⟨r, by rw [e.1.1.1], e.1.1.2, e.1.2, e.2⟩
def bitsOf (xs : List Int) : List Int := xs.flatMap code
theorem bitsOf_snoc (xs : List Int) (x : Int) : bitsOf (xs ++ [x]) = bitsOf xs ++ code x := by unfold bitsOf; simp
theorem bitsOf_append (xs ys : List Int) : bitsOf (xs ++ ys) = bitsOf xs ++ bitsOf ys := by unfold bitsOf; simp
def InN (xs : List Int) : Prop := ∀ x ∈ xs, 1 ≤ x ∧ x ≤ 600
theorem code_shape {x : Int} (h : 1 ≤ x ∧ x ≤ 600) : ∃ r, code x = zeros r.length ++ (1 :: r) ∧ (∀ c ∈ r, c = 0 ∨ c = 1) ∧ foldB r 1 = x ∧ r.length ≤ 9 := by
  obtain ⟨r, e, h1, h2, h3⟩ := fig_split h
  exact ⟨r, by unfold code; rw [e]; rfl, h1, h2, h3⟩
theorem code_len {x : Int} (h : 1 ≤ x ∧ x ≤ 600) : 1 ≤ (code x).length ∧ (code x).length ≤ 19 := by
  obtain ⟨r, e, _, _, h3⟩ := code_shape h
  rw [e]; unfold zeros; simp; omega
theorem code_01 {x : Int} (h : 1 ≤ x ∧ x ≤ 600) : ∀ c ∈ code x, c = 0 ∨ c = 1 := by
  obtain ⟨r, e, h1, _, _⟩ := code_shape h
  rw [e]; unfold zeros
  intro c hc
  simp only [List.mem_append, List.mem_replicate, List.mem_cons] at hc
  rcases hc with hc | rfl | hc
  · exact .inl hc.2
  · exact .inr rfl
  · exact h1 c hc
theorem bits_01 {xs : List Int} (h : InN xs) : ∀ c ∈ bitsOf xs, c = 0 ∨ c = 1 := fun c hc => by
  obtain ⟨x, hx, hc⟩ := List.mem_flatMap.mp hc
  exact code_01 (h x hx) c hc
theorem bits_len {xs : List Int} (h : InN xs) : (bitsOf xs).length ≤ 19 * xs.length := by
  induction xs with
  | nil => simp [bitsOf]
  | cons x xs ih =>
    have h1 := (code_len (h x (.head _))).2
    have h2 := ih fun y hy => h y (.tail _ hy)
    show (code x ++ bitsOf xs).length ≤ _
    rw [List.length_append, List.length_cons]; omega
def padOf (n : Nat) : Nat := ((-(n : Int)).fmod 8).toNat
theorem pad_lt (n : Nat) : padOf n < 8 ∧ (n + padOf n) % 8 = 0 := by
  unfold padOf
  rw [Int.fmod_eq_emod_of_nonneg _ (by decide)]
  omega
def padded (xs : List Int) : List Int := bitsOf xs ++ zeros (padOf (bitsOf xs).length)
theorem padded_01 {xs : List Int} (h : InN xs) : ∀ c ∈ padded xs, c = 0 ∨ c = 1 := fun c hc => by
  unfold padded zeros at hc
  rcases List.mem_append.mp hc with hc | hc
  · exact bits_01 h c hc
  · exact .inl (List.mem_replicate.mp hc).2
theorem padded_len (xs : List Int) : (padded xs).length = (bitsOf xs).length + padOf (bitsOf xs).length := by unfold padded zeros; simp
theorem padded_mod (xs : List Int) : (padded xs).length % 8 = 0 := by rw [padded_len]; exact (pad_lt _).2
/-- an octet of eight bits, summed as the law sums it -/
def octT (B : List Int) (p i : Nat) : List Int := (List.range i).map fun k => B.getD (8 * p + k) 0 * 2 ^ (7 - k)
def octF (B : List Int) (p : Nat) : Int := (octT B p 8).sum
def octsF (B : List Int) (n : Nat) : List Int := (List.range n).map (octF B)
theorem octsF_snoc (B : List Int) (n : Nat) : octsF B (n + 1) = octsF B n ++ [octF B n] := by unfold octsF; rw [List.range_succ, List.map_append]; rfl
theorem octT_snoc (B : List Int) (p n : Nat) : octT B p (n + 1) = octT B p n ++ [B.getD (8 * p + n) 0 * 2 ^ (7 - n)] := by unfold octT; rw [List.range_succ, List.map_append]; rfl
theorem octF_eq (B : List Int) (p : Nat) : octF B p = B.getD (8 * p) 0 * 128 + B.getD (8 * p + 1) 0 * 64 + B.getD (8 * p + 2) 0 * 32 + B.getD (8 * p + 3) 0 * 16 + B.getD (8 * p + 4) 0 * 8 + B.getD (8 * p + 5) 0 * 4 + B.getD (8 * p + 6) 0 * 2 + B.getD (8 * p + 7) 0 := by
  unfold octF octT
  simp only [List.range, List.range.loop, List.map_cons, List.map_nil, List.sum_cons, List.sum_nil, Nat.add_zero]
  simp only [show (2 : Int) ^ (7 - 0) = 128 from rfl, show (2 : Int) ^ (7 - 1) = 64 from rfl, show (2 : Int) ^ (7 - 2) = 32 from rfl, show (2 : Int) ^ (7 - 3) = 16 from rfl, show (2 : Int) ^ (7 - 4) = 8 from rfl, show (2 : Int) ^ (7 - 5) = 4 from rfl, show (2 : Int) ^ (7 - 6) = 2 from rfl, show (2 : Int) ^ (7 - 7) = 1 from rfl]
  omega
theorem getD_01 {B : List Int} (h : ∀ c ∈ B, c = 0 ∨ c = 1) (i : Nat) : B.getD i 0 = 0 ∨ B.getD i 0 = 1 := by
  rw [List.getD_eq_getElem?_getD]
  cases e : B[i]? with
  | none => exact .inl rfl
  | some c => exact h c (List.mem_of_getElem? e)
theorem octF_in {B : List Int} (h : ∀ c ∈ B, c = 0 ∨ c = 1) (p : Nat) : 0 ≤ octF B p ∧ octF B p < 256 := by
  have a : ∀ i, 0 ≤ B.getD i 0 ∧ B.getD i 0 ≤ 1 := fun i => by rcases getD_01 h i with e | e <;> rw [e] <;> decide
  rw [octF_eq]
  have a0 := a (8 * p)
  have a1 := a (8 * p + 1)
  have a2 := a (8 * p + 2)
  have a3 := a (8 * p + 3)
  have a4 := a (8 * p + 4)
  have a5 := a (8 * p + 5)
  have a6 := a (8 * p + 6)
  have a7 := a (8 * p + 7)
  omega
theorem octs_in {B : List Int} (h : ∀ c ∈ B, c = 0 ∨ c = 1) (n : Nat) : KBa.In (octsF B n) := fun k hk => by
  obtain ⟨p, _, rfl⟩ := List.mem_map.mp hk
  exact octF_in h p
theorem octsF_len (B : List Int) (n : Nat) : (octsF B n).length = n := by unfold octsF; simp
theorem oct_byteArr {ks : List Int} (h : KBa.In ks) (p : Nat) : (oct (byteArr ks) p : Int) = ks.getD p 0 := by
  unfold oct byteArr
  simp only [List.getD_eq_getElem?_getD, List.getElem?_map]
  cases e : ks[p]? with
  | none => simp
  | some k =>
    have := h k (List.mem_of_getElem? e)
    simp only [Option.map_some, Option.getD_some]
    rw [Nat.toUInt8, UInt8.toNat_ofNat']
    omega
theorem octs_getD {B : List Int} {n c p : Nat} (h : p < c) (hc : c ≤ n) : ((octsF B n).take c).getD p 0 = octF B p := by
  unfold octsF
  rw [List.getD_eq_getElem?_getD, List.getElem?_take, if_pos h, List.getElem?_map, List.getElem?_range (by omega)]; rfl
theorem bits8 {o : Nat} {c0 c1 c2 c3 c4 c5 c6 c7 : Int} (h0 : 0 ≤ c0 ∧ c0 ≤ 1) (h1 : 0 ≤ c1 ∧ c1 ≤ 1) (h2 : 0 ≤ c2 ∧ c2 ≤ 1) (h3 : 0 ≤ c3 ∧ c3 ≤ 1) (h4 : 0 ≤ c4 ∧ c4 ≤ 1) (h5 : 0 ≤ c5 ∧ c5 ≤ 1) (h6 : 0 ≤ c6 ∧ c6 ≤ 1) (h7 : 0 ≤ c7 ∧ c7 ≤ 1)
    (e : (o : Int) = c0 * 128 + c1 * 64 + c2 * 32 + c3 * 16 + c4 * 8 + c5 * 4 + c6 * 2 + c7) :
    ((o / 128 % 2 : Nat) : Int) = c0 ∧ ((o / 64 % 2 : Nat) : Int) = c1 ∧ ((o / 32 % 2 : Nat) : Int) = c2 ∧ ((o / 16 % 2 : Nat) : Int) = c3 ∧ ((o / 8 % 2 : Nat) : Int) = c4 ∧ ((o / 4 % 2 : Nat) : Int) = c5 ∧ ((o / 2 % 2 : Nat) : Int) = c6 ∧ ((o / 1 % 2 : Nat) : Int) = c7 := by
  refine ⟨?_, ?_, ?_, ?_, ?_, ?_, ?_, ?_⟩ <;> omega
theorem getD_bd {B : List Int} (h : ∀ c ∈ B, c = 0 ∨ c = 1) (i : Nat) : 0 ≤ B.getD i 0 ∧ B.getD i 0 ≤ 1 := by
  rcases getD_01 h i with e | e <;> rw [e] <;> decide
theorem bit_is {B : List Int} (h : ∀ c ∈ B, c = 0 ∨ c = 1) {n c : Nat} (hc : c ≤ n) {P : Nat} (hP : P < 8 * c) : (bit (byteArr ((octsF B n).take c)) P : Int) = B.getD P 0 := by
  have hin : KBa.In ((octsF B n).take c) := fun k hk => octs_in h n k (List.mem_of_mem_take hk)
  have e := oct_byteArr hin (P / 8)
  rw [octs_getD (by omega) hc, octF_eq] at e
  unfold bit
  obtain ⟨p, hp⟩ : ∃ p, p = P / 8 := ⟨_, rfl⟩
  rw [← hp] at e ⊢
  have hr : P = 8 * p ∨ P = 8 * p + 1 ∨ P = 8 * p + 2 ∨ P = 8 * p + 3 ∨ P = 8 * p + 4 ∨ P = 8 * p + 5 ∨ P = 8 * p + 6 ∨ P = 8 * p + 7 := by omega
  obtain ⟨g0, g1, g2, g3, g4, g5, g6, g7⟩ := bits8 (getD_bd h _) (getD_bd h _) (getD_bd h _) (getD_bd h _) (getD_bd h _) (getD_bd h _) (getD_bd h _) (getD_bd h _) e
  rcases hr with r | r | r | r | r | r | r | r
  · rw [r, show 8 * p % 8 = 0 by omega]; exact g0
  · rw [r, show (8 * p + 1) % 8 = 1 by omega]; exact g1
  · rw [r, show (8 * p + 2) % 8 = 2 by omega]; exact g2
  · rw [r, show (8 * p + 3) % 8 = 3 by omega]; exact g3
  · rw [r, show (8 * p + 4) % 8 = 4 by omega]; exact g4
  · rw [r, show (8 * p + 5) % 8 = 5 by omega]; exact g5
  · rw [r, show (8 * p + 6) % 8 = 6 by omega]; exact g6
  · rw [r, show (8 * p + 7) % 8 = 7 by omega]; exact g7
theorem zeros_run {b : Array UInt8} : ∀ (k fuel P z : Nat), k < fuel → (∀ j < k, P + j < 8 * b.size → bit b (P + j) = 0) → zerosGo b fuel P z = if P + k ≤ 8 * b.size then zerosGo b (fuel - k) (P + k) (z + k) else none
  | 0, fuel, P, z, _, _ => by
    by_cases h : P ≤ 8 * b.size
    · rw [if_pos (by omega)]; rfl
    · rw [if_neg (by omega)]
      cases fuel with
      | zero => omega
      | succ fuel => rw [zerosGo, if_neg (by omega)]
  | k + 1, fuel, P, z, hf, hz => by
    cases fuel with
    | zero => omega
    | succ fuel =>
      by_cases h : P < 8 * b.size
      · have h0 := hz 0 (by omega) (by omega)
        rw [Nat.add_zero] at h0
        rw [zerosGo, if_pos h, if_neg (by omega), zeros_run k fuel (P + 1) (z + 1) (by omega) fun j hj hl => by
          have := hz (j + 1) (by omega) (by omega)
          rwa [show P + 1 + j = P + (j + 1) by omega]]
        rw [show P + 1 + k = P + (k + 1) by omega, show z + 1 + k = z + (k + 1) by omega, show fuel + 1 - (k + 1) = fuel - k by omega]
      · rw [zerosGo, if_neg h, if_neg (by omega)]
theorem bits_run {b : Array UInt8} : ∀ (l : List Int) (P acc : Nat), (∀ j < l.length, P + j < 8 * b.size → (bit b (P + j) : Int) = l.getD j 0) → bitsGo b l.length P acc = if P + l.length ≤ 8 * b.size ∨ l = [] then some ((foldB l acc).toNat, P + l.length) else none
  | [], P, acc, _ => by simp [bitsGo, foldB]
  | c :: l, P, acc, h => by
    rw [List.length_cons, bitsGo]
    by_cases hl : P < 8 * b.size
    · have h0 := h 0 (by simp) (by omega)
      rw [Nat.add_zero] at h0
      simp only [List.getD_cons_zero] at h0
      rw [if_pos hl, bits_run l (P + 1) _ fun j hj hq => by
        have := h (j + 1) (by rw [List.length_cons]; omega) (by omega)
        rw [show P + 1 + j = P + (j + 1) by omega, this, List.getD_cons_succ]]
      have e : foldB (c :: l) (acc : Int) = foldB l ((2 * acc + bit b P : Nat) : Int) := by unfold foldB; rw [List.foldl_cons]; congr 1; omega
      rw [e, show P + 1 + l.length = P + (l.length + 1) by omega]
      by_cases hn : P + (l.length + 1) ≤ 8 * b.size
      · rw [if_pos (.inl hn), if_pos (.inl hn)]
      · have : l ≠ [] := fun e => hn (by rw [e, List.length_nil]; omega)
        rw [if_neg (by simp [this]; omega), if_neg (by simp; omega)]
    · rw [if_neg hl, if_neg (by simp; omega)]
/-- a number's code, read -/
theorem code_read {b : Array UInt8} {x : Int} {P : Nat} (hx : 1 ≤ x ∧ x ≤ 600) (h : ∀ j < (code x).length, P + j < 8 * b.size → (bit b (P + j) : Int) = (code x).getD j 0) :
    numGo b P = if P + (code x).length ≤ 8 * b.size then some (x.toNat, P + (code x).length) else none := by
  obtain ⟨r, e, h1, h2, h3⟩ := code_shape hx
  have hl : (code x).length = r.length + (r.length + 1) := by rw [e]; unfold zeros; simp
  rw [hl] at h ⊢
  rw [e] at h
  have g0 : ∀ j < r.length, P + j < 8 * b.size → bit b (P + j) = 0 := fun j hj hq => by
    have := h j (by omega) hq
    unfold zeros at this
    rw [List.getD_eq_getElem?_getD, List.getElem?_append_left (by simpa using hj), List.getElem?_replicate, if_pos hj, Option.getD_some] at this
    omega
  have g1 : P + r.length < 8 * b.size → bit b (P + r.length) = 1 := fun hq => by
    have := h r.length (by omega) hq
    unfold zeros at this
    rw [List.getD_eq_getElem?_getD, List.getElem?_append_right (by simp)] at this
    simp at this
    omega
  have g2 : ∀ j < r.length, P + r.length + 1 + j < 8 * b.size → (bit b (P + r.length + 1 + j) : Int) = r.getD j 0 := fun j hj hq => by
    have := h (r.length + 1 + j) (by omega) (by omega)
    unfold zeros at this
    rw [List.getD_eq_getElem?_getD, List.getElem?_append_right (by simp; omega), List.length_replicate, show r.length + 1 + j - r.length = j + 1 by omega, List.getElem?_cons_succ, ← List.getD_eq_getElem?_getD] at this
    rw [← this]; congr 2; omega
  unfold numGo
  rw [zeros_run r.length 300 P 0 (by omega) g0]
  by_cases hz : P + r.length < 8 * b.size
  · rw [if_pos (by omega), show 300 - r.length = (299 - r.length) + 1 by omega, zerosGo, if_pos hz, if_pos (g1 hz)]
    dsimp only
    rw [Nat.zero_add, bits_run r (P + r.length + 1) 1 g2]
    rw [show ((1 : Nat) : Int) = 1 from rfl, h2, show P + r.length + 1 + r.length = P + (r.length + (r.length + 1)) by omega]
    by_cases hn : P + (r.length + (r.length + 1)) ≤ 8 * b.size
    · rw [if_pos (.inl hn), if_pos hn]
    · have : r ≠ [] := fun e => hn (by rw [e] at hz ⊢; simp at hz ⊢; omega)
      rw [if_neg (by simp [this]; omega), if_neg hn]
  · by_cases hz2 : P + r.length ≤ 8 * b.size
    · rw [if_pos hz2, show 300 - r.length = (299 - r.length) + 1 by omega, zerosGo, if_neg hz]
      rw [if_neg (by omega)]
    · rw [if_neg hz2]
      rw [if_neg (by omega)]
theorem pad_read {b : Array UInt8} {P : Nat} (hp : 8 * b.size < P + 300) (h : ∀ j, P + j < 8 * b.size → bit b (P + j) = 0) : numGo b P = none := by
  unfold numGo
  have := zeros_run (b := b) 299 300 P 0 (by omega) fun j _ hq => h j hq
  rw [this]
  by_cases hq : P + 299 ≤ 8 * b.size
  · have e : P + 299 = 8 * b.size := by omega
    rw [if_pos hq, show 300 - 299 = 0 + 1 from rfl, zerosGo, if_neg (by omega)]
  · rw [if_neg hq]
/-- the octets cut: what is read of them -/
def cutA (xs : List Int) (c : Nat) : Array UInt8 := byteArr ((octsF (padded xs) ((padded xs).length / 8)).take c)
theorem cutA_size {xs : List Int} {c : Nat} (h : c ≤ (padded xs).length / 8) : (cutA xs c).size = c := by
  unfold cutA; rw [byteArr_size, List.length_take, octsF_len]; omega
theorem cutA_bit {xs : List Int} (hx : InN xs) {c : Nat} (h : c ≤ (padded xs).length / 8) {P : Nat} (hP : P < 8 * c) : (bit (cutA xs c) P : Int) = (padded xs).getD P 0 := bit_is (padded_01 hx) h hP
theorem take_split {xs : List Int} {i : Nat} (h : i < xs.length) : padded xs = bitsOf (xs.take i) ++ (code (xs.getD i 0) ++ (bitsOf (xs.drop (i + 1)) ++ zeros (padOf (bitsOf xs).length))) := by
  unfold padded
  conv => lhs; lhs; rw [← List.take_append_drop i xs, List.drop_eq_getElem_cons h, bitsOf_append]
  rw [List.append_assoc]
  congr 1
  show (code xs[i] ++ bitsOf (xs.drop (i + 1))) ++ _ = _
  rw [List.append_assoc, List.getD_eq_getElem?_getD, List.getElem?_eq_getElem h, Option.getD_some]
theorem take_next {xs : List Int} {i : Nat} (h : i < xs.length) : xs.take (i + 1) = xs.take i ++ [xs.getD i 0] := by
  rw [List.take_add_one, List.getD_eq_getElem?_getD, List.getElem?_eq_getElem h]; rfl
theorem read_at {xs : List Int} (hx : InN xs) {c : Nat} (hc : c ≤ (padded xs).length / 8) {i : Nat} (hi : i < xs.length) :
    numGo (cutA xs c) (bitsOf (xs.take i)).length = if (bitsOf (xs.take (i + 1))).length ≤ 8 * c then some ((xs.getD i 0).toNat, (bitsOf (xs.take (i + 1))).length) else none := by
  have hxi : 1 ≤ xs.getD i 0 ∧ xs.getD i 0 ≤ 600 := by
    rw [List.getD_eq_getElem?_getD, List.getElem?_eq_getElem hi, Option.getD_some]; exact hx _ (List.getElem_mem hi)
  rw [take_next hi, bitsOf_snoc, List.length_append]
  rw [code_read hxi, cutA_size hc]
  intro j hj hq
  rw [cutA_size hc] at hq
  rw [cutA_bit hx hc hq, take_split hi, List.getD_eq_getElem?_getD, List.getElem?_append_right (by omega), Nat.add_sub_cancel_left, List.getElem?_append_left hj, ← List.getD_eq_getElem?_getD]
theorem read_end {xs : List Int} (hx : InN xs) {c : Nat} (hc : c ≤ (padded xs).length / 8) : numGo (cutA xs c) (bitsOf xs).length = none := by
  have h1 := padded_len xs
  have h2 := pad_lt (bitsOf xs).length
  refine pad_read (by rw [cutA_size hc]; omega) fun j hq => ?_
  rw [cutA_size hc] at hq
  have e := cutA_bit hx hc hq
  have e2 : (padded xs).getD ((bitsOf xs).length + j) 0 = 0 := by
    unfold padded zeros
    rw [List.getD_eq_getElem?_getD, List.getElem?_append_right (by omega), Nat.add_sub_cancel_left, List.getElem?_replicate]
    split <;> rfl
  omega
theorem nums_are {xs : List Int} (hx : InN xs) {c : Nat} (hc : c ≤ (padded xs).length / 8) {ys : List Int} {P : Nat} (h : Nums (cutA xs c) ys P) : ∃ i, i ≤ xs.length ∧ ys = xs.take i ∧ P = (bitsOf (xs.take i)).length ∧ P ≤ 8 * c := by
  induction h with
  | nil => exact ⟨0, Nat.zero_le _, by simp, by simp [bitsOf], Nat.zero_le _⟩
  | snoc _ hg ih =>
    obtain ⟨i, hi, rfl, rfl, hP⟩ := ih
    by_cases hl : i < xs.length
    · rw [read_at hx hc hl] at hg
      split at hg
      · rename_i hle
        simp only [Option.some.injEq, Prod.mk.injEq] at hg
        obtain ⟨rfl, rfl⟩ := hg
        have hxi : 1 ≤ xs.getD i 0 := by
          rw [List.getD_eq_getElem?_getD, List.getElem?_eq_getElem hl, Option.getD_some]; exact (hx _ (List.getElem_mem hl)).1
        exact ⟨i + 1, hl, by rw [take_next hl]; congr 2; omega, rfl, hle⟩
      · cases hg
    · rw [List.take_of_length_le (by omega), read_end hx hc] at hg; cases hg
theorem nums_max {xs : List Int} (hx : InN xs) {c : Nat} (hc : c ≤ (padded xs).length / 8) {ys : List Int} {P : Nat} (h : Nums (cutA xs c) ys P) : ys.length ≤ xs.length := by
  obtain ⟨i, _, rfl, _⟩ := nums_are hx hc h
  rw [List.length_take]; omega
def endsL (xs : List Int) (n : Nat) : List Int := (List.range n).map fun i => ((bitsOf (xs.take (i + 1))).length : Int)
theorem endsL_snoc (xs : List Int) (n : Nat) : endsL xs (n + 1) = endsL xs n ++ [((bitsOf (xs.take (n + 1))).length : Int)] := by unfold endsL; rw [List.range_succ, List.map_append]; rfl
theorem endsL_len (xs : List Int) (n : Nat) : (endsL xs n).length = n := by unfold endsL; simp
theorem endsL_get {xs : List Int} {n k : Nat} (h : k < n) : (endsL xs n).getD k 0 = ((bitsOf (xs.take (k + 1))).length : Int) := by
  unfold endsL; rw [List.getD_eq_getElem?_getD, List.getElem?_map, List.getElem?_range h]; rfl
/-- the numbers that are due of the octets ahead of a cut, as the law picks them -/
def dueP (xs es : List Int) (z : Int) (i : Nat) : List Int := ((List.range i).filter fun k => decide (es.getD k 0 ≤ z)).map fun k => xs.getD k 0
theorem dueP_yes {xs es : List Int} {z : Int} {i : Nat} (h : es.getD i 0 ≤ z) : dueP xs es z (i + 1) = dueP xs es z i ++ [xs.getD i 0] := by
  unfold dueP
  rw [List.range_succ, List.filter_append, List.filter_cons_of_pos (by simpa using h), List.filter_nil, List.map_append]; rfl
theorem dueP_no {xs es : List Int} {z : Int} {i : Nat} (h : ¬ es.getD i 0 ≤ z) : dueP xs es z (i + 1) = dueP xs es z i := by
  unfold dueP
  rw [List.range_succ, List.filter_append, List.filter_cons_of_neg (by simpa using h), List.filter_nil, List.append_nil]
theorem ends_mono {xs : List Int} {i j : Nat} (h : i ≤ j) : (bitsOf (xs.take i)).length ≤ (bitsOf (xs.take j)).length := by
  have e : xs.take j = xs.take i ++ (xs.take j).drop i := by
    conv => lhs; rw [← List.take_append_drop i (xs.take j), List.take_take, Nat.min_eq_left h]
  rw [e, bitsOf_append, List.length_append]; omega
theorem due_take {xs : List Int} {c i : Nat} (hi : i ≤ xs.length) (h1 : (bitsOf (xs.take i)).length ≤ 8 * c) (h2 : i < xs.length → 8 * c < (bitsOf (xs.take (i + 1))).length) :
    ∀ k, k ≤ xs.length → dueP xs (endsL xs xs.length) (8 * (c : Int)) k = xs.take (min i k) := by
  intro k
  induction k with
  | zero => intro _; simp [dueP]
  | succ k ih =>
    intro hk
    have e := endsL_get (xs := xs) (n := xs.length) (k := k) (by omega)
    by_cases hki : k < i
    · have hm := ends_mono (xs := xs) (i := k + 1) (j := i) (by omega)
      rw [dueP_yes (by rw [e]; omega), ih (by omega), show min i k = k by omega, show min i (k + 1) = k + 1 by omega, take_next (by omega)]
    · have hm := ends_mono (xs := xs) (i := i + 1) (j := k + 1) (by omega)
      have := h2 (by omega)
      rw [dueP_no (by rw [e]; omega), ih (by omega), show min i k = i by omega, show min i (k + 1) = i by omega]
theorem due_is {xs : List Int} (hx : InN xs) {c : Nat} (hc : c ≤ (padded xs).length / 8) {ys : List Int} (h : Ends (cutA xs c) ys) : ys = dueP xs (endsL xs xs.length) (8 * (c : Int)) xs.length := by
  obtain ⟨P, hn, hg⟩ := h
  obtain ⟨i, hi, rfl, rfl, hP⟩ := nums_are hx hc hn
  rw [due_take hi hP (fun hl => ?_) _ (Nat.le_refl _), Nat.min_eq_left hi]
  rw [read_at hx hc hl] at hg
  by_cases hq : (bitsOf (xs.take (i + 1))).length ≤ 8 * c
  · rw [if_pos hq] at hg; cases hg
  · omega
end Mine
end
section
open PySem PySem.W PyProof.Rows PySem.Calls PySem.Spec
set_option Elab.async false
set_option maxRecDepth 100000
set_option maxHeartbeats 8000000
namespace Mine
local macro_rules | `(tactic| k_room) => `(tactic| ktr_room)
local macro_rules | `(tactic| k_units) => `(tactic| ktr_units)
local macro_rules | `(tactic| k_mem) => `(tactic| first | exact List.Mem.head _ | (refine List.mem_cons_of_mem _ ?_; k_mem))
local macro_rules | `(tactic| lcg_src) => `(tactic| first | exact List.Mem.head _ | (refine List.mem_cons_of_mem _ ?_; lcg_src) | assumption)
local macro_rules | `(tactic| walk_at "callWith ref") => `(tactic| (k_here; (with_reducible show wpAny _ _ (callWith _ (Value.ref 70) _ _ _) _ _ _); k_dflt (refine' callWith_K ?k1 ?k2 ?_; (case k1 => k_asm); (case k2 => k_is); k_whole)))
local macro_rules | `(tactic| walk_at "call builtin:len") => `(tactic| (k_here; (with_reducible show wpAny _ _ (call (Value.builtin "len") [Value.ref _]) _ _ _); k_dflt (refine' kst_len ?k1 ?k2 rfl ?k4 ?_; (case k1 => k_asm); (case k2 => lcg_src); (case k4 => ((try simp only [List.length_append, List.length_cons, List.length_nil]); omega)))))
local macro_rules | `(tactic| walk_at "ite") => `(tactic| (k_here; first | (refine ite_pos (by first | omega | (simp only [decide_eq_true_eq, beq_iff_eq, bne_iff_ne, Bool.not_eq_true', beq_eq_false_iff_ne, ne_eq, List.length_append, List.length_cons, List.length_nil]; done) | (simp only [decide_eq_true_eq, beq_iff_eq, bne_iff_ne, Bool.not_eq_true', beq_eq_false_iff_ne, ne_eq, List.length_append, List.length_cons, List.length_nil]; omega)) ?_) | (refine ite_neg (by first | omega | (simp only [decide_eq_true_eq, beq_iff_eq, bne_iff_ne, Bool.not_eq_true', beq_eq_false_iff_ne, ne_eq, List.length_append, List.length_cons, List.length_nil]; done) | (simp only [decide_eq_true_eq, beq_iff_eq, bne_iff_ne, Bool.not_eq_true', beq_eq_false_iff_ne, ne_eq, List.length_append, List.length_cons, List.length_nil]; omega)) ?_)))
local macro_rules | `(tactic| walk_at "call type:type") => `(tactic| ((with_reducible show wpAny _ _ (call _ [Value.bytes _ _]) _ _ _); refine call_type_of (Tx := "bytes") rfl (by decide +kernel) ?_))
local macro_rules | `(tactic| walk_at "call type:bytes") => `(tactic| (k_here; (with_reducible show wpAny _ _ (call (Value.type "bytes") [Value.ref _]) _ _ _); k_dflt (refine' make_bytes ?F ?N ?h ?l ?i ?z ?_; (case F => k_asm); (case N => k_asm); (case h => rfl); (case l => k_mem); (case i => assumption); (case z => ((try rw [cutB_size]); omega))); intro h' t' k' F' N'; (try k_sweep)))
local macro_rules | `(tactic| walk_at "compareOp NotEq bytes bytes") => `(tactic| (k_here; refine ne_bytes_same (by first | rfl | assumption | exact Eq.symm (by assumption)) ?_))
local macro_rules | `(tactic| walk_at "compareOp Eq bytes bytes") => `(tactic| (k_here; refine eq_bytes_same (by first | rfl | assumption | exact Eq.symm (by assumption)) ?_))
local macro_rules | `(tactic| walk_at "compareOp NotEq str str") => `(tactic| (k_here; refine ne_str_same (by first | rfl | assumption | exact Eq.symm (by assumption)) ?_))
local macro_rules | `(tactic| walk_at "PostX") => `(tactic| (dsimp only [PostX]))
local macro_rules | `(tactic| lcg_src) => `(tactic| first | exact List.Mem.head _ | (refine List.mem_cons_of_mem _ ?_; lcg_src) | assumption)
local macro_rules | `(tactic| ked_reads) => `(tactic| first | exact SameL.nil | (refine SameL.cons ?_ ?_; (ked_read); (ked_reads)) | exact SameL.ints (by assumption) (by assumption) | exact SameL.strs (by assumption) (by assumption) | exact SameL.bytes (by assumption) (by assumption))
local macro_rules | `(tactic| ked_read) => `(tactic| first | exact Same.int _ _ _ | exact Same.str _ _ _ | exact Same.bytes _ _ _ | exact Same.rfl _ | (refine same_list (by k_asm) (by lcg_src) (by lcg_src) ?_; ked_reads) | (refine same_tup (by k_asm) (by lcg_src) (by lcg_src) ?_; ked_reads))
local macro_rules | `(tactic| walk_at "compareOp NotEq ref ref") => `(tactic| (k_here; k_dflt (first | (refine' ne_listL ?N ?a ?b ?e ?u ?_; (case N => k_asm); (case a => lcg_src); (case b => lcg_src); (case e => ked_reads); (case u => ktr_units)) | (refine' ne_tupL ?N ?a ?b ?e ?u ?_; (case N => k_asm); (case a => lcg_src); (case b => lcg_src); (case e => ked_reads); (case u => ktr_units)))))
local macro_rules | `(tactic| walk_at "compareOp Eq ref ref") => `(tactic| (k_here; k_dflt (first | (refine' eq_listL ?N ?a ?b ?e ?u ?_; (case N => k_asm); (case a => lcg_src); (case b => lcg_src); (case e => ked_reads); (case u => ktr_units)) | (refine' eq_tupL ?N ?a ?b ?e ?u ?_; (case N => k_asm); (case a => lcg_src); (case b => lcg_src); (case e => ked_reads); (case u => ktr_units)))))
local macro_rules | `(tactic| walk_at "subscriptTail") => `(tactic| (k_here; (with_reducible show wpAny _ _ (subscriptTail _ _ (Value.ref _) (Value.int _ _)) _ _ _); k_dflt (refine' item_at ?N ?m ?hi ?h0 ?h1 ?h2 ?_ ?hs; (case N => k_asm); (case m => lcg_src); (case hi => assumption); (case h0 => first | assumption | omega); (case h1 => first | assumption | omega); (case h2 => omega); (case hs => with_unfolding_all rfl)); intro t'))
local macro_rules | `(tactic| walk_at "PostY") => `(tactic| (dsimp only [PostY]))

def numF (x : Int) : Int := 1 + x.fmod 600
theorem num_carried {ys : List Value} {ns : List Int} (h : CarriedAll ys (List.map (fun a => PyData.int (1 + a.fmod 600)) (List.filter (fun _ => true) ns))) : IntsAre ys (ns.map numF) := by
  refine CarriedAll.intsOf (f := numF) (as := ns) ?_
  rw [List.filter_eq_self.mpr (fun _ _ => rfl)] at h
  exact h
def numsOf (ns : List Int) : List Int := [256, 5] ++ (ns.take 14).map numF
theorem nums_in (ns : List Int) : InN (numsOf ns) := by
  intro x hx
  rcases List.mem_append.mp hx with hx | hx
  · simp only [List.mem_cons, List.not_mem_nil, or_false] at hx; omega
  · obtain ⟨y, _, rfl⟩ := List.mem_map.mp hx
    have h1 := fmod_lo (n := 600) y (by decide)
    have h2 := fmod_hi (n := 600) y (by decide)
    unfold numF; omega
theorem nums_len (ns : List Int) : (numsOf ns).length = 2 + min 14 ns.length := by unfold numsOf; rw [List.length_append, List.length_map, List.length_take]; rfl
theorem sc_name {h : Heap} {a : Addr} {vs : Array Value} (hl : h.IsList a vs) : ∃ b, b = a ∧ h.IsList b vs := ⟨a, rfl, hl⟩
theorem figJ_yes {x : Int} {i e : Nat} {ys : List Value} {t : Tok} (h : IntsAre ys (figP x i)) (he : e = 9 - i) (hc : (2 : Int) ^ Int.toNat (e : Int) ≤ x) : IntsAre (ys ++ [.int ((x.fdiv (2 ^ Int.toNat (e : Int))).fmod 2) t]) (figP x (i + 1)) := by
  subst he
  rw [Int.toNat_natCast] at hc ⊢
  rw [figP_yes hc]; exact ints_snoc h _ _
theorem figJ_no {x : Int} {i e : Nat} {ys : List Value} (h : IntsAre ys (figP x i)) (he : e = 9 - i) (hc : ¬ (2 : Int) ^ Int.toNat (e : Int) ≤ x) : IntsAre ys (figP x (i + 1)) := by
  subst he
  rw [Int.toNat_natCast] at hc
  rw [figP_no hc]; exact h
theorem zeros_len (k : Nat) : (zeros k).length = k := by unfold zeros; simp
theorem flat_one {α : Type} (a : α) : ∀ k, (List.replicate k [a]).flatten = List.replicate k a
  | 0 => rfl
  | k + 1 => by rw [List.replicate_succ, List.flatten_cons, flat_one a k, List.replicate_succ]; rfl
theorem zero_ints {ws : List Value} {k n : Nat} (h : IntsAre ws (List.replicate ((k : Int) - 1).toNat [(0 : Int)]).flatten) (e : k = n) : IntsAre ws (zeros (n - 1)) := by
  subst e
  rw [flat_one, show ((k : Int) - 1).toNat = k - 1 by omega] at h
  exact h
theorem ends_push {vs us ws : List Value} {es : List Int} {a b : List Int} {t : Tok} (h : IntsAre vs es) (ha : us.length = a.length) (hb : ws.length = b.length) : IntsAre (vs ++ [.int (((us ++ ws).length : Nat) : Int) t]) (es ++ [(((a ++ b).length : Nat) : Int)]) := by
  rw [List.length_append, List.length_append, ha, hb]; exact ints_snoc h _ _
theorem pack_b {h₀ h : Heap} {L : Addr} {d2 d1 l f i b e n c6 c5 c4 c3 c2 c1 t : Addr × Obj} (_ : News h₀ L h [d2, d1, l, f, i, b, e, n, c6, c5, c4, c3, c2, c1, t]) : ∃ nx, nx = [b, e, n, c6, c5, c4, c3, c2, c1, t] ∧ ∀ q ∈ nx, q ∈ [d2, d1, l, f, i, b, e, n, c6, c5, c4, c3, c2, c1, t] := ⟨_, rfl, fun q hq => by
  simp only [List.mem_cons, List.not_mem_nil, or_false] at hq ⊢; rcases hq with h | h | h | h | h | h | h | h | h | h <;> simp [h]⟩
theorem pad_int {n pd : Nat} (h : pd = padOf n) : (-(n : Int)).fmod 8 = (pd : Int) := by
  subst h
  unfold padOf
  rw [Int.toNat_of_nonneg (fmod_lo _ (by decide))]
theorem size_8 {m n : Nat} (h : m = 8 * n) : Builtin.Range.rangeSize 0 (m : Int) 8 = (n : Int) := by
  unfold Builtin.Range.rangeSize
  simp only [show ((8 : Int) > 0) by decide, if_true]
  split <;> omega
theorem fits_long {i : Int} (h1 : -1000000 ≤ i) (h2 : i ≤ 1000000) : Builtin.Range.rangeFitsLong i = true := by
  unfold Builtin.Range.rangeFitsLong
  rw [Bool.and_eq_true]
  exact ⟨decide_eq_true (by omega), decide_eq_true (by omega)⟩
theorem small_8 {m n : Nat} (h : m = 8 * n) (hm : m ≤ 100000) : Builtin.Range.small 0 (m : Int) 8 = true := by
  unfold Builtin.Range.small
  rw [size_8 h, fits_long (by omega) (by omega), fits_long (by omega) (by omega), fits_long (by omega) (by omega), fits_long (by omega) (by omega), if_pos (by decide), fits_long (by omega) (by omega), Bool.or_true]
  rfl
theorem news_o {h₀ h : Heap} {L : Addr} {o x y b e n c6 c5 c4 c3 c2 c1 t : Addr × Obj} (N : News h₀ L h [o, x, y, b, e, n, c6, c5, c4, c3, c2, c1, t]) : News h₀ L h [o, b, e, n, c6, c5, c4, c3, c2, c1, t] := news_sub N fun q hq => by
  simp only [List.mem_cons, List.not_mem_nil, or_false] at hq ⊢; rcases hq with h | h | h | h | h | h | h | h | h | h | h <;> simp [h]
theorem octJ {B : List Int} {i i2 : Nat} {ys : List Value} {t : Tok} (h : IntsAre ys (octT B i i2)) (h7 : i2 ≤ 7) : IntsAre (ys ++ [.int (B.getD (((8 * i : Nat) : Int) + (i2 : Int)).toNat 0 * 2 ^ ((7 : Int) - (i2 : Int)).toNat) t]) (octT B i (i2 + 1)) := by
  rw [octT_snoc, show (((8 * i : Nat) : Int) + (i2 : Int)).toNat = 8 * i + i2 by omega, show ((7 : Int) - (i2 : Int)).toNat = 7 - i2 by omega]; exact ints_snoc h _ _
theorem isL_up {h₀ h : Heap} {L a : Addr} {m : Str → Option Value} {vs : Array Value} (hl : h₀.IsList a vs) (F : Fr h₀ L h m) : h.IsList a vs := hl.at fun o e => F.keep _ _ e
theorem two_ints {h₀ h : Heap} {L l : Addr} {a b : Int} {t u : Tok} {rest : List (Addr × Obj)} (N : News h₀ L h ((l, listOf #[Value.int a t, Value.int b u] 0) :: rest)) : ∃ vs : List Value, News h₀ L h ((l, listOf vs.toArray 0) :: rest) ∧ vs.length = 2 ∧ ∀ (i : Nat) (v : Value), vs[i]? = some v → ∃ (z : Int) (tz : Tok), v = Value.int z tz ∧ (z = a ∨ z = b) := ⟨[.int a t, .int b u], N, rfl, fun i v hv => by
  rcases i with _ | _ | i
  · simp at hv; exact ⟨a, t, hv.symm, .inl rfl⟩
  · simp at hv; exact ⟨b, u, hv.symm, .inr rfl⟩
  · simp at hv⟩
theorem news_c {h₀ h : Heap} {L : Addr} {l w x o b e n c6 c5 c4 c3 c2 c1 t : Addr × Obj} (N : News h₀ L h [l, w, x, o, b, e, n, c6, c5, c4, c3, c2, c1, t]) : News h₀ L h [l, w, o, b, e, n, c6, c5, c4, c3, c2, c1, t] := news_sub N fun q hq => by
  simp only [List.mem_cons, List.not_mem_nil, or_false] at hq ⊢; rcases hq with h | h | h | h | h | h | h | h | h | h | h | h | h <;> simp [h]
theorem pack_o {h₀ h : Heap} {L : Addr} {f i o b e n c6 c5 c4 c3 c2 c1 t : Addr × Obj} (_ : News h₀ L h [f, i, o, b, e, n, c6, c5, c4, c3, c2, c1, t]) : ∃ nx, nx = [o, b, e, n, c6, c5, c4, c3, c2, c1, t] ∧ ∀ q ∈ nx, q ∈ [f, i, o, b, e, n, c6, c5, c4, c3, c2, c1, t] := ⟨_, rfl, fun q hq => by
  simp only [List.mem_cons, List.not_mem_nil, or_false] at hq ⊢; rcases hq with h | h | h | h | h | h | h | h | h | h | h <;> simp [h]⟩
theorem dueJ_yes {xs es : List Int} {z : Int} {i : Nat} {ys : List Value} {t : Tok} (h : IntsAre ys (dueP xs es z i)) (hc : es.getD ((i : Nat) : Int).toNat 0 ≤ z) : IntsAre (ys ++ [.int (xs.getD ((i : Nat) : Int).toNat 0) t]) (dueP xs es z (i + 1)) := by
  rw [Int.toNat_natCast] at hc ⊢
  rw [dueP_yes hc]; exact ints_snoc h _ _
theorem dueJ_no {xs es : List Int} {z : Int} {i : Nat} {ys : List Value} (h : IntsAre ys (dueP xs es z i)) (hc : ¬ es.getD ((i : Nat) : Int).toNat 0 ≤ z) : IntsAre ys (dueP xs es z (i + 1)) := by
  rw [Int.toNat_natCast] at hc
  rw [dueP_no hc]; exact h
def NfN (P : Addr) (l : List (Addr × Obj)) : Prop := ∀ q ∈ l, NoFld q.2 ∨ @Ne Nat q.1 P
theorem nfN_nil {P : Addr} : NfN P [] := fun _ h => nomatch h
theorem nfN_cons {P a : Addr} {o : Obj} {l : List (Addr × Obj)} (h : NoFld o ∨ @Ne Nat a P) (hs : NfN P l) : NfN P ((a, o) :: l) := fun e he => by
  rcases List.mem_cons.mp he with rfl | he
  · exact h
  · exact hs e he
theorem offPN {h₀ h : Heap} {L P : Addr} {pre T : List (Addr × Obj)} {ps : Array Value} (N : News h₀ L h (pre ++ T)) (hp : (P, tabObj ps) ∈ T) (hn : NfN P pre) : OwnOff (pre ++ []) [P] := fun q hq c hc => by
  rw [List.append_nil] at hq
  rw [List.mem_singleton.mp hc]
  rcases hn q hq with h | h
  · exact neP (ps := ps) N (List.mem_append_right _ hp) (List.mem_append_left _ hq) h
  · exact h
theorem ne_run {prog : Program} {w : World} {A : Around} {E : Value → Shared → Prop} {s : Shared} {Q : Value → Shared → Prop} {h₀ : Heap} {L : Addr} {news : List (Addr × Obj)} {tp x li lw D W : Addr} {vs ys : List Value} {ks : List Int} {k : Int} {m m' : Str} {u1 u2 t1 t2 t3 t4 : Tok} {jt jx j1 j2 jd jw : Nat}
    (N : News h₀ L s.heap news) (h1 : (tp, ({ cls := .type "tuple", data := .seq #[.ref li, .ref lw, .int k u1] jt } : Obj)) ∈ news) (h2 : (li, listOf vs.toArray j1) ∈ news) (h3 : (lw, listOf #[.str m t1, .str m t2] j2) ∈ news)
    (h4 : (x, ({ cls := .type "tuple", data := .seq #[.ref D, .ref W, .int k u2] jx } : Obj)) ∈ news) (h5 : (D, listOf ys.toArray jd) ∈ news) (h6 : (W, listOf #[.str m' t3, .str m' t4] jw) ∈ news)
    (i1 : IntsAre vs ks) (i2 : IntsAre ys ks) (hm : m = m') (hu : A.units + 4 < cLine) (h : Q (.bool false) s) : wpAny (model prog w) A (compareOp .NotEq (.ref tp) (.ref x)) Q E s := by
  subst hm
  exact ne_tupL (xs := [.ref li, .ref lw, .int k u1]) (ys := [.ref D, .ref W, .int k u2]) N h1 h4 (.cons (same_list N h2 h5 (SameL.ints i1 i2)) (.cons (same_list (xs := [.str m t1, .str m t2]) (ys := [.str m t3, .str m t4]) N h3 h6 (.cons (.str m t1 t3) (.cons (.str m t2 t4) .nil))) (.cons (.int k u1 u2) .nil))) hu h
theorem pack_c {h₀ h : Heap} {L : Addr} {a1 a2 a3 a4 a5 a6 a7 l w o b e n c6 c5 c4 c3 c2 c1 : Addr × Obj} {T : List (Addr × Obj)} (_ : News h₀ L h (a1 :: a2 :: a3 :: a4 :: a5 :: a6 :: a7 :: l :: w :: o :: b :: e :: n :: c6 :: c5 :: c4 :: c3 :: c2 :: c1 :: T)) : ∃ nx, nx = l :: w :: o :: b :: e :: n :: c6 :: c5 :: c4 :: c3 :: c2 :: c1 :: T ∧ ∀ q ∈ nx, q ∈ a1 :: a2 :: a3 :: a4 :: a5 :: a6 :: a7 :: l :: w :: o :: b :: e :: n :: c6 :: c5 :: c4 :: c3 :: c2 :: c1 :: T := ⟨_, rfl, fun q hq => by
  simp only [List.mem_cons] at hq ⊢; rcases hq with h | h | h | h | h | h | h | h | h | h | h | h | h <;> simp [h]⟩
theorem fig_len {x : Int} (h : 1 ≤ x ∧ x ≤ 600) : 1 ≤ (figs x).length ∧ (figs x).length ≤ 10 := by
  obtain ⟨r, e, _, _, h3⟩ := fig_split h
  rw [e, List.length_cons]; omega
theorem news_b0 {h₀ h : Heap} {L : Addr} {e b n x y c6 c5 c4 c3 c2 c1 t : Addr × Obj} (N : News h₀ L h [e, b, n, x, y, c6, c5, c4, c3, c2, c1, t]) : News h₀ L h [b, e, n, c6, c5, c4, c3, c2, c1, t] := news_sub N fun q hq => by
  simp only [List.mem_cons, List.not_mem_nil, or_false] at hq ⊢; rcases hq with h | h | h | h | h | h | h | h | h | h <;> simp [h]
theorem law02 : PySem.Challenge.rw_dm0232_02.Holds := hd02 (by
  k_go0
  have hMk := kstMark
  rename World => w
  rename List Int => ns
  rename IntsAre _ ns => hsi
  rename Shared => s1
  have hns : ns.length ≤ 63 := by omega
  rename Frag.In _ (ghostOf _ _) => X0
  rename Top topProg _ _ _ _ (ghostOf _ _) => T0
  rename Below _ _ _ _ => B0
  rename_i oQ oP oM _ _ _ dQ dP dM _ _ _ _ _ _ _
  repeat' (first | (k_unfold; (try dsimp only)) | ((fail_if_success (with_reducible show wpAny _ _ (binaryOp Operator.Add (Value.ref _) (Value.ref _)) _ _ _)); first | (k_end; wrow_close) | walk1 | (dsimp only; walk1) | (leave1; try dsimp only)))
  rename CarriedAll _ _ => hC
  replace hC := num_carried hC
  repeat' (first | (k_unfold; (try dsimp only)) | ((fail_if_success (with_reducible show wpAny _ _ (exec (Stmt.For _ _ _ _ _) _) _ _ _)); first | (k_end; wrow_close) | walk1 | (dsimp only; walk1) | (leave1; try dsimp only)))
  refine wpAny_For ?_
  repeat' (first | (k_unfold; (try dsimp only)) | ((fail_if_success (with_reducible show wpAny _ _ (pyIter _) _ _ _)); first | (k_end; wrow_close) | walk1 | (dsimp only; walk1) | (leave1; try dsimp only)))
  rename Fr _ _ _ _ => FF
  rename News _ _ _ _ => NN
  rename_i Dn vs _ hvs hDn _ oN dN _ Db _ hDb _ oB dB De _ hDe _ oE dE
  rename Heap.IsList (ghostOf _ _) _ _ => hsc
  obtain ⟨sc, hsce, -⟩ := sc_name hsc
  subst hsce
  replace hvs : IntsAre vs (numsOf ns) := hvs
  have hIn := nums_in ns
  have hnl := nums_len ns
  obtain ⟨xs, hxs⟩ : ∃ xs, xs = numsOf ns := ⟨_, rfl⟩
  rw [← hxs] at hvs hIn hnl
  have hvl := hvs.length
  obtain ⟨Z, hZ⟩ : ∃ Z, Z = s1.heap.objs.size := ⟨_, rfl⟩
  have bn : @Ne Nat Dn Db := Nat.ne_of_lt hDb.1
  have b6 : @Ne Nat (s1.heap.objs.size + 1 + 1 + 1 + 1 + 1 + 1) Db := Nat.ne_of_lt hDb.2.2.2.1
  have b5 : @Ne Nat (s1.heap.objs.size + 1 + 1 + 1 + 1 + 1) Db := Nat.ne_of_lt hDb.2.2.2.2.1
  have b4 : @Ne Nat (s1.heap.objs.size + 1 + 1 + 1 + 1) Db := Nat.ne_of_lt hDb.2.2.2.2.2.1
  have b3 : @Ne Nat (s1.heap.objs.size + 1 + 1 + 1) Db := Nat.ne_of_lt hDb.2.2.2.2.2.2.1
  have b2 : @Ne Nat (s1.heap.objs.size + 1 + 1) Db := Nat.ne_of_lt hDb.2.2.2.2.2.2.2.1
  have b1 : @Ne Nat (s1.heap.objs.size + 1) Db := Nat.ne_of_lt hDb.2.2.2.2.2.2.2.2.1
  have b0 : @Ne Nat 44 Db := Nat.ne_of_lt hDb.2.2.2.2.2.2.2.2.2
  have eb : @Ne Nat Db De := Nat.ne_of_lt hDe.1
  have en : @Ne Nat Dn De := Nat.ne_of_lt hDe.2.1
  have e6 : @Ne Nat (s1.heap.objs.size + 1 + 1 + 1 + 1 + 1 + 1) De := Nat.ne_of_lt hDe.2.2.2.2.1
  have e5 : @Ne Nat (s1.heap.objs.size + 1 + 1 + 1 + 1 + 1) De := Nat.ne_of_lt hDe.2.2.2.2.2.1
  have e4 : @Ne Nat (s1.heap.objs.size + 1 + 1 + 1 + 1) De := Nat.ne_of_lt hDe.2.2.2.2.2.2.1
  have e3 : @Ne Nat (s1.heap.objs.size + 1 + 1 + 1) De := Nat.ne_of_lt hDe.2.2.2.2.2.2.2.1
  have e2 : @Ne Nat (s1.heap.objs.size + 1 + 1) De := Nat.ne_of_lt hDe.2.2.2.2.2.2.2.2.1
  have e1 : @Ne Nat (s1.heap.objs.size + 1) De := Nat.ne_of_lt hDe.2.2.2.2.2.2.2.2.2.1
  have e0 : @Ne Nat 44 De := Nat.ne_of_lt hDe.2.2.2.2.2.2.2.2.2.2
  have NN2 := news_b0 NN
  k_dflt (refine iterG_list (vs := vs) (jv := 0) (fun i mm nx => ∃ vb jb ve je oM vM, nx = [(Db, listOf vb.toArray jb), (De, listOf ve.toArray je), (Dn, listOf vs.toArray 0), (s1.heap.objs.size + 1 + 1 + 1 + 1 + 1 + 1, oQ), (s1.heap.objs.size + 1 + 1 + 1 + 1 + 1, oP), (s1.heap.objs.size + 1 + 1 + 1 + 1, oM), (s1.heap.objs.size + 1 + 1 + 1, oE), (s1.heap.objs.size + 1 + 1, oB), (s1.heap.objs.size + 1, oN), (44, tabObj #[])] ∧ IntsAre vb (bitsOf (xs.take i)) ∧ IntsAre ve (endsL xs i) ∧ oM.data = .cell vM ∧ mm (Str.ofString "script") = some (.ref sc)) rfl (by rintro i m nx ⟨vb, jb, ve, je, oM, vM, rfl, _⟩; exact .tail _ (.tail _ (.head _))) FF NN2 ⟨[], 0, [], 0, oM, _, rfl, .nil, .nil, dM, rfl⟩ (by passes_own) ?turn1 ?done1)
  case turn1 =>
    rintro I i v m9 nx9 h9 tk9 oI hoT hi9 hv hne ⟨vb, jb, ve, je, oM, vM, rfl, hvb, hve, dM, hsm⟩ F9 N9
    simp only [List.forall_mem_cons] at hne
    obtain ⟨n1, n2, n3, n4, n5, n6, n7, n8, n9, n10, -⟩ := hne
    obtain ⟨x, t, rfl, hk, hk1⟩ := ints_at hvs (by simpa using hv)
    have hx6 := hIn x (List.mem_of_getElem? hk)
    have F10 := fr_names F9 [(Str.ofString "script", .ref sc)] (by
      intro q9 hq9; simp only [List.mem_cons, List.not_mem_nil, or_false] at hq9; rcases hq9 with rfl; assumption)
    clear F9 FF NN NN2 hsm
    repeat' (first | (k_unfold; (try dsimp only)) | ((fail_if_success (with_reducible show wpAny _ _ (exec (Stmt.Assign _ (Expr.ListComp _ _ _ _) _) _) _ _ _)); first | (k_end; wrow_close) | walk1 | (dsimp only; walk1) | (leave1; try dsimp only)))
    k_dflt (refine assign_step (F₀ := by k_asm) (by rfl) (by with_unfolding_all rfl) (by with_unfolding_all rfl) (by decide) (by rfl) (by decide) (by rfl) (by rfl) (by rfl) ?_)
    repeat' (first | (k_unfold; (try dsimp only)) | ((fail_if_success (with_reducible show SrcStep _ _ _ _ _ _ _ _ _ _ _ _ _ _ _)); first | (k_end; wrow_close) | walk1 | (dsimp only; walk1) | (leave1; try dsimp only)))
    rename IsRange _ _ _ _ _ _ _ _ => rg
    k_dflt (refine SrcStep.range (n := 10) (by rfl) (by k_asm) (by k_asm) rg (by decide) (by decide) (by simp only [sizeLine_eq]; omega) ?_)
    intro g9
    refine restT1 (fun i2 ys => IntsAre ys (figP x i2)) trivial .nil ?fin ?turnC
    case turnC =>
      rintro i2 v ys Ic oIc C oC D m₂ h3 tk3 E' hi2 ⟨tv, rfl⟩ hJ hC hx F3 N3 off3 ne3
      clear rg
      obtain ⟨e, he, he9⟩ : ∃ e : Nat, e = 9 - i2 ∧ e ≤ 9 := ⟨_, rfl, by omega⟩
      rw [show (9 : Int) + (i2 : Nat) * -1 = (e : Int) by omega] at hx
      have he0 : 0 ≤ (e : Int) := by omega
      have he1 : (e : Int) ≤ 9 := by omega
      k_steps
      · rename Fr _ _ _ _ => FF
        rename News _ _ _ _ => NN
        exact CEnd1.intro FF NN (fun p hp => hp) (figJ_yes hJ he (by assumption))
      · rename Fr _ _ _ _ => FF
        rename News _ _ _ _ => NN
        exact CEnd1.intro FF NN (fun p hp => hp) (figJ_no hJ he (by assumption))
    case fin =>
      intro ys hJ
      clear rg
      have hyl := hJ.length
      have hfl := fig_len hx6
      replace hyl : ys.length = (figs x).length := hyl
      (rename Fr _ _ _ _ => FF; clear FF)
      (rename News _ _ _ _ => NN; clear NN)
      unfold LCg.FinA
      intro Df h4 tk4 F4 N4 o4
      simp only [LCg.Off1] at o4
      obtain ⟨f1, f2, f3, -⟩ := o4
      repeat' (first | (k_unfold; (try dsimp only)) | ((fail_if_success (with_reducible show wpAny _ _ (binaryOp Operator.Add (Value.ref _) (Value.ref _)) _ _ _)); first | (k_end; wrow_close) | walk1 | (dsimp only; walk1) | (leave1; try dsimp only)))
      rename Fr _ _ _ _ => FF
      rename News _ _ _ _ => NN
      rename IntsAre (List.flatten _) _ => hz
      replace hz := zero_ints hz hyl
      refine kmk_add_ints FF NN (isList_at NN (by lcg_src)) (isList_at NN (by lcg_src)) hz hJ ?_ (by rw [zeros_len]; simp only [sizeLine_eq]; show _ + (figs x).length ≤ _; omega)
      clear FF NN
      intro D2 us h5 F5 N5 l5 hus
      replace hus : IntsAre us (code x) := hus
      have hul := hus.length
      have hcl := code_len hx6
      have hbl := hvb.length
      have hbb := bits_len (xs := xs.take i) (fun y hy => hIn y (List.mem_of_mem_take hy))
      rw [List.length_take] at hbb
      have hsz : vb.length + us.length ≤ 1000000 := by rw [hbl, hul]; omega
      have hel := hve.length
      rw [endsL_len] at hel
      have hes : ve.length ≤ 100000 := by omega
      (try k_lt l5)
      repeat' (first | (k_unfold; (try dsimp only)) | ((fail_if_success (with_reducible show wpAny _ _ (call (Value.builtin "list.extend") _) _ _ _)); first | (k_end; wrow_close) | walk1 | (dsimp only; walk1) | (leave1; try dsimp only)))
      rename Fr _ _ _ _ => FF
      rename News _ _ _ _ => NN
      k_dflt (refine' extend_list (vs := vb) (ws := us) FF NN ?eB ?eU ?eZ ?_; (case eB => lcg_src); (case eU => k_updF); (case eZ => exact hsz))
      clear FF NN
      intro h6 j6 F6 N6
      (try dsimp only at N6)
      k_steps
      rename Fr _ _ _ _ => FF
      rename News _ _ _ _ => NN
      (try simp only [List.push_toArray] at NN)
      rename_i tkE _
      rename _ = Data.cell (some (Value.int x _)) => dM2
      have hJ2 : IntsAre (vb ++ us) (bitsOf (xs.take (i + 1))) := by rw [hk1, bitsOf_snoc]; exact hvb.append hus
      have hE2 : IntsAre (ve ++ [.int (((vb ++ us).length : Nat) : Int) (tkE + 1)]) (endsL xs (i + 1)) := by rw [endsL_snoc, hk1, bitsOf_snoc]; exact ends_push hve hbl hul
      obtain ⟨nx, hnx, hsub⟩ := pack_b NN
      exact EndY.intro FF NN (nx := nx) ⟨vb ++ us, _, _, _, _, _, hnx, hJ2, hE2, dM2, rfl⟩ hsub (by lcg_src) (by rw [hnx]; simp only [List.forall_mem_cons]; exact ⟨n1, n2, n3, n4, n5, n6, n7, n8, n9, n10, fun _ h => nomatch h⟩)
  case done1 =>
    rintro m9 nx9 h9 tk9 ⟨vb, jb, ve, je, oM, vM, rfl, hvb, hve, dM, hsm⟩ F9 N9
    have F10 := fr_names F9 [(Str.ofString "script", .ref sc)] (by
      intro q9 hq9; simp only [List.mem_cons, List.not_mem_nil, or_false] at hq9; rcases hq9 with rfl; assumption)
    clear F9 FF NN NN2 hsm
    dsimp only
    rw [hvl, List.take_length] at hvb
    rw [hvl] at hve
    have hbl := hvb.length
    have hbb := bits_len hIn
    have hel := hve.length
    rw [endsL_len] at hel
    have hbs : vb.length ≤ 304 := by rw [hbl]; omega
    repeat' (first | (k_unfold; (try dsimp only)) | ((fail_if_success (with_reducible show wpAny _ _ (binaryOp Operator.Mult _ _) _ _ _)); first | (k_end; wrow_close) | walk1 | (dsimp only; walk1) | (leave1; try dsimp only)))
    obtain ⟨pd, hpe⟩ : ∃ pd, pd = padOf vb.length := ⟨_, rfl⟩
    rw [pad_int hpe]
    have hp8 : pd < 8 := by rw [hpe]; exact (pad_lt _).1
    repeat' (first | (k_unfold; (try dsimp only)) | ((fail_if_success (with_reducible show wpAny _ _ (call (Value.builtin "list.extend") _) _ _ _)); first | (k_end; wrow_close) | walk1 | (dsimp only; walk1) | (leave1; try dsimp only)))
    rename Fr _ _ _ _ => FF
    rename News _ _ _ _ => NN
    rename IntsAre (List.flatten _) _ => hz
    rw [flat_one, flat_one, Int.toNat_natCast] at hz
    rw [flat_one, Int.toNat_natCast] at NN
    have hzl := hz.length
    rw [List.length_replicate] at hzl
    have hB : IntsAre (vb ++ List.replicate pd (Value.int 0 tk9)) (padded xs) := by unfold padded zeros; rw [← hbl, ← hpe]; exact hvb.append hz
    have hsz : vb.length + (List.replicate pd (Value.int 0 tk9)).length ≤ 1000000 := by rw [hzl, List.length_replicate]; omega
    k_dflt (refine' extend_list (vs := vb) (ws := List.replicate pd (Value.int 0 tk9)) FF NN ?eB ?eU ?eZ ?_; (case eB => lcg_src); (case eU => k_updF); (case eZ => exact hsz))
    clear FF NN
    intro h6 j6 F6 N6
    (try dsimp only at N6)
    obtain ⟨v2, hv2⟩ : ∃ v2, v2 = vb ++ List.replicate pd (Value.int 0 tk9) := ⟨_, rfl⟩
    rw [← hv2] at N6 hB
    have h2l := hB.length
    have hmod := padded_mod xs
    have hplen := padded_len xs
    rw [← hbl, ← hpe] at hplen
    have h2b : v2.length ≤ 312 := by omega
    clear hvb hz hsz hv2
    repeat' (first | (k_unfold; (try dsimp only)) | ((fail_if_success (with_reducible show wpAny _ _ (exec (Stmt.For _ _ _ _ _) _) _ _ _)); first | (k_end; wrow_close) | walk1 | (dsimp only; walk1) | (leave1; try dsimp only)))
    refine wpAny_For ?_
    repeat' (first | (k_unfold; (try dsimp only)) | ((fail_if_success (with_reducible show wpAny _ _ (pyIter _) _ _ _)); first | (k_end; wrow_close) | walk1 | (dsimp only; walk1) | (leave1; try dsimp only)))
    rename IsRange _ _ _ _ _ _ _ _ => rg
    rename Fr _ _ _ _ => FF
    rename News _ _ _ _ => NN
    rename_i Do _ _ _ hDo _ _ _ _ _ _ _ _ _
    have ob : @Ne Nat Db Do := Nat.ne_of_lt hDo.2.2.1
    have oe : @Ne Nat De Do := Nat.ne_of_lt hDo.2.2.2.1
    have on : @Ne Nat Dn Do := Nat.ne_of_lt hDo.2.2.2.2.1
    have o6 : @Ne Nat (s1.heap.objs.size + 1 + 1 + 1 + 1 + 1 + 1) Do := Nat.ne_of_lt hDo.2.2.2.2.2.1
    have o5 : @Ne Nat (s1.heap.objs.size + 1 + 1 + 1 + 1 + 1) Do := Nat.ne_of_lt hDo.2.2.2.2.2.2.1
    have o4 : @Ne Nat (s1.heap.objs.size + 1 + 1 + 1 + 1) Do := Nat.ne_of_lt hDo.2.2.2.2.2.2.2.1
    have o3 : @Ne Nat (s1.heap.objs.size + 1 + 1 + 1) Do := Nat.ne_of_lt hDo.2.2.2.2.2.2.2.2.1
    have o2 : @Ne Nat (s1.heap.objs.size + 1 + 1) Do := Nat.ne_of_lt hDo.2.2.2.2.2.2.2.2.2.1
    have o1 : @Ne Nat (s1.heap.objs.size + 1) Do := Nat.ne_of_lt hDo.2.2.2.2.2.2.2.2.2.2.1
    have o0 : @Ne Nat 44 Do := Nat.ne_of_lt hDo.2.2.2.2.2.2.2.2.2.2.2
    obtain ⟨n8, hn8⟩ : ∃ n8, n8 = (padded xs).length / 8 := ⟨_, rfl⟩
    have h8 : v2.length = 8 * n8 := by omega
    have h8b : n8 ≤ 39 := by omega
    have NN2 := news_o NN
    obtain ⟨B, hBe⟩ : ∃ B, B = padded xs := ⟨_, rfl⟩
    rw [← hBe] at hB
    have hB01 := padded_01 hIn
    rw [← hBe] at hB01
    k_dflt (refine iterG_range (n := n8) (fun i mm nx => ∃ vo jo oP vP, nx = [(Do, listOf vo.toArray jo), (Db, listOf v2.toArray j6), (De, listOf ve.toArray je), (Dn, listOf vs.toArray 0), (s1.heap.objs.size + 1 + 1 + 1 + 1 + 1 + 1, oQ), (s1.heap.objs.size + 1 + 1 + 1 + 1 + 1, oP), (s1.heap.objs.size + 1 + 1 + 1 + 1, oM), (s1.heap.objs.size + 1 + 1 + 1, oE), (s1.heap.objs.size + 1 + 1, oB), (s1.heap.objs.size + 1, oN), (44, tabObj #[])] ∧ IntsAre vo (octsF B i) ∧ oP.data = .cell vP ∧ mm (Str.ofString "script") = some (.ref sc) ∧ mm (Str.ofString "octets") = some (.ref Do)) rfl rg (small_8 h8 (by omega)) (size_8 h8) FF NN2 ⟨[], 0, oP, _, rfl, .nil, dP, rfl, rfl⟩ (by passes_own) ?turn2 ?done2)
    case turn2 =>
      rintro I i t9 m9 nx9 h9 tk9 oI hoT hi9 hne ⟨vo, jo, oP, vP, rfl, hvo, dP, hsm, hom⟩ F9 N9
      simp only [List.forall_mem_cons] at hne
      obtain ⟨n0, n1, n2, n3, n4, n5, n6, n7, n8', n9, n10, -⟩ := hne
      have F10 := fr_names F9 [(Str.ofString "script", .ref sc), (Str.ofString "octets", .ref Do)] (by
        intro q9 hq9; simp only [List.mem_cons, List.not_mem_nil, or_false] at hq9; rcases hq9 with rfl | rfl <;> assumption)
      clear F9 FF NN NN2 hsm hom rg
      rw [show (0 : Int) + (i : Nat) * 8 = ((8 * i : Nat) : Int) by omega]
      repeat' (first | (k_unfold; (try dsimp only)) | ((fail_if_success (with_reducible show wpAny _ _ (eval (Expr.ListComp _ _ _ _) _) _ _ _)); first | (k_end; wrow_close) | walk1 | (dsimp only; walk1) | (leave1; try dsimp only)))
      k_dflt (refine LCg.ListComp_U (F₀ := by k_asm) (by with_unfolding_all rfl) (by decide) (by rfl) (by decide) (by rfl) ?_)
      repeat' (first | (k_unfold; (try dsimp only)) | ((fail_if_success (with_reducible show LCg.CompSrc _ _ _ _ _ _ _ _ _ _ _ _ _ _)); first | (k_end; wrow_close) | walk1 | (dsimp only; walk1) | (leave1; try dsimp only)))
      rename IsRange _ _ _ _ _ _ _ _ => rg
      k_dflt (refine LCg.CompSrc.range (n := 8) (by rfl) (by k_asm) (by k_asm) rg ?sm ?rs ?sz ?_)
      case sm => decide
      case rs => decide
      case sz => simp only [sizeLine_eq]; omega
      intro g9
      refine restU1 (fun i2 ys => IntsAre ys (octT B i i2)) trivial .nil ?finC ?turnC2
      case turnC2 =>
        rintro i2 v ys Ic oIc C oC D m₂ h3 tk3 E' hi2 ⟨tv, rfl⟩ hJ hC hx F3 N3 off3 ne3
        clear rg
        rw [show (0 : Int) + (i2 : Nat) = ((i2 : Nat) : Int) by omega] at hx
        have hk0 : 0 ≤ (7 : Int) - (i2 : Int) := by omega
        have hk1 : (7 : Int) - (i2 : Int) ≤ 7 := by omega
        have hk2 : (0 : Int) ≤ ((8 * i : Nat) : Int) + (i2 : Int) := by omega
        have hk3 : ((8 * i : Nat) : Int) + (i2 : Int) < v2.length := by omega
        repeat' (first | (k_unfold; (try dsimp only)) | ((fail_if_success (with_reducible show wpAny _ _ (subscriptTail _ _ _ _) _ _ _)); first | (k_end; wrow_close) | walk1 | (dsimp only; walk1) | (leave1; try dsimp only)))
        refine item_at N3 (by lcg_src) hB hk2 hk3 (by omega) ?_ (by with_unfolding_all rfl)
        intro tB
        have hg0 := (getD_bd hB01 (((8 * i : Nat) : Int) + (i2 : Int)).toNat).1
        have hg1 := (getD_bd hB01 (((8 * i : Nat) : Int) + (i2 : Int)).toNat).2
        k_steps
        rename Fr _ _ _ _ => FF
        rename News _ _ _ _ => NN
        refine CEnd1.intro FF NN (fun p hp => hp) ?_
        exact octJ hJ (by omega)
      case finC =>
        intro ys hJ
        clear rg
        have hyl := hJ.length
        (rename Fr _ _ _ _ => FF; clear FF)
        (rename News _ _ _ _ => NN; clear NN)
        unfold LCg.FinE
        intro Df h4 tk4 F4 N4 o4
        simp only [LCg.Off1] at o4
        obtain ⟨f1, f2, f3, -⟩ := o4
        repeat' (first | (k_unfold; (try dsimp only)) | ((fail_if_success (with_reducible show wpAny _ _ (call (Value.builtin "sum") _) _ _ _)); first | (k_end; wrow_close) | walk1 | (dsimp only; walk1) | (leave1; try dsimp only)))
        rename Fr _ _ _ _ => FF
        rename News _ _ _ _ => NN
        refine LSm.sum_ints FF NN rfl (isList_at NN (by lcg_src)) hJ ?_
        clear FF NN
        intro h6 tk6 t6 F6 N6
        have hvl2 := hvo.length
        rw [octsF_len] at hvl2
        have hvs2 : vo.length ≤ 100000 := by omega
        k_steps
        rename Fr _ _ _ _ => FF
        rename News _ _ _ _ => NN
        (try simp only [List.push_toArray] at NN)
        rename _ = Data.cell (some (Value.int ((8 * i : Nat) : Int) _)) => dP2
        have hJ2 : IntsAre (vo ++ [.int (octT B i 8).sum t6]) (octsF B (i + 1)) := by rw [octsF_snoc]; exact ints_snoc hvo _ _
        obtain ⟨nx, hnx, hsub⟩ := pack_o NN
        exact EndY.intro FF NN (nx := nx) ⟨_, _, _, _, hnx, hJ2, dP2, rfl, rfl⟩ hsub (by lcg_src) (by rw [hnx]; simp only [List.forall_mem_cons]; exact ⟨n0, n1, n2, n3, n4, n5, n6, n7, n8', n9, n10, fun _ h => nomatch h⟩)
    case done2 =>
      rintro m9 nx9 h9 tk9 ⟨vo, jo, oP, vP, rfl, hvo, dP, hsm, hom⟩ F9 N9
      have F10 := fr_names F9 [(Str.ofString "script", .ref sc), (Str.ofString "octets", .ref Do)] (by
        intro q9 hq9; simp only [List.mem_cons, List.not_mem_nil, or_false] at hq9; rcases hq9 with rfl | rfl <;> assumption)
      clear F9 FF NN NN2 hsm hom rg
      have hol := hvo.length
      rw [octsF_len] at hol
      dsimp only
      repeat' (first | (k_unfold; (try dsimp only)) | ((fail_if_success (with_reducible show wpAny _ _ (exec (Stmt.For _ _ _ _ _) _) _ _ _)); first | (k_end; wrow_close) | walk1 | (dsimp only; walk1) | (leave1; try dsimp only)))
      refine wpAny_For ?_
      repeat' (first | (k_unfold; (try dsimp only)) | ((fail_if_success (with_reducible show wpAny _ _ (call (Value.builtin "sum") _) _ _ _)); first | (k_end; wrow_close) | walk1 | (dsimp only; walk1) | (leave1; try dsimp only)))
      rename Fr _ _ _ _ => FF
      rename News _ _ _ _ => NN
      refine LSm.sum_ints FF NN rfl ?hl9 hsi ?_
      case hl9 => exact isL_up hsc FF
      clear FF NN
      intro h6 tk6 t6 F6 N6
      repeat' (first | (k_unfold; (try dsimp only)) | ((fail_if_success (with_reducible show wpAny _ _ (pyIter _) _ _ _)); first | (k_end; wrow_close) | walk1 | (dsimp only; walk1) | (leave1; try dsimp only)))
      rename Fr _ _ _ _ => FF
      rename News _ _ _ _ => NN
      rename_i Dw _ _ _ hDw _ Lc _ hLc
      obtain ⟨c, hc⟩ : ∃ c : Nat, ns.sum.fmod ((vo.length : Int) + 1) = (c : Int) := ⟨_, (Int.toNat_of_nonneg (fmod_lo _ (by omega))).symm⟩
      have hcl : c ≤ vo.length := by have := fmod_hi (n := (vo.length : Int) + 1) ns.sum (by omega); omega
      rw [hc] at NN
      obtain ⟨vc, NN1, hvc2, hvc⟩ := two_ints NN
      have NN2 := news_c NN1
      clear NN NN1
      obtain ⟨es, hes⟩ : ∃ es, es = endsL xs xs.length := ⟨_, rfl⟩
      rw [← hes] at hve
      have hin8 := octs_in (padded_01 hIn) n8
      rw [← hBe] at hin8
      k_dflt (refine iterG_list (vs := vc) (jv := 0) (fun i mm nx => ∃ T oC vC t1 t2, nx = (Lc, listOf vc.toArray 0) :: (Dw, listOf #[.str (Str.ofString "not enough data in stream to read uint1") t1, .str (Str.ofString "not enough data in stream to read uint1") t2] 0) :: (Do, listOf vo.toArray jo) :: (Db, listOf v2.toArray j6) :: (De, listOf ve.toArray je) :: (Dn, listOf vs.toArray 0) :: (s1.heap.objs.size + 1 + 1 + 1 + 1 + 1 + 1, oC) :: (s1.heap.objs.size + 1 + 1 + 1 + 1 + 1, oP) :: (s1.heap.objs.size + 1 + 1 + 1 + 1, oM) :: (s1.heap.objs.size + 1 + 1 + 1, oE) :: (s1.heap.objs.size + 1 + 1, oB) :: (s1.heap.objs.size + 1, oN) :: T ∧ Tab 44 (rawInt 15) (rawInt 4) (Str.ofString "_law_stream.<locals>._law_read") T ∧ oC.data = .cell vC ∧ mm (Str.ofString "words") = some (.ref Dw) ∧ mm (Str.ofString "octets") = some (.ref Do)) rfl (by rintro i m nx ⟨T, oC, vC, t1, t2, rfl, _⟩; exact .head _) FF NN2 ⟨[(44, tabObj #[])], oQ, _, _, _, rfl, .none, dQ, rfl, rfl⟩ (by passes_own) ?turn3 ?done3)
      case done3 =>
        rintro m9 nx9 h9 tk9 ⟨T, oC, vC, t1, t2, rfl, hT, dC, hwm, hom⟩ F9 N9
        obtain ⟨ps, mT⟩ := hT.mem
        clear FF NN2 hwm hom hT
        dsimp only
        k_steps
      case turn3 =>
        rintro I i v m9 nx9 h9 tk9 oI hoT hi9 hv hne ⟨T, oC, vC, t1, t2, rfl, hT, dC, hwm, hom⟩ F9 N9
        simp only [List.forall_mem_cons] at hne
        obtain ⟨q1, q2, q3, q4, q5, q6, q7, q8, q9, q10, q11, q12, qT⟩ := hne
        obtain ⟨z, tz, rfl, hz⟩ : ∃ (z : Nat) (tz : Tok), v = .int (z : Int) tz ∧ z ≤ n8 := by
          obtain ⟨z, tz, rfl, h | h⟩ := hvc _ _ hv
          · exact ⟨vo.length, tz, by rw [h], by omega⟩
          · exact ⟨c, tz, by rw [h], by omega⟩
        obtain ⟨ps, mT⟩ := hT.mem
        have F10 := fr_names F9 [(Str.ofString "words", .ref Dw), (Str.ofString "octets", .ref Do)] (by
          intro q9 hq9; simp only [List.mem_cons, List.not_mem_nil, or_false] at hq9; rcases hq9 with rfl | rfl <;> assumption)
        have hTx : ∀ e ∈ T, e ∈ (I, oI) :: (Lc, listOf vc.toArray 0) :: (Dw, listOf #[.str (Str.ofString "not enough data in stream to read uint1") t1, .str (Str.ofString "not enough data in stream to read uint1") t2] 0) :: (Do, listOf vo.toArray jo) :: (Db, listOf v2.toArray j6) :: (De, listOf ve.toArray je) :: (Dn, listOf vs.toArray 0) :: (s1.heap.objs.size + 1 + 1 + 1 + 1 + 1 + 1, oC) :: (s1.heap.objs.size + 1 + 1 + 1 + 1 + 1, oP) :: (s1.heap.objs.size + 1 + 1 + 1 + 1, oM) :: (s1.heap.objs.size + 1 + 1 + 1, oE) :: (s1.heap.objs.size + 1 + 1, oB) :: (s1.heap.objs.size + 1, oN) :: T := fun e he => by simp [he]
        have oT : OwnOff T [(s1.heap.objs.size + 1 + 1 + 1 + 1 + 1 + 1), I] := off_cons (tab_offK N9 hT hTx (.tail _ (.tail _ (.tail _ (.tail _ (.tail _ (.tail _ (.tail _ (.head _)))))))) (noFld_cell dC)) (fun q hq c hc => by rw [List.mem_singleton.mp hc]; exact qT q hq)
        clear hTx
        clear F9 FF NN2 hwm hom
        repeat' (first | (k_unfold; (try dsimp only)) | ((fail_if_success (with_reducible show wpAny _ _ (exec (Stmt.Assign _ (Expr.ListComp _ _ _ _) _) _) _ _ _)); first | (k_end; wrow_close) | walk1 | (dsimp only; walk1) | (leave1; try dsimp only)))
        k_dflt (refine LCt.Assign_ListComp_T (F₀ := by k_asm) (by rfl) (by with_unfolding_all rfl) (by with_unfolding_all rfl) (by decide) (by rfl) (by decide) (by rfl) (by rfl) (by rfl) ?_)
        repeat' (first | (k_unfold; (try dsimp only)) | ((fail_if_success (with_reducible show LCt.CompSrcT _ _ _ _ _ _ _ _ _ _ _ _ _ _ _)); first | (k_end; wrow_close) | walk1 | (dsimp only; walk1) | (leave1; try dsimp only)))
        rename IsRange _ _ _ _ _ _ _ _ => rg
        k_dflt (refine LCt.CompSrcT.range (n := xs.length) (by rfl) (by k_asm) (by k_asm) rg ?sm ?rs ?sz ?_)
        case sm => exact small_one (by omega) (by omega) (by omega) (by omega)
        case rs => rw [rangeSize_nat]; omega
        case sz => simp only [sizeLine_eq]; omega
        intro g9
        refine restT1 (fun i2 ys => IntsAre ys (dueP xs es (8 * (z : Int)) i2)) trivial .nil ?finD ?turnD
        case turnD =>
          rintro i2 v ys Ic oIc C oC' D m₂ h3 tk3 E' hi2 ⟨tv, rfl⟩ hJ hC hx F3 N3 off3 ne3
          clear rg
          rw [show (0 : Int) + (i2 : Nat) = ((i2 : Nat) : Int) by omega] at hx
          have hk2 : (0 : Int) ≤ (i2 : Int) := by omega
          have hk3 : (i2 : Int) < ve.length := by omega
          have hk4 : (i2 : Int) < vs.length := by omega
          repeat' (first | (k_unfold; (try dsimp only)) | ((fail_if_success (with_reducible show wpAny _ _ (subscriptTail _ _ _ _) _ _ _)); first | (k_end; wrow_close) | walk1 | (dsimp only; walk1) | (leave1; try dsimp only)))
          refine item_at N3 (by lcg_src) hve hk2 hk3 (by omega) ?_ (by with_unfolding_all rfl)
          intro tB
          repeat' (first | (k_unfold; (try dsimp only)) | ((fail_if_success (with_reducible show wpAny _ _ (subscriptTail _ _ _ _) _ _ _)); first | (k_end; wrow_close) | walk1 | (dsimp only; walk1) | (leave1; try dsimp only)))
          · refine item_at N3 (by lcg_src) hvs hk2 hk4 (by omega) ?_ (by with_unfolding_all rfl)
            intro tC
            k_steps
            refine CEnd1.intro F3 N3 (fun p hp => hp) ?_
            exact dueJ_yes hJ (by assumption)
          · refine CEnd1.intro F3 N3 (fun p hp => hp) ?_
            exact dueJ_no hJ (by assumption)
        case finD =>
          intro ys hJ
          clear rg
          (rename Fr _ _ _ _ => FF; clear FF)
          (rename News _ _ _ _ => NN; clear NN)
          unfold LCg.FinA
          intro Dd h4 tk4 F4 N4 o4
          clear o4
          have hInT : KBa.In (List.take ((z : Int)).toNat (octsF B n8)) := fun k hk => hin8 k (List.mem_of_mem_take hk)
          repeat' (first | (k_unfold; (try dsimp only)) | ((fail_if_success (with_reducible show wpAny _ _ (call (Value.type "bytes") _) _ _ _)); first | (k_end; wrow_close) | walk1 | (dsimp only; walk1) | (leave1; try dsimp only)))
          rename Fr _ _ _ _ => FF
          rename News _ _ _ _ => NN
          rename IntsAre _ (List.take _ _) => hsl
          refine' KBa.make_K ?bF ?bN ?bh ?bl ?bi ?br ?bz ?_
          case bF => exact FF
          case bN => exact NN
          case bh => rfl
          case bl => exact isList_at NN (by lcg_src)
          case bi => exact hsl
          case br => exact hInT
          case bz => rw [List.length_take, octsF_len]; omega
          clear FF NN
          intro h8 t8 k8 F8 N8 _
          repeat' (first | (k_unfold; (try dsimp only)) | ((fail_if_success (with_reducible show wpAny _ _ (call (Value.ref 70) _) _ _ _)); first | (k_end; wrow_close) | walk1 | (dsimp only; walk1) | (leave1; try dsimp only)))
          rename Fr _ _ _ _ => F6
          rename News _ _ _ _ => N6
          rename _ = Data.cell (some (Value.int (z : Int) _)) => dC2
          have hcA : byteArr (List.take ((z : Int)).toNat (octsF B n8)) = cutA xs z := by rw [Int.toNat_natCast, hBe, hn8]; rfl
          rw [hcA, show (vs.length : Int) + 2 = ((xs.length + 2 : Nat) : Int) by omega]
          have hzc : z ≤ (padded xs).length / 8 := by omega
          k_dflt (refine run_ct w (T := T) B0 F6 X0 (mid_T (pre := [_, _, _, _, _, _, _, _, _, _, _, _, _, _, _]) (R := []) (R' := T) N6 (List.append_nil _).symm) T0 ?XB ?TB codeHd hT ?off rfl ?_ ?_ ?_ ?_ ?_ ?_)
          case XB => assumption
          case TB => assumption
          case off => exact offPN (pre := [_, _, _, _, _, _, _, _, _, _, _, _, _, _, _]) N6 mT (nfN_cons (.inl (noFld_seq rfl)) (nfN_cons (.inl (noFld_seq rfl)) (nfN_cons (.inr (qT _ mT).symm) (nfN_cons (.inl (noFld_seq rfl)) (nfN_cons (.inl (noFld_seq rfl)) (nfN_cons (.inl (noFld_seq rfl)) (nfN_cons (.inl (noFld_seq rfl)) (nfN_cons (.inl (noFld_seq rfl)) (nfN_cons (.inl (noFld_seq rfl)) (nfN_cons (.inl (noFld_cell dC2)) (nfN_cons (.inl (noFld_cell dP)) (nfN_cons (.inl (noFld_cell dM)) (nfN_cons (.inl (noFld_cell dE)) (nfN_cons (.inl (noFld_cell dB)) (nfN_cons (.inl (noFld_cell dN)) (nfN_nil))))))))))))))))
          · ktr_room
          · ktr_units
          · rw [cutA_size hzc]; omega
          · omega
          · intro ys9 P9 h9; have := nums_max hIn hzc h9; omega
          intro h7 tk7 T' tp1 li1 lw1 vs1 xs1 j1 jw1 jt1 u1 u2 u3 hT' hlt1 hl1 hl1' hvs1 hen1 F7 N7
          have hx1 := due_is hIn hzc hen1
          rw [← hes] at hx1
          subst hx1
          rw [cutA_size hzc] at N7
          obtain ⟨ps', mp'⟩ := hT'.mem
          have N8 := mid_back N7 (R := []) (R' := T') (List.append_nil _).symm
          simp only [List.cons_append, List.nil_append] at N8
          have f1 : OwnOff T' [I] := tab_off N8 hT' (fun e he => by simp [he]) (o := oI) (by lcg_src) hoT (qT _ mT)
          clear F6 N6 N7 hen1 hlt1
          repeat' (first | (k_unfold; (try dsimp only)) | ((fail_if_success (with_reducible show wpAny _ _ (compareOp _ _ _) _ _ _)); first | (k_end; wrow_close) | walk1 | (dsimp only; walk1) | (leave1; try dsimp only)))
          rename Fr _ _ _ _ => FF
          rename News _ _ _ _ => NN
          refine' ne_run ?rN ?r1 ?r2 ?r3 ?r4 ?r5 ?r6 hvs1 hJ (by rfl) ?ru ?_
          case rN => exact NN
          case r1 => lcg_src
          case r2 => lcg_src
          case r3 => lcg_src
          case r4 => lcg_src
          case r5 => lcg_src
          case r6 => lcg_src
          case ru => ktr_units
          k_steps
          obtain ⟨nx, hnx, hsub⟩ := pack_c NN
          exact EndY.intro FF NN (nx := nx) ⟨T', _, _, t1, t2, hnx, hT', dC2, rfl, rfl⟩ hsub (by lcg_src) (by rw [hnx]; simp only [List.forall_mem_cons]; exact ⟨q1, q2, q3, q4, q5, q6, q7, q8, q9, q10, q11, q12, fun q hq => f1 q hq I (List.mem_singleton.mpr rfl)⟩)
  )
end Mine
end
theorem PySem.Challenge.cw_dm0232_02_holds : PySem.Challenge.rw_dm0232_02.Holds :=
  Mine.law02
