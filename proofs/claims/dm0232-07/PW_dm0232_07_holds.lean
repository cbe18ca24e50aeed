import PyProof.Rows.All
import Wide.All
import OpenK.AllK
import Wide.FinOn
import PySem.Challenge.RW_dm0232_07
open PySem PySem.W PyProof.Rows
set_option Elab.async false
set_option maxRecDepth 100000
set_option maxHeartbeats 8000000
namespace Mine
open_top hd07 for PySem.Challenge.rw_dm0232_07
theorem top_off : True := by w_top off; trivial
end Mine
section
open PySem PySem.W PyProof.Rows PySem.Calls
set_option Elab.async false
namespace Mine
theorem upd_split {d : Addr} {o : Obj} {news : List (Addr × Obj)} {upd : Obj → List (Addr × Obj)} (U : UpdF d o news upd) :
    ∃ rest, OwnOff rest [d] ∧ (∀ q, q ∈ news ↔ q = (d, o) ∨ q ∈ rest) ∧ (∀ o' q, q ∈ upd o' ↔ q = (d, o') ∨ q ∈ rest) := by
  obtain ⟨pre, post, rfl, hu, h1, h2⟩ := U.split
  refine ⟨pre ++ post, fun q hq b hb => by rw [List.mem_singleton.mp hb]; exact (List.mem_append.mp hq).elim (h1 q) (h2 q), fun q => ?_, fun o' q => ?_⟩
  · simp only [List.mem_append, List.mem_cons]; constructor <;> (intro h; rcases h with h | h | h <;> simp [h])
  · rw [hu]; simp only [List.mem_append, List.mem_cons]; constructor <;> (intro h; rcases h with h | h | h <;> simp [h])
theorem news_sub {h₀ : Heap} {L : Addr} {h : Heap} {l l' : List (Addr × Obj)} (N : News h₀ L h l) (hs : ∀ p ∈ l', p ∈ l) : News h₀ L h l' := fun p hp => N p (hs p hp)

theorem off_lt {d : Nat} {rest : List (Addr × Obj)} {as : List Addr} (h : AllLt d rest) (hd : ∀ a ∈ as, d ≤ a) : OwnOff rest as :=
  fun q hq a ha => Nat.ne_of_lt (Nat.lt_of_lt_of_le (kst_ltOf h q hq) (hd a ha))
abbrev SD (P : Params) (k1 k2 : Tok) (r : Addr) (p : Int) (tp : Tok) : Obj :=
  dictOf [⟨PyData.keyHash P (Str.ofString "value"), .str (Str.ofString "value") k1, .int p tp⟩, ⟨PyData.keyHash P (Str.ofString "read"), .str (Str.ofString "read") k2, .ref r⟩] 2
/-- n octets from place q on -/
def cutB (b : Array UInt8) (q n : Nat) : Array UInt8 := ((b.toList.drop q).take n).toArray
/-- what a call of the stream's own read does -/
def ReadOk (prog : Program) (w : World) (K : Frag) (p : Program) (loose : List Str) (mean : ExcName → Option Value) (mg mb : Str → Option Value) (dx r : Addr) (k1 k2 : Tok) (b : Array UInt8) (I : List (Addr × Obj)) : Prop :=
  ∀ {dp un : Nat} {gd : Option (List Code)} {cn : Str} {cs : Scope} {a : Addr} {ccd : Value} {outer : List Env} {A₀ : Around} {base h₀ : Heap} {L : Addr} {m : Str → Option Value} {news : List (Addr × Obj)} {upd : Obj → List (Addr × Obj)} {s : Shared}
    {q n : Nat} {tq tn : Tok} {Q E : Value → Shared → Prop},
    Below A₀ base outer h₀ → Fr h₀ L s.heap m → K.In h₀ → News h₀ L s.heap news → Top p loose mean mg mb h₀ → cs.kind = .function → dp + 5 < recursionLimit → un + 40 < cLine →
    (∀ e ∈ I, e ∈ news) → UpdF dx (SD w.params k1 k2 r (q : Int) tq) news upd → q ≤ b.size → b.size ≤ 1048576 → n ≤ 1048576 →
    (∀ h' tk t1 t2, Fr h₀ L h' m → News h₀ L h' (upd (SD w.params k1 k2 r ((q + (cutB b q n).size : Nat) : Int) t1)) → Q (.bytes (cutB b q n) t2) { s with heap := h', toks := tk }) →
    wpAny (model prog w) (ktrTop dp un gd cn cs L a ccd [] outer) (call (.ref r) [.int (n : Int) tn]) Q E s
/-- neither a dict nor a list, tuple -/
def Kin (o : Obj) : Prop := (∀ es n, o.data ≠ .dict es n) ∧ ∀ vs n, o.data ≠ .seq vs n
theorem kin_func {o : Obj} {fd : FuncData} (h : o.data = .func fd) : Kin o := ⟨(fun _ _ e => by rw [h] at e; cases e), fun _ _ e => by rw [h] at e; cases e⟩
theorem kin_fields {o : Obj} {vs : Array Value} (h : o.data = .fields vs) : Kin o := ⟨(fun _ _ e => by rw [h] at e; cases e), fun _ _ e => by rw [h] at e; cases e⟩
theorem kin_plain {o : Obj} (h : o.data = .plain) : Kin o := ⟨(fun _ _ e => by rw [h] at e; cases e), fun _ _ e => by rw [h] at e; cases e⟩
theorem kin_cell {o : Obj} {v : Option Value} (h : o.data = .cell v) : Kin o := ⟨(fun _ _ e => by rw [h] at e; cases e), fun _ _ e => by rw [h] at e; cases e⟩
def KinL (l : List (Addr × Obj)) : Prop := ∀ e ∈ l, Kin e.2
theorem KinL.app {l l' : List (Addr × Obj)} (h : KinL l) (h' : KinL l') : KinL (l ++ l') := fun e he => (List.mem_append.mp he).elim (h e) (h' e)
theorem kin_offD {h₀ h : Heap} {L d : Addr} {R X : List (Addr × Obj)} {o : Obj} {es : Array DictEntry} {n : Nat} (N : News h₀ L h X) (hR : KinL R) (hs : ∀ e ∈ R, e ∈ X) (hm : (d, o) ∈ X) (ho : o.data = .dict es n) : OwnOff R [d] := fun q hq a ha e => by
  rw [List.mem_singleton.mp ha] at e
  have h1 := (N q (hs q hq)).1
  have h2 := (N _ hm).1
  rw [e] at h1
  have h3 : q.2 = o := Option.some.inj (h1.symm.trans h2)
  exact (hR q hq).1 es n (by rw [h3]; exact ho)
theorem kin_offS {h₀ h : Heap} {L d : Addr} {R X : List (Addr × Obj)} {o : Obj} {es : Array Value} {n : Nat} (N : News h₀ L h X) (hR : KinL R) (hs : ∀ e ∈ R, e ∈ X) (hm : (d, o) ∈ X) (ho : o.data = .seq es n) : OwnOff R [d] := fun q hq a ha e => by
  rw [List.mem_singleton.mp ha] at e
  have h1 := (N q (hs q hq)).1
  have h2 := (N _ hm).1
  rw [e] at h1
  have h3 : q.2 = o := Option.some.inj (h1.symm.trans h2)
  exact (hR q hq).2 es n (by rw [h3]; exact ho)
theorem off_cons {R : List (Addr × Obj)} {a : Addr} {as : List Addr} (h : OwnOff R [a]) (h' : OwnOff R as) : OwnOff R (a :: as) := fun q hq b hb =>
  (List.mem_cons.mp hb).elim (fun e => by rw [e]; exact h q hq a (List.mem_singleton.mpr rfl)) (h' q hq b)
/-- a stream: f bears the dict dx, whose read is r; the octets are b; what else belongs to it is I -/
structure Strm (prog : Program) (w : World) (K : Frag) (p : Program) (loose : List Str) (mean : ExcName → Option Value) (mg mb : Str → Option Value) (C f dx r : Addr) (k1 k2 : Tok) (b : Array UInt8) (I : List (Addr × Obj)) : Prop where
  inst : (f, instObj C dx) ∈ I
  fn : ∃ oc od fd sl, (r, (⟨oc, od, .func fd, sl⟩ : Obj)) ∈ I
  off : OwnOff I [dx]
  kin : KinL I
  read : ReadOk prog w K p loose mean mg mb dx r k1 k2 b I
/-- the table of the codes made within a code: none as yet, or the one of the stream's read -/
inductive Tab (P : Addr) (i j : Value) (qual : Str) : List (Addr × Obj) → Prop where
  | none : Tab P i j qual [(P, tabObj #[])]
  | some {c : Addr} {oc : Obj} {vs : Array Value} {t : Tok} : c ≠ P → oc.data = .fields vs → vs[1]? = some (.str qual t) → Tab P i j qual [(P, tabObj #[i, j, .ref c]), (c, oc)]
theorem off_one {l : List (Addr × Obj)} {d : Addr} (h : ∀ q ∈ l, q.1 ≠ d) : OwnOff l [d] := fun q hq a ha => by rw [List.mem_singleton.mp ha]; exact h q hq
theorem fin_none {h₀ h : Heap} {L f c x d l2 l1 P : Addr} {fo oc io sd o1 o2 tb : Obj} {rest : List (Addr × Obj)}
    (N : News h₀ L h ((f, fo) :: (c, oc) :: (x, io) :: (d, sd) :: (l2, o1) :: (l1, o2) :: (P, tb) :: rest)) :
    News h₀ L h ((d, sd) :: ([(f, fo), (c, oc), (x, io), (l2, o1), (l1, o2)] ++ ([(P, tb), (c, oc)] ++ rest))) :=
  news_sub N fun q hq => by
    simp only [List.mem_cons, List.mem_append, List.not_mem_nil, or_false] at hq ⊢
    rcases hq with h | (h | h | h | h | h) | (h | h) | h <;> simp [h]
theorem fin_some {h₀ h : Heap} {L f c x d l2 l1 P : Addr} {fo oc io sd o1 o2 tb : Obj} {rest : List (Addr × Obj)}
    (N : News h₀ L h ((f, fo) :: (x, io) :: (d, sd) :: (l2, o1) :: (l1, o2) :: (P, tb) :: (c, oc) :: rest)) :
    News h₀ L h ((d, sd) :: ([(f, fo), (c, oc), (x, io), (l2, o1), (l1, o2)] ++ ([(P, tb), (c, oc)] ++ rest))) :=
  news_sub N fun q hq => by
    simp only [List.mem_cons, List.mem_append, List.not_mem_nil, or_false] at hq ⊢
    rcases hq with h | (h | h | h | h | h) | (h | h) | h <;> simp [h]
theorem mem_rest {I news rest : List (Addr × Obj)} {d : Addr} {o : Obj} (hI : ∀ e ∈ I, e ∈ news) (ho : OwnOff I [d]) (hn : ∀ q, q ∈ news ↔ q = (d, o) ∨ q ∈ rest) : ∀ e ∈ I, e ∈ rest := fun e he =>
  ((hn e).mp (hI e he)).elim (fun q => absurd (congrArg Prod.fst q) (ho e he d (List.mem_singleton.mpr rfl))) id
theorem strm_mk {prog : Program} {w : World} {K : Frag} {p : Program} {loose : List Str} {mean : ExcName → Option Value} {mg mb : Str → Option Value} {C f dx r : Addr} {k1 k2 : Tok} {b : Array UInt8} {I : List (Addr × Obj)}
    (h1 : (f, instObj C dx) ∈ I) (h2 : ∃ oc od fd sl, (r, (⟨oc, od, .func fd, sl⟩ : Obj)) ∈ I) (h3 : OwnOff I [dx]) (hkin : KinL I) (h4 : OwnOff I [dx] → ReadOk prog w K p loose mean mg mb dx r k1 k2 b I) :
    Strm prog w K p loose mean mg mb C f dx r k1 k2 b I := ⟨h1, h2, h3, hkin, h4 h3⟩
theorem cutB_size (b : Array UInt8) (q n : Nat) : (cutB b q n).size = min n (b.size - q) := by
  simp [cutB]
theorem picked_cut {b : Array UInt8} {q n : Nat} (hq : q ≤ b.size) : KBy.picked b (some (q : Int)) (some ((q : Int) + (n : Int))) = cutB b q n := by
  have e : ((q : Int) + (n : Int)) = ((q + n : Nat) : Int) := by omega
  rw [KBc.picked_eq, e]
  simp only [Option.elim, clipAt_nat]
  unfold cutB
  rw [Nat.min_eq_left hq]
  congr 1
  have hl : (b.toList.drop q).length = b.size - q := by simp
  by_cases h : q + n ≤ b.size
  · rw [Nat.min_eq_left h, Nat.add_sub_cancel_left]
  · rw [Nat.min_eq_right (by omega), List.take_of_length_le (by omega), List.take_of_length_le (by omega)]
theorem read_place {b : Array UInt8} {q n l : Nat} (hq : q ≤ b.size) (hl : l = b.size) :
    (q : Int) + ((min (clipAt l ((q : Int) + (n : Int)) - min q l) (l - min q l) : Nat) : Int) = ((q + (cutB b q n).size : Nat) : Int) := by
  have e : ((q : Int) + (n : Int)) = ((q + n : Nat) : Int) := by omega
  rw [cutB_size, e, clipAt_nat, hl]
  omega
theorem read_fin {h₀ h : Heap} {L d : Addr} {P : Params} {k1 k2 : Tok} {r : Addr} {v v' : Int} {t : Tok} {rest : List (Addr × Obj)} {upd : Obj → List (Addr × Obj)}
    (N : News h₀ L h ((d, SD P k1 k2 r v t) :: rest)) (hv : v = v') (hup : ∀ o' q, q ∈ upd o' ↔ q = (d, o') ∨ q ∈ rest) : News h₀ L h (upd (SD P k1 k2 r v' t)) := by
  subst hv
  exact news_sub N fun q hq => List.mem_cons.mpr ((hup _ q).mp hq)
def Sub (I R : List (Addr × Obj)) : Prop := ∀ e ∈ I, e ∈ R
theorem Sub.cons {I R : List (Addr × Obj)} {q : Addr × Obj} (h : Sub I R) : Sub I (q :: R) := fun e he => List.mem_cons_of_mem _ (h e he)
/-- the octet at a place, a number -/
def oct (b : Array UInt8) (q : Nat) : Nat := (b.toList.getD q 0).toNat
theorem oct_lt (b : Array UInt8) (q : Nat) : oct b q < 256 := UInt8.toNat_lt _
theorem ints_cut1 {b : Array UInt8} {q : Nat} (h : q < b.size) : KBw.bInts (cutB b q 1) = [(oct b q : Int)] := by
  have h' : q < b.toList.length := by simpa using h
  unfold cutB
  rw [List.drop_eq_getElem_cons h', List.take_succ_cons, List.take_zero]
  simp [KBw.bInts, List.getD, h, oct]
theorem ints_cut0 {b : Array UInt8} {n : Nat} : KBw.bInts (cutB b b.size n) = [] := by
  unfold cutB
  rw [List.drop_of_length_le (by simp)]
  simp [KBw.bInts]
theorem cut1_size {b : Array UInt8} {q : Nat} (h : q < b.size) : (cutB b q 1).size = 1 := by rw [cutB_size]; omega
theorem cut0_size {b : Array UInt8} {n : Nat} : (cutB b b.size n).size = 0 := by rw [cutB_size]; omega
theorem raised_sub {base G : Heap} {l : List Env} {e : Addr} {cls : Value} {t : Addr} {vs : List Value} {news news' : List (Addr × Obj)} {h : Heap} (R : RaisedS base G l e cls t vs news h) (hs : ∀ q ∈ news', q ∈ news) : RaisedS base G l e cls t vs news' h := by
  obtain ⟨⟨B, h1, h2, h3, h4⟩, h5⟩ := R
  exact ⟨⟨B, h1, h2, fun q hq => h3 q (hs q hq), h4⟩, h5⟩
theorem strm_read {prog : Program} {w : World} {K : Frag} {p : Program} {loose : List Str} {mean : ExcName → Option Value} {mg mb : Str → Option Value} {C f dx r : Addr} {k1 k2 : Tok} {b : Array UInt8} {I : List (Addr × Obj)}
    {dp un : Nat} {gd : Option (List Code)} {cn : Str} {cs : Scope} {a : Addr} {ccd : Value} {outer : List Env} {A₀ : Around} {base h₀ : Heap} {L : Addr} {m : Str → Option Value} {news : List (Addr × Obj)} {upd : Obj → List (Addr × Obj)} {s : Shared}
    {q : Nat} {v : Int} {tq tn : Tok} {Q E : Value → Shared → Prop} (n : Nat) (hv : v = (n : Int))
    (S : Strm prog w K p loose mean mg mb C f dx r k1 k2 b I) (B : Below A₀ base outer h₀) (F : Fr h₀ L s.heap m) (X : K.In h₀) (N : News h₀ L s.heap news) (T : Top p loose mean mg mb h₀) (hk : cs.kind = .function) (hd : dp + 5 < recursionLimit) (hu : un + 40 < cLine)
    (hI : Sub I news) (U : UpdF dx (SD w.params k1 k2 r (q : Int) tq) news upd) (hq : q ≤ b.size) (hb : b.size ≤ 1048576) (hn : n ≤ 1048576)
    (h : ∀ h' tk t1 t2, Fr h₀ L h' m → News h₀ L h' (upd (SD w.params k1 k2 r ((q + (cutB b q n).size : Nat) : Int) t1)) → Q (.bytes (cutB b q n) t2) { s with heap := h', toks := tk }) :
    wpAny (model prog w) (ktrTop dp un gd cn cs L a ccd [] outer) (call (.ref r) [.int v tn]) Q E s := by
  subst hv
  exact S.read B F X N T hk hd hu hI U hq hb hn h
theorem raise_fin {base G : Heap} {l : List Env} {e : Addr} {cls : Value} {t : Addr} {vs : List Value} {h : Heap} {d : Addr} {P : Params} {k1 k2 : Tok} {r : Addr} {v v' : Int} {tt : Tok} {rest : List (Addr × Obj)} {upd : Obj → List (Addr × Obj)}
    (R : RaisedS base G l e cls t vs ((d, SD P k1 k2 r v tt) :: rest) h) (hv : v = v') (hup : ∀ o' q, q ∈ upd o' ↔ q = (d, o') ∨ q ∈ rest) : RaisedS base G l e cls t vs (upd (SD P k1 k2 r v' tt)) h := by
  subst hv
  exact raised_sub R fun q hq => List.mem_cons.mpr ((hup _ q).mp hq)
abbrev msg0 : Str := Str.ofString "not enough data in stream to read uint1"
abbrev msgB (n k : Int) : Str := Str.ofString "expected " ++ Str.ofString (toString n) ++ Str.ofString " bytes in a bytes1, but only " ++ Str.ofString (toString k) ++ Str.ofString " remain"
abbrev msgS (n k : Int) : Str := Str.ofString "expected " ++ Str.ofString (toString n) ++ Str.ofString " bytes in a string1, but only " ++ Str.ofString (toString k) ++ Str.ofString " remain"
theorem raise_fin2 {base G : Heap} {l : List Env} {e : Addr} {cls : Value} {t : Addr} {vs vs' : List Value} {h : Heap} {d : Addr} {P : Params} {k1 k2 : Tok} {r : Addr} {v v' : Int} {tt : Tok} {x : Addr × Obj} {rest : List (Addr × Obj)} {upd : Obj → List (Addr × Obj)}
    (R : RaisedS base G l e cls t vs (x :: (d, SD P k1 k2 r v tt) :: rest) h) (hv : v = v') (hvs : vs = vs') (hup : ∀ o' q, q ∈ upd o' ↔ q = (d, o') ∨ q ∈ rest) : RaisedS base G l e cls t vs' (upd (SD P k1 k2 r v' tt)) h := by
  subst hv hvs
  exact raised_sub R fun q hq => List.mem_cons_of_mem _ (List.mem_cons.mpr ((hup _ q).mp hq))
theorem news_x2 {h₀ h : Heap} {L d tp : Addr} {o o' : Obj} {P : Params} {k1 k2 : Tok} {r : Addr} {v v' : Int} {t : Tok} {rest : List (Addr × Obj)} {upd : Obj → List (Addr × Obj)}
    (N : News h₀ L h ((tp, o) :: (d, SD P k1 k2 r v t) :: rest)) (hv : v = v') (ho : o = o') (hup : ∀ o' q, q ∈ upd o' ↔ q = (d, o') ∨ q ∈ rest) : News h₀ L h ((tp, o') :: upd (SD P k1 k2 r v' t)) := by
  subst hv ho
  refine news_sub N fun q hq => ?_
  rcases List.mem_cons.mp hq with h | h
  · exact List.mem_cons.mpr (.inl h)
  · exact List.mem_cons_of_mem _ (List.mem_cons.mpr ((hup _ q).mp h))
theorem lt_all {d tp : Nat} {o : Obj} {news rest : List (Addr × Obj)} (h : d < tp ∧ AllLt tp rest) (hn : ∀ q, q ∈ news ↔ q = (d, o) ∨ q ∈ rest) : ∀ q ∈ news, q.1 < tp := fun q hq => by
  rcases (hn q).mp hq with rfl | hq
  · exact h.1
  · exact kst_ltOf h.2 q hq
theorem Tab.kin {P : Addr} {i j : Value} {qual : Str} {T : List (Addr × Obj)} (h : Tab P i j qual T) : KinL T := by
  cases h with
  | none => exact fun e he => by rw [List.mem_singleton.mp he]; exact kin_fields rfl
  | some _ hd _ =>
    intro e he
    simp only [List.mem_cons, List.not_mem_nil, or_false] at he
    rcases he with rfl | rfl
    · exact kin_fields rfl
    · exact kin_fields hd
theorem Tab.mem {P : Addr} {i j : Value} {qual : Str} {T : List (Addr × Obj)} (h : Tab P i j qual T) : ∃ ps, (P, tabObj ps) ∈ T := by
  cases h with
  | none => exact ⟨_, .head _⟩
  | some _ _ _ => exact ⟨_, .head _⟩
end Mine
end
section
open PySem PySem.W PyProof.Rows PySem.Calls
set_option Elab.async false
set_option maxRecDepth 100000
set_option maxHeartbeats 8000000
namespace Mine
theorem fmtB {n k : Int} {u v t : Tok} {b : Addr} (hn : 0 ≤ n) (hn' : n < 1000000) (hk : 0 ≤ k) (hk' : k < 1000000) :
    Meets (Builtin.«str.__mod__» ⟨[.str (Str.mk #[101, 120, 112, 101, 99, 116, 101, 100, 32, 37, 100, 32, 98, 121, 116, 101, 115, 32, 105, 110, 32, 97, 32, 98, 121, 116, 101, 115, 49, 44, 32, 98, 117, 116, 32, 111, 110, 108, 121, 32, 37, 100, 32, 114, 101, 109, 97, 105, 110]) t, .ref b], []⟩) (fun _ R s => IsTup s.heap b #[.int n u, .int k v] ∧ ∀ t' j, R (.ok (.ret (.str (msgB n k) t'))) { s with toks := j }) := by
  kpt_run
theorem modB {prog : Program} {w : World} {A : Around} {E : Value → Shared → Prop} {s : Shared} {t u v : Tok} {Q : Value → Shared → Prop} {b L : Addr} {j : Nat} {h₀ : Heap} {news : List (Addr × Obj)} {n k : Int}
    (N : News h₀ L s.heap news) (hb : (b, ({ cls := .type "tuple", data := .seq #[.int n u, .int k v] j } : Obj)) ∈ news) (hn : 0 ≤ n) (hn' : n < 1000000) (hk : 0 ≤ k) (hk' : k < 1000000)
    (h : ∀ t' j, Q (.str (msgB n k) t') { s with toks := j }) : wpAny (model prog w) A (binaryOp .Mod (.str (Str.ofString "expected %d bytes in a bytes1, but only %d remain") t) (.ref b)) Q E s :=
  KPt.mod_tuple N hb (by decide +kernel) (fmtB hn hn' hk hk') h
theorem fmtS {n k : Int} {u v t : Tok} {b : Addr} (hn : 0 ≤ n) (hn' : n < 1000000) (hk : 0 ≤ k) (hk' : k < 1000000) :
    Meets (Builtin.«str.__mod__» ⟨[.str (Str.mk #[101, 120, 112, 101, 99, 116, 101, 100, 32, 37, 100, 32, 98, 121, 116, 101, 115, 32, 105, 110, 32, 97, 32, 115, 116, 114, 105, 110, 103, 49, 44, 32, 98, 117, 116, 32, 111, 110, 108, 121, 32, 37, 100, 32, 114, 101, 109, 97, 105, 110]) t, .ref b], []⟩) (fun _ R s => IsTup s.heap b #[.int n u, .int k v] ∧ ∀ t' j, R (.ok (.ret (.str (msgS n k) t'))) { s with toks := j }) := by
  kpt_run
theorem modS {prog : Program} {w : World} {A : Around} {E : Value → Shared → Prop} {s : Shared} {t u v : Tok} {Q : Value → Shared → Prop} {b L : Addr} {j : Nat} {h₀ : Heap} {news : List (Addr × Obj)} {n k : Int}
    (N : News h₀ L s.heap news) (hb : (b, ({ cls := .type "tuple", data := .seq #[.int n u, .int k v] j } : Obj)) ∈ news) (hn : 0 ≤ n) (hn' : n < 1000000) (hk : 0 ≤ k) (hk' : k < 1000000)
    (h : ∀ t' j, Q (.str (msgS n k) t') { s with toks := j }) : wpAny (model prog w) A (binaryOp .Mod (.str (Str.ofString "expected %d bytes in a string1, but only %d remain") t) (.ref b)) Q E s :=
  KPt.mod_tuple N hb (by decide +kernel) (fmtS hn hn' hk hk') h
end Mine
end
section
open PySem PySem.W PyProof.Rows PySem.Calls PySem.Spec
set_option Elab.async false
namespace Mine
/-- all that is known of a frame whose ground may have turned (the slots of the frames above) -/
structure XSt (K : Frag) (A₀ : Around) (base : Heap) (outer : List Env) (p : Program) (loose : List Str) (mean : ExcName → Option Value) (mg mb : Str → Option Value) (g₀ : Heap) (L : Addr) (g h : Heap) (m : Str → Option Value) (news : List (Addr × Obj)) : Prop where
  turn : KtsTurn (outer.filterMap (·.frame)) g₀ g
  fr : Fr g L h m
  nw : News g L h news
  bl : Below A₀ base outer g
  kin : K.In g
  top : Top p loose mean mg mb g
  dicts : KtsDicts (outer.filterMap (·.frame)) g

def EndX (K : Frag) (A₀ : Around) (base : Heap) (outer : List Env) (p : Program) (loose : List Str) (mean : ExcName → Option Value) (mg mb : Str → Option Value) (g₀ : Heap) (L : Addr) (J : (Str → Option Value) → List (Addr × Obj) → Prop) (own : List (Addr × Obj)) (adr : List Addr) (s s₂ : Shared) : Prop :=
  ∃ g h' tk m' news' nx, s₂ = { s with heap := h', toks := tk } ∧ XSt K A₀ base outer p loose mean mg mb g₀ L g h' m' news' ∧ (∀ q ∈ nx, q ∈ news') ∧ (∀ q ∈ own, q ∈ news') ∧ nx.map (·.1) = adr ∧ J m' nx
def PostX (K : Frag) (A₀ : Around) (base : Heap) (outer : List Env) (p : Program) (loose : List Str) (mean : ExcName → Option Value) (mg mb : Str → Option Value) (g₀ : Heap) (L : Addr) (J : (Str → Option Value) → List (Addr × Obj) → Prop) (own : List (Addr × Obj)) (adr : List Addr) (Q : Flow → Shared → Prop) (s : Shared) (f : Flow) (s₂ : Shared) : Prop :=
  match f with
  | .ret v => Q (.ret v) s₂
  | .brk => Q .next s₂
  | _ => EndX K A₀ base outer p loose mean mg mb g₀ L J own adr s s₂
section
variable {K : Frag} {A₀ : Around} {base : Heap} {outer : List Env} {p : Program} {loose : List Str} {mean : ExcName → Option Value} {mg mb : Str → Option Value} {g₀ : Heap}
theorem EndX.intro {L : Addr} {J : (Str → Option Value) → List (Addr × Obj) → Prop} {own : List (Addr × Obj)} {adr : List Addr} {s : Shared} {g h' : Heap} {tk : Nat} {m' : Str → Option Value} {news' nx : List (Addr × Obj)}
    (T : KtsTurn (outer.filterMap (·.frame)) g₀ g) (F : Fr g L h' m') (N : News g L h' news') (B : Below A₀ base outer g) (X : K.In g) (P : Top p loose mean mg mb g) (D : KtsDicts (outer.filterMap (·.frame)) g)
    (hj : J m' nx) (ha : nx.map (·.1) = adr) (hn : ∀ q ∈ nx, q ∈ news') (ho : ∀ q ∈ own, q ∈ news') : EndX K A₀ base outer p loose mean mg mb g₀ L J own adr s { s with heap := h', toks := tk } :=
  ⟨g, h', tk, m', news', nx, rfl, ⟨T, F, N, B, X, P, D⟩, hn, ho, ha, hj⟩

theorem loopX {prog : Program} {w : World} {A : Around} {s : Shared} {env : Env} {R : Result → Shared → Prop} {x : Str} {px : Pos} {body : List Stmt} {I : Addr} {n : Nat} {P : Nat → Value → Prop} {St : Nat → Heap → Prop} {m₀ : Str → Option Value} {news : List (Addr × Obj)} {g : Heap}
    (J : Nat → (Str → Option Value) → List (Addr × Obj) → Prop) (Q : Flow → Shared → Prop) (E : Value → Shared → Prop)
    (W : Walks prog w A I [I] [I] n P St) (hx : env.kindOf x = some .local)
    (hp : (env.scope.kind == .class || (env.scope.kind == .module && env.locals != env.globals)) = false)
    (hLI : env.locals ≠ I) (hgI : g₀.get? I = none) (hnI : ∀ q ∈ news, q.1 ≠ I)
    (hst : St 0 s.heap) (X₀ : XSt K A₀ base outer p loose mean mg mb g₀ env.locals g s.heap m₀ news) (hj : J 0 m₀ news)
    (hE : ∀ e s', E e s' → notedBy (model prog w) A env (fun e s' => R (.error e) s') e s')
    (hQ : ∀ f s', Q f s' → R (.ok f) s')
    (turn : ∀ i v g m₁ news₁ h tk own, i < n → P i v → news₁.map (·.1) = news.map (·.1) → OwnOff own (news.map (·.1)) → J i m₁ news₁ →
      XSt K A₀ base outer p loose mean mg mb g₀ env.locals g h (fun y => if y = x then some v else m₁ y) (news₁ ++ own) →
      wpAny (model prog w) A (execs body env) (PostX K A₀ base outer p loose mean mg mb g₀ env.locals (J (i + 1)) own (news.map (·.1)) Q s) E { s with heap := h, toks := tk })
    (done : ∀ g m₁ news₁ h tk, J n m₁ news₁ → XSt K A₀ base outer p loose mean mg mb g₀ env.locals g h m₁ news₁ → Q .next { s with heap := h, toks := tk }) :
    codeAny (model prog w) A (.forLoop (.Name x px) (.ref I) body [] env) R s := by
  refine codeAny_forLoop
    (fun k s' => ∃ h' tk g m' news' i, s' = { s with heap := h', toks := tk } ∧ St i h' ∧ XSt K A₀ base outer p loose mean mg mb g₀ env.locals g h' m' news' ∧ news'.map (·.1) = news.map (·.1) ∧ J i m' news' ∧ i ≤ n ∧ k = n + 1 - i) ?_ (n + 1)
    ⟨s.heap, s.toks, g, m₀, news, 0, rfl, hst, X₀, rfl, hj, Nat.zero_le _, rfl⟩
  rintro k s' ⟨h', tk, g, m', news', i, rfl, hst', X', ha', hJ, hi, rfl⟩
  have nI : ∀ q ∈ news', q.1 ≠ I := fun q hq e => by
    have h1 : q.1 ∈ news'.map (·.1) := List.mem_map.mpr ⟨q, hq, rfl⟩
    rw [ha'] at h1
    obtain ⟨q', hq', e'⟩ := List.mem_map.mp h1
    exact hnI q' hq' (e'.trans e)
  have gI : g.get? I = none := X'.turn.none_ _ hgI
  have next : ∀ h₁ : Heap, (∀ b o, b ∉ [I] → h'.get? b = some o → h₁.get? b = some o) → XSt K A₀ base outer p loose mean mg mb g₀ env.locals g h₁ m' news' := fun h₁ hk₁ =>
    ⟨X'.turn, ⟨X'.fr.ns.at' fun o e => hk₁ _ o (by simpa using hLI) e, fun b o e => hk₁ b o (fun hb => by rw [List.mem_singleton.mp hb, gI] at e; cases e) (X'.fr.keep b o e), X'.fr.above⟩,
      fun q hq => ⟨hk₁ _ _ (by simpa using nI q hq) (X'.nw q hq).1, (X'.nw q hq).2⟩, X'.bl, X'.kin, X'.top, X'.dicts⟩
  by_cases hlt : i < n
  · refine W.item i _ _ _ hlt hst' fun v h₁ tk₁ hP hst₁ hk₁ => ?_
    have X₁ := next h₁ hk₁
    refine wpAny_assign_Name (wpAny_storeName_local hx X₁.fr.ns (fun h₂ hn₂ hs₂ => ?_) hp)
    have F₂ := X₁.fr.set hn₂ hs₂
    have N₂ := X₁.nw.set hs₂
    have hst₂ : St (i + 1) h₂ := W.frame _ _ _ hst₁ fun b hb o e => (hs₂.2 b fun q => hLI (by rw [List.mem_singleton.mp hb] at q; exact q.symm)).trans e
    have own : ∃ own : List (Addr × Obj), News g env.locals h₂ own ∧ OwnOff own (news.map (·.1)) ∧ (∀ o, h₂.get? I = some o → (I, o) ∈ own) := by
      cases ho : h₂.get? I with
      | none => exact ⟨[], News.nil, fun _ hq => (nomatch hq), fun o e => nomatch e⟩
      | some o =>
        refine ⟨[(I, o)], fun q hq => ?_, fun q hq b hb => ?_, fun o' e => ?_⟩
        · rw [List.mem_singleton.mp hq]; exact ⟨ho, hLI.symm, gI⟩
        · rw [List.mem_singleton.mp hq]
          obtain ⟨q', hq', e'⟩ := List.mem_map.mp hb
          exact fun e => hnI q' hq' (e'.trans e.symm)
        · cases e; exact List.mem_singleton.mpr rfl
    obtain ⟨own, No, hoff, hown⟩ := own
    have N₃ : News g env.locals h₂ (news' ++ own) := fun q hq => (List.mem_append.mp hq).elim (N₂ q) (No q)
    refine wpAny_mono (turn i v g m' news' h₂ _ own hlt hP ha' hoff hJ ⟨X₁.turn, F₂, N₃, X₁.bl, X₁.kin, X₁.top, X₁.dicts⟩) (fun f s₃ h₃ => ?_) fun e s' h' => hE e s' h'
    have fin : EndX K A₀ base outer p loose mean mg mb g₀ env.locals (J (i + 1)) own (news.map (·.1)) s s₃ → ∃ m, m < n + 1 - i ∧ ∃ h' tk g m' news' i', s₃ = { s with heap := h', toks := tk } ∧ St i' h' ∧ XSt K A₀ base outer p loose mean mg mb g₀ env.locals g h' m' news' ∧ news'.map (·.1) = news.map (·.1) ∧ J i' m' news' ∧ i' ≤ n ∧ m = n + 1 - i' := by
      rintro ⟨g₃, h₃', tk₃, m₃, news₃, nx, rfl, X₃, hsub, hso, hadr, hJ₃⟩
      have keepI : ∀ o, h₂.get? I = some o → h₃'.get? I = some o := fun o e => (X₃.nw _ (hso _ (hown o e))).1
      refine ⟨n + 1 - (i + 1), by omega, h₃', tk₃, g₃, m₃, nx, i + 1, rfl, ?_, ⟨X₃.turn, X₃.fr, fun q hq => X₃.nw q (hsub q hq), X₃.bl, X₃.kin, X₃.top, X₃.dicts⟩, hadr, hJ₃, hlt, rfl⟩
      exact W.frame _ _ _ hst₂ fun b hb o e => by rw [List.mem_singleton.mp hb] at e ⊢; exact keepI o e
    cases f with
    | ret v => exact hQ _ _ h₃
    | brk => exact hQ _ _ h₃
    | next => exact fin h₃
    | cont => exact fin h₃
  · have hin : i = n := by omega
    subst hin
    refine W.done _ _ _ hst' fun h₁ tk₁ hk₁ => wpAny_execs_nil ?_
    exact hQ _ _ (done g m' news' h₁ tk₁ hJ (next h₁ hk₁))

theorem iterX_range {prog : Program} {w : World} {A : Around} {s : Shared} {env : Env} {x : Str} {px : Pos} {body : List Stmt} {r : Addr} {a₀ b₀ : Int} {t₀ u₀ v₀ : Tok} {n : Nat} {m₀ : Str → Option Value} {news : List (Addr × Obj)} {g : Heap} {Q : Flow → Shared → Prop} {E : Value → Shared → Prop}
    (J : Nat → (Str → Option Value) → List (Addr × Obj) → Prop)
    (hh : A.handled = none) (hr : IsRange s.heap r a₀ b₀ 1 t₀ u₀ v₀) (hsmall : Builtin.Range.small a₀ b₀ 1 = true) (hn : Builtin.Range.rangeSize a₀ b₀ 1 = (n : Int)) (hx : env.kindOf x = some .local)
    (hp : (env.scope.kind == .class || (env.scope.kind == .module && env.locals != env.globals)) = false)
    (X₀ : XSt K A₀ base outer p loose mean mg mb g₀ env.locals g s.heap m₀ news) (hj : J 0 m₀ news)
    (hE : PassesOwn (model prog w) A env E)
    (turn : ∀ i t g m₁ news₁ h tk own, i < n → news₁.map (·.1) = news.map (·.1) → OwnOff own (news.map (·.1)) → J i m₁ news₁ →
      XSt K A₀ base outer p loose mean mg mb g₀ env.locals g h (fun y => if y = x then some (.int (a₀ + (i : Nat)) t) else m₁ y) (news₁ ++ own) →
      wpAny (model prog w) A (execs body env) (PostX K A₀ base outer p loose mean mg mb g₀ env.locals (J (i + 1)) own (news.map (·.1)) Q s) E { s with heap := h, toks := tk })
    (done : ∀ g m₁ news₁ h tk, J n m₁ news₁ → XSt K A₀ base outer p loose mean mg mb g₀ env.locals g h m₁ news₁ → Q .next { s with heap := h, toks := tk }) :
    wpAny (model prog w) A (pyIter (.ref r)) (fun it s₂ => codeAny (model prog w) A (.forLoop (.Name x px) it body [] env) (fun r s' => match r with | .ok f => Q f s' | .error e => cameBackBy (model prog w) A env E e s') s₂) E s := by
  refine wpAny_pyIter_range hr hsmall ?_
  have W : Walks prog w A s.heap.objs.size [s.heap.objs.size] [s.heap.objs.size] n (fun i v => i < n ∧ ∃ t, v = .int (a₀ + i * 1) t)
      (fun i h => IsRangeIter h s.heap.objs.size (a₀ + (i : Nat) * 1) ((n : Int) - (i : Nat)) 1) := (Walks.range hh _ a₀ 1 n).bound
  have gN : g₀.get? s.heap.objs.size = none := by
    cases q : g₀.get? s.heap.objs.size with
    | none => rfl
    | some o =>
      obtain ⟨sl, hs⟩ := X₀.turn.up q
      exact absurd (Heap.lt_size (X₀.fr.keep _ _ hs)) (Nat.lt_irrefl _)
  refine loopX (s := { s with heap := s.heap.push _ }) J Q E W hx hp (Nat.ne_of_lt X₀.fr.ns.lt) gN (fun q hq => Nat.ne_of_lt (Heap.lt_size (X₀.nw q hq).1)) ?_ ⟨X₀.turn, X₀.fr.push _, fun q hq => ⟨Heap.get?_push_of_some _ (X₀.nw q hq).1, (X₀.nw q hq).2⟩, X₀.bl, X₀.kin, X₀.top, X₀.dicts⟩ hj (fun e s' h => hE e s' h) (fun _ _ h => h) ?_ ?_
  · show IsRangeIter _ _ _ _ _
    rw [hn]; simpa using Heap.get?_push_size _ rfl
  · rintro i v g m₁ news₁ h tk own hi ⟨_, t, rfl⟩ ha hoff hJ X
    have e1 : a₀ + (i : Int) * 1 = a₀ + (i : Int) := by omega
    rw [e1] at X
    exact turn i t g m₁ news₁ h tk own hi ha hoff hJ X
  · intro g m₁ news₁ h tk hJ X
    exact done g m₁ news₁ h tk hJ X
/-- names that are known are written out -/
theorem fr_names {g h : Heap} {L : Addr} {m : Str → Option Value} (F : Fr g L h m) (ps : List (Str × Value)) (hk : ∀ q ∈ ps, m q.1 = some q.2) : Fr g L h (kstB m ps) := by
  have e : kstB m ps = m := funext fun z => kstB_eq hk fun _ => rfl
  rw [e]; exact F
end
end Mine
end
section
open PySem PySem.W PyProof.Rows PySem.Calls PySem.Spec
set_option Elab.async false
namespace Mine
theorem cut_snoc {b : Array UInt8} {a i : Nat} (h : a + i < b.size) : KBw.bInts (cutB b a (i + 1)) = KBw.bInts (cutB b a i) ++ [(oct b (a + i) : Int)] := by
  have h1 : i < (b.toList.drop a).length := by simp; omega
  unfold cutB oct
  rw [List.take_add_one, List.getElem?_eq_getElem h1]
  simp [KBw.bInts, List.getD, h]
theorem cut_zero {b : Array UInt8} {a : Nat} : KBw.bInts (cutB b a 0) = [] := by simp [cutB, KBw.bInts]
theorem bInts_in (c : Array UInt8) : KBa.In (KBw.bInts c) := fun _ h => KBw.ints_in h
theorem byteArr_bInts (c : Array UInt8) : byteArr (KBw.bInts c) = c := by
  unfold byteArr KBw.bInts
  simp only [List.map_map]
  have : ((fun n : Int => n.toNat.toUInt8) ∘ fun c : UInt8 => (c.toNat : Int)) = id := by
    funext x
    simp
  rw [this]
  simp
theorem ints_snoc {vs : List Value} {ns : List Int} (h : IntsAre vs ns) (n : Int) (t : Tok) : IntsAre (vs ++ [.int n t]) (ns ++ [n]) := h.append (.cons n t .nil)
theorem news_drop2 {h₀ h : Heap} {L : Addr} {a b : Addr × Obj} {l : List (Addr × Obj)} (N : News h₀ L h (a :: b :: l)) : News h₀ L h (a :: l) :=
  news_sub N fun q hq => by rcases List.mem_cons.mp hq with h | h <;> simp [h]
theorem sub_two {a b : Addr × Obj} {rest own : List (Addr × Obj)} : ∀ q ∈ a :: b :: rest, q ∈ a :: b :: (rest ++ own) := fun q hq => by
  simp only [List.mem_cons, List.mem_append] at hq ⊢
  rcases hq with h | h | h <;> simp [h]
theorem own_two {a b : Addr × Obj} {rest own : List (Addr × Obj)} : ∀ q ∈ own, q ∈ a :: b :: (rest ++ own) := fun q hq => by
  simp only [List.mem_cons, List.mem_append]; exact .inr (.inr (.inr hq))
theorem news_drop2' {h₀ h : Heap} {L : Addr} {a b c : Addr × Obj} {rest own : List (Addr × Obj)} (N : News h₀ L h (a :: b :: c :: (rest ++ own))) : News h₀ L h (a :: c :: rest) :=
  news_sub N fun q hq => by simp only [List.mem_cons, List.mem_append] at hq ⊢; rcases hq with h | h | h <;> simp [h]
theorem lt_all' {d tp : Nat} {x : Prop} {o : Obj} {news rest own : List (Addr × Obj)} (h : x ∧ d < tp ∧ AllLt tp (rest ++ own)) (hn : ∀ q, q ∈ news ↔ q = (d, o) ∨ q ∈ rest) : ∀ q ∈ news, q.1 < tp := fun q hq => by
  rcases (hn q).mp hq with rfl | hq
  · exact h.2.1
  · exact kst_ltOf h.2.2 q (List.mem_append.mpr (.inl hq))
theorem fr_back {g₀ g h : Heap} {L : Addr} {m : Str → Option Value} (T : KtsTurn [] g₀ g) (F : Fr g L h m) : Fr g₀ L h m :=
  ⟨F.ns, fun b o e => F.keep b o (T.other b o e (by simp)), by rw [← T.size]; exact F.above⟩
theorem news_back {g₀ g h : Heap} {L : Addr} {l : List (Addr × Obj)} (T : KtsTurn [] g₀ g) (N : News g L h l) : News g₀ L h l := fun q hq =>
  ⟨(N q hq).1, (N q hq).2.1, by
    cases e : g₀.get? q.1 with
    | none => rfl
    | some o => have := T.other _ _ e (by simp); rw [(N q hq).2.2] at this; cases this⟩
end Mine
end
section
open PySem PySem.W PyProof.Rows PySem.Calls PySem.Spec PySem.SeqAt
set_option Elab.async false
namespace Mine
/-- two values that stand for the same data: ints, texts, bytes, lists and tuples of such (n: how deep) -/
inductive Same (h : Heap) : Nat → Value → Value → Prop where
  | rfl {n : Nat} (v : Value) : Same h n v v
  | int {n : Nat} (i : Int) (t u : Tok) : Same h n (.int i t) (.int i u)
  | str {n : Nat} (x : Str) (t u : Tok) : Same h n (.str x t) (.str x u)
  | bytes {n : Nat} (x : Array UInt8) (t u : Tok) : Same h n (.bytes x t) (.bytes x u)
  | list {n : Nat} {l b : Addr} {xs ys : Array Value} : h.IsList l xs → h.IsList b ys → xs.size = ys.size → (∀ j (h1 : j < xs.size) (h2 : j < ys.size), Same h n xs[j] ys[j]) → Same h (n + 1) (.ref l) (.ref b)
  | tuple {n : Nat} {l b : Addr} {xs ys : Array Value} : h.IsTuple l xs → h.IsTuple b ys → xs.size = ys.size → (∀ j (h1 : j < xs.size) (h2 : j < ys.size), Same h n xs[j] ys[j]) → Same h (n + 1) (.ref l) (.ref b)
theorem all_true (n : Nat) : ((List.range n).all fun _ => true) = true := by simp
theorem Same.eqAt {s : Shared} {n : Nat} {v v' : Value} (h : Same s.heap n v v') : ∀ {A : Around}, A.units + n < cLine → EqAt A s v v' true := by
  induction h with
  | rfl v => exact fun _ => EqAt.same v
  | int i t u => intro A _; have := EqAt.int_int (A := A) (s := s) i t i u; simpa using this
  | str x t u => intro A _; have := EqAt.str_str (A := A) (s := s) x t x u; simpa using this
  | bytes x t u => intro A _ prog w E Q hq; exact eqBool_bytes (by simpa using hq)
  | @list n l b xs ys hl hb hsz _ ih =>
    intro A hu
    by_cases hlb : l = b
    · subst hlb; exact EqAt.same _
    · have := RcAt.lists (A := A) (e := fun _ => true) hl hb hsz (by omega) (fun j h1 h2 => ih j h1 h2 (by rw [Around.in1_units]; omega))
      rw [all_true] at this
      exact .of_refs hlb this
  | @tuple n l b xs ys hl hb hsz _ ih =>
    intro A hu
    by_cases hlb : l = b
    · subst hlb; exact EqAt.same _
    · have := RcAt.tuples (A := A) (e := fun _ => true) hl hb (by omega) (fun j h1 h2 => ih j h1 h2 (by rw [Around.in1_units]; omega))
      rw [all_true, hsz] at this
      simp only [BEq.rfl, Bool.and_self] at this
      exact .of_refs hlb this
section
variable {prog : Program} {w : World} {A : Around} {E : Value → Shared → Prop} {s : Shared} {Q : Value → Shared → Prop} {n : Nat} {l b : Addr} {xs ys : Array Value}
theorem eq_tuples (hl : s.heap.IsTuple l xs) (hb : s.heap.IsTuple b ys) (hsz : xs.size = ys.size) (he : ∀ j (h1 : j < xs.size) (h2 : j < ys.size), Same s.heap n xs[j] ys[j]) (hu : A.units + n + 1 < cLine) (h : Q (.bool true) s) :
    wpAny (model prog w) A (compareOp .Eq (.ref l) (.ref b)) Q E s := by
  refine eq_tupleAt (e := fun _ => true) hl hb (by omega) (fun j h1 h2 => (he j h1 h2).eqAt (by rw [Around.in1_units]; omega)) ?_
  rw [all_true, hsz]; simpa using h
theorem ne_tuples (hl : s.heap.IsTuple l xs) (hb : s.heap.IsTuple b ys) (hsz : xs.size = ys.size) (he : ∀ j (h1 : j < xs.size) (h2 : j < ys.size), Same s.heap n xs[j] ys[j]) (hu : A.units + n + 1 < cLine) (h : Q (.bool false) s) :
    wpAny (model prog w) A (compareOp .NotEq (.ref l) (.ref b)) Q E s := by
  have := RcNeAt.tuples (A := A) (e := fun _ => true) hl hb (by omega) (fun j h1 h2 => (he j h1 h2).eqAt (by rw [Around.in1_units]; omega))
  rw [all_true, hsz] at this
  exact this prog w E Q (by simpa using h)
theorem eq_lists (hl : s.heap.IsList l xs) (hb : s.heap.IsList b ys) (hsz : xs.size = ys.size) (he : ∀ j (h1 : j < xs.size) (h2 : j < ys.size), Same s.heap n xs[j] ys[j]) (hu : A.units + n + 1 < cLine) (h : Q (.bool true) s) :
    wpAny (model prog w) A (compareOp .Eq (.ref l) (.ref b)) Q E s := by
  refine eq_listAt (e := fun _ => true) hl hb hsz (by omega) (fun j h1 h2 => (he j h1 h2).eqAt (by rw [Around.in1_units]; omega)) ?_
  rw [all_true]; exact h
theorem ne_lists (hl : s.heap.IsList l xs) (hb : s.heap.IsList b ys) (hsz : xs.size = ys.size) (he : ∀ j (h1 : j < xs.size) (h2 : j < ys.size), Same s.heap n xs[j] ys[j]) (hu : A.units + n + 1 < cLine) (h : Q (.bool false) s) :
    wpAny (model prog w) A (compareOp .NotEq (.ref l) (.ref b)) Q E s := by
  have := RcNeAt.lists (A := A) (e := fun _ => true) hl hb hsz (by omega) (fun j h1 h2 => (he j h1 h2).eqAt (by rw [Around.in1_units]; omega))
  rw [all_true] at this
  exact this prog w E Q (by simpa using h)
end
inductive SameL (h : Heap) (n : Nat) : List Value → List Value → Prop where
  | nil : SameL h n [] []
  | cons {v w : Value} {vs ws : List Value} : Same h n v w → SameL h n vs ws → SameL h n (v :: vs) (w :: ws)
theorem SameL.length {h : Heap} {n : Nat} {vs ws : List Value} (x : SameL h n vs ws) : vs.length = ws.length := by
  induction x with
  | nil => rfl
  | cons _ _ ih => simp [ih]
theorem SameL.get {h : Heap} {n : Nat} {vs ws : List Value} (x : SameL h n vs ws) : ∀ j (h1 : j < vs.toArray.size) (h2 : j < ws.toArray.size), Same h n vs.toArray[j] ws.toArray[j] := by
  induction x with
  | nil => intro j h1; simp at h1
  | cons hd _ ih =>
    intro j h1 h2
    cases j with
    | zero => simpa using hd
    | succ j =>
      have := ih j (by simpa using h1) (by simpa using h2)
      simp only [List.getElem_toArray] at this ⊢
      exact this
theorem SameL.append {h : Heap} {n : Nat} {vs ws vs' ws' : List Value} (x : SameL h n vs ws) (y : SameL h n vs' ws') : SameL h n (vs ++ vs') (ws ++ ws') := by
  induction x with
  | nil => exact y
  | cons hd _ ih => exact .cons hd ih
theorem SameL.ints {h : Heap} {n : Nat} {vs ws : List Value} {ns : List Int} (a : IntsAre vs ns) (b : IntsAre ws ns) : SameL h n vs ws := by
  induction a generalizing ws with
  | nil => cases b; exact .nil
  | cons k t _ ih => cases b with | cons _ u r => exact .cons (.int k t u) (ih r)
theorem SameL.strs {h : Heap} {n : Nat} {vs ws : List Value} {ns : List Str} (a : StrsAre vs ns) (b : StrsAre ws ns) : SameL h n vs ws := by
  induction a generalizing ws with
  | nil => cases b; exact .nil
  | cons k t _ ih => cases b with | cons _ u r => exact .cons (.str k t u) (ih r)
/-- bytes, item by item -/
inductive BytesAre : List Value → List (Array UInt8) → Prop where
  | nil : BytesAre [] []
  | cons (b : Array UInt8) (t : Tok) {vs bs} : BytesAre vs bs → BytesAre (.bytes b t :: vs) (b :: bs)
theorem BytesAre.length {vs : List Value} {bs : List (Array UInt8)} (x : BytesAre vs bs) : vs.length = bs.length := by
  induction x with
  | nil => rfl
  | cons _ _ _ ih => simp [ih]
theorem BytesAre.append {vs ws : List Value} {bs cs : List (Array UInt8)} (x : BytesAre vs bs) (y : BytesAre ws cs) : BytesAre (vs ++ ws) (bs ++ cs) := by
  induction x with
  | nil => exact y
  | cons b t _ ih => exact .cons b t ih
theorem BytesAre.snoc {vs : List Value} {bs : List (Array UInt8)} (x : BytesAre vs bs) (b : Array UInt8) (t : Tok) : BytesAre (vs ++ [.bytes b t]) (bs ++ [b]) := x.append (.cons b t .nil)
theorem SameL.bytes {h : Heap} {n : Nat} {vs ws : List Value} {ns : List (Array UInt8)} (a : BytesAre vs ns) (b : BytesAre ws ns) : SameL h n vs ws := by
  induction a generalizing ws with
  | nil => cases b; exact .nil
  | cons k t _ ih => cases b with | cons _ u r => exact .cons (.bytes k t u) (ih r)
section
variable {prog : Program} {w : World} {A : Around} {E : Value → Shared → Prop} {s : Shared} {Q : Value → Shared → Prop} {n ja jb : Nat} {L a b : Addr} {xs ys : List Value} {h₀ h : Heap} {news : List (Addr × Obj)}
theorem isTup_at (N : News h₀ L h news) (hm : (a, ({ cls := .type "tuple", data := .seq xs.toArray ja } : Obj)) ∈ news) : h.IsTuple a xs.toArray := ⟨_, (N _ hm).1, rfl, _, rfl⟩
theorem isList_at (N : News h₀ L h news) (hm : (a, listOf xs.toArray ja) ∈ news) : h.IsList a xs.toArray := ⟨_, (N _ hm).1, rfl, _, rfl⟩
theorem same_tup (N : News h₀ L h news) (ha : (a, ({ cls := .type "tuple", data := .seq xs.toArray ja } : Obj)) ∈ news) (hb : (b, ({ cls := .type "tuple", data := .seq ys.toArray jb } : Obj)) ∈ news) (he : SameL h n xs ys) : Same h (n + 1) (.ref a) (.ref b) :=
  .tuple (isTup_at N ha) (isTup_at N hb) (by simpa using he.length) he.get
theorem same_list (N : News h₀ L h news) (ha : (a, listOf xs.toArray ja) ∈ news) (hb : (b, listOf ys.toArray jb) ∈ news) (he : SameL h n xs ys) : Same h (n + 1) (.ref a) (.ref b) :=
  .list (isList_at N ha) (isList_at N hb) (by simpa using he.length) he.get
theorem eq_tupL (N : News h₀ L s.heap news) (ha : (a, ({ cls := .type "tuple", data := .seq xs.toArray ja } : Obj)) ∈ news) (hb : (b, ({ cls := .type "tuple", data := .seq ys.toArray jb } : Obj)) ∈ news) (he : SameL s.heap 3 xs ys) (hu : A.units + 4 < cLine) (h : Q (.bool true) s) :
    wpAny (model prog w) A (compareOp .Eq (.ref a) (.ref b)) Q E s := eq_tuples (isTup_at N ha) (isTup_at N hb) (by simpa using he.length) he.get hu h
theorem ne_tupL (N : News h₀ L s.heap news) (ha : (a, ({ cls := .type "tuple", data := .seq xs.toArray ja } : Obj)) ∈ news) (hb : (b, ({ cls := .type "tuple", data := .seq ys.toArray jb } : Obj)) ∈ news) (he : SameL s.heap 3 xs ys) (hu : A.units + 4 < cLine) (h : Q (.bool false) s) :
    wpAny (model prog w) A (compareOp .NotEq (.ref a) (.ref b)) Q E s := ne_tuples (isTup_at N ha) (isTup_at N hb) (by simpa using he.length) he.get hu h
theorem eq_listL (N : News h₀ L s.heap news) (ha : (a, listOf xs.toArray ja) ∈ news) (hb : (b, listOf ys.toArray jb) ∈ news) (he : SameL s.heap 3 xs ys) (hu : A.units + 4 < cLine) (h : Q (.bool true) s) :
    wpAny (model prog w) A (compareOp .Eq (.ref a) (.ref b)) Q E s := eq_lists (isList_at N ha) (isList_at N hb) (by simpa using he.length) he.get hu h
theorem ne_listL (N : News h₀ L s.heap news) (ha : (a, listOf xs.toArray ja) ∈ news) (hb : (b, listOf ys.toArray jb) ∈ news) (he : SameL s.heap 3 xs ys) (hu : A.units + 4 < cLine) (h : Q (.bool false) s) :
    wpAny (model prog w) A (compareOp .NotEq (.ref a) (.ref b)) Q E s := ne_lists (isList_at N ha) (isList_at N hb) (by simpa using he.length) he.get hu h
end
end Mine
end
section
open PySem PySem.W PyProof.Rows PySem.Calls PySem.Spec
set_option Elab.async false
set_option maxRecDepth 100000
namespace Mine
theorem sub_bb : isSubtype (.type "bytes") (.type "bytes") = pure true := by rw [isSubtype_type]; kernel_rfl
theorem look_blen : typeLookup (.type "bytes") "__len__" = pure (some (.builtin "bytes.__len__")) := FB.slot_bytes_len.lookup
section
variable {prog : Program} {w : World} {A : Around} {E : Value → Shared → Prop} {s : Shared}
theorem ite_yes {α : Type} {M : Model} {c : Prop} [Decidable c] {a b : Sem α} {Q : α → Shared → Prop} (hc : c) (h : wpAny M A a Q E s) : wpAny M A (if c then a else b) Q E s := by rw [if_pos hc]; exact h
theorem ite_no {α : Type} {M : Model} {c : Prop} [Decidable c] {a b : Sem α} {Q : α → Shared → Prop} (hc : ¬ c) (h : wpAny M A b Q E s) : wpAny M A (if c then a else b) Q E s := by rw [if_neg hc]; exact h
theorem hint_bytes {c : Array UInt8} {t : Tok} {Q : Bool → Shared → Prop} (h : Q false s) : wpAny (model prog w) A (Builtin.List.listLengthHint (.bytes c t)) Q E s := by
  unfold Builtin.List.listLengthHint
  refine wpAny_bind (wpAny_specialOf (typeIs_bytes s c t) look_blen ?_)
  have e1 : splitId "bytes.__len__" = some ("bytes", "__len__") := by decide +kernel
  dsimp only
  rw [e1]
  dsimp only
  refine wpAny_bind (wpAny_isInstance (T := "bytes") (typeIs_bytes s c t) sub_bb ?_)
  refine ite_no (by decide) ?_
  refine ite_yes (by decide +kernel) ?_
  refine wpAny_bind (wpAny_typeOf (typeIs_bytes s c t) ?_)
  exact wpAny_pure h
theorem ext_loop {I S : Addr} {n : Nat} {P : Nat → Value → Prop} {St : Nat → Heap → Prop} {R : Result → Shared → Prop} (W : Walks prog w A.in1 I [I] [I] n P St) (hSI : S ≠ I) (res : Value) :
    ∀ (k i : Nat) (s : Shared) (acc : List Value) (c : Nat), n - i = k → i ≤ n → St i s.heap → s.heap.get? S = some { cls := .type "list", dict := none, data := .seq acc.toArray c, slots := #[] } → acc.length + (n - i) ≤ sizeLine →
    (∀ h' tk vs c', vs.length = n - i → (∀ j v, vs[j]? = some v → P (i + j) v) → h'.get? S = some { cls := .type "list", dict := none, data := .seq (acc ++ vs).toArray c', slots := #[] } → (∀ b o, b ≠ S → b ≠ I → s.heap.get? b = some o → h'.get? b = some o) → R (.ok (.ret res)) { s with heap := h', toks := tk }) →
    codeAny (model prog w) A (.builtin "list.extend.loop" ⟨[.ref S, .ref I, res], []⟩) R s := by
  intro k
  induction k with
  | zero =>
    intro i s acc c hk hi hst hS hsz hR
    have hin : i = n := by omega
    subst hin
    refine codeAny_builtin F.entry_extend_loop ?_
    rw [Around.under_plainId F.plain_extend_loop _]
    show wpAny _ A.in1 (pyNext (.ref I) >>= _) _ _ s
    refine wpAny_bind (W.done s _ _ hst fun h' tk hk' => ?_)
    exact wpAny_pure (hR h' tk [] c (by simp) (fun j v e => by simp at e) (by simpa using hk' S _ (by simpa using hSI) hS) fun b o _ hb e => hk' b o (by simpa using hb) e)
  | succ k ih =>
    intro i s acc c hk hi hst hS hsz hR
    have hlt : i < n := by omega
    refine codeAny_builtin F.entry_extend_loop ?_
    rw [Around.under_plainId F.plain_extend_loop _]
    show wpAny _ A.in1 (pyNext (.ref I) >>= _) _ _ s
    refine wpAny_bind (W.item i s _ _ hlt hst fun v h' tk hP hst' hk' => ?_)
    have hS' := hk' S _ (by simpa using hSI) hS
    show wpAny _ A.in1 (updateSeq S (·.push v) >>= _) _ _ _
    refine wpAny_bind ?_
    refine wpAny_updateSeq hS' rfl (wpAny_pure ⟨plainId_quiet F.plain_extend_loop _, ih (i + 1) _ (acc ++ [v]) _ (by omega) hlt (W.frame _ h' _ hst' fun b hb o e => ?_) (by rw [Heap.get?_update_self _ hS' rfl]; simp [Obj.mapSeq]; rfl) (by simp; omega) fun h'' tk'' vs c' hl hvs hS'' hkeep => ?_⟩)
      (by simp; omega) (by simp; omega)
    · rw [List.mem_singleton.mp hb] at e ⊢
      exact (Heap.get?_update_other _ _ hSI).trans e
    · refine hR h'' tk'' (v :: vs) c' (by simp; omega) (fun j x e => ?_) (by simpa using hS'') fun b o hb hbI e => ?_
      · cases j with
        | zero => simp at e; subst e; exact hP
        | succ j =>
          have := hvs j x (by simpa using e)
          rwa [show i + 1 + j = i + (j + 1) by omega] at this
      · exact hkeep b o hb hbI ((Heap.get?_update_other _ _ (Ne.symm hb)).trans (hk' b o (by simpa using hbI) e))
end
theorem ints_of {c : Array UInt8} : ∀ {vs : List Value} (i : Nat), vs.length = c.size - i → (∀ j v, vs[j]? = some v → ∃ x u, c[i + j]? = some x ∧ v = .int (x.toNat : Int) u) → IntsAre vs ((KBw.bInts c).drop i)
  | [], i, hl, _ => by
    have : (KBw.bInts c).drop i = [] := List.drop_of_length_le (by rw [KBw.ints_length]; simp at hl; omega)
    rw [this]; exact .nil
  | v :: vs, i, hl, h => by
    obtain ⟨x, u, hx, rfl⟩ := h 0 v (by simp)
    have hlt : i < (KBw.bInts c).length := by rw [KBw.ints_length]; simp at hl; omega
    rw [List.drop_eq_getElem_cons hlt]
    have e : (KBw.bInts c)[i] = (x.toNat : Int) := by
      have := KBw.ints_get (b := c) (i := i) (by simpa using hx)
      rw [List.getElem?_eq_getElem hlt] at this
      exact Option.some.inj this
    rw [e]
    refine .cons _ u (ints_of (i + 1) (by simp at hl; omega) fun j v hv => ?_)
    have := h (j + 1) v (by simpa using hv)
    rwa [show i + (j + 1) = i + 1 + j by omega] at this
theorem meets_ext (D : Addr) (c : Array UInt8) (t : Tok) (vs : List Value) (j : Nat) :
    Meets (Builtin.«list.extend» ⟨[.ref D, .bytes c t], []⟩) (fun A R s => A.handled = none ∧ s.heap.get? D = some (listOf vs.toArray j) ∧ vs.length + c.size ≤ sizeLine ∧
      ∀ h' tk ws c', IntsAre ws (KBw.bInts c) → h'.get? D = some (listOf (vs ++ ws).toArray c') → (∀ b o, b ≠ D → s.heap.get? b = some o → h'.get? b = some o) → R (.ok (.ret .none)) { s with heap := h', toks := tk }) := by
  intro prog w A R s ⟨hh, hD, hsz, hR⟩
  show wpAny _ _ (Builtin.List.listExtendWith (.ref D) (.bytes c t) .none) _ _ s
  unfold Builtin.List.listExtendWith
  refine wpAny_bind (wpAny_typeOf (typeIs_bytes s c t) ?_)
  have h1 : Builtin.List.listSameRef (.ref D) (.bytes c t) = false := rfl
  have h2 : (Value.type "bytes" == Value.type "list") = false := by decide
  have h3 : (Value.type "bytes" == Value.type "tuple") = false := by decide
  simp only [h1, h2, h3, Bool.or_false, Bool.false_eq_true, if_false]
  have hDI : D ≠ s.heap.objs.size := Nat.ne_of_lt (Heap.lt_size hD)
  refine wpAny_bind (KBw.pyIter_bytes ?_)
  refine wpAny_bind (wpAny_holding (hint_bytes ?_))
  refine ite_no (by decide +kernel) ?_
  refine wpAny_pure ⟨plainId_quiet F.plain_extend_loop _, ?_⟩
  have W := KBw.walks (prog := prog) (w := w) (A := A.in1) hh s.heap.objs.size c t
  refine ext_loop (n := c.size) W hDI .none c.size 0 _ vs j (by omega) (Nat.zero_le _) ⟨_, Heap.get?_push_size _ rfl, rfl, rfl⟩ (Heap.get?_push_of_some _ hD) (by omega) fun h' tk ws c' hl hws hD' hk => ?_
  refine hR h' tk ws c' ?_ hD' fun b o hb e => hk b o hb (fun q => ?_) (Heap.get?_push_of_some _ e)
  · have := ints_of (c := c) (vs := ws) 0 (by omega) (fun j v hv => by obtain ⟨x, u, hx, rfl⟩ := hws j v hv; exact ⟨x, u, hx, rfl⟩)
    simpa using this
  · rw [q] at e; exact absurd (Heap.lt_size e) (Nat.lt_irrefl _)
theorem extend_bytes {prog : Program} {w : World} {A : Around} {E : Value → Shared → Prop} {s : Shared} {h₀ : Heap} {L D : Addr} {m : Str → Option Value} {news : List (Addr × Obj)} {upd : Obj → List (Addr × Obj)} {c : Array UInt8} {t : Tok} {vs : List Value} {j : Nat} {Q : Value → Shared → Prop}
    (F : Fr h₀ L s.heap m) (N : News h₀ L s.heap news) (hh : A.handled = none) (U : UpdF D (listOf vs.toArray j) news upd) (hsz : vs.length + c.size ≤ 16777216)
    (h : ∀ h' tk ws c', IntsAre ws (KBw.bInts c) → Fr h₀ L h' m → News h₀ L h' (upd (listOf (vs ++ ws).toArray c')) → Q .none { s with heap := h', toks := tk }) :
    wpAny (model prog w) A (call (.builtin "list.extend") [.ref D, .bytes c t]) Q E s := by
  obtain ⟨rest, hof, hnw, hup⟩ := upd_split U
  have hm := N _ ((hnw _).mpr (.inl rfl))
  refine call_meets PySem.F.slot_list_extend ⟨_, hm.1, rfl⟩ PySem.F.entry_list_extend (PySem.F.args_list_extend_2 _ _) (meets_ext D c t vs j) ⟨hh, hm.1, by rw [sizeLine_eq]; exact hsz, fun h' tk ws c' hi hD hk => ?_⟩
  refine h h' tk ws c' hi ⟨F.ns.at' fun o e => hk _ o (Ne.symm hm.2.1) e, fun b o e => hk b o (fun q => ?_) (F.keep b o e), F.above⟩ fun q hq => ?_
  · rw [q, hm.2.2] at e; cases e
  · rcases (hup _ q).mp hq with rfl | hq'
    · exact ⟨hD, hm.2⟩
    · have hn := N q ((hnw q).mpr (.inr hq'))
      exact ⟨hk _ _ (hof q hq' D (List.mem_singleton.mpr rfl)) hn.1, hn.2⟩
end Mine
end
section
open PySem PySem.W PyProof.Rows PySem.Calls PySem.Spec
set_option Elab.async false
namespace Mine
theorem cut_split (b : Array UInt8) (a n m : Nat) : KBw.bInts (cutB b a (n + m)) = KBw.bInts (cutB b a n) ++ KBw.bInts (cutB b (a + n) m) := by
  unfold cutB KBw.bInts
  rw [List.take_add, List.drop_drop]
  simp
theorem cut_next {b : Array UInt8} {p : Nat} (h : p < b.size) : KBw.bInts (cutB b 0 (p + 1 + oct b p)) = KBw.bInts (cutB b 0 p) ++ [(oct b p : Int)] ++ KBw.bInts (cutB b (p + 1) (oct b p)) := by
  rw [show p + 1 + oct b p = (p + 1) + oct b p from rfl, cut_split, cut_split, Nat.zero_add, Nat.zero_add, ints_cut1 h]
theorem cut_whole {b : Array UInt8} : cutB b 0 b.size = b := by
  unfold cutB
  rw [List.drop_zero, List.take_of_length_le (by simp), Array.toArray_toList]
theorem sub_t3 {t1 t2 a b c : Addr × Obj} {R own : List (Addr × Obj)} : ∀ q ∈ a :: b :: c :: R, q ∈ t1 :: t2 :: a :: b :: c :: (R ++ own) := fun q hq => by
  simp only [List.mem_cons, List.mem_append] at hq ⊢
  rcases hq with h | h | h | h <;> simp [h]
theorem own_t3 {t1 t2 a b c : Addr × Obj} {R own : List (Addr × Obj)} : ∀ q ∈ own, q ∈ t1 :: t2 :: a :: b :: c :: (R ++ own) := fun q hq => by
  simp only [List.mem_cons, List.mem_append]; exact .inr (.inr (.inr (.inr (.inr (.inr hq)))))
theorem picked_upto {b : Array UInt8} {k : Nat} : KBy.picked b none (some (k : Int)) = cutB b 0 k := by
  rw [KBc.picked_eq]
  simp only [Option.elim, clipAt_nat, List.drop_zero, Nat.sub_zero]
  unfold cutB
  rw [List.drop_zero]
  congr 1
  by_cases h : k ≤ b.size
  · rw [Nat.min_eq_left h]
  · rw [Nat.min_eq_right (by omega), List.take_of_length_le (by simp), List.take_of_length_le (by simp; omega)]
section
variable {prog : Program} {w : World} {A : Around} {E : Value → Shared → Prop} {s : Shared} {h₀ : Heap} {L D : Addr} {m : Str → Option Value} {news : List (Addr × Obj)} {vs : List Value} {c x y : Array UInt8} {j : Nat} {t u : Tok} {Q : Value → Shared → Prop}
theorem make_bytes (F : Fr h₀ L s.heap m) (N : News h₀ L s.heap news) (hh : A.handled = none) (hm : (D, listOf vs.toArray j) ∈ news) (hi : IntsAre vs (KBw.bInts c)) (hz : c.size ≤ 16777216)
    (h : ∀ h' t' k, Fr h₀ L h' m → News h₀ L h' news → Q (.bytes c t') { s with heap := h', toks := k }) : wpAny (model prog w) A (call (.type "bytes") [.ref D]) Q E s :=
  KBa.make_K F N hh (isList_at N hm) hi (bInts_in c) (by rw [KBw.ints_length]; exact hz) fun h' t' k F' N' _ => by rw [byteArr_bInts]; exact h h' t' k F' N'
theorem eq_bytes_same (e : x = y) (h : Q (.bool true) s) : wpAny (model prog w) A (compareOp .Eq (.bytes x t) (.bytes y u)) Q E s := by
  subst e; exact eq_bytes (by simpa using h)
theorem ne_bytes_same (e : x = y) (h : Q (.bool false) s) : wpAny (model prog w) A (compareOp .NotEq (.bytes x t) (.bytes y u)) Q E s := by
  subst e; exact ne_bytes (by simpa using h)
end
end Mine
end
section
open PySem PySem.W PyProof.Rows PySem.Calls PySem.Spec PySem.SeqAt
set_option Elab.async false
namespace Mine
theorem ints_getD (b : Array UInt8) (p : Nat) : (KBw.bInts b).getD p 0 = (oct b p : Int) := (KBw.getD_ints b.toList p).symm
section
variable {prog : Program} {w : World} {A : Around} {E : Value → Shared → Prop} {s : Shared} {x y : Str} {t u : Tok} {Q : Value → Shared → Prop}
theorem ne_str_same (e : x = y) (h : Q (.bool false) s) : wpAny (model prog w) A (compareOp .NotEq (.str x t) (.str y u)) Q E s := by
  subst e; exact RcNeAt.str_str x t x u prog w E Q (by simpa using h)
theorem eq_str_same (e : x = y) (h : Q (.bool true) s) : wpAny (model prog w) A (compareOp .Eq (.str x t) (.str y u)) Q E s := by
  subst e; exact RcAt.str_str x t x u prog w E Q (by simpa using h)
end
end Mine
end
section
open PySem PySem.W PyProof.Rows PySem.Calls PySem.Spec
set_option Elab.async false
namespace Mine
/-- the end of a turn, where the ledger may have grown: I is the iterator's place -/
def EndY (g₀ : Heap) (L : Addr) (J : (Str → Option Value) → List (Addr × Obj) → Prop) (I : Addr) (oI : Obj) (s s₂ : Shared) : Prop :=
  ∃ h' tk m' news' nx, s₂ = { s with heap := h', toks := tk } ∧ Fr g₀ L h' m' ∧ News g₀ L h' news' ∧ (∀ q ∈ nx, q ∈ news') ∧ (I, oI) ∈ news' ∧ (∀ q ∈ nx, @Ne Nat q.1 I) ∧ J m' nx
def PostY (g₀ : Heap) (L : Addr) (J : (Str → Option Value) → List (Addr × Obj) → Prop) (I : Addr) (oI : Obj) (Q : Flow → Shared → Prop) (s : Shared) (f : Flow) (s₂ : Shared) : Prop :=
  match f with
  | .ret v => Q (.ret v) s₂
  | .brk => Q .next s₂
  | _ => EndY g₀ L J I oI s s₂
theorem EndY.intro {g₀ : Heap} {L : Addr} {J : (Str → Option Value) → List (Addr × Obj) → Prop} {I : Addr} {oI : Obj} {s : Shared} {h' : Heap} {tk : Nat} {m' : Str → Option Value} {news' nx : List (Addr × Obj)}
    (F : Fr g₀ L h' m') (N : News g₀ L h' news') (hj : J m' nx) (hn : ∀ q ∈ nx, q ∈ news') (hI : (I, oI) ∈ news') (hne : ∀ q ∈ nx, @Ne Nat q.1 I) : EndY g₀ L J I oI s { s with heap := h', toks := tk } :=
  ⟨h', tk, m', news', nx, rfl, F, N, hn, hI, hne, hj⟩
section
variable {g₀ : Heap}
theorem loopY {prog : Program} {w : World} {A : Around} {s : Shared} {env : Env} {R : Result → Shared → Prop} {x : Str} {px : Pos} {body : List Stmt} {I : Addr} {n : Nat} {P : Nat → Value → Prop} {St : Nat → Heap → Prop} {m₀ : Str → Option Value} {news : List (Addr × Obj)}
    (J : Nat → (Str → Option Value) → List (Addr × Obj) → Prop) (Q : Flow → Shared → Prop) (E : Value → Shared → Prop)
    (W : Walks prog w A I [I] [I] n P St) (hIo : ∀ i h, St i h → ∃ o, h.get? I = some o) (hx : env.kindOf x = some .local)
    (hp : (env.scope.kind == .class || (env.scope.kind == .module && env.locals != env.globals)) = false)
    (hLI : env.locals ≠ I) (hgI : g₀.get? I = none) (hnI : ∀ q ∈ news, @Ne Nat q.1 I)
    (hst : St 0 s.heap) (F₀ : Fr g₀ env.locals s.heap m₀) (N₀ : News g₀ env.locals s.heap news) (hj : J 0 m₀ news)
    (hE : ∀ e s', E e s' → notedBy (model prog w) A env (fun e s' => R (.error e) s') e s')
    (hQ : ∀ f s', Q f s' → R (.ok f) s')
    (turn : ∀ i v m₁ news₁ h tk oI, i < n → P i v → (∀ q ∈ news₁, @Ne Nat q.1 I) → J i m₁ news₁ →
      Fr g₀ env.locals h (fun y => if y = x then some v else m₁ y) → News g₀ env.locals h ((I, oI) :: news₁) →
      wpAny (model prog w) A (execs body env) (PostY g₀ env.locals (J (i + 1)) I oI Q s) E { s with heap := h, toks := tk })
    (done : ∀ m₁ news₁ h tk, J n m₁ news₁ → Fr g₀ env.locals h m₁ → News g₀ env.locals h news₁ → Q .next { s with heap := h, toks := tk }) :
    codeAny (model prog w) A (.forLoop (.Name x px) (.ref I) body [] env) R s := by
  refine codeAny_forLoop
    (fun k s' => ∃ h' tk m' news' i, s' = { s with heap := h', toks := tk } ∧ St i h' ∧ Fr g₀ env.locals h' m' ∧ News g₀ env.locals h' news' ∧ (∀ q ∈ news', @Ne Nat q.1 I) ∧ J i m' news' ∧ i ≤ n ∧ k = n + 1 - i) ?_ (n + 1)
    ⟨s.heap, s.toks, m₀, news, 0, rfl, hst, F₀, N₀, hnI, hj, Nat.zero_le _, rfl⟩
  rintro k s' ⟨h', tk, m', news', i, rfl, hst', F', N', nI, hJ, hi, rfl⟩
  have nextF : ∀ h₁ : Heap, (∀ b o, b ∉ [I] → h'.get? b = some o → h₁.get? b = some o) → Fr g₀ env.locals h₁ m' := fun h₁ hk₁ =>
    ⟨F'.ns.at' fun o e => hk₁ _ o (by simpa using hLI) e, fun b o e => hk₁ b o (fun hb => by rw [List.mem_singleton.mp hb, hgI] at e; cases e) (F'.keep b o e), F'.above⟩
  have nextN : ∀ h₁ : Heap, (∀ b o, b ∉ [I] → h'.get? b = some o → h₁.get? b = some o) → News g₀ env.locals h₁ news' := fun h₁ hk₁ =>
    fun q hq => ⟨hk₁ _ _ (by simpa using nI q hq) (N' q hq).1, (N' q hq).2⟩
  by_cases hlt : i < n
  · refine W.item i _ _ _ hlt hst' fun v h₁ tk₁ hP hst₁ hk₁ => ?_
    have F₁ := nextF h₁ hk₁
    have N₁ := nextN h₁ hk₁
    refine wpAny_assign_Name (wpAny_storeName_local hx F₁.ns (fun h₂ hn₂ hs₂ => ?_) hp)
    have F₂ := F₁.set hn₂ hs₂
    have N₂ := N₁.set hs₂
    have hst₂ : St (i + 1) h₂ := W.frame _ _ _ hst₁ fun b hb o e => (hs₂.2 b fun q => hLI (by rw [List.mem_singleton.mp hb] at q; exact q.symm)).trans e
    obtain ⟨oI, hoI⟩ := hIo _ _ hst₂
    have N₃ : News g₀ env.locals h₂ ((I, oI) :: news') := fun q hq => by
      rcases List.mem_cons.mp hq with rfl | hq
      · exact ⟨hoI, hLI.symm, hgI⟩
      · exact N₂ q hq
    refine wpAny_mono (turn i v m' news' h₂ _ oI hlt hP nI hJ F₂ N₃) (fun f s₃ h₃ => ?_) fun e s' h' => hE e s' h'
    have fin : EndY g₀ env.locals (J (i + 1)) I oI s s₃ → ∃ m, m < n + 1 - i ∧ ∃ h' tk m' news' i', s₃ = { s with heap := h', toks := tk } ∧ St i' h' ∧ Fr g₀ env.locals h' m' ∧ News g₀ env.locals h' news' ∧ (∀ q ∈ news', @Ne Nat q.1 I) ∧ J i' m' news' ∧ i' ≤ n ∧ m = n + 1 - i' := by
      rintro ⟨h₃', tk₃, m₃, news₃, nx, rfl, F₃, N₃, hsub, hI, hne, hJ₃⟩
      refine ⟨n + 1 - (i + 1), by omega, h₃', tk₃, m₃, nx, i + 1, rfl, ?_, F₃, fun q hq => N₃ q (hsub q hq), hne, hJ₃, hlt, rfl⟩
      exact W.frame _ _ _ hst₂ fun b hb o e => by
        rw [List.mem_singleton.mp hb] at e ⊢
        rw [hoI] at e; cases e
        exact (N₃ _ hI).1
    cases f with
    | ret v => exact hQ _ _ h₃
    | brk => exact hQ _ _ h₃
    | next => exact fin h₃
    | cont => exact fin h₃
  · have hin : i = n := by omega
    subst hin
    refine W.done _ _ _ hst' fun h₁ tk₁ hk₁ => wpAny_execs_nil ?_
    exact hQ _ _ (done m' news' h₁ tk₁ hJ (nextF h₁ hk₁) (nextN h₁ hk₁))

theorem iterY_range {prog : Program} {w : World} {A : Around} {s : Shared} {env : Env} {x : Str} {px : Pos} {body : List Stmt} {r : Addr} {a₀ b₀ c₀ : Int} {t₀ u₀ v₀ : Tok} {n : Nat} {m₀ : Str → Option Value} {news : List (Addr × Obj)} {Q : Flow → Shared → Prop} {E : Value → Shared → Prop}
    (J : Nat → (Str → Option Value) → List (Addr × Obj) → Prop)
    (hh : A.handled = none) (hr : IsRange s.heap r a₀ b₀ c₀ t₀ u₀ v₀) (hsmall : Builtin.Range.small a₀ b₀ c₀ = true) (hn : Builtin.Range.rangeSize a₀ b₀ c₀ = (n : Int)) (hx : env.kindOf x = some .local)
    (hp : (env.scope.kind == .class || (env.scope.kind == .module && env.locals != env.globals)) = false)
    (F₀ : Fr g₀ env.locals s.heap m₀) (N₀ : News g₀ env.locals s.heap news) (hj : J 0 m₀ news)
    (hE : PassesOwn (model prog w) A env E)
    (turn : ∀ I i t m₁ news₁ h tk oI, i < n → (∀ q ∈ news₁, @Ne Nat q.1 I) → J i m₁ news₁ →
      Fr g₀ env.locals h (fun y => if y = x then some (.int (a₀ + (i : Nat) * c₀) t) else m₁ y) → News g₀ env.locals h ((I, oI) :: news₁) →
      wpAny (model prog w) A (execs body env) (PostY g₀ env.locals (J (i + 1)) I oI Q s) E { s with heap := h, toks := tk })
    (done : ∀ m₁ news₁ h tk, J n m₁ news₁ → Fr g₀ env.locals h m₁ → News g₀ env.locals h news₁ → Q .next { s with heap := h, toks := tk }) :
    wpAny (model prog w) A (pyIter (.ref r)) (fun it s₂ => codeAny (model prog w) A (.forLoop (.Name x px) it body [] env) (fun r s' => match r with | .ok f => Q f s' | .error e => cameBackBy (model prog w) A env E e s') s₂) E s := by
  refine wpAny_pyIter_range hr hsmall ?_
  have W : Walks prog w A s.heap.objs.size [s.heap.objs.size] [s.heap.objs.size] n (fun i v => i < n ∧ ∃ t, v = .int (a₀ + i * c₀) t)
      (fun i h => IsRangeIter h s.heap.objs.size (a₀ + (i : Nat) * c₀) ((n : Int) - (i : Nat)) c₀) := (Walks.range hh _ a₀ c₀ n).bound
  have gN : g₀.get? s.heap.objs.size = none := by
    cases q : g₀.get? s.heap.objs.size with
    | none => rfl
    | some o => exact absurd (Heap.lt_size (F₀.keep _ _ q)) (Nat.lt_irrefl _)
  refine loopY (s := { s with heap := s.heap.push _ }) J Q E W (fun i h hi => ?_) hx hp (Nat.ne_of_lt F₀.ns.lt) gN (fun q hq => Nat.ne_of_lt (Heap.lt_size (N₀ q hq).1)) ?_ (F₀.push _) (fun q hq => ⟨Heap.get?_push_of_some _ (N₀ q hq).1, (N₀ q hq).2⟩) hj (fun e s' h => hE e s' h) (fun f s' h => h) ?_ ?_
  · exact ⟨_, hi⟩
  · show IsRangeIter _ _ _ _ _
    rw [hn]; simpa using Heap.get?_push_size _ rfl
  · rintro i v m₁ news₁ h tk oI hi ⟨_, t, rfl⟩ ho hJ F N
    exact turn _ i t m₁ news₁ h tk oI hi ho hJ F N
  · intro m₁ news₁ h tk hJ F N
    exact done m₁ news₁ h tk hJ F N
end
end Mine
namespace Mine
open PySem PySem.W PyProof.Rows PySem.Calls PySem.Spec
theorem size_down (k : Nat) : Builtin.Range.rangeSize ((k : Int) - 1) (-1) (-1) = (k : Int) := by
  unfold Builtin.Range.rangeSize
  simp only [show ¬ ((-1 : Int) > 0) by decide, if_false, show (- -1 : Int) = 1 by decide, Int.ediv_one]
  split <;> omega
theorem small_down {k : Nat} (hk : k < 1000000) : Builtin.Range.small ((k : Int) - 1) (-1) (-1) = true := by
  unfold Builtin.Range.small
  rw [size_down]
  simp only [Builtin.Range.rangeFitsLong, Bool.and_eq_true, Bool.or_eq_true, decide_eq_true_eq, beq_iff_eq, show ¬ ((-1 : Int) > 0) by decide, if_false]
  omega
end Mine
end
section
open PySem PySem.W PyProof.Rows PySem.Calls PySem.Spec
set_option Elab.async false
namespace Mine
section
variable {prog : Program} {w : World} {A₀ A : Around} {s : Shared} {base h₀ : Heap} {L a : Addr} {m : Str → Option Value} {cn : Str} {cs : Scope} {ccd : Value} {cl : List (Str × Addr)} {news : List (Addr × Obj)} {K : Frag} {p : Program} {loose : List Str} {mean : ExcName → Option Value} {mg mb : Str → Option Value}
    {R : Result → Shared → Prop} {name qual : Str} {params : Arguments} {body : List Stmt} {scope : Scope} {dV kV doc pm cdv ct oc : Value} {an od : Option Addr} {osl : Array (Option Value)} {f : Addr} {args : Args} {binds : List (Str × Value)}
/-- back from a callee whose ground turned: the caller's frame alone may have changed its slots -/
theorem back_turn {g g' h : Heap} {L' : Addr} {m' : Str → Option Value} {news' : List (Addr × Obj)} (FG : Fr h₀ L g m) (T : KtsTurn [L] g g') (F' : Fr g' L' h m') (N' : News g' L' h news') : Fr h₀ L h m ∧ News h₀ L h news' := by
  obtain ⟨oL, es, ep, hL, hLd, hLk, hLf⟩ := FG.ns
  obtain ⟨sl, hs⟩ := T.up hL
  have nL : h₀.get? L = none := kts_self FG
  refine ⟨⟨⟨_, es, ep, F'.keep _ _ hs, hLd, hLk, hLf⟩, fun b o e => F'.keep b o (T.other b o (FG.keep b o e) fun q => ?_), FG.above⟩, fun q hq => ⟨(N' q hq).1, fun e => ?_, ?_⟩⟩
  · rw [List.mem_singleton.mp q, nL] at e; cases e
  · have := (N' q hq).2.2; rw [e, hs] at this; cases this
  · cases e : h₀.get? q.1 with
    | none => rfl
    | some o =>
      obtain ⟨sl', hs'⟩ := T.up (FG.keep _ _ e)
      have := (N' q hq).2.2
      rw [hs'] at this; cases this
/-- the way into a def with a try, from a caller that may hold cells -/
theorem code_defSX (B : Below A₀ base [] h₀) (F : Fr h₀ L s.heap m) (X₀ : K.In h₀) (N : News h₀ L s.heap news) (T : Top p loose mean mg mb h₀) (hA : A.frames = some [envX cn cs L a ccd cl])
    (ho : K.lookup f = some ⟨oc, od, .func (fnOf name qual params body scope dV kV doc pm an cdv ct), osl⟩) (hcd : codeIn K cdv qual = true) (hroom : A.depth < recursionLimit)
    (hbind : BindsTo s (fnOf name qual params body scope dV kV doc pm an cdv ct) args binds) (hloc : ∀ y ∈ binds, scope.names.lookup y.1 = some .local)
    (h : ∀ g L' h₁, Fr h₀ L g m → Fr g L' h₁ (fun y => binds.reverse.lookup y) → News g L' h₁ news → Below A base [envX cn cs L a ccd cl] g → K.In g → Top p loose mean mg mb g → KtsDicts ([envX cn cs L a ccd cl].filterMap (·.frame)) g →
      wpAny (model prog w) (A.deeper (envOf qual scope L' f cdv)) (execs body (envOf qual scope L' f cdv))
        (fun fl s' => LeaveS0 ([envX cn cs L a ccd cl].filterMap (·.frame)) h₀ L m g R (match fl with | .ret v => v | _ => .none) s')
        (fun e s' => wpAny (model prog w) (A.deeper (envOf qual scope L' f cdv)) (leaving (envOf qual scope L' f cdv) e) (fun _ s'' => R (.error e) s'') (fun e' s'' => R (.error e') s'') s')
        { s with heap := h₁, toks := s.toks + binds.length })
    (hck : cs.kind = .function) (hco : scope.isCoroutine = false) (hgen : scope.isGenerator = false) (hk : scope.kind = .function)
    (hcell : ∀ x ∈ scope.names, x.2 ≠ .cell) : codeAny (model prog w) A (.call (.ref f) args) R s := by
  have X := X₀.keeps F.keep
  obtain ⟨FG, BG, st, -⟩ := groundX (R := R) B F N hA rfl hck
  refine codeAny_call_def (fd := fnOf name qual params body scope dV kV doc pm an cdv ct) (body := body) (binds := binds) hroom (X _ _ ho) rfl (T.nolimit.keeps F.keep) (codeRec_of X hcd) rfl hbind hcell hloc (fun h₁ hns hk₁ => ?_) hco hgen hk
  have D : KtsDicts ([envX cn cs L a ccd cl].filterMap (·.frame)) (hideAll s.heap (news.map (·.1))) := fun b hb => by
    obtain ⟨oL, es, ep, hL, hLd, _⟩ := FG.ns
    have e : b = L := List.mem_singleton.mp (show b ∈ [L] from hb)
    rw [e]; exact ⟨oL, es, ep, hL, hLd⟩
  refine wpAny_mono (h _ s.heap.objs.size h₁ FG ⟨hns, fun b o e => hk₁ b o (of_hideAll _ e), Nat.le_of_eq (hideAll_size _ _)⟩
    (fun q hq => ⟨hk₁ _ _ (N q hq).1, Nat.ne_of_lt (Heap.lt_size (N q hq).1), hideAll_none _ (List.mem_map_of_mem hq)⟩) BG (X₀.keeps st) (T.keeps st) D) (fun fl s' hl => ?_) fun _ _ y => y
  obtain ⟨g', L', m', news', T', F', N', k⟩ := hl
  obtain ⟨a1, a2⟩ := back_turn FG T' F' N'
  exact k a1 a2
end
end Mine
end
section
open PySem PySem.W PyProof.Rows PySem.Calls PySem.Spec
set_option Elab.async false
namespace Mine
/-- no code of a code -/
def NoTab (o : Obj) : Prop := ∀ vs q t, o.data = .fields vs → vs[1]? ≠ some (.str q t)
theorem noTab_seq {o : Obj} {vs : Array Value} {n : Nat} (h : o.data = .seq vs n) : NoTab o := fun _ _ _ e => by rw [h] at e; cases e
theorem noTab_cell {o : Obj} {v : Option Value} (h : o.data = .cell v) : NoTab o := fun _ _ _ e => by rw [h] at e; cases e
theorem noTab_dict {o : Obj} {es : Array DictEntry} {n : Nat} (h : o.data = .dict es n) : NoTab o := fun _ _ _ e => by rw [h] at e; cases e
theorem noTab_int {o : Obj} {ws : Array Value} {k : Int} {u : Tok} (h : o.data = .fields ws) (h1 : ws[1]? = some (.int k u)) : NoTab o := fun vs q t e e' => by
  rw [h] at e; cases e
  rw [h1] at e'; cases e'
theorem tab_off {h₀ h : Heap} {L a P : Addr} {X T : List (Addr × Obj)} {o : Obj} {i j : Value} {qual : Str} (N : News h₀ L h X) (hT : Tab P i j qual T) (hs : ∀ e ∈ T, e ∈ X) (hm : (a, o) ∈ X) (hn : NoTab o) (hP : @Ne Nat P a) : OwnOff T [a] := by
  intro q hq c hc
  rw [List.mem_singleton.mp hc]
  cases hT with
  | none => rw [List.mem_singleton.mp hq]; exact hP
  | some h1 h2 h3 =>
    simp only [List.mem_cons, List.not_mem_nil, or_false] at hq
    rcases hq with rfl | rfl
    · exact hP
    · intro e
      have e1 := (N _ (hs _ (.tail _ (.head _)))).1
      have e2 := (N _ hm).1
      rw [show ((_, _) : Addr × Obj).1 = a from e] at e1
      have e3 := Option.some.inj (e1.symm.trans e2)
      dsimp only at e3
      exact hn _ _ _ (by rw [← e3]; exact h2) h3
section
variable {g₀ : Heap}
/-- a for of any target over any source; the ledger may grow and shrink; fpo: what the source leans on -/
theorem loopG {prog : Program} {w : World} {A : Around} {s : Shared} {env : Env} {R : Result → Shared → Prop} {tg : Expr} {body : List Stmt} {I : Addr} {n : Nat} {P : Nat → Value → Prop} {St : Nat → Heap → Prop} {m₀ : Str → Option Value} {news fpo : List (Addr × Obj)}
    (J : Nat → (Str → Option Value) → List (Addr × Obj) → Prop) (Q : Flow → Shared → Prop) (E : Value → Shared → Prop)
    (W : Walks prog w A I (I :: fpo.map (·.1)) [I] n P St) (hIo : ∀ i h, St i h → ∃ o, h.get? I = some o ∧ NoTab o)
    (hJf : ∀ i m nx, J i m nx → ∀ q ∈ fpo, q ∈ nx)
    (hLI : env.locals ≠ I) (hgI : g₀.get? I = none) (hnI : ∀ q ∈ news, @Ne Nat q.1 I)
    (hst : St 0 s.heap) (F₀ : Fr g₀ env.locals s.heap m₀) (N₀ : News g₀ env.locals s.heap news) (hj : J 0 m₀ news)
    (hE : ∀ e s', E e s' → notedBy (model prog w) A env (fun e s' => R (.error e) s') e s')
    (hQ : ∀ f s', Q f s' → R (.ok f) s')
    (turn : ∀ i v m₁ news₁ h tk oI, NoTab oI → i < n → P i v → (∀ q ∈ news₁, @Ne Nat q.1 I) → J i m₁ news₁ →
      Fr g₀ env.locals h m₁ → News g₀ env.locals h ((I, oI) :: news₁) →
      wpAny (model prog w) A (assign tg env v) (fun _ s₂ => wpAny (model prog w) A (execs body env) (PostY g₀ env.locals (J (i + 1)) I oI Q s) E s₂) E { s with heap := h, toks := tk })
    (done : ∀ m₁ news₁ h tk, J n m₁ news₁ → Fr g₀ env.locals h m₁ → News g₀ env.locals h news₁ → Q .next { s with heap := h, toks := tk })
    (ht : ∀ v, letOwnedTupleGo tg (.ref I) v = pure () := by intro _; rfl) :
    codeAny (model prog w) A (.forLoop tg (.ref I) body [] env) R s := by
  refine codeAny_forLoop
    (fun k s' => ∃ h' tk m' news' i, s' = { s with heap := h', toks := tk } ∧ St i h' ∧ Fr g₀ env.locals h' m' ∧ News g₀ env.locals h' news' ∧ (∀ q ∈ news', @Ne Nat q.1 I) ∧ J i m' news' ∧ i ≤ n ∧ k = n + 1 - i) ?_ (n + 1)
    ⟨s.heap, s.toks, m₀, news, 0, rfl, hst, F₀, N₀, hnI, hj, Nat.zero_le _, rfl⟩ ht
  rintro k s' ⟨h', tk, m', news', i, rfl, hst', F', N', nI, hJ, hi, rfl⟩
  have nextF : ∀ h₁ : Heap, (∀ b o, b ∉ [I] → h'.get? b = some o → h₁.get? b = some o) → Fr g₀ env.locals h₁ m' := fun h₁ hk₁ =>
    ⟨F'.ns.at' fun o e => hk₁ _ o (by simpa using hLI) e, fun b o e => hk₁ b o (fun hb => by rw [List.mem_singleton.mp hb, hgI] at e; cases e) (F'.keep b o e), F'.above⟩
  have nextN : ∀ h₁ : Heap, (∀ b o, b ∉ [I] → h'.get? b = some o → h₁.get? b = some o) → News g₀ env.locals h₁ news' := fun h₁ hk₁ =>
    fun q hq => ⟨hk₁ _ _ (by simpa using nI q hq) (N' q hq).1, (N' q hq).2⟩
  by_cases hlt : i < n
  · refine W.item i _ _ _ hlt hst' fun v h₁ tk₁ hP hst₁ hk₁ => ?_
    have F₁ := nextF h₁ hk₁
    have N₁ := nextN h₁ hk₁
    obtain ⟨oI, hoI, hoT⟩ := hIo _ _ hst₁
    have N₃ : News g₀ env.locals h₁ ((I, oI) :: news') := fun q hq => by
      rcases List.mem_cons.mp hq with rfl | hq
      · exact ⟨hoI, hLI.symm, hgI⟩
      · exact N₁ q hq
    refine wpAny_mono (turn i v m' news' h₁ _ oI hoT hlt hP nI hJ F₁ N₃) (fun _ s₂ h₂ => wpAny_mono h₂ (fun f s₃ h₃ => ?_) fun e s' h' => hE e s' h') fun e s' h' => hE e s' h'
    have fin : EndY g₀ env.locals (J (i + 1)) I oI s s₃ → ∃ m, m < n + 1 - i ∧ ∃ h' tk m' news' i', s₃ = { s with heap := h', toks := tk } ∧ St i' h' ∧ Fr g₀ env.locals h' m' ∧ News g₀ env.locals h' news' ∧ (∀ q ∈ news', @Ne Nat q.1 I) ∧ J i' m' news' ∧ i' ≤ n ∧ m = n + 1 - i' := by
      rintro ⟨h₃', tk₃, m₃, news₃, nx, rfl, F₃, N₄, hsub, hI, hne, hJ₃⟩
      refine ⟨n + 1 - (i + 1), by omega, h₃', tk₃, m₃, nx, i + 1, rfl, ?_, F₃, fun q hq => N₄ q (hsub q hq), hne, hJ₃, hlt, rfl⟩
      exact W.frame _ _ _ hst₁ fun b hb o e => by
        rcases List.mem_cons.mp hb with rfl | hb
        · rw [hoI] at e; cases e
          exact (N₄ _ hI).1
        · obtain ⟨q, hq, rfl⟩ := List.mem_map.mp hb
          have h1 := (N₁ q (hJf _ _ _ hJ q hq)).1
          rw [h1] at e; cases e
          exact (N₄ q (hsub q (hJf _ _ _ hJ₃ q hq))).1
    cases f with
    | ret v => exact hQ _ _ h₃
    | brk => exact hQ _ _ h₃
    | next => exact fin h₃
    | cont => exact fin h₃
  · have hin : i = n := by omega
    subst hin
    refine W.done _ _ _ hst' fun h₁ tk₁ hk₁ => wpAny_execs_nil ?_
    exact hQ _ _ (done m' news' h₁ tk₁ hJ (nextF h₁ hk₁) (nextN h₁ hk₁))

theorem iterG_range {prog : Program} {w : World} {A : Around} {s : Shared} {env : Env} {tg : Expr} {body : List Stmt} {r : Addr} {a₀ b₀ c₀ : Int} {t₀ u₀ v₀ : Tok} {n : Nat} {m₀ : Str → Option Value} {news : List (Addr × Obj)} {Q : Flow → Shared → Prop} {E : Value → Shared → Prop}
    (J : Nat → (Str → Option Value) → List (Addr × Obj) → Prop)
    (hh : A.handled = none) (hr : IsRange s.heap r a₀ b₀ c₀ t₀ u₀ v₀) (hsmall : Builtin.Range.small a₀ b₀ c₀ = true) (hn : Builtin.Range.rangeSize a₀ b₀ c₀ = (n : Int))
    (F₀ : Fr g₀ env.locals s.heap m₀) (N₀ : News g₀ env.locals s.heap news) (hj : J 0 m₀ news)
    (hE : PassesOwn (model prog w) A env E)
    (turn : ∀ I i t m₁ news₁ h tk oI, NoTab oI → i < n → (∀ q ∈ news₁, @Ne Nat q.1 I) → J i m₁ news₁ →
      Fr g₀ env.locals h m₁ → News g₀ env.locals h ((I, oI) :: news₁) →
      wpAny (model prog w) A (assign tg env (.int (a₀ + (i : Nat) * c₀) t)) (fun _ s₂ => wpAny (model prog w) A (execs body env) (PostY g₀ env.locals (J (i + 1)) I oI Q s) E s₂) E { s with heap := h, toks := tk })
    (done : ∀ m₁ news₁ h tk, J n m₁ news₁ → Fr g₀ env.locals h m₁ → News g₀ env.locals h news₁ → Q .next { s with heap := h, toks := tk })
    (ht : ∀ I v, letOwnedTupleGo tg (.ref I) v = pure () := by intro _ _; rfl) :
    wpAny (model prog w) A (pyIter (.ref r)) (fun it s₂ => codeAny (model prog w) A (.forLoop tg it body [] env) (fun r s' => match r with | .ok f => Q f s' | .error e => cameBackBy (model prog w) A env E e s') s₂) E s := by
  refine wpAny_pyIter_range hr hsmall ?_
  have W : Walks prog w A s.heap.objs.size [s.heap.objs.size] [s.heap.objs.size] n (fun i v => i < n ∧ ∃ t, v = .int (a₀ + i * c₀) t)
      (fun i h => IsRangeIter h s.heap.objs.size (a₀ + (i : Nat) * c₀) ((n : Int) - (i : Nat)) c₀) := (Walks.range hh _ a₀ c₀ n).bound
  have gN : g₀.get? s.heap.objs.size = none := by
    cases q : g₀.get? s.heap.objs.size with
    | none => rfl
    | some o => exact absurd (Heap.lt_size (F₀.keep _ _ q)) (Nat.lt_irrefl _)
  refine loopG (s := { s with heap := s.heap.push _ }) (fpo := []) J Q E W (fun i h hi => ?_) (fun _ _ _ _ q hq => (nomatch hq)) (Nat.ne_of_lt F₀.ns.lt) gN (fun q hq => Nat.ne_of_lt (Heap.lt_size (N₀ q hq).1)) ?_ (F₀.push _) (fun q hq => ⟨Heap.get?_push_of_some _ (N₀ q hq).1, (N₀ q hq).2⟩) hj (fun e s' h => hE e s' h) (fun f s' h => h) ?_ ?_ (ht _)
  · exact ⟨_, hi, noTab_int rfl rfl⟩
  · show IsRangeIter _ _ _ _ _
    rw [hn]; simpa using Heap.get?_push_size _ rfl
  · rintro i v m₁ news₁ h tk oI hoT hi ⟨_, t, rfl⟩ ho hJ F N
    exact turn _ i t m₁ news₁ h tk oI hoT hi ho hJ F N
  · intro m₁ news₁ h tk hJ F N
    exact done m₁ news₁ h tk hJ F N

theorem iterG_list {prog : Program} {w : World} {A : Around} {s : Shared} {env : Env} {tg : Expr} {body : List Stmt} {r : Addr} {vs : List Value} {jv : Nat} {m₀ : Str → Option Value} {news : List (Addr × Obj)} {Q : Flow → Shared → Prop} {E : Value → Shared → Prop}
    (J : Nat → (Str → Option Value) → List (Addr × Obj) → Prop)
    (hh : A.handled = none) (hJf : ∀ i m nx, J i m nx → (r, listOf vs.toArray jv) ∈ nx)
    (F₀ : Fr g₀ env.locals s.heap m₀) (N₀ : News g₀ env.locals s.heap news) (hj : J 0 m₀ news)
    (hE : PassesOwn (model prog w) A env E)
    (turn : ∀ I i v m₁ news₁ h tk oI, NoTab oI → i < vs.length → vs[i]? = some v → (∀ q ∈ news₁, @Ne Nat q.1 I) → J i m₁ news₁ →
      Fr g₀ env.locals h m₁ → News g₀ env.locals h ((I, oI) :: news₁) →
      wpAny (model prog w) A (assign tg env v) (fun _ s₂ => wpAny (model prog w) A (execs body env) (PostY g₀ env.locals (J (i + 1)) I oI Q s) E s₂) E { s with heap := h, toks := tk })
    (done : ∀ m₁ news₁ h tk, J vs.length m₁ news₁ → Fr g₀ env.locals h m₁ → News g₀ env.locals h news₁ → Q .next { s with heap := h, toks := tk })
    (ht : ∀ I v, letOwnedTupleGo tg (.ref I) v = pure () := by intro _ _; rfl) :
    wpAny (model prog w) A (pyIter (.ref r)) (fun it s₂ => codeAny (model prog w) A (.forLoop tg it body [] env) (fun r s' => match r with | .ok f => Q f s' | .error e => cameBackBy (model prog w) A env E e s') s₂) E s := by
  have hmr := hJf _ _ _ hj
  have hl : s.heap.IsList r vs.toArray := ⟨_, (N₀ _ hmr).1, rfl, _, rfl⟩
  refine wpAny_pyIter_list hl ?_
  have hne : r ≠ s.heap.objs.size := Nat.ne_of_lt (Heap.lt_size (N₀ _ hmr).1)
  have W := Walks.list (prog := prog) (w := w) hh s.heap.objs.size r hne vs.toArray
  have gN : g₀.get? s.heap.objs.size = none := by
    cases q : g₀.get? s.heap.objs.size with
    | none => rfl
    | some o => exact absurd (Heap.lt_size (F₀.keep _ _ q)) (Nat.lt_irrefl _)
  refine loopG (s := { s with heap := s.heap.push _ }) (fpo := [(r, listOf vs.toArray jv)]) J Q E W (fun i h hi => ?_) (fun i m nx hJ q hq => by rw [List.mem_singleton.mp hq]; exact hJf i m nx hJ) (Nat.ne_of_lt F₀.ns.lt) gN (fun q hq => Nat.ne_of_lt (Heap.lt_size (N₀ q hq).1)) ?_ (F₀.push _) (fun q hq => ⟨Heap.get?_push_of_some _ (N₀ q hq).1, (N₀ q hq).2⟩) hj (fun e s' h => hE e s' h) (fun f s' h => h) ?_ ?_ (ht _)
  · obtain ⟨o, ho, _, hd⟩ := hi.1
    exact ⟨o, ho, noTab_int hd rfl⟩
  · exact ⟨⟨_, Heap.get?_push_size _ rfl, rfl, rfl⟩, hl.at fun o e => Heap.get?_push_of_some _ e⟩
  · rintro i v m₁ news₁ h tk oI hoT hi hv ho hJ F N
    exact turn _ i v m₁ news₁ h tk oI hoT (by simpa using hi) (by simpa using hv) ho hJ F N
  · intro m₁ news₁ h tk hJ F N
    exact done m₁ news₁ h tk (by simpa using hJ) F N
end
end Mine
end
section
open PySem PySem.W PyProof.Rows PySem.Calls PySem.Spec
set_option Elab.async false
namespace Mine
/-- the end of a comprehension's turn: what is kept, and that the word holds of the new ledger -/
def CEnd (h₀ : Heap) (L : Addr) (m : Str → Option Value) (s₁ : Shared) (I : Addr) (oI : Obj) (C : Addr) (oC : Obj) (D : Addr) (oD : Obj) (S : List (Addr × Obj) → Prop) (J : Value → List (Addr × Obj) → Prop) (y : Value) (s₂ : Shared) : Prop :=
  ∃ h' tk news' all, s₂ = { s₁ with heap := h', toks := tk } ∧ Fr h₀ L h' m ∧ News h₀ L h' all ∧ (∀ p ∈ (I, oI) :: (C, oC) :: (D, oD) :: news', p ∈ all) ∧ LCg.Off3 I C D news' ∧ S news' ∧ J y news'
theorem CEnd.intro {h₀ : Heap} {L I C D : Addr} {m : Str → Option Value} {s₁ : Shared} {oI oC oD : Obj} {S : List (Addr × Obj) → Prop} {J : Value → List (Addr × Obj) → Prop} {y : Value} {h' : Heap} {tk : Nat} {all news' : List (Addr × Obj)}
    (F : Fr h₀ L h' m) (N : News h₀ L h' all) (sub : ∀ p ∈ (I, oI) :: (C, oC) :: (D, oD) :: news', p ∈ all) (off : LCg.Off3 I C D news') (hS : S news') (j : J y news') :
    CEnd h₀ L m s₁ I oI C oC D oD S J y { s₁ with heap := h', toks := tk } := ⟨h', tk, news', all, rfl, F, N, sub, off, hS, j⟩
theorem CEnd.comp {h₀ : Heap} {L I C D : Addr} {m : Str → Option Value} {s₁ s₂ : Shared} {oI oC oD : Obj} {S : List (Addr × Obj) → Prop} {J J' : Value → List (Addr × Obj) → Prop} {y : Value}
    (h : CEnd h₀ L m s₁ I oI C oC D oD S J y s₂) (hj : ∀ nw, J y nw → J' y nw) : LCg.CompEnd h₀ L m s₁ I oI C oC D oD S J' y s₂ := by
  obtain ⟨h', tk, news', all, rfl, F, N, sub, off, hS, j⟩ := h
  exact ⟨h', tk, news', rfl, F, fun p hp => N p (sub p hp), off, hS, hj _ j⟩
section
variable {prog : Program} {w : World} {A : Around} {s : Shared} {h₀ : Heap} {L : Addr} {m : Str → Option Value} {env : Env} {ct elt : Expr} {x : Str} {scope : Scope} {cl : List (Str × Addr)} {S : List (Addr × Obj) → Prop} {P : Nat → Value → Prop} {Fin : List Value → List (Addr × Obj) → Prop} {n : Nat} {news : List (Addr × Obj)}
/-- a comprehension without a test, by a word over what it has made -/
theorem restU (J : Nat → List Value → List (Addr × Obj) → Prop) (h0 : J 0 [] news) (fin : ∀ ys nw, J n ys nw → Fin ys nw)
    (turn : ∀ i v ys nw I oI C oC D m₂ h tk (E' : Value → Shared → Prop), i < n → P i v → J i ys nw → LCg.NsObj oC m₂ → m₂ x = some v → Fr h₀ L h m → News h₀ L h ((I, oI) :: (C, oC) :: (D, LCg.lst ys) :: nw) → LCg.Off3 I C D nw → ((@Ne Nat I C) ∧ (@Ne Nat I D) ∧ (@Ne Nat C D)) →
      wpAny (model prog w) A (eval elt (compEnvC scope cl C env)) (CEnd h₀ L m { s with heap := h, toks := tk } I oI C oC D (LCg.lst ys) S (fun y nw' => J (i + 1) (ys ++ [y]) nw')) E' { s with heap := h, toks := tk }) :
    LCg.CompRest prog w A h₀ L m env elt x scope cl s S P Fin n 0 [] news := by
  have key : ∀ k i ys nw, i + k = n → J i ys nw → LCg.CompRest prog w A h₀ L m env elt x scope cl s S P Fin k i ys nw := by
    intro k
    induction k with
    | zero => intro i ys nw e hJ; rw [show i = n by omega] at hJ; exact fin ys nw hJ
    | succ k ih =>
      intro i ys nw e hJ
      refine LCg.CompRest.succ fun v I oI C oC D m₂ h tk E' hP hC hx F N off ne => ?_
      exact wpAny_mono (turn i v ys nw I oI C oC D m₂ h tk E' (by omega) hP hJ hC hx F N off ne) (fun y s₂ h₂ => h₂.comp fun nw' hj => ih (i + 1) _ nw' (by omega) hj) fun _ _ e => e
  exact key n 0 [] news (by omega) h0
/-- a comprehension with one test -/
theorem restT (J : Nat → List Value → List (Addr × Obj) → Prop) (h0 : J 0 [] news) (fin : ∀ ys nw, J n ys nw → Fin ys nw)
    (turn : ∀ i v ys nw I oI C oC D m₂ h tk (E' : Value → Shared → Prop), i < n → P i v → J i ys nw → LCg.NsObj oC m₂ → m₂ x = some v → Fr h₀ L h m → News h₀ L h ((I, oI) :: (C, oC) :: (D, LCg.lst ys) :: nw) → LCg.Off3 I C D nw → ((@Ne Nat I C) ∧ (@Ne Nat I D) ∧ (@Ne Nat C D)) →
      wpAny (model prog w) A (isTrue ct (compEnvC scope cl C env) (eval ct (compEnvC scope cl C env))) (fun ok s' => if ok = true then
        wpAny (model prog w) A (eval elt (compEnvC scope cl C env)) (CEnd h₀ L m { s with heap := h, toks := tk } I oI C oC D (LCg.lst ys) S (fun y nw' => J (i + 1) (ys ++ [y]) nw')) E' s'
        else CEnd h₀ L m { s with heap := h, toks := tk } I oI C oC D (LCg.lst ys) S (fun _ nw' => J (i + 1) ys nw') Value.none s') E' { s with heap := h, toks := tk }) :
    LCt.CompRestT prog w A h₀ L m env ct elt x scope cl s S P Fin n 0 [] news := by
  have key : ∀ k i ys nw, i + k = n → J i ys nw → LCt.CompRestT prog w A h₀ L m env ct elt x scope cl s S P Fin k i ys nw := by
    intro k
    induction k with
    | zero => intro i ys nw e hJ; rw [show i = n by omega] at hJ; exact fin ys nw hJ
    | succ k ih =>
      intro i ys nw e hJ
      refine LCt.CompRestT.succ fun v I oI C oC D m₂ h tk E' hP hC hx F N off ne => ?_
      refine wpAny_mono (turn i v ys nw I oI C oC D m₂ h tk E' (by omega) hP hJ hC hx F N off ne) (fun ok s₂ h₂ => ?_) fun _ _ e => e
      cases ok with
      | true =>
        simp only [if_true] at h₂ ⊢
        exact wpAny_mono h₂ (fun y s₃ h₃ => h₃.comp fun nw' hj => ih (i + 1) _ nw' (by omega) hj) fun _ _ e => e
      | false =>
        simp only [Bool.false_eq_true, if_false] at h₂ ⊢
        exact h₂.comp fun nw' hj => ih (i + 1) _ nw' (by omega) hj
  exact key n 0 [] news (by omega) h0
/-- the same, the ledger's rest unchanged -/
def CEnd1 (h₀ : Heap) (L : Addr) (m : Str → Option Value) (s₁ : Shared) (I : Addr) (oI : Obj) (C : Addr) (oC : Obj) (D : Addr) (oD : Obj) (news : List (Addr × Obj)) (J : Value → Prop) (y : Value) (s₂ : Shared) : Prop :=
  ∃ h' tk all, s₂ = { s₁ with heap := h', toks := tk } ∧ Fr h₀ L h' m ∧ News h₀ L h' all ∧ (∀ p ∈ (I, oI) :: (C, oC) :: (D, oD) :: news, p ∈ all) ∧ J y
theorem CEnd1.intro {h₀ : Heap} {L I C D : Addr} {m : Str → Option Value} {s₁ : Shared} {oI oC oD : Obj} {J : Value → Prop} {y : Value} {h' : Heap} {tk : Nat} {all news : List (Addr × Obj)}
    (F : Fr h₀ L h' m) (N : News h₀ L h' all) (sub : ∀ p ∈ (I, oI) :: (C, oC) :: (D, oD) :: news, p ∈ all) (j : J y) :
    CEnd1 h₀ L m s₁ I oI C oC D oD news J y { s₁ with heap := h', toks := tk } := ⟨h', tk, all, rfl, F, N, sub, j⟩
theorem CEnd1.to {h₀ : Heap} {L I C D : Addr} {m : Str → Option Value} {s₁ s₂ : Shared} {oI oC oD : Obj} {S : List (Addr × Obj) → Prop} {J : Value → Prop} {y : Value} {news : List (Addr × Obj)}
    (h : CEnd1 h₀ L m s₁ I oI C oC D oD news J y s₂) (off : LCg.Off3 I C D news) (hS : S news) : CEnd h₀ L m s₁ I oI C oC D oD S (fun y nw => nw = news ∧ J y) y s₂ := by
  obtain ⟨h', tk, all, rfl, F, N, sub, j⟩ := h
  exact ⟨h', tk, news, all, rfl, F, N, sub, off, hS, rfl, j⟩
theorem restU1 (J : Nat → List Value → Prop) (hS : S news) (h0 : J 0 []) (fin : ∀ ys, J n ys → Fin ys news)
    (turn : ∀ i v ys I oI C oC D m₂ h tk (E' : Value → Shared → Prop), i < n → P i v → J i ys → LCg.NsObj oC m₂ → m₂ x = some v → Fr h₀ L h m → News h₀ L h ((I, oI) :: (C, oC) :: (D, LCg.lst ys) :: news) → LCg.Off3 I C D news → ((@Ne Nat I C) ∧ (@Ne Nat I D) ∧ (@Ne Nat C D)) →
      wpAny (model prog w) A (eval elt (compEnvC scope cl C env)) (CEnd1 h₀ L m { s with heap := h, toks := tk } I oI C oC D (LCg.lst ys) news (fun y => J (i + 1) (ys ++ [y]))) E' { s with heap := h, toks := tk }) :
    LCg.CompRest prog w A h₀ L m env elt x scope cl s S P Fin n 0 [] news := by
  refine restU (fun i ys nw => nw = news ∧ J i ys) ⟨rfl, h0⟩ (fun ys nw ⟨e, hJ⟩ => e ▸ fin ys hJ) ?_
  rintro i v ys nw I oI C oC D m₂ h tk E' hi hP ⟨rfl, hJ⟩ hC hx F N off ne
  exact wpAny_mono (turn i v ys I oI C oC D m₂ h tk E' hi hP hJ hC hx F N off ne) (fun y s₂ h₂ => h₂.to off hS) fun _ _ e => e
theorem restT1 (J : Nat → List Value → Prop) (hS : S news) (h0 : J 0 []) (fin : ∀ ys, J n ys → Fin ys news)
    (turn : ∀ i v ys I oI C oC D m₂ h tk (E' : Value → Shared → Prop), i < n → P i v → J i ys → LCg.NsObj oC m₂ → m₂ x = some v → Fr h₀ L h m → News h₀ L h ((I, oI) :: (C, oC) :: (D, LCg.lst ys) :: news) → LCg.Off3 I C D news → ((@Ne Nat I C) ∧ (@Ne Nat I D) ∧ (@Ne Nat C D)) →
      wpAny (model prog w) A (isTrue ct (compEnvC scope cl C env) (eval ct (compEnvC scope cl C env))) (fun ok s' => if ok = true then
        wpAny (model prog w) A (eval elt (compEnvC scope cl C env)) (CEnd1 h₀ L m { s with heap := h, toks := tk } I oI C oC D (LCg.lst ys) news (fun y => J (i + 1) (ys ++ [y]))) E' s'
        else CEnd1 h₀ L m { s with heap := h, toks := tk } I oI C oC D (LCg.lst ys) news (fun _ => J (i + 1) ys) Value.none s') E' { s with heap := h, toks := tk }) :
    LCt.CompRestT prog w A h₀ L m env ct elt x scope cl s S P Fin n 0 [] news := by
  refine restT (fun i ys nw => nw = news ∧ J i ys) ⟨rfl, h0⟩ (fun ys nw ⟨e, hJ⟩ => e ▸ fin ys hJ) ?_
  rintro i v ys nw I oI C oC D m₂ h tk E' hi hP ⟨rfl, hJ⟩ hC hx F N off ne
  refine wpAny_mono (turn i v ys I oI C oC D m₂ h tk E' hi hP hJ hC hx F N off ne) (fun ok s₂ h₂ => ?_) fun _ _ e => e
  cases ok with
  | true =>
    simp only [if_true] at h₂ ⊢
    exact wpAny_mono h₂ (fun y s₃ h₃ => h₃.to off hS) fun _ _ e => e
  | false =>
    simp only [Bool.false_eq_true, if_false] at h₂ ⊢
    exact h₂.to off hS
end
theorem off1_of {D : Addr} : ∀ {R : List (Addr × Obj)}, LCg.Off1 D R → OwnOff R [D]
  | [], _ => fun _ h => nomatch h
  | q :: R, h => fun p hp a ha => by
    rcases List.mem_cons.mp hp with rfl | hp
    · rw [List.mem_singleton.mp ha]; exact h.1
    · exact off1_of h.2 p hp a ha
theorem ints_at {vs : List Value} {ks : List Int} (h : IntsAre vs ks) : ∀ {i : Nat} {v : Value}, vs.toArray[i]? = some v → ∃ k t, v = .int k t ∧ ks[i]? = some k ∧ ks.take (i + 1) = ks.take i ++ [k] := by
  induction h with
  | nil => intro i v hv; simp at hv
  | cons k t _ ih =>
    intro i v hv
    cases i with
    | zero => simp at hv; subst hv; exact ⟨k, t, rfl, rfl, by simp⟩
    | succ i =>
      obtain ⟨k', t', e1, e2, e3⟩ := ih (i := i) (v := v) (by simpa using hv)
      exact ⟨k', t', e1, by simpa using e2, by simp [e3]⟩
theorem bytes_at {vs : List Value} {ks : List (Array UInt8)} (h : BytesAre vs ks) : ∀ {i : Nat} {v : Value}, vs.toArray[i]? = some v → ∃ k t, v = .bytes k t ∧ ks[i]? = some k ∧ ks.take (i + 1) = ks.take i ++ [k] := by
  induction h with
  | nil => intro i v hv; simp at hv
  | cons k t _ ih =>
    intro i v hv
    cases i with
    | zero => simp at hv; subst hv; exact ⟨k, t, rfl, rfl, by simp⟩
    | succ i =>
      obtain ⟨k', t', e1, e2, e3⟩ := ih (i := i) (v := v) (by simpa using hv)
      exact ⟨k', t', e1, by simpa using e2, by simp [e3]⟩
theorem filt_yes {p : Int → Bool} {ks : List Int} {i : Nat} {k : Int} {ys : List Value} {t : Tok} (h : IntsAre ys ((ks.take i).filter p)) (e : ks.take (i + 1) = ks.take i ++ [k]) (hp : p k = true) : IntsAre (ys ++ [.int k t]) ((ks.take (i + 1)).filter p) := by
  rw [e, List.filter_append, List.filter_cons_of_pos hp, List.filter_nil]; exact ints_snoc h _ _
theorem filt_no {p : Int → Bool} {ks : List Int} {i : Nat} {k : Int} {ys : List Value} (h : IntsAre ys ((ks.take i).filter p)) (e : ks.take (i + 1) = ks.take i ++ [k]) (hp : p k = false) : IntsAre ys ((ks.take (i + 1)).filter p) := by
  rw [e, List.filter_append, List.filter_cons_of_neg (by simp [hp]), List.filter_nil, List.append_nil]; exact h
section
variable {prog : Program} {w : World} {A : Around} {E : Value → Shared → Prop} {s : Shared} {h₀ : Heap} {L D : Addr} {m : Str → Option Value} {news : List (Addr × Obj)} {upd : Obj → List (Addr × Obj)} {n : Nat} {x y v : Value} {t : Tok} {Q : Unit → Shared → Prop}
theorem set_two0 (F : Fr h₀ L s.heap m) (N : News h₀ L s.heap news) (U : UpdF D (listOf #[x, y] n) news upd)
    (h : ∀ h', Fr h₀ L h' m → News h₀ L h' (upd (listOf #[v, y] n)) → Q () { s with heap := h' }) : wpAny (model prog w) A (setItem (.ref D) (.int 0 t) v) Q E s := by
  obtain ⟨pre, post, rfl, hu, a, b⟩ := U.split
  have z := N (D, listOf #[x, y] n) (List.mem_append.mpr (.inr (.head _)))
  exact ki_setAt z.1 (by decide) (by decide) (by show (0 : Int) < ((2 : Nat) : Int); decide) (h _ (F.change (Heap.SameBut.update ..) z.2.1 z.2.2) (by rw [hu]; exact ki_turn _ N a b rfl rfl))
theorem set_two1 (F : Fr h₀ L s.heap m) (N : News h₀ L s.heap news) (U : UpdF D (listOf #[x, y] n) news upd)
    (h : ∀ h', Fr h₀ L h' m → News h₀ L h' (upd (listOf #[x, v] n)) → Q () { s with heap := h' }) : wpAny (model prog w) A (setItem (.ref D) (.int 1 t) v) Q E s := by
  obtain ⟨pre, post, rfl, hu, a, b⟩ := U.split
  have z := N (D, listOf #[x, y] n) (List.mem_append.mpr (.inr (.head _)))
  exact ki_setAt z.1 (by decide) (by decide) (by show (1 : Int) < ((2 : Nat) : Int); decide) (h _ (F.change (Heap.SameBut.update ..) z.2.1 z.2.2) (by rw [hu]; exact ki_turn _ N a b rfl rfl))
end
/-- the table's codes ahead, the rest behind -/
theorem mid_T {h₀ h : Heap} {L : Addr} {pre R' T R : List (Addr × Obj)} (N : News h₀ L h (pre ++ R')) (hR : R' = T ++ R) : News h₀ L h (T ++ (pre ++ R)) := news_sub N fun q hq => by
  subst hR
  simp only [List.mem_append] at hq ⊢
  rcases hq with h | h | h <;> simp [h]
theorem off_app {R R' : List (Addr × Obj)} {as : List Addr} (h : OwnOff R as) (h' : OwnOff R' as) : OwnOff (R ++ R') as := fun q hq => (List.mem_append.mp hq).elim (h q) (h' q)
theorem off_sub {R : List (Addr × Obj)} {as bs : List Addr} (h : OwnOff R as) (hs : ∀ b ∈ bs, b ∈ as) : OwnOff R bs := fun q hq b hb => h q hq b (hs b hb)
theorem news_tail {h₀ h : Heap} {L : Addr} {a : Addr × Obj} {l : List (Addr × Obj)} (N : News h₀ L h (a :: l)) : News h₀ L h l := fun p hp => N p (List.mem_cons_of_mem _ hp)
theorem mid_back {h₀ h : Heap} {L : Addr} {a b c : Addr × Obj} {pre R' T R : List (Addr × Obj)} (N : News h₀ L h (a :: b :: c :: (T ++ (pre ++ R)))) (hR : R' = T ++ R) : News h₀ L h (a :: b :: c :: (pre ++ R')) := news_sub N fun q hq => by
  subst hR
  simp only [List.mem_cons, List.mem_append] at hq ⊢
  rcases hq with h | h | h | h | h | h <;> simp [h]
def NoFld (o : Obj) : Prop := ∀ vs, o.data ≠ .fields vs
theorem noFld_seq {o : Obj} {vs : Array Value} {n : Nat} (h : o.data = .seq vs n) : NoFld o := fun _ e => by rw [h] at e; cases e
theorem noFld_cell {o : Obj} {v : Option Value} (h : o.data = .cell v) : NoFld o := fun _ e => by rw [h] at e; cases e
theorem noFld_dict {o : Obj} {es : Array DictEntry} {n : Nat} (h : o.data = .dict es n) : NoFld o := fun _ e => by rw [h] at e; cases e
theorem neP {h₀ h : Heap} {L a P : Addr} {X : List (Addr × Obj)} {o : Obj} {ps : Array Value} (N : News h₀ L h X) (hp : (P, tabObj ps) ∈ X) (hm : (a, o) ∈ X) (hd : NoFld o) : @Ne Nat a P := fun e => by
  have e1 := (N _ hp).1
  have e2 := (N _ hm).1
  dsimp only at e1 e2
  rw [e] at e2
  exact hd _ (by rw [Option.some.inj (e2.symm.trans e1)])
theorem tab_offK {h₀ h : Heap} {L a P : Addr} {X T : List (Addr × Obj)} {o : Obj} {i j : Value} {qual : Str} (N : News h₀ L h X) (hT : Tab P i j qual T) (hs : ∀ e ∈ T, e ∈ X) (hm : (a, o) ∈ X) (hn : NoFld o) : OwnOff T [a] := by
  obtain ⟨ps, hp⟩ := hT.mem
  exact tab_off N hT hs hm (fun vs q t e => absurd e (hn vs)) (neP N (hs _ hp) hm hn).symm
section
variable {prog : Program} {w : World} {A : Around} {E : Value → Shared → Prop} {s : Shared} {h₀ : Heap} {L D b : Addr} {m : Str → Option Value} {news : List (Addr × Obj)} {upd : Obj → List (Addr × Obj)} {n n2 : Nat} {vs ws : List Value} {Q : Value → Shared → Prop}
theorem extend_list (F : Fr h₀ L s.heap m) (N : News h₀ L s.heap news) (hb : (b, listOf ws.toArray n2) ∈ news) (U : UpdF D (listOf vs.toArray n) news upd) (hz : vs.length + ws.length ≤ 1000000)
    (h : ∀ h' n', Fr h₀ L h' m → News h₀ L h' (upd (listOf (vs ++ ws).toArray n')) → Q .none { s with heap := h' }) : wpAny (model prog w) A (call (.builtin "list.extend") [.ref D, .ref b]) Q E s := by
  obtain ⟨pre, post, rfl, hu, a, c⟩ := U.split
  have z := N (D, listOf vs.toArray n) (List.mem_append.mpr (.inr (.head _)))
  have hl : Builtin.List.listTooLong (vs.toArray.size + ws.toArray.size) = false := by
    unfold Builtin.List.listTooLong
    simp only [List.size_toArray]
    have := sizeLine_eq
    simp; omega
  refine call_meets PySem.F.slot_list_extend ⟨_, z.1, rfl⟩ PySem.F.entry_list_extend (PySem.F.args_list_extend_2 _ _) (PySem.AutoSeq1.list_extend_list_list_0 D vs.toArray n b ws.toArray n2 (by rw [hl]; simp) (by rw [sizeLine_eq, List.size_toArray]; omega) (by rw [sizeLine_eq, List.size_toArray, List.size_toArray]; omega)) ⟨z.1, (N _ hb).1, h _ _ (F.change (Heap.SameBut.update ..) z.2.1 z.2.2) (by rw [hu]; exact ki_turn _ N a c (by simp) rfl)⟩
end
end Mine
end
section
open PySem PySem.W PyProof.Rows PySem.Calls PySem.Spec PySem.Builtin
set_option Elab.async false
set_option maxRecDepth 100000
namespace Mine
def latin (b : Array UInt8) : Str := ⟨b.map UInt8.toNat⟩
def latP (b : Array UInt8) (p : Nat) : Array Nat := ((b.toList.take p).map UInt8.toNat).toArray
theorem latP_size (b : Array UInt8) (p : Nat) : (latP b p).size = min p b.size := by simp [latP]
theorem latP_next {b : Array UInt8} {p : Nat} (h : p < b.size) : latP b p ++ [(b.getD p 0).toNat].toArray = latP b (p + 1) := by
  unfold latP
  have h' : p < b.toList.length := by simpa using h
  rw [List.take_add_one, List.getElem?_eq_getElem h']
  simp [Array.getD, h]
theorem latP_all (b : Array UInt8) : latP b b.size = b.map UInt8.toNat := by
  unfold latP
  rw [List.take_of_length_le (by simp), ← Array.toList_map, Array.toArray_toList]
theorem lat_loop {σ : Type} (b : Array UInt8) (st : σ) (f : Nat → Nat × Array Nat × σ → Sem (ForInStep (Nat × Array Nat × σ)))
    (hf : ∀ x p, p < b.size → f x (p, latP b p, st) = pure (.yield (p + 1, latP b (p + 1), st))) :
    ∀ n i p, p + n = b.size → forIn (List.range' i n 1) (p, latP b p, st) f = pure (b.size, latP b b.size, st) := by
  intro n
  induction n with
  | zero => intro i p h; rw [show p = b.size by omega]; rfl
  | succ n ih =>
    intro i p h
    rw [List.range'_succ, List.forIn_cons, hf i p (by omega), pure_bind]
    exact ih (i + 1) (p + 1) (by omega)
theorem run_lat (id : String) (b : Array UInt8) (hb : b.size ≤ 1000000) : _codecs.runDecoder id _codecs.latin1Decoder none true b 0 [] = pure (b.map UInt8.toNat, b.size) := by
  unfold _codecs.runDecoder
  dsimp only
  rw [Std.Legacy.Range.forIn_eq_forIn_range']
  have hsz : ([:b.size] : Std.Legacy.Range).size = b.size := by simp [Std.Legacy.Range.size]
  rw [hsz]
  have h0 : (#[] : Array Nat) = latP b 0 := rfl
  rw [h0]
  rw [lat_loop b]
  · rw [pure_bind, latP_all]
  · intro x p hp
    dsimp only
    rw [if_neg (by rw [latP_size, sizeLine_eq]; omega), if_neg (by omega)]
    show pure (ForInStep.yield (p + 1, latP b p ++ [(b.getD p 0).toNat].toArray, _)) = _
    rw [latP_next hp]
  · omega
theorem road_lat {id : String} {b : Array UInt8} : _codecs.decodeRoad id b (PySem.Str.ofString "latin-1") none [] = (_codecs.runDecoder id _codecs.latin1Decoder none true b 0 [] >>= fun r => mkStr ⟨r.1⟩) := by kernel_rfl
theorem meets_lat_text {b : Array UInt8} {t t1 t2 : Tok} {d : PySem.Str} (hb : b.size ≤ 1000000) :
    Meets («_codecs.decode.text» ⟨[.bytes b t, .str (PySem.Str.ofString "latin-1") t1, .none, .str d t2], []⟩) (fun _ R s => R (.ok (.ret (.str (latin b) s.toks))) { s with toks := s.toks + 1 }) := by
  refine .of_wp fun prog w A R s h => ?_
  show wpAny _ _ (Bytes.bytesLike _ (.bytes b t) >>= fun r => _) _ _ s
  refine wpAny_bind (wpAny_of_eq KBd.like_eq ?_)
  refine wpAny_bind (wpAny_of_eq KBd.held_eq ?_)
  show wpAny _ _ (_codecs.decodeRoad _ b (PySem.Str.ofString "latin-1") none [] >>= fun v => _) _ _ s
  rw [road_lat, run_lat _ _ hb]
  refine wpAny_bind (wpAny_bind (wpAny_pure ?_))
  exact wpAny_mkStr (x := latin b) (wpAny_pure ⟨_, rfl, h⟩) (by show (b.map UInt8.toNat).size ≤ _; rw [Array.size_map, sizeLine_eq]; omega)
theorem entry_lat {c : UInt8} {cs : List UInt8} {t u : Tok} : «bytes.decode» ⟨[.bytes (c :: cs).toArray t, .str (PySem.Str.ofString "latin-1") u], []⟩ = (mkStr (PySem.Str.ofString "utf-8") >>= fun _ => mkStr (PySem.Str.ofString "latin-1") >>= fun e => mkStr (PySem.Str.ofString "bytes.decode") >>= fun d =>
    call (.builtin "_codecs.decode.text") [.bytes (c :: cs).toArray t, e, .none, d] >>= fun v => ret v) := by kernel_rfl
theorem entry_lat0 {t u : Tok} : «bytes.decode» ⟨[.bytes #[] t, .str (PySem.Str.ofString "latin-1") u], []⟩ = (rule "bytes.decode.empty" >>= fun _ => mkStr Str.empty >>= fun v => ret v) := by kernel_rfl
theorem meets_lat {b : Array UInt8} {t u : Tok} (hb : b.size ≤ 1000000) :
    Meets («bytes.decode» ⟨[.bytes b t, .str (PySem.Str.ofString "latin-1") u], []⟩) (fun _ R s => ∀ t' k, R (.ok (.ret (.str (latin b) t'))) { s with toks := k }) := by
  refine .of_wp fun prog w A R s h => ?_
  obtain ⟨l⟩ := b
  cases l with
  | nil =>
    rw [entry_lat0]
    refine wpAny_bind (wpAny_rule ?_)
    refine wpAny_bind (wpAny_mkStr ?_ (by decide))
    have e : latin #[] = Str.empty := by unfold latin; rw [Array.map_empty]; rfl
    rw [e] at h
    exact wpAny_pure ⟨_, rfl, h _ _⟩
  | cons c cs =>
    rw [entry_lat]
    refine wpAny_bind (wpAny_mkStr ?_ (by decide))
    refine wpAny_bind (wpAny_mkStr ?_ (by decide))
    refine wpAny_bind (wpAny_mkStr ?_ (by decide))
    exact wpAny_bind (call_function_meets KBd.kind_text KBd.plain_text KBd.entry_text (KBd.args_text _ _ _ _) (meets_lat_text hb) (wpAny_pure ⟨_, rfl, h _ _⟩))
theorem args_bytes_decode_2 (a b : Value) : argsOk "bytes.decode" ⟨[a, b], []⟩ := by
  unfold argsOk; rw [signature?_of (id := "bytes.decode") (n := ['e', 'd', 'o', 'c', 'e', 'd']) (o := ['s', 'e', 't', 'y', 'b']) (by kernel_rfl) FB.owner_bytes]; kernel_rfl
theorem decode_lat {prog : Program} {w : World} {A : Around} {E : Value → Shared → Prop} {s : Shared} {b : Array UInt8} {t u : Tok} {Q : Value → Shared → Prop} (hb : b.size ≤ 1000000) (h : ∀ t' k, Q (.str (latin b) t') { s with toks := k }) :
    wpAny (model prog w) A (call (.builtin "bytes.decode") [.bytes b t, .str (PySem.Str.ofString "latin-1") u]) Q E s :=
  call_meets FB.slot_bytes_decode (typeIs_bytes _ _ _) FB.entry_bytes_decode (args_bytes_decode_2 _ _) (meets_lat hb) h
end Mine
end
section
open PySem PySem.W PyProof.Rows PySem.Calls PySem.Spec
set_option Elab.async false
namespace Mine
/-- items: texts (true) or bytes (false) of octets -/
inductive ItsAre : List Value → List (Bool × Array UInt8) → Prop where
  | nil : ItsAre [] []
  | str (b : Array UInt8) (t : Tok) {vs bs} : ItsAre vs bs → ItsAre (.str (latin b) t :: vs) ((true, b) :: bs)
  | byt (b : Array UInt8) (t : Tok) {vs bs} : ItsAre vs bs → ItsAre (.bytes b t :: vs) ((false, b) :: bs)
theorem ItsAre.length {vs : List Value} {bs : List (Bool × Array UInt8)} (x : ItsAre vs bs) : vs.length = bs.length := by
  induction x with
  | nil => rfl
  | str _ _ _ ih => simp [ih]
  | byt _ _ _ ih => simp [ih]
theorem ItsAre.append {vs ws : List Value} {bs cs : List (Bool × Array UInt8)} (x : ItsAre vs bs) (y : ItsAre ws cs) : ItsAre (vs ++ ws) (bs ++ cs) := by
  induction x with
  | nil => exact y
  | str b t _ ih => exact .str b t ih
  | byt b t _ ih => exact .byt b t ih
theorem ItsAre.strs {vs : List Value} {bs : List (Bool × Array UInt8)} (x : ItsAre vs bs) (b : Array UInt8) (t : Tok) : ItsAre (vs ++ [.str (latin b) t]) (bs ++ [(true, b)]) := x.append (.str b t .nil)
theorem ItsAre.byts {vs : List Value} {bs : List (Bool × Array UInt8)} (x : ItsAre vs bs) (b : Array UInt8) (t : Tok) : ItsAre (vs ++ [.bytes b t]) (bs ++ [(false, b)]) := x.append (.byt b t .nil)
theorem SameL.its {h : Heap} {n : Nat} {vs ws : List Value} {ns : List (Bool × Array UInt8)} (a : ItsAre vs ns) (b : ItsAre ws ns) : SameL h n vs ws := by
  induction a generalizing ws with
  | nil => cases b; exact .nil
  | str k t _ ih => cases b with | str _ u r => exact .cons (.str _ t u) (ih r)
  | byt k t _ ih => cases b with | byt _ u r => exact .cons (.bytes _ t u) (ih r)
theorem ints_get {vs : List Value} {ks : List Int} (h : IntsAre vs ks) : ∀ {i : Nat}, i < vs.length → ∃ t, vs[i]? = some (.int (ks.getD i 0) t) := by
  induction h with
  | nil => intro i hi; simp at hi
  | cons k t _ ih =>
    intro i hi
    cases i with
    | zero => exact ⟨t, by simp⟩
    | succ i => obtain ⟨t', e⟩ := ih (i := i) (by simpa using hi); exact ⟨t', by simpa using e⟩
section
variable {prog : Program} {w : World} {A : Around} {E : Value → Shared → Prop} {s : Shared} {h₀ : Heap} {L : Addr} {news : List (Addr × Obj)} {D : Addr} {vs : List Value} {ks : List Int} {n : Nat} {k : Int} {u : Tok} {value slice : Expr} {Q : Value → Shared → Prop}
theorem item_at (N : News h₀ L s.heap news) (hm : (D, listOf vs.toArray n) ∈ news) (hi : IntsAre vs ks) (h0 : 0 ≤ k) (h1 : k < vs.length) (h2 : vs.length ≤ 1000000)
    (h : ∀ t, Q (.int (ks.getD k.toNat 0) t) s)
    (hs : subscripted slice false (.ref D) (.int k u) = operate [.ref D, .int k u] (getItem (.ref D) (.int k u)) := by with_unfolding_all rfl) :
    wpAny (model prog w) A (subscriptTail value slice (.ref D) (.int k u)) Q E s := by
  obtain ⟨t, e⟩ := ints_get hi (i := k.toNat) (by omega)
  exact tail_any (isList_at N hm).typeIs slot_list_getitem.lookup (wpAny_getItem_list (isList_at N hm) h0 (by omega) (by simpa using e) (h t)) hs
end
end Mine
namespace Mine
open PySem PySem.W PyProof.Rows PySem.Calls PySem.Spec
theorem ints_last {vs : List Value} {pre : List Int} {x : Int} (h : IntsAre vs (pre ++ [x])) : ∃ ws t, vs = ws ++ [.int x t] ∧ IntsAre ws pre := by
  induction pre generalizing vs with
  | nil => cases h with | cons _ t r => cases r; exact ⟨[], t, rfl, .nil⟩
  | cons a pre ih =>
    cases h with
    | cons _ t r =>
      obtain ⟨ws, t', e, hi⟩ := ih r
      exact ⟨.int a t :: ws, t', by rw [e]; rfl, .cons _ _ hi⟩
theorem last_at {prog : Program} {w : World} {A : Around} {E : Value → Shared → Prop} {s : Shared} {h₀ : Heap} {L : Addr} {news : List (Addr × Obj)} {D : Addr} {vs : List Value} {x : Value} {n : Nat} {u : Tok} {value slice : Expr} {Q : Value → Shared → Prop}
    (N : News h₀ L s.heap news) (hm : (D, listOf (vs ++ [x]).toArray n) ∈ news) (h : Q x s)
    (hs : subscripted slice false (.ref D) (.int (-1) u) = operate [.ref D, .int (-1) u] (getItem (.ref D) (.int (-1) u)) := by with_unfolding_all rfl) :
    wpAny (model prog w) A (subscriptTail value slice (.ref D) (.int (-1) u)) Q E s := by
  have e : ((-1 : Int) + ((vs ++ [x]).toArray.size : Int)).toNat = vs.length := by simp; omega
  exact tail_any (isList_at N hm).typeIs slot_list_getitem.lookup (wpAny_getItem_list_neg (isList_at N hm) (by decide) (by simp; omega) (by decide) (by rw [e]; simp) h) hs
end Mine
end
section
open PySem PySem.W PyProof.Rows PySem.Calls PySem.Spec
set_option Elab.async false
namespace Mine
def NoFldL (l : List (Addr × Obj)) : Prop := ∀ e ∈ l, NoFld e.2
theorem noFldL_nil : NoFldL [] := fun _ h => nomatch h
theorem noFldL_cons {a : Addr} {o : Obj} {l : List (Addr × Obj)} (h : NoFld o) (hs : NoFldL l) : NoFldL ((a, o) :: l) := fun e he => by
  rcases List.mem_cons.mp he with rfl | he
  · exact h
  · exact hs e he
theorem offP {h₀ h : Heap} {L P : Addr} {pre R' T R : List (Addr × Obj)} {ps : Array Value} (N : News h₀ L h (pre ++ R')) (hR : R' = T ++ R) (hp : (P, tabObj ps) ∈ T) (hn : NoFldL pre) (hr : OwnOff R [P]) : OwnOff (pre ++ R) [P] := fun q hq c hc => by
  rcases List.mem_append.mp hq with hq | hq
  · rw [List.mem_singleton.mp hc]; exact neP (ps := ps) N (by rw [hR]; exact List.mem_append_right _ (List.mem_append_left _ hp)) (List.mem_append_left _ hq) (hn q hq)
  · exact hr q hq c hc
theorem offR {h₀ h : Heap} {L P : Addr} {X R : List (Addr × Obj)} {ps : Array Value} (N : News h₀ L h X) (hp : (P, tabObj ps) ∈ X) (hs : ∀ e ∈ R, e ∈ X) (hn : NoFldL R) : OwnOff R [P] := fun q hq c hc => by
  rw [List.mem_singleton.mp hc]; exact neP (ps := ps) N hp (hs q hq) (hn q hq)
end Mine
end
section
open PySem PySem.W PyProof.Rows PySem.Calls PySem.Spec
set_option Elab.async false
namespace Mine
section
variable {g₀ : Heap}
/-- the same, over a source that stands in the ground -/
theorem loopH {prog : Program} {w : World} {A : Around} {s : Shared} {env : Env} {R : Result → Shared → Prop} {tg : Expr} {body : List Stmt} {I : Addr} {n : Nat} {P : Nat → Value → Prop} {St : Nat → Heap → Prop} {m₀ : Str → Option Value} {news fpo : List (Addr × Obj)}
    (J : Nat → (Str → Option Value) → List (Addr × Obj) → Prop) (Q : Flow → Shared → Prop) (E : Value → Shared → Prop)
    (W : Walks prog w A I (I :: fpo.map (·.1)) [I] n P St) (hIo : ∀ i h, St i h → ∃ o, h.get? I = some o ∧ NoTab o)
    (hJf : ∀ q ∈ fpo, g₀.get? q.1 = some q.2)
    (hLI : env.locals ≠ I) (hgI : g₀.get? I = none) (hnI : ∀ q ∈ news, @Ne Nat q.1 I)
    (hst : St 0 s.heap) (F₀ : Fr g₀ env.locals s.heap m₀) (N₀ : News g₀ env.locals s.heap news) (hj : J 0 m₀ news)
    (hE : ∀ e s', E e s' → notedBy (model prog w) A env (fun e s' => R (.error e) s') e s')
    (hQ : ∀ f s', Q f s' → R (.ok f) s')
    (turn : ∀ i v m₁ news₁ h tk oI, NoTab oI → i < n → P i v → (∀ q ∈ news₁, @Ne Nat q.1 I) → J i m₁ news₁ →
      Fr g₀ env.locals h m₁ → News g₀ env.locals h ((I, oI) :: news₁) →
      wpAny (model prog w) A (assign tg env v) (fun _ s₂ => wpAny (model prog w) A (execs body env) (PostY g₀ env.locals (J (i + 1)) I oI Q s) E s₂) E { s with heap := h, toks := tk })
    (done : ∀ m₁ news₁ h tk, J n m₁ news₁ → Fr g₀ env.locals h m₁ → News g₀ env.locals h news₁ → Q .next { s with heap := h, toks := tk })
    (ht : ∀ v, letOwnedTupleGo tg (.ref I) v = pure () := by intro _; rfl) :
    codeAny (model prog w) A (.forLoop tg (.ref I) body [] env) R s := by
  refine codeAny_forLoop
    (fun k s' => ∃ h' tk m' news' i, s' = { s with heap := h', toks := tk } ∧ St i h' ∧ Fr g₀ env.locals h' m' ∧ News g₀ env.locals h' news' ∧ (∀ q ∈ news', @Ne Nat q.1 I) ∧ J i m' news' ∧ i ≤ n ∧ k = n + 1 - i) ?_ (n + 1)
    ⟨s.heap, s.toks, m₀, news, 0, rfl, hst, F₀, N₀, hnI, hj, Nat.zero_le _, rfl⟩ ht
  rintro k s' ⟨h', tk, m', news', i, rfl, hst', F', N', nI, hJ, hi, rfl⟩
  have nextF : ∀ h₁ : Heap, (∀ b o, b ∉ [I] → h'.get? b = some o → h₁.get? b = some o) → Fr g₀ env.locals h₁ m' := fun h₁ hk₁ =>
    ⟨F'.ns.at' fun o e => hk₁ _ o (by simpa using hLI) e, fun b o e => hk₁ b o (fun hb => by rw [List.mem_singleton.mp hb, hgI] at e; cases e) (F'.keep b o e), F'.above⟩
  have nextN : ∀ h₁ : Heap, (∀ b o, b ∉ [I] → h'.get? b = some o → h₁.get? b = some o) → News g₀ env.locals h₁ news' := fun h₁ hk₁ =>
    fun q hq => ⟨hk₁ _ _ (by simpa using nI q hq) (N' q hq).1, (N' q hq).2⟩
  by_cases hlt : i < n
  · refine W.item i _ _ _ hlt hst' fun v h₁ tk₁ hP hst₁ hk₁ => ?_
    have F₁ := nextF h₁ hk₁
    have N₁ := nextN h₁ hk₁
    obtain ⟨oI, hoI, hoT⟩ := hIo _ _ hst₁
    have N₃ : News g₀ env.locals h₁ ((I, oI) :: news') := fun q hq => by
      rcases List.mem_cons.mp hq with rfl | hq
      · exact ⟨hoI, hLI.symm, hgI⟩
      · exact N₁ q hq
    refine wpAny_mono (turn i v m' news' h₁ _ oI hoT hlt hP nI hJ F₁ N₃) (fun _ s₂ h₂ => wpAny_mono h₂ (fun f s₃ h₃ => ?_) fun e s' h' => hE e s' h') fun e s' h' => hE e s' h'
    have fin : EndY g₀ env.locals (J (i + 1)) I oI s s₃ → ∃ m, m < n + 1 - i ∧ ∃ h' tk m' news' i', s₃ = { s with heap := h', toks := tk } ∧ St i' h' ∧ Fr g₀ env.locals h' m' ∧ News g₀ env.locals h' news' ∧ (∀ q ∈ news', @Ne Nat q.1 I) ∧ J i' m' news' ∧ i' ≤ n ∧ m = n + 1 - i' := by
      rintro ⟨h₃', tk₃, m₃, news₃, nx, rfl, F₃, N₄, hsub, hI, hne, hJ₃⟩
      refine ⟨n + 1 - (i + 1), by omega, h₃', tk₃, m₃, nx, i + 1, rfl, ?_, F₃, fun q hq => N₄ q (hsub q hq), hne, hJ₃, hlt, rfl⟩
      exact W.frame _ _ _ hst₁ fun b hb o e => by
        rcases List.mem_cons.mp hb with rfl | hb
        · rw [hoI] at e; cases e
          exact (N₄ _ hI).1
        · obtain ⟨q, hq, rfl⟩ := List.mem_map.mp hb
          have h1 := F₁.keep _ _ (hJf q hq)
          rw [h1] at e; cases e
          exact F₃.keep _ _ (hJf q hq)
    cases f with
    | ret v => exact hQ _ _ h₃
    | brk => exact hQ _ _ h₃
    | next => exact fin h₃
    | cont => exact fin h₃
  · have hin : i = n := by omega
    subst hin
    refine W.done _ _ _ hst' fun h₁ tk₁ hk₁ => wpAny_execs_nil ?_
    exact hQ _ _ (done m' news' h₁ tk₁ hJ (nextF h₁ hk₁) (nextN h₁ hk₁))

theorem iterG_base {prog : Program} {w : World} {A : Around} {s : Shared} {env : Env} {tg : Expr} {body : List Stmt} {r : Addr} {vs : List Value} {m₀ : Str → Option Value} {news : List (Addr × Obj)} {Q : Flow → Shared → Prop} {E : Value → Shared → Prop}
    (J : Nat → (Str → Option Value) → List (Addr × Obj) → Prop)
    (hh : A.handled = none) (hr : g₀.IsList r vs.toArray)
    (F₀ : Fr g₀ env.locals s.heap m₀) (N₀ : News g₀ env.locals s.heap news) (hj : J 0 m₀ news)
    (hE : PassesOwn (model prog w) A env E)
    (turn : ∀ I i v m₁ news₁ h tk oI, NoTab oI → i < vs.length → vs[i]? = some v → (∀ q ∈ news₁, @Ne Nat q.1 I) → J i m₁ news₁ →
      Fr g₀ env.locals h m₁ → News g₀ env.locals h ((I, oI) :: news₁) →
      wpAny (model prog w) A (assign tg env v) (fun _ s₂ => wpAny (model prog w) A (execs body env) (PostY g₀ env.locals (J (i + 1)) I oI Q s) E s₂) E { s with heap := h, toks := tk })
    (done : ∀ m₁ news₁ h tk, J vs.length m₁ news₁ → Fr g₀ env.locals h m₁ → News g₀ env.locals h news₁ → Q .next { s with heap := h, toks := tk })
    (ht : ∀ I v, letOwnedTupleGo tg (.ref I) v = pure () := by intro _ _; rfl) :
    wpAny (model prog w) A (pyIter (.ref r)) (fun it s₂ => codeAny (model prog w) A (.forLoop tg it body [] env) (fun r s' => match r with | .ok f => Q f s' | .error e => cameBackBy (model prog w) A env E e s') s₂) E s := by
  obtain ⟨orr, hor, hoc, jn, hod⟩ := hr
  have hl : s.heap.IsList r vs.toArray := ⟨_, F₀.keep _ _ hor, hoc, jn, hod⟩
  refine wpAny_pyIter_list hl ?_
  have hne : r ≠ s.heap.objs.size := Nat.ne_of_lt (Heap.lt_size (F₀.keep _ _ hor))
  have W := Walks.list (prog := prog) (w := w) hh s.heap.objs.size r hne vs.toArray
  have gN : g₀.get? s.heap.objs.size = none := by
    cases q : g₀.get? s.heap.objs.size with
    | none => rfl
    | some o => exact absurd (Heap.lt_size (F₀.keep _ _ q)) (Nat.lt_irrefl _)
  refine loopH (s := { s with heap := s.heap.push _ }) (fpo := [(r, orr)]) J Q E W (fun i h hi => ?_) (fun q hq => by rw [List.mem_singleton.mp hq]; exact hor) (Nat.ne_of_lt F₀.ns.lt) gN (fun q hq => Nat.ne_of_lt (Heap.lt_size (N₀ q hq).1)) ?_ (F₀.push _) (fun q hq => ⟨Heap.get?_push_of_some _ (N₀ q hq).1, (N₀ q hq).2⟩) hj (fun e s' h => hE e s' h) (fun f s' h => h) ?_ ?_ (ht _)
  · obtain ⟨o, ho, _, hd⟩ := hi.1
    exact ⟨o, ho, noTab_int hd rfl⟩
  · exact ⟨⟨_, Heap.get?_push_size _ rfl, rfl, rfl⟩, hl.at fun o e => Heap.get?_push_of_some _ e⟩
  · rintro i v m₁ news₁ h tk oI hoT hi hv ho hJ F N
    exact turn _ i v m₁ news₁ h tk oI hoT (by simpa using hi) (by simpa using hv) ho hJ F N
  · intro m₁ news₁ h tk hJ F N
    exact done m₁ news₁ h tk (by simpa using hJ) F N
end
end Mine
end
section
open PySem PySem.W PyProof.Rows PySem.Calls PySem.Spec
set_option Elab.async false
namespace Mine
theorem pick_upto (vs : List Value) {y : Int} (h : 0 ≤ y) : slicePick vs.toArray none (some y) none = (vs.take y.toNat).toArray := by
  have e : sliceBounds none (some y) none vs.toArray.size = (((0 : Nat) : Int), ((min y.toNat vs.toArray.size : Nat) : Int), 1) := by
    simp only [sliceBounds, Option.getD_none, show (1 : Int) > 0 by decide, if_true, if_neg (show ¬ (y < 0) by omega)]
    congr 1
    congr 1
    omega
  rw [kmk_pick_nat _ e]
  show ((vs.drop 0).take (min y.toNat vs.toArray.size - 0)).toArray = _
  rw [List.drop_zero, Nat.sub_zero, List.size_toArray, kmk_take_min]
theorem slice_upto_any {prog : Program} {w : World} {A : Around} {E : Value → Shared → Prop} {s : Shared} {h₀ : Heap} {L l : Addr} {m : Str → Option Value} {news : List (Addr × Obj)} {value slice : PySem.Expr} {vs : List Value} {j : Nat} {y : Int} {ty : Tok} {Q : Value → Shared → Prop}
    (F : Fr h₀ L s.heap m) (N : News h₀ L s.heap news) (hm : (l, listOf vs.toArray j) ∈ news) (h0 : 0 ≤ y) (hz : vs.length ≤ 1000000)
    (h : ∀ D h', Fr h₀ L h' m → News h₀ L h' ((D, listOf (vs.take y.toNat).toArray 0) :: news) → (∀ p ∈ news, p.1 < D) → Q (.ref D) { s with heap := h' })
    (hs : subscripted slice false (.ref l) (.ref s.heap.objs.size) = operate [.ref s.heap.objs.size, .ref l] (getItem (.ref l) (.ref s.heap.objs.size))) (ht : ∀ r, letTemporaryGo value (.ref l) r = pure ()) :
    wpAny (model prog w) A (subscriptTail value slice (.ref l) (.ref s.heap.objs.size)) Q E { s with heap := s.heap.push { cls := .type "slice", data := .fields #[.none, .int y ty, .none] } } := by
  refine kmk_slice F N (isList_at N hm) .none (.int y ty) (fun D h' F' N' l1 => h D h' F' ?_ l1) hs ht (by rw [List.size_toArray, sizeLine_eq]; omega)
  rw [pick_upto vs h0] at N'
  exact N'
theorem bytes_take {vs : List Value} {bs : List (Array UInt8)} (h : BytesAre vs bs) : ∀ k, BytesAre (vs.take k) (bs.take k) := by
  induction h with
  | nil => intro k; simp; exact .nil
  | cons b t _ ih =>
    intro k
    cases k with
    | zero => exact .nil
    | succ k => exact .cons b t (ih k)
end Mine
end
section
open PySem PySem.W PyProof.Rows PySem.Calls PySem.Spec Builtin
set_option Elab.async false
set_option maxRecDepth 100000
namespace Mine
section
variable {b : Array UInt8} {t : Tok} {id : String}
theorem take_eq : Bytes.takeBuffer? id (.bytes b t) 0 = pure (some (b, none)) := by
  unfold Bytes.takeBuffer?
  rw [KBy.special_eq KBy.look_buffer, KBy.own_buffer]
  have e : (Bytes.buffer? id (.bytes b t) (full := (0 : Int) == Bytes.fullReadOnly)) = pure (some b) := KBy.buffer_eq
  simp only [pure_bind, e]
  rfl
theorem takeQ_eq : Bytes.takeBufferQuiet? id (.bytes b t) 0 = pure (some (b, none)) := by
  unfold Bytes.takeBufferQuiet?
  rw [take_eq]
  rfl
end
theorem letGo_go {M : Model} {A : Around} {E : Value → Shared → Prop} {s : Shared} {Q : Unit → Shared → Prop} {keep : List Value} : ∀ {taken : List (Value × Option Value)}, (∀ q ∈ taken, q.2 = none) → Q () s → wpAny M A (Bytes.joinLetGo taken keep) Q E s
  | [], _, h => wpAny_pure h
  | (x, w) :: rest, hw, h => by
    obtain rfl : w = none := hw _ (.head _)
    unfold Bytes.joinLetGo
    exact wpAny_bind (wpAny_letGo (letGo_go (fun q hq => hw q (.tail _ hq)) h))
theorem seq_items {M : Model} {A : Around} {E : Value → Shared → Prop} {s : Shared} {a : Addr} {xs : Array Value} {Q : Option (Array Value) → Shared → Prop} (hl : s.heap.IsList a xs) (h : Q (some xs) s) : wpAny M A (seqItems? (.ref a)) Q E s := by
  obtain ⟨o, ho, _, n, hd⟩ := hl
  unfold seqItems?
  refine wpAny_bind (wpAny_load ho ?_)
  rw [hd]
  exact wpAny_pure h
theorem fold_size : ∀ (cs : List (Array UInt8)) (n : Nat), List.foldl (fun (x1 : Nat) (x2 : Array UInt8) => x1 + x2.size) n cs = n + (cs.map (·.size)).sum
  | [], n => by simp
  | c :: cs, n => by rw [List.foldl_cons, fold_size cs, List.map_cons, List.sum_cons]; omega
theorem joined_go : ∀ (cs : List (Array UInt8)) (k : Nat) (o : Array UInt8), (cs.zipIdx k).foldl (fun out (p, i) => (if i > 0 then out ++ (#[] : Array UInt8) else out) ++ p) o = cs.foldl (fun a b => a ++ b) o
  | [], k, o => rfl
  | c :: cs, k, o => by
    rw [List.zipIdx_cons, List.foldl_cons, List.foldl_cons]
    dsimp only
    rw [show (if k > 0 then o ++ #[] else o) = o by split <;> simp]
    exact joined_go cs _ _
theorem joined_eq (cs : List (Array UInt8)) : Bytes.joined #[] cs = cs.foldl (fun a b => a ++ b) #[] := joined_go cs 0 #[]
theorem foldA_size : ∀ (cs : List (Array UInt8)) (o : Array UInt8), (cs.foldl (fun a b => a ++ b) o).size = o.size + (cs.map (·.size)).sum
  | [], o => by simp
  | c :: cs, o => by rw [List.foldl_cons, foldA_size cs, Array.size_append, List.map_cons, List.sum_cons]; omega
theorem joined_size (cs : List (Array UInt8)) : (Bytes.joined #[] cs).size = (cs.map (·.size)).sum := by rw [joined_eq, foldA_size]; simp
theorem bytes_at' {vs : List Value} {ks : List (Array UInt8)} (h : BytesAre vs ks) : ∀ {i : Nat} {v : Value}, vs.toArray[i]? = some v → ∃ k t, v = .bytes k t ∧ ks[i]? = some k ∧ ks.take (i + 1) = ks.take i ++ [k] := by
  induction h with
  | nil => intro i v hv; simp at hv
  | cons k t _ ih =>
    intro i v hv
    cases i with
    | zero => simp at hv; subst hv; exact ⟨k, t, rfl, rfl, by simp⟩
    | succ i =>
      obtain ⟨k', t', e1, e2, e3⟩ := ih (i := i) (v := v) (by simpa using hv)
      exact ⟨k', t', e1, by simpa using e2, by simp [e3]⟩
theorem join_meets {a : Addr} {t : Tok} {vs : List Value} {cs : List (Array UInt8)} (hz : (cs.map (·.size)).sum ≤ 1000000) :
    Meets («bytes.join» ⟨[.bytes #[] t, .ref a], []⟩) (fun _ R s => s.heap.IsList a vs.toArray ∧ BytesAre vs cs ∧ vs ≠ [] ∧ ∀ t' k, R (.ok (.ret (.bytes (Bytes.joined #[] cs) t'))) { s with toks := k }) := by
  refine .of_wp fun prog w A R s hS => ?_
  obtain ⟨hl, hv, hne, h⟩ := hS
  unfold «bytes.join» Bytes.joinM
  dsimp only
  refine wpAny_bind (wpAny_of_eq (a := (Value.bytes #[] t, Value.ref a)) rfl ?_)
  dsimp only
  rw [if_pos (show (Bytes.Kind.bytes == Bytes.Kind.bytes) = true by rfl)]
  refine wpAny_bind ?_
  unfold Bytes.joinItems
  refine wpAny_bind (wpAny_typeOf hl.typeIs ?_)
  rw [if_pos (by decide +kernel)]
  refine wpAny_pure ?_
  refine wpAny_bind (seq_items hl ?_)
  dsimp only
  rw [if_pos (show (Bytes.Kind.bytes == Bytes.Kind.bytes) = true by rfl)]
  have hvl := hv.length
  obtain ⟨us, hus⟩ : ∃ us, us = vs := ⟨_, rfl⟩
  rcases vs with _ | ⟨x, _ | ⟨z, r⟩⟩
  · exact absurd rfl hne
  · clear hus
    obtain ⟨c, t1, rfl, rfl⟩ : ∃ c t1, x = .bytes c t1 ∧ cs = [c] := by
      cases hv with | cons c t1 r => cases r; exact ⟨c, t1, rfl, rfl⟩
    refine wpAny_bind (wpAny_typeOf (typeIs_bytes _ _ _) ?_)
    rw [if_pos (by decide +kernel)]
    refine wpAny_bind (wpAny_rule ?_)
    have := h t1 s.toks
    rw [show Bytes.joined #[] [c] = c by unfold Bytes.joined; simp] at this
    exact wpAny_pure ⟨_, rfl, this⟩
  · refine wpAny_bind ?_
    rw [← hus] at hl hv hvl ⊢
    clear hus hne
    rw [Std.Legacy.Range.forIn_eq_forIn_range']
    have hsz : ([:us.toArray.size] : Std.Legacy.Range).size = us.length := by simp [Std.Legacy.Range.size]
    rw [hsz]
    refine wpAny_forIn_list _ (fun rest (b : Array (Array UInt8) × List (Value × Option Value)) s' => s' = s ∧ ∃ i, rest = List.range' i (us.length - i) 1 ∧ i ≤ us.length ∧ b.1.toList = cs.take i ∧ (∀ q ∈ b.2, q.2 = none ∧ q.1.onHeap = false)) _ ?turn ?fin _ _ ⟨rfl, 0, by simp, Nat.zero_le _, by simp, by simp⟩
    case fin =>
      rintro ⟨parts, taken⟩ s' ⟨rfl, i, hi, hile, hp, ht⟩
      have hin : i = us.length := by
        have := congrArg List.length hi
        simp only [List.length_nil, List.length_range'] at this; omega
      dsimp only at hp ht ⊢
      have hp2 : parts.toList = cs := by rw [hp, hin, hvl, List.take_length]
      refine wpAny_bind (wpAny_of_eq (a := #[]) rfl ?_)
      have hfl : Array.foldl (fun x1 x2 => x1 + x2.size) ((#[] : Array UInt8).size * (parts.size - 1)) parts = (cs.map (·.size)).sum := by
        rw [← Array.foldl_toList, hp2]
        show List.foldl (fun (x1 : Nat) (x2 : Array UInt8) => x1 + x2.size) (0 * (parts.size - 1)) cs = _
        rw [Nat.zero_mul]
        rw [fold_size, Nat.zero_add]
      rw [if_neg (by rw [hfl, KBy.tooLong_not (by omega)]; exact Bool.false_ne_true), hp2]
      refine wpAny_bind (wpAny_mkBytes ?_ ?_)
      · refine wpAny_bind (wpAny_holding (wpAny_point ?_))
        refine wpAny_bind (letGo_go (fun q hq => (ht q hq).1) ?_)
        exact wpAny_pure ⟨_, rfl, h _ _⟩
      · rw [joined_size, sizeLine_eq]; omega
    case turn =>
      rintro x rest ⟨parts, taken⟩ s' ⟨rfl, i, hi, hile, hp, ht⟩
      dsimp only at hp ht ⊢
      obtain ⟨hil, rfl, hrest⟩ : i < us.length ∧ x = i ∧ rest = List.range' (i + 1) (us.length - (i + 1)) 1 := by
        by_cases hil : i < us.length
        · rw [show us.length - i = (us.length - (i + 1)) + 1 by omega, List.range'_succ] at hi
          simp only [List.cons.injEq] at hi
          exact ⟨hil, hi.1, hi.2⟩
        · rw [show us.length - i = 0 by omega] at hi; cases hi
      obtain ⟨c, tc, hc, hcs⟩ : ∃ c tc, us.toArray.getD x Value.none = .bytes c tc ∧ cs.take (x + 1) = cs.take x ++ [c] := by
        have hg : us.toArray[x]? = some us[x] := by simp [hil]
        obtain ⟨k, t', e1, _, e3⟩ := bytes_at' hv hg
        refine ⟨k, t', ?_, e3⟩
        rw [Array.getD_eq_getD_getElem?, hg, e1]; rfl
      refine wpAny_bind (seq_items hl ?_)
      dsimp only
      have hany : (taken.any fun x => x.fst.onHeap) = false := by
        rw [List.any_eq_false]
        intro q hq
        rw [(ht q hq).2]; exact Bool.false_ne_true
      rw [if_neg (by rw [hany]; exact Bool.false_ne_true), hc]
      refine wpAny_bind (wpAny_holding (wpAny_of_eq takeQ_eq ?_))
      dsimp only
      refine wpAny_bind (seq_items hl ?_)
      dsimp only
      rw [if_neg (by simp)]
      refine wpAny_pure ⟨rfl, x + 1, hrest, hil, ?_, ?_⟩
      · rw [Array.toList_push, hp, hcs]
      · intro q hq
        rcases List.mem_append.mp hq with hq | hq
        · exact ht q hq
        · rw [List.mem_singleton.mp hq]; exact ⟨rfl, rfl⟩
theorem slot_join : Slot "bytes" "join" "bytes.join" :=
  .of (owner := "bytes") (n := "join") (by rw [typeLookup_type, builtinLookup_eq_fast]; kernel_rfl) (by decide +kernel) (by decide +kernel) (by decide +kernel)
    (by first | exact .inl (by decide +kernel) | exact .inr (by decide +kernel)) (by rw [isSubtype_type]; kernel_rfl)
theorem entry_join : entryFor table "bytes.join" = some Builtin.«bytes.join» := entryFor_of_tree (by kernel_rfl)
theorem args_join (a b : Value) : argsOk "bytes.join" ⟨[a, b], []⟩ := by
  unfold argsOk; rw [signature?_of (id := "bytes.join") (n := ['n', 'i', 'o', 'j']) (o := ['s', 'e', 't', 'y', 'b']) (by kernel_rfl) FB.owner_bytes]; kernel_rfl
theorem join_bytes {prog : Program} {w : World} {A : Around} {E : Value → Shared → Prop} {s : Shared} {a : Addr} {t : Tok} {vs : List Value} {cs : List (Array UInt8)} {Q : Value → Shared → Prop}
    (hl : s.heap.IsList a vs.toArray) (hv : BytesAre vs cs) (hne : vs ≠ []) (hz : (cs.map (·.size)).sum ≤ 1000000) (h : ∀ t' k, Q (.bytes (Bytes.joined #[] cs) t') { s with toks := k }) :
    wpAny (model prog w) A (call (.builtin "bytes.join") [.bytes #[] t, .ref a]) Q E s :=
  call_meets slot_join (typeIs_bytes _ _ _) entry_join (args_join _ _) (join_meets hz) ⟨hl, hv, hne, h⟩
theorem type_join : typeOf (.builtin "bytes.join") = pure (.type "method_descriptor") := by show builtinType _ = _; rw [builtinType_eq_fast]; kernel_rfl
theorem method_join {M : Model} {A : Around} {E : Value → Shared → Prop} {s : Shared} {b : Array UInt8} {t : Tok} {pl : Sem Bool} {Q : Value × List Value → Shared → Prop} (h : Q (.builtin "bytes.join", [.bytes b t]) s) : wpAny M A (getMethod (.bytes b t) (Str.ofString "join") pl) Q E s := by
  with_reducible exact KBd.method_of (.bytes b t) (typeIs_bytes _ _ _) slot_join type_join (fun _ e => nomatch e) h
end Mine
end
section
open PySem PySem.W PyProof.Rows PySem.Calls PySem.Spec
set_option Elab.async false
set_option maxRecDepth 100000
namespace Mine
section
variable {prog : Program} {w : World} {A : Around} {E : Value → Shared → Prop} {s : Shared} {h₀ : Heap} {L : Addr} {m : Str → Option Value} {env : Env}
theorem extend_new {R : Result → Shared → Prop} (hh : A.handled = none) (c : Array UInt8) (t : Tok) (S : Addr) (res : Value) (c₀ : Nat) (hS : s.heap.get? S = some { cls := .type "list", data := .seq #[] c₀ }) (hz : c.size ≤ sizeLine)
    (hR : ∀ h' tk ws c', (∀ b o, b ≠ S → s.heap.get? b = some o → h'.get? b = some o) → h'.get? S = some (listOf (ws : List Value).toArray c') →
      IntsAre ws (KBw.bInts c) → R (.ok (.ret res)) { s with heap := h', toks := tk }) :
    wpAny (model prog w) A.in1 (Builtin.List.listExtendWith (.ref S) (.bytes c t) res)
      (fun fin s' => match fin with | .done f => R (.ok f) s' | .again c' => c'.quiet = true ∧ codeAny (model prog w) A c' R s') (fun e s' => R (.error e) s') s := by
  have hSI : S ≠ s.heap.objs.size := Nat.ne_of_lt (Heap.lt_size hS)
  unfold Builtin.List.listExtendWith
  refine wpAny_bind (wpAny_typeOf (typeIs_bytes s c t) ?_)
  have h1 : Builtin.List.listSameRef (.ref S) (.bytes c t) = false := rfl
  have h2 : (Value.type "bytes" == Value.type "list") = false := by decide
  have h3 : (Value.type "bytes" == Value.type "tuple") = false := by decide
  simp only [h1, h2, h3, Bool.or_false, Bool.false_eq_true, if_false]
  refine wpAny_bind (KBw.pyIter_bytes ?_)
  refine wpAny_bind (wpAny_holding (hint_bytes ?_))
  refine ite_no (by decide +kernel) ?_
  refine wpAny_pure ⟨plainId_quiet F.plain_extend_loop _, ?_⟩
  have W := KBw.walks (prog := prog) (w := w) (A := A.in1) hh s.heap.objs.size c t
  refine ext_loop (n := c.size) W hSI res c.size 0 _ [] c₀ (by omega) (Nat.zero_le _) ⟨_, Heap.get?_push_size _ rfl, rfl, rfl⟩ (Heap.get?_push_of_some _ hS) (by simpa using hz) fun h' tk ws c' hl hws hD' hk => ?_
  refine hR h' tk ws c' (fun b o hb e => hk b o hb (fun q => ?_) (Heap.get?_push_of_some _ e)) (by simpa using hD') ?_
  · rw [q] at e; exact absurd (Heap.lt_size e) (Nat.lt_irrefl _)
  · have := ints_of (c := c) (vs := ws) 0 (by omega) (fun j v hv => by obtain ⟨x, u, hx, rfl⟩ := hws j v hv; exact ⟨x, u, hx, rfl⟩)
    simpa using this
theorem init_bytes {R : Result → Shared → Prop} (hh : A.handled = none) (c : Array UInt8) (t : Tok) (S : Addr) (hS : s.heap.get? S = some { cls := .type "list", data := .seq #[] }) (hz : c.size ≤ sizeLine)
    (hR : ∀ h' tk ws c', (∀ b o, b ≠ S → s.heap.get? b = some o → h'.get? b = some o) → h'.get? S = some (listOf (ws : List Value).toArray c') →
      IntsAre ws (KBw.bInts c) → R (.ok (.ret .none)) { s with heap := h', toks := tk }) :
    wpAny (model prog w) A.in1 (Builtin.«list.__init__» ⟨[.ref S, .bytes c t], []⟩)
      (fun fin s' => match fin with | .done f => R (.ok f) s' | .again c' => c'.quiet = true ∧ codeAny (model prog w) A c' R s') (fun e s' => R (.error e) s') s := by
  show wpAny _ _ (do let old ← Builtin.List.listItems (.ref S); Builtin.List.listUpdate (.ref S) (fun _ => #[]); letGo old.toList.reverse; Builtin.List.listExtendWith (.ref S) (.bytes c t) .none) _ _ s
  refine wpAny_bind ?_
  unfold Builtin.List.listItems
  refine wpAny_bind (wpAny_seqItems hS rfl (wpAny_pure ?_))
  show wpAny _ _ (updateSeq S (fun _ => #[]) >>= fun _ => letGo (#[] : Array Value).toList.reverse >>= fun _ => Builtin.List.listExtendWith (.ref S) (.bytes c t) .none) _ _ s
  refine wpAny_bind (wpAny_updateSeq hS rfl ?_)
  have hS₂ := Heap.get?_update_self (Obj.mapSeq (fun _ => (#[] : Array Value))) hS rfl
  have oth : ∀ b o, b ≠ S → s.heap.get? b = some o → (s.heap.update S (Obj.mapSeq (fun _ => (#[] : Array Value)))).get? b = some o :=
    fun b o hb e => (Heap.get?_update_other _ _ (Ne.symm hb)).trans e
  refine wpAny_bind (wpAny_letGo ?_)
  refine extend_new hh c t S .none _ hS₂ hz fun h' tk ws c' hk hS' hacc => ?_
  exact hR h' tk ws c' (fun b o hb e => hk b o hb (oth b o hb e)) hS' hacc
theorem list_bytes {news : List (Addr × Obj)} {c : Array UInt8} {t : Tok} {Q : Value → Shared → Prop} (F : Fr h₀ L s.heap m) (N : News h₀ L s.heap news) (hh : A.handled = none) (hz : c.size ≤ 1000000)
    (h : ∀ D h' tk ws c', IntsAre ws (KBw.bInts c) → Fr h₀ L h' m → News h₀ L h' ((D, listOf (ws : List Value).toArray c') :: news) → (∀ p ∈ news, p.1 < D) → Q (.ref D) { s with heap := h', toks := tk }) :
    wpAny (model prog w) A (call (.type "list") [.bytes c t]) Q E s := by
  refine callType_codes (Q₁ := fun obj s₁ => obj = .ref s.heap.objs.size ∧ s₁ = { s with heap := s.heap.push { cls := .type "list", data := .seq #[] } }) PySem.F.called_list (PySem.F.typeCall_list_1 _) PySem.F.entry_list_init
    (code_list_new _ ⟨rfl, rfl⟩) fun obj s₁ h₁ => ?_
  obtain ⟨rfl, rfl⟩ := h₁
  have hS : (s.heap.push { cls := .type "list", data := .seq #[] }).get? s.heap.objs.size = some { cls := .type "list", data := .seq #[] } := Heap.get?_push_size _ rfl
  refine ⟨⟨_, hS, rfl⟩, PySem.F.args_list_init_2 _ _, init_bytes (A := A.in1) hh c t _ hS (by rw [sizeLine_eq]; omega) fun h' tk ws c' hk hS' hacc => ?_⟩
  have up : ∀ b o, s.heap.get? b = some o → h'.get? b = some o := fun b o e => hk b o (Nat.ne_of_lt (Heap.lt_size e)) (Heap.get?_push_of_some _ e)
  refine ⟨rfl, h _ h' tk ws c' hacc (F.keeps up) (fun p hp => ?_) fun p hp => Heap.lt_size (N p hp).1⟩
  rcases List.mem_cons.mp hp with rfl | hp
  · exact ⟨hS', fun q => absurd F.ns.lt (by rw [← q]; exact Nat.lt_irrefl _), by
      cases e : h₀.get? s.heap.objs.size with
      | none => rfl
      | some o => exact absurd (Heap.lt_size (F.keep _ _ e)) (Nat.lt_irrefl _)⟩
  · exact ⟨up _ _ (N p hp).1, (N p hp).2⟩
/-- a comprehension over a text -/
def SrcStr (prog : Program) (w : World) (A : Around) (h₀ : Heap) (L : Addr) (m : Str → Option Value) (env : Env) (elt : Expr) (x : Str) (scope : Scope) (cl : List (Str × Addr)) (Fin : Shared → List Value → List (Addr × Obj) → Prop) (xv : Value) (s₁ : Shared) : Prop :=
  ∃ y t news, xv = .str y t ∧ A.handled = none ∧ Fr h₀ L s₁.heap m ∧ News h₀ L s₁.heap news ∧ y.cps.size ≤ sizeLine ∧
    ∀ s₂ : Shared, (∃ h, s₂ = { s₁ with heap := h }) → LCg.CompRest prog w A h₀ L m env elt x scope cl s₂ (fun _ => True) (SignAt y) (Fin s₂) y.cps.size 0 [] news
theorem SrcStr.mk {elt : Expr} {x : Str} {scope : Scope} {cl : List (Str × Addr)} {Fin : Shared → List Value → List (Addr × Obj) → Prop} {y : Str} {t : Tok} {news : List (Addr × Obj)} {s₁ : Shared}
    (hh : A.handled = none) (F : Fr h₀ L s₁.heap m) (N : News h₀ L s₁.heap news) (hsz : y.cps.size ≤ 1000000)
    (h : ∀ g, LCg.CompRest prog w A h₀ L m env elt x scope cl { s₁ with heap := g } (fun _ => True) (SignAt y) (Fin { s₁ with heap := g }) y.cps.size 0 [] news) :
    SrcStr prog w A h₀ L m env elt x scope cl Fin (.str y t) s₁ := ⟨y, t, news, rfl, hh, F, N, by rw [sizeLine_eq]; omega, fun _ ⟨g, e⟩ => e ▸ h g⟩
theorem str_st {I : Addr} {ty : String} {x : Str} {t : Tok} : ∀ i (h h' : Heap) (o : Obj) (nw : List (Addr × Obj)), h.IsStrIter I ty x t i → h.get? I = some o → h'.get? I = some o → (∀ b o, h₀.get? b = some o → h'.get? b = some o) → News h₀ L h' nw → True → h'.IsStrIter I ty x t i :=
  fun i h h' o nw st e e' _ _ _ => by
    obtain ⟨o', q, r⟩ := st
    rw [e] at q; cases q
    exact ⟨o, e', r⟩
theorem ListComp_S {elt iter : Expr} {x : Str} {px : Pos} {scope : Scope} {cl : List (Str × Addr)} {pos : Pos} {Q : Value → Shared → Prop} (F₀ : Fr h₀ L s.heap m)
    (hclos : closureFor scope env = pure cl) (hcell : ∀ y ∈ scope.names, y.2 ≠ .cell) (hkind : scope.kind = .function)
    (hnames : ∀ y ∈ scope.names, y.2 = .local → scope.names.lookup y.1 = some .local) (hx : scope.names.lookup x = some .local)
    (h : wpAny (model prog w) A (eval iter env) (SrcStr prog w A h₀ L m env elt x scope cl (fun s₂ => LCg.FinE h₀ L m s₂ Q)) E s)
    (hs : ∀ x, foldedSetIterable iter env x = pure x := by intro _; rfl) :
    wpAny (model prog w) A (eval (.ListComp elt [⟨.Name x px, iter, [], 0⟩] scope pos) env) Q E s := by
  rw [eval_ListComp]
  refine wpAny_comprehension_free (use := none) rfl hs hclos hkind hnames (wpAny_mono h (fun xv s₁ h₁ => ?_) fun _ _ e => e)
  obtain ⟨y, t, news, rfl, hh, F, N, hsz, R⟩ := h₁
  have fin : ∀ D C h tk m' ys news', Fr h₀ L h m → News h₀ L h ((D, LCg.lst ys) :: news') → LCg.Off1 D news' → h.Ns C m' → h₀.get? C = none → h₀.get? D = none → C ≠ L → D ≠ L → C ≠ D → (∀ p ∈ news', p.1 ≠ C) → ∀ s₂ : Shared, LCg.FinE h₀ L m s₂ Q ys news' →
      ∃ m', h.Ns C m' ∧ ∀ h'', Heap.SameBut C h h'' → Q (.ref D) { s₂ with heap := h'', toks := tk } := by
    intro D C h tk m' ys news' F' N' o1 hn hC₀ hD₀ hCL hDL hCD offC s₂ fin
    refine ⟨m', hn, fun h'' hs'' => fin D h'' tk (F'.change hs'' hCL hC₀) (fun p hp => ?_) o1⟩
    refine ⟨hs''.extBut _ _ ?_ (N' p hp).1, (N' p hp).2⟩
    rcases List.mem_cons.mp hp with rfl | hp
    · exact Ne.symm hCD
    · exact offC p hp
  have up : ∀ (o : Obj) b o', s₁.heap.get? b = some o' → (s₁.heap.push o).get? b = some o' := fun _ b o' e => Heap.get?_push_of_some _ e
  cases ha : y.cps.all (· < 128)
  · refine wpAny_pyIter_wide ha ?_
    refine LCg.block_U (S := fun _ => True) (Walks.strWide hh s₁.heap.objs.size y t) hsz (fun i h st => by obtain ⟨o, e, _⟩ := st; exact ⟨o, e⟩) str_st hcell hkind hx ⟨_, Heap.get?_push_size _ rfl, rfl, rfl⟩ (fun b hb => ?_)
      (F.keeps (up _)) (N.grown (up _)) (Nat.ne_of_lt F.ns.lt) (next_is_new F) (fun p hp => Nat.ne_of_lt (Heap.lt_size (N p hp).1)) trivial (R _ ⟨_, rfl⟩) ?_
    · rw [List.mem_singleton.mp hb]
      show s₁.heap.objs.size < (s₁.heap.push _).objs.size
      rw [Heap.size_push]; exact Nat.lt_succ_self _
    · intro D C h tk m' ys news' F' N' o1 hn hC₀ hD₀ hCL hDL hCD offC fin'
      exact fin D C h tk m' ys news' F' N' o1 hn hC₀ hD₀ hCL hDL hCD offC _ fin'
  · refine wpAny_pyIter_ascii ha ?_
    refine LCg.block_U (S := fun _ => True) (Walks.strAscii hh s₁.heap.objs.size y t) hsz (fun i h st => by obtain ⟨o, e, _⟩ := st; exact ⟨o, e⟩) str_st hcell hkind hx ⟨_, Heap.get?_push_size _ rfl, rfl, rfl⟩ (fun b hb => ?_)
      (F.keeps (up _)) (N.grown (up _)) (Nat.ne_of_lt F.ns.lt) (next_is_new F) (fun p hp => Nat.ne_of_lt (Heap.lt_size (N p hp).1)) trivial (R _ ⟨_, rfl⟩) ?_
    · rw [List.mem_singleton.mp hb]
      show s₁.heap.objs.size < (s₁.heap.push _).objs.size
      rw [Heap.size_push]; exact Nat.lt_succ_self _
    · intro D C h tk m' ys news' F' N' o1 hn hC₀ hD₀ hCL hDL hCD offC fin'
      exact fin D C h tk m' ys news' F' N' o1 hn hC₀ hD₀ hCL hDL hCD offC _ fin'
end
end Mine
end
section
open PySem PySem.W PyProof.Rows PySem.Calls PySem.Spec
set_option Elab.async false
namespace Mine
/-- a list of lists of octets, its rows in the ledger -/
inductive RowsIn (X : List (Addr × Obj)) : List Value → List (Array UInt8) → Prop where
  | nil : RowsIn X [] []
  | cons {ad : Addr} {vs : List Value} {j : Nat} {c : Array UInt8} {ys : List Value} {cs : List (Array UInt8)} : (ad, listOf vs.toArray j) ∈ X → IntsAre vs (KBw.bInts c) → RowsIn X ys cs → RowsIn X (.ref ad :: ys) (c :: cs)
theorem RowsIn.mono {X X' : List (Addr × Obj)} {ys : List Value} {cs : List (Array UInt8)} (h : RowsIn X ys cs) (hs : ∀ q ∈ X, q ∈ X') : RowsIn X' ys cs := by
  induction h with
  | nil => exact .nil
  | cons m i _ ih => exact .cons (hs _ m) i ih
theorem RowsIn.append {X : List (Addr × Obj)} {ys zs : List Value} {cs ds : List (Array UInt8)} (h : RowsIn X ys cs) (h' : RowsIn X zs ds) : RowsIn X (ys ++ zs) (cs ++ ds) := by
  induction h with
  | nil => exact h'
  | cons m i _ ih => exact .cons m i ih
theorem RowsIn.snoc {X : List (Addr × Obj)} {ys : List Value} {cs : List (Array UInt8)} {ad : Addr} {vs : List Value} {j : Nat} {c : Array UInt8} (h : RowsIn X ys cs) (hi : IntsAre vs (KBw.bInts c)) : RowsIn ((ad, listOf vs.toArray j) :: X) (ys ++ [.ref ad]) (cs ++ [c]) :=
  (h.mono fun _ hq => .tail _ hq).append (.cons (.head _) hi .nil)
theorem RowsIn.length {X : List (Addr × Obj)} {ys : List Value} {cs : List (Array UInt8)} (h : RowsIn X ys cs) : ys.length = cs.length := by
  induction h with
  | nil => rfl
  | cons _ _ _ ih => simp [ih]
theorem RowsIn.same {h₀ h : Heap} {L : Addr} {X Y news : List (Addr × Obj)} {ys zs : List Value} {cs : List (Array UInt8)} {n : Nat} (N : News h₀ L h news) (hX : ∀ q ∈ X, q ∈ news) (hY : ∀ q ∈ Y, q ∈ news) (a : RowsIn X ys cs) (b : RowsIn Y zs cs) : SameL h (n + 1) ys zs := by
  induction a generalizing zs with
  | nil => cases b; exact .nil
  | cons m i _ ih =>
    cases b with
    | cons m' i' r => exact .cons (same_list N (hX _ m) (hY _ m') (SameL.ints i i')) (ih r)
theorem latin_sign {c : Array UInt8} {i k : Nat} (h : (latin c).cps[i]? = some k) : (KBw.bInts c)[i]? = some (k : Int) := by
  unfold latin at h
  unfold KBw.bInts
  dsimp only at h
  rw [Array.getElem?_map] at h
  rw [List.getElem?_map, Array.getElem?_toList]
  cases hc : c[i]? with
  | none => rw [hc] at h; cases h
  | some x => rw [hc] at h; cases h; rfl
theorem ints_take {ys : List Value} {ks : List Int} {i : Nat} {k : Int} {t : Tok} (h : IntsAre ys (ks.take i)) (e : ks[i]? = some k) : IntsAre (ys ++ [.int k t]) (ks.take (i + 1)) := by
  rw [List.take_add_one, e, Option.toList_some]; exact h.append (.cons _ _ .nil)
theorem latin_len (c : Array UInt8) : (latin c).cps.size = c.size := by unfold latin; simp
theorem off3_new {I C D A : Addr} {o1 o2 o3 o : Obj} {X : List (Addr × Obj)} (ho : LCg.Off1 A ((I, o1) :: (C, o2) :: (D, o3) :: X)) (h3 : LCg.Off3 I C D X) : LCg.Off3 I C D ((A, o) :: X) :=
  ⟨⟨fun e => ho.1 e.symm, fun e => ho.2.1 e.symm, fun e => ho.2.2.1 e.symm⟩, h3⟩
end Mine
end
section
open PySem PySem.W PyProof.Rows PySem.Calls PySem.Spec
set_option Elab.async false
set_option maxRecDepth 100000
set_option maxHeartbeats 8000000
namespace Mine
local macro_rules | `(tactic| k_room) => `(tactic| ktr_room)
local macro_rules | `(tactic| k_units) => `(tactic| ktr_units)
local macro_rules | `(tactic| k_mem) => `(tactic| first | exact List.Mem.head _ | (refine List.mem_cons_of_mem _ ?_; k_mem))
theorem stream_ct (w : World) {p : Program} {loose : List Str} {mean : ExcName → Option Value} {mg mb : Str → Option Value}
  {dp un : Nat} {gd : Option (List Code)} {cn : Str} {cs : Scope} {a : Addr} {ccd : Value} {cl : List (Str × Addr)} {outer : List Env} {A₀ : Around} {base h₀ : Heap} {L : Addr} {m : Str → Option Value} {rest T : List (Addr × Obj)} {s : Shared}
  {b : Array UInt8} {tb : Tok} {Q E : Value → Shared → Prop}
  (B : Below A₀ base outer h₀) (F : Fr h₀ L s.heap m) (X : (hd07.heap_39 w.params).In h₀) (N : News h₀ L s.heap (T ++ rest)) (TT : Top p loose mean mg mb h₀)
  (H : CodeHd h₀ 62 58) (hT : Tab 58 (rawInt 29) (rawInt 4) (Str.ofString "_law_stream.<locals>._law_read") T) (hoff : OwnOff rest [58])
  (hk : cs.kind = .function) (hd : dp + 20 < recursionLimit)
  (ok : ∀ x dx r k1 k2 tp I T' h' tk, Strm Challenge.rw_dm0232_07.row.prog w (hd07.heap_39 w.params) p loose mean mg mb 52 x dx r k1 k2 b I → Tab 58 (rawInt 29) (rawInt 4) (Str.ofString "_law_stream.<locals>._law_read") T' →
    OwnOff I [58] → OwnOff T' [dx] → OwnOff rest [dx] →
    Fr h₀ L h' m → News h₀ L h' ((dx, SD w.params k1 k2 r 0 tp) :: (I ++ (T' ++ rest))) → Q (.ref x) { s with heap := h', toks := tk }) :
  wpAny (model Challenge.rw_dm0232_07.row.prog w) (ktrTop dp un gd cn cs L a ccd cl outer) (call (.ref 63) [.bytes b tb]) Q E s := by
  revert X; k_fill; intro X
  have hMk := kstMark
  cases hT
  all_goals
    simp only [List.cons_append, List.nil_append] at N
    refine wpAny_call ?_
    refine' code_defC ?k1 ?k2 ?k3 ?k4 ?k5 ?kA ?kF ?kK ?k6 ?k7 ?k8 ?k9 ?kB ?kD ?_ ?c2 ?c3 ?c4
    case kA => exact rfl
    case kF => exact rfl
    case kK => assumption
    case k1 => k_asm
    case k2 => k_asm
    case k3 => k_asm
    case k4 => k_asm
    case k5 => k_asm
    case k6 => k_is
    case k7 => k_is
    case k8 => ktr_room
    case k9 => exact BindsTo.of_eq rfl
    case kB => exact rfl
    case kD => decide +kernel
    case c2 => exact rfl
    case c3 => exact rfl
    case c4 => exact rfl
    intro g' L' h' tk' cells' FG' F' N' Y' B' X' T' l1
    (try k_lt l1)
    have hO : OwnOff rest [L' + 1, L' + 1 + 1] := off_lt (d := L') (by first | exact l1.2 | exact l1.2.2) (by intro a ha; simp only [List.mem_cons, List.not_mem_nil, or_false] at ha; rcases ha with rfl | rfl <;> exact Nat.le_add_right_of_le (by omega))
    have H' : CodeHd g' 62 58 := H.keeps FG'.keep
    k_cells Y'
    (try simp only [List.cons_append, List.nil_append] at N')
    (try dsimp only)
    (try k_lift B')
    (try k_fold)
    k_steps
    rename News h₀ L _ _ => NN
    rename Fr h₀ L _ m => FF
    first
    | refine ok _ _ _ _ _ _ _ _ _ _ ?strm ?tab ?o1 ?o2 ?lt FF (fin_none NN)
    | refine ok _ _ _ _ _ _ _ _ _ _ ?strm ?tab ?o1 ?o2 ?lt FF (fin_some NN)
    case o1 => exact off_one (by k_all)
    case o2 => exact off_one (by k_all)
    case lt => exact off_one (by k_all)
    case tab => refine Tab.some ?_ (by assumption) (by assumption); k_ne
    case strm =>
      refine strm_mk (by k_mem) ⟨_, _, _, _, by k_mem⟩ (off_one (by k_all)) (by intro e he; simp only [List.mem_cons, List.not_mem_nil, or_false] at he; rcases he with rfl | rfl | rfl | rfl | rfl <;> first | exact kin_func rfl | exact kin_plain rfl | exact kin_fields (by assumption) | exact kin_cell (by assumption)) (fun hoI => ?_)
      intro dp un gd cn cs a ccd outer A₀ base h₀ L m news upd s q n tq tn Q E B F X N T hk hd hu hI U hq hb hn hret
      obtain ⟨rest, hof, hnw, hup⟩ := upd_split U
      have N2 := news_sub (l' := (_, _) :: rest) N (fun e he => (hnw e).mpr (List.mem_cons.mp he))
      have hm := mem_rest hI hoI hnw
      simp only [List.forall_mem_cons] at hm
      obtain ⟨m1, m2, m3, m4, m5, -⟩ := hm
      obtain ⟨ks, hks⟩ : ∃ ks, KBw.bInts b = ks := ⟨_, rfl⟩
      have hkl : ks.length = b.size := by rw [← hks]; exact KBw.ints_length b
      clear hI U N
      refine wpAny_call ?_
      k_dflt (refine' code_nest ?k1 ?k2 ?k3 ?k4 ?k5 ?kA ?kF ?kK ?k6 ?k7 ?k8 ?k9 ?kB ?_ ?c2 ?c3 ?c4 ?c5; (case kA => exact rfl); (case kF => exact rfl); (case kK => assumption); (case k2 => k_asm); (case k1 => k_asm); (case k3 => k_asm); (case k4 => k_asm); (case k5 => k_asm); (case k6 => k_mem); (case k7 => exact codeRec_news (by k_asm) (by k_mem) (by assumption) (by assumption)); (case k8 => k_room); (case k9 => exact BindsTo.of_eq rfl); (case c5 => decide); (case kB => exact locs rfl); (case c2 => exact rfl); (case c3 => exact rfl); (case c4 => exact rfl); k_whole; intro g' L' h' FG' F' N' B' X' T'; (try dsimp only); (try k_lift B'); (try k_fold))
      k_steps
      rename News h₀ L _ _ => NN
      rename Fr h₀ L _ m => FF
      rw [picked_cut hq]
      exact hret _ _ _ _ FF (read_fin NN (read_place hq hkl) hup)
local macro_rules | `(tactic| walk_at "callWith ref") => `(tactic| (k_here; (rename Strm _ _ _ _ _ _ _ _ _ _ _ _ _ _ _ _ => sS); k_dflt (refine' callWith_F ?k1 ?_; (case k1 => exact FnAt.of (by k_asm) (by k_mem)); k_whole)))
local macro_rules | `(tactic| walk_at "call ref") => `(tactic| (k_here; (rename Strm _ _ _ _ _ _ _ _ _ _ _ _ _ _ _ _ => sS); (with_reducible show wpAny _ _ (call (Value.ref _) [Value.int _ _]) _ _ _); k_dflt (first | (refine' strm_read 1 rfl sS ?B ?F ?X ?N ?T ?hk ?hd ?hu ?hI ?U ?hq ?hb ?hn ?_; (case F => k_asm); (case N => k_asm); (case B => k_asm); (case X => k_asm); (case T => k_asm); (case hk => first | rfl | assumption); (case hd => ktr_room); (case hu => ktr_units); (case hI => (repeat (first | assumption | refine Sub.cons ?_))); (case U => k_updF); (case hq => omega); (case hb => omega); (case hn => decide)) | (refine' strm_read _ rfl sS ?B ?F ?X ?N ?T ?hk ?hd ?hu ?hI ?U ?hq ?hb ?hn ?_; (case F => k_asm); (case N => k_asm); (case B => k_asm); (case X => k_asm); (case T => k_asm); (case hk => first | rfl | assumption); (case hd => ktr_room); (case hu => ktr_units); (case hI => (repeat (first | assumption | refine Sub.cons ?_))); (case U => k_updF); (case hq => omega); (case hb => omega); (case hn => omega))); intro h' tk' t1 t2 F' N'; (try dsimp only)))
local macro_rules | `(tactic| walk_at "exec Raise some none") => `(tactic| (k_here; (with_reducible show wpAny _ _ (exec (Stmt.Raise (some (Expr.Call (Expr.Name ("ValueError" : Str) _) (_ :: _) [] _)) none _) _) _ _ _); (with_reducible rename Fr _ _ _ _ => kF); k_dflt (refine' Raise_madeB PySem.F.excCall_ValueError PySem.F.excRaise_ValueError ?hh (name_B kF ?k1 ?k2 ?k3 PyProof.Rows.Boot.«ValueError» ?k5 ⟨rfl, ?_⟩) ?a ?b; (case hh => rfl); (case a => rfl); (case b => rfl); (case k1 => k_asm); (case k2 => k_asm); (case k3 => k_is); (case k5 => decide))))
local macro_rules | `(tactic| walk_at "ite") => `(tactic| (k_here; first | (refine ite_pos (by first | omega | (simp only [decide_eq_true_eq, beq_iff_eq]; omega)) ?_) | (refine ite_neg (by first | omega | (simp only [decide_eq_true_eq, beq_iff_eq]; omega)) ?_)))
local macro_rules | `(tactic| walk_at "binaryOp Mod str ref") => `(tactic| (k_here; k_dflt (first | ((with_reducible show wpAny _ _ (binaryOp _ (Value.str (Str.ofString "expected %d bytes in a bytes1, but only %d remain") _) _) _ _ _); refine' modB ?N ?b ?a1 ?a2 ?a3 ?a4 ?_; (case N => k_asm); (case b => k_mem); (case a1 => omega); (case a2 => omega); (case a3 => omega); (case a4 => omega)) | ((with_reducible show wpAny _ _ (binaryOp _ (Value.str (Str.ofString "expected %d bytes in a string1, but only %d remain") _) _) _ _ _); refine' modS ?N ?b ?a1 ?a2 ?a3 ?a4 ?_; (case N => k_asm); (case b => k_mem); (case a1 => omega); (case a2 => omega); (case a3 => omega); (case a4 => omega))); intro _ _))
theorem ru1_ct (w : World) {p : Program} {loose : List Str} {mean : ExcName → Option Value} {mg mb : Str → Option Value}
  {dp un : Nat} {gd : Option (List Code)} {cn : Str} {cs : Scope} {a : Addr} {ccd : Value} {cl : List (Str × Addr)} {outer : List Env} {A₀ : Around} {base h₀ : Heap} {L : Addr} {m : Str → Option Value}
  {news I : List (Addr × Obj)} {upd : Obj → List (Addr × Obj)} {s : Shared} {f dx r : Addr} {k1 k2 tq : Tok} {b : Array UInt8} {q : Nat} {Q E : Value → Shared → Prop}
  (B : Below A₀ base outer h₀) (F : Fr h₀ L s.heap m) (X : (hd07.heap_39 w.params).In h₀) (N : News h₀ L s.heap news) (T : Top p loose mean mg mb h₀)
  (S : Strm Challenge.rw_dm0232_07.row.prog w (hd07.heap_39 w.params) p loose mean mg mb 52 f dx r k1 k2 b I) (hI : Sub I news) (U : UpdF dx (SD w.params k1 k2 r (q : Int) tq) news upd)
  (hk : cs.kind = .function) (hd : dp + 10 < recursionLimit) (hu : un + 60 < cLine) (hq : q ≤ b.size) (hb : b.size ≤ 1048576)
  (ok : ∀ h' tk t1 t2, q < b.size → Fr h₀ L h' m → News h₀ L h' (upd (SD w.params k1 k2 r ((q + 1 : Nat) : Int) t1)) → Q (.int (oct b q : Int) t2) { s with heap := h', toks := tk })
  (err : ∀ g e t u h' tk t1, q = b.size → Fr h₀ L g m → RaisedS base g (envX cn cs L a ccd cl :: outer) e (.type "ValueError") t [.str (msg0) u] (upd (SD w.params k1 k2 r (b.size : Int) t1)) h' → g.UpToSlots h' → E (.ref e) { s with heap := h', toks := tk }) :
  wpAny (model Challenge.rw_dm0232_07.row.prog w) (ktrTop dp un gd cn cs L a ccd cl outer) (call (.ref 21) [.ref f]) Q E s := by
  revert X; k_fill; intro X
  have hMk := kstMark
  obtain ⟨rest, hof, hnw, hup⟩ := upd_split U
  have N2 := news_sub (l' := (_, _) :: rest) N (fun e he => (hnw e).mpr (List.mem_cons.mp he))
  have hm : Sub I rest := mem_rest hI S.off hnw
  have mi := hm _ S.inst
  obtain ⟨oc, od, fd, sl, mf⟩ := S.fn
  have mf := hm _ mf
  clear hI U N
  have D0 : KtsDicts [] h₀ := ktsDicts_nil
  have hc : q < b.size ∨ q = b.size := by omega
  rcases hc with hc | hc
  · have hks := ints_cut1 hc
    refine wpAny_call ?_
    k_dflt ktr_enter
    k_steps
    · rename News h₀ L _ _ => NN
      rename Fr h₀ L _ m => FF
      exact ok _ _ _ _ hc FF (read_fin NN (by rw [cut1_size hc]) hup)
    · rename ¬ _ < _ => hx
      exact absurd (Nat.zero_lt_succ _) hx
  · have hks : KBw.bInts (cutB b q 1) = [] := by rw [hc]; exact ints_cut0
    have hsz : (cutB b q 1).size = 0 := by rw [hc]; exact cut0_size
    refine wpAny_call ?_
    k_dflt ktr_enter
    k_steps
    rename RaisedS _ _ _ _ _ _ _ _ _ => RR
    rename Fr h₀ L _ m => FF
    rename Heap.UpToSlots _ _ => UU
    exact err _ _ _ _ _ _ _ hc FF (raise_fin RR (by rw [hsz, hc]; rfl) hup) UU
local macro_rules | `(tactic| walk_at "call ref") => `(tactic| (k_here; (rename Strm _ _ _ _ _ _ _ _ _ _ _ _ _ _ _ _ => sS); (with_reducible show wpAny _ _ (call (Value.ref 21) [Value.ref _]) _ _ _); k_dflt (refine' ru1_ct _ ?B ?F ?X ?N ?T sS ?hI ?U ?hk ?hd ?hu ?hq ?hb (fun h' tk' t1 t2 hlt' F' N' => ?_) (fun g' e' t' u' h' tk' t1 heq' F' R' U' => ?_); (case F => k_asm); (case N => k_asm); (case B => k_asm); (case X => k_asm); (case T => k_asm); (case hk => first | rfl | assumption); (case hd => ktr_room); (case hu => ktr_units); (case hI => (repeat (first | assumption | refine Sub.cons ?_))); (case U => k_updF); (case hq => omega); (case hb => omega)); (all_goals (first | (exfalso; omega) | (try dsimp only)))))
theorem rb1_ct (w : World) {p : Program} {loose : List Str} {mean : ExcName → Option Value} {mg mb : Str → Option Value}
  {dp un : Nat} {gd : Option (List Code)} {cn : Str} {cs : Scope} {a : Addr} {ccd : Value} {cl : List (Str × Addr)} {outer : List Env} {A₀ : Around} {base h₀ : Heap} {L : Addr} {m : Str → Option Value}
  {news I : List (Addr × Obj)} {upd : Obj → List (Addr × Obj)} {s : Shared} {f dx r : Addr} {k1 k2 tq : Tok} {b : Array UInt8} {q : Nat} {Q E : Value → Shared → Prop}
  (B : Below A₀ base outer h₀) (F : Fr h₀ L s.heap m) (X : (hd07.heap_39 w.params).In h₀) (N : News h₀ L s.heap news) (T : Top p loose mean mg mb h₀)
  (S : Strm Challenge.rw_dm0232_07.row.prog w (hd07.heap_39 w.params) p loose mean mg mb 52 f dx r k1 k2 b I) (hI : Sub I news) (U : UpdF dx (SD w.params k1 k2 r (q : Int) tq) news upd)
  (hk : cs.kind = .function) (hd : dp + 14 < recursionLimit) (hu : un + 80 < cLine) (hq : q ≤ b.size) (hb : b.size ≤ 1048576)
  (ok : ∀ h' tk t1 t2, q < b.size → q + 1 + oct b q ≤ b.size → Fr h₀ L h' m → News h₀ L h' (upd (SD w.params k1 k2 r ((q + 1 + oct b q : Nat) : Int) t1)) → Q (.bytes (cutB b (q + 1) (oct b q)) t2) { s with heap := h', toks := tk })
  (err0 : ∀ g e t u h' tk t1, q = b.size → Fr h₀ L g m → RaisedS base g (envX cn cs L a ccd cl :: outer) e (.type "ValueError") t [.str (msg0) u] (upd (SD w.params k1 k2 r (b.size : Int) t1)) h' → g.UpToSlots h' → E (.ref e) { s with heap := h', toks := tk })
  (err1 : ∀ g e t u h' tk t1, q < b.size → b.size < q + 1 + oct b q → Fr h₀ L g m → RaisedS base g (envX cn cs L a ccd cl :: outer) e (.type "ValueError") t [.str (msgB (oct b q : Int) ((b.size - (q + 1) : Nat) : Int)) u] (upd (SD w.params k1 k2 r (b.size : Int) t1)) h' → g.UpToSlots h' → E (.ref e) { s with heap := h', toks := tk }) :
  wpAny (model Challenge.rw_dm0232_07.row.prog w) (ktrTop dp un gd cn cs L a ccd cl outer) (call (.ref 35) [.ref f]) Q E s := by
  revert X; k_fill; intro X
  have hMk := kstMark
  obtain ⟨rest, hof, hnw, hup⟩ := upd_split U
  have N2 := news_sub (l' := (_, _) :: rest) N (fun e he => (hnw e).mpr (List.mem_cons.mp he))
  have hm : Sub I rest := mem_rest hI S.off hnw
  have mi := hm _ S.inst
  obtain ⟨oc, od, fd, sl, mf⟩ := S.fn
  have mf := hm _ mf
  clear hI U N
  have D0 : KtsDicts [] h₀ := ktsDicts_nil
  have h256 := oct_lt b q
  have hcs : q = b.size ∨ (q < b.size ∧ q + 1 + oct b q ≤ b.size) ∨ (q < b.size ∧ b.size < q + 1 + oct b q) := by omega
  rcases hcs with h1 | ⟨h1, h2⟩ | ⟨h1, h2⟩
  · refine wpAny_call ?_
    k_dflt ktr_enter
    k_steps
    rename RaisedS _ _ _ _ _ _ _ _ _ => RR
    rename Fr h₀ L _ m => FF
    rename Heap.UpToSlots _ _ => UU
    exact err0 _ _ _ _ _ _ _ h1 FF (raise_fin RR (by rfl) hup) UU
  · obtain ⟨ks, hks⟩ : ∃ ks, KBw.bInts (cutB b (q + 1) (oct b q)) = ks := ⟨_, rfl⟩
    have hsz : (cutB b (q + 1) (oct b q)).size = oct b q := by rw [cutB_size]; omega
    have hkl : ks.length = oct b q := by rw [← hks, KBw.ints_length, hsz]
    refine wpAny_call ?_
    k_dflt ktr_enter
    k_steps
    rename News h₀ L _ _ => NN
    rename Fr h₀ L _ m => FF
    exact ok _ _ _ _ h1 h2 FF (read_fin NN (by rw [hsz]) hup)
  · obtain ⟨ks, hks⟩ : ∃ ks, KBw.bInts (cutB b (q + 1) (oct b q)) = ks := ⟨_, rfl⟩
    have hsz : (cutB b (q + 1) (oct b q)).size = b.size - (q + 1) := by rw [cutB_size]; omega
    have hkl : ks.length = b.size - (q + 1) := by rw [← hks, KBw.ints_length, hsz]
    refine wpAny_call ?_
    k_dflt ktr_enter
    k_steps
    rename RaisedS _ _ _ _ _ _ _ _ _ => RR
    rename Fr h₀ L _ m => FF
    rename Heap.UpToSlots _ _ => UU
    exact err1 _ _ _ _ _ _ _ h1 h2 FF (raise_fin2 RR (by rw [hsz]; omega) (by rw [hkl]) hup) UU
end Mine
end
section
open PySem PySem.W PyProof.Rows PySem.Calls PySem.Spec
set_option Elab.async false
set_option maxRecDepth 100000
set_option maxHeartbeats 8000000
namespace Mine
local macro_rules | `(tactic| k_room) => `(tactic| ktr_room)
local macro_rules | `(tactic| k_units) => `(tactic| ktr_units)
local macro_rules | `(tactic| k_mem) => `(tactic| first | exact List.Mem.head _ | (refine List.mem_cons_of_mem _ ?_; k_mem))
local macro_rules | `(tactic| walk_at "callWith ref") => `(tactic| (k_here; (rename Strm _ _ _ _ _ _ _ _ _ _ _ _ _ _ _ _ => sS); k_dflt (refine' callWith_F ?k1 ?_; (case k1 => exact FnAt.of (by k_asm) (by k_mem)); k_whole)))
local macro_rules | `(tactic| walk_at "call ref") => `(tactic| (k_here; (rename Strm _ _ _ _ _ _ _ _ _ _ _ _ _ _ _ _ => sS); (with_reducible show wpAny _ _ (call (Value.ref _) [Value.int _ _]) _ _ _); k_dflt (first | (refine' strm_read 1 rfl sS ?B ?F ?X ?N ?T ?hk ?hd ?hu ?hI ?U ?hq ?hb ?hn ?_; (case F => k_asm); (case N => k_asm); (case B => k_asm); (case X => k_asm); (case T => k_asm); (case hk => first | rfl | assumption); (case hd => ktr_room); (case hu => ktr_units); (case hI => (repeat (first | assumption | refine Sub.cons ?_))); (case U => k_updF); (case hq => omega); (case hb => omega); (case hn => decide)) | (refine' strm_read _ rfl sS ?B ?F ?X ?N ?T ?hk ?hd ?hu ?hI ?U ?hq ?hb ?hn ?_; (case F => k_asm); (case N => k_asm); (case B => k_asm); (case X => k_asm); (case T => k_asm); (case hk => first | rfl | assumption); (case hd => ktr_room); (case hu => ktr_units); (case hI => (repeat (first | assumption | refine Sub.cons ?_))); (case U => k_updF); (case hq => omega); (case hb => omega); (case hn => omega))); intro h' tk' t1 t2 F' N'; (try dsimp only)))
local macro_rules | `(tactic| walk_at "exec Raise some none") => `(tactic| (k_here; (with_reducible show wpAny _ _ (exec (Stmt.Raise (some (Expr.Call (Expr.Name ("ValueError" : Str) _) (_ :: _) [] _)) none _) _) _ _ _); (with_reducible rename Fr _ _ _ _ => kF); k_dflt (refine' Raise_madeB PySem.F.excCall_ValueError PySem.F.excRaise_ValueError ?hh (name_B kF ?k1 ?k2 ?k3 PyProof.Rows.Boot.«ValueError» ?k5 ⟨rfl, ?_⟩) ?a ?b; (case hh => rfl); (case a => rfl); (case b => rfl); (case k1 => k_asm); (case k2 => k_asm); (case k3 => k_is); (case k5 => decide))))
local macro_rules | `(tactic| walk_at "ite") => `(tactic| (k_here; first | (refine ite_pos (by first | omega | (simp only [decide_eq_true_eq, beq_iff_eq]; omega)) ?_) | (refine ite_neg (by first | omega | (simp only [decide_eq_true_eq, beq_iff_eq]; omega)) ?_)))
local macro_rules | `(tactic| walk_at "binaryOp Mod str ref") => `(tactic| (k_here; k_dflt (first | ((with_reducible show wpAny _ _ (binaryOp _ (Value.str (Str.ofString "expected %d bytes in a bytes1, but only %d remain") _) _) _ _ _); refine' modB ?N ?b ?a1 ?a2 ?a3 ?a4 ?_; (case N => k_asm); (case b => k_mem); (case a1 => omega); (case a2 => omega); (case a3 => omega); (case a4 => omega)) | ((with_reducible show wpAny _ _ (binaryOp _ (Value.str (Str.ofString "expected %d bytes in a string1, but only %d remain") _) _) _ _ _); refine' modS ?N ?b ?a1 ?a2 ?a3 ?a4 ?_; (case N => k_asm); (case b => k_mem); (case a1 => omega); (case a2 => omega); (case a3 => omega); (case a4 => omega))); intro _ _))
local macro_rules | `(tactic| walk_at "call ref") => `(tactic| (k_here; (rename Strm _ _ _ _ _ _ _ _ _ _ _ _ _ _ _ _ => sS); (with_reducible show wpAny _ _ (call (Value.ref 21) [Value.ref _]) _ _ _); k_dflt (refine' ru1_ct _ ?B ?F ?X ?N ?T sS ?hI ?U ?hk ?hd ?hu ?hq ?hb (fun h' tk' t1 t2 hlt' F' N' => ?_) (fun g' e' t' u' h' tk' t1 heq' F' R' U' => ?_); (case F => k_asm); (case N => k_asm); (case B => k_asm); (case X => k_asm); (case T => k_asm); (case hk => first | rfl | assumption); (case hd => ktr_room); (case hu => ktr_units); (case hI => (repeat (first | assumption | refine Sub.cons ?_))); (case U => k_updF); (case hq => omega); (case hb => omega)); (all_goals (first | (exfalso; omega) | (try dsimp only)))))
local macro_rules | `(tactic| walk_at "call builtin:bytes.decode") => `(tactic| (k_here; (with_reducible show wpAny _ _ (call (Value.builtin "bytes.decode") [Value.bytes _ _, Value.str _ _]) _ _ _); refine decode_lat (by omega) ?_; intro _ _))
theorem rs1_ct (w : World) {p : Program} {loose : List Str} {mean : ExcName → Option Value} {mg mb : Str → Option Value}
  {dp un : Nat} {gd : Option (List Code)} {cn : Str} {cs : Scope} {a : Addr} {ccd : Value} {cl : List (Str × Addr)} {outer : List Env} {A₀ : Around} {base h₀ : Heap} {L : Addr} {m : Str → Option Value}
  {news I : List (Addr × Obj)} {upd : Obj → List (Addr × Obj)} {s : Shared} {f dx r : Addr} {k1 k2 tq : Tok} {b : Array UInt8} {q : Nat} {Q E : Value → Shared → Prop}
  (B : Below A₀ base outer h₀) (F : Fr h₀ L s.heap m) (X : (hd07.heap_39 w.params).In h₀) (N : News h₀ L s.heap news) (T : Top p loose mean mg mb h₀)
  (S : Strm Challenge.rw_dm0232_07.row.prog w (hd07.heap_39 w.params) p loose mean mg mb 52 f dx r k1 k2 b I) (hI : Sub I news) (U : UpdF dx (SD w.params k1 k2 r (q : Int) tq) news upd)
  (hk : cs.kind = .function) (hd : dp + 14 < recursionLimit) (hu : un + 80 < cLine) (hq : q ≤ b.size) (hb : b.size ≤ 1048576)
  (ok : ∀ h' tk t1 t2, q < b.size → q + 1 + oct b q ≤ b.size → Fr h₀ L h' m → News h₀ L h' (upd (SD w.params k1 k2 r ((q + 1 + oct b q : Nat) : Int) t1)) → Q (.str (latin (cutB b (q + 1) (oct b q))) t2) { s with heap := h', toks := tk })
  (err0 : ∀ g e t u h' tk t1, q = b.size → Fr h₀ L g m → RaisedS base g (envX cn cs L a ccd cl :: outer) e (.type "ValueError") t [.str (msg0) u] (upd (SD w.params k1 k2 r (b.size : Int) t1)) h' → g.UpToSlots h' → E (.ref e) { s with heap := h', toks := tk })
  (err1 : ∀ g e t u h' tk t1, q < b.size → b.size < q + 1 + oct b q → Fr h₀ L g m → RaisedS base g (envX cn cs L a ccd cl :: outer) e (.type "ValueError") t [.str (msgS (oct b q : Int) ((b.size - (q + 1) : Nat) : Int)) u] (upd (SD w.params k1 k2 r (b.size : Int) t1)) h' → g.UpToSlots h' → E (.ref e) { s with heap := h', toks := tk }) :
  wpAny (model Challenge.rw_dm0232_07.row.prog w) (ktrTop dp un gd cn cs L a ccd cl outer) (call (.ref 28) [.ref f]) Q E s := by
  revert X; k_fill; intro X
  have hMk := kstMark
  obtain ⟨rest, hof, hnw, hup⟩ := upd_split U
  have N2 := news_sub (l' := (_, _) :: rest) N (fun e he => (hnw e).mpr (List.mem_cons.mp he))
  have hm : Sub I rest := mem_rest hI S.off hnw
  have mi := hm _ S.inst
  obtain ⟨oc, od, fd, sl, mf⟩ := S.fn
  have mf := hm _ mf
  clear hI U N
  have D0 : KtsDicts [] h₀ := ktsDicts_nil
  have h256 := oct_lt b q
  have hcs : q = b.size ∨ (q < b.size ∧ q + 1 + oct b q ≤ b.size) ∨ (q < b.size ∧ b.size < q + 1 + oct b q) := by omega
  rcases hcs with h1 | ⟨h1, h2⟩ | ⟨h1, h2⟩
  · refine wpAny_call ?_
    k_dflt ktr_enter
    k_steps
    rename RaisedS _ _ _ _ _ _ _ _ _ => RR
    rename Fr h₀ L _ m => FF
    rename Heap.UpToSlots _ _ => UU
    exact err0 _ _ _ _ _ _ _ h1 FF (raise_fin RR (by rfl) hup) UU
  · obtain ⟨ks, hks⟩ : ∃ ks, KBw.bInts (cutB b (q + 1) (oct b q)) = ks := ⟨_, rfl⟩
    have hsz : (cutB b (q + 1) (oct b q)).size = oct b q := by rw [cutB_size]; omega
    have hkl : ks.length = oct b q := by rw [← hks, KBw.ints_length, hsz]
    refine wpAny_call ?_
    k_dflt ktr_enter
    k_steps
    rename News h₀ L _ _ => NN
    rename Fr h₀ L _ m => FF
    exact ok _ _ _ _ h1 h2 FF (read_fin NN (by rw [hsz]) hup)
  · obtain ⟨ks, hks⟩ : ∃ ks, KBw.bInts (cutB b (q + 1) (oct b q)) = ks := ⟨_, rfl⟩
    have hsz : (cutB b (q + 1) (oct b q)).size = b.size - (q + 1) := by rw [cutB_size]; omega
    have hkl : ks.length = b.size - (q + 1) := by rw [← hks, KBw.ints_length, hsz]
    refine wpAny_call ?_
    k_dflt ktr_enter
    k_steps
    rename RaisedS _ _ _ _ _ _ _ _ _ => RR
    rename Fr h₀ L _ m => FF
    rename Heap.UpToSlots _ _ => UU
    exact err1 _ _ _ _ _ _ _ h1 h2 FF (raise_fin2 RR (by rw [hsz]; omega) (by rw [hkl]) hup) UU
end Mine
end
section
open PySem PySem.W PyProof.Rows PySem.Calls PySem.Spec
set_option Elab.async false
set_option maxRecDepth 100000
set_option maxHeartbeats 8000000
namespace Mine
/-- the items that stand whole ahead of p -/
inductive Told (b : Array UInt8) : List (Array UInt8) → Nat → Prop where
  | nil : Told b [] 0
  | snoc {xs : List (Array UInt8)} {p : Nat} : Told b xs p → p < b.size → p + 1 + oct b p ≤ b.size → Told b (xs ++ [cutB b (p + 1) (oct b p)]) (p + 1 + oct b p)
def msgX (c : Bool) (n k : Int) : Str := if c then msgS n k else msgB n k
def Ends (b : Array UInt8) (fl : Bool) (xs : List (Array UInt8)) (x : Str) : Prop := ∃ p, Told b xs p ∧ ((p = b.size ∧ x = msg0) ∨ (p < b.size ∧ b.size < p + 1 + oct b p ∧ x = msgX fl (oct b p : Int) ((b.size - (p + 1) : Nat) : Int)))
def tag (fl : Bool) (xs : List (Array UInt8)) : List (Bool × Array UInt8) := xs.map fun c => (fl, c)
theorem tag_snoc (fl : Bool) (xs : List (Array UInt8)) (c : Array UInt8) : tag fl (xs ++ [c]) = tag fl xs ++ [(fl, c)] := by unfold tag; rw [List.map_append]; rfl
theorem tag_len (fl : Bool) (xs : List (Array UInt8)) : (tag fl xs).length = xs.length := by unfold tag; rw [List.length_map]
theorem its_strs {vs : List Value} {xs : List (Array UInt8)} (h : ItsAre vs (tag true xs)) (b : Array UInt8) (t : Tok) : ItsAre (vs ++ [.str (latin b) t]) (tag true (xs ++ [b])) := by rw [tag_snoc]; exact h.strs b t
theorem its_byts {vs : List Value} {xs : List (Array UInt8)} (h : ItsAre vs (tag false xs)) (b : Array UInt8) (t : Tok) : ItsAre (vs ++ [.bytes b t]) (tag false (xs ++ [b])) := by rw [tag_snoc]; exact h.byts b t
theorem news_run {h₀ h : Heap} {L : Addr} {a b c : Addr × Obj} {R I T own : List (Addr × Obj)} (N : News h₀ L h (a :: b :: c :: (R ++ own))) (hR : R = I ++ T) : News h₀ L h (a :: b :: T) := news_sub N fun q hq => by
  subst hR
  simp only [List.mem_cons, List.mem_append] at hq ⊢
  rcases hq with h | h | h <;> simp [h]
local macro_rules | `(tactic| k_room) => `(tactic| ktr_room)
local macro_rules | `(tactic| k_units) => `(tactic| ktr_units)
local macro_rules | `(tactic| k_mem) => `(tactic| first | exact List.Mem.head _ | (refine List.mem_cons_of_mem _ ?_; k_mem))
local macro_rules | `(tactic| lcg_src) => `(tactic| first | exact List.Mem.head _ | (refine List.mem_cons_of_mem _ ?_; lcg_src) | assumption)
local macro_rules | `(tactic| walk_at "callWith ref") => `(tactic| (k_here; (rename Strm _ _ _ _ _ _ _ _ _ _ _ _ _ _ _ _ => sS); k_dflt (refine' callWith_F ?k1 ?_; (case k1 => exact FnAt.of (by k_asm) (by k_mem)); k_whole)))
local macro_rules | `(tactic| walk_at "call ref") => `(tactic| (k_here; (rename Strm _ _ _ _ _ _ _ _ _ _ _ _ _ _ _ _ => sS); (with_reducible show wpAny _ _ (call (Value.ref _) [Value.int _ _]) _ _ _); k_dflt (first | (refine' strm_read 1 rfl sS ?B ?F ?X ?N ?T ?hk ?hd ?hu ?hI ?U ?hq ?hb ?hn ?_; (case F => k_asm); (case N => k_asm); (case B => k_asm); (case X => k_asm); (case T => k_asm); (case hk => first | rfl | assumption); (case hd => ktr_room); (case hu => ktr_units); (case hI => (repeat (first | assumption | refine Sub.cons ?_))); (case U => k_updF); (case hq => omega); (case hb => omega); (case hn => decide)) | (refine' strm_read _ rfl sS ?B ?F ?X ?N ?T ?hk ?hd ?hu ?hI ?U ?hq ?hb ?hn ?_; (case F => k_asm); (case N => k_asm); (case B => k_asm); (case X => k_asm); (case T => k_asm); (case hk => first | rfl | assumption); (case hd => ktr_room); (case hu => ktr_units); (case hI => (repeat (first | assumption | refine Sub.cons ?_))); (case U => k_updF); (case hq => omega); (case hb => omega); (case hn => omega))); intro h' tk' t1 t2 F' N'; (try dsimp only)))
local macro_rules | `(tactic| walk_at "exec Raise some none") => `(tactic| (k_here; (with_reducible show wpAny _ _ (exec (Stmt.Raise (some (Expr.Call (Expr.Name ("ValueError" : Str) _) (_ :: _) [] _)) none _) _) _ _ _); (with_reducible rename Fr _ _ _ _ => kF); k_dflt (refine' Raise_madeB PySem.F.excCall_ValueError PySem.F.excRaise_ValueError ?hh (name_B kF ?k1 ?k2 ?k3 PyProof.Rows.Boot.«ValueError» ?k5 ⟨rfl, ?_⟩) ?a ?b; (case hh => rfl); (case a => rfl); (case b => rfl); (case k1 => k_asm); (case k2 => k_asm); (case k3 => k_is); (case k5 => decide))))
local macro_rules | `(tactic| walk_at "ite") => `(tactic| (k_here; first | (refine ite_pos (by first | omega | (simp only [decide_eq_true_eq, beq_iff_eq]; omega)) ?_) | (refine ite_neg (by first | omega | (simp only [decide_eq_true_eq, beq_iff_eq]; omega)) ?_)))
local macro_rules | `(tactic| walk_at "binaryOp Mod str ref") => `(tactic| (k_here; k_dflt (first | ((with_reducible show wpAny _ _ (binaryOp _ (Value.str (Str.ofString "expected %d bytes in a bytes1, but only %d remain") _) _) _ _ _); refine' modB ?N ?b ?a1 ?a2 ?a3 ?a4 ?_; (case N => k_asm); (case b => k_mem); (case a1 => omega); (case a2 => omega); (case a3 => omega); (case a4 => omega)) | ((with_reducible show wpAny _ _ (binaryOp _ (Value.str (Str.ofString "expected %d bytes in a string1, but only %d remain") _) _) _ _ _); refine' modS ?N ?b ?a1 ?a2 ?a3 ?a4 ?_; (case N => k_asm); (case b => k_mem); (case a1 => omega); (case a2 => omega); (case a3 => omega); (case a4 => omega))); intro _ _))
local macro_rules | `(tactic| walk_at "call builtin:len") => `(tactic| (k_here; (with_reducible show wpAny _ _ (call (Value.builtin "len") [Value.ref _]) _ _ _); k_dflt (refine' kst_len ?k1 ?k2 rfl ?k4 ?_; (case k1 => k_asm); (case k2 => lcg_src); (case k4 => ((try simp only [List.length_append, List.length_cons, List.length_nil]); omega)))))
local macro_rules | `(tactic| walk_at "ite") => `(tactic| (k_here; first | (refine ite_pos (by first | omega | (simp only [decide_eq_true_eq, beq_iff_eq, bne_iff_ne, Bool.not_eq_true', beq_eq_false_iff_ne, ne_eq, List.length_append, List.length_cons, List.length_nil]; done) | (simp only [decide_eq_true_eq, beq_iff_eq, bne_iff_ne, Bool.not_eq_true', beq_eq_false_iff_ne, ne_eq, List.length_append, List.length_cons, List.length_nil]; omega)) ?_) | (refine ite_neg (by first | omega | (simp only [decide_eq_true_eq, beq_iff_eq, bne_iff_ne, Bool.not_eq_true', beq_eq_false_iff_ne, ne_eq, List.length_append, List.length_cons, List.length_nil]; done) | (simp only [decide_eq_true_eq, beq_iff_eq, bne_iff_ne, Bool.not_eq_true', beq_eq_false_iff_ne, ne_eq, List.length_append, List.length_cons, List.length_nil]; omega)) ?_)))
local macro_rules | `(tactic| walk_at "PostX") => `(tactic| (dsimp only [PostX]))
local macro_rules | `(tactic| walk_at "call ref") => `(tactic| (k_here; (rename Strm _ _ _ _ _ _ _ _ _ _ _ _ _ _ _ _ => sS); (with_reducible show wpAny _ _ (call (Value.ref 21) [Value.ref _]) _ _ _); k_dflt (refine' ru1_ct _ ?B ?F ?X ?N ?T sS ?hI ?U ?hk ?hd ?hu ?hq ?hb (fun h' tk' t1 t2 hlt' F' N' => ?_) (fun g' e' t' u' h' tk' t1 heq' F' R' U' => ?_); (case F => k_asm); (case N => k_asm); (case B => k_asm); (case X => k_asm); (case T => k_asm); (case hk => first | rfl | assumption); (case hd => ktr_room); (case hu => ktr_units); (case hI => (repeat (first | assumption | refine Sub.cons ?_))); (case U => k_updF); (case hq => omega); (case hb => omega)); (all_goals (first | (exfalso; omega) | (try dsimp only)))))
local macro_rules | `(tactic| walk_at "call ref") => `(tactic| (k_here; (rename Strm _ _ _ _ _ _ _ _ _ _ _ _ _ _ _ _ => sS); (with_reducible show wpAny _ _ (call (Value.ref 35) [Value.ref _]) _ _ _); k_dflt (refine' rb1_ct _ ?B ?F ?X ?N ?T sS ?hI ?U ?hk ?hd ?hu ?hq ?hb (fun h' tk' t1 t2 hlt' hle' F' N' => ?_) (fun g' e' t' u' h' tk' t1 heq' F' R' U' => ?_) (fun g' e' t' u' h' tk' t1 heq' hlt' F' R' U' => ?_); (case F => k_asm); (case N => k_asm); (case B => k_asm); (case X => k_asm); (case T => k_asm); (case hk => first | rfl | assumption); (case hd => ktr_room); (case hu => ktr_units); (case hI => (repeat (first | assumption | refine Sub.cons ?_))); (case U => k_updF); (case hq => omega); (case hb => omega)); (all_goals (first | (exfalso; omega) | (try dsimp only)))))
local macro_rules | `(tactic| walk_at "call ref") => `(tactic| (k_here; (rename Strm _ _ _ _ _ _ _ _ _ _ _ _ _ _ _ _ => sS); (with_reducible show wpAny _ _ (call (Value.ref 28) [Value.ref _]) _ _ _); k_dflt (refine' rs1_ct _ ?B ?F ?X ?N ?T sS ?hI ?U ?hk ?hd ?hu ?hq ?hb (fun h' tk' t1 t2 hlt' hle' F' N' => ?_) (fun g' e' t' u' h' tk' t1 heq' F' R' U' => ?_) (fun g' e' t' u' h' tk' t1 heq' hlt' F' R' U' => ?_); (case F => k_asm); (case N => k_asm); (case B => k_asm); (case X => k_asm); (case T => k_asm); (case hk => first | rfl | assumption); (case hd => ktr_room); (case hu => ktr_units); (case hI => (repeat (first | assumption | refine Sub.cons ?_))); (case U => k_updF); (case hq => omega); (case hb => omega)); (all_goals (first | (exfalso; omega) | (try dsimp only)))))

theorem runfalse_ct (w : World) {p : Program} {loose : List Str} {mean : ExcName → Option Value} {mg mb : Str → Option Value}
  {dp un : Nat} {gd : Option (List Code)} {cn : Str} {cs : Scope} {a : Addr} {ccd : Value} {cl : List (Str × Addr)} {A₀ : Around} {base h₀ : Heap} {L : Addr} {m : Str → Option Value}
  {rest T : List (Addr × Obj)} {s : Shared} {b : Array UInt8} {tb tt : Tok} {tries : Nat} {Q E : Value → Shared → Prop}
  (B : Below A₀ base [] h₀) (F : Fr h₀ L s.heap m) (X : (hd07.heap_39 w.params).In h₀) (N : News h₀ L s.heap (T ++ rest)) (TT : Top p loose mean mg mb h₀)
  (XB : (hd07.heap_39 w.params).In base) (TB : Top p loose mean mg mb base)
  (H : CodeHd h₀ 62 58) (hT : Tab 58 (rawInt 29) (rawInt 4) (Str.ofString "_law_stream.<locals>._law_read") T) (hoff : OwnOff rest [58])
  (hk : cs.kind = .function) (hd : dp + 40 < recursionLimit) (hu : un + 200 < cLine) (hb : b.size ≤ 1000000) (htr : tries ≤ 100000) (hmax : ∀ xs p, Told b xs p → xs.length + 1 ≤ tries)
  (ok : ∀ h' tk T' tp li vs xs x j jt u1 u2, Tab 58 (rawInt 29) (rawInt 4) (Str.ofString "_law_stream.<locals>._law_read") T' → (∀ q ∈ T' ++ rest, q.1 < li) → li < tp →
    ItsAre vs (tag false xs) → Ends b false xs x → Fr h₀ L h' m → News h₀ L h' ((tp, { cls := .type "tuple", data := .seq #[.ref li, .str x u2, .int (b.size : Int) u1] jt }) :: (li, listOf vs.toArray j) :: (T' ++ rest)) → Q (.ref tp) { s with heap := h', toks := tk }) :
  wpAny (model Challenge.rw_dm0232_07.row.prog w) (ktrTop dp un gd cn cs L a ccd cl []) (call (.ref 77) [.bytes b tb, .ref 35, .int (tries : Int) tt]) Q E s := by
  revert X; k_fill; intro X
  have hMk := kstMark
  have D0 : KtsDicts [] h₀ := ktsDicts_nil
  obtain ⟨R0, hR0⟩ : ∃ R, R = T ++ rest := ⟨_, rfl⟩
  rw [← hR0] at N
  refine wpAny_call ?_
  k_dflt (refine' code_defSX ?k1 ?k2 ?k3 ?k4 ?k5 ?kA ?k6 ?k7 ?k8 ?k9 ?kB ?_ ?cK ?c2 ?c3 ?c4 ?c5; (case kA => exact rfl); (case k2 => k_asm); (case k1 => k_asm); (case k3 => k_asm); (case k4 => k_asm); (case k5 => k_asm); (case k6 => k_is); (case k7 => k_is); (case k8 => k_room); (case k9 => exact BindsTo.of_eq rfl); (case kB => exact locs rfl); (case cK => assumption); (case c2 => exact rfl); (case c3 => exact rfl); (case c4 => exact rfl); (case c5 => decide); k_whole; intro g' L' h' FG' F' N' B' X' T' D'; (try dsimp only); (try k_lift B'); (try k_fold))

  have H' : CodeHd g' 62 58 := H.keeps FG'.keep
  repeat' (first | (k_unfold; (try dsimp only)) | ((fail_if_success (with_reducible show wpAny _ _ (call (Value.ref 63) _) _ _ _)); first | (k_end; wrow_close) | walk1 | (dsimp only; walk1) | (leave1; try dsimp only)))
  rename Fr g' L' _ _ => F1
  rename News g' L' _ _ => N1
  rw [hR0] at N1
  k_dflt (refine stream_ct w (T := T) (rest := rest) B' F1 X' N1 T' H' hT hoff rfl ?_ ?_)
  · ktr_room
  intro f dx r k1 k2 tp0 I T2 h2 tk2 S hT2 o1 o2 o3 F2 N2
  clear F1 N1
  obtain ⟨R, hR⟩ : ∃ R, R = I ++ (T2 ++ rest) := ⟨_, rfl⟩
  rw [← hR] at N2
  have oR : OwnOff R [dx] := by
    intro q hq c hc; rw [hR] at hq; simp only [List.mem_append] at hq; rcases hq with h | h | h
    · exact S.off q h c hc
    · exact o2 q h c hc
    · exact o3 q h c hc
  have hm : Sub I R := fun e he => by rw [hR]; simp [he]
  have mi := hm _ S.inst
  clear o1 o2 o3
  repeat' (first | (k_unfold; (try dsimp only)) | ((fail_if_success (with_reducible show wpAny _ _ (exec (Stmt.For _ _ _ _ _) _) _ _ _)); first | (k_end; wrow_close) | walk1 | (dsimp only; walk1) | (leave1; try dsimp only)))
  refine wpAny_For ?_
  repeat' (first | (k_unfold; (try dsimp only)) | ((fail_if_success (with_reducible show wpAny _ _ (pyIter _) _ _ _)); first | (k_end; wrow_close) | walk1 | (dsimp only; walk1) | (leave1; try dsimp only)))
  rename IsRange _ _ _ _ _ _ _ _ => rg
  rename Fr g' L' _ _ => FF
  rename News g' L' _ _ => NN
  rename_i li _ hli _ _ _ _ _ u1 u2 u3 aa
  k_dflt (refine iterX_range (n := tries) (g₀ := g') (fun i mm nx => ∃ q t vs xs j, nx = (li, listOf vs.toArray j) :: (dx, SD w.params k1 k2 r ((q : Nat) : Int) t) :: R ∧ ItsAre vs (tag false xs) ∧ i = xs.length ∧ q ≤ b.size ∧ Told b xs q ∧
      mm (Str.ofString "f") = some (.ref f) ∧ mm (Str.ofString "told") = some (.ref li) ∧ mm (Str.ofString "reader") = some (.ref 35)) rfl rg (small_one (by omega) (by omega) (by omega) (by omega)) (by rw [rangeSize_nat]; omega) rfl rfl ⟨KtsTurn.refl, FF, NN, B', X', T', D'⟩ ⟨0, _, [], [], 0, rfl, .nil, rfl, Nat.zero_le _, .nil, rfl, rfl, rfl⟩ (by passes_own) ?turn ?done)
  case done =>
    rintro g9 m9 nx9 h9 tk9 ⟨q, t, vs, xs, j, rfl, hvs, hi, hqb, hto, hf, hi, hw⟩ X9
    exfalso
    have := hmax _ _ hto; omega
  case turn =>
    rintro i t9 g9 m9 nx9 h9 tk9 own hi9 ha ho9 ⟨q, t, vs, xs, j, rfl, hvs, hix, hqb, hto, hf, hi, hw⟩ ⟨T9, F9, N9, B9, X9, P9, D9⟩
    have F10 := fr_names F9 [(Str.ofString "f", .ref f), (Str.ofString "told", .ref li), (Str.ofString "reader", .ref 35)] (by
      intro q9 hq9; simp only [List.mem_cons, List.not_mem_nil, or_false] at hq9; rcases hq9 with rfl | rfl | rfl <;> exact (if_neg (by dsimp only; decide)).trans (by assumption))
    have hvl := hvs.length
    rw [tag_len] at hvl
    simp only [List.cons_append, List.map_cons] at N9 ho9 ha
    have hm2 : Sub I (R ++ own) := fun e he => List.mem_append.mpr (.inl (hm e he))
    have oRl : OwnOff R [li] := off_lt (d := li) hli.2 (by intro a ha; rw [List.mem_singleton.mp ha]; exact Nat.le_refl _)
    clear F9 FF NN rg hf hi hw
    have h256 := oct_lt b q
    have hxl := hmax _ _ hto
    have hcs : q = b.size ∨ (q < b.size ∧ q + 1 + oct b q ≤ b.size) ∨ (q < b.size ∧ b.size < q + 1 + oct b q) := by omega
    rcases hcs with c1 | ⟨c1, c2⟩ | ⟨c1, c2⟩
    · k_steps
      rename News h₀ L _ _ => NN
      rename Fr h₀ L _ m => FF
      rename _ < _ ∧ _ < _ ∧ AllLt _ _ => hlt
      skip
      exact ok _ _ T2 _ li vs xs _ _ _ _ _ hT2 (fun q hq => kst_ltOf hli.2 q (by rw [hR]; exact List.mem_append_right _ hq)) hlt.1 hvs ⟨q, hto, .inl ⟨c1, rfl⟩⟩ FF (news_run NN hR)
    · k_steps
      rename Fr _ L' _ _ => FF
      rename News _ L' _ _ => NN
      simp only [List.push_toArray] at NN
      exact EndX.intro T9 FF NN B9 X9 P9 D9 ⟨_, _, _, _, _, rfl, its_byts hvs _ _, by rw [List.length_append, List.length_singleton]; omega, c2, hto.snoc c1 c2, rfl, rfl, rfl⟩ (by rfl) sub_two own_two
    · k_steps
      rename News h₀ L _ _ => NN
      rename Fr h₀ L _ m => FF
      rename _ < _ ∧ _ < _ ∧ AllLt _ _ => hlt
      skip
      exact ok _ _ T2 _ li vs xs _ _ _ _ _ hT2 (fun q hq => kst_ltOf hli.2 q (by rw [hR]; exact List.mem_append_right _ hq)) hlt.1 hvs ⟨q, hto, .inr ⟨c1, c2, rfl⟩⟩ FF (news_run NN hR)

theorem runtrue_ct (w : World) {p : Program} {loose : List Str} {mean : ExcName → Option Value} {mg mb : Str → Option Value}
  {dp un : Nat} {gd : Option (List Code)} {cn : Str} {cs : Scope} {a : Addr} {ccd : Value} {cl : List (Str × Addr)} {A₀ : Around} {base h₀ : Heap} {L : Addr} {m : Str → Option Value}
  {rest T : List (Addr × Obj)} {s : Shared} {b : Array UInt8} {tb tt : Tok} {tries : Nat} {Q E : Value → Shared → Prop}
  (B : Below A₀ base [] h₀) (F : Fr h₀ L s.heap m) (X : (hd07.heap_39 w.params).In h₀) (N : News h₀ L s.heap (T ++ rest)) (TT : Top p loose mean mg mb h₀)
  (XB : (hd07.heap_39 w.params).In base) (TB : Top p loose mean mg mb base)
  (H : CodeHd h₀ 62 58) (hT : Tab 58 (rawInt 29) (rawInt 4) (Str.ofString "_law_stream.<locals>._law_read") T) (hoff : OwnOff rest [58])
  (hk : cs.kind = .function) (hd : dp + 40 < recursionLimit) (hu : un + 200 < cLine) (hb : b.size ≤ 1000000) (htr : tries ≤ 100000) (hmax : ∀ xs p, Told b xs p → xs.length + 1 ≤ tries)
  (ok : ∀ h' tk T' tp li vs xs x j jt u1 u2, Tab 58 (rawInt 29) (rawInt 4) (Str.ofString "_law_stream.<locals>._law_read") T' → (∀ q ∈ T' ++ rest, q.1 < li) → li < tp →
    ItsAre vs (tag true xs) → Ends b true xs x → Fr h₀ L h' m → News h₀ L h' ((tp, { cls := .type "tuple", data := .seq #[.ref li, .str x u2, .int (b.size : Int) u1] jt }) :: (li, listOf vs.toArray j) :: (T' ++ rest)) → Q (.ref tp) { s with heap := h', toks := tk }) :
  wpAny (model Challenge.rw_dm0232_07.row.prog w) (ktrTop dp un gd cn cs L a ccd cl []) (call (.ref 77) [.bytes b tb, .ref 28, .int (tries : Int) tt]) Q E s := by
  revert X; k_fill; intro X
  have hMk := kstMark
  have D0 : KtsDicts [] h₀ := ktsDicts_nil
  obtain ⟨R0, hR0⟩ : ∃ R, R = T ++ rest := ⟨_, rfl⟩
  rw [← hR0] at N
  refine wpAny_call ?_
  k_dflt (refine' code_defSX ?k1 ?k2 ?k3 ?k4 ?k5 ?kA ?k6 ?k7 ?k8 ?k9 ?kB ?_ ?cK ?c2 ?c3 ?c4 ?c5; (case kA => exact rfl); (case k2 => k_asm); (case k1 => k_asm); (case k3 => k_asm); (case k4 => k_asm); (case k5 => k_asm); (case k6 => k_is); (case k7 => k_is); (case k8 => k_room); (case k9 => exact BindsTo.of_eq rfl); (case kB => exact locs rfl); (case cK => assumption); (case c2 => exact rfl); (case c3 => exact rfl); (case c4 => exact rfl); (case c5 => decide); k_whole; intro g' L' h' FG' F' N' B' X' T' D'; (try dsimp only); (try k_lift B'); (try k_fold))

  have H' : CodeHd g' 62 58 := H.keeps FG'.keep
  repeat' (first | (k_unfold; (try dsimp only)) | ((fail_if_success (with_reducible show wpAny _ _ (call (Value.ref 63) _) _ _ _)); first | (k_end; wrow_close) | walk1 | (dsimp only; walk1) | (leave1; try dsimp only)))
  rename Fr g' L' _ _ => F1
  rename News g' L' _ _ => N1
  rw [hR0] at N1
  k_dflt (refine stream_ct w (T := T) (rest := rest) B' F1 X' N1 T' H' hT hoff rfl ?_ ?_)
  · ktr_room
  intro f dx r k1 k2 tp0 I T2 h2 tk2 S hT2 o1 o2 o3 F2 N2
  clear F1 N1
  obtain ⟨R, hR⟩ : ∃ R, R = I ++ (T2 ++ rest) := ⟨_, rfl⟩
  rw [← hR] at N2
  have oR : OwnOff R [dx] := by
    intro q hq c hc; rw [hR] at hq; simp only [List.mem_append] at hq; rcases hq with h | h | h
    · exact S.off q h c hc
    · exact o2 q h c hc
    · exact o3 q h c hc
  have hm : Sub I R := fun e he => by rw [hR]; simp [he]
  have mi := hm _ S.inst
  clear o1 o2 o3
  repeat' (first | (k_unfold; (try dsimp only)) | ((fail_if_success (with_reducible show wpAny _ _ (exec (Stmt.For _ _ _ _ _) _) _ _ _)); first | (k_end; wrow_close) | walk1 | (dsimp only; walk1) | (leave1; try dsimp only)))
  refine wpAny_For ?_
  repeat' (first | (k_unfold; (try dsimp only)) | ((fail_if_success (with_reducible show wpAny _ _ (pyIter _) _ _ _)); first | (k_end; wrow_close) | walk1 | (dsimp only; walk1) | (leave1; try dsimp only)))
  rename IsRange _ _ _ _ _ _ _ _ => rg
  rename Fr g' L' _ _ => FF
  rename News g' L' _ _ => NN
  rename_i li _ hli _ _ _ _ _ u1 u2 u3 aa
  k_dflt (refine iterX_range (n := tries) (g₀ := g') (fun i mm nx => ∃ q t vs xs j, nx = (li, listOf vs.toArray j) :: (dx, SD w.params k1 k2 r ((q : Nat) : Int) t) :: R ∧ ItsAre vs (tag true xs) ∧ i = xs.length ∧ q ≤ b.size ∧ Told b xs q ∧
      mm (Str.ofString "f") = some (.ref f) ∧ mm (Str.ofString "told") = some (.ref li) ∧ mm (Str.ofString "reader") = some (.ref 28)) rfl rg (small_one (by omega) (by omega) (by omega) (by omega)) (by rw [rangeSize_nat]; omega) rfl rfl ⟨KtsTurn.refl, FF, NN, B', X', T', D'⟩ ⟨0, _, [], [], 0, rfl, .nil, rfl, Nat.zero_le _, .nil, rfl, rfl, rfl⟩ (by passes_own) ?turn ?done)
  case done =>
    rintro g9 m9 nx9 h9 tk9 ⟨q, t, vs, xs, j, rfl, hvs, hi, hqb, hto, hf, hi, hw⟩ X9
    exfalso
    have := hmax _ _ hto; omega
  case turn =>
    rintro i t9 g9 m9 nx9 h9 tk9 own hi9 ha ho9 ⟨q, t, vs, xs, j, rfl, hvs, hix, hqb, hto, hf, hi, hw⟩ ⟨T9, F9, N9, B9, X9, P9, D9⟩
    have F10 := fr_names F9 [(Str.ofString "f", .ref f), (Str.ofString "told", .ref li), (Str.ofString "reader", .ref 28)] (by
      intro q9 hq9; simp only [List.mem_cons, List.not_mem_nil, or_false] at hq9; rcases hq9 with rfl | rfl | rfl <;> exact (if_neg (by dsimp only; decide)).trans (by assumption))
    have hvl := hvs.length
    rw [tag_len] at hvl
    simp only [List.cons_append, List.map_cons] at N9 ho9 ha
    have hm2 : Sub I (R ++ own) := fun e he => List.mem_append.mpr (.inl (hm e he))
    have oRl : OwnOff R [li] := off_lt (d := li) hli.2 (by intro a ha; rw [List.mem_singleton.mp ha]; exact Nat.le_refl _)
    clear F9 FF NN rg hf hi hw
    have h256 := oct_lt b q
    have hxl := hmax _ _ hto
    have hcs : q = b.size ∨ (q < b.size ∧ q + 1 + oct b q ≤ b.size) ∨ (q < b.size ∧ b.size < q + 1 + oct b q) := by omega
    rcases hcs with c1 | ⟨c1, c2⟩ | ⟨c1, c2⟩
    · k_steps
      rename News h₀ L _ _ => NN
      rename Fr h₀ L _ m => FF
      rename _ < _ ∧ _ < _ ∧ AllLt _ _ => hlt
      skip
      exact ok _ _ T2 _ li vs xs _ _ _ _ _ hT2 (fun q hq => kst_ltOf hli.2 q (by rw [hR]; exact List.mem_append_right _ hq)) hlt.1 hvs ⟨q, hto, .inl ⟨c1, rfl⟩⟩ FF (news_run NN hR)
    · k_steps
      rename Fr _ L' _ _ => FF
      rename News _ L' _ _ => NN
      simp only [List.push_toArray] at NN
      exact EndX.intro T9 FF NN B9 X9 P9 D9 ⟨_, _, _, _, _, rfl, its_strs hvs _ _, by rw [List.length_append, List.length_singleton]; omega, c2, hto.snoc c1 c2, rfl, rfl, rfl⟩ (by rfl) sub_two own_two
    · k_steps
      rename News h₀ L _ _ => NN
      rename Fr h₀ L _ m => FF
      rename _ < _ ∧ _ < _ ∧ AllLt _ _ => hlt
      skip
      exact ok _ _ T2 _ li vs xs _ _ _ _ _ hT2 (fun q hq => kst_ltOf hli.2 q (by rw [hR]; exact List.mem_append_right _ hq)) hlt.1 hvs ⟨q, hto, .inr ⟨c1, c2, rfl⟩⟩ FF (news_run NN hR)
end Mine
end
section
open PySem PySem.W PyProof.Rows PySem.Calls PySem.Spec
set_option Elab.async false
namespace Mine
/-- the octets of pieces: each with its size ahead -/
def enc (ps : List (Array UInt8)) : List UInt8 := ps.flatMap fun c => c.size.toUInt8 :: c.toList
theorem enc_append (ps qs : List (Array UInt8)) : enc (ps ++ qs) = enc ps ++ enc qs := by unfold enc; rw [List.flatMap_append]
theorem enc_one (c : Array UInt8) : enc [c] = c.size.toUInt8 :: c.toList := by unfold enc; simp
def pos (ps : List (Array UInt8)) (n : Nat) : Nat := (enc (ps.take n)).length
theorem pos_zero (ps : List (Array UInt8)) : pos ps 0 = 0 := rfl
theorem pos_all (ps : List (Array UInt8)) : pos ps ps.length = (enc ps).length := by unfold pos; rw [List.take_length]
theorem pos_succ {ps : List (Array UInt8)} {i : Nat} {c : Array UInt8} (h : ps[i]? = some c) : pos ps (i + 1) = pos ps i + 1 + c.size := by
  unfold pos
  rw [List.take_add_one, h, Option.toList_some, enc_append, enc_one]
  simp; omega
theorem pos_app {ps qs : List (Array UInt8)} {i : Nat} (h : i ≤ ps.length) : pos (ps ++ qs) i = pos ps i := by
  unfold pos
  rw [List.take_append_of_le_length h]
theorem pos_lt {ps : List (Array UInt8)} {i j : Nat} (h : i < j) (hj : j ≤ ps.length) : pos ps i < pos ps j := by
  induction j with
  | zero => omega
  | succ j ih =>
    have e := pos_succ (List.getElem?_eq_getElem (show j < ps.length by omega))
    by_cases hij : i = j
    · subst hij; omega
    · have := ih (by omega) (by omega); omega
theorem pos_le {ps : List (Array UInt8)} {i j : Nat} (h : i ≤ j) (hj : j ≤ ps.length) : pos ps i ≤ pos ps j := by
  by_cases e : i = j
  · rw [e]; exact Nat.le_refl _
  · exact Nat.le_of_lt (pos_lt (by omega) hj)
theorem enc_len {ps : List (Array UInt8)} {n : Nat} (h : ∀ c ∈ ps, c.size ≤ n) : (enc ps).length ≤ (n + 1) * ps.length := by
  induction ps with
  | nil => simp [enc]
  | cons c ps ih =>
    rw [show c :: ps = [c] ++ ps from rfl, enc_append, enc_one, List.length_append, List.length_append, List.length_singleton, Nat.mul_add]
    have h1 := h c (.head _)
    have h2 := ih fun d hd => h d (.tail _ hd)
    simp only [List.length_cons, Array.length_toList, Nat.mul_one]
    omega
theorem split_at {ps : List (Array UInt8)} {i : Nat} {c : Array UInt8} (h : ps[i]? = some c) : enc ps = enc (ps.take i) ++ (c.size.toUInt8 :: c.toList ++ enc (ps.drop (i + 1))) := by
  have hi : i < ps.length := by rw [List.getElem?_eq_some_iff] at h; exact h.1
  have hc : ps[i] = c := by rw [List.getElem?_eq_some_iff] at h; exact h.2
  have e : ps = ps.take i ++ ([c] ++ ps.drop (i + 1)) := by
    rw [← hc]; conv => lhs; rw [← List.take_append_drop i ps]
    rw [List.drop_eq_getElem_cons hi]; rfl
  conv => lhs; rw [e]
  rw [enc_append, enc_append, enc_one]
theorem size_u8 {n : Nat} (h : n ≤ 255) : (n.toUInt8).toNat = n := by rw [Nat.toUInt8, UInt8.toNat_ofNat']; omega
section
variable {b : Array UInt8} {ps : List (Array UInt8)} {i k : Nat} {c : Array UInt8}
theorem cut_oct (hb : b.toList = enc ps) (hc : ps[i]? = some c) (hz : c.size ≤ 255) (hk : pos ps i < k) : oct (cutB b 0 k) (pos ps i) = c.size := by
  unfold oct cutB
  dsimp only
  rw [List.drop_zero, hb, split_at hc, List.getD_eq_getElem?_getD, List.getElem?_take_of_lt hk]
  unfold pos
  rw [List.getElem?_append_right (Nat.le_refl _), Nat.sub_self]
  simp only [List.cons_append, List.getElem?_cons_zero, Option.getD_some]
  exact size_u8 hz
theorem cut_piece (hb : b.toList = enc ps) (hc : ps[i]? = some c) (hk : pos ps (i + 1) ≤ k) : cutB (cutB b 0 k) (pos ps i + 1) c.size = c := by
  have e := pos_succ hc
  unfold cutB
  dsimp only
  rw [List.drop_zero, hb, split_at hc]
  have e2 : List.take c.size (List.drop (pos ps i + 1) (List.take k (enc (List.take i ps) ++ (c.size.toUInt8 :: c.toList ++ enc (List.drop (i + 1) ps))))) = c.toList := by
    rw [List.drop_take, List.take_take]
    have e3 : List.drop (pos ps i + 1) (enc (List.take i ps) ++ (c.size.toUInt8 :: c.toList ++ enc (List.drop (i + 1) ps))) = c.toList ++ enc (List.drop (i + 1) ps) := by
      rw [show pos ps i + 1 = (enc (List.take i ps)).length + 1 from rfl, List.drop_append]
      simp
    rw [e3, Nat.min_eq_left (by omega), List.take_append_of_le_length (by simp), List.take_of_length_le (by simp)]
  rw [e2, Array.toArray_toList]
theorem told_enc {xs : List (Array UInt8)} {p : Nat} (hb : b.toList = enc ps) (hz : ∀ c ∈ ps, c.size ≤ 255) (hk : k ≤ b.size) (h : Told (cutB b 0 k) xs p) : xs.length ≤ ps.length ∧ xs = ps.take xs.length ∧ p = pos ps xs.length := by
  have hbs : b.size = (enc ps).length := by rw [← hb, Array.length_toList]
  have hcs : (cutB b 0 k).size = k := by rw [cutB_size]; omega
  induction h with
  | nil => exact ⟨Nat.zero_le _, by simp, (pos_zero _).symm⟩
  | @snoc xs p _ h1 h2 ih =>
    obtain ⟨e1, e2, e3⟩ := ih
    rw [hcs] at h1 h2
    have hi : xs.length < ps.length := by
      rcases Nat.lt_or_ge xs.length ps.length with h | h
      · exact h
      · have : xs.length = ps.length := by omega
        rw [this, pos_all] at e3; omega
    have hc := List.getElem?_eq_getElem hi
    have ho : oct (cutB b 0 k) p = ps[xs.length].size := by rw [e3]; exact cut_oct hb hc (hz _ (List.getElem_mem hi)) (by omega)
    have hp := pos_succ hc
    rw [ho] at h2 ⊢
    have hq : cutB (cutB b 0 k) (p + 1) ps[xs.length].size = ps[xs.length] := by rw [e3]; exact cut_piece hb hc (by omega)
    rw [hq, List.length_append, List.length_singleton]
    refine ⟨hi, ?_, by omega⟩
    rw [List.take_add_one, hc, Option.toList_some, ← e2]
theorem ends_cut {fl : Bool} {xs : List (Array UInt8)} {x : Str} (hb : b.toList = enc ps) (hz : ∀ c ∈ ps, c.size ≤ 255) (hk : k ≤ b.size) (h : Ends (cutB b 0 k) fl xs x) :
    ∃ i, i ≤ ps.length ∧ xs = ps.take i ∧ ((pos ps i = k ∧ x = msg0) ∨ ∃ c, ps[i]? = some c ∧ pos ps i < k ∧ k < pos ps (i + 1) ∧ x = msgX fl (c.size : Int) ((k : Int) - (pos ps i : Int) - 1)) := by
  have hbs : b.size = (enc ps).length := by rw [← hb, Array.length_toList]
  have hcs : (cutB b 0 k).size = k := by rw [cutB_size]; omega
  obtain ⟨p, ht, he⟩ := h
  obtain ⟨e1, e2, e3⟩ := told_enc hb hz hk ht
  refine ⟨xs.length, e1, e2, ?_⟩
  rw [hcs] at he
  rcases he with ⟨h1, h2⟩ | ⟨h1, h2, h3⟩
  · exact .inl ⟨by omega, h2⟩
  · have hi : xs.length < ps.length := by
      rcases Nat.lt_or_ge xs.length ps.length with h | h
      · exact h
      · have : xs.length = ps.length := by omega
        rw [this, pos_all] at e3; omega
    have hc := List.getElem?_eq_getElem hi
    have ho : oct (cutB b 0 k) p = ps[xs.length].size := by rw [e3]; exact cut_oct hb hc (hz _ (List.getElem_mem hi)) (by omega)
    have hp := pos_succ hc
    rw [ho] at h2 h3
    refine .inr ⟨_, hc, by omega, by omega, ?_⟩
    rw [h3]; congr 1; omega
theorem cut_self : cutB b 0 b.size = b := cut_whole
theorem ends_all {fl : Bool} {xs : List (Array UInt8)} {x : Str} (hb : b.toList = enc ps) (hz : ∀ c ∈ ps, c.size ≤ 255) (h : Ends b fl xs x) : xs = ps ∧ x = msg0 := by
  have hbs : b.size = (enc ps).length := by rw [← hb, Array.length_toList]
  have h' : Ends (cutB b 0 b.size) fl xs x := by rw [cut_self]; exact h
  obtain ⟨i, hi, e, hx⟩ := ends_cut hb hz (Nat.le_refl _) h'
  have hil : i = ps.length := by
    rcases Nat.lt_or_ge i ps.length with hlt | hge
    · exfalso
      have h1 := pos_lt (ps := ps) (i := i) (j := i + 1) (by omega) hlt
      have h2 := pos_le (ps := ps) (i := i + 1) (j := ps.length) hlt (Nat.le_refl _)
      rw [pos_all] at h2
      rcases hx with ⟨h3, _⟩ | ⟨c, _, _, h4, _⟩ <;> omega
    · omega
  subst hil
  refine ⟨by rw [e, List.take_length], ?_⟩
  rcases hx with ⟨_, h⟩ | ⟨c, hc, _⟩
  · exact h
  · rw [List.getElem?_eq_none (Nat.le_refl _)] at hc; cases hc
theorem told_max {xs : List (Array UInt8)} {p : Nat} (hb : b.toList = enc ps) (hz : ∀ c ∈ ps, c.size ≤ 255) (hk : k ≤ b.size) (h : Told (cutB b 0 k) xs p) : xs.length + 1 ≤ ps.length + 1 := by
  have := (told_enc hb hz hk h).1; omega
theorem told_max' {xs : List (Array UInt8)} {p : Nat} (hb : b.toList = enc ps) (hz : ∀ c ∈ ps, c.size ≤ 255) (h : Told b xs p) : xs.length + 1 ≤ ps.length + 1 :=
  told_max (k := b.size) hb hz (Nat.le_refl _) (by rw [cut_self]; exact h)
/-- what a read at the i-th piece gives -/
theorem read_at (hb : b.toList = enc ps) (hz : ∀ c ∈ ps, c.size ≤ 255) (hc : ps[i]? = some c) : pos ps i < b.size ∧ pos ps i + 1 + oct b (pos ps i) = pos ps (i + 1) ∧ pos ps (i + 1) ≤ b.size ∧ cutB b (pos ps i + 1) (oct b (pos ps i)) = c := by
  have hbs : b.size = (enc ps).length := by rw [← hb, Array.length_toList]
  have hi : i < ps.length := by rw [List.getElem?_eq_some_iff] at hc; exact hc.1
  have hm : c ∈ ps := List.mem_of_getElem? hc
  have hp := pos_succ hc
  have h2 := pos_le (ps := ps) (i := i + 1) (j := ps.length) hi (Nat.le_refl _)
  rw [pos_all] at h2
  have ho := cut_oct (k := b.size) hb hc (hz _ hm) (by omega)
  have hq := cut_piece (k := b.size) hb hc (by omega)
  rw [cut_self] at ho hq
  rw [ho]
  exact ⟨by omega, by omega, by omega, hq⟩
end
/-- the first n pieces of a thing -/
def pcsN (t : Array UInt8) (n : Nat) : List (Array UInt8) := (List.range n).map fun j => cutB t (255 * j) 255
def pcs (t : Array UInt8) : List (Array UInt8) := pcsN t (t.size / 255 + 1)
def allP (ts : List (Array UInt8)) : List (Array UInt8) := ts.flatMap pcs
theorem pcsN_succ (t : Array UInt8) (n : Nat) : pcsN t (n + 1) = pcsN t n ++ [cutB t (255 * n) 255] := by unfold pcsN; rw [List.range_succ, List.map_append]; rfl
theorem pcsN_len (t : Array UInt8) (n : Nat) : (pcsN t n).length = n := by unfold pcsN; rw [List.length_map, List.length_range]
theorem pcsN_get (t : Array UInt8) {n j : Nat} (h : j < n) : (pcsN t n)[j]? = some (cutB t (255 * j) 255) := by unfold pcsN; rw [List.getElem?_map, List.getElem?_range h]; rfl
theorem pcsN_size {t : Array UInt8} {n : Nat} : ∀ c ∈ pcsN t n, c.size ≤ 255 := fun c hc => by
  obtain ⟨j, _, rfl⟩ := List.mem_map.mp hc; rw [cutB_size]; omega
theorem allP_snoc (ts : List (Array UInt8)) (t : Array UInt8) : allP (ts ++ [t]) = allP ts ++ pcs t := by unfold allP; rw [List.flatMap_append]; simp
theorem allP_size {ts : List (Array UInt8)} : ∀ c ∈ allP ts, c.size ≤ 255 := fun c hc => by
  obtain ⟨t, _, h⟩ := List.mem_flatMap.mp hc; exact pcsN_size c h
theorem allP_len {ts : List (Array UInt8)} (h : ∀ c ∈ ts, c.size ≤ 765) : (allP ts).length ≤ 4 * ts.length := by
  induction ts with
  | nil => simp [allP]
  | cons t ts ih =>
    have h1 := h t (.head _)
    have h2 := ih fun d hd => h d (.tail _ hd)
    have e : (allP (t :: ts)).length = (t.size / 255 + 1) + (allP ts).length := by
      unfold allP; rw [List.flatMap_cons, List.length_append]; unfold pcs; rw [pcsN_len]
    rw [e, List.length_cons]; omega
theorem join_pcsN (t : Array UInt8) : ∀ n, 255 * n ≤ t.size + 255 → ((pcsN t n).foldl (fun a b => a ++ b) #[]) = cutB t 0 (255 * n)
  | 0, _ => by simp [pcsN, cutB]
  | n + 1, h => by
    rw [pcsN_succ, List.foldl_append, List.foldl_cons, List.foldl_nil, join_pcsN t n (by omega)]
    unfold cutB
    rw [List.drop_zero, List.append_toArray, show 255 * (n + 1) = 255 * n + 255 by omega, List.take_add]
theorem join_pcs (t : Array UInt8) : Builtin.Bytes.joined #[] (pcs t) = t := by
  rw [joined_eq]
  unfold pcs
  rw [join_pcsN t _ (by omega)]
  unfold cutB
  rw [List.drop_zero, List.take_of_length_le (by simp; omega), Array.toArray_toList]
theorem sum_pcs (t : Array UInt8) : ((pcs t).map (·.size)).sum = t.size := by rw [← joined_size, join_pcs]
/-- laid pieces: the octets and the ends -/
structure Lay (ps : List (Array UInt8)) (b : Array UInt8) (es : List Int) : Prop where
  oct : b.toList = enc ps
  ends : es = (List.range (ps.length + 1)).map fun i => (pos ps i : Int)
theorem Lay.nil : Lay [] #[] [0] := ⟨rfl, rfl⟩
theorem Lay.size {ps : List (Array UInt8)} {b : Array UInt8} {es : List Int} (h : Lay ps b es) : b.size = pos ps ps.length := by rw [pos_all, ← h.oct, Array.length_toList]
theorem Lay.snoc {ps : List (Array UInt8)} {b d : Array UInt8} {es : List Int} {c : Array UInt8} {e : Int} (h : Lay ps b es) (hd : d = byteArr [(c.size : Int)]) (he : e = ((b ++ d ++ c).size : Int)) : Lay (ps ++ [c]) (b ++ d ++ c) (es ++ [e]) := by
  subst hd he
  have ho : (b ++ byteArr [(c.size : Int)] ++ c).toList = enc (ps ++ [c]) := by
    rw [enc_append, enc_one, ← h.oct]
    simp [byteArr]
  refine ⟨ho, ?_⟩
  rw [List.length_append, List.length_singleton, List.range_succ, List.map_append, List.map_singleton]
  congr 1
  · rw [h.ends]
    refine List.map_congr_left fun i hi => ?_
    rw [List.mem_range] at hi
    rw [pos_app (by omega)]
  · have : pos (ps ++ [c]) (ps.length + 1) = (b ++ byteArr [(c.size : Int)] ++ c).size := by
      rw [show ps.length + 1 = (ps ++ [c]).length by simp, pos_all, ← ho, Array.length_toList]
    rw [this]
theorem Lay.len {ps : List (Array UInt8)} {b : Array UInt8} {es : List Int} (h : Lay ps b es) : es.length = ps.length + 1 := by rw [h.ends]; simp
theorem Lay.get {ps : List (Array UInt8)} {b : Array UInt8} {es : List Int} (h : Lay ps b es) {i : Nat} (hi : i ≤ ps.length) : es.getD i 0 = (pos ps i : Int) := by
  rw [h.ends, List.getD_eq_getElem?_getD, List.getElem?_map, List.getElem?_range (by omega)]; rfl
theorem filt_range {f : Nat → Int} {k : Int} {i : Nat} : ∀ n, i ≤ n → (∀ j, j < n → (f j ≤ k ↔ j < i)) → (((List.range n).map f).filter fun e => decide (e ≤ k)).length = i
  | 0, h, _ => by simp; omega
  | n + 1, h, hf => by
    rw [List.range_succ, List.map_append, List.filter_append, List.length_append, List.map_singleton]
    by_cases hi : i ≤ n
    · rw [filt_range n hi fun j hj => hf j (by omega), List.filter_cons_of_neg (by have := hf n (by omega); simp only [decide_eq_true_eq]; omega)]; simp
    · rw [List.filter_cons_of_pos (by have := hf n (by omega); simp only [decide_eq_true_eq]; omega), List.filter_nil, List.length_singleton]
      have : (((List.range n).map f).filter fun e => decide (e ≤ k)).length = n := filt_range (i := n) n (Nat.le_refl _) fun j hj => by have := hf j (by omega); omega
      omega
/-- how many of the pieces end ahead of the cut -/
theorem Lay.whole {ps : List (Array UInt8)} {b : Array UInt8} {es : List Int} (h : Lay ps b es) {i k : Nat} (hi : i ≤ ps.length) (h1 : pos ps i ≤ k) (h2 : i < ps.length → k < pos ps (i + 1)) :
    ((es.drop 1).filter fun e => decide (e ≤ (k : Int))).length = i := by
  have e : es.drop 1 = (List.range ps.length).map fun i => (pos ps (i + 1) : Int) := by
    rw [h.ends, List.range_succ_eq_map, List.map_cons, List.drop_succ_cons, List.drop_zero, List.map_map]; rfl
  rw [e]
  refine filt_range _ hi fun j hj => ?_
  constructor
  · intro hle
    rcases Nat.lt_or_ge j i with h | h
    · exact h
    · exfalso
      have a1 := h2 (by omega)
      have a2 := pos_le (ps := ps) (i := i + 1) (j := j + 1) (by omega) (by omega)
      omega
  · intro hlt
    have := pos_le (ps := ps) (i := j + 1) (j := i) (by omega) hi
    omega
/-- where each thing ends -/
def stopsL (ts : List (Array UInt8)) (n : Nat) : List Int := (List.range n).map fun k => ((enc (allP (ts.take (k + 1)))).length : Int)
theorem stopsL_succ (ts : List (Array UInt8)) (n : Nat) : stopsL ts (n + 1) = stopsL ts n ++ [((enc (allP (ts.take (n + 1)))).length : Int)] := by unfold stopsL; rw [List.range_succ, List.map_append]; rfl
theorem stopsL_len (ts : List (Array UInt8)) (n : Nat) : (stopsL ts n).length = n := by unfold stopsL; simp
theorem stopsL_get (ts : List (Array UInt8)) {n k : Nat} (h : k < n) : (stopsL ts n).getD k 0 = ((enc (allP (ts.take (k + 1)))).length : Int) := by
  unfold stopsL; rw [List.getD_eq_getElem?_getD, List.getElem?_map, List.getElem?_range h]; rfl
/-- the number of pieces ahead of thing k -/
def nP (ts : List (Array UInt8)) (k : Nat) : Nat := (allP (ts.take k)).length
theorem allP_take (ts : List (Array UInt8)) (k : Nat) : allP ts = allP (ts.take k) ++ allP (ts.drop k) := by
  unfold allP; rw [← List.flatMap_append, List.take_append_drop]
theorem pos_nP (ts : List (Array UInt8)) (k : Nat) : pos (allP ts) (nP ts k) = (enc (allP (ts.take k))).length := by
  unfold pos nP
  conv => lhs; rw [allP_take ts k]
  rw [List.take_left']
  rfl
theorem nP_succ {ts : List (Array UInt8)} {k : Nat} {t : Array UInt8} (h : ts[k]? = some t) : nP ts (k + 1) = nP ts k + (t.size / 255 + 1) := by
  unfold nP
  rw [List.take_add_one, h, Option.toList_some, allP_snoc, List.length_append]
  unfold pcs
  rw [pcsN_len]
theorem piece_at {ts : List (Array UInt8)} {k j : Nat} {t : Array UInt8} (h : ts[k]? = some t) (hj : j < t.size / 255 + 1) : (allP ts)[nP ts k + j]? = some (cutB t (255 * j) 255) := by
  rw [allP_take ts (k + 1), List.take_add_one, h, Option.toList_some, allP_snoc]
  unfold nP
  rw [List.append_assoc, List.getElem?_append_right (Nat.le_add_right _ _), Nat.add_sub_cancel_left, List.getElem?_append_left (by unfold pcs; rw [pcsN_len]; exact hj)]
  exact pcsN_get t hj
theorem place_ex {ps : List (Array UInt8)} {k : Nat} : ∀ n, n ≤ ps.length → ∃ i, i ≤ n ∧ pos ps i ≤ k ∧ (i < n → k < pos ps (i + 1))
  | 0, _ => ⟨0, Nat.le_refl _, Nat.zero_le _, fun h => absurd h (Nat.lt_irrefl _)⟩
  | n + 1, h => by
    obtain ⟨i, h1, h2, h3⟩ := place_ex (ps := ps) (k := k) n (by omega)
    by_cases hi : i < n
    · exact ⟨i, by omega, h2, fun _ => h3 hi⟩
    · have e : i = n := by omega
      subst e
      by_cases hk : k < pos ps (i + 1)
      · exact ⟨i, by omega, h2, fun _ => hk⟩
      · exact ⟨i + 1, Nat.le_refl _, by omega, fun h => absurd h (Nat.lt_irrefl _)⟩
theorem cut_is {b : Array UInt8} {ps : List (Array UInt8)} {i k : Nat} {fl : Bool} {xs : List (Array UInt8)} {x : Str} (hb : b.toList = enc ps) (hz : ∀ c ∈ ps, c.size ≤ 255) (hk : k ≤ b.size)
    (hi : i ≤ ps.length) (h1 : pos ps i ≤ k) (h2 : i < ps.length → k < pos ps (i + 1)) (h : Ends (cutB b 0 k) fl xs x) :
    xs = ps.take i ∧ ((pos ps i = k ∧ x = msg0) ∨ ∃ c, ps[i]? = some c ∧ pos ps i < k ∧ x = msgX fl (c.size : Int) ((k : Int) - (pos ps i : Int) - 1)) := by
  obtain ⟨j, hj, e, hx⟩ := ends_cut hb hz hk h
  have hji : j = i := by
    have hjk : pos ps j ≤ k ∧ (j < ps.length → k < pos ps (j + 1)) := by
      rcases hx with ⟨a1, _⟩ | ⟨c, a1, a2, a3, _⟩
      · refine ⟨by omega, fun hlt => ?_⟩
        have := pos_lt (ps := ps) (i := j) (j := j + 1) (by omega) hlt
        omega
      · exact ⟨by omega, fun _ => a3⟩
    rcases Nat.lt_trichotomy j i with hlt | hlt | hlt
    · have a1 := hjk.2 (by omega)
      have a2 := pos_le (ps := ps) (i := j + 1) (j := i) hlt hi
      omega
    · exact hlt
    · have a1 := h2 (by omega)
      have a2 := pos_le (ps := ps) (i := i + 1) (j := j) hlt hj
      omega
  subst hji
  refine ⟨e, ?_⟩
  rcases hx with a | ⟨c, a1, a2, a3, a4⟩
  · exact .inl a
  · exact .inr ⟨c, a1, a2, a4⟩
end Mine
end
section
open PySem PySem.W PyProof.Rows PySem.Calls PySem.Spec
set_option Elab.async false
set_option maxRecDepth 100000
set_option maxHeartbeats 8000000
namespace Mine
local macro_rules | `(tactic| walk_at "pad 0") => `(tactic| fail)
local macro_rules | `(tactic| walk_at "pad 1") => `(tactic| fail)
local macro_rules | `(tactic| walk_at "pad 2") => `(tactic| fail)
local macro_rules | `(tactic| walk_at "pad 3") => `(tactic| fail)
local macro_rules | `(tactic| walk_at "pad 4") => `(tactic| fail)
local macro_rules | `(tactic| walk_at "pad 5") => `(tactic| fail)
local macro_rules | `(tactic| walk_at "pad 6") => `(tactic| fail)
local macro_rules | `(tactic| walk_at "pad 7") => `(tactic| fail)
theorem isL_up {h₀ h : Heap} {L a : Addr} {m : Str → Option Value} {vs : Array Value} (hl : h₀.IsList a vs) (F : Fr h₀ L h m) : h.IsList a vs := hl.at fun o e => F.keep _ _ e
theorem item_base {prog : Program} {w : World} {A : Around} {E : Value → Shared → Prop} {s : Shared} {h₀ : Heap} {L D : Addr} {m : Str → Option Value} {vs : List Value} {ks : List Int} {k : Int} {u : Tok} {value slice : Expr} {Q : Value → Shared → Prop} (F : Fr h₀ L s.heap m) (hl : h₀.IsList D vs.toArray) (hi : IntsAre vs ks) (h0 : 0 ≤ k) (h1 : k < vs.length) (h2 : vs.length ≤ 1000000)
    (h : ∀ t, Q (.int (ks.getD k.toNat 0) t) s)
    (hs : subscripted slice false (.ref D) (.int k u) = operate [.ref D, .int k u] (getItem (.ref D) (.int k u)) := by with_unfolding_all rfl) :
    wpAny (model prog w) A (subscriptTail value slice (.ref D) (.int k u)) Q E s := by
  obtain ⟨t, e⟩ := ints_get hi (i := k.toNat) (by omega)
  exact tail_any (isL_up hl F).typeIs slot_list_getitem.lookup (wpAny_getItem_list (isL_up hl F) h0 (by omega) (by simpa using e) (h t)) hs
theorem news_d0 {h₀ h : Heap} {L : Addr} {a b : Addr × Obj} {l : List (Addr × Obj)} (N : News h₀ L h (a :: b :: l)) : News h₀ L h (a :: l) := news_sub N fun q hq => by
  simp only [List.mem_cons] at hq ⊢; rcases hq with h | h <;> simp [h]
theorem four_bd (x : Int) : 0 ≤ ([0, 1, 254, (x.fdiv 12).fmod 255] : List Int).getD ((x.fdiv 3).fmod 4).toNat 0 ∧ ([0, 1, 254, (x.fdiv 12).fmod 255] : List Int).getD ((x.fdiv 3).fmod 4).toNat 0 ≤ 254 := by
  have a1 := fmod_lo (n := 255) (x.fdiv 12) (by decide)
  have a2 := fmod_hi (n := 255) (x.fdiv 12) (by decide)
  generalize ((x.fdiv 3).fmod 4).toNat = k
  rcases k with _ | _ | _ | _ | k <;> simp <;> omega
theorem pack_t {h₀ h : Heap} {L : Addr} {a1 a2 a3 i d : Addr × Obj} {l : List (Addr × Obj)} (_ : News h₀ L h (a1 :: a2 :: a3 :: i :: d :: l)) : ∃ nx, nx = d :: l ∧ ∀ q ∈ nx, q ∈ a1 :: a2 :: a3 :: i :: d :: l := ⟨_, rfl, fun q hq => by
  simp only [List.mem_cons] at hq ⊢; rcases hq with h | h <;> simp [h]⟩
theorem all_snoc {ths : List (Array UInt8)} {c : Array UInt8} (h : ∀ c ∈ ths, c.size ≤ 765) (hc : c.size ≤ 765) : ∀ d ∈ ths ++ [c], d.size ≤ 765 := fun d hd => by
  rcases List.mem_append.mp hd with hd | hd
  · exact h d hd
  · rw [List.mem_singleton.mp hd]; exact hc
theorem news_t {h₀ h : Heap} {L : Addr} {a b c : Addr × Obj} {l : List (Addr × Obj)} (N : News h₀ L h (a :: b :: c :: l)) : News h₀ L h (a :: l) := news_sub N fun q hq => by
  simp only [List.mem_cons] at hq ⊢; rcases hq with h | h <;> simp [h]
theorem mul_bytes3 {prog : Program} {w : World} {A : Around} {E : Value → Shared → Prop} {s : Shared} {x y z : UInt8} {n : Int} {t u : Tok} {Q : Value → Shared → Prop} (h0 : 0 ≤ n) (hn : n ≤ 1000) (h : ∀ (c : Array UInt8) t' k, c.size = 3 * n.toNat → Q (.bytes c t') { s with toks := k }) :
    wpAny (model prog w) A (binaryOp .Mult (.bytes #[x, y, z] t) (.int n u)) Q E s :=
  PySem.W.bytes_mul_any (b := [x, y, z]) (List.cons_ne_nil _ _) (by omega) (by omega) (by simp) fun t' k => h _ t' k (by simp; omega)
local macro_rules | `(tactic| k_room) => `(tactic| ktr_room)
local macro_rules | `(tactic| k_units) => `(tactic| ktr_units)
local macro_rules | `(tactic| k_mem) => `(tactic| first | exact List.Mem.head _ | (refine List.mem_cons_of_mem _ ?_; k_mem))
local macro_rules | `(tactic| lcg_src) => `(tactic| first | exact List.Mem.head _ | (refine List.mem_cons_of_mem _ ?_; lcg_src) | assumption)
local macro_rules | `(tactic| walk_at "call builtin:len") => `(tactic| (k_here; (with_reducible show wpAny _ _ (call (Value.builtin "len") [Value.ref _]) _ _ _); k_dflt (refine' kst_len ?k1 ?k2 rfl ?k4 ?_; (case k1 => k_asm); (case k2 => lcg_src); (case k4 => ((try simp only [List.length_append, List.length_cons, List.length_nil]); omega)))))
local macro_rules | `(tactic| walk_at "ite") => `(tactic| (k_here; first | (refine ite_pos (by first | omega | (simp only [decide_eq_true_eq, beq_iff_eq, bne_iff_ne, Bool.not_eq_true', beq_eq_false_iff_ne, ne_eq, List.length_append, List.length_cons, List.length_nil]; done) | (simp only [decide_eq_true_eq, beq_iff_eq, bne_iff_ne, Bool.not_eq_true', beq_eq_false_iff_ne, ne_eq, List.length_append, List.length_cons, List.length_nil]; omega)) ?_) | (refine ite_neg (by first | omega | (simp only [decide_eq_true_eq, beq_iff_eq, bne_iff_ne, Bool.not_eq_true', beq_eq_false_iff_ne, ne_eq, List.length_append, List.length_cons, List.length_nil]; done) | (simp only [decide_eq_true_eq, beq_iff_eq, bne_iff_ne, Bool.not_eq_true', beq_eq_false_iff_ne, ne_eq, List.length_append, List.length_cons, List.length_nil]; omega)) ?_)))
local macro_rules | `(tactic| walk_at "PostY") => `(tactic| (dsimp only [PostY]))
local macro_rules | `(tactic| walk_at "binaryOp Mult bytes int") => `(tactic| (k_here; refine mul_bytes3 (by decide) (by decide) ?_; intro c' t' k' hc'))

theorem things_ct (w : World) {p : Program} {loose : List Str} {mean : ExcName → Option Value} {mg mb : Str → Option Value}
  {dp un : Nat} {gd : Option (List Code)} {cn : Str} {cs : Scope} {a : Addr} {ccd : Value} {cl : List (Str × Addr)} {outer : List Env} {A₀ : Around} {base h₀ : Heap} {L : Addr} {m : Str → Option Value}
  {news : List (Addr × Obj)} {s : Shared} {sc : Addr} {sv : List Value} {ns : List Int} {Q E : Value → Shared → Prop}
  (B : Below A₀ base outer h₀) (F : Fr h₀ L s.heap m) (X : (hd07.heap_39 w.params).In h₀) (N : News h₀ L s.heap news) (T : Top p loose mean mg mb h₀)
  (hl : h₀.IsList sc sv.toArray) (hi : IntsAre sv ns) (hn : ns.length ≤ 63)
  (hk : cs.kind = .function) (hd : dp + 10 < recursionLimit) (hu : un + 60 < cLine)
  (ok : ∀ h' tk D vt ths jt, (∀ q ∈ news, q.1 < D) → BytesAre vt ths → 1 ≤ ths.length → ths.length ≤ 4 → (∀ c ∈ ths, c.size ≤ 765) → Fr h₀ L h' m → News h₀ L h' ((D, listOf vt.toArray jt) :: news) → Q (.ref D) { s with heap := h', toks := tk }) :
  wpAny (model Challenge.rw_dm0232_07.row.prog w) (ktrTop dp un gd cn cs L a ccd cl outer) (call (.ref 70) [.ref sc]) Q E s := by
  revert X; k_fill; intro X
  have hMk := kstMark
  have hvl := hi.length
  refine wpAny_call ?_
  k_dflt ktr_enter
  rename Fr h₀ L _ m => FG
  have hl2 := isL_up hl FG
  clear hl
  repeat' (first | (k_unfold; (try dsimp only)) | ((fail_if_success (with_reducible show wpAny _ _ (exec (Stmt.For _ _ _ _ _) _) _ _ _)); first | (k_end; wrow_close) | walk1 | (dsimp only; walk1) | (leave1; try dsimp only)))
  refine wpAny_For ?_
  repeat' (first | (k_unfold; (try dsimp only)) | ((fail_if_success (with_reducible show wpAny _ _ (pyIter _) _ _ _)); first | (k_end; wrow_close) | walk1 | (dsimp only; walk1) | (leave1; try dsimp only)))
  rename IsRange _ _ _ _ _ _ _ _ => rg
  rename Fr _ _ _ _ => FF
  rename News _ _ _ _ => NN
  rename Array.size _ = _ => hc0
  rename _ < _ ∧ AllLt _ news => hlt
  rename ∀ p ∈ news, _ < _ => hlt0
  trace_state
  obtain ⟨nk, hnk⟩ : ∃ nk : Nat, (if (ns.length : Int) < 2 then (ns.length : Int) else 2) = (nk : Int) := ⟨min ns.length 2, by split <;> omega⟩
  have hnk2 : nk ≤ 2 ∧ nk ≤ ns.length := by split at hnk <;> omega
  rw [hnk] at rg
  rename_i D _ _ _ _ _ _ _ _ _ u1 u2 u3 _
  have NN2 := news_d0 NN
  have hDn : ∀ q ∈ news, q.1 < D := fun q hq => Nat.lt_trans (hlt0 q hq) hlt.1
  k_dflt (refine iterG_range (n := nk) (fun i mm nx => ∃ vt ths jt, nx = (D, listOf vt.toArray jt) :: news ∧ BytesAre vt ths ∧ ths.length = i + 1 ∧ (∀ c ∈ ths, c.size ≤ 765) ∧ mm (Str.ofString "script") = some (.ref sc) ∧ mm (Str.ofString "things") = some (.ref D)) rfl rg (small_one (by omega) (by omega) (by omega) (by omega)) (by rw [rangeSize_nat]; omega) FF NN2 ⟨[_], [_], 0, rfl, .cons _ _ .nil, rfl, by intro c hc; rw [List.mem_singleton.mp hc, hc0]; decide, rfl, rfl⟩ (by passes_own) ?turn ?done)
  case done =>
    rintro m9 nx9 h9 tk9 ⟨vt, ths, jt, rfl, hvt, htl, hts, hs, ht⟩ F9 N9
    have F10 := fr_names F9 [(Str.ofString "script", .ref sc), (Str.ofString "things", .ref D)] (by
      intro q9 hq9; simp only [List.mem_cons, List.not_mem_nil, or_false] at hq9; rcases hq9 with rfl | rfl <;> assumption)
    clear F9 FF NN NN2 rg hs ht
    have hvl2 := hvt.length
    dsimp only
    repeat' (first | (k_unfold; (try dsimp only)) | ((fail_if_success (with_reducible show wpAny _ _ (binaryOp Operator.Add (Value.ref _) (Value.ref _)) _ _ _)); first | (k_end; wrow_close) | walk1 | (dsimp only; walk1) | (leave1; try dsimp only)))
    rename Fr _ _ _ _ => FF
    rename News _ _ _ _ => NN
    refine kmk_add_lit FF NN (isList_at NN (by lcg_src)) (isList_at (xs := [_]) NN (by lcg_src)) rfl ?_ (by simp only [sizeLine_eq]; show vt.length + 1 ≤ _; omega)
    clear FF NN
    intro D2 h5 F5 N5 l5
    k_steps
    rename News h₀ L _ _ => NN
    rename Fr h₀ L _ m => FF
    exact ok _ _ D2 (vt ++ [Value.bytes #[97] tk9]) (ths ++ [#[97]]) 0 (fun q hq => l5 q (.tail _ (.tail _ hq))) (hvt.snoc _ _) (by rw [List.length_append, List.length_singleton]; omega) (by rw [List.length_append, List.length_singleton]; omega) (all_snoc hts (by decide)) FF (news_t NN)
  case turn =>
    rintro I i t9 m9 nx9 h9 tk9 oI hoT hi9 hne ⟨vt, ths, jt, rfl, hvt, htl, hts, hs, ht⟩ F9 N9
    simp only [List.forall_mem_cons] at hne
    obtain ⟨n1, hnR⟩ := hne
    have F10 := fr_names F9 [(Str.ofString "script", .ref sc), (Str.ofString "things", .ref D)] (by
      intro q9 hq9; simp only [List.mem_cons, List.not_mem_nil, or_false] at hq9; rcases hq9 with rfl | rfl <;> assumption)
    clear F9 FF NN NN2 rg hs ht
    have hvl2 := hvt.length
    obtain ⟨x, hx⟩ : ∃ x, x = ns.getD i 0 := ⟨_, rfl⟩
    rw [show (0 : Int) + (i : Nat) * 1 = ((i : Nat) : Int) by omega]
    repeat' (first | (k_unfold; (try dsimp only)) | ((fail_if_success (with_reducible show wpAny _ _ (subscriptTail _ _ _ _) _ _ _)); first | (k_end; wrow_close) | walk1 | (dsimp only; walk1) | (leave1; try dsimp only)))
    rename Fr _ _ _ _ => FF
    refine item_base FF hl2 hi (by omega) (by omega) (by omega) ?_
    intro tX
    rw [Int.toNat_natCast, ← hx]
    clear hx
    have hi2 : i = 0 ∨ i = 1 := by omega
    rcases hi2 with rfl | rfl
    · repeat' (first | (k_unfold; (try dsimp only)) | ((fail_if_success (with_reducible show wpAny _ _ (execs (Stmt.Expr _ _ :: _) _) _ _ _)); first | (k_end; wrow_close) | walk1 | (dsimp only; walk1) | (leave1; try dsimp only)))
      rename Fr _ _ _ _ => FF
      rename News _ _ _ _ => NN
      have hv4 := four_bd x
      have hm1 := fmod_lo (n := 3) x (by decide)
      have hm2 := fmod_hi (n := 3) x (by decide)
      obtain ⟨sz, hsz⟩ : ∃ sz : Nat, 255 * x.fmod 3 + [0, 1, 254, (x.fdiv 12).fmod 255].getD ((x.fdiv 3).fmod 4).toNat 0 = (sz : Int) := ⟨_, (Int.toNat_of_nonneg (by omega)).symm⟩
      have hsz2 : sz ≤ 764 := by omega
      rw [hsz] at FF
      clear hsz hv4 hm1 hm2
      repeat' (first | (k_unfold; (try dsimp only)) | ((fail_if_success (with_reducible show wpAny _ _ (binaryOp Operator.Mult (Value.bytes _ _) _) _ _ _)); first | (k_end; wrow_close) | walk1 | (dsimp only; walk1) | (leave1; try dsimp only)))
      refine mul_bytes3 (by decide) (by decide) ?_
      intro c5 t5 k5 hc5
      obtain ⟨kb, hkb⟩ : ∃ ks, KBw.bInts c5 = ks := ⟨_, rfl⟩
      have hkbl : kb.length = c5.size := by rw [← hkb]; exact KBw.ints_length c5
      k_steps
      rename Fr _ _ _ _ => FF
      rename News _ _ _ _ => NN
      (try simp only [List.push_toArray] at NN)
      rename KBw.bInts (KBy.picked c5 _ _) = _ => hpk
      have hps : (KBy.picked c5 none (some (sz : Int))).size ≤ 765 := by
        rw [← KBw.ints_length, hpk, List.length_take]; omega
      obtain ⟨nx, hnx, hsub⟩ := pack_t NN
      exact EndY.intro FF NN (nx := nx) ⟨_, ths ++ [_], _, hnx, hvt.snoc _ _, by rw [List.length_append, htl]; rfl, all_snoc hts hps, rfl, rfl⟩ hsub (by lcg_src) (by rw [hnx]; simp only [List.forall_mem_cons]; exact ⟨n1, hnR⟩)
    · repeat' (first | (k_unfold; (try dsimp only)) | ((fail_if_success (with_reducible show wpAny _ _ (execs (Stmt.Expr _ _ :: _) _) _ _ _)); first | (k_end; wrow_close) | walk1 | (dsimp only; walk1) | (leave1; try dsimp only)))
      rename Fr _ _ _ _ => FF
      rename News _ _ _ _ => NN
      have hv4 := four_bd x
      have hm1 := fmod_lo (n := 1) x (by decide)
      have hm2 := fmod_hi (n := 1) x (by decide)
      obtain ⟨sz, hsz⟩ : ∃ sz : Nat, 255 * x.fmod 1 + [0, 1, 254, (x.fdiv 12).fmod 255].getD ((x.fdiv 3).fmod 4).toNat 0 = (sz : Int) := ⟨_, (Int.toNat_of_nonneg (by omega)).symm⟩
      have hsz2 : sz ≤ 764 := by omega
      rw [hsz] at FF
      clear hsz hv4 hm1 hm2
      repeat' (first | (k_unfold; (try dsimp only)) | ((fail_if_success (with_reducible show wpAny _ _ (binaryOp Operator.Mult (Value.bytes _ _) _) _ _ _)); first | (k_end; wrow_close) | walk1 | (dsimp only; walk1) | (leave1; try dsimp only)))
      refine mul_bytes3 (by decide) (by decide) ?_
      intro c5 t5 k5 hc5
      obtain ⟨kb, hkb⟩ : ∃ ks, KBw.bInts c5 = ks := ⟨_, rfl⟩
      have hkbl : kb.length = c5.size := by rw [← hkb]; exact KBw.ints_length c5
      k_steps
      rename Fr _ _ _ _ => FF
      rename News _ _ _ _ => NN
      (try simp only [List.push_toArray] at NN)
      rename KBw.bInts (KBy.picked c5 _ _) = _ => hpk
      have hps : (KBy.picked c5 none (some (sz : Int))).size ≤ 765 := by
        rw [← KBw.ints_length, hpk, List.length_take]; omega
      obtain ⟨nx, hnx, hsub⟩ := pack_t NN
      exact EndY.intro FF NN (nx := nx) ⟨_, ths ++ [_], _, hnx, hvt.snoc _ _, by rw [List.length_append, htl]; rfl, all_snoc hts hps, rfl, rfl⟩ hsub (by lcg_src) (by rw [hnx]; simp only [List.forall_mem_cons]; exact ⟨n1, hnR⟩)
end Mine
end
section
open PySem PySem.W PyProof.Rows PySem.Calls PySem.Spec
set_option Elab.async false
set_option maxRecDepth 100000
set_option maxHeartbeats 8000000
namespace Mine
local macro_rules | `(tactic| k_room) => `(tactic| ktr_room)
local macro_rules | `(tactic| k_units) => `(tactic| ktr_units)
local macro_rules | `(tactic| k_mem) => `(tactic| first | exact List.Mem.head _ | (refine List.mem_cons_of_mem _ ?_; k_mem))
local macro_rules | `(tactic| lcg_src) => `(tactic| first | exact List.Mem.head _ | (refine List.mem_cons_of_mem _ ?_; lcg_src) | assumption)
local macro_rules | `(tactic| walk_at "call builtin:len") => `(tactic| (k_here; (with_reducible show wpAny _ _ (call (Value.builtin "len") [Value.ref _]) _ _ _); k_dflt (refine' kst_len ?k1 ?k2 rfl ?k4 ?_; (case k1 => k_asm); (case k2 => lcg_src); (case k4 => ((try simp only [List.length_append, List.length_cons, List.length_nil]); omega)))))
local macro_rules | `(tactic| walk_at "ite") => `(tactic| (k_here; first | (refine ite_pos (by first | omega | (simp only [decide_eq_true_eq, beq_iff_eq, bne_iff_ne, Bool.not_eq_true', beq_eq_false_iff_ne, ne_eq, List.length_append, List.length_cons, List.length_nil]; done) | (simp only [decide_eq_true_eq, beq_iff_eq, bne_iff_ne, Bool.not_eq_true', beq_eq_false_iff_ne, ne_eq, List.length_append, List.length_cons, List.length_nil]; omega)) ?_) | (refine ite_neg (by first | omega | (simp only [decide_eq_true_eq, beq_iff_eq, bne_iff_ne, Bool.not_eq_true', beq_eq_false_iff_ne, ne_eq, List.length_append, List.length_cons, List.length_nil]; done) | (simp only [decide_eq_true_eq, beq_iff_eq, bne_iff_ne, Bool.not_eq_true', beq_eq_false_iff_ne, ne_eq, List.length_append, List.length_cons, List.length_nil]; omega)) ?_)))
local macro_rules | `(tactic| walk_at "call type:type") => `(tactic| ((with_reducible show wpAny _ _ (call _ [Value.bytes _ _]) _ _ _); refine call_type_of (Tx := "bytes") rfl (by decide +kernel) ?_))
local macro_rules | `(tactic| walk_at "call type:bytes") => `(tactic| (k_here; (with_reducible show wpAny _ _ (call (Value.type "bytes") [Value.ref _]) _ _ _); k_dflt (refine' make_bytes ?F ?N ?h ?l ?i ?z ?_; (case F => k_asm); (case N => k_asm); (case h => rfl); (case l => k_mem); (case i => assumption); (case z => ((try rw [cutB_size]); omega))); intro h' t' k' F' N'; (try k_sweep)))
local macro_rules | `(tactic| walk_at "compareOp NotEq bytes bytes") => `(tactic| (k_here; refine ne_bytes_same (by first | rfl | assumption | exact Eq.symm (by assumption)) ?_))
local macro_rules | `(tactic| walk_at "compareOp Eq bytes bytes") => `(tactic| (k_here; refine eq_bytes_same (by first | rfl | assumption | exact Eq.symm (by assumption)) ?_))
local macro_rules | `(tactic| walk_at "compareOp NotEq str str") => `(tactic| (k_here; refine ne_str_same (by first | rfl | assumption | exact Eq.symm (by assumption)) ?_))
local macro_rules | `(tactic| walk_at "PostX") => `(tactic| (dsimp only [PostX]))
local macro_rules | `(tactic| walk_at "PostY") => `(tactic| (dsimp only [PostY]))
local macro_rules | `(tactic| lcg_src) => `(tactic| first | exact List.Mem.head _ | (refine List.mem_cons_of_mem _ ?_; lcg_src) | assumption)
local macro_rules | `(tactic| ked_reads) => `(tactic| first | exact SameL.nil | (refine SameL.cons ?_ ?_; (ked_read); (ked_reads)) | exact SameL.ints (by assumption) (by assumption) | exact SameL.strs (by assumption) (by assumption) | exact SameL.bytes (by assumption) (by assumption))
local macro_rules | `(tactic| ked_read) => `(tactic| first | exact Same.int _ _ _ | exact Same.str _ _ _ | exact Same.bytes _ _ _ | exact Same.rfl _ | (refine same_list (by k_asm) (by lcg_src) (by lcg_src) ?_; ked_reads) | (refine same_tup (by k_asm) (by lcg_src) (by lcg_src) ?_; ked_reads))
local macro_rules | `(tactic| walk_at "compareOp NotEq ref ref") => `(tactic| (k_here; k_dflt (first | (refine' ne_listL ?N ?a ?b ?e ?u ?_; (case N => k_asm); (case a => lcg_src); (case b => lcg_src); (case e => ked_reads); (case u => ktr_units)) | (refine' ne_tupL ?N ?a ?b ?e ?u ?_; (case N => k_asm); (case a => lcg_src); (case b => lcg_src); (case e => ked_reads); (case u => ktr_units)))))
local macro_rules | `(tactic| walk_at "compareOp Eq ref ref") => `(tactic| (k_here; k_dflt (first | (refine' eq_listL ?N ?a ?b ?e ?u ?_; (case N => k_asm); (case a => lcg_src); (case b => lcg_src); (case e => ked_reads); (case u => ktr_units)) | (refine' eq_tupL ?N ?a ?b ?e ?u ?_; (case N => k_asm); (case a => lcg_src); (case b => lcg_src); (case e => ked_reads); (case u => ktr_units)))))
local macro_rules | `(tactic| walk_at "compareOp NotEq ref ref") => `(tactic| (k_here; k_dflt (first | (refine' ne_tupL ?N ?a ?b ?e ?u ?_; (case N => k_asm); (case a => lcg_src); (case b => lcg_src); (case e => ked_reads); (case u => ktr_units)) | (refine' ne_listL ?N ?a ?b ?e ?u ?_; (case N => k_asm); (case a => lcg_src); (case b => lcg_src); (case e => ked_reads); (case u => ktr_units)))))
local macro_rules | `(tactic| walk_at "compareOp Eq ref ref") => `(tactic| (k_here; k_dflt (first | (refine' eq_tupL ?N ?a ?b ?e ?u ?_; (case N => k_asm); (case a => lcg_src); (case b => lcg_src); (case e => ked_reads); (case u => ktr_units)) | (refine' eq_listL ?N ?a ?b ?e ?u ?_; (case N => k_asm); (case a => lcg_src); (case b => lcg_src); (case e => ked_reads); (case u => ktr_units)))))
local macro_rules | `(tactic| walk_at "callWith ref") => `(tactic| (k_here; (rename Strm _ _ _ _ _ _ _ _ _ _ _ _ _ _ _ _ => sS); k_dflt (refine' callWith_F ?k1 ?_; (case k1 => exact FnAt.of (by k_asm) (by k_mem)); k_whole)))
local macro_rules | `(tactic| walk_at "call ref") => `(tactic| (k_here; (rename Strm _ _ _ _ _ _ _ _ _ _ _ _ _ _ _ _ => sS); (with_reducible show wpAny _ _ (call (Value.ref _) [Value.int _ _]) _ _ _); k_dflt (first | (refine' strm_read 1 rfl sS ?B ?F ?X ?N ?T ?hk ?hd ?hu ?hI ?U ?hq ?hb ?hn ?_; (case F => k_asm); (case N => k_asm); (case B => k_asm); (case X => k_asm); (case T => k_asm); (case hk => first | rfl | assumption); (case hd => ktr_room); (case hu => ktr_units); (case hI => (repeat (first | assumption | refine Sub.cons ?_))); (case U => k_updF); (case hq => omega); (case hb => omega); (case hn => decide)) | (refine' strm_read _ rfl sS ?B ?F ?X ?N ?T ?hk ?hd ?hu ?hI ?U ?hq ?hb ?hn ?_; (case F => k_asm); (case N => k_asm); (case B => k_asm); (case X => k_asm); (case T => k_asm); (case hk => first | rfl | assumption); (case hd => ktr_room); (case hu => ktr_units); (case hI => (repeat (first | assumption | refine Sub.cons ?_))); (case U => k_updF); (case hq => omega); (case hb => omega); (case hn => omega))); intro h' tk' t1 t2 F' N'; (try dsimp only)))
local macro_rules | `(tactic| walk_at "exec Raise some none") => `(tactic| (k_here; (with_reducible show wpAny _ _ (exec (Stmt.Raise (some (Expr.Call (Expr.Name ("ValueError" : Str) _) (_ :: _) [] _)) none _) _) _ _ _); (with_reducible rename Fr _ _ _ _ => kF); k_dflt (refine' Raise_madeB PySem.F.excCall_ValueError PySem.F.excRaise_ValueError ?hh (name_B kF ?k1 ?k2 ?k3 PyProof.Rows.Boot.«ValueError» ?k5 ⟨rfl, ?_⟩) ?a ?b; (case hh => rfl); (case a => rfl); (case b => rfl); (case k1 => k_asm); (case k2 => k_asm); (case k3 => k_is); (case k5 => decide))))
local macro_rules | `(tactic| walk_at "ite") => `(tactic| (k_here; first | (refine ite_pos (by first | omega | (simp only [decide_eq_true_eq, beq_iff_eq]; omega)) ?_) | (refine ite_neg (by first | omega | (simp only [decide_eq_true_eq, beq_iff_eq]; omega)) ?_)))
local macro_rules | `(tactic| walk_at "binaryOp Mod str ref") => `(tactic| (k_here; k_dflt (first | ((with_reducible show wpAny _ _ (binaryOp _ (Value.str (Str.ofString "expected %d bytes in a bytes1, but only %d remain") _) _) _ _ _); refine' modB ?N ?b ?a1 ?a2 ?a3 ?a4 ?_; (case N => k_asm); (case b => k_mem); (case a1 => omega); (case a2 => omega); (case a3 => omega); (case a4 => omega)) | ((with_reducible show wpAny _ _ (binaryOp _ (Value.str (Str.ofString "expected %d bytes in a string1, but only %d remain") _) _) _ _ _); refine' modS ?N ?b ?a1 ?a2 ?a3 ?a4 ?_; (case N => k_asm); (case b => k_mem); (case a1 => omega); (case a2 => omega); (case a3 => omega); (case a4 => omega))); intro _ _))
local macro_rules | `(tactic| walk_at "call ref") => `(tactic| (k_here; (rename Strm _ _ _ _ _ _ _ _ _ _ _ _ _ _ _ _ => sS); (with_reducible show wpAny _ _ (call (Value.ref 35) [Value.ref _]) _ _ _); k_dflt (refine' rb1_ct _ ?B ?F ?X ?N ?T sS ?hI ?U ?hk ?hd ?hu ?hq ?hb (fun h' tk' t1 t2 hlt' hle' F' N' => ?_) (fun g' e' t' u' h' tk' t1 heq' F' R' U' => ?_) (fun g' e' t' u' h' tk' t1 heq' hlt' F' R' U' => ?_); (case F => k_asm); (case N => k_asm); (case B => k_asm); (case X => k_asm); (case T => k_asm); (case hk => first | rfl | assumption); (case hd => ktr_room); (case hu => ktr_units); (case hI => (repeat (first | assumption | refine Sub.cons ?_))); (case U => k_updF); (case hq => omega); (case hb => omega)); (all_goals (first | (exfalso; omega) | (try dsimp only)))))
local macro_rules | `(tactic| walk_at "binaryOp Add bytes bytes") => `(tactic| (k_here; (with_reducible show wpAny _ _ (binaryOp Operator.Add (Value.bytes _ _) (Value.bytes _ _)) _ _ _); (refine KBy.add_bytes (by simp only [Array.size_append, List.size_toArray, List.length_cons, List.length_nil]; omega) ?_); intro _ _))
local macro_rules | `(tactic| walk_at "call builtin:ord") => `(tactic| (k_here; refine P.ord_of_char ?_))
local macro_rules | `(tactic| walk_at "getMethod bytes") => `(tactic| (k_here; (refine method_join ?_)))
local macro_rules | `(tactic| walk_at "subscriptTail") => `(tactic| (k_here; (with_reducible show wpAny _ _ (subscriptTail _ _ (Value.ref _) (Value.int (-1) _)) _ _ _); k_dflt (refine' last_at ?N ?m ?_ ?hs; (case N => k_asm); (case m => lcg_src); (case hs => with_unfolding_all rfl))))
local macro_rules | `(tactic| walk_at "binaryOp Mod str ref") => `(tactic| (k_here; k_dflt (first | ((with_reducible show wpAny _ _ (binaryOp _ (Value.str (Str.ofString "expected %d bytes in a bytes1, but only %d remain") _) _) _ _ _); refine' modB ?N ?b ?a1 ?a2 ?a3 ?a4 ?_; (case N => k_asm); (case b => k_mem); (case a1 => omega); (case a2 => omega); (case a3 => omega); (case a4 => omega)) | ((with_reducible show wpAny _ _ (binaryOp _ (Value.str (Str.ofString "expected %d bytes in a string1, but only %d remain") _) _) _ _ _); refine' modS ?N ?b ?a1 ?a2 ?a3 ?a4 ?_; (case N => k_asm); (case b => k_mem); (case a1 => omega); (case a2 => omega); (case a3 => omega); (case a4 => omega))); intro _ _))
local macro_rules | `(tactic| walk_at "subscriptTail") => `(tactic| (k_here; (with_reducible show wpAny _ _ (subscriptTail _ _ (Value.ref _) (Value.int _ _)) _ _ _); k_dflt (refine' item_at ?N ?m ?hi ?h0 ?h1 ?h2 ?_ ?hs; (case N => k_asm); (case m => lcg_src); (case hi => assumption); (case h0 => first | assumption | omega); (case h1 => first | assumption | omega); (case h2 => omega); (case hs => with_unfolding_all rfl)); intro t'))

theorem size_255 {z : Nat} : Builtin.Range.rangeSize 0 ((z : Int) + 1) 255 = ((z / 255 + 1 : Nat) : Int) := by
  unfold Builtin.Range.rangeSize
  simp only [show ((255 : Int) > 0) by decide, if_true]
  split <;> omega
theorem fits_long {i : Int} (h1 : -1000000 ≤ i) (h2 : i ≤ 1000000) : Builtin.Range.rangeFitsLong i = true := by
  unfold Builtin.Range.rangeFitsLong
  simp only [Bool.and_eq_true, decide_eq_true_eq]; omega
theorem small_255 {z : Nat} (hm : z ≤ 100000) : Builtin.Range.small 0 ((z : Int) + 1) 255 = true := by
  unfold Builtin.Range.small
  rw [size_255, fits_long (by omega) (by omega), fits_long (by omega) (by omega), fits_long (by omega) (by omega), if_pos (by decide), fits_long (by omega) (by omega), fits_long (by omega) (by omega), Bool.or_true]; rfl
theorem sc_name {h : Heap} {a : Addr} {vs : Array Value} (hl : h.IsList a vs) : ∃ b, b = a ∧ h.IsList b vs := ⟨a, rfl, hl⟩
theorem news_p1 {h₀ h : Heap} {L : Addr} {a p e s c : Addr × Obj} {l : List (Addr × Obj)} (N : News h₀ L h (a :: s :: e :: p :: c :: l)) : News h₀ L h (p :: e :: s :: a :: c :: l) := news_sub N fun q hq => by
  simp only [List.mem_cons] at hq ⊢; rcases hq with h | h | h | h | h | h <;> simp [h]
theorem pack_2 {h₀ h : Heap} {L : Addr} {a b : Addr × Obj} {l : List (Addr × Obj)} (_ : News h₀ L h (a :: b :: l)) : ∃ nx, nx = l ∧ ∀ q ∈ nx, q ∈ a :: b :: l := ⟨_, rfl, fun q hq => .tail _ (.tail _ hq)⟩
theorem pack_1 {h₀ h : Heap} {L : Addr} {a : Addr × Obj} {l : List (Addr × Obj)} (_ : News h₀ L h (a :: l)) : ∃ nx, nx = l ∧ ∀ q ∈ nx, q ∈ a :: l := ⟨_, rfl, fun q hq => .tail _ hq⟩
theorem bytes_get {vs : List Value} {cs : List (Array UInt8)} (h : BytesAre vs cs) : ∀ {i : Nat} {c : Array UInt8}, cs[i]? = some c → ∃ t, vs[i]? = some (.bytes c t) := by
  induction h with
  | nil => intro i c hc; simp at hc
  | cons b t _ ih =>
    intro i c hc
    cases i with
    | zero => simp at hc; subst hc; exact ⟨t, rfl⟩
    | succ i => obtain ⟨t', e⟩ := ih (i := i) (c := c) (by simpa using hc); exact ⟨t', by simpa using e⟩
theorem item_v {prog : Program} {w : World} {A : Around} {E : Value → Shared → Prop} {s : Shared} {h₀ : Heap} {L D : Addr} {news : List (Addr × Obj)} {vs : List Value} {v : Value} {n i : Nat} {k : Int} {u : Tok} {value slice : Expr} {Q : Value → Shared → Prop}
    (N : News h₀ L s.heap news) (hm : (D, listOf vs.toArray n) ∈ news) (hk : k = (i : Int)) (hv : vs[i]? = some v) (hz : vs.length ≤ 1000000) (h : Q v s)
    (hs : subscripted slice false (.ref D) (.int k u) = operate [.ref D, .int k u] (getItem (.ref D) (.int k u)) := by with_unfolding_all rfl) :
    wpAny (model prog w) A (subscriptTail value slice (.ref D) (.int k u)) Q E s := by
  have hi : i < vs.length := by rw [List.getElem?_eq_some_iff] at hv; exact hv.1
  exact tail_any (isList_at N hm).typeIs slot_list_getitem.lookup (wpAny_getItem_list (isList_at N hm) (by omega) (by omega) (by rw [hk]; simpa using hv) h) hs
theorem its_bytes {vs : List Value} {xs : List (Array UInt8)} (h : ItsAre vs (tag false xs)) : BytesAre vs xs := by
  induction xs generalizing vs with
  | nil => cases h; exact .nil
  | cons x xs ih => cases h with | byt _ t r => exact .cons x t (ih r)
theorem its_strs' {vs : List Value} {xs : List (Array UInt8)} (h : ItsAre vs (tag true xs)) : StrsAre vs (xs.map latin) := by
  induction xs generalizing vs with
  | nil => cases h; exact .nil
  | cons x xs ih => cases h with | str _ t r => exact .cons (latin x) t (ih r)
theorem strs_at {vs : List Value} {cs : List (Array UInt8)} (h : StrsAre vs (cs.map latin)) (hz : ∀ c ∈ cs, c.size ≤ 255) {i : Nat} {v : Value} (hv : vs.toArray[i]? = some v) : ∃ c t, v = .str (latin c) t ∧ cs[i]? = some c ∧ c.size ≤ 255 := by
  induction cs generalizing vs i with
  | nil => cases h; simp at hv
  | cons c cs ih =>
    cases h with
    | cons _ t r =>
      cases i with
      | zero => simp at hv; subst hv; exact ⟨c, t, rfl, rfl, hz c (.head _)⟩
      | succ i =>
        obtain ⟨c', t', e1, e2, e3⟩ := ih r (fun d hd => hz d (.tail _ hd)) (i := i) (by simpa using hv)
        exact ⟨c', t', e1, by simpa using e2, e3⟩
theorem off3_lt {I C D A : Addr} {o1 o2 o3 o : Obj} {X : List (Addr × Obj)} (hl : ∀ p ∈ (I, o1) :: (C, o2) :: (D, o3) :: X, p.1 < A) (h3 : LCg.Off3 I C D X) : LCg.Off3 I C D ((A, o) :: X) :=
  ⟨⟨Nat.ne_of_gt (hl (I, o1) (.head _)), Nat.ne_of_gt (hl (C, o2) (.tail _ (.head _))), Nat.ne_of_gt (hl (D, o3) (.tail _ (.tail _ (.head _))))⟩, h3⟩
-- LAWHERE
theorem law07 : PySem.Challenge.rw_dm0232_07.Holds := hd07 (by
  k_go0
  have hMk := kstMark
  rename World => w
  rename List Int => ns
  rename Shared => s1
  have hns : ns.length ≤ 63 := by omega
  rename Frag.In _ (ghostOf _ _) => X0
  rename Top topProg _ _ _ _ (ghostOf _ _) => T0
  rename Below _ _ _ _ => B0
  rename IntsAre _ ns => hIns
  rename Heap.IsList (ghostOf _ _) _ _ => hscl
  obtain ⟨sc, hscE, hsc⟩ := sc_name hscl
  subst hscE
  clear hscl
  repeat' (first | (k_unfold; (try dsimp only)) | ((fail_if_success (with_reducible show wpAny _ _ (call (Value.ref 70) _) _ _ _)); first | (k_end; wrow_close) | walk1 | (dsimp only; walk1) | (leave1; try dsimp only)))
  rename Fr _ _ _ _ => F1
  rename News _ _ _ _ => N1
  rename _ = Data.cell _ => dS
  rename Obj => oS
  obtain ⟨C, hC⟩ : ∃ C, C = s1.heap.objs.size + 1 := ⟨_, rfl⟩
  rw [← hC] at N1
  rename_i Dp _ _ _ _ De _ _ _ _ Ds _ _ _
  k_dflt (refine things_ct w B0 F1 X0 N1 T0 hsc hIns hns rfl ?_ ?_ ?_)
  · ktr_room
  · ktr_units
  intro h2 tk2 Dt vt ths jt hlt hvt hl1 hl4 hths F2 N2
  have hvtl := hvt.length
  simp only [List.forall_mem_cons] at hlt
  obtain ⟨lt1, lt2, lt3, lt4, lt5, -⟩ := hlt
  replace lt1 : @LT.lt Nat _ Ds Dt := lt1
  replace lt2 : @LT.lt Nat _ De Dt := lt2
  replace lt3 : @LT.lt Nat _ Dp Dt := lt3
  replace lt4 : @LT.lt Nat _ C Dt := lt4
  replace lt5 : @LT.lt Nat _ 58 Dt := lt5
  clear F1 N1
  repeat' (first | (k_unfold; (try dsimp only)) | ((fail_if_success (with_reducible show wpAny _ _ (exec (Stmt.For _ _ _ _ _) _) _ _ _)); first | (k_end; wrow_close) | walk1 | (dsimp only; walk1) | (leave1; try dsimp only)))
  refine wpAny_For ?_
  repeat' (first | (k_unfold; (try dsimp only)) | ((fail_if_success (with_reducible show wpAny _ _ (pyIter _) _ _ _)); first | (k_end; wrow_close) | walk1 | (dsimp only; walk1) | (leave1; try dsimp only)))
  rename Fr _ _ _ _ => FF
  rename News _ _ _ _ => NN
  k_dflt (refine iterG_list (vs := vt) (jv := jt) (fun i mm nx => ∃ pv jp ev je sv js b tb es, nx = [(Dp, listOf pv.toArray jp), (De, listOf ev.toArray je), (Ds, listOf sv.toArray js), (Dt, listOf vt.toArray jt), (C, oS), (58, tabObj #[])] ∧ BytesAre pv (allP (ths.take i)) ∧ Lay (allP (ths.take i)) b es ∧ IntsAre ev es ∧ IntsAre sv (stopsL ths i) ∧ mm (Str.ofString "octets") = some (.bytes b tb) ∧ mm (Str.ofString "pieces") = some (.ref Dp) ∧ mm (Str.ofString "ends") = some (.ref De) ∧ mm (Str.ofString "stops") = some (.ref Ds) ∧ mm (Str.ofString "things") = some (.ref Dt) ∧ (∃ tp, mm (Str.ofString "plain") = some (.str msg0 tp)) ∧ mm (Str.ofString "script") = some (.ref sc)) rfl (by rintro i m nx ⟨pv, jp, ev, je, sv, js, b, tb, es, rfl, -⟩; lcg_src) FF (news_p1 NN) ⟨[], _, _, _, [], _, #[], _, _, rfl, .nil, .nil, .cons _ _ .nil, .nil, rfl, rfl, rfl, rfl, rfl, ⟨_, rfl⟩, rfl⟩ (by passes_own) ?turn1 ?done1)
  case turn1 =>
    rintro I i v m9 nx9 h9 tk9 oI hoT hi9 hv hne ⟨pv, jp, ev, je, sv, js, b, tb, es, rfl, hpv, hlay, hev, hsv, hoc, hpi, hen, hst, hth, ⟨tp, hpl⟩, hsc0⟩ F9 N9
    simp only [List.forall_mem_cons] at hne
    obtain ⟨n1, n2, n3, n4, n5, n6, -⟩ := hne
    obtain ⟨th, tt, rfl, hth1, hth2⟩ := bytes_at hvt (by simpa using hv)
    have F10 := fr_names F9 [(Str.ofString "octets", .bytes b tb), (Str.ofString "pieces", .ref Dp), (Str.ofString "ends", .ref De), (Str.ofString "stops", .ref Ds), (Str.ofString "things", .ref Dt), (Str.ofString "plain", .str msg0 tp), (Str.ofString "script", .ref sc)] (by intro q9 hq9; simp only [List.mem_cons, List.not_mem_nil, or_false] at hq9; rcases hq9 with rfl | rfl | rfl | rfl | rfl | rfl | rfl <;> assumption)
    clear F9 FF NN hoc hpi hen hst hth hpl hsc0
    have htz := hths th (List.mem_of_getElem? hth1)
    repeat' (first | (k_unfold; (try dsimp only)) | ((fail_if_success (with_reducible show wpAny _ _ (exec (Stmt.For _ _ _ _ _) _) _ _ _)); first | (k_end; wrow_close) | walk1 | (dsimp only; walk1) | (leave1; try dsimp only)))
    refine wpAny_For ?_
    repeat' (first | (k_unfold; (try dsimp only)) | ((fail_if_success (with_reducible show wpAny _ _ (pyIter _) _ _ _)); first | (k_end; wrow_close) | walk1 | (dsimp only; walk1) | (leave1; try dsimp only)))
    rename IsRange _ _ _ _ _ _ _ _ => rg
    rename Fr _ _ _ _ => FF
    rename News _ _ _ _ => NN
    k_dflt (refine iterG_range (n := th.size / 255 + 1) (fun j mm nx => ∃ pv jp ev je b tb es, nx = [(I, oI), (Dp, listOf pv.toArray jp), (De, listOf ev.toArray je), (Ds, listOf sv.toArray js), (Dt, listOf vt.toArray jt), (C, oS), (58, tabObj #[])] ∧ BytesAre pv (allP (ths.take i) ++ pcsN th j) ∧ Lay (allP (ths.take i) ++ pcsN th j) b es ∧ IntsAre ev es ∧ mm (Str.ofString "octets") = some (.bytes b tb) ∧ mm (Str.ofString "pieces") = some (.ref Dp) ∧ mm (Str.ofString "ends") = some (.ref De) ∧ mm (Str.ofString "stops") = some (.ref Ds) ∧ mm (Str.ofString "things") = some (.ref Dt) ∧ (∃ tp, mm (Str.ofString "plain") = some (.str msg0 tp)) ∧ mm (Str.ofString "script") = some (.ref sc) ∧ mm (Str.ofString "thing") = some (.bytes th tt)) rfl rg (small_255 (by omega)) size_255 FF NN ⟨pv, jp, ev, je, b, tb, es, rfl, by rw [show pcsN th 0 = [] from rfl, List.append_nil]; exact hpv, by rw [show pcsN th 0 = [] from rfl, List.append_nil]; exact hlay, hev, rfl, rfl, rfl, rfl, rfl, ⟨_, rfl⟩, rfl, rfl⟩ (by passes_own) ?turn2 ?done2)
    case turn2 =>
      rintro I2 i2 t9 m9 nx9 h9 tk9 oI2 hoT2 hi2 hne ⟨pv, jp, ev, je, b, tb, es, rfl, hpv, hlay, hev, hoc, hpi, hen, hst, hth, ⟨tp, hpl⟩, hsc0, htn⟩ F9 N9
      simp only [List.forall_mem_cons] at hne
      obtain ⟨p1, p2, p3, p4, p5, p6, p7, -⟩ := hne
      have F10 := fr_names F9 [(Str.ofString "octets", .bytes b tb), (Str.ofString "pieces", .ref Dp), (Str.ofString "ends", .ref De), (Str.ofString "stops", .ref Ds), (Str.ofString "things", .ref Dt), (Str.ofString "plain", .str msg0 tp), (Str.ofString "script", .ref sc), (Str.ofString "thing", .bytes th tt)] (by intro q9 hq9; simp only [List.mem_cons, List.not_mem_nil, or_false] at hq9; rcases hq9 with rfl | rfl | rfl | rfl | rfl | rfl | rfl | rfl <;> assumption)
      clear F9 FF NN hoc hpi hen hst hth hpl hsc0 htn rg
      obtain ⟨kt, hkt⟩ : ∃ ks, KBw.bInts th = ks := ⟨_, rfl⟩
      have hktl : kt.length = th.size := by rw [← hkt]; exact KBw.ints_length th
      rw [show (0 : Int) + (i2 : Nat) * 255 = ((255 * i2 : Nat) : Int) by omega]
      have hpk : KBy.picked th (some ((255 * i2 : Nat) : Int)) (some (((255 * i2 : Nat) : Int) + 255)) = cutB th (255 * i2) 255 := picked_cut (n := 255) (by omega)
      obtain ⟨c, hc⟩ : ∃ c, c = cutB th (255 * i2) 255 := ⟨_, rfl⟩
      have hcz : c.size ≤ 255 := by rw [hc, cutB_size]; omega
      rw [← hc] at hpk
      have hps : (allP (ths.take i) ++ pcsN th i2).length ≤ 20 := by
        have h1 := allP_len (ts := ths.take i) (fun c hc => hths c (List.mem_of_mem_take hc))
        rw [List.length_take] at h1
        rw [List.length_append, pcsN_len]; omega
      have hpvl : pv.length ≤ 20 := by rw [hpv.length]; exact hps
      have hevl : ev.length ≤ 21 := by rw [hev.length, hlay.len]; omega
      have hbz : b.size ≤ 5120 := by
        have h1 := enc_len (n := 255) (ps := allP (ths.take i) ++ pcsN th i2) (fun d hd => (List.mem_append.mp hd).elim (allP_size d) (pcsN_size d))
        rw [hlay.size, pos_all]; omega
      repeat' (first | (k_unfold; (try dsimp only)) | ((fail_if_success (with_reducible show wpAny _ _ (execs (Stmt.Assign _ _ _ :: _) _) _ _ _)); first | (k_end; wrow_close) | walk1 | (dsimp only; walk1) | (leave1; try dsimp only)))
      rename Fr _ _ _ _ => FF
      rename News _ _ _ _ => NN
      rw [hpk] at NN
      (try simp only [List.push_toArray] at NN)
      (rename KBw.bInts (KBy.picked _ _ _) = _ => hz1; clear hz1)
      clear hpk hkt hktl
      k_steps
      rename Fr _ _ _ _ => FF
      rename News _ _ _ _ => NN
      simp only [List.push_toArray] at NN
      obtain ⟨nx, hnx, hsub⟩ := pack_2 NN
      refine EndY.intro FF NN (nx := nx) ⟨pv ++ [_], _, ev ++ [_], _, _, _, es ++ [_], hnx, ?_, ?_, ints_snoc hev _ _, rfl, rfl, rfl, rfl, rfl, ⟨_, rfl⟩, rfl, rfl⟩ hsub (by lcg_src) (by rw [hnx]; simp only [List.forall_mem_cons]; exact ⟨p1, p2, p3, p4, p5, p6, p7, fun _ h => nomatch h⟩)
      · rw [pcsN_succ, ← hc, ← List.append_assoc]; exact hpv.snoc _ _
      · rw [pcsN_succ, ← hc, ← List.append_assoc]; exact hlay.snoc rfl rfl
    case done2 =>
      rintro m9 nx9 h9 tk9 ⟨pv, jp, ev, je, b, tb, es, rfl, hpv, hlay, hev, hoc, hpi, hen, hst, hth, ⟨tp, hpl⟩, hsc0, htn⟩ F9 N9
      have F10 := fr_names F9 [(Str.ofString "octets", .bytes b tb), (Str.ofString "pieces", .ref Dp), (Str.ofString "ends", .ref De), (Str.ofString "stops", .ref Ds), (Str.ofString "things", .ref Dt), (Str.ofString "plain", .str msg0 tp), (Str.ofString "script", .ref sc), (Str.ofString "thing", .bytes th tt)] (by intro q9 hq9; simp only [List.mem_cons, List.not_mem_nil, or_false] at hq9; rcases hq9 with rfl | rfl | rfl | rfl | rfl | rfl | rfl | rfl <;> assumption)
      clear F9 FF NN hoc hpi hen hst hth hpl hsc0 htn rg
      have hps9 : allP (ths.take (i + 1)) = allP (ths.take i) ++ pcsN th (th.size / 255 + 1) := by rw [hth2, allP_snoc]; rfl
      rw [← hps9] at hpv hlay
      have hbz : b.size ≤ 5120 := by
        have h1 := allP_len (ts := ths.take (i + 1)) (fun c hc => hths c (List.mem_of_mem_take hc))
        rw [List.length_take] at h1
        have h2 := enc_len (n := 255) (ps := allP (ths.take (i + 1))) (fun d hd => allP_size d hd)
        rw [hlay.size, pos_all]; omega
      have hsvl : sv.length ≤ 4 := by rw [hsv.length, stopsL_len]; omega
      dsimp only
      k_steps
      rename Fr _ _ _ _ => FF
      rename News _ _ _ _ => NN
      simp only [List.push_toArray] at NN
      obtain ⟨nx, hnx, hsub⟩ := pack_1 NN
      refine EndY.intro FF NN (nx := nx) ⟨pv, _, ev, _, sv ++ [_], _, _, _, es, hnx, hpv, hlay, hev, ?_, rfl, rfl, rfl, rfl, rfl, ⟨_, rfl⟩, rfl⟩ hsub (by lcg_src) (by rw [hnx]; simp only [List.forall_mem_cons]; exact ⟨n1, n2, n3, n4, n5, n6, fun _ h => nomatch h⟩)
      rw [stopsL_succ, ← pos_all, ← hlay.size]; exact ints_snoc hsv _ _
  case done1 =>
    rintro m9 nx9 h9 tk9 ⟨pv, jp, ev, je, sv, js, b, tb, es, rfl, hpv, hlay, hev, hsv, hoc, hpi, hen, hst, hth, ⟨tp, hpl⟩, hsc0⟩ F9 N9
    rw [hvtl, List.take_length] at hpv hlay
    rw [hvtl] at hsv
    have F10 := fr_names F9 [(Str.ofString "octets", .bytes b tb), (Str.ofString "pieces", .ref Dp), (Str.ofString "ends", .ref De), (Str.ofString "stops", .ref Ds), (Str.ofString "things", .ref Dt), (Str.ofString "plain", .str msg0 tp), (Str.ofString "script", .ref sc)] (by intro q9 hq9; simp only [List.mem_cons, List.not_mem_nil, or_false] at hq9; rcases hq9 with rfl | rfl | rfl | rfl | rfl | rfl | rfl <;> assumption)
    clear F9 FF NN hoc hpi hen hst hth hpl hsc0
    have hps : (allP ths).length ≤ 16 := by have h1 := allP_len hths; omega
    have hz := allP_size (ts := ths)
    have hbz : b.size ≤ 4096 := by
      have h2 := enc_len (n := 255) hz
      rw [hlay.size, pos_all]; omega
    have hpvl : pv.length = (allP ths).length := hpv.length
    have hevl : ev.length = (allP ths).length + 1 := by rw [hev.length, hlay.len]
    have hsvl : sv.length = ths.length := by rw [hsv.length, stopsL_len]
    have hboc := hlay.oct
    dsimp only
    repeat' (first | (k_unfold; (try dsimp only)) | ((fail_if_success (with_reducible show wpAny _ _ (call (Value.ref 63) _) _ _ _)); first | (k_end; wrow_close) | walk1 | (dsimp only; walk1) | (leave1; try dsimp only)))
    rename Fr _ _ _ _ => F3
    rename News _ _ _ _ => N3
    k_dflt (refine stream_ct w (T := [(58, tabObj #[])]) (rest := [(Dp, listOf pv.toArray jp), (De, listOf ev.toArray je), (Ds, listOf sv.toArray js), (Dt, listOf vt.toArray jt), (C, oS)]) B0 F3 X0 (news_sub N3 ?_) T0 codeHd .none ?_ rfl ?_ ?_)
    · intro q hq; simp only [List.cons_append, List.nil_append, List.mem_cons, List.not_mem_nil, or_false] at hq ⊢; rcases hq with h | h | h | h | h | h <;> simp [h]
    · intro q hq c hc; rw [List.mem_singleton.mp hc]; simp only [List.mem_cons, List.not_mem_nil, or_false] at hq; rcases hq with rfl | rfl | rfl | rfl | rfl <;> (show @Ne Nat _ _; dsimp only; omega)
    · ktr_room
    intro f dx r k1 k2 tp0 I T1 h3 tk3 S hT1 o1 o2 o3 F4 N4
    obtain ⟨R, hR⟩ : ∃ R, R = (Dp, listOf pv.toArray jp) :: (De, listOf ev.toArray je) :: (C, oS) :: (I ++ T1) := ⟨_, rfl⟩
    have N5 := news_sub (l' := (dx, SD w.params k1 k2 r ((0 : Nat) : Int) tp0) :: (Ds, listOf sv.toArray js) :: (Dt, listOf vt.toArray jt) :: R) N4 (by
      intro q hq; rw [hR] at hq; simp only [List.mem_cons, List.mem_append, List.not_mem_nil, or_false] at hq ⊢; rcases hq with h | h | h | h | h | h | h | h <;> simp [h])
    have hm : Sub I R := fun e he => by rw [hR]; simp [he]
    have mp : (Dp, listOf pv.toArray jp) ∈ R := by rw [hR]; simp
    have me : (De, listOf ev.toArray je) ∈ R := by rw [hR]; simp
    have oR : OwnOff R [dx] := by
      intro q hq c hc; rw [hR] at hq; simp only [List.mem_cons, List.mem_append] at hq; rcases hq with h | h | h | h | h
      · exact o3 q (by simp [h]) c hc
      · exact o3 q (by simp [h]) c hc
      · exact o3 q (by simp [h]) c hc
      · exact S.off q h c hc
      · exact o2 q h c hc
    have ds : @Ne Nat Ds dx := o3 (Ds, listOf sv.toArray js) (by simp) dx (List.mem_singleton.mpr rfl)
    have dt : @Ne Nat Dt dx := o3 (Dt, listOf vt.toArray jt) (by simp) dx (List.mem_singleton.mpr rfl)
    have mi := hm _ S.inst
    clear F3 N3 N4 o1 o2 o3
    repeat' (first | (k_unfold; (try dsimp only)) | ((fail_if_success (with_reducible show wpAny _ _ (exec (Stmt.For _ _ _ _ _) _) _ _ _)); first | (k_end; wrow_close) | walk1 | (dsimp only; walk1) | (leave1; try dsimp only)))
    refine wpAny_For ?_
    repeat' (first | (k_unfold; (try dsimp only)) | ((fail_if_success (with_reducible show wpAny _ _ (pyIter _) _ _ _)); first | (k_end; wrow_close) | walk1 | (dsimp only; walk1) | (leave1; try dsimp only)))
    rename IsRange _ _ _ _ _ _ _ _ => rg
    rename Fr _ _ _ _ => FF
    rename News _ _ _ _ => NN
    rw [hvtl] at rg
    k_dflt (refine iterG_range (n := ths.length) (fun i mm nx => ∃ t, nx = (dx, SD w.params k1 k2 r ((pos (allP ths) (nP ths i) : Nat) : Int) t) :: (Ds, listOf sv.toArray js) :: (Dt, listOf vt.toArray jt) :: R ∧ mm (Str.ofString "octets") = some (.bytes b tb) ∧ mm (Str.ofString "pieces") = some (.ref Dp) ∧ mm (Str.ofString "ends") = some (.ref De) ∧ mm (Str.ofString "stops") = some (.ref Ds) ∧ mm (Str.ofString "things") = some (.ref Dt) ∧ mm (Str.ofString "f") = some (.ref f) ∧ (∃ tp, mm (Str.ofString "plain") = some (.str msg0 tp)) ∧ mm (Str.ofString "script") = some (.ref sc)) rfl rg (small_one (by omega) (by omega) (by omega) (by omega)) (by rw [rangeSize_nat]; omega) FF NN ⟨_, rfl, rfl, rfl, rfl, rfl, rfl, rfl, ⟨_, rfl⟩, rfl⟩ (by passes_own) ?turn3 ?done3)
    case turn3 =>
      rintro I3 i t9 m9 nx9 h9 tk9 oI hoT hi9 hne ⟨t0, rfl, hoc, hpi, hen, hst, hth, hf, ⟨tp, hpl⟩, hsc0⟩ F9 N9
      simp only [List.forall_mem_cons] at hne
      obtain ⟨n1, n2, n3, nR⟩ := hne
      have oR3 : OwnOff R [I3] := off_one nR
      obtain ⟨th, hth0⟩ : ∃ th, ths[i]? = some th := ⟨_, List.getElem?_eq_getElem hi9⟩
      have htz := hths th (List.mem_of_getElem? hth0)
      obtain ⟨m, hm⟩ : ∃ m, m = th.size / 255 := ⟨_, rfl⟩
      have hpc : ∀ j, j < m + 1 → (allP ths)[nP ths i + j]? = some (cutB th (255 * j) 255) := fun j hj => piece_at hth0 (by omega)
      have hrd := fun j hj => read_at hboc hz (hpc j hj)
      obtain ⟨a1, a2, a3, a4⟩ := hrd 0 (by omega)
      have F10 := fr_names F9 [(Str.ofString "octets", .bytes b tb), (Str.ofString "pieces", .ref Dp), (Str.ofString "ends", .ref De), (Str.ofString "stops", .ref Ds), (Str.ofString "things", .ref Dt), (Str.ofString "plain", .str msg0 tp), (Str.ofString "script", .ref sc), (Str.ofString "f", .ref f)] (by intro q9 hq9; simp only [List.mem_cons, List.not_mem_nil, or_false] at hq9; rcases hq9 with rfl | rfl | rfl | rfl | rfl | rfl | rfl | rfl <;> assumption)
      clear F9 FF NN hoc hpi hen hst hth hf hpl hsc0 rg
      simp only [Nat.add_zero] at a1 a2 a3 a4
      repeat' (first | (k_unfold; (try dsimp only)) | ((fail_if_success (with_reducible show wpAny _ _ (exec (Stmt.For _ _ _ _ _) _) _ _ _)); first | (k_end; wrow_close) | walk1 | (dsimp only; walk1) | (leave1; try dsimp only)))
      refine wpAny_For ?_
      repeat' (first | (k_unfold; (try dsimp only)) | ((fail_if_success (with_reducible show wpAny _ _ (pyIter _) _ _ _)); first | (k_end; wrow_close) | walk1 | (dsimp only; walk1) | (leave1; try dsimp only)))
      rename IsRange _ _ _ _ _ _ _ _ => rg
      rename Fr _ _ _ _ => FF
      rename News _ _ _ _ => NN
      rename_i G _ hG _ _ _ _ _ _ _ _ _
      rw [a4, a2] at NN
      clear a1 a2 a3 a4
      have oRG : OwnOff R [G] := off_lt (d := G) hG.2.2.2.2 (by intro a ha; rw [List.mem_singleton.mp ha]; exact Nat.le_refl _)
      k_dflt (refine iterG_range (n := 3) (fun j mm nx => ∃ gw tc t jg, nx = (G, listOf (gw ++ [.bytes (cutB th (255 * min j m) 255) tc]).toArray jg) :: (I3, oI) :: (dx, SD w.params k1 k2 r ((pos (allP ths) (nP ths i + min j m + 1) : Nat) : Int) t) :: (Ds, listOf sv.toArray js) :: (Dt, listOf vt.toArray jt) :: R ∧ BytesAre gw (pcsN th (min j m)) ∧ mm (Str.ofString "octets") = some (.bytes b tb) ∧ mm (Str.ofString "pieces") = some (.ref Dp) ∧ mm (Str.ofString "ends") = some (.ref De) ∧ mm (Str.ofString "stops") = some (.ref Ds) ∧ mm (Str.ofString "things") = some (.ref Dt) ∧ mm (Str.ofString "f") = some (.ref f) ∧ (∃ tp, mm (Str.ofString "plain") = some (.str msg0 tp)) ∧ mm (Str.ofString "script") = some (.ref sc) ∧ mm (Str.ofString "got") = some (.ref G) ∧ (∃ tk, mm (Str.ofString "k") = some (.int (0 + (i : Int) * 1) tk))) rfl rg (small_one (by omega) (by omega) (by omega) (by omega)) (by decide) FF NN ⟨[], _, _, 0, rfl, by rw [Nat.zero_min]; exact .nil, rfl, rfl, rfl, rfl, rfl, rfl, ⟨_, rfl⟩, rfl, rfl, ⟨_, rfl⟩⟩ (by passes_own) ?turn4 ?done4)
      case turn4 =>
        rintro I4 j t4 m9 nx9 h9 tk9 oI4 hoT4 hj9 hne ⟨gw, tc, t0, jg, rfl, hgw, hoc, hpi, hen, hst, hth, hf, ⟨tp, hpl⟩, hsc0, hgo, ⟨tkk, hk0⟩⟩ F9 N9
        simp only [List.forall_mem_cons] at hne
        obtain ⟨r1, r2, r3, r4, r5, rR⟩ := hne
        have oR4 : OwnOff R [I4] := off_one rR
        have F10 := fr_names F9 [(Str.ofString "octets", .bytes b tb), (Str.ofString "pieces", .ref Dp), (Str.ofString "ends", .ref De), (Str.ofString "stops", .ref Ds), (Str.ofString "things", .ref Dt), (Str.ofString "plain", .str msg0 tp), (Str.ofString "script", .ref sc), (Str.ofString "f", .ref f), (Str.ofString "got", .ref G), (Str.ofString "k", .int (0 + (i : Int) * 1) tkk)] (by intro q9 hq9; simp only [List.mem_cons, List.not_mem_nil, or_false] at hq9; rcases hq9 with rfl | rfl | rfl | rfl | rfl | rfl | rfl | rfl | rfl | rfl <;> assumption)
        clear F9 FF NN hoc hpi hen hst hth hf hpl hsc0 hgo hk0 rg
        have hgl := hgw.length
        rw [pcsN_len] at hgl
        obtain ⟨c, hc⟩ : ∃ c, c = cutB th (255 * min j m) 255 := ⟨_, rfl⟩
        have hcz : c.size = min 255 (th.size - 255 * min j m) := by rw [hc, cutB_size]
        by_cases hjm : j < m
        · rw [Nat.min_eq_left (by omega)] at N9 hc hcz hgl hgw
          have hcz2 : c.size = 255 := by omega
          clear hcz
          rw [← hc] at N9
          obtain ⟨a1, a2, a3, a4⟩ := hrd (j + 1) (by omega)
          rw [← Nat.add_assoc] at a1 a2 a3 a4
          k_steps
          rename Fr _ _ _ _ => FF
          rename News _ _ _ _ => NN
          rw [a4, a2] at NN
          simp only [List.push_toArray] at NN
          obtain ⟨nx, hnx, hsub⟩ := pack_1 NN
          rw [show min (j + 1) m = j + 1 from Nat.min_eq_left (by omega)]
          exact EndY.intro FF NN (nx := nx) ⟨gw ++ [.bytes c tc], _, _, _, hnx, by rw [pcsN_succ, ← hc]; exact hgw.snoc _ _, rfl, rfl, rfl, rfl, rfl, rfl, ⟨_, rfl⟩, rfl, rfl, ⟨_, rfl⟩⟩ hsub (.head _) (by rw [hnx]; simp only [List.forall_mem_cons]; exact ⟨r1, r2, r3, r4, r5, rR⟩)
        · rw [Nat.min_eq_right (by omega)] at N9 hc hcz hgl hgw
          have hcz2 : c.size < 255 := by omega
          clear hcz
          rw [← hc] at N9
          k_steps
          rename Fr _ _ _ _ => FF
          rename News _ _ _ _ => NN
          obtain ⟨nx, hnx, hsub⟩ := pack_1 NN
          rw [show min (j + 1) m = m from Nat.min_eq_right (by omega), ← hc]
          exact EndY.intro FF NN (nx := nx) ⟨gw, _, _, _, hnx, hgw, rfl, rfl, rfl, rfl, rfl, rfl, ⟨_, rfl⟩, rfl, rfl, ⟨_, rfl⟩⟩ hsub (.head _) (by rw [hnx]; simp only [List.forall_mem_cons]; exact ⟨r1, r2, r3, r4, r5, rR⟩)
      case done4 =>
        rintro m9 nx9 h9 tk9 ⟨gw, tc, t0, jg, rfl, hgw, hoc, hpi, hen, hst, hth, hf, ⟨tp, hpl⟩, hsc0, hgo, ⟨tkk, hk0⟩⟩ F9 N9
        have F10 := fr_names F9 [(Str.ofString "octets", .bytes b tb), (Str.ofString "pieces", .ref Dp), (Str.ofString "ends", .ref De), (Str.ofString "stops", .ref Ds), (Str.ofString "things", .ref Dt), (Str.ofString "plain", .str msg0 tp), (Str.ofString "script", .ref sc), (Str.ofString "f", .ref f), (Str.ofString "got", .ref G), (Str.ofString "k", .int (0 + (i : Int) * 1) tkk)] (by intro q9 hq9; simp only [List.mem_cons, List.not_mem_nil, or_false] at hq9; rcases hq9 with rfl | rfl | rfl | rfl | rfl | rfl | rfl | rfl | rfl | rfl <;> assumption)
        clear F9 FF NN hoc hpi hen hst hth hf hpl hsc0 hgo hk0 rg
        rw [show min 3 m = m from Nat.min_eq_right (by omega)] at N9 hgw
        obtain ⟨c, hc⟩ : ∃ c, c = cutB th (255 * m) 255 := ⟨_, rfl⟩
        rw [← hc] at N9
        have hpcs : pcsN th m ++ [c] = pcs th := by rw [hc, ← pcsN_succ, hm]; rfl
        have hgc := hgw.snoc c tc
        rw [hpcs] at hgc
        have hgl := hgw.length
        rw [pcsN_len] at hgl
        obtain ⟨tth, hvt0⟩ := bytes_get hvt hth0
        have hfd : (th.size : Int).fdiv 255 = (m : Int) := by rw [Int.fdiv_eq_ediv_of_nonneg _ (by decide)]; omega
        have hst0 : (stopsL ths ths.length).getD (0 + (i : Int) * 1).toNat 0 = ((pos (allP ths) (nP ths i + m + 1) : Nat) : Int) := by
          rw [show (0 + (i : Int) * 1).toNat = i by omega, stopsL_get ths hi9, ← pos_nP, nP_succ hth0, ← hm]; rfl
        dsimp only
        repeat' (first | (k_unfold; (try dsimp only)) | ((fail_if_success (with_reducible show wpAny _ _ (call (Value.builtin "bytes.join") _) _ _ _)); first | (k_end; wrow_close) | walk1 | (dsimp only; walk1) | (leave1; try dsimp only)))
        rename Fr _ _ _ _ => FF
        rename News _ _ _ _ => NN
        refine join_bytes (cs := pcs th) (isList_at NN (by lcg_src)) hgc (by simp) (by rw [sum_pcs]; omega) ?_
        intro tj kj
        rw [join_pcs]
        repeat' (first | (k_unfold; (try dsimp only)) | ((fail_if_success (with_reducible show wpAny _ _ (subscriptTail _ _ _ _) _ _ _)); first | (k_end; wrow_close) | walk1 | (dsimp only; walk1) | (leave1; try dsimp only)))
        refine item_v NN (by lcg_src) (i := i) (by omega) hvt0 (by omega) ?_
        repeat' (first | (k_unfold; (try dsimp only)) | ((fail_if_success (with_reducible show wpAny _ _ (subscriptTail _ _ _ _) _ _ _)); first | (k_end; wrow_close) | walk1 | (dsimp only; walk1) | (leave1; try dsimp only)))
        refine item_v NN (by lcg_src) (i := i) (by omega) hvt0 (by omega) ?_
        k_steps
        obtain ⟨nx, hnx, hsub⟩ := pack_2 NN
        rw [nP_succ hth0, ← hm]
        exact EndY.intro FF NN (nx := nx) ⟨_, hnx, rfl, rfl, rfl, rfl, rfl, rfl, ⟨_, rfl⟩, rfl⟩ hsub (.tail _ (.head _)) (by rw [hnx]; simp only [List.forall_mem_cons]; exact ⟨n1, n2, n3, nR⟩)
    case done3 =>
      rintro m9 nx9 h9 tk9 ⟨t0, rfl, hoc, hpi, hen, hst, hth, hf, ⟨tp, hpl⟩, hsc0⟩ F9 N9
      have F10 := fr_names F9 [(Str.ofString "octets", .bytes b tb), (Str.ofString "pieces", .ref Dp), (Str.ofString "ends", .ref De), (Str.ofString "stops", .ref Ds), (Str.ofString "things", .ref Dt), (Str.ofString "plain", .str msg0 tp), (Str.ofString "script", .ref sc), (Str.ofString "f", .ref f)] (by intro q9 hq9; simp only [List.mem_cons, List.not_mem_nil, or_false] at hq9; rcases hq9 with rfl | rfl | rfl | rfl | rfl | rfl | rfl | rfl <;> assumption)
      clear F9 FF NN hoc hpi hen hst hth hf hpl hsc0 rg
      dsimp only
      repeat' (first | (k_unfold; (try dsimp only)) | ((fail_if_success (with_reducible show wpAny _ _ (call (Value.ref 77) _) _ _ _)); first | (k_end; wrow_close) | walk1 | (dsimp only; walk1) | (leave1; try dsimp only)))
      rename Fr _ _ _ _ => F6
      rename News _ _ _ _ => N6
      have N7 : News _ _ _ (T1 ++ [(Dp, listOf pv.toArray jp), (De, listOf ev.toArray je), (C, oS)]) := news_sub N6 (fun q hq => by
        rw [hR]; simp only [List.mem_append, List.mem_cons, List.not_mem_nil, or_false] at hq ⊢; rcases hq with h | h | h | h <;> simp [h])
      clear N6 hR hm mp me oR ds dt mi S
      have o58 : OwnOff [(Dp, listOf pv.toArray jp), (De, listOf ev.toArray je), (C, oS)] [58] := by
        intro q hq c hc; rw [List.mem_singleton.mp hc]; simp only [List.mem_cons, List.not_mem_nil, or_false] at hq; rcases hq with rfl | rfl | rfl <;> (show @Ne Nat _ _; dsimp only; omega)
      rw [show (pv.length : Int) + 1 = (((allP ths).length + 1 : Nat) : Int) by omega]
      k_dflt (refine runfalse_ct w (T := T1) (tries := (allP ths).length + 1) B0 F6 X0 N7 T0 ?XB ?TB codeHd hT1 o58 rfl ?_ ?_ ?_ ?_ (fun xs p hp => told_max' hboc hz hp) ?_)
      case XB => assumption
      case TB => assumption
      · ktr_room
      · ktr_units
      · omega
      · omega
      intro h4 tk4 T2 tp4 li4 v4 xs x j4 jt4 u1 u2 hT2 hlt4 hl41 hv4 hen4 F8 N8
      obtain ⟨e1, e2⟩ := ends_all hboc hz hen4
      subst e1 e2
      have hbv := its_bytes hv4
      have hbvl := hbv.length
      obtain ⟨R2, hR2⟩ : ∃ R2, R2 = T2 ++ [(Dp, listOf pv.toArray jp), (De, listOf ev.toArray je), (C, oS)] := ⟨_, rfl⟩
      rw [← hR2] at N8
      have mp2 : (Dp, listOf pv.toArray jp) ∈ R2 := by rw [hR2]; simp
      clear N7 F6 hen4 hv4 hlt4
      repeat' (first | (k_unfold; (try dsimp only)) | ((fail_if_success (with_reducible show wpAny _ _ (eval (Expr.ListComp _ _ _ _) _) _ _ _)); first | (k_end; wrow_close) | walk1 | (dsimp only; walk1) | (leave1; try dsimp only)))
      k_dflt (refine LCt.ListComp_T (F₀ := by k_asm) (by with_unfolding_all rfl) (by decide) (by rfl) (by decide) (by rfl) ?_)
      repeat' (first | (k_unfold; (try dsimp only)) | ((fail_if_success (with_reducible show LCt.CompSrcT _ _ _ _ _ _ _ _ _ _ _ _ _ _ _)); first | (k_end; wrow_close) | walk1 | (dsimp only; walk1) | (leave1; try dsimp only)))
      k_dflt (refine LCt.CompSrcT.ledger (by rfl) (by k_asm) (by k_asm) (its := v4.toArray) (by lcg_src) ?sz ?_)
      case sz => simp only [sizeLine_eq, List.size_toArray]; omega
      intro g9
      refine restT1 (fun i ys => ys = []) ?hS rfl ?fin ?turn5
      case hS => exact .inr ⟨_, by lcg_src, rfl, _, rfl⟩
      case turn5 =>
        rintro i v ys I5 oI5 C5 oC5 D5 m₂ h5 tk5 E' hi5 hv5 hJ5 hC5 hx5 F5 N5 off5 ne5
        obtain ⟨k, t, rfl, hk, hk1⟩ := bytes_at hbv hv5
        k_steps
        rename Fr _ _ _ _ => FF
        rename News _ _ _ _ => NN
        exact CEnd1.intro FF NN (fun p hp => hp) hJ5
      case fin =>
        rintro _ rfl
        (rename Fr _ _ _ _ => FF; clear FF)
        (rename News _ _ _ _ => NN; clear NN)
        unfold LCg.FinE
        intro D5 h5 tk5 F5 N5 o5
        clear o5
        repeat' (first | (k_unfold; (try dsimp only)) | ((fail_if_success (with_reducible show wpAny _ _ (call (Value.ref 77) _) _ _ _)); first | (k_end; wrow_close) | walk1 | (dsimp only; walk1) | (leave1; try dsimp only)))
        rename Fr _ _ _ _ => F6
        rename News _ _ _ _ => N6
        have N7 : News _ _ _ (T2 ++ [(Dp, listOf pv.toArray jp), (De, listOf ev.toArray je), (C, oS)]) := news_sub N6 (fun q hq => by
          rw [← hR2] at hq; simp only [List.mem_cons]; simp [hq])
        clear N6 hR2 mp2
        rw [show (pv.length : Int) + 1 = (((allP ths).length + 1 : Nat) : Int) by omega]
        k_dflt (refine runtrue_ct w (T := T2) (tries := (allP ths).length + 1) B0 F6 X0 N7 T0 ?XB ?TB codeHd hT2 o58 rfl ?_ ?_ ?_ ?_ (fun xs p hp => told_max' hboc hz hp) ?_)
        case XB => assumption
        case TB => assumption
        · ktr_room
        · ktr_units
        · omega
        · omega
        intro h6 tk6 T3 tp6 li6 v6 xs x j6 jt6 u3 u4 hT3 hlt6 hl61 hv6 hen6 F8 N8
        obtain ⟨e1, e2⟩ := ends_all hboc hz hen6
        subst e1 e2
        have hsv6 := its_strs' hv6
        have hsvl6 := hsv6.length
        rw [List.length_map] at hsvl6
        obtain ⟨R3, hR3⟩ : ∃ R3, R3 = T3 ++ [(Dp, listOf pv.toArray jp), (De, listOf ev.toArray je), (C, oS)] := ⟨_, rfl⟩
        rw [← hR3] at N8
        have mp3 : (Dp, listOf pv.toArray jp) ∈ R3 := by rw [hR3]; simp
        clear N7 F6 hen6 hv6 hlt6
        repeat' (first | (k_unfold; (try dsimp only)) | ((fail_if_success (with_reducible show wpAny _ _ (eval (Expr.ListComp _ _ _ _) _) _ _ _)); first | (k_end; wrow_close) | walk1 | (dsimp only; walk1) | (leave1; try dsimp only)))
        k_dflt (refine LCg.ListComp_U (F₀ := by k_asm) (by with_unfolding_all rfl) (by decide) (by rfl) (by decide) (by rfl) ?_)
        repeat' (first | (k_unfold; (try dsimp only)) | ((fail_if_success (with_reducible show LCg.CompSrc _ _ _ _ _ _ _ _ _ _ _ _ _ _)); first | (k_end; wrow_close) | walk1 | (dsimp only; walk1) | (leave1; try dsimp only)))
        rename Fr _ _ _ _ => F9
        rename News _ _ _ _ => N9
        k_dflt (refine LCg.CompSrc.ledger (by rfl) (by k_asm) (by k_asm) (its := v6.toArray) (by lcg_src) ?sz ?_)
        case sz => simp only [sizeLine_eq, List.size_toArray]; omega
        intro g9
        refine restU (fun i ys nw => (∀ q ∈ (tp6, _) :: (li6, listOf v6.toArray j6) :: R3, q ∈ nw) ∧ RowsIn nw ys ((allP ths).take i)) ⟨fun q hq => hq, .nil⟩ ?fin6 ?turn6
        case turn6 =>
          rintro i v ys nw I6 oI6 C6 oC6 D6 m₂ h7 tk7 E' hi6 hv6 ⟨hsub6, hrow6⟩ hC6 hx6 F7 N7 off6 ne6
          obtain ⟨c, t, rfl, hc, hcz⟩ := strs_at hsv6 hz hv6
          clear F9 N9
          refine ListComp_S (F₀ := by k_asm) (by with_unfolding_all rfl) (by decide) (by rfl) (by decide) (by rfl) ?_
          repeat' (first | (k_unfold; (try dsimp only)) | ((fail_if_success (with_reducible show SrcStr _ _ _ _ _ _ _ _ _ _ _ _ _ _)); first | (k_end; wrow_close) | walk1 | (dsimp only; walk1) | (leave1; try dsimp only)))
          k_dflt (refine SrcStr.mk (by rfl) (by k_asm) (by k_asm) (by rw [latin_len]; omega) ?_)
          intro g7
          refine restU1 (fun i ys => IntsAre ys ((KBw.bInts c).take i)) trivial .nil ?fin7 ?turn7
          case turn7 =>
            rintro i v ys I7 oI7 C7 oC7 D7 m₃ h8 tk8 E'' hi7 ⟨k, u, hk, rfl⟩ hJ7 hC7 hx7 F8 N8 off7 ne7
            k_steps
            rename Fr _ _ _ _ => FF
            rename News _ _ _ _ => NN
            exact CEnd1.intro FF NN (fun p hp => hp) (ints_take hJ7 (latin_sign hk))
          case fin7 =>
            intro ws hJ7
            rw [latin_len, List.take_of_length_le (by rw [KBw.ints_length]; exact Nat.le_refl _)] at hJ7
            unfold LCg.FinE
            intro D8 h8 tk8 F8 N8 o8
            refine CEnd.intro F8 N8 (news' := (D8, LCg.lst ws) :: nw) ?_ (off3_new o8 off6) (.inr ⟨_, .tail _ (hsub6 _ (.tail _ (.head _))), rfl, _, rfl⟩) ⟨fun q hq => .tail _ (hsub6 q hq), ?_⟩
            · intro q hq; simp only [List.mem_cons] at hq ⊢; rcases hq with h | h | h | h | h <;> simp [h]
            · rw [List.take_add_one, hc, Option.toList_some]; exact hrow6.snoc hJ7
        case fin6 =>
          rintro ys nw ⟨hsub6, hrow6⟩
          rw [List.size_toArray, hsvl6, List.take_length] at hrow6
          unfold LCg.FinE
          intro D6 h7 tk7 F7 N7 o7
          clear F9 N9
          have mpn : (Dp, listOf pv.toArray jp) ∈ nw := hsub6 _ (.tail _ (.tail _ mp3))
          have oD6 : OwnOff nw [D6] := off1_of o7
          repeat' (first | (k_unfold; (try dsimp only)) | ((fail_if_success (with_reducible show wpAny _ _ (eval (Expr.ListComp _ _ _ _) _) _ _ _)); first | (k_end; wrow_close) | walk1 | (dsimp only; walk1) | (leave1; try dsimp only)))
          k_dflt (refine LCg.ListComp_U (F₀ := by k_asm) (by with_unfolding_all rfl) (by decide) (by rfl) (by decide) (by rfl) ?_)
          repeat' (first | (k_unfold; (try dsimp only)) | ((fail_if_success (with_reducible show LCg.CompSrc _ _ _ _ _ _ _ _ _ _ _ _ _ _)); first | (k_end; wrow_close) | walk1 | (dsimp only; walk1) | (leave1; try dsimp only)))
          rename Fr _ _ _ _ => F9
          rename News _ _ _ _ => N9
          k_dflt (refine LCg.CompSrc.ledger (by rfl) (by k_asm) (by k_asm) (its := pv.toArray) (by lcg_src) ?sz ?_)
          case sz => simp only [sizeLine_eq, List.size_toArray]; omega
          intro g10
          refine restU (fun i zs nw' => (∀ q ∈ (D6, LCg.lst ys) :: nw, q ∈ nw') ∧ RowsIn nw' zs ((allP ths).take i)) ⟨fun q hq => hq, .nil⟩ ?fin8 ?turn8
          case turn8 =>
            rintro i v zs nw' I8 oI8 C8 oC8 D8 m₂ h8 tk8 E' hi8 hv8 ⟨hsub8, hrow8⟩ hC8 hx8 F8 N8 off8 ne8
            obtain ⟨c, t, rfl, hc, hk1⟩ := bytes_at hpv hv8
            have hcz := hz c (List.mem_of_getElem? hc)
            clear F9 N9
            repeat' (first | (k_unfold; (try dsimp only)) | ((fail_if_success (with_reducible show wpAny _ _ (call (Value.type "list") _) _ _ _)); first | (k_end; wrow_close) | walk1 | (dsimp only; walk1) | (leave1; try dsimp only)))
            rename Fr _ _ _ _ => F11
            rename News _ _ _ _ => N11
            k_dflt (refine list_bytes F11 N11 rfl (by omega) ?_)
            intro D9 h10 tk10 ws jw hws F12 N12 l12
            refine CEnd.intro F12 N12 (news' := (D9, listOf ws.toArray jw) :: nw') ?_ (off3_lt l12 off8) (.inr ⟨_, .tail _ (hsub8 _ (.tail _ mpn)), rfl, _, rfl⟩) ⟨fun q hq => .tail _ (hsub8 q hq), ?_⟩
            · intro q hq; simp only [List.mem_cons] at hq ⊢; rcases hq with h | h | h | h | h <;> simp [h]
            · rw [List.take_add_one, hc, Option.toList_some]; exact hrow8.snoc hws
          case fin8 =>
            rintro zs nw' ⟨hsub8, hrow8⟩
            rw [List.size_toArray, hpvl, List.take_length] at hrow8
            unfold LCg.FinE
            intro D10 h11 tk11 F11 N11 o11
            clear F9 N9
            repeat' (first | (k_unfold; (try dsimp only)) | ((fail_if_success (with_reducible show wpAny _ _ (compareOp CmpOp.NotEq (Value.ref _) (Value.ref _)) _ _ _)); first | (k_end; wrow_close) | walk1 | (dsimp only; walk1) | (leave1; try dsimp only)))
            rename Fr _ _ _ _ => F12
            rename News _ _ _ _ => N12
            refine ne_listL N12 (.tail _ (hsub8 _ (.head _))) (.head _) (RowsIn.same N12 (fun q hq => .tail _ (hsub8 q (.tail _ hq))) (fun q hq => .tail _ hq) hrow6 hrow8) (by ktr_units) ?_
            have hs9 : ∀ q ∈ R3, q ∈ (D10, LCg.lst zs) :: nw' := fun q hq => .tail _ (hsub8 q (.tail _ (hsub6 q (.tail _ (.tail _ hq)))))
            have N13 : News _ _ _ ((C, oS) :: (De, listOf ev.toArray je) :: (Dp, listOf pv.toArray jp) :: T3) := news_sub N12 (fun q hq => hs9 q (by
              rw [hR3]; simp only [List.mem_append, List.mem_cons, List.not_mem_nil, or_false] at hq ⊢; rcases hq with h | h | h | h <;> simp [h]))
            have oTC : OwnOff T3 [C] := tab_offK N13 hT3 (fun e he => .tail _ (.tail _ (.tail _ he))) (.head _) (noFld_cell dS)
            clear N12 hs9 hsub8 hrow8 hrow6 hsub6 mpn hR3 mp3
            repeat' (first | (k_unfold; (try dsimp only)) | ((fail_if_success (with_reducible show wpAny _ _ (call (Value.builtin "sum") _) _ _ _)); first | (k_end; wrow_close) | walk1 | (dsimp only; walk1) | (leave1; try dsimp only)))
            rename Fr _ _ _ _ => F14
            rename News _ _ _ _ => N14
            refine LSm.sum_ints F14 N14 rfl (isL_up hsc F14) hIns ?_
            intro h14 tk14 t14 F15 N15
            clear F14 N14
            obtain ⟨k, hk⟩ : ∃ k : Nat, ns.sum.fmod ((b.size : Int) + 1) = (k : Int) := ⟨_, (Int.toNat_of_nonneg (fmod_lo _ (by omega))).symm⟩
            have hkb : k ≤ b.size := by have := fmod_hi (n := (b.size : Int) + 1) ns.sum (by omega); omega
            obtain ⟨n, hn, hn1, hn2⟩ := place_ex (ps := allP ths) (k := k) (allP ths).length (Nat.le_refl _)
            subst hC
            repeat' (first | (k_unfold; (try dsimp only)) | ((fail_if_success (with_reducible show wpAny _ _ (storeName _ _ (Value.int _ _)) _ _ _)); first | (k_end; wrow_close) | walk1 | (dsimp only; walk1) | (leave1; try dsimp only)))
            rw [hk]
            repeat' (first | (k_unfold; (try dsimp only)) | ((fail_if_success (with_reducible show wpAny _ _ (eval (Expr.ListComp _ _ _ _) _) _ _ _)); first | (k_end; wrow_close) | walk1 | (dsimp only; walk1) | (leave1; try dsimp only)))
            k_dflt (refine LCt.ListComp_T (F₀ := by k_asm) (by with_unfolding_all rfl) (by decide) (by rfl) (by decide) (by rfl) ?_)
            repeat' (first | (k_unfold; (try dsimp only)) | ((fail_if_success (with_reducible show LCt.CompSrcT _ _ _ _ _ _ _ _ _ _ _ _ _ _ _)); first | (k_end; wrow_close) | walk1 | (dsimp only; walk1) | (leave1; try dsimp only)))
            rename IntsAre _ (List.drop 1 es) => hws
            rename _ = Data.cell _ => dC
            rename Obj => oC
            rename Fr _ _ _ _ => F16
            rename News _ _ _ _ => N16
            have hwl := hws.length
            rw [List.length_drop, hlay.len] at hwl
            k_dflt (refine LCt.CompSrcT.ledger (by rfl) (by k_asm) (by k_asm) (by lcg_src) ?sz ?_)
            case sz => simp only [sizeLine_eq, List.size_toArray]; omega
            intro g11
            refine restT1 (fun i ys => IntsAre ys ((List.take i (List.drop 1 es)).filter (fun e => decide (e ≤ (k : Int))))) ?hS .nil ?fin9 ?turn9
            case hS => exact .inr ⟨_, by lcg_src, rfl, _, rfl⟩
            case turn9 =>
              rintro i v ys I9 oI9 C9 oC9 D9 m₂ h9 tk9 E' hi9 hv9 hJ9 hC9 hx9 F9 N9 off9 ne9
              obtain ⟨e, t, rfl, he, he1⟩ := ints_at hws hv9
              k_steps
              · exact CEnd1.intro F9 N9 (fun p hp => hp) (filt_yes hJ9 he1 (decide_eq_true (by assumption)))
              · exact CEnd1.intro F9 N9 (fun p hp => hp) (filt_no hJ9 he1 (decide_eq_false (by assumption)))
            case fin9 =>
              intro ys hJ9
              rw [List.size_toArray, hwl, List.take_of_length_le (by rw [List.length_drop, hlay.len]; exact Nat.le_refl _)] at hJ9
              have hyl : ys.length = n := by rw [hJ9.length]; exact hlay.whole hn hn1 hn2
              have hgn : es.getD ((n : Int)).toNat 0 = (pos (allP ths) n : Int) := by rw [Int.toNat_natCast]; exact hlay.get hn
              obtain ⟨te, hte⟩ := ints_get hev (i := n) (by omega)
              rw [hlay.get hn] at hte
              clear F16 N16
              unfold LCg.FinE
              intro D11 h16 tk16 F17 N17 o17
              repeat' (first | (k_unfold; (try dsimp only)) | ((fail_if_success (with_reducible show wpAny _ _ (storeName _ _ (Value.int _ _)) _ _ _)); first | (k_end; wrow_close) | walk1 | (dsimp only; walk1) | (leave1; try dsimp only)))
              rw [hyl]
              have N18 : News _ _ _ ((s1.heap.objs.size + 1, oC) :: (De, listOf ev.toArray je) :: (Dp, listOf pv.toArray jp) :: T3) := news_sub (by assumption) (fun q hq => .tail _ (.tail _ hq))
              clear N17 o17
              have hpk : KBy.picked b none (some (k : Int)) = cutB b 0 k := picked_upto
              have hcs : pos (allP ths) n = k ∨ pos (allP ths) n < k := by omega
              have hcsz : (cutB b 0 k).size = k := by rw [cutB_size]; omega
              have o58b : OwnOff [(s1.heap.objs.size + 1, oC), (De, listOf ev.toArray je), (Dp, listOf pv.toArray jp)] [58] := by
                intro q hq c hc; rw [List.mem_singleton.mp hc]; simp only [List.mem_cons, List.not_mem_nil, or_false] at hq; rcases hq with rfl | rfl | rfl <;> (show @Ne Nat _ _; dsimp only; omega)
              obtain ⟨kb, hkbI⟩ : ∃ ks, KBw.bInts b = ks := ⟨_, rfl⟩
              have hkbl : kb.length = b.size := by rw [← hkbI]; exact KBw.ints_length b
              rcases hcs with c1 | c1
              · repeat' (first | (k_unfold; (try dsimp only)) | ((fail_if_success (with_reducible show wpAny _ _ (subscriptTail _ _ _ _) _ _ _)); first | (k_end; wrow_close) | walk1 | (dsimp only; walk1) | (leave1; try dsimp only)))
                rename News _ _ _ _ => N20
                refine item_v N20 (by lcg_src) (i := n) rfl hte (by omega) ?_
                repeat' (first | (k_unfold; (try dsimp only)) | ((fail_if_success (with_reducible show wpAny _ _ (call (Value.ref 77) _) _ _ _)); first | (k_end; wrow_close) | walk1 | (dsimp only; walk1) | (leave1; try dsimp only)))
                rename Fr _ _ _ _ => F19
                rename News _ _ _ _ => N19
                rw [hpk]
                have N21 : News _ _ _ (T3 ++ [(s1.heap.objs.size + 1, oC), (De, listOf ev.toArray je), (Dp, listOf pv.toArray jp)]) := news_sub N19 (fun q hq => by
                  simp only [List.mem_append, List.mem_cons, List.not_mem_nil, or_false] at hq ⊢; rcases hq with h | h | h | h <;> simp [h])
                clear N19
                rw [show (pv.length : Int) + 1 = (((allP ths).length + 1 : Nat) : Int) by omega]
                k_dflt (refine runfalse_ct w (T := T3) (tries := (allP ths).length + 1) B0 F19 X0 N21 T0 ?XB ?TB codeHd hT3 o58b rfl ?_ ?_ ?_ ?_ (fun xs p hp => told_max hboc hz hkb hp) ?_)
                case XB => assumption
                case TB => assumption
                · ktr_room
                · ktr_units
                · omega
                · omega
                intro h20 tk20 T4 tp7 li7 v7 xs x j7 jt7 u5 u6 hT4 hlt7 hl71 hv7 hen7 F22 N22
                obtain ⟨e1, e2⟩ := cut_is hboc hz hkb hn hn1 hn2 hen7
                subst e1
                obtain rfl : x = msg0 := by
                  rcases e2 with ⟨_, h⟩ | ⟨c, _, h, _⟩
                  · exact h
                  · omega
                rw [hcsz] at N22
                have hbv7 := its_bytes hv7
                obtain ⟨R5, hR5⟩ : ∃ R5, R5 = T4 ++ [(s1.heap.objs.size + 1, oC), (De, listOf ev.toArray je), (Dp, listOf pv.toArray jp)] := ⟨_, rfl⟩
                obtain ⟨ps7, mT7⟩ := hT4.mem
                have mT8 : (58, tabObj ps7) ∈ R5 := by rw [hR5]; exact List.mem_append_left _ mT7
                have mC8 : (s1.heap.objs.size + 1, oC) ∈ R5 := by rw [hR5]; simp
                have mp8 : (Dp, listOf pv.toArray jp) ∈ R5 := by rw [hR5]; simp
                rw [← hR5] at N22
                clear N21 F19 hlt7 hen7 hR5 mT7 hT4 hv7
                repeat' (first | (k_unfold; (try dsimp only)) | ((fail_if_success (with_reducible show wpAny _ _ (subscriptTail _ _ (Value.ref _) (Value.ref _)) _ _ _)); first | (k_end; wrow_close) | walk1 | (dsimp only; walk1) | (leave1; try dsimp only)))
                rename Fr _ _ _ _ => F23
                rename News _ _ _ _ => N23
                refine slice_upto_any F23 N23 (by lcg_src) (by omega) (by omega) ?_ (by with_unfolding_all rfl) (by kmk_pure)
                intro Dq h21 F24 N24 l24
                clear F23 N23 l24
                rw [Int.toNat_natCast] at N24
                have hbt := bytes_take hpv n
                k_steps
              · have hnlt : n < (allP ths).length := by
                  rcases Nat.lt_or_ge n (allP ths).length with h | h
                  · exact h
                  · exfalso
                    have e1 : n = (allP ths).length := by omega
                    have e2 := hlay.size
                    rw [e1] at c1; omega
                obtain ⟨c, hc⟩ : ∃ c, (allP ths)[n]? = some c := ⟨_, List.getElem?_eq_getElem hnlt⟩
                have hcz := hz c (List.mem_of_getElem? hc)
                obtain ⟨tc, htc⟩ := bytes_get hpv hc
                repeat' (first | (k_unfold; (try dsimp only)) | ((fail_if_success (with_reducible show wpAny _ _ (subscriptTail _ _ _ _) _ _ _)); first | (k_end; wrow_close) | walk1 | (dsimp only; walk1) | (leave1; try dsimp only)))
                rename News _ _ _ _ => N20
                refine item_v N20 (by lcg_src) (i := n) rfl hte (by omega) ?_
                repeat' (first | (k_unfold; (try dsimp only)) | ((fail_if_success (with_reducible show wpAny _ _ (subscriptTail _ _ _ _) _ _ _)); first | (k_end; wrow_close) | walk1 | (dsimp only; walk1) | (leave1; try dsimp only)))
                refine item_v N20 (by lcg_src) (i := n) rfl htc (by omega) ?_
                repeat' (first | (k_unfold; (try dsimp only)) | ((fail_if_success (with_reducible show wpAny _ _ (subscriptTail _ _ _ _) _ _ _)); first | (k_end; wrow_close) | walk1 | (dsimp only; walk1) | (leave1; try dsimp only)))
                rename News _ _ _ _ => N20
                refine item_v N20 (by lcg_src) (i := n) rfl hte (by omega) ?_
                repeat' (first | (k_unfold; (try dsimp only)) | ((fail_if_success (with_reducible show wpAny _ _ (call (Value.ref 77) _) _ _ _)); first | (k_end; wrow_close) | walk1 | (dsimp only; walk1) | (leave1; try dsimp only)))
                rename Fr _ _ _ _ => F19
                rename News _ _ _ _ => N19
                rw [hpk]
                have N21 : News _ _ _ (T3 ++ [(s1.heap.objs.size + 1, oC), (De, listOf ev.toArray je), (Dp, listOf pv.toArray jp)]) := news_sub N19 (fun q hq => by
                  simp only [List.mem_append, List.mem_cons, List.not_mem_nil, or_false] at hq ⊢; rcases hq with h | h | h | h <;> simp [h])
                clear N19
                rw [show (pv.length : Int) + 1 = (((allP ths).length + 1 : Nat) : Int) by omega]
                k_dflt (refine runfalse_ct w (T := T3) (tries := (allP ths).length + 1) B0 F19 X0 N21 T0 ?XB ?TB codeHd hT3 o58b rfl ?_ ?_ ?_ ?_ (fun xs p hp => told_max hboc hz hkb hp) ?_)
                case XB => assumption
                case TB => assumption
                · ktr_room
                · ktr_units
                · omega
                · omega
                intro h20 tk20 T4 tp7 li7 v7 xs x j7 jt7 u5 u6 hT4 hlt7 hl71 hv7 hen7 F22 N22
                obtain ⟨e1, e2⟩ := cut_is hboc hz hkb hn hn1 hn2 hen7
                subst e1
                obtain rfl : x = msgB (c.size : Int) ((k : Int) - (pos (allP ths) n : Int) - 1) := by
                  rcases e2 with ⟨h, _⟩ | ⟨c', hc', _, h⟩
                  · omega
                  · rw [hc] at hc'; cases hc'; exact h
                rw [hcsz] at N22
                have hbv7 := its_bytes hv7
                obtain ⟨R5, hR5⟩ : ∃ R5, R5 = T4 ++ [(s1.heap.objs.size + 1, oC), (De, listOf ev.toArray je), (Dp, listOf pv.toArray jp)] := ⟨_, rfl⟩
                obtain ⟨ps7, mT7⟩ := hT4.mem
                have mT8 : (58, tabObj ps7) ∈ R5 := by rw [hR5]; exact List.mem_append_left _ mT7
                have mC8 : (s1.heap.objs.size + 1, oC) ∈ R5 := by rw [hR5]; simp
                have mp8 : (Dp, listOf pv.toArray jp) ∈ R5 := by rw [hR5]; simp
                rw [← hR5] at N22
                clear N21 F19 hlt7 hen7 hR5 mT7 hT4 hv7
                repeat' (first | (k_unfold; (try dsimp only)) | ((fail_if_success (with_reducible show wpAny _ _ (subscriptTail _ _ (Value.ref _) (Value.ref _)) _ _ _)); first | (k_end; wrow_close) | walk1 | (dsimp only; walk1) | (leave1; try dsimp only)))
                rename Fr _ _ _ _ => F23
                rename News _ _ _ _ => N23
                refine slice_upto_any F23 N23 (by lcg_src) (by omega) (by omega) ?_ (by with_unfolding_all rfl) (by kmk_pure)
                intro Dq h21 F24 N24 l24
                clear F23 N23 l24
                rw [Int.toNat_natCast] at N24
                have hbt := bytes_take hpv n
                k_steps)
end Mine
end
theorem PySem.Challenge.cw_dm0232_07_holds : PySem.Challenge.rw_dm0232_07.Holds :=
  Mine.law07
