import PyProof.Rows.All
import Wide.All
import OpenK.AllK
import Wide.FinOn
import PySem.Challenge.RW_dm0232_01
open PySem PySem.W PyProof.Rows
set_option Elab.async false
set_option maxRecDepth 100000
set_option maxHeartbeats 8000000
namespace Mine
open_top hd01 for PySem.Challenge.rw_dm0232_01
theorem top_off : True := by w_top off; trivial
end Mine
section
open PySem PySem.W PyProof.Rows PySem.Calls
set_option Elab.async false
namespace Mine
theorem upd_split {d : Addr} {o : Obj} {news : List (Addr × Obj)} {upd : Obj → List (Addr × Obj)} (U : UpdF d o news upd) :
    ∃ rest, OwnOff rest [d] ∧ (∀ q, q ∈ news ↔ q = (d, o) ∨ q ∈ rest) ∧ (∀ o' q, q ∈ upd o' ↔ q = (d, o') ∨ q ∈ rest) := by
  obtain ⟨pre, post, rfl, hu, h1, h2⟩ := U.split
  refine ⟨pre ++ post, fun q hq b hb => by rw [List.mem_singleton.mp hb]; exact (List.mem_append.mp hq).elim (h1 q) (h2 q), fun q => ?_, fun o' q => ?_⟩
  · simp only [List.mem_append, List.mem_cons]; constructor <;> (intro h; rcases h with h | h | h <;> simp [h])
  · rw [hu]; simp only [List.mem_append, List.mem_cons]; constructor <;> (intro h; rcases h with h | h | h <;> simp [h])
theorem news_sub {h₀ : Heap} {L : Addr} {h : Heap} {l l' : List (Addr × Obj)} (N : News h₀ L h l) (hs : ∀ p ∈ l', p ∈ l) : News h₀ L h l' := fun p hp => N p (hs p hp)

theorem off_lt {d : Nat} {rest : List (Addr × Obj)} {as : List Addr} (h : AllLt d rest) (hd : ∀ a ∈ as, d ≤ a) : OwnOff rest as :=
  fun q hq a ha => Nat.ne_of_lt (Nat.lt_of_lt_of_le (kst_ltOf h q hq) (hd a ha))
abbrev SD (P : Params) (k1 k2 : Tok) (r : Addr) (p : Int) (tp : Tok) : Obj :=
  dictOf [⟨PyData.keyHash P (Str.ofString "value"), .str (Str.ofString "value") k1, .int p tp⟩, ⟨PyData.keyHash P (Str.ofString "read"), .str (Str.ofString "read") k2, .ref r⟩] 2
/-- n octets from place q on -/
def cutB (b : Array UInt8) (q n : Nat) : Array UInt8 := ((b.toList.drop q).take n).toArray
/-- what a call of the stream's own read does -/
def ReadOk (prog : Program) (w : World) (K : Frag) (p : Program) (loose : List Str) (mean : ExcName → Option Value) (mg mb : Str → Option Value) (dx r : Addr) (k1 k2 : Tok) (b : Array UInt8) (I : List (Addr × Obj)) : Prop :=
  ∀ {dp un : Nat} {gd : Option (List Code)} {cn : Str} {cs : Scope} {a : Addr} {ccd : Value} {outer : List Env} {A₀ : Around} {base h₀ : Heap} {L : Addr} {m : Str → Option Value} {news : List (Addr × Obj)} {upd : Obj → List (Addr × Obj)} {s : Shared}
    {q n : Nat} {tq tn : Tok} {Q E : Value → Shared → Prop},
    Below A₀ base outer h₀ → Fr h₀ L s.heap m → K.In h₀ → News h₀ L s.heap news → Top p loose mean mg mb h₀ → cs.kind = .function → dp + 5 < recursionLimit → un + 40 < cLine →
    (∀ e ∈ I, e ∈ news) → UpdF dx (SD w.params k1 k2 r (q : Int) tq) news upd → q ≤ b.size → b.size ≤ 1048576 → n ≤ 1048576 →
    (∀ h' tk t1 t2, Fr h₀ L h' m → News h₀ L h' (upd (SD w.params k1 k2 r ((q + (cutB b q n).size : Nat) : Int) t1)) → Q (.bytes (cutB b q n) t2) { s with heap := h', toks := tk }) →
    wpAny (model prog w) (ktrTop dp un gd cn cs L a ccd [] outer) (call (.ref r) [.int (n : Int) tn]) Q E s
/-- neither a dict nor a list, tuple -/
def Kin (o : Obj) : Prop := (∀ es n, o.data ≠ .dict es n) ∧ ∀ vs n, o.data ≠ .seq vs n
theorem kin_func {o : Obj} {fd : FuncData} (h : o.data = .func fd) : Kin o := ⟨(fun _ _ e => by rw [h] at e; cases e), fun _ _ e => by rw [h] at e; cases e⟩
theorem kin_fields {o : Obj} {vs : Array Value} (h : o.data = .fields vs) : Kin o := ⟨(fun _ _ e => by rw [h] at e; cases e), fun _ _ e => by rw [h] at e; cases e⟩
theorem kin_plain {o : Obj} (h : o.data = .plain) : Kin o := ⟨(fun _ _ e => by rw [h] at e; cases e), fun _ _ e => by rw [h] at e; cases e⟩
theorem kin_cell {o : Obj} {v : Option Value} (h : o.data = .cell v) : Kin o := ⟨(fun _ _ e => by rw [h] at e; cases e), fun _ _ e => by rw [h] at e; cases e⟩
def KinL (l : List (Addr × Obj)) : Prop := ∀ e ∈ l, Kin e.2
theorem KinL.app {l l' : List (Addr × Obj)} (h : KinL l) (h' : KinL l') : KinL (l ++ l') := fun e he => (List.mem_append.mp he).elim (h e) (h' e)
theorem kin_offD {h₀ h : Heap} {L d : Addr} {R X : List (Addr × Obj)} {o : Obj} {es : Array DictEntry} {n : Nat} (N : News h₀ L h X) (hR : KinL R) (hs : ∀ e ∈ R, e ∈ X) (hm : (d, o) ∈ X) (ho : o.data = .dict es n) : OwnOff R [d] := fun q hq a ha e => by
  rw [List.mem_singleton.mp ha] at e
  have h1 := (N q (hs q hq)).1
  have h2 := (N _ hm).1
  rw [e] at h1
  have h3 : q.2 = o := Option.some.inj (h1.symm.trans h2)
  exact (hR q hq).1 es n (by rw [h3]; exact ho)
theorem kin_offS {h₀ h : Heap} {L d : Addr} {R X : List (Addr × Obj)} {o : Obj} {es : Array Value} {n : Nat} (N : News h₀ L h X) (hR : KinL R) (hs : ∀ e ∈ R, e ∈ X) (hm : (d, o) ∈ X) (ho : o.data = .seq es n) : OwnOff R [d] := fun q hq a ha e => by
  rw [List.mem_singleton.mp ha] at e
  have h1 := (N q (hs q hq)).1
  have h2 := (N _ hm).1
  rw [e] at h1
  have h3 : q.2 = o := Option.some.inj (h1.symm.trans h2)
  exact (hR q hq).2 es n (by rw [h3]; exact ho)
theorem off_cons {R : List (Addr × Obj)} {a : Addr} {as : List Addr} (h : OwnOff R [a]) (h' : OwnOff R as) : OwnOff R (a :: as) := fun q hq b hb =>
  (List.mem_cons.mp hb).elim (fun e => by rw [e]; exact h q hq a (List.mem_singleton.mpr rfl)) (h' q hq b)
/-- a stream: f bears the dict dx, whose read is r; the octets are b; what else belongs to it is I -/
structure Strm (prog : Program) (w : World) (K : Frag) (p : Program) (loose : List Str) (mean : ExcName → Option Value) (mg mb : Str → Option Value) (C f dx r : Addr) (k1 k2 : Tok) (b : Array UInt8) (I : List (Addr × Obj)) : Prop where
  inst : (f, instObj C dx) ∈ I
  fn : ∃ oc od fd sl, (r, (⟨oc, od, .func fd, sl⟩ : Obj)) ∈ I
  off : OwnOff I [dx]
  kin : KinL I
  read : ReadOk prog w K p loose mean mg mb dx r k1 k2 b I
/-- the table of the codes made within a code: none as yet, or the one of the stream's read -/
inductive Tab (P : Addr) (i j : Value) (qual : Str) : List (Addr × Obj) → Prop where
  | none : Tab P i j qual [(P, tabObj #[])]
  | some {c : Addr} {oc : Obj} {vs : Array Value} {t : Tok} : c ≠ P → oc.data = .fields vs → vs[1]? = some (.str qual t) → Tab P i j qual [(P, tabObj #[i, j, .ref c]), (c, oc)]
theorem off_one {l : List (Addr × Obj)} {d : Addr} (h : ∀ q ∈ l, q.1 ≠ d) : OwnOff l [d] := fun q hq a ha => by rw [List.mem_singleton.mp ha]; exact h q hq
theorem fin_none {h₀ h : Heap} {L f c x d l2 l1 P : Addr} {fo oc io sd o1 o2 tb : Obj} {rest : List (Addr × Obj)}
    (N : News h₀ L h ((f, fo) :: (c, oc) :: (x, io) :: (d, sd) :: (l2, o1) :: (l1, o2) :: (P, tb) :: rest)) :
    News h₀ L h ((d, sd) :: ([(f, fo), (c, oc), (x, io), (l2, o1), (l1, o2)] ++ ([(P, tb), (c, oc)] ++ rest))) :=
  news_sub N fun q hq => by
    simp only [List.mem_cons, List.mem_append, List.not_mem_nil, or_false] at hq ⊢
    rcases hq with h | (h | h | h | h | h) | (h | h) | h <;> simp [h]
theorem fin_some {h₀ h : Heap} {L f c x d l2 l1 P : Addr} {fo oc io sd o1 o2 tb : Obj} {rest : List (Addr × Obj)}
    (N : News h₀ L h ((f, fo) :: (x, io) :: (d, sd) :: (l2, o1) :: (l1, o2) :: (P, tb) :: (c, oc) :: rest)) :
    News h₀ L h ((d, sd) :: ([(f, fo), (c, oc), (x, io), (l2, o1), (l1, o2)] ++ ([(P, tb), (c, oc)] ++ rest))) :=
  news_sub N fun q hq => by
    simp only [List.mem_cons, List.mem_append, List.not_mem_nil, or_false] at hq ⊢
    rcases hq with h | (h | h | h | h | h) | (h | h) | h <;> simp [h]
theorem mem_rest {I news rest : List (Addr × Obj)} {d : Addr} {o : Obj} (hI : ∀ e ∈ I, e ∈ news) (ho : OwnOff I [d]) (hn : ∀ q, q ∈ news ↔ q = (d, o) ∨ q ∈ rest) : ∀ e ∈ I, e ∈ rest := fun e he =>
  ((hn e).mp (hI e he)).elim (fun q => absurd (congrArg Prod.fst q) (ho e he d (List.mem_singleton.mpr rfl))) id
theorem strm_mk {prog : Program} {w : World} {K : Frag} {p : Program} {loose : List Str} {mean : ExcName → Option Value} {mg mb : Str → Option Value} {C f dx r : Addr} {k1 k2 : Tok} {b : Array UInt8} {I : List (Addr × Obj)}
    (h1 : (f, instObj C dx) ∈ I) (h2 : ∃ oc od fd sl, (r, (⟨oc, od, .func fd, sl⟩ : Obj)) ∈ I) (h3 : OwnOff I [dx]) (hkin : KinL I) (h4 : OwnOff I [dx] → ReadOk prog w K p loose mean mg mb dx r k1 k2 b I) :
    Strm prog w K p loose mean mg mb C f dx r k1 k2 b I := ⟨h1, h2, h3, hkin, h4 h3⟩
theorem cutB_size (b : Array UInt8) (q n : Nat) : (cutB b q n).size = min n (b.size - q) := by
  simp [cutB]
theorem picked_cut {b : Array UInt8} {q n : Nat} (hq : q ≤ b.size) : KBy.picked b (some (q : Int)) (some ((q : Int) + (n : Int))) = cutB b q n := by
  have e : ((q : Int) + (n : Int)) = ((q + n : Nat) : Int) := by omega
  rw [KBc.picked_eq, e]
  simp only [Option.elim, clipAt_nat]
  unfold cutB
  rw [Nat.min_eq_left hq]
  congr 1
  have hl : (b.toList.drop q).length = b.size - q := by simp
  by_cases h : q + n ≤ b.size
  · rw [Nat.min_eq_left h, Nat.add_sub_cancel_left]
  · rw [Nat.min_eq_right (by omega), List.take_of_length_le (by omega), List.take_of_length_le (by omega)]
theorem read_place {b : Array UInt8} {q n l : Nat} (hq : q ≤ b.size) (hl : l = b.size) :
    (q : Int) + ((min (clipAt l ((q : Int) + (n : Int)) - min q l) (l - min q l) : Nat) : Int) = ((q + (cutB b q n).size : Nat) : Int) := by
  have e : ((q : Int) + (n : Int)) = ((q + n : Nat) : Int) := by omega
  rw [cutB_size, e, clipAt_nat, hl]
  omega
theorem read_fin {h₀ h : Heap} {L d : Addr} {P : Params} {k1 k2 : Tok} {r : Addr} {v v' : Int} {t : Tok} {rest : List (Addr × Obj)} {upd : Obj → List (Addr × Obj)}
    (N : News h₀ L h ((d, SD P k1 k2 r v t) :: rest)) (hv : v = v') (hup : ∀ o' q, q ∈ upd o' ↔ q = (d, o') ∨ q ∈ rest) : News h₀ L h (upd (SD P k1 k2 r v' t)) := by
  subst hv
  exact news_sub N fun q hq => List.mem_cons.mpr ((hup _ q).mp hq)
def Sub (I R : List (Addr × Obj)) : Prop := ∀ e ∈ I, e ∈ R
theorem Sub.cons {I R : List (Addr × Obj)} {q : Addr × Obj} (h : Sub I R) : Sub I (q :: R) := fun e he => List.mem_cons_of_mem _ (h e he)
/-- the octet at a place, a number -/
def oct (b : Array UInt8) (q : Nat) : Nat := (b.toList.getD q 0).toNat
theorem oct_lt (b : Array UInt8) (q : Nat) : oct b q < 256 := UInt8.toNat_lt _
theorem ints_cut1 {b : Array UInt8} {q : Nat} (h : q < b.size) : KBw.bInts (cutB b q 1) = [(oct b q : Int)] := by
  have h' : q < b.toList.length := by simpa using h
  unfold cutB
  rw [List.drop_eq_getElem_cons h', List.take_succ_cons, List.take_zero]
  simp [KBw.bInts, List.getD, h, oct]
theorem ints_cut0 {b : Array UInt8} {n : Nat} : KBw.bInts (cutB b b.size n) = [] := by
  unfold cutB
  rw [List.drop_of_length_le (by simp)]
  simp [KBw.bInts]
theorem cut1_size {b : Array UInt8} {q : Nat} (h : q < b.size) : (cutB b q 1).size = 1 := by rw [cutB_size]; omega
theorem cut0_size {b : Array UInt8} {n : Nat} : (cutB b b.size n).size = 0 := by rw [cutB_size]; omega
theorem raised_sub {base G : Heap} {l : List Env} {e : Addr} {cls : Value} {t : Addr} {vs : List Value} {news news' : List (Addr × Obj)} {h : Heap} (R : RaisedS base G l e cls t vs news h) (hs : ∀ q ∈ news', q ∈ news) : RaisedS base G l e cls t vs news' h := by
  obtain ⟨⟨B, h1, h2, h3, h4⟩, h5⟩ := R
  exact ⟨⟨B, h1, h2, fun q hq => h3 q (hs q hq), h4⟩, h5⟩
theorem strm_read {prog : Program} {w : World} {K : Frag} {p : Program} {loose : List Str} {mean : ExcName → Option Value} {mg mb : Str → Option Value} {C f dx r : Addr} {k1 k2 : Tok} {b : Array UInt8} {I : List (Addr × Obj)}
    {dp un : Nat} {gd : Option (List Code)} {cn : Str} {cs : Scope} {a : Addr} {ccd : Value} {outer : List Env} {A₀ : Around} {base h₀ : Heap} {L : Addr} {m : Str → Option Value} {news : List (Addr × Obj)} {upd : Obj → List (Addr × Obj)} {s : Shared}
    {q : Nat} {v : Int} {tq tn : Tok} {Q E : Value → Shared → Prop} (n : Nat) (hv : v = (n : Int))
    (S : Strm prog w K p loose mean mg mb C f dx r k1 k2 b I) (B : Below A₀ base outer h₀) (F : Fr h₀ L s.heap m) (X : K.In h₀) (N : News h₀ L s.heap news) (T : Top p loose mean mg mb h₀) (hk : cs.kind = .function) (hd : dp + 5 < recursionLimit) (hu : un + 40 < cLine)
    (hI : Sub I news) (U : UpdF dx (SD w.params k1 k2 r (q : Int) tq) news upd) (hq : q ≤ b.size) (hb : b.size ≤ 1048576) (hn : n ≤ 1048576)
    (h : ∀ h' tk t1 t2, Fr h₀ L h' m → News h₀ L h' (upd (SD w.params k1 k2 r ((q + (cutB b q n).size : Nat) : Int) t1)) → Q (.bytes (cutB b q n) t2) { s with heap := h', toks := tk }) :
    wpAny (model prog w) (ktrTop dp un gd cn cs L a ccd [] outer) (call (.ref r) [.int v tn]) Q E s := by
  subst hv
  exact S.read B F X N T hk hd hu hI U hq hb hn h
theorem raise_fin {base G : Heap} {l : List Env} {e : Addr} {cls : Value} {t : Addr} {vs : List Value} {h : Heap} {d : Addr} {P : Params} {k1 k2 : Tok} {r : Addr} {v v' : Int} {tt : Tok} {rest : List (Addr × Obj)} {upd : Obj → List (Addr × Obj)}
    (R : RaisedS base G l e cls t vs ((d, SD P k1 k2 r v tt) :: rest) h) (hv : v = v') (hup : ∀ o' q, q ∈ upd o' ↔ q = (d, o') ∨ q ∈ rest) : RaisedS base G l e cls t vs (upd (SD P k1 k2 r v' tt)) h := by
  subst hv
  exact raised_sub R fun q hq => List.mem_cons.mpr ((hup _ q).mp hq)
abbrev msg0 : Str := Str.ofString "not enough data in stream to read uint1"
abbrev msgB (n k : Int) : Str := Str.ofString "expected " ++ Str.ofString (toString n) ++ Str.ofString " bytes in a bytes1, but only " ++ Str.ofString (toString k) ++ Str.ofString " remain"
abbrev msgS (n k : Int) : Str := Str.ofString "expected " ++ Str.ofString (toString n) ++ Str.ofString " bytes in a string1, but only " ++ Str.ofString (toString k) ++ Str.ofString " remain"
theorem raise_fin2 {base G : Heap} {l : List Env} {e : Addr} {cls : Value} {t : Addr} {vs vs' : List Value} {h : Heap} {d : Addr} {P : Params} {k1 k2 : Tok} {r : Addr} {v v' : Int} {tt : Tok} {x : Addr × Obj} {rest : List (Addr × Obj)} {upd : Obj → List (Addr × Obj)}
    (R : RaisedS base G l e cls t vs (x :: (d, SD P k1 k2 r v tt) :: rest) h) (hv : v = v') (hvs : vs = vs') (hup : ∀ o' q, q ∈ upd o' ↔ q = (d, o') ∨ q ∈ rest) : RaisedS base G l e cls t vs' (upd (SD P k1 k2 r v' tt)) h := by
  subst hv hvs
  exact raised_sub R fun q hq => List.mem_cons_of_mem _ (List.mem_cons.mpr ((hup _ q).mp hq))
theorem news_x2 {h₀ h : Heap} {L d tp : Addr} {o o' : Obj} {P : Params} {k1 k2 : Tok} {r : Addr} {v v' : Int} {t : Tok} {rest : List (Addr × Obj)} {upd : Obj → List (Addr × Obj)}
    (N : News h₀ L h ((tp, o) :: (d, SD P k1 k2 r v t) :: rest)) (hv : v = v') (ho : o = o') (hup : ∀ o' q, q ∈ upd o' ↔ q = (d, o') ∨ q ∈ rest) : News h₀ L h ((tp, o') :: upd (SD P k1 k2 r v' t)) := by
  subst hv ho
  refine news_sub N fun q hq => ?_
  rcases List.mem_cons.mp hq with h | h
  · exact List.mem_cons.mpr (.inl h)
  · exact List.mem_cons_of_mem _ (List.mem_cons.mpr ((hup _ q).mp h))
theorem lt_all {d tp : Nat} {o : Obj} {news rest : List (Addr × Obj)} (h : d < tp ∧ AllLt tp rest) (hn : ∀ q, q ∈ news ↔ q = (d, o) ∨ q ∈ rest) : ∀ q ∈ news, q.1 < tp := fun q hq => by
  rcases (hn q).mp hq with rfl | hq
  · exact h.1
  · exact kst_ltOf h.2 q hq
theorem Tab.kin {P : Addr} {i j : Value} {qual : Str} {T : List (Addr × Obj)} (h : Tab P i j qual T) : KinL T := by
  cases h with
  | none => exact fun e he => by rw [List.mem_singleton.mp he]; exact kin_fields rfl
  | some _ hd _ =>
    intro e he
    simp only [List.mem_cons, List.not_mem_nil, or_false] at he
    rcases he with rfl | rfl
    · exact kin_fields rfl
    · exact kin_fields hd
theorem Tab.mem {P : Addr} {i j : Value} {qual : Str} {T : List (Addr × Obj)} (h : Tab P i j qual T) : ∃ ps, (P, tabObj ps) ∈ T := by
  cases h with
  | none => exact ⟨_, .head _⟩
  | some _ _ _ => exact ⟨_, .head _⟩
end Mine
end
section
open PySem PySem.W PyProof.Rows PySem.Calls
set_option Elab.async false
set_option maxRecDepth 100000
set_option maxHeartbeats 8000000
namespace Mine
theorem fmtB {n k : Int} {u v t : Tok} {b : Addr} (hn : 0 ≤ n) (hn' : n < 1000000) (hk : 0 ≤ k) (hk' : k < 1000000) :
    Meets (Builtin.«str.__mod__» ⟨[.str (Str.mk #[101, 120, 112, 101, 99, 116, 101, 100, 32, 37, 100, 32, 98, 121, 116, 101, 115, 32, 105, 110, 32, 97, 32, 98, 121, 116, 101, 115, 49, 44, 32, 98, 117, 116, 32, 111, 110, 108, 121, 32, 37, 100, 32, 114, 101, 109, 97, 105, 110]) t, .ref b], []⟩) (fun _ R s => IsTup s.heap b #[.int n u, .int k v] ∧ ∀ t' j, R (.ok (.ret (.str (msgB n k) t'))) { s with toks := j }) := by
  kpt_run
theorem modB {prog : Program} {w : World} {A : Around} {E : Value → Shared → Prop} {s : Shared} {t u v : Tok} {Q : Value → Shared → Prop} {b L : Addr} {j : Nat} {h₀ : Heap} {news : List (Addr × Obj)} {n k : Int}
    (N : News h₀ L s.heap news) (hb : (b, ({ cls := .type "tuple", data := .seq #[.int n u, .int k v] j } : Obj)) ∈ news) (hn : 0 ≤ n) (hn' : n < 1000000) (hk : 0 ≤ k) (hk' : k < 1000000)
    (h : ∀ t' j, Q (.str (msgB n k) t') { s with toks := j }) : wpAny (model prog w) A (binaryOp .Mod (.str (Str.ofString "expected %d bytes in a bytes1, but only %d remain") t) (.ref b)) Q E s :=
  KPt.mod_tuple N hb (by decide +kernel) (fmtB hn hn' hk hk') h
theorem fmtS {n k : Int} {u v t : Tok} {b : Addr} (hn : 0 ≤ n) (hn' : n < 1000000) (hk : 0 ≤ k) (hk' : k < 1000000) :
    Meets (Builtin.«str.__mod__» ⟨[.str (Str.mk #[101, 120, 112, 101, 99, 116, 101, 100, 32, 37, 100, 32, 98, 121, 116, 101, 115, 32, 105, 110, 32, 97, 32, 115, 116, 114, 105, 110, 103, 49, 44, 32, 98, 117, 116, 32, 111, 110, 108, 121, 32, 37, 100, 32, 114, 101, 109, 97, 105, 110]) t, .ref b], []⟩) (fun _ R s => IsTup s.heap b #[.int n u, .int k v] ∧ ∀ t' j, R (.ok (.ret (.str (msgS n k) t'))) { s with toks := j }) := by
  kpt_run
theorem modS {prog : Program} {w : World} {A : Around} {E : Value → Shared → Prop} {s : Shared} {t u v : Tok} {Q : Value → Shared → Prop} {b L : Addr} {j : Nat} {h₀ : Heap} {news : List (Addr × Obj)} {n k : Int}
    (N : News h₀ L s.heap news) (hb : (b, ({ cls := .type "tuple", data := .seq #[.int n u, .int k v] j } : Obj)) ∈ news) (hn : 0 ≤ n) (hn' : n < 1000000) (hk : 0 ≤ k) (hk' : k < 1000000)
    (h : ∀ t' j, Q (.str (msgS n k) t') { s with toks := j }) : wpAny (model prog w) A (binaryOp .Mod (.str (Str.ofString "expected %d bytes in a string1, but only %d remain") t) (.ref b)) Q E s :=
  KPt.mod_tuple N hb (by decide +kernel) (fmtS hn hn' hk hk') h
end Mine
end
section
open PySem PySem.W PyProof.Rows PySem.Calls PySem.Spec
set_option Elab.async false
namespace Mine
/-- all that is known of a frame whose ground may have turned (the slots of the frames above) -/
structure XSt (K : Frag) (A₀ : Around) (base : Heap) (outer : List Env) (p : Program) (loose : List Str) (mean : ExcName → Option Value) (mg mb : Str → Option Value) (g₀ : Heap) (L : Addr) (g h : Heap) (m : Str → Option Value) (news : List (Addr × Obj)) : Prop where
  turn : KtsTurn (outer.filterMap (·.frame)) g₀ g
  fr : Fr g L h m
  nw : News g L h news
  bl : Below A₀ base outer g
  kin : K.In g
  top : Top p loose mean mg mb g
  dicts : KtsDicts (outer.filterMap (·.frame)) g

def EndX (K : Frag) (A₀ : Around) (base : Heap) (outer : List Env) (p : Program) (loose : List Str) (mean : ExcName → Option Value) (mg mb : Str → Option Value) (g₀ : Heap) (L : Addr) (J : (Str → Option Value) → List (Addr × Obj) → Prop) (own : List (Addr × Obj)) (adr : List Addr) (s s₂ : Shared) : Prop :=
  ∃ g h' tk m' news' nx, s₂ = { s with heap := h', toks := tk } ∧ XSt K A₀ base outer p loose mean mg mb g₀ L g h' m' news' ∧ (∀ q ∈ nx, q ∈ news') ∧ (∀ q ∈ own, q ∈ news') ∧ nx.map (·.1) = adr ∧ J m' nx
def PostX (K : Frag) (A₀ : Around) (base : Heap) (outer : List Env) (p : Program) (loose : List Str) (mean : ExcName → Option Value) (mg mb : Str → Option Value) (g₀ : Heap) (L : Addr) (J : (Str → Option Value) → List (Addr × Obj) → Prop) (own : List (Addr × Obj)) (adr : List Addr) (Q : Flow → Shared → Prop) (s : Shared) (f : Flow) (s₂ : Shared) : Prop :=
  match f with
  | .ret v => Q (.ret v) s₂
  | .brk => Q .next s₂
  | _ => EndX K A₀ base outer p loose mean mg mb g₀ L J own adr s s₂
section
variable {K : Frag} {A₀ : Around} {base : Heap} {outer : List Env} {p : Program} {loose : List Str} {mean : ExcName → Option Value} {mg mb : Str → Option Value} {g₀ : Heap}
theorem EndX.intro {L : Addr} {J : (Str → Option Value) → List (Addr × Obj) → Prop} {own : List (Addr × Obj)} {adr : List Addr} {s : Shared} {g h' : Heap} {tk : Nat} {m' : Str → Option Value} {news' nx : List (Addr × Obj)}
    (T : KtsTurn (outer.filterMap (·.frame)) g₀ g) (F : Fr g L h' m') (N : News g L h' news') (B : Below A₀ base outer g) (X : K.In g) (P : Top p loose mean mg mb g) (D : KtsDicts (outer.filterMap (·.frame)) g)
    (hj : J m' nx) (ha : nx.map (·.1) = adr) (hn : ∀ q ∈ nx, q ∈ news') (ho : ∀ q ∈ own, q ∈ news') : EndX K A₀ base outer p loose mean mg mb g₀ L J own adr s { s with heap := h', toks := tk } :=
  ⟨g, h', tk, m', news', nx, rfl, ⟨T, F, N, B, X, P, D⟩, hn, ho, ha, hj⟩

theorem loopX {prog : Program} {w : World} {A : Around} {s : Shared} {env : Env} {R : Result → Shared → Prop} {x : Str} {px : Pos} {body : List Stmt} {I : Addr} {n : Nat} {P : Nat → Value → Prop} {St : Nat → Heap → Prop} {m₀ : Str → Option Value} {news : List (Addr × Obj)} {g : Heap}
    (J : Nat → (Str → Option Value) → List (Addr × Obj) → Prop) (Q : Flow → Shared → Prop) (E : Value → Shared → Prop)
    (W : Walks prog w A I [I] [I] n P St) (hx : env.kindOf x = some .local)
    (hp : (env.scope.kind == .class || (env.scope.kind == .module && env.locals != env.globals)) = false)
    (hLI : env.locals ≠ I) (hgI : g₀.get? I = none) (hnI : ∀ q ∈ news, q.1 ≠ I)
    (hst : St 0 s.heap) (X₀ : XSt K A₀ base outer p loose mean mg mb g₀ env.locals g s.heap m₀ news) (hj : J 0 m₀ news)
    (hE : ∀ e s', E e s' → notedBy (model prog w) A env (fun e s' => R (.error e) s') e s')
    (hQ : ∀ f s', Q f s' → R (.ok f) s')
    (turn : ∀ i v g m₁ news₁ h tk own, i < n → P i v → news₁.map (·.1) = news.map (·.1) → OwnOff own (news.map (·.1)) → J i m₁ news₁ →
      XSt K A₀ base outer p loose mean mg mb g₀ env.locals g h (fun y => if y = x then some v else m₁ y) (news₁ ++ own) →
      wpAny (model prog w) A (execs body env) (PostX K A₀ base outer p loose mean mg mb g₀ env.locals (J (i + 1)) own (news.map (·.1)) Q s) E { s with heap := h, toks := tk })
    (done : ∀ g m₁ news₁ h tk, J n m₁ news₁ → XSt K A₀ base outer p loose mean mg mb g₀ env.locals g h m₁ news₁ → Q .next { s with heap := h, toks := tk }) :
    codeAny (model prog w) A (.forLoop (.Name x px) (.ref I) body [] env) R s := by
  refine codeAny_forLoop
    (fun k s' => ∃ h' tk g m' news' i, s' = { s with heap := h', toks := tk } ∧ St i h' ∧ XSt K A₀ base outer p loose mean mg mb g₀ env.locals g h' m' news' ∧ news'.map (·.1) = news.map (·.1) ∧ J i m' news' ∧ i ≤ n ∧ k = n + 1 - i) ?_ (n + 1)
    ⟨s.heap, s.toks, g, m₀, news, 0, rfl, hst, X₀, rfl, hj, Nat.zero_le _, rfl⟩
  rintro k s' ⟨h', tk, g, m', news', i, rfl, hst', X', ha', hJ, hi, rfl⟩
  have nI : ∀ q ∈ news', q.1 ≠ I := fun q hq e => by
    have h1 : q.1 ∈ news'.map (·.1) := List.mem_map.mpr ⟨q, hq, rfl⟩
    rw [ha'] at h1
    obtain ⟨q', hq', e'⟩ := List.mem_map.mp h1
    exact hnI q' hq' (e'.trans e)
  have gI : g.get? I = none := X'.turn.none_ _ hgI
  have next : ∀ h₁ : Heap, (∀ b o, b ∉ [I] → h'.get? b = some o → h₁.get? b = some o) → XSt K A₀ base outer p loose mean mg mb g₀ env.locals g h₁ m' news' := fun h₁ hk₁ =>
    ⟨X'.turn, ⟨X'.fr.ns.at' fun o e => hk₁ _ o (by simpa using hLI) e, fun b o e => hk₁ b o (fun hb => by rw [List.mem_singleton.mp hb, gI] at e; cases e) (X'.fr.keep b o e), X'.fr.above⟩,
      fun q hq => ⟨hk₁ _ _ (by simpa using nI q hq) (X'.nw q hq).1, (X'.nw q hq).2⟩, X'.bl, X'.kin, X'.top, X'.dicts⟩
  by_cases hlt : i < n
  · refine W.item i _ _ _ hlt hst' fun v h₁ tk₁ hP hst₁ hk₁ => ?_
    have X₁ := next h₁ hk₁
    refine wpAny_assign_Name (wpAny_storeName_local hx X₁.fr.ns (fun h₂ hn₂ hs₂ => ?_) hp)
    have F₂ := X₁.fr.set hn₂ hs₂
    have N₂ := X₁.nw.set hs₂
    have hst₂ : St (i + 1) h₂ := W.frame _ _ _ hst₁ fun b hb o e => (hs₂.2 b fun q => hLI (by rw [List.mem_singleton.mp hb] at q; exact q.symm)).trans e
    have own : ∃ own : List (Addr × Obj), News g env.locals h₂ own ∧ OwnOff own (news.map (·.1)) ∧ (∀ o, h₂.get? I = some o → (I, o) ∈ own) := by
      cases ho : h₂.get? I with
      | none => exact ⟨[], News.nil, fun _ hq => (nomatch hq), fun o e => nomatch e⟩
      | some o =>
        refine ⟨[(I, o)], fun q hq => ?_, fun q hq b hb => ?_, fun o' e => ?_⟩
        · rw [List.mem_singleton.mp hq]; exact ⟨ho, hLI.symm, gI⟩
        · rw [List.mem_singleton.mp hq]
          obtain ⟨q', hq', e'⟩ := List.mem_map.mp hb
          exact fun e => hnI q' hq' (e'.trans e.symm)
        · cases e; exact List.mem_singleton.mpr rfl
    obtain ⟨own, No, hoff, hown⟩ := own
    have N₃ : News g env.locals h₂ (news' ++ own) := fun q hq => (List.mem_append.mp hq).elim (N₂ q) (No q)
    refine wpAny_mono (turn i v g m' news' h₂ _ own hlt hP ha' hoff hJ ⟨X₁.turn, F₂, N₃, X₁.bl, X₁.kin, X₁.top, X₁.dicts⟩) (fun f s₃ h₃ => ?_) fun e s' h' => hE e s' h'
    have fin : EndX K A₀ base outer p loose mean mg mb g₀ env.locals (J (i + 1)) own (news.map (·.1)) s s₃ → ∃ m, m < n + 1 - i ∧ ∃ h' tk g m' news' i', s₃ = { s with heap := h', toks := tk } ∧ St i' h' ∧ XSt K A₀ base outer p loose mean mg mb g₀ env.locals g h' m' news' ∧ news'.map (·.1) = news.map (·.1) ∧ J i' m' news' ∧ i' ≤ n ∧ m = n + 1 - i' := by
      rintro ⟨g₃, h₃', tk₃, m₃, news₃, nx, rfl, X₃, hsub, hso, hadr, hJ₃⟩
      have keepI : ∀ o, h₂.get? I = some o → h₃'.get? I = some o := fun o e => (X₃.nw _ (hso _ (hown o e))).1
      refine ⟨n + 1 - (i + 1), by omega, h₃', tk₃, g₃, m₃, nx, i + 1, rfl, ?_, ⟨X₃.turn, X₃.fr, fun q hq => X₃.nw q (hsub q hq), X₃.bl, X₃.kin, X₃.top, X₃.dicts⟩, hadr, hJ₃, hlt, rfl⟩
      exact W.frame _ _ _ hst₂ fun b hb o e => by rw [List.mem_singleton.mp hb] at e ⊢; exact keepI o e
    cases f with
    | ret v => exact hQ _ _ h₃
    | brk => exact hQ _ _ h₃
    | next => exact fin h₃
    | cont => exact fin h₃
  · have hin : i = n := by omega
    subst hin
    refine W.done _ _ _ hst' fun h₁ tk₁ hk₁ => wpAny_execs_nil ?_
    exact hQ _ _ (done g m' news' h₁ tk₁ hJ (next h₁ hk₁))

theorem iterX_range {prog : Program} {w : World} {A : Around} {s : Shared} {env : Env} {x : Str} {px : Pos} {body : List Stmt} {r : Addr} {a₀ b₀ : Int} {t₀ u₀ v₀ : Tok} {n : Nat} {m₀ : Str → Option Value} {news : List (Addr × Obj)} {g : Heap} {Q : Flow → Shared → Prop} {E : Value → Shared → Prop}
    (J : Nat → (Str → Option Value) → List (Addr × Obj) → Prop)
    (hh : A.handled = none) (hr : IsRange s.heap r a₀ b₀ 1 t₀ u₀ v₀) (hsmall : Builtin.Range.small a₀ b₀ 1 = true) (hn : Builtin.Range.rangeSize a₀ b₀ 1 = (n : Int)) (hx : env.kindOf x = some .local)
    (hp : (env.scope.kind == .class || (env.scope.kind == .module && env.locals != env.globals)) = false)
    (X₀ : XSt K A₀ base outer p loose mean mg mb g₀ env.locals g s.heap m₀ news) (hj : J 0 m₀ news)
    (hE : PassesOwn (model prog w) A env E)
    (turn : ∀ i t g m₁ news₁ h tk own, i < n → news₁.map (·.1) = news.map (·.1) → OwnOff own (news.map (·.1)) → J i m₁ news₁ →
      XSt K A₀ base outer p loose mean mg mb g₀ env.locals g h (fun y => if y = x then some (.int (a₀ + (i : Nat)) t) else m₁ y) (news₁ ++ own) →
      wpAny (model prog w) A (execs body env) (PostX K A₀ base outer p loose mean mg mb g₀ env.locals (J (i + 1)) own (news.map (·.1)) Q s) E { s with heap := h, toks := tk })
    (done : ∀ g m₁ news₁ h tk, J n m₁ news₁ → XSt K A₀ base outer p loose mean mg mb g₀ env.locals g h m₁ news₁ → Q .next { s with heap := h, toks := tk }) :
    wpAny (model prog w) A (pyIter (.ref r)) (fun it s₂ => codeAny (model prog w) A (.forLoop (.Name x px) it body [] env) (fun r s' => match r with | .ok f => Q f s' | .error e => cameBackBy (model prog w) A env E e s') s₂) E s := by
  refine wpAny_pyIter_range hr hsmall ?_
  have W : Walks prog w A s.heap.objs.size [s.heap.objs.size] [s.heap.objs.size] n (fun i v => i < n ∧ ∃ t, v = .int (a₀ + i * 1) t)
      (fun i h => IsRangeIter h s.heap.objs.size (a₀ + (i : Nat) * 1) ((n : Int) - (i : Nat)) 1) := (Walks.range hh _ a₀ 1 n).bound
  have gN : g₀.get? s.heap.objs.size = none := by
    cases q : g₀.get? s.heap.objs.size with
    | none => rfl
    | some o =>
      obtain ⟨sl, hs⟩ := X₀.turn.up q
      exact absurd (Heap.lt_size (X₀.fr.keep _ _ hs)) (Nat.lt_irrefl _)
  refine loopX (s := { s with heap := s.heap.push _ }) J Q E W hx hp (Nat.ne_of_lt X₀.fr.ns.lt) gN (fun q hq => Nat.ne_of_lt (Heap.lt_size (X₀.nw q hq).1)) ?_ ⟨X₀.turn, X₀.fr.push _, fun q hq => ⟨Heap.get?_push_of_some _ (X₀.nw q hq).1, (X₀.nw q hq).2⟩, X₀.bl, X₀.kin, X₀.top, X₀.dicts⟩ hj (fun e s' h => hE e s' h) (fun _ _ h => h) ?_ ?_
  · show IsRangeIter _ _ _ _ _
    rw [hn]; simpa using Heap.get?_push_size _ rfl
  · rintro i v g m₁ news₁ h tk own hi ⟨_, t, rfl⟩ ha hoff hJ X
    have e1 : a₀ + (i : Int) * 1 = a₀ + (i : Int) := by omega
    rw [e1] at X
    exact turn i t g m₁ news₁ h tk own hi ha hoff hJ X
  · intro g m₁ news₁ h tk hJ X
    exact done g m₁ news₁ h tk hJ X
/-- names that are known are written out -/
theorem fr_names {g h : Heap} {L : Addr} {m : Str → Option Value} (F : Fr g L h m) (ps : List (Str × Value)) (hk : ∀ q ∈ ps, m q.1 = some q.2) : Fr g L h (kstB m ps) := by
  have e : kstB m ps = m := funext fun z => kstB_eq hk fun _ => rfl
  rw [e]; exact F
end
end Mine
end
section
open PySem PySem.W PyProof.Rows PySem.Calls PySem.Spec
set_option Elab.async false
namespace Mine
theorem cut_snoc {b : Array UInt8} {a i : Nat} (h : a + i < b.size) : KBw.bInts (cutB b a (i + 1)) = KBw.bInts (cutB b a i) ++ [(oct b (a + i) : Int)] := by
  have h1 : i < (b.toList.drop a).length := by simp; omega
  unfold cutB oct
  rw [List.take_add_one, List.getElem?_eq_getElem h1]
  simp [KBw.bInts, List.getD, h]
theorem cut_zero {b : Array UInt8} {a : Nat} : KBw.bInts (cutB b a 0) = [] := by simp [cutB, KBw.bInts]
theorem bInts_in (c : Array UInt8) : KBa.In (KBw.bInts c) := fun _ h => KBw.ints_in h
theorem byteArr_bInts (c : Array UInt8) : byteArr (KBw.bInts c) = c := by
  unfold byteArr KBw.bInts
  simp only [List.map_map]
  have : ((fun n : Int => n.toNat.toUInt8) ∘ fun c : UInt8 => (c.toNat : Int)) = id := by
    funext x
    simp
  rw [this]
  simp
theorem ints_snoc {vs : List Value} {ns : List Int} (h : IntsAre vs ns) (n : Int) (t : Tok) : IntsAre (vs ++ [.int n t]) (ns ++ [n]) := h.append (.cons n t .nil)
theorem news_drop2 {h₀ h : Heap} {L : Addr} {a b : Addr × Obj} {l : List (Addr × Obj)} (N : News h₀ L h (a :: b :: l)) : News h₀ L h (a :: l) :=
  news_sub N fun q hq => by rcases List.mem_cons.mp hq with h | h <;> simp [h]
theorem sub_two {a b : Addr × Obj} {rest own : List (Addr × Obj)} : ∀ q ∈ a :: b :: rest, q ∈ a :: b :: (rest ++ own) := fun q hq => by
  simp only [List.mem_cons, List.mem_append] at hq ⊢
  rcases hq with h | h | h <;> simp [h]
theorem own_two {a b : Addr × Obj} {rest own : List (Addr × Obj)} : ∀ q ∈ own, q ∈ a :: b :: (rest ++ own) := fun q hq => by
  simp only [List.mem_cons, List.mem_append]; exact .inr (.inr (.inr hq))
theorem news_drop2' {h₀ h : Heap} {L : Addr} {a b c : Addr × Obj} {rest own : List (Addr × Obj)} (N : News h₀ L h (a :: b :: c :: (rest ++ own))) : News h₀ L h (a :: c :: rest) :=
  news_sub N fun q hq => by simp only [List.mem_cons, List.mem_append] at hq ⊢; rcases hq with h | h | h <;> simp [h]
theorem lt_all' {d tp : Nat} {x : Prop} {o : Obj} {news rest own : List (Addr × Obj)} (h : x ∧ d < tp ∧ AllLt tp (rest ++ own)) (hn : ∀ q, q ∈ news ↔ q = (d, o) ∨ q ∈ rest) : ∀ q ∈ news, q.1 < tp := fun q hq => by
  rcases (hn q).mp hq with rfl | hq
  · exact h.2.1
  · exact kst_ltOf h.2.2 q (List.mem_append.mpr (.inl hq))
theorem fr_back {g₀ g h : Heap} {L : Addr} {m : Str → Option Value} (T : KtsTurn [] g₀ g) (F : Fr g L h m) : Fr g₀ L h m :=
  ⟨F.ns, fun b o e => F.keep b o (T.other b o e (by simp)), by rw [← T.size]; exact F.above⟩
theorem news_back {g₀ g h : Heap} {L : Addr} {l : List (Addr × Obj)} (T : KtsTurn [] g₀ g) (N : News g L h l) : News g₀ L h l := fun q hq =>
  ⟨(N q hq).1, (N q hq).2.1, by
    cases e : g₀.get? q.1 with
    | none => rfl
    | some o => have := T.other _ _ e (by simp); rw [(N q hq).2.2] at this; cases this⟩
end Mine
end
section
open PySem PySem.W PyProof.Rows PySem.Calls PySem.Spec PySem.SeqAt
set_option Elab.async false
namespace Mine
/-- two values that stand for the same data: ints, texts, bytes, lists and tuples of such (n: how deep) -/
inductive Same (h : Heap) : Nat → Value → Value → Prop where
  | rfl {n : Nat} (v : Value) : Same h n v v
  | int {n : Nat} (i : Int) (t u : Tok) : Same h n (.int i t) (.int i u)
  | str {n : Nat} (x : Str) (t u : Tok) : Same h n (.str x t) (.str x u)
  | bytes {n : Nat} (x : Array UInt8) (t u : Tok) : Same h n (.bytes x t) (.bytes x u)
  | list {n : Nat} {l b : Addr} {xs ys : Array Value} : h.IsList l xs → h.IsList b ys → xs.size = ys.size → (∀ j (h1 : j < xs.size) (h2 : j < ys.size), Same h n xs[j] ys[j]) → Same h (n + 1) (.ref l) (.ref b)
  | tuple {n : Nat} {l b : Addr} {xs ys : Array Value} : h.IsTuple l xs → h.IsTuple b ys → xs.size = ys.size → (∀ j (h1 : j < xs.size) (h2 : j < ys.size), Same h n xs[j] ys[j]) → Same h (n + 1) (.ref l) (.ref b)
theorem all_true (n : Nat) : ((List.range n).all fun _ => true) = true := by simp
theorem Same.eqAt {s : Shared} {n : Nat} {v v' : Value} (h : Same s.heap n v v') : ∀ {A : Around}, A.units + n < cLine → EqAt A s v v' true := by
  induction h with
  | rfl v => exact fun _ => EqAt.same v
  | int i t u => intro A _; have := EqAt.int_int (A := A) (s := s) i t i u; simpa using this
  | str x t u => intro A _; have := EqAt.str_str (A := A) (s := s) x t x u; simpa using this
  | bytes x t u => intro A _ prog w E Q hq; exact eqBool_bytes (by simpa using hq)
  | @list n l b xs ys hl hb hsz _ ih =>
    intro A hu
    by_cases hlb : l = b
    · subst hlb; exact EqAt.same _
    · have := RcAt.lists (A := A) (e := fun _ => true) hl hb hsz (by omega) (fun j h1 h2 => ih j h1 h2 (by rw [Around.in1_units]; omega))
      rw [all_true] at this
      exact .of_refs hlb this
  | @tuple n l b xs ys hl hb hsz _ ih =>
    intro A hu
    by_cases hlb : l = b
    · subst hlb; exact EqAt.same _
    · have := RcAt.tuples (A := A) (e := fun _ => true) hl hb (by omega) (fun j h1 h2 => ih j h1 h2 (by rw [Around.in1_units]; omega))
      rw [all_true, hsz] at this
      simp only [BEq.rfl, Bool.and_self] at this
      exact .of_refs hlb this
section
variable {prog : Program} {w : World} {A : Around} {E : Value → Shared → Prop} {s : Shared} {Q : Value → Shared → Prop} {n : Nat} {l b : Addr} {xs ys : Array Value}
theorem eq_tuples (hl : s.heap.IsTuple l xs) (hb : s.heap.IsTuple b ys) (hsz : xs.size = ys.size) (he : ∀ j (h1 : j < xs.size) (h2 : j < ys.size), Same s.heap n xs[j] ys[j]) (hu : A.units + n + 1 < cLine) (h : Q (.bool true) s) :
    wpAny (model prog w) A (compareOp .Eq (.ref l) (.ref b)) Q E s := by
  refine eq_tupleAt (e := fun _ => true) hl hb (by omega) (fun j h1 h2 => (he j h1 h2).eqAt (by rw [Around.in1_units]; omega)) ?_
  rw [all_true, hsz]; simpa using h
theorem ne_tuples (hl : s.heap.IsTuple l xs) (hb : s.heap.IsTuple b ys) (hsz : xs.size = ys.size) (he : ∀ j (h1 : j < xs.size) (h2 : j < ys.size), Same s.heap n xs[j] ys[j]) (hu : A.units + n + 1 < cLine) (h : Q (.bool false) s) :
    wpAny (model prog w) A (compareOp .NotEq (.ref l) (.ref b)) Q E s := by
  have := RcNeAt.tuples (A := A) (e := fun _ => true) hl hb (by omega) (fun j h1 h2 => (he j h1 h2).eqAt (by rw [Around.in1_units]; omega))
  rw [all_true, hsz] at this
  exact this prog w E Q (by simpa using h)
theorem eq_lists (hl : s.heap.IsList l xs) (hb : s.heap.IsList b ys) (hsz : xs.size = ys.size) (he : ∀ j (h1 : j < xs.size) (h2 : j < ys.size), Same s.heap n xs[j] ys[j]) (hu : A.units + n + 1 < cLine) (h : Q (.bool true) s) :
    wpAny (model prog w) A (compareOp .Eq (.ref l) (.ref b)) Q E s := by
  refine eq_listAt (e := fun _ => true) hl hb hsz (by omega) (fun j h1 h2 => (he j h1 h2).eqAt (by rw [Around.in1_units]; omega)) ?_
  rw [all_true]; exact h
theorem ne_lists (hl : s.heap.IsList l xs) (hb : s.heap.IsList b ys) (hsz : xs.size = ys.size) (he : ∀ j (h1 : j < xs.size) (h2 : j < ys.size), Same s.heap n xs[j] ys[j]) (hu : A.units + n + 1 < cLine) (h : Q (.bool false) s) :
    wpAny (model prog w) A (compareOp .NotEq (.ref l) (.ref b)) Q E s := by
  have := RcNeAt.lists (A := A) (e := fun _ => true) hl hb hsz (by omega) (fun j h1 h2 => (he j h1 h2).eqAt (by rw [Around.in1_units]; omega))
  rw [all_true] at this
  exact this prog w E Q (by simpa using h)
end
inductive SameL (h : Heap) (n : Nat) : List Value → List Value → Prop where
  | nil : SameL h n [] []
  | cons {v w : Value} {vs ws : List Value} : Same h n v w → SameL h n vs ws → SameL h n (v :: vs) (w :: ws)
theorem SameL.length {h : Heap} {n : Nat} {vs ws : List Value} (x : SameL h n vs ws) : vs.length = ws.length := by
  induction x with
  | nil => rfl
  | cons _ _ ih => simp [ih]
theorem SameL.get {h : Heap} {n : Nat} {vs ws : List Value} (x : SameL h n vs ws) : ∀ j (h1 : j < vs.toArray.size) (h2 : j < ws.toArray.size), Same h n vs.toArray[j] ws.toArray[j] := by
  induction x with
  | nil => intro j h1; simp at h1
  | cons hd _ ih =>
    intro j h1 h2
    cases j with
    | zero => simpa using hd
    | succ j =>
      have := ih j (by simpa using h1) (by simpa using h2)
      simp only [List.getElem_toArray] at this ⊢
      exact this
theorem SameL.append {h : Heap} {n : Nat} {vs ws vs' ws' : List Value} (x : SameL h n vs ws) (y : SameL h n vs' ws') : SameL h n (vs ++ vs') (ws ++ ws') := by
  induction x with
  | nil => exact y
  | cons hd _ ih => exact .cons hd ih
theorem SameL.ints {h : Heap} {n : Nat} {vs ws : List Value} {ns : List Int} (a : IntsAre vs ns) (b : IntsAre ws ns) : SameL h n vs ws := by
  induction a generalizing ws with
  | nil => cases b; exact .nil
  | cons k t _ ih => cases b with | cons _ u r => exact .cons (.int k t u) (ih r)
theorem SameL.strs {h : Heap} {n : Nat} {vs ws : List Value} {ns : List Str} (a : StrsAre vs ns) (b : StrsAre ws ns) : SameL h n vs ws := by
  induction a generalizing ws with
  | nil => cases b; exact .nil
  | cons k t _ ih => cases b with | cons _ u r => exact .cons (.str k t u) (ih r)
/-- bytes, item by item -/
inductive BytesAre : List Value → List (Array UInt8) → Prop where
  | nil : BytesAre [] []
  | cons (b : Array UInt8) (t : Tok) {vs bs} : BytesAre vs bs → BytesAre (.bytes b t :: vs) (b :: bs)
theorem BytesAre.length {vs : List Value} {bs : List (Array UInt8)} (x : BytesAre vs bs) : vs.length = bs.length := by
  induction x with
  | nil => rfl
  | cons _ _ _ ih => simp [ih]
theorem BytesAre.append {vs ws : List Value} {bs cs : List (Array UInt8)} (x : BytesAre vs bs) (y : BytesAre ws cs) : BytesAre (vs ++ ws) (bs ++ cs) := by
  induction x with
  | nil => exact y
  | cons b t _ ih => exact .cons b t ih
theorem BytesAre.snoc {vs : List Value} {bs : List (Array UInt8)} (x : BytesAre vs bs) (b : Array UInt8) (t : Tok) : BytesAre (vs ++ [.bytes b t]) (bs ++ [b]) := x.append (.cons b t .nil)
theorem SameL.bytes {h : Heap} {n : Nat} {vs ws : List Value} {ns : List (Array UInt8)} (a : BytesAre vs ns) (b : BytesAre ws ns) : SameL h n vs ws := by
  induction a generalizing ws with
  | nil => cases b; exact .nil
  | cons k t _ ih => cases b with | cons _ u r => exact .cons (.bytes k t u) (ih r)
section
variable {prog : Program} {w : World} {A : Around} {E : Value → Shared → Prop} {s : Shared} {Q : Value → Shared → Prop} {n ja jb : Nat} {L a b : Addr} {xs ys : List Value} {h₀ h : Heap} {news : List (Addr × Obj)}
theorem isTup_at (N : News h₀ L h news) (hm : (a, ({ cls := .type "tuple", data := .seq xs.toArray ja } : Obj)) ∈ news) : h.IsTuple a xs.toArray := ⟨_, (N _ hm).1, rfl, _, rfl⟩
theorem isList_at (N : News h₀ L h news) (hm : (a, listOf xs.toArray ja) ∈ news) : h.IsList a xs.toArray := ⟨_, (N _ hm).1, rfl, _, rfl⟩
theorem same_tup (N : News h₀ L h news) (ha : (a, ({ cls := .type "tuple", data := .seq xs.toArray ja } : Obj)) ∈ news) (hb : (b, ({ cls := .type "tuple", data := .seq ys.toArray jb } : Obj)) ∈ news) (he : SameL h n xs ys) : Same h (n + 1) (.ref a) (.ref b) :=
  .tuple (isTup_at N ha) (isTup_at N hb) (by simpa using he.length) he.get
theorem same_list (N : News h₀ L h news) (ha : (a, listOf xs.toArray ja) ∈ news) (hb : (b, listOf ys.toArray jb) ∈ news) (he : SameL h n xs ys) : Same h (n + 1) (.ref a) (.ref b) :=
  .list (isList_at N ha) (isList_at N hb) (by simpa using he.length) he.get
theorem eq_tupL (N : News h₀ L s.heap news) (ha : (a, ({ cls := .type "tuple", data := .seq xs.toArray ja } : Obj)) ∈ news) (hb : (b, ({ cls := .type "tuple", data := .seq ys.toArray jb } : Obj)) ∈ news) (he : SameL s.heap 3 xs ys) (hu : A.units + 4 < cLine) (h : Q (.bool true) s) :
    wpAny (model prog w) A (compareOp .Eq (.ref a) (.ref b)) Q E s := eq_tuples (isTup_at N ha) (isTup_at N hb) (by simpa using he.length) he.get hu h
theorem ne_tupL (N : News h₀ L s.heap news) (ha : (a, ({ cls := .type "tuple", data := .seq xs.toArray ja } : Obj)) ∈ news) (hb : (b, ({ cls := .type "tuple", data := .seq ys.toArray jb } : Obj)) ∈ news) (he : SameL s.heap 3 xs ys) (hu : A.units + 4 < cLine) (h : Q (.bool false) s) :
    wpAny (model prog w) A (compareOp .NotEq (.ref a) (.ref b)) Q E s := ne_tuples (isTup_at N ha) (isTup_at N hb) (by simpa using he.length) he.get hu h
theorem eq_listL (N : News h₀ L s.heap news) (ha : (a, listOf xs.toArray ja) ∈ news) (hb : (b, listOf ys.toArray jb) ∈ news) (he : SameL s.heap 3 xs ys) (hu : A.units + 4 < cLine) (h : Q (.bool true) s) :
    wpAny (model prog w) A (compareOp .Eq (.ref a) (.ref b)) Q E s := eq_lists (isList_at N ha) (isList_at N hb) (by simpa using he.length) he.get hu h
theorem ne_listL (N : News h₀ L s.heap news) (ha : (a, listOf xs.toArray ja) ∈ news) (hb : (b, listOf ys.toArray jb) ∈ news) (he : SameL s.heap 3 xs ys) (hu : A.units + 4 < cLine) (h : Q (.bool false) s) :
    wpAny (model prog w) A (compareOp .NotEq (.ref a) (.ref b)) Q E s := ne_lists (isList_at N ha) (isList_at N hb) (by simpa using he.length) he.get hu h
end
end Mine
end
section
open PySem PySem.W PyProof.Rows PySem.Calls PySem.Spec
set_option Elab.async false
set_option maxRecDepth 100000
namespace Mine
theorem sub_bb : isSubtype (.type "bytes") (.type "bytes") = pure true := by rw [isSubtype_type]; kernel_rfl
theorem look_blen : typeLookup (.type "bytes") "__len__" = pure (some (.builtin "bytes.__len__")) := FB.slot_bytes_len.lookup
section
variable {prog : Program} {w : World} {A : Around} {E : Value → Shared → Prop} {s : Shared}
theorem ite_yes {α : Type} {M : Model} {c : Prop} [Decidable c] {a b : Sem α} {Q : α → Shared → Prop} (hc : c) (h : wpAny M A a Q E s) : wpAny M A (if c then a else b) Q E s := by rw [if_pos hc]; exact h
theorem ite_no {α : Type} {M : Model} {c : Prop} [Decidable c] {a b : Sem α} {Q : α → Shared → Prop} (hc : ¬ c) (h : wpAny M A b Q E s) : wpAny M A (if c then a else b) Q E s := by rw [if_neg hc]; exact h
theorem hint_bytes {c : Array UInt8} {t : Tok} {Q : Bool → Shared → Prop} (h : Q false s) : wpAny (model prog w) A (Builtin.List.listLengthHint (.bytes c t)) Q E s := by
  unfold Builtin.List.listLengthHint
  refine wpAny_bind (wpAny_specialOf (typeIs_bytes s c t) look_blen ?_)
  have e1 : splitId "bytes.__len__" = some ("bytes", "__len__") := by decide +kernel
  dsimp only
  rw [e1]
  dsimp only
  refine wpAny_bind (wpAny_isInstance (T := "bytes") (typeIs_bytes s c t) sub_bb ?_)
  refine ite_no (by decide) ?_
  refine ite_yes (by decide +kernel) ?_
  refine wpAny_bind (wpAny_typeOf (typeIs_bytes s c t) ?_)
  exact wpAny_pure h
theorem ext_loop {I S : Addr} {n : Nat} {P : Nat → Value → Prop} {St : Nat → Heap → Prop} {R : Result → Shared → Prop} (W : Walks prog w A.in1 I [I] [I] n P St) (hSI : S ≠ I) (res : Value) :
    ∀ (k i : Nat) (s : Shared) (acc : List Value) (c : Nat), n - i = k → i ≤ n → St i s.heap → s.heap.get? S = some { cls := .type "list", dict := none, data := .seq acc.toArray c, slots := #[] } → acc.length + (n - i) ≤ sizeLine →
    (∀ h' tk vs c', vs.length = n - i → (∀ j v, vs[j]? = some v → P (i + j) v) → h'.get? S = some { cls := .type "list", dict := none, data := .seq (acc ++ vs).toArray c', slots := #[] } → (∀ b o, b ≠ S → b ≠ I → s.heap.get? b = some o → h'.get? b = some o) → R (.ok (.ret res)) { s with heap := h', toks := tk }) →
    codeAny (model prog w) A (.builtin "list.extend.loop" ⟨[.ref S, .ref I, res], []⟩) R s := by
  intro k
  induction k with
  | zero =>
    intro i s acc c hk hi hst hS hsz hR
    have hin : i = n := by omega
    subst hin
    refine codeAny_builtin F.entry_extend_loop ?_
    rw [Around.under_plainId F.plain_extend_loop _]
    show wpAny _ A.in1 (pyNext (.ref I) >>= _) _ _ s
    refine wpAny_bind (W.done s _ _ hst fun h' tk hk' => ?_)
    exact wpAny_pure (hR h' tk [] c (by simp) (fun j v e => by simp at e) (by simpa using hk' S _ (by simpa using hSI) hS) fun b o _ hb e => hk' b o (by simpa using hb) e)
  | succ k ih =>
    intro i s acc c hk hi hst hS hsz hR
    have hlt : i < n := by omega
    refine codeAny_builtin F.entry_extend_loop ?_
    rw [Around.under_plainId F.plain_extend_loop _]
    show wpAny _ A.in1 (pyNext (.ref I) >>= _) _ _ s
    refine wpAny_bind (W.item i s _ _ hlt hst fun v h' tk hP hst' hk' => ?_)
    have hS' := hk' S _ (by simpa using hSI) hS
    show wpAny _ A.in1 (updateSeq S (·.push v) >>= _) _ _ _
    refine wpAny_bind ?_
    refine wpAny_updateSeq hS' rfl (wpAny_pure ⟨plainId_quiet F.plain_extend_loop _, ih (i + 1) _ (acc ++ [v]) _ (by omega) hlt (W.frame _ h' _ hst' fun b hb o e => ?_) (by rw [Heap.get?_update_self _ hS' rfl]; simp [Obj.mapSeq]; rfl) (by simp; omega) fun h'' tk'' vs c' hl hvs hS'' hkeep => ?_⟩)
      (by simp; omega) (by simp; omega)
    · rw [List.mem_singleton.mp hb] at e ⊢
      exact (Heap.get?_update_other _ _ hSI).trans e
    · refine hR h'' tk'' (v :: vs) c' (by simp; omega) (fun j x e => ?_) (by simpa using hS'') fun b o hb hbI e => ?_
      · cases j with
        | zero => simp at e; subst e; exact hP
        | succ j =>
          have := hvs j x (by simpa using e)
          rwa [show i + 1 + j = i + (j + 1) by omega] at this
      · exact hkeep b o hb hbI ((Heap.get?_update_other _ _ (Ne.symm hb)).trans (hk' b o (by simpa using hbI) e))
end
theorem ints_of {c : Array UInt8} : ∀ {vs : List Value} (i : Nat), vs.length = c.size - i → (∀ j v, vs[j]? = some v → ∃ x u, c[i + j]? = some x ∧ v = .int (x.toNat : Int) u) → IntsAre vs ((KBw.bInts c).drop i)
  | [], i, hl, _ => by
    have : (KBw.bInts c).drop i = [] := List.drop_of_length_le (by rw [KBw.ints_length]; simp at hl; omega)
    rw [this]; exact .nil
  | v :: vs, i, hl, h => by
    obtain ⟨x, u, hx, rfl⟩ := h 0 v (by simp)
    have hlt : i < (KBw.bInts c).length := by rw [KBw.ints_length]; simp at hl; omega
    rw [List.drop_eq_getElem_cons hlt]
    have e : (KBw.bInts c)[i] = (x.toNat : Int) := by
      have := KBw.ints_get (b := c) (i := i) (by simpa using hx)
      rw [List.getElem?_eq_getElem hlt] at this
      exact Option.some.inj this
    rw [e]
    refine .cons _ u (ints_of (i + 1) (by simp at hl; omega) fun j v hv => ?_)
    have := h (j + 1) v (by simpa using hv)
    rwa [show i + (j + 1) = i + 1 + j by omega] at this
theorem meets_ext (D : Addr) (c : Array UInt8) (t : Tok) (vs : List Value) (j : Nat) :
    Meets (Builtin.«list.extend» ⟨[.ref D, .bytes c t], []⟩) (fun A R s => A.handled = none ∧ s.heap.get? D = some (listOf vs.toArray j) ∧ vs.length + c.size ≤ sizeLine ∧
      ∀ h' tk ws c', IntsAre ws (KBw.bInts c) → h'.get? D = some (listOf (vs ++ ws).toArray c') → (∀ b o, b ≠ D → s.heap.get? b = some o → h'.get? b = some o) → R (.ok (.ret .none)) { s with heap := h', toks := tk }) := by
  intro prog w A R s ⟨hh, hD, hsz, hR⟩
  show wpAny _ _ (Builtin.List.listExtendWith (.ref D) (.bytes c t) .none) _ _ s
  unfold Builtin.List.listExtendWith
  refine wpAny_bind (wpAny_typeOf (typeIs_bytes s c t) ?_)
  have h1 : Builtin.List.listSameRef (.ref D) (.bytes c t) = false := rfl
  have h2 : (Value.type "bytes" == Value.type "list") = false := by decide
  have h3 : (Value.type "bytes" == Value.type "tuple") = false := by decide
  simp only [h1, h2, h3, Bool.or_false, Bool.false_eq_true, if_false]
  have hDI : D ≠ s.heap.objs.size := Nat.ne_of_lt (Heap.lt_size hD)
  refine wpAny_bind (KBw.pyIter_bytes ?_)
  refine wpAny_bind (wpAny_holding (hint_bytes ?_))
  refine ite_no (by decide +kernel) ?_
  refine wpAny_pure ⟨plainId_quiet F.plain_extend_loop _, ?_⟩
  have W := KBw.walks (prog := prog) (w := w) (A := A.in1) hh s.heap.objs.size c t
  refine ext_loop (n := c.size) W hDI .none c.size 0 _ vs j (by omega) (Nat.zero_le _) ⟨_, Heap.get?_push_size _ rfl, rfl, rfl⟩ (Heap.get?_push_of_some _ hD) (by omega) fun h' tk ws c' hl hws hD' hk => ?_
  refine hR h' tk ws c' ?_ hD' fun b o hb e => hk b o hb (fun q => ?_) (Heap.get?_push_of_some _ e)
  · have := ints_of (c := c) (vs := ws) 0 (by omega) (fun j v hv => by obtain ⟨x, u, hx, rfl⟩ := hws j v hv; exact ⟨x, u, hx, rfl⟩)
    simpa using this
  · rw [q] at e; exact absurd (Heap.lt_size e) (Nat.lt_irrefl _)
theorem extend_bytes {prog : Program} {w : World} {A : Around} {E : Value → Shared → Prop} {s : Shared} {h₀ : Heap} {L D : Addr} {m : Str → Option Value} {news : List (Addr × Obj)} {upd : Obj → List (Addr × Obj)} {c : Array UInt8} {t : Tok} {vs : List Value} {j : Nat} {Q : Value → Shared → Prop}
    (F : Fr h₀ L s.heap m) (N : News h₀ L s.heap news) (hh : A.handled = none) (U : UpdF D (listOf vs.toArray j) news upd) (hsz : vs.length + c.size ≤ 16777216)
    (h : ∀ h' tk ws c', IntsAre ws (KBw.bInts c) → Fr h₀ L h' m → News h₀ L h' (upd (listOf (vs ++ ws).toArray c')) → Q .none { s with heap := h', toks := tk }) :
    wpAny (model prog w) A (call (.builtin "list.extend") [.ref D, .bytes c t]) Q E s := by
  obtain ⟨rest, hof, hnw, hup⟩ := upd_split U
  have hm := N _ ((hnw _).mpr (.inl rfl))
  refine call_meets PySem.F.slot_list_extend ⟨_, hm.1, rfl⟩ PySem.F.entry_list_extend (PySem.F.args_list_extend_2 _ _) (meets_ext D c t vs j) ⟨hh, hm.1, by rw [sizeLine_eq]; exact hsz, fun h' tk ws c' hi hD hk => ?_⟩
  refine h h' tk ws c' hi ⟨F.ns.at' fun o e => hk _ o (Ne.symm hm.2.1) e, fun b o e => hk b o (fun q => ?_) (F.keep b o e), F.above⟩ fun q hq => ?_
  · rw [q, hm.2.2] at e; cases e
  · rcases (hup _ q).mp hq with rfl | hq'
    · exact ⟨hD, hm.2⟩
    · have hn := N q ((hnw q).mpr (.inr hq'))
      exact ⟨hk _ _ (hof q hq' D (List.mem_singleton.mpr rfl)) hn.1, hn.2⟩
end Mine
end
section
open PySem PySem.W PyProof.Rows PySem.Calls PySem.Spec
set_option Elab.async false
namespace Mine
theorem cut_split (b : Array UInt8) (a n m : Nat) : KBw.bInts (cutB b a (n + m)) = KBw.bInts (cutB b a n) ++ KBw.bInts (cutB b (a + n) m) := by
  unfold cutB KBw.bInts
  rw [List.take_add, List.drop_drop]
  simp
theorem cut_next {b : Array UInt8} {p : Nat} (h : p < b.size) : KBw.bInts (cutB b 0 (p + 1 + oct b p)) = KBw.bInts (cutB b 0 p) ++ [(oct b p : Int)] ++ KBw.bInts (cutB b (p + 1) (oct b p)) := by
  rw [show p + 1 + oct b p = (p + 1) + oct b p from rfl, cut_split, cut_split, Nat.zero_add, Nat.zero_add, ints_cut1 h]
theorem cut_whole {b : Array UInt8} : cutB b 0 b.size = b := by
  unfold cutB
  rw [List.drop_zero, List.take_of_length_le (by simp), Array.toArray_toList]
theorem sub_t3 {t1 t2 a b c : Addr × Obj} {R own : List (Addr × Obj)} : ∀ q ∈ a :: b :: c :: R, q ∈ t1 :: t2 :: a :: b :: c :: (R ++ own) := fun q hq => by
  simp only [List.mem_cons, List.mem_append] at hq ⊢
  rcases hq with h | h | h | h <;> simp [h]
theorem own_t3 {t1 t2 a b c : Addr × Obj} {R own : List (Addr × Obj)} : ∀ q ∈ own, q ∈ t1 :: t2 :: a :: b :: c :: (R ++ own) := fun q hq => by
  simp only [List.mem_cons, List.mem_append]; exact .inr (.inr (.inr (.inr (.inr (.inr hq)))))
theorem picked_upto {b : Array UInt8} {k : Nat} : KBy.picked b none (some (k : Int)) = cutB b 0 k := by
  rw [KBc.picked_eq]
  simp only [Option.elim, clipAt_nat, List.drop_zero, Nat.sub_zero]
  unfold cutB
  rw [List.drop_zero]
  congr 1
  by_cases h : k ≤ b.size
  · rw [Nat.min_eq_left h]
  · rw [Nat.min_eq_right (by omega), List.take_of_length_le (by simp), List.take_of_length_le (by simp; omega)]
section
variable {prog : Program} {w : World} {A : Around} {E : Value → Shared → Prop} {s : Shared} {h₀ : Heap} {L D : Addr} {m : Str → Option Value} {news : List (Addr × Obj)} {vs : List Value} {c x y : Array UInt8} {j : Nat} {t u : Tok} {Q : Value → Shared → Prop}
theorem make_bytes (F : Fr h₀ L s.heap m) (N : News h₀ L s.heap news) (hh : A.handled = none) (hm : (D, listOf vs.toArray j) ∈ news) (hi : IntsAre vs (KBw.bInts c)) (hz : c.size ≤ 16777216)
    (h : ∀ h' t' k, Fr h₀ L h' m → News h₀ L h' news → Q (.bytes c t') { s with heap := h', toks := k }) : wpAny (model prog w) A (call (.type "bytes") [.ref D]) Q E s :=
  KBa.make_K F N hh (isList_at N hm) hi (bInts_in c) (by rw [KBw.ints_length]; exact hz) fun h' t' k F' N' _ => by rw [byteArr_bInts]; exact h h' t' k F' N'
theorem eq_bytes_same (e : x = y) (h : Q (.bool true) s) : wpAny (model prog w) A (compareOp .Eq (.bytes x t) (.bytes y u)) Q E s := by
  subst e; exact eq_bytes (by simpa using h)
theorem ne_bytes_same (e : x = y) (h : Q (.bool false) s) : wpAny (model prog w) A (compareOp .NotEq (.bytes x t) (.bytes y u)) Q E s := by
  subst e; exact ne_bytes (by simpa using h)
end
end Mine
end
section
open PySem PySem.W PyProof.Rows PySem.Calls PySem.Spec PySem.SeqAt
set_option Elab.async false
namespace Mine
theorem ints_getD (b : Array UInt8) (p : Nat) : (KBw.bInts b).getD p 0 = (oct b p : Int) := (KBw.getD_ints b.toList p).symm
section
variable {prog : Program} {w : World} {A : Around} {E : Value → Shared → Prop} {s : Shared} {x y : Str} {t u : Tok} {Q : Value → Shared → Prop}
theorem ne_str_same (e : x = y) (h : Q (.bool false) s) : wpAny (model prog w) A (compareOp .NotEq (.str x t) (.str y u)) Q E s := by
  subst e; exact RcNeAt.str_str x t x u prog w E Q (by simpa using h)
theorem eq_str_same (e : x = y) (h : Q (.bool true) s) : wpAny (model prog w) A (compareOp .Eq (.str x t) (.str y u)) Q E s := by
  subst e; exact RcAt.str_str x t x u prog w E Q (by simpa using h)
end
end Mine
end
section
open PySem PySem.W PyProof.Rows PySem.Calls PySem.Spec
set_option Elab.async false
namespace Mine
/-- the end of a turn, where the ledger may have grown: I is the iterator's place -/
def EndY (g₀ : Heap) (L : Addr) (J : (Str → Option Value) → List (Addr × Obj) → Prop) (I : Addr) (oI : Obj) (s s₂ : Shared) : Prop :=
  ∃ h' tk m' news' nx, s₂ = { s with heap := h', toks := tk } ∧ Fr g₀ L h' m' ∧ News g₀ L h' news' ∧ (∀ q ∈ nx, q ∈ news') ∧ (I, oI) ∈ news' ∧ (∀ q ∈ nx, @Ne Nat q.1 I) ∧ J m' nx
def PostY (g₀ : Heap) (L : Addr) (J : (Str → Option Value) → List (Addr × Obj) → Prop) (I : Addr) (oI : Obj) (Q : Flow → Shared → Prop) (s : Shared) (f : Flow) (s₂ : Shared) : Prop :=
  match f with
  | .ret v => Q (.ret v) s₂
  | .brk => Q .next s₂
  | _ => EndY g₀ L J I oI s s₂
theorem EndY.intro {g₀ : Heap} {L : Addr} {J : (Str → Option Value) → List (Addr × Obj) → Prop} {I : Addr} {oI : Obj} {s : Shared} {h' : Heap} {tk : Nat} {m' : Str → Option Value} {news' nx : List (Addr × Obj)}
    (F : Fr g₀ L h' m') (N : News g₀ L h' news') (hj : J m' nx) (hn : ∀ q ∈ nx, q ∈ news') (hI : (I, oI) ∈ news') (hne : ∀ q ∈ nx, @Ne Nat q.1 I) : EndY g₀ L J I oI s { s with heap := h', toks := tk } :=
  ⟨h', tk, m', news', nx, rfl, F, N, hn, hI, hne, hj⟩
section
variable {g₀ : Heap}
theorem loopY {prog : Program} {w : World} {A : Around} {s : Shared} {env : Env} {R : Result → Shared → Prop} {x : Str} {px : Pos} {body : List Stmt} {I : Addr} {n : Nat} {P : Nat → Value → Prop} {St : Nat → Heap → Prop} {m₀ : Str → Option Value} {news : List (Addr × Obj)}
    (J : Nat → (Str → Option Value) → List (Addr × Obj) → Prop) (Q : Flow → Shared → Prop) (E : Value → Shared → Prop)
    (W : Walks prog w A I [I] [I] n P St) (hIo : ∀ i h, St i h → ∃ o, h.get? I = some o) (hx : env.kindOf x = some .local)
    (hp : (env.scope.kind == .class || (env.scope.kind == .module && env.locals != env.globals)) = false)
    (hLI : env.locals ≠ I) (hgI : g₀.get? I = none) (hnI : ∀ q ∈ news, @Ne Nat q.1 I)
    (hst : St 0 s.heap) (F₀ : Fr g₀ env.locals s.heap m₀) (N₀ : News g₀ env.locals s.heap news) (hj : J 0 m₀ news)
    (hE : ∀ e s', E e s' → notedBy (model prog w) A env (fun e s' => R (.error e) s') e s')
    (hQ : ∀ f s', Q f s' → R (.ok f) s')
    (turn : ∀ i v m₁ news₁ h tk oI, i < n → P i v → (∀ q ∈ news₁, @Ne Nat q.1 I) → J i m₁ news₁ →
      Fr g₀ env.locals h (fun y => if y = x then some v else m₁ y) → News g₀ env.locals h ((I, oI) :: news₁) →
      wpAny (model prog w) A (execs body env) (PostY g₀ env.locals (J (i + 1)) I oI Q s) E { s with heap := h, toks := tk })
    (done : ∀ m₁ news₁ h tk, J n m₁ news₁ → Fr g₀ env.locals h m₁ → News g₀ env.locals h news₁ → Q .next { s with heap := h, toks := tk }) :
    codeAny (model prog w) A (.forLoop (.Name x px) (.ref I) body [] env) R s := by
  refine codeAny_forLoop
    (fun k s' => ∃ h' tk m' news' i, s' = { s with heap := h', toks := tk } ∧ St i h' ∧ Fr g₀ env.locals h' m' ∧ News g₀ env.locals h' news' ∧ (∀ q ∈ news', @Ne Nat q.1 I) ∧ J i m' news' ∧ i ≤ n ∧ k = n + 1 - i) ?_ (n + 1)
    ⟨s.heap, s.toks, m₀, news, 0, rfl, hst, F₀, N₀, hnI, hj, Nat.zero_le _, rfl⟩
  rintro k s' ⟨h', tk, m', news', i, rfl, hst', F', N', nI, hJ, hi, rfl⟩
  have nextF : ∀ h₁ : Heap, (∀ b o, b ∉ [I] → h'.get? b = some o → h₁.get? b = some o) → Fr g₀ env.locals h₁ m' := fun h₁ hk₁ =>
    ⟨F'.ns.at' fun o e => hk₁ _ o (by simpa using hLI) e, fun b o e => hk₁ b o (fun hb => by rw [List.mem_singleton.mp hb, hgI] at e; cases e) (F'.keep b o e), F'.above⟩
  have nextN : ∀ h₁ : Heap, (∀ b o, b ∉ [I] → h'.get? b = some o → h₁.get? b = some o) → News g₀ env.locals h₁ news' := fun h₁ hk₁ =>
    fun q hq => ⟨hk₁ _ _ (by simpa using nI q hq) (N' q hq).1, (N' q hq).2⟩
  by_cases hlt : i < n
  · refine W.item i _ _ _ hlt hst' fun v h₁ tk₁ hP hst₁ hk₁ => ?_
    have F₁ := nextF h₁ hk₁
    have N₁ := nextN h₁ hk₁
    refine wpAny_assign_Name (wpAny_storeName_local hx F₁.ns (fun h₂ hn₂ hs₂ => ?_) hp)
    have F₂ := F₁.set hn₂ hs₂
    have N₂ := N₁.set hs₂
    have hst₂ : St (i + 1) h₂ := W.frame _ _ _ hst₁ fun b hb o e => (hs₂.2 b fun q => hLI (by rw [List.mem_singleton.mp hb] at q; exact q.symm)).trans e
    obtain ⟨oI, hoI⟩ := hIo _ _ hst₂
    have N₃ : News g₀ env.locals h₂ ((I, oI) :: news') := fun q hq => by
      rcases List.mem_cons.mp hq with rfl | hq
      · exact ⟨hoI, hLI.symm, hgI⟩
      · exact N₂ q hq
    refine wpAny_mono (turn i v m' news' h₂ _ oI hlt hP nI hJ F₂ N₃) (fun f s₃ h₃ => ?_) fun e s' h' => hE e s' h'
    have fin : EndY g₀ env.locals (J (i + 1)) I oI s s₃ → ∃ m, m < n + 1 - i ∧ ∃ h' tk m' news' i', s₃ = { s with heap := h', toks := tk } ∧ St i' h' ∧ Fr g₀ env.locals h' m' ∧ News g₀ env.locals h' news' ∧ (∀ q ∈ news', @Ne Nat q.1 I) ∧ J i' m' news' ∧ i' ≤ n ∧ m = n + 1 - i' := by
      rintro ⟨h₃', tk₃, m₃, news₃, nx, rfl, F₃, N₃, hsub, hI, hne, hJ₃⟩
      refine ⟨n + 1 - (i + 1), by omega, h₃', tk₃, m₃, nx, i + 1, rfl, ?_, F₃, fun q hq => N₃ q (hsub q hq), hne, hJ₃, hlt, rfl⟩
      exact W.frame _ _ _ hst₂ fun b hb o e => by
        rw [List.mem_singleton.mp hb] at e ⊢
        rw [hoI] at e; cases e
        exact (N₃ _ hI).1
    cases f with
    | ret v => exact hQ _ _ h₃
    | brk => exact hQ _ _ h₃
    | next => exact fin h₃
    | cont => exact fin h₃
  · have hin : i = n := by omega
    subst hin
    refine W.done _ _ _ hst' fun h₁ tk₁ hk₁ => wpAny_execs_nil ?_
    exact hQ _ _ (done m' news' h₁ tk₁ hJ (nextF h₁ hk₁) (nextN h₁ hk₁))

theorem iterY_range {prog : Program} {w : World} {A : Around} {s : Shared} {env : Env} {x : Str} {px : Pos} {body : List Stmt} {r : Addr} {a₀ b₀ c₀ : Int} {t₀ u₀ v₀ : Tok} {n : Nat} {m₀ : Str → Option Value} {news : List (Addr × Obj)} {Q : Flow → Shared → Prop} {E : Value → Shared → Prop}
    (J : Nat → (Str → Option Value) → List (Addr × Obj) → Prop)
    (hh : A.handled = none) (hr : IsRange s.heap r a₀ b₀ c₀ t₀ u₀ v₀) (hsmall : Builtin.Range.small a₀ b₀ c₀ = true) (hn : Builtin.Range.rangeSize a₀ b₀ c₀ = (n : Int)) (hx : env.kindOf x = some .local)
    (hp : (env.scope.kind == .class || (env.scope.kind == .module && env.locals != env.globals)) = false)
    (F₀ : Fr g₀ env.locals s.heap m₀) (N₀ : News g₀ env.locals s.heap news) (hj : J 0 m₀ news)
    (hE : PassesOwn (model prog w) A env E)
    (turn : ∀ I i t m₁ news₁ h tk oI, i < n → (∀ q ∈ news₁, @Ne Nat q.1 I) → J i m₁ news₁ →
      Fr g₀ env.locals h (fun y => if y = x then some (.int (a₀ + (i : Nat) * c₀) t) else m₁ y) → News g₀ env.locals h ((I, oI) :: news₁) →
      wpAny (model prog w) A (execs body env) (PostY g₀ env.locals (J (i + 1)) I oI Q s) E { s with heap := h, toks := tk })
    (done : ∀ m₁ news₁ h tk, J n m₁ news₁ → Fr g₀ env.locals h m₁ → News g₀ env.locals h news₁ → Q .next { s with heap := h, toks := tk }) :
    wpAny (model prog w) A (pyIter (.ref r)) (fun it s₂ => codeAny (model prog w) A (.forLoop (.Name x px) it body [] env) (fun r s' => match r with | .ok f => Q f s' | .error e => cameBackBy (model prog w) A env E e s') s₂) E s := by
  refine wpAny_pyIter_range hr hsmall ?_
  have W : Walks prog w A s.heap.objs.size [s.heap.objs.size] [s.heap.objs.size] n (fun i v => i < n ∧ ∃ t, v = .int (a₀ + i * c₀) t)
      (fun i h => IsRangeIter h s.heap.objs.size (a₀ + (i : Nat) * c₀) ((n : Int) - (i : Nat)) c₀) := (Walks.range hh _ a₀ c₀ n).bound
  have gN : g₀.get? s.heap.objs.size = none := by
    cases q : g₀.get? s.heap.objs.size with
    | none => rfl
    | some o => exact absurd (Heap.lt_size (F₀.keep _ _ q)) (Nat.lt_irrefl _)
  refine loopY (s := { s with heap := s.heap.push _ }) J Q E W (fun i h hi => ?_) hx hp (Nat.ne_of_lt F₀.ns.lt) gN (fun q hq => Nat.ne_of_lt (Heap.lt_size (N₀ q hq).1)) ?_ (F₀.push _) (fun q hq => ⟨Heap.get?_push_of_some _ (N₀ q hq).1, (N₀ q hq).2⟩) hj (fun e s' h => hE e s' h) (fun f s' h => h) ?_ ?_
  · exact ⟨_, hi⟩
  · show IsRangeIter _ _ _ _ _
    rw [hn]; simpa using Heap.get?_push_size _ rfl
  · rintro i v m₁ news₁ h tk oI hi ⟨_, t, rfl⟩ ho hJ F N
    exact turn _ i t m₁ news₁ h tk oI hi ho hJ F N
  · intro m₁ news₁ h tk hJ F N
    exact done m₁ news₁ h tk hJ F N
end
end Mine
namespace Mine
open PySem PySem.W PyProof.Rows PySem.Calls PySem.Spec
theorem size_down (k : Nat) : Builtin.Range.rangeSize ((k : Int) - 1) (-1) (-1) = (k : Int) := by
  unfold Builtin.Range.rangeSize
  simp only [show ¬ ((-1 : Int) > 0) by decide, if_false, show (- -1 : Int) = 1 by decide, Int.ediv_one]
  split <;> omega
theorem small_down {k : Nat} (hk : k < 1000000) : Builtin.Range.small ((k : Int) - 1) (-1) (-1) = true := by
  unfold Builtin.Range.small
  rw [size_down]
  simp only [Builtin.Range.rangeFitsLong, Bool.and_eq_true, Bool.or_eq_true, decide_eq_true_eq, beq_iff_eq, show ¬ ((-1 : Int) > 0) by decide, if_false]
  omega
end Mine
end
section
open PySem PySem.W PyProof.Rows PySem.Calls PySem.Spec
set_option Elab.async false
namespace Mine
section
variable {prog : Program} {w : World} {A₀ A : Around} {s : Shared} {base h₀ : Heap} {L a : Addr} {m : Str → Option Value} {cn : Str} {cs : Scope} {ccd : Value} {cl : List (Str × Addr)} {news : List (Addr × Obj)} {K : Frag} {p : Program} {loose : List Str} {mean : ExcName → Option Value} {mg mb : Str → Option Value}
    {R : Result → Shared → Prop} {name qual : Str} {params : Arguments} {body : List Stmt} {scope : Scope} {dV kV doc pm cdv ct oc : Value} {an od : Option Addr} {osl : Array (Option Value)} {f : Addr} {args : Args} {binds : List (Str × Value)}
/-- back from a callee whose ground turned: the caller's frame alone may have changed its slots -/
theorem back_turn {g g' h : Heap} {L' : Addr} {m' : Str → Option Value} {news' : List (Addr × Obj)} (FG : Fr h₀ L g m) (T : KtsTurn [L] g g') (F' : Fr g' L' h m') (N' : News g' L' h news') : Fr h₀ L h m ∧ News h₀ L h news' := by
  obtain ⟨oL, es, ep, hL, hLd, hLk, hLf⟩ := FG.ns
  obtain ⟨sl, hs⟩ := T.up hL
  have nL : h₀.get? L = none := kts_self FG
  refine ⟨⟨⟨_, es, ep, F'.keep _ _ hs, hLd, hLk, hLf⟩, fun b o e => F'.keep b o (T.other b o (FG.keep b o e) fun q => ?_), FG.above⟩, fun q hq => ⟨(N' q hq).1, fun e => ?_, ?_⟩⟩
  · rw [List.mem_singleton.mp q, nL] at e; cases e
  · have := (N' q hq).2.2; rw [e, hs] at this; cases this
  · cases e : h₀.get? q.1 with
    | none => rfl
    | some o =>
      obtain ⟨sl', hs'⟩ := T.up (FG.keep _ _ e)
      have := (N' q hq).2.2
      rw [hs'] at this; cases this
/-- the way into a def with a try, from a caller that may hold cells -/
theorem code_defSX (B : Below A₀ base [] h₀) (F : Fr h₀ L s.heap m) (X₀ : K.In h₀) (N : News h₀ L s.heap news) (T : Top p loose mean mg mb h₀) (hA : A.frames = some [envX cn cs L a ccd cl])
    (ho : K.lookup f = some ⟨oc, od, .func (fnOf name qual params body scope dV kV doc pm an cdv ct), osl⟩) (hcd : codeIn K cdv qual = true) (hroom : A.depth < recursionLimit)
    (hbind : BindsTo s (fnOf name qual params body scope dV kV doc pm an cdv ct) args binds) (hloc : ∀ y ∈ binds, scope.names.lookup y.1 = some .local)
    (h : ∀ g L' h₁, Fr h₀ L g m → Fr g L' h₁ (fun y => binds.reverse.lookup y) → News g L' h₁ news → Below A base [envX cn cs L a ccd cl] g → K.In g → Top p loose mean mg mb g → KtsDicts ([envX cn cs L a ccd cl].filterMap (·.frame)) g →
      wpAny (model prog w) (A.deeper (envOf qual scope L' f cdv)) (execs body (envOf qual scope L' f cdv))
        (fun fl s' => LeaveS0 ([envX cn cs L a ccd cl].filterMap (·.frame)) h₀ L m g R (match fl with | .ret v => v | _ => .none) s')
        (fun e s' => wpAny (model prog w) (A.deeper (envOf qual scope L' f cdv)) (leaving (envOf qual scope L' f cdv) e) (fun _ s'' => R (.error e) s'') (fun e' s'' => R (.error e') s'') s')
        { s with heap := h₁, toks := s.toks + binds.length })
    (hck : cs.kind = .function) (hco : scope.isCoroutine = false) (hgen : scope.isGenerator = false) (hk : scope.kind = .function)
    (hcell : ∀ x ∈ scope.names, x.2 ≠ .cell) : codeAny (model prog w) A (.call (.ref f) args) R s := by
  have X := X₀.keeps F.keep
  obtain ⟨FG, BG, st, -⟩ := groundX (R := R) B F N hA rfl hck
  refine codeAny_call_def (fd := fnOf name qual params body scope dV kV doc pm an cdv ct) (body := body) (binds := binds) hroom (X _ _ ho) rfl (T.nolimit.keeps F.keep) (codeRec_of X hcd) rfl hbind hcell hloc (fun h₁ hns hk₁ => ?_) hco hgen hk
  have D : KtsDicts ([envX cn cs L a ccd cl].filterMap (·.frame)) (hideAll s.heap (news.map (·.1))) := fun b hb => by
    obtain ⟨oL, es, ep, hL, hLd, _⟩ := FG.ns
    have e : b = L := List.mem_singleton.mp (show b ∈ [L] from hb)
    rw [e]; exact ⟨oL, es, ep, hL, hLd⟩
  refine wpAny_mono (h _ s.heap.objs.size h₁ FG ⟨hns, fun b o e => hk₁ b o (of_hideAll _ e), Nat.le_of_eq (hideAll_size _ _)⟩
    (fun q hq => ⟨hk₁ _ _ (N q hq).1, Nat.ne_of_lt (Heap.lt_size (N q hq).1), hideAll_none _ (List.mem_map_of_mem hq)⟩) BG (X₀.keeps st) (T.keeps st) D) (fun fl s' hl => ?_) fun _ _ y => y
  obtain ⟨g', L', m', news', T', F', N', k⟩ := hl
  obtain ⟨a1, a2⟩ := back_turn FG T' F' N'
  exact k a1 a2
end
end Mine
end
section
open PySem PySem.W PyProof.Rows PySem.Calls PySem.Spec
set_option Elab.async false
namespace Mine
/-- no code of a code -/
def NoTab (o : Obj) : Prop := ∀ vs q t, o.data = .fields vs → vs[1]? ≠ some (.str q t)
theorem noTab_seq {o : Obj} {vs : Array Value} {n : Nat} (h : o.data = .seq vs n) : NoTab o := fun _ _ _ e => by rw [h] at e; cases e
theorem noTab_cell {o : Obj} {v : Option Value} (h : o.data = .cell v) : NoTab o := fun _ _ _ e => by rw [h] at e; cases e
theorem noTab_dict {o : Obj} {es : Array DictEntry} {n : Nat} (h : o.data = .dict es n) : NoTab o := fun _ _ _ e => by rw [h] at e; cases e
theorem noTab_int {o : Obj} {ws : Array Value} {k : Int} {u : Tok} (h : o.data = .fields ws) (h1 : ws[1]? = some (.int k u)) : NoTab o := fun vs q t e e' => by
  rw [h] at e; cases e
  rw [h1] at e'; cases e'
theorem tab_off {h₀ h : Heap} {L a P : Addr} {X T : List (Addr × Obj)} {o : Obj} {i j : Value} {qual : Str} (N : News h₀ L h X) (hT : Tab P i j qual T) (hs : ∀ e ∈ T, e ∈ X) (hm : (a, o) ∈ X) (hn : NoTab o) (hP : @Ne Nat P a) : OwnOff T [a] := by
  intro q hq c hc
  rw [List.mem_singleton.mp hc]
  cases hT with
  | none => rw [List.mem_singleton.mp hq]; exact hP
  | some h1 h2 h3 =>
    simp only [List.mem_cons, List.not_mem_nil, or_false] at hq
    rcases hq with rfl | rfl
    · exact hP
    · intro e
      have e1 := (N _ (hs _ (.tail _ (.head _)))).1
      have e2 := (N _ hm).1
      rw [show ((_, _) : Addr × Obj).1 = a from e] at e1
      have e3 := Option.some.inj (e1.symm.trans e2)
      dsimp only at e3
      exact hn _ _ _ (by rw [← e3]; exact h2) h3
section
variable {g₀ : Heap}
/-- a for of any target over any source; the ledger may grow and shrink; fpo: what the source leans on -/
theorem loopG {prog : Program} {w : World} {A : Around} {s : Shared} {env : Env} {R : Result → Shared → Prop} {tg : Expr} {body : List Stmt} {I : Addr} {n : Nat} {P : Nat → Value → Prop} {St : Nat → Heap → Prop} {m₀ : Str → Option Value} {news fpo : List (Addr × Obj)}
    (J : Nat → (Str → Option Value) → List (Addr × Obj) → Prop) (Q : Flow → Shared → Prop) (E : Value → Shared → Prop)
    (W : Walks prog w A I (I :: fpo.map (·.1)) [I] n P St) (hIo : ∀ i h, St i h → ∃ o, h.get? I = some o ∧ NoTab o)
    (hJf : ∀ i m nx, J i m nx → ∀ q ∈ fpo, q ∈ nx)
    (hLI : env.locals ≠ I) (hgI : g₀.get? I = none) (hnI : ∀ q ∈ news, @Ne Nat q.1 I)
    (hst : St 0 s.heap) (F₀ : Fr g₀ env.locals s.heap m₀) (N₀ : News g₀ env.locals s.heap news) (hj : J 0 m₀ news)
    (hE : ∀ e s', E e s' → notedBy (model prog w) A env (fun e s' => R (.error e) s') e s')
    (hQ : ∀ f s', Q f s' → R (.ok f) s')
    (turn : ∀ i v m₁ news₁ h tk oI, NoTab oI → i < n → P i v → (∀ q ∈ news₁, @Ne Nat q.1 I) → J i m₁ news₁ →
      Fr g₀ env.locals h m₁ → News g₀ env.locals h ((I, oI) :: news₁) →
      wpAny (model prog w) A (assign tg env v) (fun _ s₂ => wpAny (model prog w) A (execs body env) (PostY g₀ env.locals (J (i + 1)) I oI Q s) E s₂) E { s with heap := h, toks := tk })
    (done : ∀ m₁ news₁ h tk, J n m₁ news₁ → Fr g₀ env.locals h m₁ → News g₀ env.locals h news₁ → Q .next { s with heap := h, toks := tk })
    (ht : ∀ v, letOwnedTupleGo tg (.ref I) v = pure () := by intro _; rfl) :
    codeAny (model prog w) A (.forLoop tg (.ref I) body [] env) R s := by
  refine codeAny_forLoop
    (fun k s' => ∃ h' tk m' news' i, s' = { s with heap := h', toks := tk } ∧ St i h' ∧ Fr g₀ env.locals h' m' ∧ News g₀ env.locals h' news' ∧ (∀ q ∈ news', @Ne Nat q.1 I) ∧ J i m' news' ∧ i ≤ n ∧ k = n + 1 - i) ?_ (n + 1)
    ⟨s.heap, s.toks, m₀, news, 0, rfl, hst, F₀, N₀, hnI, hj, Nat.zero_le _, rfl⟩ ht
  rintro k s' ⟨h', tk, m', news', i, rfl, hst', F', N', nI, hJ, hi, rfl⟩
  have nextF : ∀ h₁ : Heap, (∀ b o, b ∉ [I] → h'.get? b = some o → h₁.get? b = some o) → Fr g₀ env.locals h₁ m' := fun h₁ hk₁ =>
    ⟨F'.ns.at' fun o e => hk₁ _ o (by simpa using hLI) e, fun b o e => hk₁ b o (fun hb => by rw [List.mem_singleton.mp hb, hgI] at e; cases e) (F'.keep b o e), F'.above⟩
  have nextN : ∀ h₁ : Heap, (∀ b o, b ∉ [I] → h'.get? b = some o → h₁.get? b = some o) → News g₀ env.locals h₁ news' := fun h₁ hk₁ =>
    fun q hq => ⟨hk₁ _ _ (by simpa using nI q hq) (N' q hq).1, (N' q hq).2⟩
  by_cases hlt : i < n
  · refine W.item i _ _ _ hlt hst' fun v h₁ tk₁ hP hst₁ hk₁ => ?_
    have F₁ := nextF h₁ hk₁
    have N₁ := nextN h₁ hk₁
    obtain ⟨oI, hoI, hoT⟩ := hIo _ _ hst₁
    have N₃ : News g₀ env.locals h₁ ((I, oI) :: news') := fun q hq => by
      rcases List.mem_cons.mp hq with rfl | hq
      · exact ⟨hoI, hLI.symm, hgI⟩
      · exact N₁ q hq
    refine wpAny_mono (turn i v m' news' h₁ _ oI hoT hlt hP nI hJ F₁ N₃) (fun _ s₂ h₂ => wpAny_mono h₂ (fun f s₃ h₃ => ?_) fun e s' h' => hE e s' h') fun e s' h' => hE e s' h'
    have fin : EndY g₀ env.locals (J (i + 1)) I oI s s₃ → ∃ m, m < n + 1 - i ∧ ∃ h' tk m' news' i', s₃ = { s with heap := h', toks := tk } ∧ St i' h' ∧ Fr g₀ env.locals h' m' ∧ News g₀ env.locals h' news' ∧ (∀ q ∈ news', @Ne Nat q.1 I) ∧ J i' m' news' ∧ i' ≤ n ∧ m = n + 1 - i' := by
      rintro ⟨h₃', tk₃, m₃, news₃, nx, rfl, F₃, N₄, hsub, hI, hne, hJ₃⟩
      refine ⟨n + 1 - (i + 1), by omega, h₃', tk₃, m₃, nx, i + 1, rfl, ?_, F₃, fun q hq => N₄ q (hsub q hq), hne, hJ₃, hlt, rfl⟩
      exact W.frame _ _ _ hst₁ fun b hb o e => by
        rcases List.mem_cons.mp hb with rfl | hb
        · rw [hoI] at e; cases e
          exact (N₄ _ hI).1
        · obtain ⟨q, hq, rfl⟩ := List.mem_map.mp hb
          have h1 := (N₁ q (hJf _ _ _ hJ q hq)).1
          rw [h1] at e; cases e
          exact (N₄ q (hsub q (hJf _ _ _ hJ₃ q hq))).1
    cases f with
    | ret v => exact hQ _ _ h₃
    | brk => exact hQ _ _ h₃
    | next => exact fin h₃
    | cont => exact fin h₃
  · have hin : i = n := by omega
    subst hin
    refine W.done _ _ _ hst' fun h₁ tk₁ hk₁ => wpAny_execs_nil ?_
    exact hQ _ _ (done m' news' h₁ tk₁ hJ (nextF h₁ hk₁) (nextN h₁ hk₁))

theorem iterG_range {prog : Program} {w : World} {A : Around} {s : Shared} {env : Env} {tg : Expr} {body : List Stmt} {r : Addr} {a₀ b₀ c₀ : Int} {t₀ u₀ v₀ : Tok} {n : Nat} {m₀ : Str → Option Value} {news : List (Addr × Obj)} {Q : Flow → Shared → Prop} {E : Value → Shared → Prop}
    (J : Nat → (Str → Option Value) → List (Addr × Obj) → Prop)
    (hh : A.handled = none) (hr : IsRange s.heap r a₀ b₀ c₀ t₀ u₀ v₀) (hsmall : Builtin.Range.small a₀ b₀ c₀ = true) (hn : Builtin.Range.rangeSize a₀ b₀ c₀ = (n : Int))
    (F₀ : Fr g₀ env.locals s.heap m₀) (N₀ : News g₀ env.locals s.heap news) (hj : J 0 m₀ news)
    (hE : PassesOwn (model prog w) A env E)
    (turn : ∀ I i t m₁ news₁ h tk oI, NoTab oI → i < n → (∀ q ∈ news₁, @Ne Nat q.1 I) → J i m₁ news₁ →
      Fr g₀ env.locals h m₁ → News g₀ env.locals h ((I, oI) :: news₁) →
      wpAny (model prog w) A (assign tg env (.int (a₀ + (i : Nat) * c₀) t)) (fun _ s₂ => wpAny (model prog w) A (execs body env) (PostY g₀ env.locals (J (i + 1)) I oI Q s) E s₂) E { s with heap := h, toks := tk })
    (done : ∀ m₁ news₁ h tk, J n m₁ news₁ → Fr g₀ env.locals h m₁ → News g₀ env.locals h news₁ → Q .next { s with heap := h, toks := tk })
    (ht : ∀ I v, letOwnedTupleGo tg (.ref I) v = pure () := by intro _ _; rfl) :
    wpAny (model prog w) A (pyIter (.ref r)) (fun it s₂ => codeAny (model prog w) A (.forLoop tg it body [] env) (fun r s' => match r with | .ok f => Q f s' | .error e => cameBackBy (model prog w) A env E e s') s₂) E s := by
  refine wpAny_pyIter_range hr hsmall ?_
  have W : Walks prog w A s.heap.objs.size [s.heap.objs.size] [s.heap.objs.size] n (fun i v => i < n ∧ ∃ t, v = .int (a₀ + i * c₀) t)
      (fun i h => IsRangeIter h s.heap.objs.size (a₀ + (i : Nat) * c₀) ((n : Int) - (i : Nat)) c₀) := (Walks.range hh _ a₀ c₀ n).bound
  have gN : g₀.get? s.heap.objs.size = none := by
    cases q : g₀.get? s.heap.objs.size with
    | none => rfl
    | some o => exact absurd (Heap.lt_size (F₀.keep _ _ q)) (Nat.lt_irrefl _)
  refine loopG (s := { s with heap := s.heap.push _ }) (fpo := []) J Q E W (fun i h hi => ?_) (fun _ _ _ _ q hq => (nomatch hq)) (Nat.ne_of_lt F₀.ns.lt) gN (fun q hq => Nat.ne_of_lt (Heap.lt_size (N₀ q hq).1)) ?_ (F₀.push _) (fun q hq => ⟨Heap.get?_push_of_some _ (N₀ q hq).1, (N₀ q hq).2⟩) hj (fun e s' h => hE e s' h) (fun f s' h => h) ?_ ?_ (ht _)
  · exact ⟨_, hi, noTab_int rfl rfl⟩
  · show IsRangeIter _ _ _ _ _
    rw [hn]; simpa using Heap.get?_push_size _ rfl
  · rintro i v m₁ news₁ h tk oI hoT hi ⟨_, t, rfl⟩ ho hJ F N
    exact turn _ i t m₁ news₁ h tk oI hoT hi ho hJ F N
  · intro m₁ news₁ h tk hJ F N
    exact done m₁ news₁ h tk hJ F N

theorem iterG_list {prog : Program} {w : World} {A : Around} {s : Shared} {env : Env} {tg : Expr} {body : List Stmt} {r : Addr} {vs : List Value} {jv : Nat} {m₀ : Str → Option Value} {news : List (Addr × Obj)} {Q : Flow → Shared → Prop} {E : Value → Shared → Prop}
    (J : Nat → (Str → Option Value) → List (Addr × Obj) → Prop)
    (hh : A.handled = none) (hJf : ∀ i m nx, J i m nx → (r, listOf vs.toArray jv) ∈ nx)
    (F₀ : Fr g₀ env.locals s.heap m₀) (N₀ : News g₀ env.locals s.heap news) (hj : J 0 m₀ news)
    (hE : PassesOwn (model prog w) A env E)
    (turn : ∀ I i v m₁ news₁ h tk oI, NoTab oI → i < vs.length → vs[i]? = some v → (∀ q ∈ news₁, @Ne Nat q.1 I) → J i m₁ news₁ →
      Fr g₀ env.locals h m₁ → News g₀ env.locals h ((I, oI) :: news₁) →
      wpAny (model prog w) A (assign tg env v) (fun _ s₂ => wpAny (model prog w) A (execs body env) (PostY g₀ env.locals (J (i + 1)) I oI Q s) E s₂) E { s with heap := h, toks := tk })
    (done : ∀ m₁ news₁ h tk, J vs.length m₁ news₁ → Fr g₀ env.locals h m₁ → News g₀ env.locals h news₁ → Q .next { s with heap := h, toks := tk })
    (ht : ∀ I v, letOwnedTupleGo tg (.ref I) v = pure () := by intro _ _; rfl) :
    wpAny (model prog w) A (pyIter (.ref r)) (fun it s₂ => codeAny (model prog w) A (.forLoop tg it body [] env) (fun r s' => match r with | .ok f => Q f s' | .error e => cameBackBy (model prog w) A env E e s') s₂) E s := by
  have hmr := hJf _ _ _ hj
  have hl : s.heap.IsList r vs.toArray := ⟨_, (N₀ _ hmr).1, rfl, _, rfl⟩
  refine wpAny_pyIter_list hl ?_
  have hne : r ≠ s.heap.objs.size := Nat.ne_of_lt (Heap.lt_size (N₀ _ hmr).1)
  have W := Walks.list (prog := prog) (w := w) hh s.heap.objs.size r hne vs.toArray
  have gN : g₀.get? s.heap.objs.size = none := by
    cases q : g₀.get? s.heap.objs.size with
    | none => rfl
    | some o => exact absurd (Heap.lt_size (F₀.keep _ _ q)) (Nat.lt_irrefl _)
  refine loopG (s := { s with heap := s.heap.push _ }) (fpo := [(r, listOf vs.toArray jv)]) J Q E W (fun i h hi => ?_) (fun i m nx hJ q hq => by rw [List.mem_singleton.mp hq]; exact hJf i m nx hJ) (Nat.ne_of_lt F₀.ns.lt) gN (fun q hq => Nat.ne_of_lt (Heap.lt_size (N₀ q hq).1)) ?_ (F₀.push _) (fun q hq => ⟨Heap.get?_push_of_some _ (N₀ q hq).1, (N₀ q hq).2⟩) hj (fun e s' h => hE e s' h) (fun f s' h => h) ?_ ?_ (ht _)
  · obtain ⟨o, ho, _, hd⟩ := hi.1
    exact ⟨o, ho, noTab_int hd rfl⟩
  · exact ⟨⟨_, Heap.get?_push_size _ rfl, rfl, rfl⟩, hl.at fun o e => Heap.get?_push_of_some _ e⟩
  · rintro i v m₁ news₁ h tk oI hoT hi hv ho hJ F N
    exact turn _ i v m₁ news₁ h tk oI hoT (by simpa using hi) (by simpa using hv) ho hJ F N
  · intro m₁ news₁ h tk hJ F N
    exact done m₁ news₁ h tk (by simpa using hJ) F N
end
end Mine
end
section
open PySem PySem.W PyProof.Rows PySem.Calls PySem.Spec
set_option Elab.async false
namespace Mine
/-- the end of a comprehension's turn: what is kept, and that the word holds of the new ledger -/
def CEnd (h₀ : Heap) (L : Addr) (m : Str → Option Value) (s₁ : Shared) (I : Addr) (oI : Obj) (C : Addr) (oC : Obj) (D : Addr) (oD : Obj) (S : List (Addr × Obj) → Prop) (J : Value → List (Addr × Obj) → Prop) (y : Value) (s₂ : Shared) : Prop :=
  ∃ h' tk news' all, s₂ = { s₁ with heap := h', toks := tk } ∧ Fr h₀ L h' m ∧ News h₀ L h' all ∧ (∀ p ∈ (I, oI) :: (C, oC) :: (D, oD) :: news', p ∈ all) ∧ LCg.Off3 I C D news' ∧ S news' ∧ J y news'
theorem CEnd.intro {h₀ : Heap} {L I C D : Addr} {m : Str → Option Value} {s₁ : Shared} {oI oC oD : Obj} {S : List (Addr × Obj) → Prop} {J : Value → List (Addr × Obj) → Prop} {y : Value} {h' : Heap} {tk : Nat} {all news' : List (Addr × Obj)}
    (F : Fr h₀ L h' m) (N : News h₀ L h' all) (sub : ∀ p ∈ (I, oI) :: (C, oC) :: (D, oD) :: news', p ∈ all) (off : LCg.Off3 I C D news') (hS : S news') (j : J y news') :
    CEnd h₀ L m s₁ I oI C oC D oD S J y { s₁ with heap := h', toks := tk } := ⟨h', tk, news', all, rfl, F, N, sub, off, hS, j⟩
theorem CEnd.comp {h₀ : Heap} {L I C D : Addr} {m : Str → Option Value} {s₁ s₂ : Shared} {oI oC oD : Obj} {S : List (Addr × Obj) → Prop} {J J' : Value → List (Addr × Obj) → Prop} {y : Value}
    (h : CEnd h₀ L m s₁ I oI C oC D oD S J y s₂) (hj : ∀ nw, J y nw → J' y nw) : LCg.CompEnd h₀ L m s₁ I oI C oC D oD S J' y s₂ := by
  obtain ⟨h', tk, news', all, rfl, F, N, sub, off, hS, j⟩ := h
  exact ⟨h', tk, news', rfl, F, fun p hp => N p (sub p hp), off, hS, hj _ j⟩
section
variable {prog : Program} {w : World} {A : Around} {s : Shared} {h₀ : Heap} {L : Addr} {m : Str → Option Value} {env : Env} {ct elt : Expr} {x : Str} {scope : Scope} {cl : List (Str × Addr)} {S : List (Addr × Obj) → Prop} {P : Nat → Value → Prop} {Fin : List Value → List (Addr × Obj) → Prop} {n : Nat} {news : List (Addr × Obj)}
/-- a comprehension without a test, by a word over what it has made -/
theorem restU (J : Nat → List Value → List (Addr × Obj) → Prop) (h0 : J 0 [] news) (fin : ∀ ys nw, J n ys nw → Fin ys nw)
    (turn : ∀ i v ys nw I oI C oC D m₂ h tk (E' : Value → Shared → Prop), i < n → P i v → J i ys nw → LCg.NsObj oC m₂ → m₂ x = some v → Fr h₀ L h m → News h₀ L h ((I, oI) :: (C, oC) :: (D, LCg.lst ys) :: nw) → LCg.Off3 I C D nw → ((@Ne Nat I C) ∧ (@Ne Nat I D) ∧ (@Ne Nat C D)) →
      wpAny (model prog w) A (eval elt (compEnvC scope cl C env)) (CEnd h₀ L m { s with heap := h, toks := tk } I oI C oC D (LCg.lst ys) S (fun y nw' => J (i + 1) (ys ++ [y]) nw')) E' { s with heap := h, toks := tk }) :
    LCg.CompRest prog w A h₀ L m env elt x scope cl s S P Fin n 0 [] news := by
  have key : ∀ k i ys nw, i + k = n → J i ys nw → LCg.CompRest prog w A h₀ L m env elt x scope cl s S P Fin k i ys nw := by
    intro k
    induction k with
    | zero => intro i ys nw e hJ; rw [show i = n by omega] at hJ; exact fin ys nw hJ
    | succ k ih =>
      intro i ys nw e hJ
      refine LCg.CompRest.succ fun v I oI C oC D m₂ h tk E' hP hC hx F N off ne => ?_
      exact wpAny_mono (turn i v ys nw I oI C oC D m₂ h tk E' (by omega) hP hJ hC hx F N off ne) (fun y s₂ h₂ => h₂.comp fun nw' hj => ih (i + 1) _ nw' (by omega) hj) fun _ _ e => e
  exact key n 0 [] news (by omega) h0
/-- a comprehension with one test -/
theorem restT (J : Nat → List Value → List (Addr × Obj) → Prop) (h0 : J 0 [] news) (fin : ∀ ys nw, J n ys nw → Fin ys nw)
    (turn : ∀ i v ys nw I oI C oC D m₂ h tk (E' : Value → Shared → Prop), i < n → P i v → J i ys nw → LCg.NsObj oC m₂ → m₂ x = some v → Fr h₀ L h m → News h₀ L h ((I, oI) :: (C, oC) :: (D, LCg.lst ys) :: nw) → LCg.Off3 I C D nw → ((@Ne Nat I C) ∧ (@Ne Nat I D) ∧ (@Ne Nat C D)) →
      wpAny (model prog w) A (isTrue ct (compEnvC scope cl C env) (eval ct (compEnvC scope cl C env))) (fun ok s' => if ok = true then
        wpAny (model prog w) A (eval elt (compEnvC scope cl C env)) (CEnd h₀ L m { s with heap := h, toks := tk } I oI C oC D (LCg.lst ys) S (fun y nw' => J (i + 1) (ys ++ [y]) nw')) E' s'
        else CEnd h₀ L m { s with heap := h, toks := tk } I oI C oC D (LCg.lst ys) S (fun _ nw' => J (i + 1) ys nw') Value.none s') E' { s with heap := h, toks := tk }) :
    LCt.CompRestT prog w A h₀ L m env ct elt x scope cl s S P Fin n 0 [] news := by
  have key : ∀ k i ys nw, i + k = n → J i ys nw → LCt.CompRestT prog w A h₀ L m env ct elt x scope cl s S P Fin k i ys nw := by
    intro k
    induction k with
    | zero => intro i ys nw e hJ; rw [show i = n by omega] at hJ; exact fin ys nw hJ
    | succ k ih =>
      intro i ys nw e hJ
      refine LCt.CompRestT.succ fun v I oI C oC D m₂ h tk E' hP hC hx F N off ne => ?_
      refine wpAny_mono (turn i v ys nw I oI C oC D m₂ h tk E' (by omega) hP hJ hC hx F N off ne) (fun ok s₂ h₂ => ?_) fun _ _ e => e
      cases ok with
      | true =>
        simp only [if_true] at h₂ ⊢
        exact wpAny_mono h₂ (fun y s₃ h₃ => h₃.comp fun nw' hj => ih (i + 1) _ nw' (by omega) hj) fun _ _ e => e
      | false =>
        simp only [Bool.false_eq_true, if_false] at h₂ ⊢
        exact h₂.comp fun nw' hj => ih (i + 1) _ nw' (by omega) hj
  exact key n 0 [] news (by omega) h0
/-- the same, the ledger's rest unchanged -/
def CEnd1 (h₀ : Heap) (L : Addr) (m : Str → Option Value) (s₁ : Shared) (I : Addr) (oI : Obj) (C : Addr) (oC : Obj) (D : Addr) (oD : Obj) (news : List (Addr × Obj)) (J : Value → Prop) (y : Value) (s₂ : Shared) : Prop :=
  ∃ h' tk all, s₂ = { s₁ with heap := h', toks := tk } ∧ Fr h₀ L h' m ∧ News h₀ L h' all ∧ (∀ p ∈ (I, oI) :: (C, oC) :: (D, oD) :: news, p ∈ all) ∧ J y
theorem CEnd1.intro {h₀ : Heap} {L I C D : Addr} {m : Str → Option Value} {s₁ : Shared} {oI oC oD : Obj} {J : Value → Prop} {y : Value} {h' : Heap} {tk : Nat} {all news : List (Addr × Obj)}
    (F : Fr h₀ L h' m) (N : News h₀ L h' all) (sub : ∀ p ∈ (I, oI) :: (C, oC) :: (D, oD) :: news, p ∈ all) (j : J y) :
    CEnd1 h₀ L m s₁ I oI C oC D oD news J y { s₁ with heap := h', toks := tk } := ⟨h', tk, all, rfl, F, N, sub, j⟩
theorem CEnd1.to {h₀ : Heap} {L I C D : Addr} {m : Str → Option Value} {s₁ s₂ : Shared} {oI oC oD : Obj} {S : List (Addr × Obj) → Prop} {J : Value → Prop} {y : Value} {news : List (Addr × Obj)}
    (h : CEnd1 h₀ L m s₁ I oI C oC D oD news J y s₂) (off : LCg.Off3 I C D news) (hS : S news) : CEnd h₀ L m s₁ I oI C oC D oD S (fun y nw => nw = news ∧ J y) y s₂ := by
  obtain ⟨h', tk, all, rfl, F, N, sub, j⟩ := h
  exact ⟨h', tk, news, all, rfl, F, N, sub, off, hS, rfl, j⟩
theorem restU1 (J : Nat → List Value → Prop) (hS : S news) (h0 : J 0 []) (fin : ∀ ys, J n ys → Fin ys news)
    (turn : ∀ i v ys I oI C oC D m₂ h tk (E' : Value → Shared → Prop), i < n → P i v → J i ys → LCg.NsObj oC m₂ → m₂ x = some v → Fr h₀ L h m → News h₀ L h ((I, oI) :: (C, oC) :: (D, LCg.lst ys) :: news) → LCg.Off3 I C D news → ((@Ne Nat I C) ∧ (@Ne Nat I D) ∧ (@Ne Nat C D)) →
      wpAny (model prog w) A (eval elt (compEnvC scope cl C env)) (CEnd1 h₀ L m { s with heap := h, toks := tk } I oI C oC D (LCg.lst ys) news (fun y => J (i + 1) (ys ++ [y]))) E' { s with heap := h, toks := tk }) :
    LCg.CompRest prog w A h₀ L m env elt x scope cl s S P Fin n 0 [] news := by
  refine restU (fun i ys nw => nw = news ∧ J i ys) ⟨rfl, h0⟩ (fun ys nw ⟨e, hJ⟩ => e ▸ fin ys hJ) ?_
  rintro i v ys nw I oI C oC D m₂ h tk E' hi hP ⟨rfl, hJ⟩ hC hx F N off ne
  exact wpAny_mono (turn i v ys I oI C oC D m₂ h tk E' hi hP hJ hC hx F N off ne) (fun y s₂ h₂ => h₂.to off hS) fun _ _ e => e
theorem restT1 (J : Nat → List Value → Prop) (hS : S news) (h0 : J 0 []) (fin : ∀ ys, J n ys → Fin ys news)
    (turn : ∀ i v ys I oI C oC D m₂ h tk (E' : Value → Shared → Prop), i < n → P i v → J i ys → LCg.NsObj oC m₂ → m₂ x = some v → Fr h₀ L h m → News h₀ L h ((I, oI) :: (C, oC) :: (D, LCg.lst ys) :: news) → LCg.Off3 I C D news → ((@Ne Nat I C) ∧ (@Ne Nat I D) ∧ (@Ne Nat C D)) →
      wpAny (model prog w) A (isTrue ct (compEnvC scope cl C env) (eval ct (compEnvC scope cl C env))) (fun ok s' => if ok = true then
        wpAny (model prog w) A (eval elt (compEnvC scope cl C env)) (CEnd1 h₀ L m { s with heap := h, toks := tk } I oI C oC D (LCg.lst ys) news (fun y => J (i + 1) (ys ++ [y]))) E' s'
        else CEnd1 h₀ L m { s with heap := h, toks := tk } I oI C oC D (LCg.lst ys) news (fun _ => J (i + 1) ys) Value.none s') E' { s with heap := h, toks := tk }) :
    LCt.CompRestT prog w A h₀ L m env ct elt x scope cl s S P Fin n 0 [] news := by
  refine restT (fun i ys nw => nw = news ∧ J i ys) ⟨rfl, h0⟩ (fun ys nw ⟨e, hJ⟩ => e ▸ fin ys hJ) ?_
  rintro i v ys nw I oI C oC D m₂ h tk E' hi hP ⟨rfl, hJ⟩ hC hx F N off ne
  refine wpAny_mono (turn i v ys I oI C oC D m₂ h tk E' hi hP hJ hC hx F N off ne) (fun ok s₂ h₂ => ?_) fun _ _ e => e
  cases ok with
  | true =>
    simp only [if_true] at h₂ ⊢
    exact wpAny_mono h₂ (fun y s₃ h₃ => h₃.to off hS) fun _ _ e => e
  | false =>
    simp only [Bool.false_eq_true, if_false] at h₂ ⊢
    exact h₂.to off hS
end
theorem off1_of {D : Addr} : ∀ {R : List (Addr × Obj)}, LCg.Off1 D R → OwnOff R [D]
  | [], _ => fun _ h => nomatch h
  | q :: R, h => fun p hp a ha => by
    rcases List.mem_cons.mp hp with rfl | hp
    · rw [List.mem_singleton.mp ha]; exact h.1
    · exact off1_of h.2 p hp a ha
theorem ints_at {vs : List Value} {ks : List Int} (h : IntsAre vs ks) : ∀ {i : Nat} {v : Value}, vs.toArray[i]? = some v → ∃ k t, v = .int k t ∧ ks[i]? = some k ∧ ks.take (i + 1) = ks.take i ++ [k] := by
  induction h with
  | nil => intro i v hv; simp at hv
  | cons k t _ ih =>
    intro i v hv
    cases i with
    | zero => simp at hv; subst hv; exact ⟨k, t, rfl, rfl, by simp⟩
    | succ i =>
      obtain ⟨k', t', e1, e2, e3⟩ := ih (i := i) (v := v) (by simpa using hv)
      exact ⟨k', t', e1, by simpa using e2, by simp [e3]⟩
theorem bytes_at {vs : List Value} {ks : List (Array UInt8)} (h : BytesAre vs ks) : ∀ {i : Nat} {v : Value}, vs.toArray[i]? = some v → ∃ k t, v = .bytes k t ∧ ks[i]? = some k ∧ ks.take (i + 1) = ks.take i ++ [k] := by
  induction h with
  | nil => intro i v hv; simp at hv
  | cons k t _ ih =>
    intro i v hv
    cases i with
    | zero => simp at hv; subst hv; exact ⟨k, t, rfl, rfl, by simp⟩
    | succ i =>
      obtain ⟨k', t', e1, e2, e3⟩ := ih (i := i) (v := v) (by simpa using hv)
      exact ⟨k', t', e1, by simpa using e2, by simp [e3]⟩
theorem filt_yes {p : Int → Bool} {ks : List Int} {i : Nat} {k : Int} {ys : List Value} {t : Tok} (h : IntsAre ys ((ks.take i).filter p)) (e : ks.take (i + 1) = ks.take i ++ [k]) (hp : p k = true) : IntsAre (ys ++ [.int k t]) ((ks.take (i + 1)).filter p) := by
  rw [e, List.filter_append, List.filter_cons_of_pos hp, List.filter_nil]; exact ints_snoc h _ _
theorem filt_no {p : Int → Bool} {ks : List Int} {i : Nat} {k : Int} {ys : List Value} (h : IntsAre ys ((ks.take i).filter p)) (e : ks.take (i + 1) = ks.take i ++ [k]) (hp : p k = false) : IntsAre ys ((ks.take (i + 1)).filter p) := by
  rw [e, List.filter_append, List.filter_cons_of_neg (by simp [hp]), List.filter_nil, List.append_nil]; exact h
section
variable {prog : Program} {w : World} {A : Around} {E : Value → Shared → Prop} {s : Shared} {h₀ : Heap} {L D : Addr} {m : Str → Option Value} {news : List (Addr × Obj)} {upd : Obj → List (Addr × Obj)} {n : Nat} {x y v : Value} {t : Tok} {Q : Unit → Shared → Prop}
theorem set_two0 (F : Fr h₀ L s.heap m) (N : News h₀ L s.heap news) (U : UpdF D (listOf #[x, y] n) news upd)
    (h : ∀ h', Fr h₀ L h' m → News h₀ L h' (upd (listOf #[v, y] n)) → Q () { s with heap := h' }) : wpAny (model prog w) A (setItem (.ref D) (.int 0 t) v) Q E s := by
  obtain ⟨pre, post, rfl, hu, a, b⟩ := U.split
  have z := N (D, listOf #[x, y] n) (List.mem_append.mpr (.inr (.head _)))
  exact ki_setAt z.1 (by decide) (by decide) (by show (0 : Int) < ((2 : Nat) : Int); decide) (h _ (F.change (Heap.SameBut.update ..) z.2.1 z.2.2) (by rw [hu]; exact ki_turn _ N a b rfl rfl))
theorem set_two1 (F : Fr h₀ L s.heap m) (N : News h₀ L s.heap news) (U : UpdF D (listOf #[x, y] n) news upd)
    (h : ∀ h', Fr h₀ L h' m → News h₀ L h' (upd (listOf #[x, v] n)) → Q () { s with heap := h' }) : wpAny (model prog w) A (setItem (.ref D) (.int 1 t) v) Q E s := by
  obtain ⟨pre, post, rfl, hu, a, b⟩ := U.split
  have z := N (D, listOf #[x, y] n) (List.mem_append.mpr (.inr (.head _)))
  exact ki_setAt z.1 (by decide) (by decide) (by show (1 : Int) < ((2 : Nat) : Int); decide) (h _ (F.change (Heap.SameBut.update ..) z.2.1 z.2.2) (by rw [hu]; exact ki_turn _ N a b rfl rfl))
end
/-- the table's codes ahead, the rest behind -/
theorem mid_T {h₀ h : Heap} {L : Addr} {pre R' T R : List (Addr × Obj)} (N : News h₀ L h (pre ++ R')) (hR : R' = T ++ R) : News h₀ L h (T ++ (pre ++ R)) := news_sub N fun q hq => by
  subst hR
  simp only [List.mem_append] at hq ⊢
  rcases hq with h | h | h <;> simp [h]
theorem off_app {R R' : List (Addr × Obj)} {as : List Addr} (h : OwnOff R as) (h' : OwnOff R' as) : OwnOff (R ++ R') as := fun q hq => (List.mem_append.mp hq).elim (h q) (h' q)
theorem off_sub {R : List (Addr × Obj)} {as bs : List Addr} (h : OwnOff R as) (hs : ∀ b ∈ bs, b ∈ as) : OwnOff R bs := fun q hq b hb => h q hq b (hs b hb)
theorem news_tail {h₀ h : Heap} {L : Addr} {a : Addr × Obj} {l : List (Addr × Obj)} (N : News h₀ L h (a :: l)) : News h₀ L h l := fun p hp => N p (List.mem_cons_of_mem _ hp)
theorem mid_back {h₀ h : Heap} {L : Addr} {a b c : Addr × Obj} {pre R' T R : List (Addr × Obj)} (N : News h₀ L h (a :: b :: c :: (T ++ (pre ++ R)))) (hR : R' = T ++ R) : News h₀ L h (a :: b :: c :: (pre ++ R')) := news_sub N fun q hq => by
  subst hR
  simp only [List.mem_cons, List.mem_append] at hq ⊢
  rcases hq with h | h | h | h | h | h <;> simp [h]
def NoFld (o : Obj) : Prop := ∀ vs, o.data ≠ .fields vs
theorem noFld_seq {o : Obj} {vs : Array Value} {n : Nat} (h : o.data = .seq vs n) : NoFld o := fun _ e => by rw [h] at e; cases e
theorem noFld_cell {o : Obj} {v : Option Value} (h : o.data = .cell v) : NoFld o := fun _ e => by rw [h] at e; cases e
theorem noFld_dict {o : Obj} {es : Array DictEntry} {n : Nat} (h : o.data = .dict es n) : NoFld o := fun _ e => by rw [h] at e; cases e
theorem neP {h₀ h : Heap} {L a P : Addr} {X : List (Addr × Obj)} {o : Obj} {ps : Array Value} (N : News h₀ L h X) (hp : (P, tabObj ps) ∈ X) (hm : (a, o) ∈ X) (hd : NoFld o) : @Ne Nat a P := fun e => by
  have e1 := (N _ hp).1
  have e2 := (N _ hm).1
  dsimp only at e1 e2
  rw [e] at e2
  exact hd _ (by rw [Option.some.inj (e2.symm.trans e1)])
theorem tab_offK {h₀ h : Heap} {L a P : Addr} {X T : List (Addr × Obj)} {o : Obj} {i j : Value} {qual : Str} (N : News h₀ L h X) (hT : Tab P i j qual T) (hs : ∀ e ∈ T, e ∈ X) (hm : (a, o) ∈ X) (hn : NoFld o) : OwnOff T [a] := by
  obtain ⟨ps, hp⟩ := hT.mem
  exact tab_off N hT hs hm (fun vs q t e => absurd e (hn vs)) (neP N (hs _ hp) hm hn).symm
section
variable {prog : Program} {w : World} {A : Around} {E : Value → Shared → Prop} {s : Shared} {h₀ : Heap} {L D b : Addr} {m : Str → Option Value} {news : List (Addr × Obj)} {upd : Obj → List (Addr × Obj)} {n n2 : Nat} {vs ws : List Value} {Q : Value → Shared → Prop}
theorem extend_list (F : Fr h₀ L s.heap m) (N : News h₀ L s.heap news) (hb : (b, listOf ws.toArray n2) ∈ news) (U : UpdF D (listOf vs.toArray n) news upd) (hz : vs.length + ws.length ≤ 1000000)
    (h : ∀ h' n', Fr h₀ L h' m → News h₀ L h' (upd (listOf (vs ++ ws).toArray n')) → Q .none { s with heap := h' }) : wpAny (model prog w) A (call (.builtin "list.extend") [.ref D, .ref b]) Q E s := by
  obtain ⟨pre, post, rfl, hu, a, c⟩ := U.split
  have z := N (D, listOf vs.toArray n) (List.mem_append.mpr (.inr (.head _)))
  have hl : Builtin.List.listTooLong (vs.toArray.size + ws.toArray.size) = false := by
    unfold Builtin.List.listTooLong
    simp only [List.size_toArray]
    have := sizeLine_eq
    simp; omega
  refine call_meets PySem.F.slot_list_extend ⟨_, z.1, rfl⟩ PySem.F.entry_list_extend (PySem.F.args_list_extend_2 _ _) (PySem.AutoSeq1.list_extend_list_list_0 D vs.toArray n b ws.toArray n2 (by rw [hl]; simp) (by rw [sizeLine_eq, List.size_toArray]; omega) (by rw [sizeLine_eq, List.size_toArray, List.size_toArray]; omega)) ⟨z.1, (N _ hb).1, h _ _ (F.change (Heap.SameBut.update ..) z.2.1 z.2.2) (by rw [hu]; exact ki_turn _ N a c (by simp) rfl)⟩
end
end Mine
end
section
open PySem PySem.W PyProof.Rows PySem.Calls PySem.Spec
set_option Elab.async false
set_option maxRecDepth 100000
set_option maxHeartbeats 8000000
namespace Mine
local macro_rules | `(tactic| k_room) => `(tactic| ktr_room)
local macro_rules | `(tactic| k_units) => `(tactic| ktr_units)
local macro_rules | `(tactic| k_mem) => `(tactic| first | exact List.Mem.head _ | (refine List.mem_cons_of_mem _ ?_; k_mem))
theorem stream_ct (w : World) {p : Program} {loose : List Str} {mean : ExcName → Option Value} {mg mb : Str → Option Value}
  {dp un : Nat} {gd : Option (List Code)} {cn : Str} {cs : Scope} {a : Addr} {ccd : Value} {cl : List (Str × Addr)} {outer : List Env} {A₀ : Around} {base h₀ : Heap} {L : Addr} {m : Str → Option Value} {rest T : List (Addr × Obj)} {s : Shared}
  {b : Array UInt8} {tb : Tok} {Q E : Value → Shared → Prop}
  (B : Below A₀ base outer h₀) (F : Fr h₀ L s.heap m) (X : (hd01.heap_39 w.params).In h₀) (N : News h₀ L s.heap (T ++ rest)) (TT : Top p loose mean mg mb h₀)
  (H : CodeHd h₀ 48 44) (hT : Tab 44 (rawInt 15) (rawInt 4) (Str.ofString "_law_stream.<locals>._law_read") T) (hoff : OwnOff rest [44])
  (hk : cs.kind = .function) (hd : dp + 20 < recursionLimit)
  (ok : ∀ x dx r k1 k2 tp I T' h' tk, Strm Challenge.rw_dm0232_01.row.prog w (hd01.heap_39 w.params) p loose mean mg mb 38 x dx r k1 k2 b I → Tab 44 (rawInt 15) (rawInt 4) (Str.ofString "_law_stream.<locals>._law_read") T' →
    OwnOff I [44] → OwnOff T' [dx] → OwnOff rest [dx] →
    Fr h₀ L h' m → News h₀ L h' ((dx, SD w.params k1 k2 r 0 tp) :: (I ++ (T' ++ rest))) → Q (.ref x) { s with heap := h', toks := tk }) :
  wpAny (model Challenge.rw_dm0232_01.row.prog w) (ktrTop dp un gd cn cs L a ccd cl outer) (call (.ref 49) [.bytes b tb]) Q E s := by
  revert X; k_fill; intro X
  have hMk := kstMark
  cases hT
  all_goals
    simp only [List.cons_append, List.nil_append] at N
    refine wpAny_call ?_
    refine' code_defC ?k1 ?k2 ?k3 ?k4 ?k5 ?kA ?kF ?kK ?k6 ?k7 ?k8 ?k9 ?kB ?kD ?_ ?c2 ?c3 ?c4
    case kA => exact rfl
    case kF => exact rfl
    case kK => assumption
    case k1 => k_asm
    case k2 => k_asm
    case k3 => k_asm
    case k4 => k_asm
    case k5 => k_asm
    case k6 => k_is
    case k7 => k_is
    case k8 => ktr_room
    case k9 => exact BindsTo.of_eq rfl
    case kB => exact rfl
    case kD => decide +kernel
    case c2 => exact rfl
    case c3 => exact rfl
    case c4 => exact rfl
    intro g' L' h' tk' cells' FG' F' N' Y' B' X' T' l1
    (try k_lt l1)
    have hO : OwnOff rest [L' + 1, L' + 1 + 1] := off_lt (d := L') (by first | exact l1.2 | exact l1.2.2) (by intro a ha; simp only [List.mem_cons, List.not_mem_nil, or_false] at ha; rcases ha with rfl | rfl <;> exact Nat.le_add_right_of_le (by omega))
    have H' : CodeHd g' 48 44 := H.keeps FG'.keep
    k_cells Y'
    (try simp only [List.cons_append, List.nil_append] at N')
    (try dsimp only)
    (try k_lift B')
    (try k_fold)
    k_steps
    rename News h₀ L _ _ => NN
    rename Fr h₀ L _ m => FF
    first
    | refine ok _ _ _ _ _ _ _ _ _ _ ?strm ?tab ?o1 ?o2 ?lt FF (fin_none NN)
    | refine ok _ _ _ _ _ _ _ _ _ _ ?strm ?tab ?o1 ?o2 ?lt FF (fin_some NN)
    case o1 => exact off_one (by k_all)
    case o2 => exact off_one (by k_all)
    case lt => exact off_one (by k_all)
    case tab => refine Tab.some ?_ (by assumption) (by assumption); k_ne
    case strm =>
      refine strm_mk (by k_mem) ⟨_, _, _, _, by k_mem⟩ (off_one (by k_all)) (by intro e he; simp only [List.mem_cons, List.not_mem_nil, or_false] at he; rcases he with rfl | rfl | rfl | rfl | rfl <;> first | exact kin_func rfl | exact kin_plain rfl | exact kin_fields (by assumption) | exact kin_cell (by assumption)) (fun hoI => ?_)
      intro dp un gd cn cs a ccd outer A₀ base h₀ L m news upd s q n tq tn Q E B F X N T hk hd hu hI U hq hb hn hret
      obtain ⟨rest, hof, hnw, hup⟩ := upd_split U
      have N2 := news_sub (l' := (_, _) :: rest) N (fun e he => (hnw e).mpr (List.mem_cons.mp he))
      have hm := mem_rest hI hoI hnw
      simp only [List.forall_mem_cons] at hm
      obtain ⟨m1, m2, m3, m4, m5, -⟩ := hm
      obtain ⟨ks, hks⟩ : ∃ ks, KBw.bInts b = ks := ⟨_, rfl⟩
      have hkl : ks.length = b.size := by rw [← hks]; exact KBw.ints_length b
      clear hI U N
      refine wpAny_call ?_
      k_dflt (refine' code_nest ?k1 ?k2 ?k3 ?k4 ?k5 ?kA ?kF ?kK ?k6 ?k7 ?k8 ?k9 ?kB ?_ ?c2 ?c3 ?c4 ?c5; (case kA => exact rfl); (case kF => exact rfl); (case kK => assumption); (case k2 => k_asm); (case k1 => k_asm); (case k3 => k_asm); (case k4 => k_asm); (case k5 => k_asm); (case k6 => k_mem); (case k7 => exact codeRec_news (by k_asm) (by k_mem) (by assumption) (by assumption)); (case k8 => k_room); (case k9 => exact BindsTo.of_eq rfl); (case c5 => decide); (case kB => exact locs rfl); (case c2 => exact rfl); (case c3 => exact rfl); (case c4 => exact rfl); k_whole; intro g' L' h' FG' F' N' B' X' T'; (try dsimp only); (try k_lift B'); (try k_fold))
      k_steps
      rename News h₀ L _ _ => NN
      rename Fr h₀ L _ m => FF
      rw [picked_cut hq]
      exact hret _ _ _ _ FF (read_fin NN (read_place hq hkl) hup)
local macro_rules | `(tactic| walk_at "callWith ref") => `(tactic| (k_here; (rename Strm _ _ _ _ _ _ _ _ _ _ _ _ _ _ _ _ => sS); k_dflt (refine' callWith_F ?k1 ?_; (case k1 => exact FnAt.of (by k_asm) (by k_mem)); k_whole)))
local macro_rules | `(tactic| walk_at "call ref") => `(tactic| (k_here; (rename Strm _ _ _ _ _ _ _ _ _ _ _ _ _ _ _ _ => sS); (with_reducible show wpAny _ _ (call (Value.ref _) [Value.int _ _]) _ _ _); k_dflt (first | (refine' strm_read 1 rfl sS ?B ?F ?X ?N ?T ?hk ?hd ?hu ?hI ?U ?hq ?hb ?hn ?_; (case F => k_asm); (case N => k_asm); (case B => k_asm); (case X => k_asm); (case T => k_asm); (case hk => first | rfl | assumption); (case hd => ktr_room); (case hu => ktr_units); (case hI => (repeat (first | assumption | refine Sub.cons ?_))); (case U => k_updF); (case hq => omega); (case hb => omega); (case hn => decide)) | (refine' strm_read _ rfl sS ?B ?F ?X ?N ?T ?hk ?hd ?hu ?hI ?U ?hq ?hb ?hn ?_; (case F => k_asm); (case N => k_asm); (case B => k_asm); (case X => k_asm); (case T => k_asm); (case hk => first | rfl | assumption); (case hd => ktr_room); (case hu => ktr_units); (case hI => (repeat (first | assumption | refine Sub.cons ?_))); (case U => k_updF); (case hq => omega); (case hb => omega); (case hn => omega))); intro h' tk' t1 t2 F' N'; (try dsimp only)))
local macro_rules | `(tactic| walk_at "exec Raise some none") => `(tactic| (k_here; (with_reducible show wpAny _ _ (exec (Stmt.Raise (some (Expr.Call (Expr.Name ("ValueError" : Str) _) (_ :: _) [] _)) none _) _) _ _ _); (with_reducible rename Fr _ _ _ _ => kF); k_dflt (refine' Raise_madeB PySem.F.excCall_ValueError PySem.F.excRaise_ValueError ?hh (name_B kF ?k1 ?k2 ?k3 PyProof.Rows.Boot.«ValueError» ?k5 ⟨rfl, ?_⟩) ?a ?b; (case hh => rfl); (case a => rfl); (case b => rfl); (case k1 => k_asm); (case k2 => k_asm); (case k3 => k_is); (case k5 => decide))))
local macro_rules | `(tactic| walk_at "ite") => `(tactic| (k_here; first | (refine ite_pos (by first | omega | (simp only [decide_eq_true_eq, beq_iff_eq]; omega)) ?_) | (refine ite_neg (by first | omega | (simp only [decide_eq_true_eq, beq_iff_eq]; omega)) ?_)))
local macro_rules | `(tactic| walk_at "binaryOp Mod str ref") => `(tactic| (k_here; k_dflt (first | (refine' modB ?N ?b ?a1 ?a2 ?a3 ?a4 ?_; (case N => k_asm); (case b => k_mem); (case a1 => omega); (case a2 => omega); (case a3 => omega); (case a4 => omega)) | (refine' modS ?N ?b ?a1 ?a2 ?a3 ?a4 ?_; (case N => k_asm); (case b => k_mem); (case a1 => omega); (case a2 => omega); (case a3 => omega); (case a4 => omega))); intro _ _))
theorem ru1_ct (w : World) {p : Program} {loose : List Str} {mean : ExcName → Option Value} {mg mb : Str → Option Value}
  {dp un : Nat} {gd : Option (List Code)} {cn : Str} {cs : Scope} {a : Addr} {ccd : Value} {cl : List (Str × Addr)} {outer : List Env} {A₀ : Around} {base h₀ : Heap} {L : Addr} {m : Str → Option Value}
  {news I : List (Addr × Obj)} {upd : Obj → List (Addr × Obj)} {s : Shared} {f dx r : Addr} {k1 k2 tq : Tok} {b : Array UInt8} {q : Nat} {Q E : Value → Shared → Prop}
  (B : Below A₀ base outer h₀) (F : Fr h₀ L s.heap m) (X : (hd01.heap_39 w.params).In h₀) (N : News h₀ L s.heap news) (T : Top p loose mean mg mb h₀)
  (S : Strm Challenge.rw_dm0232_01.row.prog w (hd01.heap_39 w.params) p loose mean mg mb 38 f dx r k1 k2 b I) (hI : Sub I news) (U : UpdF dx (SD w.params k1 k2 r (q : Int) tq) news upd)
  (hk : cs.kind = .function) (hd : dp + 10 < recursionLimit) (hu : un + 60 < cLine) (hq : q ≤ b.size) (hb : b.size ≤ 1048576)
  (ok : ∀ h' tk t1 t2, q < b.size → Fr h₀ L h' m → News h₀ L h' (upd (SD w.params k1 k2 r ((q + 1 : Nat) : Int) t1)) → Q (.int (oct b q : Int) t2) { s with heap := h', toks := tk })
  (err : ∀ g e t u h' tk t1, q = b.size → Fr h₀ L g m → RaisedS base g (envX cn cs L a ccd cl :: outer) e (.type "ValueError") t [.str (msg0) u] (upd (SD w.params k1 k2 r (b.size : Int) t1)) h' → g.UpToSlots h' → E (.ref e) { s with heap := h', toks := tk }) :
  wpAny (model Challenge.rw_dm0232_01.row.prog w) (ktrTop dp un gd cn cs L a ccd cl outer) (call (.ref 21) [.ref f]) Q E s := by
  revert X; k_fill; intro X
  have hMk := kstMark
  obtain ⟨rest, hof, hnw, hup⟩ := upd_split U
  have N2 := news_sub (l' := (_, _) :: rest) N (fun e he => (hnw e).mpr (List.mem_cons.mp he))
  have hm : Sub I rest := mem_rest hI S.off hnw
  have mi := hm _ S.inst
  obtain ⟨oc, od, fd, sl, mf⟩ := S.fn
  have mf := hm _ mf
  clear hI U N
  have D0 : KtsDicts [] h₀ := ktsDicts_nil
  have hc : q < b.size ∨ q = b.size := by omega
  rcases hc with hc | hc
  · have hks := ints_cut1 hc
    refine wpAny_call ?_
    k_dflt ktr_enter
    k_steps
    · rename News h₀ L _ _ => NN
      rename Fr h₀ L _ m => FF
      exact ok _ _ _ _ hc FF (read_fin NN (by rw [cut1_size hc]) hup)
    · rename ¬ _ < _ => hx
      exact absurd (Nat.zero_lt_succ _) hx
  · have hks : KBw.bInts (cutB b q 1) = [] := by rw [hc]; exact ints_cut0
    have hsz : (cutB b q 1).size = 0 := by rw [hc]; exact cut0_size
    refine wpAny_call ?_
    k_dflt ktr_enter
    k_steps
    rename RaisedS _ _ _ _ _ _ _ _ _ => RR
    rename Fr h₀ L _ m => FF
    rename Heap.UpToSlots _ _ => UU
    exact err _ _ _ _ _ _ _ hc FF (raise_fin RR (by rw [hsz, hc]; rfl) hup) UU
local macro_rules | `(tactic| walk_at "call ref") => `(tactic| (k_here; (rename Strm _ _ _ _ _ _ _ _ _ _ _ _ _ _ _ _ => sS); (with_reducible show wpAny _ _ (call (Value.ref 21) [Value.ref _]) _ _ _); k_dflt (refine' ru1_ct _ ?B ?F ?X ?N ?T sS ?hI ?U ?hk ?hd ?hu ?hq ?hb (fun h' tk' t1 t2 hlt' F' N' => ?_) (fun g' e' t' u' h' tk' t1 heq' F' R' U' => ?_); (case F => k_asm); (case N => k_asm); (case B => k_asm); (case X => k_asm); (case T => k_asm); (case hk => first | rfl | assumption); (case hd => ktr_room); (case hu => ktr_units); (case hI => (repeat (first | assumption | refine Sub.cons ?_))); (case U => k_updF); (case hq => omega); (case hb => omega)); (all_goals (first | (exfalso; omega) | (try dsimp only)))))
end Mine
end
section
open PySem PySem.W PyProof.Rows PySem.Calls PySem.Spec
set_option Elab.async false
set_option maxRecDepth 100000
set_option maxHeartbeats 8000000
namespace Mine
local macro_rules | `(tactic| walk_at "pad 0") => `(tactic| fail)
local macro_rules | `(tactic| walk_at "pad 1") => `(tactic| fail)
local macro_rules | `(tactic| k_room) => `(tactic| ktr_room)
local macro_rules | `(tactic| k_units) => `(tactic| ktr_units)
local macro_rules | `(tactic| k_mem) => `(tactic| first | exact List.Mem.head _ | (refine List.mem_cons_of_mem _ ?_; k_mem))
local macro_rules | `(tactic| lcg_src) => `(tactic| first | exact List.Mem.head _ | (refine List.mem_cons_of_mem _ ?_; lcg_src) | assumption)
local macro_rules | `(tactic| walk_at "call builtin:len") => `(tactic| (k_here; (with_reducible show wpAny _ _ (call (Value.builtin "len") [Value.ref _]) _ _ _); k_dflt (refine' kst_len ?k1 ?k2 rfl ?k4 ?_; (case k1 => k_asm); (case k2 => k_mem); (case k4 => ((try simp only [List.length_append, List.length_cons, List.length_nil]); omega)))))
local macro_rules | `(tactic| walk_at "ite") => `(tactic| (k_here; first | (refine ite_pos (by first | omega | (simp only [decide_eq_true_eq, beq_iff_eq, bne_iff_ne, Bool.not_eq_true', beq_eq_false_iff_ne, ne_eq, List.length_append, List.length_cons, List.length_nil]; done) | (simp only [decide_eq_true_eq, beq_iff_eq, bne_iff_ne, Bool.not_eq_true', beq_eq_false_iff_ne, ne_eq, List.length_append, List.length_cons, List.length_nil]; omega)) ?_) | (refine ite_neg (by first | omega | (simp only [decide_eq_true_eq, beq_iff_eq, bne_iff_ne, Bool.not_eq_true', beq_eq_false_iff_ne, ne_eq, List.length_append, List.length_cons, List.length_nil]; done) | (simp only [decide_eq_true_eq, beq_iff_eq, bne_iff_ne, Bool.not_eq_true', beq_eq_false_iff_ne, ne_eq, List.length_append, List.length_cons, List.length_nil]; omega)) ?_)))

local macro_rules | `(tactic| walk_at "PostY") => `(tactic| (dsimp only [PostY]))
local macro_rules | `(tactic| walk_at "getItem") => `(tactic| (k_here; dsimp only; (with_reducible show wpAny _ _ (getItem (Value.ref _) (Value.int _ _)) _ _ _); k_dflt (refine' get_last ?N ?m ?_; (case N => k_asm); (case m => lcg_src))))
local macro_rules | `(tactic| walk_at "setItem ref int") => `(tactic| (k_here; (rename News _ _ _ _ => nE9); (try simp only [List.push_toArray] at nE9); k_dflt (refine' set_last ?F ?N ?U ?_; (case F => k_asm); (case N => k_asm); (case U => k_updF)); intro h' F' N'; (try dsimp only [List.nil_append, List.cons_append] at N')))

/-- groups of seven bits, the lowest first; all but the last with 128 more -/
def wrN (l : Nat) : List Int := if l / 128 = 0 then [((l % 128 : Nat) : Int)] else (((l % 128 : Nat) : Int) + 128) :: wrN (l / 128)
termination_by l
decreasing_by omega
def zig (n : Int) : Nat := if 0 ≤ n then (2 * n).toNat else (-2 * n - 1).toNat
theorem fdivN (l : Nat) : (l : Int).fdiv 128 = ((l / 128 : Nat) : Int) := by
  rw [Int.fdiv_eq_ediv_of_nonneg _ (by decide)]; rfl
theorem fmodN (l : Nat) : (l : Int).fmod 128 = ((l % 128 : Nat) : Int) := by
  rw [Int.fmod_eq_emod_of_nonneg _ (by decide)]; rfl
/-- between two turns: at work (l is left), or through -/
def WSt (L i l : Nat) (ls : List Int) : Prop := (∃ pre, ls = pre ++ [((l % 128 : Nat) : Int)] ∧ wrN L = pre ++ wrN l ∧ l * 128 ^ i ≤ L ∧ (i = 0 ∨ 0 < l) ∧ pre.length = i) ∨ (l = 0 ∧ ls = wrN L ∧ ls.length ≤ i)
theorem WSt.start (L : Nat) : WSt L 0 L [((L % 128 : Nat) : Int)] := .inl ⟨[], rfl, rfl, by simp, .inl rfl, rfl⟩
theorem WSt.stop {L i l : Nat} {ls : List Int} (h : WSt L i l ls) (h0 : l / 128 = 0) : WSt L (i + 1) (l / 128) ls := by
  rcases h with ⟨pre, e1, e2, e3, e4, e5⟩ | ⟨e1, e2, e3⟩
  · refine .inr ⟨h0, ?_, by rw [e1, List.length_append, List.length_singleton]; omega⟩
    rw [e2, e1, wrN, if_pos h0]
  · exact .inr ⟨h0, e2, by omega⟩
theorem WSt.go {L i l : Nat} {pre : List Int} (h : WSt L i l (pre ++ [((l % 128 : Nat) : Int)])) (h0 : 0 < l / 128) : WSt L (i + 1) (l / 128) (pre ++ [((l % 128 : Nat) : Int) + 128] ++ [((l / 128 % 128 : Nat) : Int)]) := by
  rcases h with ⟨pre', e1, e2, e3, e4, e5⟩ | ⟨e1, e2, e3⟩
  · have e0 : pre = pre' := List.append_inj_left' e1 rfl
    subst e0
    refine .inl ⟨_, rfl, ?_, ?_, .inr h0, by rw [List.length_append, List.length_singleton, e5]⟩
    · rw [e2]
      conv => lhs; rw [wrN, if_neg (by omega)]
      simp
    · have : l / 128 * 128 ≤ l := Nat.div_mul_le_self _ _
      calc l / 128 * 128 ^ (i + 1) = l / 128 * 128 * 128 ^ i := by rw [Nat.pow_succ, Nat.mul_assoc, Nat.mul_comm (128 ^ i)]
        _ ≤ l * 128 ^ i := Nat.mul_le_mul_right _ this
        _ ≤ L := e3
  · subst e1; simp at h0
theorem WSt.fin {L l : Nat} {ls : List Int} (h : WSt L 5 l ls) (hL : L < 128 ^ 5) : ls = wrN L := by
  rcases h with ⟨pre, e1, e2, e3, e4, e5⟩ | ⟨e1, e2, e3⟩
  · exfalso
    have : 0 < l := by omega
    have : 1 * 128 ^ 5 ≤ l * 128 ^ 5 := Nat.mul_le_mul_right _ this
    omega
  · exact e2
theorem ints_last {vs : List Value} {pre : List Int} {x : Int} (h : IntsAre vs (pre ++ [x])) : ∃ ws t, vs = ws ++ [.int x t] ∧ IntsAre ws pre := by
  induction pre generalizing vs with
  | nil => cases h with | cons _ t r => cases r; exact ⟨[], t, rfl, .nil⟩
  | cons a pre ih =>
    cases h with
    | cons _ t r =>
      obtain ⟨ws, t', e, hi⟩ := ih r
      exact ⟨.int a t :: ws, t', by rw [e]; rfl, .cons _ _ hi⟩
theorem WSt.len {L i l : Nat} {ls : List Int} (h : WSt L i l ls) : ls.length ≤ i + 1 := by
  rcases h with ⟨pre, e1, e2, e3, e4, e5⟩ | ⟨e1, e2, e3⟩
  · rw [e1, List.length_append, List.length_singleton, e5]; exact Nat.le_refl _
  · omega
section
variable {prog : Program} {w : World} {A : Around} {E : Value → Shared → Prop} {s : Shared} {h₀ : Heap} {L D : Addr} {m : Str → Option Value} {news : List (Addr × Obj)} {upd : Obj → List (Addr × Obj)} {j : Nat} {x v : Value} {vs : List Value} {t : Tok} {Q : Unit → Shared → Prop}
theorem get_last {Q : Value → Shared → Prop} (N : News h₀ L s.heap news) (hm : (D, listOf (vs ++ [x]).toArray j) ∈ news) (h : Q x s) : wpAny (model prog w) A (getItem (.ref D) (.int (-1) t)) Q E s := by
  have e : ((-1 : Int) + ((vs ++ [x]).toArray.size : Int)).toNat = vs.length := by simp; omega
  exact wpAny_getItem_list_neg (isList_at N hm) (by decide) (by simp; omega) (by decide) (by rw [e]; simp) h
theorem set_last (F : Fr h₀ L s.heap m) (N : News h₀ L s.heap news) (U : UpdF D (listOf (vs ++ [x]).toArray j) news upd)
    (h : ∀ h', Fr h₀ L h' m → News h₀ L h' (upd (listOf (vs ++ [v]).toArray j)) → Q () { s with heap := h' }) : wpAny (model prog w) A (setItem (.ref D) (.int (-1) t) v) Q E s := by
  obtain ⟨pre, post, rfl, hu, a, b⟩ := U.split
  have z := N (D, listOf (vs ++ [x]).toArray j) (List.mem_append.mpr (.inr (.head _)))
  refine ki_setBack z.1 (by decide) (by simp; omega) (by decide) (h _ (F.change (Heap.SameBut.update ..) z.2.1 z.2.2) ?_)
  rw [hu]
  refine ki_turn _ N a b ?_ ?_
  · have e : ((-1 : Int) + ((vs ++ [x]).toArray.size : Int)).toNat = vs.length := by simp; omega
    show Array.setIfInBounds _ _ _ = _
    rw [e]
    simp
  · simp
end
theorem wr_ct (w : World) {p : Program} {loose : List Str} {mean : ExcName → Option Value} {mg mb : Str → Option Value}
  {dp un : Nat} {gd : Option (List Code)} {cn : Str} {cs : Scope} {a : Addr} {ccd : Value} {cl : List (Str × Addr)} {outer : List Env} {A₀ : Around} {base h₀ : Heap} {L : Addr} {m : Str → Option Value}
  {news : List (Addr × Obj)} {s : Shared} {n : Int} {tn : Tok} {Q E : Value → Shared → Prop}
  (B : Below A₀ base outer h₀) (F : Fr h₀ L s.heap m) (X : (hd01.heap_39 w.params).In h₀) (N : News h₀ L s.heap news) (T : Top p loose mean mg mb h₀)
  (hk : cs.kind = .function) (hd : dp + 20 < recursionLimit) (hu : un + 60 < cLine) (hn : -17179869184 < n ∧ n < 17179869184)
  (ok : ∀ h' tk D j vs, (∀ q ∈ news, q.1 < D) → IntsAre vs (wrN (zig n)) → Fr h₀ L h' m → News h₀ L h' ((D, listOf vs.toArray j) :: news) → Q (.ref D) { s with heap := h', toks := tk }) :
  wpAny (model Challenge.rw_dm0232_01.row.prog w) (ktrTop dp un gd cn cs L a ccd cl outer) (call (.ref 56) [.int n tn]) Q E s := by
  revert X; k_fill; intro X
  have hMk := kstMark
  refine wpAny_call ?_
  k_dflt ktr_enter
  have hz1 : 0 ≤ n → 2 * n = ((zig n : Nat) : Int) := fun h => by unfold zig; rw [if_pos h]; omega
  have hz2 : ¬ 0 ≤ n → -2 * n - 1 = ((zig n : Nat) : Int) := fun h => by unfold zig; rw [if_neg h]; omega
  have hzb : zig n < 128 ^ 5 := by
    have h1 : ((zig n : Nat) : Int) < 34359738368 := by
      by_cases h : 0 ≤ n
      · rw [← hz1 h]; omega
      · rw [← hz2 h]; omega
    omega
  repeat' (first | (k_unfold; (try dsimp only)) | ((fail_if_success (with_reducible show wpAny _ _ (exec (Stmt.For _ _ _ _ _) _) _ _ _)); first | (k_end; wrow_close) | walk1 | (dsimp only; walk1) | (leave1; try dsimp only)))
  · rename Fr _ _ _ _ => FF
    rename News _ _ _ _ => NN
    rw [hz1 (by assumption)] at FF NN
    obtain ⟨l0, hl0⟩ : ∃ l0, l0 = zig n := ⟨_, rfl⟩
    rw [← hl0] at FF NN hzb ok
    rw [fmodN] at NN
    clear hl0
    refine wpAny_For ?_
    repeat' (first | (k_unfold; (try dsimp only)) | ((fail_if_success (with_reducible show wpAny _ _ (pyIter _) _ _ _)); first | (k_end; wrow_close) | walk1 | (dsimp only; walk1) | (leave1; try dsimp only)))
    rename IsRange _ _ _ _ _ _ _ _ => rg
    rename Fr _ _ _ _ => FF
    rename News _ _ _ _ => NN
    rename ∀ p ∈ news, _ < _ => hDlt
    rename_i D _ _ _ _ _ _ _ _ _ _
    k_dflt (refine iterG_range (n := 5) (fun i mm nx => ∃ vs j ls l t, nx = (D, listOf vs.toArray j) :: news ∧ IntsAre vs ls ∧ WSt l0 i l ls ∧ mm (Str.ofString "octets") = some (.ref D) ∧ mm (Str.ofString "left") = some (.int ((l : Nat) : Int) t)) rfl rg (by decide) (by decide) FF NN ⟨[_], 0, _, l0, _, rfl, .cons _ _ .nil, WSt.start l0, rfl, rfl⟩ (by passes_own) ?turn ?done)
    case done =>
      rintro m9 nx9 h9 tk9 ⟨vs, j, ls, l, t, rfl, hvs, hst, ho, hl⟩ F9 N9
      have hls := hst.fin hzb
      subst hls
      have F10 := fr_names F9 [(Str.ofString "octets", .ref D), (Str.ofString "left", .int ((l : Nat) : Int) t)] (by
        intro q9 hq9; simp only [List.mem_cons, List.not_mem_nil, or_false] at hq9; rcases hq9 with rfl | rfl <;> assumption)
      clear F9 FF NN rg ho hl
      dsimp only
      k_steps
      rename News h₀ L _ _ => NN
      rename Fr h₀ L _ m => FF
      exact ok _ _ D _ vs hDlt hvs FF NN
    case turn =>
      rintro I i t9 m9 nx9 h9 tk9 oI hoT hi9 hne ⟨vs, j, ls, l, t, rfl, hvs, hst, ho, hl⟩ F9 N9
      simp only [List.forall_mem_cons] at hne
      obtain ⟨n1, hnR⟩ := hne
      have oI1 : OwnOff news [I] := off_one hnR
      have oD1 : OwnOff news [D] := off_one fun q hq => Nat.ne_of_lt (hDlt q hq)
      have F10 := fr_names F9 [(Str.ofString "octets", .ref D), (Str.ofString "left", .int ((l : Nat) : Int) t)] (by
        intro q9 hq9; simp only [List.mem_cons, List.not_mem_nil, or_false] at hq9; rcases hq9 with rfl | rfl <;> assumption)
      clear F9 FF NN rg ho hl
      have hvl := hvs.length
      have hll := hst.len
      by_cases hc : l / 128 = 0
      · have hf : ((l : Nat) : Int).fdiv 128 = 0 := by rw [fdivN, hc]; rfl
        k_steps
        rename Fr _ _ _ _ => FF
        rename News _ _ _ _ => NN
        exact EndY.intro FF NN ⟨_, _, _, l / 128, _, rfl, hvs, hst.stop hc, rfl, by rw [← fdivN]; rfl⟩ (fun q hq => List.mem_cons_of_mem _ hq) (.head _) (by simp only [List.forall_mem_cons]; exact ⟨n1, hnR⟩)
      · have hf : 0 < ((l : Nat) : Int).fdiv 128 := by rw [fdivN]; omega
        have hw : ∃ pre, ls = pre ++ [((l % 128 : Nat) : Int)] := by
          rcases hst with ⟨pre, e, _⟩ | ⟨e, _⟩
          · exact ⟨pre, e⟩
          · subst e; exact absurd rfl hc
        obtain ⟨pre, rfl⟩ := hw
        obtain ⟨ws, t5, rfl, hws⟩ := ints_last hvs
        have hwl := hws.length
        rw [List.length_append, List.length_singleton] at hvl hll
        k_steps
        rename News _ _ _ _ => NN
        refine get_last NN (by lcg_src) ?_
        k_steps
        rename Fr _ _ _ _ => FF
        refine set_last FF NN (by k_updF) ?_
        clear FF NN
        intro h' F' N'
        k_steps
        rename Fr _ _ _ _ => FF
        rename News _ _ _ _ => NN
        simp only [List.push_toArray] at NN
        refine EndY.intro FF NN ⟨_, _, _, l / 128, _, rfl, ints_snoc (ints_snoc hws _ _) _ _, ?_, rfl, by rw [← fdivN]; rfl⟩ (fun q hq => List.mem_cons_of_mem _ hq) (.head _) (by simp only [List.forall_mem_cons]; exact ⟨n1, hnR⟩)
        rw [fdivN, fmodN]
        exact hst.go (by omega)
  · rename Fr _ _ _ _ => FF
    rename News _ _ _ _ => NN
    rw [hz2 (by assumption)] at FF NN
    obtain ⟨l0, hl0⟩ : ∃ l0, l0 = zig n := ⟨_, rfl⟩
    rw [← hl0] at FF NN hzb ok
    rw [fmodN] at NN
    clear hl0
    refine wpAny_For ?_
    repeat' (first | (k_unfold; (try dsimp only)) | ((fail_if_success (with_reducible show wpAny _ _ (pyIter _) _ _ _)); first | (k_end; wrow_close) | walk1 | (dsimp only; walk1) | (leave1; try dsimp only)))
    rename IsRange _ _ _ _ _ _ _ _ => rg
    rename Fr _ _ _ _ => FF
    rename News _ _ _ _ => NN
    rename ∀ p ∈ news, _ < _ => hDlt
    rename_i D _ _ _ _ _ _ _ _ _ _
    k_dflt (refine iterG_range (n := 5) (fun i mm nx => ∃ vs j ls l t, nx = (D, listOf vs.toArray j) :: news ∧ IntsAre vs ls ∧ WSt l0 i l ls ∧ mm (Str.ofString "octets") = some (.ref D) ∧ mm (Str.ofString "left") = some (.int ((l : Nat) : Int) t)) rfl rg (by decide) (by decide) FF NN ⟨[_], 0, _, l0, _, rfl, .cons _ _ .nil, WSt.start l0, rfl, rfl⟩ (by passes_own) ?turn ?done)
    case done =>
      rintro m9 nx9 h9 tk9 ⟨vs, j, ls, l, t, rfl, hvs, hst, ho, hl⟩ F9 N9
      have hls := hst.fin hzb
      subst hls
      have F10 := fr_names F9 [(Str.ofString "octets", .ref D), (Str.ofString "left", .int ((l : Nat) : Int) t)] (by
        intro q9 hq9; simp only [List.mem_cons, List.not_mem_nil, or_false] at hq9; rcases hq9 with rfl | rfl <;> assumption)
      clear F9 FF NN rg ho hl
      dsimp only
      k_steps
      rename News h₀ L _ _ => NN
      rename Fr h₀ L _ m => FF
      exact ok _ _ D _ vs hDlt hvs FF NN
    case turn =>
      rintro I i t9 m9 nx9 h9 tk9 oI hoT hi9 hne ⟨vs, j, ls, l, t, rfl, hvs, hst, ho, hl⟩ F9 N9
      simp only [List.forall_mem_cons] at hne
      obtain ⟨n1, hnR⟩ := hne
      have oI1 : OwnOff news [I] := off_one hnR
      have oD1 : OwnOff news [D] := off_one fun q hq => Nat.ne_of_lt (hDlt q hq)
      have F10 := fr_names F9 [(Str.ofString "octets", .ref D), (Str.ofString "left", .int ((l : Nat) : Int) t)] (by
        intro q9 hq9; simp only [List.mem_cons, List.not_mem_nil, or_false] at hq9; rcases hq9 with rfl | rfl <;> assumption)
      clear F9 FF NN rg ho hl
      have hvl := hvs.length
      have hll := hst.len
      by_cases hc : l / 128 = 0
      · have hf : ((l : Nat) : Int).fdiv 128 = 0 := by rw [fdivN, hc]; rfl
        k_steps
        rename Fr _ _ _ _ => FF
        rename News _ _ _ _ => NN
        exact EndY.intro FF NN ⟨_, _, _, l / 128, _, rfl, hvs, hst.stop hc, rfl, by rw [← fdivN]; rfl⟩ (fun q hq => List.mem_cons_of_mem _ hq) (.head _) (by simp only [List.forall_mem_cons]; exact ⟨n1, hnR⟩)
      · have hf : 0 < ((l : Nat) : Int).fdiv 128 := by rw [fdivN]; omega
        have hw : ∃ pre, ls = pre ++ [((l % 128 : Nat) : Int)] := by
          rcases hst with ⟨pre, e, _⟩ | ⟨e, _⟩
          · exact ⟨pre, e⟩
          · subst e; exact absurd rfl hc
        obtain ⟨pre, rfl⟩ := hw
        obtain ⟨ws, t5, rfl, hws⟩ := ints_last hvs
        have hwl := hws.length
        rw [List.length_append, List.length_singleton] at hvl hll
        k_steps
        rename News _ _ _ _ => NN
        refine get_last NN (by lcg_src) ?_
        k_steps
        rename Fr _ _ _ _ => FF
        refine set_last FF NN (by k_updF) ?_
        clear FF NN
        intro h' F' N'
        k_steps
        rename Fr _ _ _ _ => FF
        rename News _ _ _ _ => NN
        simp only [List.push_toArray] at NN
        refine EndY.intro FF NN ⟨_, _, _, l / 128, _, rfl, ints_snoc (ints_snoc hws _ _) _ _, ?_, rfl, by rw [← fdivN]; rfl⟩ (fun q hq => List.mem_cons_of_mem _ hq) (.head _) (by simp only [List.forall_mem_cons]; exact ⟨n1, hnR⟩)
        rw [fdivN, fmodN]
        exact hst.go (by omega)

end Mine
end
section
open PySem PySem.W PyProof.Rows PySem.Calls PySem.Spec
set_option Elab.async false
set_option maxRecDepth 100000
set_option maxHeartbeats 8000000
namespace Mine
local macro_rules | `(tactic| k_room) => `(tactic| ktr_room)
local macro_rules | `(tactic| k_units) => `(tactic| ktr_units)
local macro_rules | `(tactic| k_mem) => `(tactic| first | exact List.Mem.head _ | (refine List.mem_cons_of_mem _ ?_; k_mem))
local macro_rules | `(tactic| lcg_src) => `(tactic| first | exact List.Mem.head _ | (refine List.mem_cons_of_mem _ ?_; lcg_src) | assumption)
local macro_rules | `(tactic| walk_at "callWith ref") => `(tactic| (k_here; (rename Strm _ _ _ _ _ _ _ _ _ _ _ _ _ _ _ _ => sS); k_dflt (refine' callWith_F ?k1 ?_; (case k1 => exact FnAt.of (by k_asm) (by k_mem)); k_whole)))
local macro_rules | `(tactic| walk_at "call ref") => `(tactic| (k_here; (rename Strm _ _ _ _ _ _ _ _ _ _ _ _ _ _ _ _ => sS); (with_reducible show wpAny _ _ (call (Value.ref _) [Value.int _ _]) _ _ _); k_dflt (first | (refine' strm_read 1 rfl sS ?B ?F ?X ?N ?T ?hk ?hd ?hu ?hI ?U ?hq ?hb ?hn ?_; (case F => k_asm); (case N => k_asm); (case B => k_asm); (case X => k_asm); (case T => k_asm); (case hk => first | rfl | assumption); (case hd => ktr_room); (case hu => ktr_units); (case hI => (repeat (first | assumption | refine Sub.cons ?_))); (case U => k_updF); (case hq => omega); (case hb => omega); (case hn => decide)) | (refine' strm_read _ rfl sS ?B ?F ?X ?N ?T ?hk ?hd ?hu ?hI ?U ?hq ?hb ?hn ?_; (case F => k_asm); (case N => k_asm); (case B => k_asm); (case X => k_asm); (case T => k_asm); (case hk => first | rfl | assumption); (case hd => ktr_room); (case hu => ktr_units); (case hI => (repeat (first | assumption | refine Sub.cons ?_))); (case U => k_updF); (case hq => omega); (case hb => omega); (case hn => omega))); intro h' tk' t1 t2 F' N'; (try dsimp only)))
local macro_rules | `(tactic| walk_at "exec Raise some none") => `(tactic| (k_here; (with_reducible show wpAny _ _ (exec (Stmt.Raise (some (Expr.Call (Expr.Name ("ValueError" : Str) _) (_ :: _) [] _)) none _) _) _ _ _); (with_reducible rename Fr _ _ _ _ => kF); k_dflt (refine' Raise_madeB PySem.F.excCall_ValueError PySem.F.excRaise_ValueError ?hh (name_B kF ?k1 ?k2 ?k3 PyProof.Rows.Boot.«ValueError» ?k5 ⟨rfl, ?_⟩) ?a ?b; (case hh => rfl); (case a => rfl); (case b => rfl); (case k1 => k_asm); (case k2 => k_asm); (case k3 => k_is); (case k5 => decide))))
local macro_rules | `(tactic| walk_at "ite") => `(tactic| (k_here; first | (refine ite_pos (by first | omega | (simp only [decide_eq_true_eq, beq_iff_eq]; omega)) ?_) | (refine ite_neg (by first | omega | (simp only [decide_eq_true_eq, beq_iff_eq]; omega)) ?_)))
local macro_rules | `(tactic| walk_at "binaryOp Mod str ref") => `(tactic| (k_here; k_dflt (first | (refine' modB ?N ?b ?a1 ?a2 ?a3 ?a4 ?_; (case N => k_asm); (case b => k_mem); (case a1 => omega); (case a2 => omega); (case a3 => omega); (case a4 => omega)) | (refine' modS ?N ?b ?a1 ?a2 ?a3 ?a4 ?_; (case N => k_asm); (case b => k_mem); (case a1 => omega); (case a2 => omega); (case a3 => omega); (case a4 => omega))); intro _ _))
local macro_rules | `(tactic| walk_at "call builtin:len") => `(tactic| (k_here; (with_reducible show wpAny _ _ (call (Value.builtin "len") [Value.ref _]) _ _ _); k_dflt (refine' kst_len ?k1 ?k2 rfl ?k4 ?_; (case k1 => k_asm); (case k2 => k_mem); (case k4 => ((try simp only [List.length_append, List.length_cons, List.length_nil]); omega)))))
local macro_rules | `(tactic| walk_at "ite") => `(tactic| (k_here; first | (refine ite_pos (by first | omega | (simp only [decide_eq_true_eq, beq_iff_eq, bne_iff_ne, Bool.not_eq_true', beq_eq_false_iff_ne, ne_eq, List.length_append, List.length_cons, List.length_nil]; done) | (simp only [decide_eq_true_eq, beq_iff_eq, bne_iff_ne, Bool.not_eq_true', beq_eq_false_iff_ne, ne_eq, List.length_append, List.length_cons, List.length_nil]; omega)) ?_) | (refine ite_neg (by first | omega | (simp only [decide_eq_true_eq, beq_iff_eq, bne_iff_ne, Bool.not_eq_true', beq_eq_false_iff_ne, ne_eq, List.length_append, List.length_cons, List.length_nil]; done) | (simp only [decide_eq_true_eq, beq_iff_eq, bne_iff_ne, Bool.not_eq_true', beq_eq_false_iff_ne, ne_eq, List.length_append, List.length_cons, List.length_nil]; omega)) ?_)))
local macro_rules | `(tactic| walk_at "call ref") => `(tactic| (k_here; (rename Strm _ _ _ _ _ _ _ _ _ _ _ _ _ _ _ _ => sS); (with_reducible show wpAny _ _ (call (Value.ref 21) [Value.ref _]) _ _ _); k_dflt (refine' ru1_ct _ ?B ?F ?X ?N ?T sS ?hI ?U ?hk ?hd ?hu ?hq ?hb (fun h' tk' t1 t2 hlt' F' N' => ?_) (fun g' e' t' u' h' tk' t1 heq' F' R' U' => ?_); (case F => k_asm); (case N => k_asm); (case B => k_asm); (case X => k_asm); (case T => k_asm); (case hk => first | rfl | assumption); (case hd => ktr_room); (case hu => ktr_units); (case hI => (repeat (first | assumption | refine Sub.cons ?_))); (case U => k_updF); (case hq => omega); (case hb => omega)); (all_goals (first | (exfalso; omega) | (try dsimp only)))))

local macro_rules | `(tactic| walk_at "PostY") => `(tactic| (dsimp only [PostY]))

/-- a number read group by group: its total and the place behind it; nothing where the stream ends -/
def numGo (b : Array UInt8) : Nat → Nat → Nat → Nat → Option (Nat × Nat)
  | 0, _, q, tot => some (tot, q)
  | fuel + 1, k, q, tot => if q < b.size then (if oct b q < 128 then some (tot + oct b q % 128 * 128 ^ k, q + 1) else numGo b fuel (k + 1) (q + 1) (tot + oct b q % 128 * 128 ^ k)) else none
def unzig (t : Nat) : Int := if t % 2 = 0 then ((t / 2 : Nat) : Int) else -(((t + 1) / 2 : Nat) : Int)
theorem unzig_e {t : Nat} {v : Int} (hv : v = (t : Int)) (h : v.fmod 2 = 0) : v.fdiv 2 = unzig t := by
  subst hv
  rw [Int.fmod_eq_emod_of_nonneg _ (by decide)] at h
  rw [Int.fdiv_eq_ediv_of_nonneg _ (by decide)]
  unfold unzig
  rw [if_pos (by omega)]; omega
theorem unzig_o {t : Nat} {v : Int} (hv : v = (t : Int)) (h : v.fmod 2 ≠ 0) : (-(v + 1)).fdiv 2 = unzig t := by
  subst hv
  rw [Int.fmod_eq_emod_of_nonneg _ (by decide)] at h
  rw [Int.fdiv_eq_ediv_of_nonneg _ (by decide)]
  unfold unzig
  rw [if_neg (by omega)]; omega
theorem grp {tot o i : Nat} : (tot : Int) + (o : Int).fmod 128 * 128 ^ (0 + (i : Int) * 1).toNat = ((tot + o % 128 * 128 ^ i : Nat) : Int) := by
  rw [fmodN, show (0 + (i : Int) * 1).toNat = i by omega]
  simp [Int.natCast_add, Int.natCast_mul, Int.natCast_pow]
theorem go_end {b : Array UInt8} {q i tot : Nat} (h : numGo b 8 0 q 0 = numGo b (8 - i) i (q + i) tot) (hi : i < 8) (hq : q + i < b.size) (ho : oct b (q + i) < 128) : numGo b 8 0 q 0 = some (tot + oct b (q + i) % 128 * 128 ^ i, q + i + 1) := by
  rw [h, show 8 - i = (7 - i) + 1 by omega, numGo, if_pos hq, if_pos ho]
theorem go_next {b : Array UInt8} {q i tot : Nat} (h : numGo b 8 0 q 0 = numGo b (8 - i) i (q + i) tot) (hi : i < 8) (hq : q + i < b.size) (ho : ¬ oct b (q + i) < 128) : numGo b 8 0 q 0 = numGo b (8 - (i + 1)) (i + 1) (q + (i + 1)) (tot + oct b (q + i) % 128 * 128 ^ i) := by
  rw [h, show 8 - i = (8 - (i + 1)) + 1 by omega, numGo, if_pos hq, if_neg ho]; rfl
theorem go_none {b : Array UInt8} {q i tot : Nat} (h : numGo b 8 0 q 0 = numGo b (8 - i) i (q + i) tot) (hi : i < 8) (hq : q + i = b.size) : numGo b 8 0 q 0 = none := by
  rw [h, show 8 - i = (7 - i) + 1 by omega, numGo, if_neg (by omega)]
theorem tot_lt {tot o i : Nat} (h : tot < 128 ^ i) : tot + o % 128 * 128 ^ i < 128 ^ (i + 1) := by
  have h1 : o % 128 * 128 ^ i ≤ 127 * 128 ^ i := Nat.mul_le_mul_right _ (by omega)
  rw [Nat.pow_succ]
  generalize 128 ^ i = X at *
  omega
theorem num_ct (w : World) {p : Program} {loose : List Str} {mean : ExcName → Option Value} {mg mb : Str → Option Value}
  {dp un : Nat} {gd : Option (List Code)} {cn : Str} {cs : Scope} {a : Addr} {ccd : Value} {cl : List (Str × Addr)} {outer : List Env} {A₀ : Around} {base h₀ : Heap} {L : Addr} {m : Str → Option Value}
  {news I : List (Addr × Obj)} {upd : Obj → List (Addr × Obj)} {s : Shared} {f dx r : Addr} {k1 k2 tq : Tok} {b : Array UInt8} {q : Nat} {Q E : Value → Shared → Prop}
  (B : Below A₀ base outer h₀) (F : Fr h₀ L s.heap m) (X : (hd01.heap_39 w.params).In h₀) (N : News h₀ L s.heap news) (T : Top p loose mean mg mb h₀)
  (S : Strm Challenge.rw_dm0232_01.row.prog w (hd01.heap_39 w.params) p loose mean mg mb 38 f dx r k1 k2 b I) (hI : Sub I news) (U : UpdF dx (SD w.params k1 k2 r (q : Int) tq) news upd)
  (hk : cs.kind = .function) (hd : dp + 14 < recursionLimit) (hu : un + 80 < cLine) (hq : q ≤ b.size) (hb : b.size ≤ 1048576)
  (ok : ∀ tot q' h' tk t1 t2, numGo b 8 0 q 0 = some (tot, q') → q < q' → q' ≤ b.size → Fr h₀ L h' m → News h₀ L h' (upd (SD w.params k1 k2 r ((q' : Nat) : Int) t1)) → Q (.int (unzig tot) t2) { s with heap := h', toks := tk })
  (err : ∀ g e t u h' tk t1, numGo b 8 0 q 0 = none → Fr h₀ L g m → RaisedS base g (envX cn cs L a ccd cl :: outer) e (.type "ValueError") t [.str (msg0) u] (upd (SD w.params k1 k2 r (b.size : Int) t1)) h' → g.UpToSlots h' → E (.ref e) { s with heap := h', toks := tk }) :
  wpAny (model Challenge.rw_dm0232_01.row.prog w) (ktrTop dp un gd cn cs L a ccd cl outer) (call (.ref 63) [.ref f]) Q E s := by
  revert X; k_fill; intro X
  have hMk := kstMark
  obtain ⟨rest, hof, hnw, hup⟩ := upd_split U
  have N2 := news_sub (l' := (_, _) :: rest) N (fun e he => (hnw e).mpr (List.mem_cons.mp he))
  have hm : Sub I rest := mem_rest hI S.off hnw
  have mi := hm _ S.inst
  obtain ⟨oc, od, fd, sl, mf⟩ := S.fn
  have mf := hm _ mf
  clear hI U N
  have D0 : KtsDicts [] h₀ := ktsDicts_nil
  refine wpAny_call ?_
  k_dflt ktr_enter
  repeat' (first | (k_unfold; (try dsimp only)) | ((fail_if_success (with_reducible show wpAny _ _ (exec (Stmt.For _ _ _ _ _) _) _ _ _)); first | (k_end; wrow_close) | walk1 | (dsimp only; walk1) | (leave1; try dsimp only)))
  refine wpAny_For ?_
  repeat' (first | (k_unfold; (try dsimp only)) | ((fail_if_success (with_reducible show wpAny _ _ (pyIter _) _ _ _)); first | (k_end; wrow_close) | walk1 | (dsimp only; walk1) | (leave1; try dsimp only)))
  rename IsRange _ _ _ _ _ _ _ _ => rg
  rename Fr _ _ _ _ => FF
  rename News _ _ _ _ => NN
  k_dflt (refine iterG_range (n := 8) (fun i mm nx => ∃ tot t tq, nx = (dx, SD w.params k1 k2 r ((q + i : Nat) : Int) tq) :: rest ∧ q + i ≤ b.size ∧ numGo b 8 0 q 0 = numGo b (8 - i) i (q + i) tot ∧ tot < 128 ^ i ∧ mm (Str.ofString "f") = some (.ref f) ∧ mm (Str.ofString "total") = some (.int ((tot : Nat) : Int) t)) rfl rg (by decide) (by decide) FF NN ⟨0, _, _, rfl, hq, rfl, by decide, rfl, rfl⟩ (by passes_own) ?turn ?done)
  case done =>
    rintro m9 nx9 h9 tk9 ⟨tot, t, tq, rfl, hqb, hgo, htb, hf, hto⟩ F9 N9
    have F10 := fr_names F9 [(Str.ofString "f", .ref f), (Str.ofString "total", .int ((tot : Nat) : Int) t)] (by
      intro q9 hq9; simp only [List.mem_cons, List.not_mem_nil, or_false] at hq9; rcases hq9 with rfl | rfl <;> assumption)
    clear F9 FF NN rg hf hto
    dsimp only
    k_steps
    · rename News h₀ L _ _ => NN
      rename Fr h₀ L _ m => FF
      rw [unzig_e rfl (by assumption)]
      exact ok tot (q + 8) _ _ _ _ (by rw [hgo]; rfl) (by omega) hqb FF (read_fin NN rfl hup)
    · rename News h₀ L _ _ => NN
      rename Fr h₀ L _ m => FF
      rw [unzig_o rfl (by assumption)]
      exact ok tot (q + 8) _ _ _ _ (by rw [hgo]; rfl) (by omega) hqb FF (read_fin NN rfl hup)
  case turn =>
    rintro I i t9 m9 nx9 h9 tk9 oI hoT hi9 hne ⟨tot, t, tq, rfl, hqb, hgo, htb, hf, hto⟩ F9 N9
    simp only [List.forall_mem_cons] at hne
    obtain ⟨n1, hnR⟩ := hne
    have oI1 : OwnOff rest [I] := off_one hnR
    have F10 := fr_names F9 [(Str.ofString "f", .ref f), (Str.ofString "total", .int ((tot : Nat) : Int) t)] (by
      intro q9 hq9; simp only [List.mem_cons, List.not_mem_nil, or_false] at hq9; rcases hq9 with rfl | rfl <;> assumption)
    clear F9 FF NN rg hf hto
    have h256 := oct_lt b (q + i)
    k_steps
    · rename News h₀ L _ _ => NN
      rename Fr h₀ L _ m => FF
      rw [unzig_e grp (by assumption)]
      exact ok _ (q + i + 1) _ _ _ _ (go_end hgo hi9 (by assumption) (by omega)) (by omega) (by omega) FF (read_fin (news_tail NN) rfl hup)
    · rename News h₀ L _ _ => NN
      rename Fr h₀ L _ m => FF
      rw [unzig_o grp (by assumption)]
      exact ok _ (q + i + 1) _ _ _ _ (go_end hgo hi9 (by assumption) (by omega)) (by omega) (by omega) FF (read_fin (news_tail NN) rfl hup)
    · rename Fr _ _ _ _ => FF
      rename News _ _ _ _ => NN
      rename q + i < b.size => hlt
      exact EndY.intro FF NN ⟨tot + oct b (q + i) % 128 * 128 ^ i, _, _, rfl, by omega, go_next hgo hi9 hlt (by omega), tot_lt htb, rfl, by rw [← grp]; rfl⟩ (fun q hq => List.mem_cons_of_mem _ hq) (.head _) (by simp only [List.forall_mem_cons]; exact ⟨n1, hnR⟩)
    · rename RaisedS _ _ _ _ _ _ _ _ _ => RR
      rename Fr h₀ L _ m => FF
      rename Heap.UpToSlots _ _ => UU
      exact err _ _ _ _ _ _ _ (go_none hgo hi9 (by assumption)) FF (raise_fin2 RR rfl rfl hup) UU
end Mine
end
section
open PySem PySem.W PyProof.Rows PySem.Calls PySem.Spec
set_option Elab.async false
set_option maxRecDepth 100000
set_option maxHeartbeats 8000000
namespace Mine
local macro_rules | `(tactic| walk_at "pad 0") => `(tactic| fail)
/-- the numbers that stand whole ahead of p -/
inductive Nums (b : Array UInt8) : List Int → Nat → Prop where
  | nil : Nums b [] 0
  | snoc {xs : List Int} {p p' tot : Nat} : Nums b xs p → numGo b 8 0 p 0 = some (tot, p') → p < p' → p' ≤ b.size → Nums b (xs ++ [unzig tot]) p'
def Ends (b : Array UInt8) (xs : List Int) : Prop := ∃ p, Nums b xs p ∧ numGo b 8 0 p 0 = none
theorem Nums.len {b : Array UInt8} {xs : List Int} {p : Nat} (h : Nums b xs p) : xs.length ≤ p := by
  induction h with
  | nil => exact Nat.le_refl _
  | snoc _ _ _ _ ih => rw [List.length_append, List.length_singleton]; omega
theorem sub_three {a b c : Addr × Obj} {rest own : List (Addr × Obj)} : ∀ q ∈ a :: b :: c :: rest, q ∈ a :: b :: c :: (rest ++ own) := fun q hq => by
  simp only [List.mem_cons, List.mem_append] at hq ⊢; rcases hq with h | h | h | h <;> simp [h]
theorem own_three {a b c : Addr × Obj} {rest own : List (Addr × Obj)} : ∀ q ∈ own, q ∈ a :: b :: c :: (rest ++ own) := fun q hq => by
  simp only [List.mem_cons, List.mem_append]; simp [hq]
theorem news_run {h₀ h : Heap} {L : Addr} {a b c d : Addr × Obj} {R I T own : List (Addr × Obj)} (N : News h₀ L h (a :: c :: b :: d :: (R ++ own))) (hR : R = I ++ T) : News h₀ L h (a :: b :: c :: T) := news_sub N fun q hq => by
  subst hR
  simp only [List.mem_cons, List.mem_append] at hq ⊢
  rcases hq with h | h | h | h
  · exact .inl h
  · exact .inr (.inr (.inl h))
  · exact .inr (.inl h)
  · exact .inr (.inr (.inr (.inr (.inl (.inr h)))))
local macro_rules | `(tactic| k_room) => `(tactic| ktr_room)
local macro_rules | `(tactic| k_units) => `(tactic| ktr_units)
local macro_rules | `(tactic| k_mem) => `(tactic| first | exact List.Mem.head _ | (refine List.mem_cons_of_mem _ ?_; k_mem))
local macro_rules | `(tactic| walk_at "callWith ref") => `(tactic| (k_here; (rename Strm _ _ _ _ _ _ _ _ _ _ _ _ _ _ _ _ => sS); k_dflt (refine' callWith_F ?k1 ?_; (case k1 => exact FnAt.of (by k_asm) (by k_mem)); k_whole)))
local macro_rules | `(tactic| walk_at "call ref") => `(tactic| (k_here; (rename Strm _ _ _ _ _ _ _ _ _ _ _ _ _ _ _ _ => sS); (with_reducible show wpAny _ _ (call (Value.ref _) [Value.int _ _]) _ _ _); k_dflt (first | (refine' strm_read 1 rfl sS ?B ?F ?X ?N ?T ?hk ?hd ?hu ?hI ?U ?hq ?hb ?hn ?_; (case F => k_asm); (case N => k_asm); (case B => k_asm); (case X => k_asm); (case T => k_asm); (case hk => first | rfl | assumption); (case hd => ktr_room); (case hu => ktr_units); (case hI => (repeat (first | assumption | refine Sub.cons ?_))); (case U => k_updF); (case hq => omega); (case hb => omega); (case hn => decide)) | (refine' strm_read _ rfl sS ?B ?F ?X ?N ?T ?hk ?hd ?hu ?hI ?U ?hq ?hb ?hn ?_; (case F => k_asm); (case N => k_asm); (case B => k_asm); (case X => k_asm); (case T => k_asm); (case hk => first | rfl | assumption); (case hd => ktr_room); (case hu => ktr_units); (case hI => (repeat (first | assumption | refine Sub.cons ?_))); (case U => k_updF); (case hq => omega); (case hb => omega); (case hn => omega))); intro h' tk' t1 t2 F' N'; (try dsimp only)))
local macro_rules | `(tactic| walk_at "exec Raise some none") => `(tactic| (k_here; (with_reducible show wpAny _ _ (exec (Stmt.Raise (some (Expr.Call (Expr.Name ("ValueError" : Str) _) (_ :: _) [] _)) none _) _) _ _ _); (with_reducible rename Fr _ _ _ _ => kF); k_dflt (refine' Raise_madeB PySem.F.excCall_ValueError PySem.F.excRaise_ValueError ?hh (name_B kF ?k1 ?k2 ?k3 PyProof.Rows.Boot.«ValueError» ?k5 ⟨rfl, ?_⟩) ?a ?b; (case hh => rfl); (case a => rfl); (case b => rfl); (case k1 => k_asm); (case k2 => k_asm); (case k3 => k_is); (case k5 => decide))))
local macro_rules | `(tactic| walk_at "ite") => `(tactic| (k_here; first | (refine ite_pos (by first | omega | (simp only [decide_eq_true_eq, beq_iff_eq]; omega)) ?_) | (refine ite_neg (by first | omega | (simp only [decide_eq_true_eq, beq_iff_eq]; omega)) ?_)))
local macro_rules | `(tactic| walk_at "binaryOp Mod str ref") => `(tactic| (k_here; k_dflt (first | (refine' modB ?N ?b ?a1 ?a2 ?a3 ?a4 ?_; (case N => k_asm); (case b => k_mem); (case a1 => omega); (case a2 => omega); (case a3 => omega); (case a4 => omega)) | (refine' modS ?N ?b ?a1 ?a2 ?a3 ?a4 ?_; (case N => k_asm); (case b => k_mem); (case a1 => omega); (case a2 => omega); (case a3 => omega); (case a4 => omega))); intro _ _))
local macro_rules | `(tactic| walk_at "call builtin:len") => `(tactic| (k_here; (with_reducible show wpAny _ _ (call (Value.builtin "len") [Value.ref _]) _ _ _); k_dflt (refine' kst_len ?k1 ?k2 rfl ?k4 ?_; (case k1 => k_asm); (case k2 => k_mem); (case k4 => ((try simp only [List.length_append, List.length_cons, List.length_nil]); omega)))))
local macro_rules | `(tactic| walk_at "ite") => `(tactic| (k_here; first | (refine ite_pos (by first | omega | (simp only [decide_eq_true_eq, beq_iff_eq, bne_iff_ne, Bool.not_eq_true', beq_eq_false_iff_ne, ne_eq, List.length_append, List.length_cons, List.length_nil]; done) | (simp only [decide_eq_true_eq, beq_iff_eq, bne_iff_ne, Bool.not_eq_true', beq_eq_false_iff_ne, ne_eq, List.length_append, List.length_cons, List.length_nil]; omega)) ?_) | (refine ite_neg (by first | omega | (simp only [decide_eq_true_eq, beq_iff_eq, bne_iff_ne, Bool.not_eq_true', beq_eq_false_iff_ne, ne_eq, List.length_append, List.length_cons, List.length_nil]; done) | (simp only [decide_eq_true_eq, beq_iff_eq, bne_iff_ne, Bool.not_eq_true', beq_eq_false_iff_ne, ne_eq, List.length_append, List.length_cons, List.length_nil]; omega)) ?_)))
local macro_rules | `(tactic| walk_at "PostX") => `(tactic| (dsimp only [PostX]))
local macro_rules | `(tactic| walk_at "call ref") => `(tactic| (k_here; (rename Strm _ _ _ _ _ _ _ _ _ _ _ _ _ _ _ _ => sS); (with_reducible show wpAny _ _ (call (Value.ref 63) [Value.ref _]) _ _ _); k_dflt (refine' num_ct _ ?B ?F ?X ?N ?T sS ?hI ?U ?hk ?hd ?hu ?hq ?hb (fun tot' q' h' tk' t1 t2 hgo' hlt' hle' F' N' => ?_) (fun g' e' t' u' h' tk' t1 hgn' F' R' U' => ?_); (case F => k_asm); (case N => k_asm); (case B => k_asm); (case X => k_asm); (case T => k_asm); (case hk => first | rfl | assumption); (case hd => ktr_room); (case hu => ktr_units); (case hI => (repeat (first | assumption | refine Sub.cons ?_))); (case U => k_updF); (case hq => omega); (case hb => omega)); (all_goals (first | (exfalso; omega) | (try dsimp only)))))

theorem run_ct (w : World) {p : Program} {loose : List Str} {mean : ExcName → Option Value} {mg mb : Str → Option Value}
  {dp un : Nat} {gd : Option (List Code)} {cn : Str} {cs : Scope} {a : Addr} {ccd : Value} {cl : List (Str × Addr)} {A₀ : Around} {base h₀ : Heap} {L : Addr} {m : Str → Option Value}
  {rest T : List (Addr × Obj)} {s : Shared} {b : Array UInt8} {tb : Tok} {Q E : Value → Shared → Prop}
  (B : Below A₀ base [] h₀) (F : Fr h₀ L s.heap m) (X : (hd01.heap_39 w.params).In h₀) (N : News h₀ L s.heap (T ++ rest)) (TT : Top p loose mean mg mb h₀)
  (XB : (hd01.heap_39 w.params).In base) (TB : Top p loose mean mg mb base)
  (H : CodeHd h₀ 48 44) (hT : Tab 44 (rawInt 15) (rawInt 4) (Str.ofString "_law_stream.<locals>._law_read") T) (hoff : OwnOff rest [44])
  (hk : cs.kind = .function) (hd : dp + 40 < recursionLimit) (hu : un + 200 < cLine) (hb : b.size ≤ 1000000)
  (ok : ∀ h' tk T' tp li lw vs xs j jw jt u1 u2 u3, Tab 44 (rawInt 15) (rawInt 4) (Str.ofString "_law_stream.<locals>._law_read") T' → (∀ q ∈ T' ++ rest, q.1 < li) → li < lw → lw < tp →
    IntsAre vs xs → Ends b xs → Fr h₀ L h' m → News h₀ L h' ((tp, { cls := .type "tuple", data := .seq #[.ref li, .ref lw, .int (b.size : Int) u1] jt }) :: (li, listOf vs.toArray j) :: (lw, listOf #[.str msg0 u2, .str msg0 u3] jw) :: (T' ++ rest)) → Q (.ref tp) { s with heap := h', toks := tk }) :
  wpAny (model Challenge.rw_dm0232_01.row.prog w) (ktrTop dp un gd cn cs L a ccd cl []) (call (.ref 70) [.bytes b tb]) Q E s := by
  revert X; k_fill; intro X
  have hMk := kstMark
  have D0 : KtsDicts [] h₀ := ktsDicts_nil
  obtain ⟨R0, hR0⟩ : ∃ R, R = T ++ rest := ⟨_, rfl⟩
  rw [← hR0] at N
  refine wpAny_call ?_
  k_dflt (refine' code_defSX ?k1 ?k2 ?k3 ?k4 ?k5 ?kA ?k6 ?k7 ?k8 ?k9 ?kB ?_ ?cK ?c2 ?c3 ?c4 ?c5; (case kA => exact rfl); (case k2 => k_asm); (case k1 => k_asm); (case k3 => k_asm); (case k4 => k_asm); (case k5 => k_asm); (case k6 => k_is); (case k7 => k_is); (case k8 => k_room); (case k9 => exact BindsTo.of_eq rfl); (case kB => exact locs rfl); (case cK => assumption); (case c2 => exact rfl); (case c3 => exact rfl); (case c4 => exact rfl); (case c5 => decide); k_whole; intro g' L' h' FG' F' N' B' X' T' D'; (try dsimp only); (try k_lift B'); (try k_fold))

  have H' : CodeHd g' 48 44 := H.keeps FG'.keep
  repeat' (first | (k_unfold; (try dsimp only)) | ((fail_if_success (with_reducible show wpAny _ _ (call (Value.ref 49) _) _ _ _)); first | (k_end; wrow_close) | walk1 | (dsimp only; walk1) | (leave1; try dsimp only)))
  rename Fr g' L' _ _ => F1
  rename News g' L' _ _ => N1
  rw [hR0] at N1
  k_dflt (refine stream_ct w (T := T) (rest := rest) B' F1 X' N1 T' H' hT hoff rfl ?_ ?_)
  · ktr_room
  intro f dx r k1 k2 tp0 I T2 h2 tk2 S hT2 o1 o2 o3 F2 N2
  clear F1 N1
  obtain ⟨R, hR⟩ : ∃ R, R = I ++ (T2 ++ rest) := ⟨_, rfl⟩
  rw [← hR] at N2
  have oR : OwnOff R [dx] := by
    intro q hq c hc; rw [hR] at hq; simp only [List.mem_append] at hq; rcases hq with h | h | h
    · exact S.off q h c hc
    · exact o2 q h c hc
    · exact o3 q h c hc
  have hm : Sub I R := fun e he => by rw [hR]; simp [he]
  have mi := hm _ S.inst
  clear o1 o2 o3
  repeat' (first | (k_unfold; (try dsimp only)) | ((fail_if_success (with_reducible show wpAny _ _ (exec (Stmt.For _ _ _ _ _) _) _ _ _)); first | (k_end; wrow_close) | walk1 | (dsimp only; walk1) | (leave1; try dsimp only)))
  refine wpAny_For ?_
  repeat' (first | (k_unfold; (try dsimp only)) | ((fail_if_success (with_reducible show wpAny _ _ (pyIter _) _ _ _)); first | (k_end; wrow_close) | walk1 | (dsimp only; walk1) | (leave1; try dsimp only)))
  rename IsRange _ _ _ _ _ _ _ _ => rg
  rename Fr g' L' _ _ => FF
  rename News g' L' _ _ => NN
  rename_i h9a tk9a li h9b hli h9c tk9b lw h9d hlw h9e _ _ h9f tk9d u1 u2 u3 aa
  k_dflt (refine iterX_range (n := b.size + 2) (g₀ := g') (fun i mm nx => ∃ q t vs xs j ws jw, nx = (lw, listOf ws.toArray jw) :: (li, listOf vs.toArray j) :: (dx, SD w.params k1 k2 r ((q : Nat) : Int) t) :: R ∧ IntsAre vs xs ∧
    ((ws = [] ∧ jw = 0 ∧ i ≤ q ∧ q ≤ b.size ∧ Nums b xs q) ∨ (∃ u, ws = [.str msg0 u] ∧ q = b.size ∧ i ≤ b.size + 1 ∧ Ends b xs)) ∧
      mm (Str.ofString "f") = some (.ref f) ∧ mm (Str.ofString "told") = some (.ref li) ∧ mm (Str.ofString "words") = some (.ref lw)) rfl rg (small_one (by omega) (by omega) (by omega) (by omega)) (by rw [rangeSize_nat]; omega) rfl rfl ⟨KtsTurn.refl, FF, NN, B', X', T', D'⟩ ⟨0, _, [], [], 0, [], 0, rfl, .nil, .inl ⟨rfl, rfl, Nat.le_refl _, Nat.zero_le _, .nil⟩, rfl, rfl, rfl⟩ (by passes_own) ?turn ?done)
  case done =>
    rintro g9 m9 nx9 h9 tk9 ⟨q, t, vs, xs, j, ws, jw, rfl, hvs, hc, hf, hi, hw⟩ X9
    exfalso; rcases hc with ⟨_, _, _, _, _⟩ | ⟨_, _, _, _, _⟩ <;> omega
  case turn =>
    rintro i t9 g9 m9 nx9 h9 tk9 own hi9 ha ho9 ⟨q, t, vs, xs, j, ws, jw, rfl, hvs, hc, hf, hi, hw⟩ ⟨T9, F9, N9, B9, X9, P9, D9⟩
    have F10 := fr_names F9 [(Str.ofString "f", .ref f), (Str.ofString "told", .ref li), (Str.ofString "words", .ref lw)] (by
      intro q9 hq9; simp only [List.mem_cons, List.not_mem_nil, or_false] at hq9; rcases hq9 with rfl | rfl | rfl <;> exact (if_neg (by dsimp only; decide)).trans (by assumption))
    have hvl := hvs.length
    simp only [List.cons_append, List.map_cons] at N9 ho9 ha
    have hm2 : Sub I (R ++ own) := fun e he => List.mem_append.mpr (.inl (hm e he))
    have oRl : OwnOff R [lw, li] := off_cons (off_lt (d := lw) hlw.2.2 (by intro a ha; rw [List.mem_singleton.mp ha]; exact Nat.le_refl _)) (off_lt (d := li) hli.2 (by intro a ha; rw [List.mem_singleton.mp ha]; exact Nat.le_refl _))
    clear F9 FF NN rg hf hi hw
    rcases hc with ⟨rfl, rfl, hiq, hqb, hto⟩ | ⟨u, rfl, rfl, hib, hen⟩
    · have hxl := hto.len
      k_steps
      · rename Fr _ L' _ _ => FF
        rename News _ L' _ _ => NN
        rename numGo _ _ _ _ _ = some _ => hgo
        simp only [List.push_toArray] at NN
        exact EndX.intro T9 FF NN B9 X9 P9 D9 ⟨_, _, _, _, _, [], _, rfl, ints_snoc hvs _ _, .inl ⟨rfl, rfl, by omega, by assumption, hto.snoc hgo (by assumption) (by assumption)⟩, rfl, rfl, rfl⟩ (by rfl) sub_three own_three
      · rename KtsTurn _ g' _ => T10
        rename Fr _ L' _ _ => FF
        rename News _ L' _ _ => NN
        rename Below _ base _ _ => B10
        rename Frag.In _ _ => X10
        rename Top _ _ _ _ _ _ => P10
        rename KtsDicts _ _ => D10
        (try simp only [List.push_toArray] at NN)
        rename numGo _ _ _ _ _ = none => hgo
        exact EndX.intro T10 FF NN B10 X10 P10 D10 ⟨b.size, _, _, _, _, [_], _, rfl, hvs, .inr ⟨_, rfl, rfl, by omega, q, hto, hgo⟩, rfl, rfl, rfl⟩ (by rfl) sub_three own_three
    · k_steps
      rename News h₀ L _ _ => NN
      rename Fr h₀ L _ m => FF
      rename _ < _ ∧ _ ∧ _ ∧ AllLt _ _ => hlt
      exact ok _ _ T2 _ li lw vs xs _ _ _ _ _ _ hT2 (fun q hq => kst_ltOf hli.2 q (by rw [hR]; exact List.mem_append_right _ hq)) hlw.1 hlt.1 hvs hen FF (news_run NN hR)
end Mine
end
section
open PySem PySem.W PyProof.Rows PySem.Calls PySem.Spec
set_option Elab.async false
namespace Mine
/-- the octets of b from place q on -/
def octl (b : Array UInt8) (q : Nat) : List Nat := (b.toList.drop q).map UInt8.toNat
theorem octl_cons {b : Array UInt8} {q : Nat} (h : q < b.size) : octl b q = oct b q :: octl b (q + 1) := by
  have h' : q < b.toList.length := by simpa using h
  unfold octl oct
  rw [List.drop_eq_getElem_cons h', List.map_cons]
  congr 1
  simp [List.getD, h]
theorem octl_nil {b : Array UInt8} {q : Nat} (h : b.size ≤ q) : octl b q = [] := by
  unfold octl
  rw [List.drop_of_length_le (by simpa using h)]; rfl
/-- what one reading of a number does to a list of octets -/
def numL : Nat → Nat → Nat → List Nat → Option (Nat × List Nat)
  | 0, _, tot, l => some (tot, l)
  | _ + 1, _, _, [] => none
  | fuel + 1, k, tot, o :: l => if o < 128 then some (tot + o % 128 * 128 ^ k, l) else numL fuel (k + 1) (tot + o % 128 * 128 ^ k) l
theorem numGo_L (b : Array UInt8) : ∀ fuel k q tot, q ≤ b.size → numL fuel k tot (octl b q) = (numGo b fuel k q tot).map fun r => (r.1, octl b r.2) := by
  intro fuel
  induction fuel with
  | zero => intro k q tot _; rfl
  | succ fuel ih =>
    intro k q tot hq
    by_cases h : q < b.size
    · rw [octl_cons h, numL, numGo, if_pos h]
      split
      · rfl
      · exact ih _ _ _ h
    · rw [octl_nil (by omega), numL, numGo, if_neg h]; rfl
/-- what a run reads from a list of octets -/
inductive Reads : List Nat → List Int → Prop where
  | nil {l : List Nat} : numL 8 0 0 l = none → Reads l []
  | cons {l r : List Nat} {t : Nat} {xs : List Int} : numL 8 0 0 l = some (t, r) → Reads r xs → Reads l (unzig t :: xs)
theorem Reads.det {l : List Nat} {xs ys : List Int} (h : Reads l xs) (h' : Reads l ys) : xs = ys := by
  induction h generalizing ys with
  | nil e =>
    cases h' with
    | nil _ => rfl
    | cons e' _ => rw [e] at e'; cases e'
  | cons e _ ih =>
    cases h' with
    | nil e' => rw [e] at e'; cases e'
    | cons e' r' =>
      rw [e] at e'; cases e'
      rw [ih r']
theorem Nums.bd {b : Array UInt8} {xs : List Int} {p : Nat} (h : Nums b xs p) : p ≤ b.size := by
  cases h with
  | nil => exact Nat.zero_le _
  | snoc _ _ _ h => exact h
theorem Nums.reads {b : Array UInt8} {xs : List Int} {p : Nat} (h : Nums b xs p) : ∀ ys, Reads (octl b p) ys → Reads (octl b 0) (xs ++ ys) := by
  induction h with
  | nil => intro ys h; exact h
  | @snoc xs p p' tot h1 h2 h3 h4 ih =>
    intro ys hr
    rw [List.append_assoc]
    refine ih _ (.cons ?_ hr)
    rw [numGo_L _ _ _ _ _ h1.bd, h2]; rfl
theorem Ends.reads {b : Array UInt8} {xs : List Int} (h : Ends b xs) : Reads (octl b 0) xs := by
  obtain ⟨p, h1, h2⟩ := h
  have := h1.reads [] (.nil (by rw [numGo_L _ _ _ _ _ h1.bd, h2]; rfl))
  simpa using this
theorem octl_byteArr {ks : List Int} (h : KBa.In ks) : octl (byteArr ks) 0 = ks.map Int.toNat := by
  unfold octl byteArr
  rw [List.drop_zero]
  simp only [List.map_map]
  refine List.map_congr_left fun k hk => ?_
  have := h k hk
  simp only [Function.comp_apply]
  rw [Nat.toUInt8, UInt8.toNat_ofNat']
  omega
theorem unzig_zig (x : Int) : unzig (zig x) = x := by
  unfold unzig zig
  split <;> split <;> omega
theorem numL_wr (n : Nat) : ∀ fuel k tot r, (wrN n).length ≤ fuel → numL fuel k tot ((wrN n).map Int.toNat ++ r) = some (tot + n * 128 ^ k, r) := by
  induction n using wrN.induct with
  | case1 n h =>
    intro fuel k tot r hf
    rw [wrN, if_pos h] at hf ⊢
    simp only [List.length_singleton] at hf
    obtain ⟨f, rfl⟩ : ∃ f, fuel = f + 1 := ⟨fuel - 1, by omega⟩
    simp only [List.map_cons, List.map_nil, Int.toNat_natCast, List.cons_append, List.nil_append]
    rw [numL, if_pos (by omega), show n % 128 % 128 = n by omega]
  | case2 n h ih =>
    intro fuel k tot r hf
    rw [wrN, if_neg h] at hf ⊢
    simp only [List.length_cons] at hf
    obtain ⟨f, rfl⟩ : ∃ f, fuel = f + 1 := ⟨fuel - 1, by omega⟩
    have e : (((n % 128 : Nat) : Int) + 128).toNat = n % 128 + 128 := by omega
    simp only [List.map_cons, List.cons_append, e]
    rw [numL, if_neg (by omega), ih f _ _ _ (by omega), show (n % 128 + 128) % 128 = n % 128 by omega, Nat.pow_succ]
    congr 2
    have : n = n % 128 + 128 * (n / 128) := by omega
    conv => rhs; rw [this]
    rw [Nat.add_mul, Nat.add_assoc]
    congr 2
    rw [Nat.mul_comm (128 ^ k) 128, ← Nat.mul_assoc, Nat.mul_comm (n / 128) 128]
def few (l : List Int) : Nat := (l.filter (fun k => decide (k < 128))).length
theorem few_app (l r : List Int) : few (l ++ r) = few l + few r := by unfold few; rw [List.filter_append, List.length_append]
theorem wr_pre (n : Nat) : ∀ c fuel k tot, c < (wrN n).length → c < fuel → numL fuel k tot (((wrN n).take c).map Int.toNat) = none ∧ few ((wrN n).take c) = 0 := by
  induction n using wrN.induct with
  | case1 n h =>
    intro c fuel k tot hc hf
    rw [wrN, if_pos h, List.length_singleton] at hc
    obtain ⟨f, rfl⟩ : ∃ f, fuel = f + 1 := ⟨fuel - 1, by omega⟩
    rw [show c = 0 by omega]
    exact ⟨rfl, rfl⟩
  | case2 n h ih =>
    intro c fuel k tot hc hf
    rw [wrN, if_neg h] at hc ⊢
    simp only [List.length_cons] at hc
    obtain ⟨f, rfl⟩ : ∃ f, fuel = f + 1 := ⟨fuel - 1, by omega⟩
    cases c with
    | zero => exact ⟨rfl, rfl⟩
    | succ c =>
      have e : (((n % 128 : Nat) : Int) + 128).toNat = n % 128 + 128 := by omega
      rw [List.take_succ_cons, List.map_cons, e, numL, if_neg (by omega)]
      obtain ⟨h1, h2⟩ := ih c f (k + 1) (tot + (n % 128 + 128) % 128 * 128 ^ k) (by omega) (by omega)
      refine ⟨h1, ?_⟩
      unfold few at h2 ⊢
      rw [List.filter_cons_of_neg (by simp; omega)]
      exact h2
theorem wr_few (n : Nat) : few (wrN n) = 1 := by
  induction n using wrN.induct with
  | case1 n h => rw [wrN, if_pos h]; unfold few; rw [List.filter_cons_of_pos (by simp; omega)]; rfl
  | case2 n h ih => rw [wrN, if_neg h]; unfold few at ih ⊢; rw [List.filter_cons_of_neg (by simp; omega)]; exact ih
theorem wr_suf (n : Nat) : ∀ c fuel k tot r, c < (wrN n).length → (wrN n).length ≤ fuel → ∃ t, numL fuel k tot (((wrN n).drop c).map Int.toNat ++ r) = some (t, r) := by
  induction n using wrN.induct with
  | case1 n h =>
    intro c fuel k tot r hc hf
    have hc' := hc
    rw [wrN, if_pos h, List.length_singleton] at hc'
    rw [show c = 0 by omega, List.drop_zero]
    exact ⟨_, numL_wr n _ _ _ _ hf⟩
  | case2 n h ih =>
    intro c fuel k tot r hc hf
    cases c with
    | zero => exact ⟨_, numL_wr n _ _ _ _ hf⟩
    | succ c =>
      rw [wrN, if_neg h] at hc hf ⊢
      simp only [List.length_cons] at hc hf
      rw [List.drop_succ_cons]
      exact ih c fuel k tot r (by omega) (by omega)
abbrev Bd (xs : List Int) : Prop := ∀ x ∈ xs, (wrN (zig x)).length ≤ 5
def octs (xs : List Int) : List Int := xs.flatMap fun x => wrN (zig x)
theorem octs_cons (x : Int) (xs : List Int) : octs (x :: xs) = wrN (zig x) ++ octs xs := rfl
theorem reads_whole : ∀ {xs : List Int}, Bd xs → Reads ((octs xs).map Int.toNat) xs
  | [], _ => .nil rfl
  | x :: xs, h => by
    rw [octs_cons, List.map_append]
    have := numL_wr (zig x) 8 0 0 ((octs xs).map Int.toNat) (by have := h x (.head _); omega)
    have r := Reads.cons this (reads_whole fun y hy => h y (.tail _ hy))
    simpa [unzig_zig] using r
theorem reads_take : ∀ {xs : List Int} (c : Nat), Bd xs → Reads (((octs xs).take c).map Int.toNat) (xs.take (few ((octs xs).take c)))
  | [], c, _ => by
    have e : (octs []).take c = [] := by simp [octs]
    rw [e]; exact .nil rfl
  | x :: xs, c, h => by
    have h5 := h x (.head _)
    rw [octs_cons]
    by_cases hc : c < (wrN (zig x)).length
    · rw [List.take_append_of_le_length (by omega)]
      obtain ⟨h1, h2⟩ := wr_pre (zig x) c 8 0 0 hc (by omega)
      rw [h2, List.take_zero]
      exact .nil h1
    · rw [List.take_append, List.take_of_length_le (by omega), few_app, wr_few, List.map_append, Nat.add_comm, List.take_succ_cons]
      have := numL_wr (zig x) 8 0 0 (((octs xs).take (c - (wrN (zig x)).length)).map Int.toNat) (by omega)
      have r := Reads.cons this (reads_take (c - (wrN (zig x)).length) fun y hy => h y (.tail _ hy))
      simpa [unzig_zig] using r
theorem reads_drop : ∀ {xs : List Int} (c : Nat), Bd xs → ∃ ys, Reads (((octs xs).drop c).map Int.toNat) ys ∧ ys.length = xs.length - few ((octs xs).take c) ∧ ys.drop 1 = xs.drop (few ((octs xs).take c) + 1) ∧ few ((octs xs).take c) ≤ xs.length
  | [], c, _ => by
    have e : (octs []).drop c = [] := by simp [octs]
    have e' : (octs []).take c = [] := by simp [octs]
    rw [e, e']; exact ⟨[], .nil rfl, rfl, rfl, Nat.le_refl _⟩
  | x :: xs, c, h => by
    have h5 := h x (.head _)
    have hx : Bd xs := fun y hy => h y (.tail _ hy)
    rw [octs_cons]
    by_cases hc : c < (wrN (zig x)).length
    · rw [List.take_append_of_le_length (by omega), List.drop_append_of_le_length (by omega)]
      obtain ⟨h1, h2⟩ := wr_pre (zig x) c 8 0 0 hc (by omega)
      obtain ⟨t, ht⟩ := wr_suf (zig x) c 8 0 0 ((octs xs).map Int.toNat) hc (by omega)
      rw [h2, List.map_append]
      exact ⟨_, .cons ht (reads_whole hx), rfl, rfl, Nat.zero_le _⟩
    · rw [List.take_append, List.take_of_length_le (by omega), few_app, wr_few, List.drop_append, List.drop_of_length_le (by omega), List.nil_append]
      obtain ⟨ys, r1, r2, r3, r4⟩ := reads_drop (c - (wrN (zig x)).length) hx
      refine ⟨ys, r1, by rw [r2, List.length_cons]; omega, ?_, by rw [List.length_cons]; omega⟩
      rw [r3, show 1 + few ((octs xs).take (c - (wrN (zig x)).length)) + 1 = (few ((octs xs).take (c - (wrN (zig x)).length)) + 1) + 1 by omega, List.drop_succ_cons]
theorem in_sub {ks ls : List Int} (h : KBa.In ks) (hs : ∀ k ∈ ls, k ∈ ks) : KBa.In ls := fun k hk => h k (hs k hk)
theorem ends_whole {xs ys : List Int} (hb : Bd xs) (hi : KBa.In (octs xs)) (h : Ends (byteArr (octs xs)) ys) : ys = xs := by
  have r := h.reads
  rw [octl_byteArr hi] at r
  exact r.det (reads_whole hb)
theorem ends_take {xs ys : List Int} {c : Nat} (hb : Bd xs) (hi : KBa.In (octs xs)) (h : Ends (byteArr ((octs xs).take c)) ys) : ys = xs.take (few ((octs xs).take c)) := by
  have r := h.reads
  rw [octl_byteArr (in_sub hi fun k hk => List.mem_of_mem_take hk)] at r
  exact r.det (reads_take c hb)
theorem ends_drop {xs ys : List Int} {c : Nat} (hb : Bd xs) (hi : KBa.In (octs xs)) (h : Ends (byteArr ((octs xs).drop c)) ys) : ys.length = xs.length - few ((octs xs).take c) ∧ ys.drop 1 = xs.drop (few ((octs xs).take c) + 1) ∧ few ((octs xs).take c) ≤ xs.length := by
  have r := h.reads
  rw [octl_byteArr (in_sub hi fun k hk => List.mem_of_mem_drop hk)] at r
  obtain ⟨zs, h1, h2, h3, h4⟩ := reads_drop c hb
  rw [r.det h1]
  exact ⟨h2, h3, h4⟩
end Mine
end
section
open PySem PySem.W PyProof.Rows PySem.Calls PySem.Spec
set_option Elab.async false
set_option maxRecDepth 100000
set_option maxHeartbeats 8000000
namespace Mine
theorem SameL.intsE {h : Heap} {n : Nat} {vs ws : List Value} {ns ms : List Int} (a : IntsAre vs ns) (b : IntsAre ws ms) (e : ns = ms) : SameL h n vs ws := SameL.ints a (e ▸ b)
local macro_rules | `(tactic| k_room) => `(tactic| ktr_room)
local macro_rules | `(tactic| k_units) => `(tactic| ktr_units)
local macro_rules | `(tactic| k_mem) => `(tactic| first | exact List.Mem.head _ | (refine List.mem_cons_of_mem _ ?_; k_mem))
local macro_rules | `(tactic| walk_at "call builtin:len") => `(tactic| (k_here; (with_reducible show wpAny _ _ (call (Value.builtin "len") [Value.ref _]) _ _ _); k_dflt (refine' kst_len ?k1 ?k2 rfl ?k4 ?_; (case k1 => k_asm); (case k2 => k_mem); (case k4 => ((try simp only [List.length_append, List.length_cons, List.length_nil]); omega)))))
local macro_rules | `(tactic| walk_at "ite") => `(tactic| (k_here; first | (refine ite_pos (by first | omega | (simp only [decide_eq_true_eq, beq_iff_eq, bne_iff_ne, Bool.not_eq_true', beq_eq_false_iff_ne, ne_eq, List.length_append, List.length_cons, List.length_nil]; done) | (simp only [decide_eq_true_eq, beq_iff_eq, bne_iff_ne, Bool.not_eq_true', beq_eq_false_iff_ne, ne_eq, List.length_append, List.length_cons, List.length_nil]; omega)) ?_) | (refine ite_neg (by first | omega | (simp only [decide_eq_true_eq, beq_iff_eq, bne_iff_ne, Bool.not_eq_true', beq_eq_false_iff_ne, ne_eq, List.length_append, List.length_cons, List.length_nil]; done) | (simp only [decide_eq_true_eq, beq_iff_eq, bne_iff_ne, Bool.not_eq_true', beq_eq_false_iff_ne, ne_eq, List.length_append, List.length_cons, List.length_nil]; omega)) ?_)))
local macro_rules | `(tactic| walk_at "call type:type") => `(tactic| ((with_reducible show wpAny _ _ (call _ [Value.bytes _ _]) _ _ _); refine call_type_of (Tx := "bytes") rfl (by decide +kernel) ?_))
local macro_rules | `(tactic| walk_at "call type:bytes") => `(tactic| (k_here; (with_reducible show wpAny _ _ (call (Value.type "bytes") [Value.ref _]) _ _ _); k_dflt (refine' make_bytes ?F ?N ?h ?l ?i ?z ?_; (case F => k_asm); (case N => k_asm); (case h => rfl); (case l => k_mem); (case i => assumption); (case z => ((try rw [cutB_size]); omega))); intro h' t' k' F' N'; (try k_sweep)))
local macro_rules | `(tactic| walk_at "compareOp NotEq bytes bytes") => `(tactic| (k_here; refine ne_bytes_same (by first | rfl | assumption | exact Eq.symm (by assumption)) ?_))
local macro_rules | `(tactic| walk_at "compareOp Eq bytes bytes") => `(tactic| (k_here; refine eq_bytes_same (by first | rfl | assumption | exact Eq.symm (by assumption)) ?_))
local macro_rules | `(tactic| walk_at "compareOp NotEq str str") => `(tactic| (k_here; refine ne_str_same (by first | rfl | assumption | exact Eq.symm (by assumption)) ?_))
local macro_rules | `(tactic| walk_at "PostX") => `(tactic| (dsimp only [PostX]))
local macro_rules | `(tactic| lcg_src) => `(tactic| first | exact List.Mem.head _ | (refine List.mem_cons_of_mem _ ?_; lcg_src) | assumption)
local macro_rules | `(tactic| ked_reads) => `(tactic| first | exact SameL.nil | (refine SameL.cons ?_ ?_; (ked_read); (ked_reads)) | exact SameL.ints (by assumption) (by assumption) | exact SameL.strs (by assumption) (by assumption) | exact SameL.bytes (by assumption) (by assumption))
local macro_rules | `(tactic| ked_read) => `(tactic| first | exact Same.int _ _ _ | exact Same.str _ _ _ | exact Same.bytes _ _ _ | exact Same.rfl _ | (refine same_list (by k_asm) (by lcg_src) (by lcg_src) ?_; ked_reads) | (refine same_tup (by k_asm) (by lcg_src) (by lcg_src) ?_; ked_reads))
local macro_rules | `(tactic| walk_at "compareOp NotEq ref ref") => `(tactic| (k_here; k_dflt (first | (refine' ne_listL ?N ?a ?b ?e ?u ?_; (case N => k_asm); (case a => lcg_src); (case b => lcg_src); (case e => ked_reads); (case u => ktr_units)) | (refine' ne_tupL ?N ?a ?b ?e ?u ?_; (case N => k_asm); (case a => lcg_src); (case b => lcg_src); (case e => ked_reads); (case u => ktr_units)))))
local macro_rules | `(tactic| walk_at "compareOp Eq ref ref") => `(tactic| (k_here; k_dflt (first | (refine' eq_listL ?N ?a ?b ?e ?u ?_; (case N => k_asm); (case a => lcg_src); (case b => lcg_src); (case e => ked_reads); (case u => ktr_units)) | (refine' eq_tupL ?N ?a ?b ?e ?u ?_; (case N => k_asm); (case a => lcg_src); (case b => lcg_src); (case e => ked_reads); (case u => ktr_units)))))

local macro_rules | `(tactic| walk_at "call ref") => `(tactic| (k_here; (with_reducible show wpAny _ _ (call (Value.ref 56) [Value.int _ _]) _ _ _); k_dflt (refine' wr_ct _ ?B ?F ?X ?N ?T ?hk ?hd ?hu ?hn (fun h' tk' D' j' vs' hlt' hi' F' N' => ?_); (case B => k_asm); (case F => k_asm); (case X => k_asm); (case N => k_asm); (case T => k_asm); (case hk => rfl); (case hd => ktr_room); (case hu => ktr_units); (case hn => assumption)); (simp only [List.forall_mem_cons, List.not_mem_nil, false_implies, implies_true, and_true] at hlt')))
local macro_rules | `(tactic| walk_at "call builtin:list.extend") => `(tactic| (k_here; (with_reducible show wpAny _ _ (call (Value.builtin _) [Value.ref _, Value.ref _]) _ _ _); (rename News _ _ _ _ => nE9); (try simp only [List.push_toArray] at nE9); k_dflt (refine' extend_list ?F ?N ?b ?U ?z ?_; (case F => k_asm); (case N => k_asm); (case b => lcg_src); (case U => k_updF); (case z => omega)); intro h' n' F' N'; (try dsimp only at N')))
local macro_rules | `(tactic| ked_reads) => `(tactic| first | exact SameL.nil | (refine SameL.cons ?_ ?_; (ked_read); (ked_reads)) | exact SameL.ints (by assumption) (by assumption) | exact SameL.intsE (by assumption) (by assumption) (by assumption))
local macro_rules | `(tactic| walk_at "PostY") => `(tactic| (dsimp only [PostY]))

theorem news_13 {h₀ h : Heap} {L : Addr} {a b c d : Addr × Obj} (N : News h₀ L h [a, b, c, d]) : News h₀ L h [a, b, d] := news_sub N fun q hq => by
  simp only [List.mem_cons, List.not_mem_nil, or_false] at hq ⊢; rcases hq with h | h | h <;> simp [h]
theorem news_swap {h₀ h : Heap} {L : Addr} {a b : Addr × Obj} {l : List (Addr × Obj)} (N : News h₀ L h (a :: b :: l)) : News h₀ L h (b :: a :: l) := news_sub N fun q hq => by
  simp only [List.mem_cons] at hq ⊢; rcases hq with h | h | h <;> simp [h]
def numF (x : Int) : Int := (if x < 0 then -x else x).fmod (2 ^ Int.toNat 34) * (if x < 0 then -1 else 1)
theorem numF_neg {x : Int} (h : x < 0) : numF x = (if x < 0 then -x else x).fmod (2 ^ Int.toNat 34) * -1 := by unfold numF; simp only [if_pos h]
theorem numF_pos {x : Int} (h : ¬ x < 0) : numF x = (if x < 0 then -x else x).fmod (2 ^ Int.toNat 34) * 1 := by unfold numF; simp only [if_neg h]
theorem numF_bd (x : Int) : -17179869184 < numF x ∧ numF x < 17179869184 := by
  unfold numF
  have e : (2 : Int) ^ Int.toNat 34 = 17179869184 := by decide
  rw [e]
  have h1 := fmod_lo (n := 17179869184) (if x < 0 then -x else x) (by decide)
  have h2 := fmod_hi (n := 17179869184) (if x < 0 then -x else x) (by decide)
  generalize (if x < 0 then -x else x).fmod 17179869184 = r at *
  split <;> omega
def numsOf (ns : List Int) : List Int := ((ns.length : Int) - 300) :: (ns.take 40).map numF
theorem nums_bd {ns : List Int} (h : ns.length ≤ 63) : ∀ x ∈ numsOf ns, -17179869184 < x ∧ x < 17179869184 := by
  intro x hx
  rcases List.mem_cons.mp hx with rfl | hx
  · omega
  · obtain ⟨y, _, rfl⟩ := List.mem_map.mp hx; exact numF_bd y
theorem octs_snoc (xs : List Int) (x : Int) : octs (xs ++ [x]) = octs xs ++ wrN (zig x) := by unfold octs; simp
theorem wrN_le (l : Nat) : ∀ k, l < 128 ^ (k + 1) → (wrN l).length ≤ k + 1 := by
  induction l using wrN.induct with
  | case1 l h => intro k _; rw [wrN, if_pos h, List.length_singleton]; omega
  | case2 l h ih =>
    intro k hk
    rw [wrN, if_neg h, List.length_cons]
    cases k with
    | zero => omega
    | succ k =>
      have := ih k (by rw [Nat.pow_succ] at hk; exact Nat.div_lt_of_lt_mul (by rw [Nat.mul_comm]; exact hk))
      omega
theorem zig_lt {x : Int} (h : -17179869184 < x ∧ x < 17179869184) : zig x < 128 ^ 5 := by
  unfold zig
  have e : 128 ^ 5 = 34359738368 := by decide
  rw [e]
  split <;> omega
theorem wrN_len (x : Int) (h : -17179869184 < x ∧ x < 17179869184) : (wrN (zig x)).length ≤ 5 := wrN_le _ 4 (zig_lt h)
theorem octs_len (xs : List Int) (h : ∀ x ∈ xs, -17179869184 < x ∧ x < 17179869184) : (octs xs).length ≤ 5 * xs.length := by
  induction xs with
  | nil => simp [octs]
  | cons x xs ih =>
    have h1 := wrN_len x (h x (.head _))
    have h2 := ih fun y hy => h y (.tail _ hy)
    show (wrN (zig x) ++ octs xs).length ≤ _
    rw [List.length_append, List.length_cons]; omega
theorem octs_take {xs : List Int} (i : Nat) (hl : xs.length ≤ 41) (h : ∀ x ∈ xs, -17179869184 < x ∧ x < 17179869184) : (octs (xs.take i)).length ≤ 205 := by
  have := octs_len (xs.take i) fun y hy => h y (List.mem_of_mem_take hy)
  rw [List.length_take] at this
  omega
theorem wrN_in (l : Nat) : KBa.In (wrN l) := by
  induction l using wrN.induct with
  | case1 l h => rw [wrN, if_pos h]; intro k hk; rw [List.mem_singleton.mp hk]; omega
  | case2 l h ih =>
    rw [wrN, if_neg h]
    intro k hk
    rcases List.mem_cons.mp hk with rfl | hk
    · omega
    · exact ih k hk
theorem octs_in (xs : List Int) : KBa.In (octs xs) := fun k hk => by
  obtain ⟨x, _, hx⟩ := List.mem_flatMap.mp hk
  exact wrN_in _ k hx
def NoFldL (l : List (Addr × Obj)) : Prop := ∀ e ∈ l, NoFld e.2
theorem noFldL_nil : NoFldL [] := fun _ h => nomatch h
theorem noFldL_cons {a : Addr} {o : Obj} {l : List (Addr × Obj)} (h : NoFld o) (hs : NoFldL l) : NoFldL ((a, o) :: l) := fun e he => by
  rcases List.mem_cons.mp he with rfl | he
  · exact h
  · exact hs e he
theorem offP {h₀ h : Heap} {L P : Addr} {pre R' T R : List (Addr × Obj)} {ps : Array Value} (N : News h₀ L h (pre ++ R')) (hR : R' = T ++ R) (hp : (P, tabObj ps) ∈ T) (hn : NoFldL pre) (hr : OwnOff R [P]) : OwnOff (pre ++ R) [P] := fun q hq c hc => by
  rcases List.mem_append.mp hq with hq | hq
  · rw [List.mem_singleton.mp hc]; exact neP (ps := ps) N (by rw [hR]; exact List.mem_append_right _ (List.mem_append_left _ hp)) (List.mem_append_left _ hq) (hn q hq)
  · exact hr q hq c hc
theorem news_47 {h₀ h : Heap} {L : Addr} {a b c d e f g i : Addr × Obj} {T : List (Addr × Obj)} (N : News h₀ L h (a :: b :: c :: d :: e :: f :: g :: i :: T)) : News h₀ L h (e :: g :: i :: T) := news_sub N fun q hq => by
  simp only [List.mem_cons] at hq ⊢; rcases hq with h | h | h | h <;> simp [h]
theorem news_36 {h₀ h : Heap} {L : Addr} {a b c d e f : Addr × Obj} {T : List (Addr × Obj)} (N : News h₀ L h (a :: b :: c :: d :: e :: f :: T)) : News h₀ L h (d :: e :: f :: T) := news_sub N fun q hq => by
  simp only [List.mem_cons] at hq ⊢; rcases hq with h | h | h | h <;> simp [h]
theorem news_69 {h₀ h : Heap} {L : Addr} {a b c d e f x y z : Addr × Obj} {T : List (Addr × Obj)} (N : News h₀ L h (a :: b :: c :: d :: e :: f :: x :: y :: z :: T)) : News h₀ L h (x :: y :: z :: T) := news_sub N fun q hq => by
  simp only [List.mem_cons] at hq ⊢; rcases hq with h | h | h | h <;> simp [h]
theorem sub_wr {d i o n t : Addr × Obj} : ∀ q ∈ [o, n, t], q ∈ [d, i, o, n, t] := fun q hq => by
  simp only [List.mem_cons, List.not_mem_nil, or_false] at hq ⊢; rcases hq with h | h | h <;> simp [h]
theorem law01 : PySem.Challenge.rw_dm0232_01.Holds := hd01 (by
  k_go0
  have hMk := kstMark
  rename_i sc scv _ _ _ _ _ hI0 _ _ _ _ _ X0 T0 B0 F0 N0 l0
  rename World => w
  rename List Int => ns
  have hns : ns.length ≤ 63 := by omega
  repeat' (first | (k_unfold; (try dsimp only)) | ((fail_if_success (with_reducible show wpAny _ _ (exec (Stmt.For _ _ _ _ _) _) _ _ _)); first | (k_end; wrow_close) | walk1 | (dsimp only; walk1) | (leave1; try dsimp only)))
  refine wpAny_For ?_
  repeat' (first | (k_unfold; (try dsimp only)) | ((fail_if_success (with_reducible show wpAny _ _ (pyIter _) _ _ _)); first | (k_end; wrow_close) | walk1 | (dsimp only; walk1) | (leave1; try dsimp only)))
  rename Fr _ _ _ _ => FF
  rename News _ _ _ _ => NN
  rename IntsAre _ (List.take 40 ns) => hIs
  rename_i Dn _ hDn _ Ds ws _ _ _ hDs
  have hwl := hIs.length
  k_dflt (refine iterG_list (vs := ws) (jv := 0) (fun i mm nx => ∃ vs j, nx = [(Dn, listOf vs.toArray j), (Ds, listOf ws.toArray 0), (44, tabObj #[])] ∧ IntsAre vs (((ns.length : Int) - 300) :: ((ns.take 40).take i).map numF) ∧ mm (Str.ofString "script") = some (.ref sc) ∧ mm (Str.ofString "numbers") = some (.ref Dn)) rfl (by rintro i m nx ⟨vs, j, rfl, _⟩; exact .tail _ (.head _)) FF (news_swap NN) ⟨[_], 0, rfl, .cons _ _ .nil, rfl, rfl⟩ (by passes_own) ?turn1 ?done1)
  case turn1 =>
    rintro I i v m9 nx9 h9 tk9 oI hoT hi9 hv hne ⟨vs, j, rfl, hvs, hsc, hnu⟩ F9 N9
    simp only [List.forall_mem_cons] at hne
    obtain ⟨n1, n2, n3, -⟩ := hne
    obtain ⟨x, t, rfl, hk, hk1⟩ := ints_at hIs (by simpa using hv)
    have F10 := fr_names F9 [(Str.ofString "script", .ref sc), (Str.ofString "numbers", .ref Dn)] (by
      intro q9 hq9; simp only [List.mem_cons, List.not_mem_nil, or_false] at hq9; rcases hq9 with rfl | rfl <;> assumption)
    clear F9 FF NN hsc hnu
    have hvl := hvs.length
    rw [List.length_cons, List.length_map, List.length_take, List.length_take] at hvl
    k_steps
    · rename Fr _ _ _ _ => FF
      rename News _ _ _ _ => NN
      simp only [List.push_toArray] at NN
      exact EndY.intro FF NN ⟨_, _, rfl, by rw [hk1, List.map_append, ← List.cons_append]; exact hvs.append (by rw [List.map_cons, List.map_nil, numF_neg (by assumption)]; exact .cons _ _ .nil), rfl, rfl⟩ (fun q hq => List.mem_cons_of_mem _ hq) (.head _) (by simp only [List.forall_mem_cons]; exact ⟨n1, n2, n3, fun _ h => nomatch h⟩)
    · rename Fr _ _ _ _ => FF
      rename News _ _ _ _ => NN
      simp only [List.push_toArray] at NN
      exact EndY.intro FF NN ⟨_, _, rfl, by rw [hk1, List.map_append, ← List.cons_append]; exact hvs.append (by rw [List.map_cons, List.map_nil, numF_pos (by assumption)]; exact .cons _ _ .nil), rfl, rfl⟩ (fun q hq => List.mem_cons_of_mem _ hq) (.head _) (by simp only [List.forall_mem_cons]; exact ⟨n1, n2, n3, fun _ h => nomatch h⟩)
  case done1 =>
    rintro m9 nx9 h9 tk9 ⟨vs, j, rfl, hvs, hsc, hnu⟩ F9 N9
    have F10 := fr_names F9 [(Str.ofString "script", .ref sc), (Str.ofString "numbers", .ref Dn)] (by
      intro q9 hq9; simp only [List.mem_cons, List.not_mem_nil, or_false] at hq9; rcases hq9 with rfl | rfl <;> assumption)
    rw [hwl, List.take_length] at hvs
    clear F9 FF NN hsc hnu
    dsimp only
    repeat' (first | (k_unfold; (try dsimp only)) | ((fail_if_success (with_reducible show wpAny _ _ (exec (Stmt.For _ _ _ _ _) _) _ _ _)); first | (k_end; wrow_close) | walk1 | (dsimp only; walk1) | (leave1; try dsimp only)))
    refine wpAny_For ?_
    repeat' (first | (k_unfold; (try dsimp only)) | ((fail_if_success (with_reducible show wpAny _ _ (pyIter _) _ _ _)); first | (k_end; wrow_close) | walk1 | (dsimp only; walk1) | (leave1; try dsimp only)))
    dsimp only
    rename Fr _ _ _ _ => FF
    rename News _ _ _ _ => NN
    rename_i Do _ _ _ hDo _
    have hvs' : IntsAre vs (numsOf ns) := hvs
    have hnb := nums_bd hns
    have hnl : (numsOf ns).length ≤ 41 := by unfold numsOf; simp; omega
    have hvl := hvs'.length
    k_dflt (refine iterG_list (vs := vs) (jv := j) (fun i mm nx => ∃ os jo, nx = [(Do, listOf os.toArray jo), (Dn, listOf vs.toArray j), (44, tabObj #[])] ∧ IntsAre os (octs ((numsOf ns).take i)) ∧ mm (Str.ofString "script") = some (.ref sc) ∧ mm (Str.ofString "numbers") = some (.ref Dn) ∧ mm (Str.ofString "octets") = some (.ref Do)) rfl (by rintro i m nx ⟨os, jo, rfl, _⟩; exact .tail _ (.head _)) FF (news_13 NN) ⟨[], 0, rfl, .nil, rfl, rfl, rfl⟩ (by passes_own) ?turn2 ?done2)
    case turn2 =>
      rintro I i v m9 nx9 h9 tk9 oI hoT hi9 hv hne ⟨os, jo, rfl, hos, hsc, hnu, hoc⟩ F9 N9
      simp only [List.forall_mem_cons] at hne
      obtain ⟨n1, n2, n3, -⟩ := hne
      obtain ⟨x, t, rfl, hk, hk1⟩ := ints_at hvs' (by simpa using hv)
      have hxb := hnb x (List.mem_of_getElem? hk)
      have F10 := fr_names F9 [(Str.ofString "script", .ref sc), (Str.ofString "numbers", .ref Dn), (Str.ofString "octets", .ref Do)] (by
        intro q9 hq9; simp only [List.mem_cons, List.not_mem_nil, or_false] at hq9; rcases hq9 with rfl | rfl | rfl <;> assumption)
      clear F9 FF NN hsc hnu hoc
      have hol := hos.length
      have hob := octs_take i hnl hnb
      have hwb := wrN_len x hxb
      repeat' (first | (k_unfold; (try dsimp only)) | ((fail_if_success (with_reducible show wpAny _ _ (call (Value.builtin "list.extend") _) _ _ _)); first | (k_end; wrow_close) | walk1 | (dsimp only; walk1) | (leave1; try dsimp only)))
      rename IntsAre _ (wrN _) => hwx
      have hwxl := hwx.length
      rename Fr _ _ _ _ => FF
      rename News _ _ _ _ => NN
      rename _ < _ ∧ _ < _ ∧ _ < _ ∧ _ < _ => hltw
      refine extend_list FF NN (by lcg_src) (.tail (Nat.ne_of_gt hltw.2.1) (.tail (Ne.symm n1) (.head (by simp only [List.forall_mem_cons]; exact ⟨Nat.ne_of_lt hDo.1, Nat.ne_of_lt hDo.2.2, fun _ h => nomatch h⟩)))) (by omega) ?_
      clear FF NN
      intro h' n' F' N'
      k_steps
      rename Fr _ _ _ _ => FF
      rename News _ _ _ _ => NN
      exact EndY.intro FF NN ⟨_, _, rfl, by rw [hk1, octs_snoc]; exact hos.append hwx, rfl, rfl, rfl⟩ sub_wr (.tail _ (.head _)) (by simp only [List.forall_mem_cons]; exact ⟨n1, n2, n3, fun _ h => nomatch h⟩)
    case done2 =>
      rintro m9 nx9 h9 tk9 ⟨os, jo, rfl, hos, hsc, hnu, hoc⟩ F9 N9
      have F10 := fr_names F9 [(Str.ofString "script", .ref sc), (Str.ofString "numbers", .ref Dn), (Str.ofString "octets", .ref Do)] (by
        intro q9 hq9; simp only [List.mem_cons, List.not_mem_nil, or_false] at hq9; rcases hq9 with rfl | rfl | rfl <;> assumption)
      rw [hvl, List.take_length] at hos
      have hIn := octs_in (numsOf ns)
      have hob := octs_take 41 hnl hnb
      rw [List.take_of_length_le hnl] at hob
      have hol := hos.length
      clear F9 FF NN hsc hnu hoc
      dsimp only
      repeat' (first | (k_unfold; (try dsimp only)) | ((fail_if_success (with_reducible show wpAny _ _ (call (Value.ref 70) _) _ _ _)); first | (k_end; wrow_close) | walk1 | (dsimp only; walk1) | (leave1; try dsimp only)))
      have hBd : Bd (numsOf ns) := fun x hx => wrN_len x (hnb x hx)
      rename Fr _ _ _ _ => F6
      rename News _ _ _ _ => N6
      rename_i Dw1 _ _ _ _ Dw _ _ _ _ _ _ _ _ _ _
      k_dflt (refine run_ct w (T := [(44, tabObj #[])]) B0 F6 X0 (mid_T (pre := [_, _, _, _]) (R := []) N6 rfl) T0 ?XB ?TB codeHd .none ?off rfl ?_ ?_ ?_ ?_)
      case XB => assumption
      case TB => assumption
      case off => exact offP (ps := #[]) (T := [(44, tabObj #[])]) (pre := [_, _, _, _]) (R := []) N6 rfl (.head _) (by repeat' (first | exact noFldL_nil | refine noFldL_cons (noFld_seq rfl) ?_)) (fun _ h => nomatch h)
      · ktr_room
      · ktr_units
      · rw [byteArr_size]; omega
      intro h7 tk7 T1 tp1 li1 lw1 vs1 xs1 j1 jw1 jt1 u1 u2 u3 hT1 hlt1 hl1 hl1' hvs1 hen1 F7 N7
      have hx1 := ends_whole hBd hIn hen1
      subst hx1
      rw [byteArr_size, ← hol] at N7
      clear F6 N6
      obtain ⟨ps1, mp1⟩ := hT1.mem
      have N8 := mid_back N7 (R := []) (R' := T1) (List.append_nil _).symm
      simp only [List.cons_append, List.nil_append] at N8
      obtain ⟨lT, hlT⟩ : ∃ X, X = AllLt li1 T1 := ⟨_, rfl⟩
      clear N7
      repeat' (first | (k_unfold; (try dsimp only)) | ((fail_if_success (with_reducible show wpAny _ _ (eval (Expr.ListComp _ _ _ _) _) _ _ _)); first | (k_end; wrow_close) | walk1 | (dsimp only; walk1) | (leave1; try dsimp only)))
      rename Fr _ _ _ _ => F6
      rename News _ _ _ _ => N6
      obtain ⟨c, hc⟩ : ∃ c : Nat, ns.sum.fmod ((os.length : Int) + 1) = (c : Int) := ⟨_, (Int.toNat_of_nonneg (fmod_lo _ (by omega))).symm⟩
      have hcl : c ≤ os.length := by have := fmod_hi (n := (os.length : Int) + 1) ns.sum (by omega); omega
      rw [hc] at F6
      have N9 := news_47 N6
      clear N6
      k_dflt (refine LCt.ListComp_T (F₀ := by k_asm) (by with_unfolding_all rfl) (by decide) (by rfl) (by decide) (by rfl) ?_)
      repeat' (first | (k_unfold; (try dsimp only)) | ((fail_if_success (with_reducible show LCt.CompSrcT _ _ _ _ _ _ _ _ _ _ _ _ _ _ _)); first | (k_end; wrow_close) | walk1 | (dsimp only; walk1) | (leave1; try dsimp only)))
      rename IntsAre _ (List.take _ (octs _)) => hmk
      rw [Int.toNat_natCast] at hmk
      have hmkl := hmk.length
      have hmc : (List.take c (octs (numsOf ns))).length ≤ 205 := by rw [List.length_take]; omega
      k_dflt (refine LCt.CompSrcT.ledger (by rfl) (by k_asm) (by k_asm) (by lcg_src) ?sz ?_)
      case sz => simp only [sizeLine_eq, List.size_toArray]; omega
      intro g9
      refine restT1 (fun i ys => IntsAre ys ((List.take i (List.take c (octs (numsOf ns)))).filter (fun k => decide (k < 128)))) ?hS .nil ?fin ?turn3
      case hS => exact .inr ⟨_, by lcg_src, rfl, _, rfl⟩
      case turn3 =>
        rintro i v ys I oI C oC D m₂ h3 tk3 E' hi hv hJ hC hx F3 N3 off3 ne3
        obtain ⟨k, t, rfl, hk, hk1⟩ := ints_at hmk hv
        k_steps
        · exact CEnd1.intro F3 N3 (fun p hp => hp) (filt_yes hJ hk1 (decide_eq_true (by assumption)))
        · exact CEnd1.intro F3 N3 (fun p hp => hp) (filt_no hJ hk1 (decide_eq_false (by assumption)))
      case fin =>
        intro ys hJ
        rw [List.size_toArray, hmkl, List.take_length] at hJ
        have hyl : ys.length = few (List.take c (octs (numsOf ns))) := hJ.length
        have hyb : ys.length ≤ 205 := by rw [hyl]; exact Nat.le_trans (List.length_filter_le _ _) hmc
        clear hmk hmkl hJ
        (rename Fr _ _ _ _ => FF; clear FF)
        (rename News _ _ _ _ => NN; clear NN)
        unfold LCg.FinE
        intro Dm h4 tk4 F4 N4 o4
        clear o4
        have hInT : KBa.In (List.take ((c : Int)).toNat (octs (numsOf ns))) := in_sub hIn fun k hk => List.mem_of_mem_take hk
        have hInD : KBa.In (List.drop ((c : Int)).toNat (octs (numsOf ns))) := in_sub hIn fun k hk => List.mem_of_mem_drop hk
        repeat' (first | (k_unfold; (try dsimp only)) | ((fail_if_success (with_reducible show wpAny _ _ (call (Value.ref 70) _) _ _ _)); first | (k_end; wrow_close) | walk1 | (dsimp only; walk1) | (leave1; try dsimp only)))
        rename Fr _ _ _ _ => F6
        rename News _ _ _ _ => N5
        have N6 := news_36 N5
        clear N5
        k_dflt (refine run_ct w (T := T1) B0 F6 X0 (mid_T (pre := [_, _, _]) (R := []) (R' := T1) N6 (List.append_nil _).symm) T0 ?XB ?TB codeHd hT1 ?off rfl ?_ ?_ ?_ ?_)
        case XB => assumption
        case TB => assumption
        case off => exact offP (ps := ps1) (T := T1) (pre := [_, _, _]) (R := []) N6 (List.append_nil _).symm mp1 (by repeat' (first | exact noFldL_nil | refine noFldL_cons (noFld_seq rfl) ?_)) (fun _ h => nomatch h)
        · ktr_room
        · ktr_units
        · rw [byteArr_size, Int.toNat_natCast]; omega
        intro h7 tk7 T2 tp2 li2 lw2 vs2 xs2 j2 jw2 jt2 u4 u5 u6 hT2 hlt2 hl2 hl2' hvs2 hen2 F7 N7
        have hx2 : xs2 = List.take ((ys.length : Int)).toNat (numsOf ns) := by
          rw [Int.toNat_natCast, hyl]; rw [Int.toNat_natCast] at hen2; exact ends_take hBd hIn hen2
        subst hx2
        rw [byteArr_size, Int.toNat_natCast, List.length_take, Nat.min_eq_left (by omega)] at N7
        clear F6 N6
        obtain ⟨ps2, mp2⟩ := hT2.mem
        have N8 := mid_back N7 (R := []) (R' := T2) (List.append_nil _).symm
        simp only [List.cons_append, List.nil_append] at N8
        clear N7
        repeat' (first | (k_unfold; (try dsimp only)) | ((fail_if_success (with_reducible show wpAny _ _ (call (Value.ref 70) _) _ _ _)); first | (k_end; wrow_close) | walk1 | (dsimp only; walk1) | (leave1; try dsimp only)))
        rename Fr _ _ _ _ => F6
        rename News _ _ _ _ => N5
        have N6 := news_69 N5
        clear N5
        k_dflt (refine run_ct w (T := T2) B0 F6 X0 (mid_T (pre := [_, _, _]) (R := []) (R' := T2) N6 (List.append_nil _).symm) T0 ?XB ?TB codeHd hT2 ?off rfl ?_ ?_ ?_ ?_)
        case XB => assumption
        case TB => assumption
        case off => exact offP (ps := ps2) (T := T2) (pre := [_, _, _]) (R := []) N6 (List.append_nil _).symm mp2 (by repeat' (first | exact noFldL_nil | refine noFldL_cons (noFld_seq rfl) ?_)) (fun _ h => nomatch h)
        · ktr_room
        · ktr_units
        · rw [byteArr_size, List.length_drop]; omega
        intro h7 tk7 T3 tp3 li3 lw3 vs3 xs3 j3 jw3 jt3 u7 u8 u9 hT3 hlt3 hl3 hl3' hvs3 hen3 F7 N7
        have hx3 : xs3.length = (numsOf ns).length - ys.length ∧ List.drop (Int.toNat 1) xs3 = List.drop ((ys.length : Int) + 1).toNat (numsOf ns) ∧ ys.length ≤ (numsOf ns).length := by
          rw [show ((ys.length : Int) + 1).toNat = ys.length + 1 by omega, hyl]; rw [Int.toNat_natCast] at hen3; exact ends_drop hBd hIn hen3
        obtain ⟨hxl, hxd, hxn⟩ := hx3
        rw [show ((byteArr (List.drop ((c : Int)).toNat (octs (numsOf ns)))).size : Int) = (os.length : Int) - (c : Int) by rw [byteArr_size, Int.toNat_natCast, List.length_drop]; omega] at N7
        clear F6 N6
        obtain ⟨ps3, mp3⟩ := hT3.mem
        have N8 := mid_back N7 (R := []) (R' := T3) (List.append_nil _).symm
        simp only [List.cons_append, List.nil_append] at N8
        clear N7 hlt1 hlt2 hlt3 hen1 hen2 hen3 hT1 hT2 hT3
        have hv3 := hvs3.length
        have hv3l : (vs3.length : Int) = (vs.length : Int) - (ys.length : Int) := by omega
        k_steps)
end Mine
end
theorem PySem.Challenge.cw_dm0232_01_holds : PySem.Challenge.rw_dm0232_01.Holds :=
  Mine.law01
